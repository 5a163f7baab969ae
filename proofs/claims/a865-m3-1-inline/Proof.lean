import JvmDerived
import JvmDerived.Pilot.@@N@@Statement
import JvmDerived.Pilot.@@N@@Code
set_option linter.unusedVariables false
set_option linter.unusedSimpArgs false
namespace Jvm.RoadKit
open Sem ClassFile Op Lib Jvm.Stand Jvm.Free Jvm.LawKit
section New
variable {p : Program} {l : Launch} {e : Env} {R : Room} {s : State} {m : MethodId} {args : Array Value} {below : List Frame} {meth : Method} {c : Code} {T : State} {locs : List Loc} {cells slots : Nat}
theorem retI (X : Stand p l e R s m args below meth c T locs cells slots) (hx : p.tables.exec = Jvm.exec) {pc : Nat} {Ls : Array Slot} {z : Int32} {rest : List Value} (hret : meth.sig.returnType = some .int) (hd : decode c.code pc = .ok (.ireturn, 1)) {fs : List Frame}
    (hl : ∀ (f : JFrame) (acts : List Action), f.method = m → f.locked = none → f.entered = [] → (doReturn e (T.setTop f) acts (some (.int z))).1 = T.setFrames fs) : Steps p.tables e below (T.setTop (mkF m pc Ls (.int z :: rest))) (T.setFrames fs) := by
  have hm' : T.vm.method? m = some meth := X.method'
  have hn : narrow .int (.int z) = .int z := rfl
  show Steps p.tables e below (T.setTop { method := m, pc := pc, locals := Ls, stack := _ :: rest, locked := none }) _
  jvm_step X.here [X.here.top, hx, hd, hm', hret, hn]
  first | (intro acts; rw [hl _ acts rfl rfl rfl]) | rw [hl _ _ rfl rfl rfl]
  exact Steps.refl _
end New
end Jvm.RoadKit
/- laws to paste: Road.backV, Road.chN (cut by pick.py; bodies as the Statement names them) -/
namespace Jvm.Pilot.@@N@@
namespace StrChars
open Jvm Sem ClassFile Op Lib Jvm.Stand Jvm.Free.XT Jvm.Free.ALB Jvm.Free.JM Jvm.Free
open Jvm.Lib.Cold (StaticIs)
/-- a char array whose places are chars -/
def Ch (a : Addr) (A : Cell) (U : State) : Prop := Arr .char a A U ∧ Typed .char A
theorem Ch.mv {a : Addr} {A : Cell} {U U' : State} (h : Ch a A U) (hal : U.vm.Alike U'.vm) (hh : U'.heap = U.heap) : Ch a A U' := ⟨h.1.mv hal hh, h.2⟩
theorem Ch.keep {a : Addr} {A : Cell} {U U' : State} (h : Ch a A U) (hal : U.vm.Alike U'.vm) (hk : U'.heap[a]? = some A) : Ch a A U' := ⟨h.1.keep hal hk, h.2⟩
/-- what place i of a char[]'s cell holds -/
def cv (A : Cell) (i : Nat) : Int32 := match A.slots[i]? with | some (.int x) => x | _ => 0
theorem Ch.get {a : Addr} {A : Cell} {U : State} (h : Ch a A U) {i : Nat} (hi : i < A.slots.size) : A.slots[i]? = some (.int (cv A i)) := by
  have e := Array.getElem?_eq_getElem hi
  have f := h.2 i _ e
  unfold cv; rw [e]
  generalize A.slots[i] = v at f
  cases v <;> simp [fits] at f ⊢
/-- the byte that i2b leaves of a char -/
def lo8 (x : Int32) : Int32 := x.toInt8.toInt32
theorem fits_lo8 (y : Int32) : fits .byte (.int (lo8 y)) = true := by
  have h1 := y.toInt8.le_toInt
  have h2 := y.toInt8.toInt_lt
  simp only [lo8, fits, Bool.and_eq_true, decide_eq_true_eq, Int32.le_iff_toInt_le, Int8.toInt_toInt32, show (-128 : Int32).toInt = -128 from by decide, show (127 : Int32).toInt = 127 from by decide]
  omega
/-- A' is A but that each place j of lo .. hi - 1 holds f j -/
def Laid (A A' : Cell) (lo hi : Nat) (f : Nat → Value) : Prop := A'.cls = A.cls ∧ A'.vm = A.vm ∧ A'.slots.size = A.slots.size ∧ ∀ i, A'.slots[i]? = if lo ≤ i ∧ i < hi then some (f i) else A.slots[i]?
theorem Laid.zero (A : Cell) (lo : Nat) (f : Nat → Value) : Laid A A lo (lo + 0) f := ⟨rfl, rfl, rfl, fun i => by rw [if_neg (by omega)]⟩
theorem Laid.step {A Ak : Cell} {lo k : Nat} {f : Nat → Value} {v : Value} (h : Laid A Ak lo k f) (hlo : lo ≤ k) (hk : k < Ak.slots.size) (hv : v = f k) : Laid A (Ak.setSlot k v) lo (k + 1) f := by
  refine ⟨h.1, h.2.1, by simpa [Cell.setSlot] using h.2.2.1, fun i => ?_⟩
  by_cases e : k = i
  · subst e; rw [Cell.slots_setSlot_self v hk, if_pos (by omega), hv]
  · rw [Cell.slots_setSlot_ne v e, h.2.2.2 i]
    by_cases q : lo ≤ i ∧ i < k
    · rw [if_pos q, if_pos (by omega)]
    · rw [if_neg q, if_neg (by omega)]
def U16 : String := "java/lang/StringUTF16"
namespace Cmp5
def yN : MethodName := ⟨"java/lang/StringUTF16", "compress", "([CI[BII)I"⟩
abbrev yB : ByteArray := jdk_52_method_21_code
theorem d0 : decode yB 0 = .ok (.iconst 0, 1) := by decide +kernel
theorem d1 : decode yB 1 = .ok (.istore 5, 2) := by decide +kernel
theorem d3 : decode yB 3 = .ok (.iload 5, 2) := by decide +kernel
theorem d5 : decode yB 5 = .ok (.iload 4, 2) := by decide +kernel
theorem d7 : decode yB 7 = .ok (.if_icmp (.ge) 37, 3) := by decide +kernel
theorem d10 : decode yB 10 = .ok (.aload_n 0, 1) := by decide +kernel
theorem d11 : decode yB 11 = .ok (.iload_n 1, 1) := by decide +kernel
theorem d12 : decode yB 12 = .ok (.caload, 1) := by decide +kernel
theorem d13 : decode yB 13 = .ok (.istore 6, 2) := by decide +kernel
theorem d15 : decode yB 15 = .ok (.iload 6, 2) := by decide +kernel
theorem d17 : decode yB 17 = .ok (.sipush 255, 3) := by decide +kernel
theorem d20 : decode yB 20 = .ok (.if_icmp (.le) 6, 3) := by decide +kernel
theorem d26 : decode yB 26 = .ok (.aload_n 2, 1) := by decide +kernel
theorem d27 : decode yB 27 = .ok (.iload_n 3, 1) := by decide +kernel
theorem d28 : decode yB 28 = .ok (.iload 6, 2) := by decide +kernel
theorem d30 : decode yB 30 = .ok (.i2b, 1) := by decide +kernel
theorem d31 : decode yB 31 = .ok (.bastore, 1) := by decide +kernel
theorem d32 : decode yB 32 = .ok (.iinc 1 1, 3) := by decide +kernel
theorem d35 : decode yB 35 = .ok (.iinc 3 1, 3) := by decide +kernel
theorem d38 : decode yB 38 = .ok (.iinc 5 1, 3) := by decide +kernel
theorem d41 : decode yB 41 = .ok (.goto (-38), 3) := by decide +kernel
theorem d44 : decode yB 44 = .ok (.iload 4, 2) := by decide +kernel
theorem d46 : decode yB 46 = .ok (.ireturn, 1) := by decide +kernel
def site : List Cond := []
def tab : Cond := tabOf yN yB 7 (some .int) site
def P (b : Addr) (A : Cell) (d : Addr) (B : Cell) (o q len : Nat) (args : Array Value) (s : State) : Prop := args = #[.ref b, .int (Int32.ofNat o), .ref d, .int (Int32.ofNat q), .int (Int32.ofNat len)] ∧ Ch b A s ∧ Arr .byte d B s ∧ b ≠ d ∧ o + len ≤ A.slots.size ∧ q + len ≤ B.slots.size ∧ ∀ i, i < len → ¬ 255 < cv A (o + i)
def E (b : Addr) (A : Cell) (d : Addr) (B : Cell) (o q len : Nat) (r : Option Value) (s u : State) : Prop := r = some (.int (Int32.ofNat len)) ∧ ∃ B', Put d B' s u ∧ Laid B B' q (q + len) (fun j => Value.int (lo8 (cv A (o + (j - q)))))
/-- no char of the range above 255: len; the places written hold each char's low byte -/
theorem law (l : Launch) (b : Addr) (A : Cell) (d : Addr) (B : Cell) (o q len : Nat) : Law l yN 5 5 0 0 yB 7 (some .int) site (P b A d B o q len) (E b A d B o q len) (copyLocs d q len) 0 0 := by
  refine Law.of_walk (plainFor_of_name (by decide +kernel)) (by decide +kernel) (by decide +kernel) (by decide) (fun _ _ h => by rw [h.1]; rfl) (fun _ U U' hal hh h => ⟨h.1, h.2.1.mv hal hh, h.2.2.1.mv hal hh, h.2.2.2⟩) (fun r U U' V V' h1 hal h2 h => ⟨h.1, h.2.elim fun B' q => ⟨B', q.1.mv h1 h2, q.2⟩⟩) ?_
  intro p e s m args below meth c s₁ X0 hexec hbytes hml hret hlk hnm hown hh0 W hP
  obtain ⟨rfl, hA, hB, hne, l1, l2, hp⟩ := hP
  have c1 : Steps p.tables e below (s₁.setTop (entryFrame m #[.ref b, .int (Int32.ofNat o), .ref d, .int (Int32.ofNat q), .int (Int32.ofNat len)] 7)) (s₁.setTop (mkF m 0 #[.val (.ref b), .val (.int (Int32.ofNat o)), .val (.ref d), .val (.int (Int32.ofNat q)), .val (.int (Int32.ofNat len)), .unset, .unset] [])) := entry rfl
  have hA0 := hA.1.mv X0.warmed.alike hh0
  have hB0 := hB.mv X0.warmed.alike hh0
  have a31 := hA.1.2.2.2
  have c2 : Steps p.tables e below (s₁.setTop (entryFrame m #[.ref b, .int (Int32.ofNat o), .ref d, .int (Int32.ofNat q), .int (Int32.ofNat len)] 7)) (s₁.setTop (mkF m 3 #[.val (.ref b), .val (.int (Int32.ofNat o)), .val (.ref d), .val (.int (Int32.ofNat q)), .val (.int (Int32.ofNat len)), .val (.int 0), .unset] [])) := c1.trans (by
    refine iconstV X0.here hexec rfl 0 (hb hbytes d0) (by decide) ?_
    refine XS.istore X0.here hexec rfl (hb hbytes d1) rfl rfl ?_
    exact Steps.refl _)
  have loop : ∀ (r i : Nat), i + r = len → ∀ (z : Slot), (z = .unset ∨ ∃ w, z = .val w ∧ w.category = 1) → ∀ (Tl : State) (Bk : Cell), Stand p l e { frames := 0, locals := 0, cells := 0, slots := 0 } s m #[.ref b, .int (Int32.ofNat o), .ref d, .int (Int32.ofNat q), .int (Int32.ofNat len)] below meth c Tl ([] ++ copyLocs d q i) 0 0 → Put d Bk s₁ Tl → Laid B Bk q (q + i) (fun j => Value.int (lo8 (cv A (o + (j - q))))) →
      Steps p.tables e below (s₁.setTop (entryFrame m #[.ref b, .int (Int32.ofNat o), .ref d, .int (Int32.ofNat q), .int (Int32.ofNat len)] 7)) (Tl.setTop (mkF m 3 #[.val (.ref b), .val (.int (Int32.ofNat (o + i))), .val (.ref d), .val (.int (Int32.ofNat (q + i))), .val (.int (Int32.ofNat len)), .val (.int (Int32.ofNat i)), z] [])) → ∃ (T' : State) (B' : Cell) (z' : Slot), Stand p l e { frames := 0, locals := 0, cells := 0, slots := 0 } s m #[.ref b, .int (Int32.ofNat o), .ref d, .int (Int32.ofNat q), .int (Int32.ofNat len)] below meth c T' ([] ++ copyLocs d q len) 0 0 ∧ Put d B' s₁ T' ∧ Laid B B' q (q + len) (fun j => Value.int (lo8 (cv A (o + (j - q))))) ∧
      Steps p.tables e below (s₁.setTop (entryFrame m #[.ref b, .int (Int32.ofNat o), .ref d, .int (Int32.ofNat q), .int (Int32.ofNat len)] 7)) (T'.setTop (mkF m 3 #[.val (.ref b), .val (.int (Int32.ofNat (o + len))), .val (.ref d), .val (.int (Int32.ofNat (q + len))), .val (.int (Int32.ofNat len)), .val (.int (Int32.ofNat len)), z'] [])) := by
    intro r
    induction r with
    | zero =>
      intro i hi z hz Tl Bk Xl pl fl cl
      have hil : i = len := by omega
      rw [hil] at Xl fl cl
      exact ⟨Tl, Bk, z, Xl, pl, fl, cl⟩
    | succ r ih =>
      intro i hi z hz Tl Bk Xl pl fl cl
      have all := X0.warmed.alike.symm.trans Xl.warmed.alike
      have hAl := hA0.keep all (pl.other hne hA0.1)
      have hBk := hB0.like all pl.1 fl.1 fl.2.1 fl.2.2.1
      have hlt : q + i < Bk.slots.size := by rw [fl.2.2.1]; omega
      have c3 : Steps p.tables e below (s₁.setTop (entryFrame m #[.ref b, .int (Int32.ofNat o), .ref d, .int (Int32.ofNat q), .int (Int32.ofNat len)] 7)) (Tl.setTop (mkF m 12 #[.val (.ref b), .val (.int (Int32.ofNat (o + i))), .val (.ref d), .val (.int (Int32.ofNat (q + i))), .val (.int (Int32.ofNat len)), .val (.int (Int32.ofNat i)), z] [.int (Int32.ofNat (o + i)), .ref b])) := cl.trans (by
        refine XS.iload Xl.here hexec rfl (hb hbytes d3) rfl ?_
        refine XS.iload Xl.here hexec rfl (hb hbytes d5) rfl ?_
        refine XS.icmpNo Xl.here hexec rfl (hb hbytes d7) rfl (ii_ge_f (lt32 (by omega) (by omega))) ?_
        refine XS.aloadN Xl.here hexec rfl (hb hbytes d10) rfl rfl ?_
        refine XS.iloadN Xl.here hexec rfl (hb hbytes d11) rfl ?_
        exact Steps.refl _)
      have c4 : Steps p.tables e below (s₁.setTop (entryFrame m #[.ref b, .int (Int32.ofNat o), .ref d, .int (Int32.ofNat q), .int (Int32.ofNat len)] 7)) (Tl.setTop (mkF m 13 #[.val (.ref b), .val (.int (Int32.ofNat (o + i))), .val (.ref d), .val (.int (Int32.ofNat (q + i))), .val (.int (Int32.ofNat len)), .val (.int (Int32.ofNat i)), z] [.int (cv A (o + i))])) := c3.trans (by
        refine Xl.aget hexec hAl rfl (hA.get (i := o + i) (by omega)) rfl rfl (hb hbytes d12) ?_
        exact Steps.refl _)
      have c5 : Steps p.tables e below (s₁.setTop (entryFrame m #[.ref b, .int (Int32.ofNat o), .ref d, .int (Int32.ofNat q), .int (Int32.ofNat len)] 7)) (Tl.setTop (mkF m 15 #[.val (.ref b), .val (.int (Int32.ofNat (o + i))), .val (.ref d), .val (.int (Int32.ofNat (q + i))), .val (.int (Int32.ofNat len)), .val (.int (Int32.ofNat i)), .val (.int (cv A (o + i)))] [])) := c4.trans (by
        refine XS.istoreS Xl.here hexec rfl (hb hbytes d13) rfl rfl hz ?_
        exact Steps.refl _)
      have c6 : Steps p.tables e below (s₁.setTop (entryFrame m #[.ref b, .int (Int32.ofNat o), .ref d, .int (Int32.ofNat q), .int (Int32.ofNat len)] 7)) (Tl.setTop (mkF m 31 #[.val (.ref b), .val (.int (Int32.ofNat (o + i))), .val (.ref d), .val (.int (Int32.ofNat (q + i))), .val (.int (Int32.ofNat len)), .val (.int (Int32.ofNat i)), .val (.int (cv A (o + i)))] [.int (lo8 (cv A (o + i))), .int (Int32.ofNat (q + i)), .ref d])) := c5.trans (by
        refine XS.iload Xl.here hexec rfl (hb hbytes d15) rfl ?_
        refine sipushV Xl.here hexec rfl 255 (hb hbytes d17) (by decide) ?_
        refine XS.icmpYes Xl.here hexec rfl (pc0 := 20) rfl (hb hbytes d20) rfl (ii_le_t (hp i (by omega))) (by decide) rfl ?_
        refine XS.aloadN Xl.here hexec rfl (hb hbytes d26) rfl rfl ?_
        refine XS.iloadN Xl.here hexec rfl (hb hbytes d27) rfl ?_
        refine XS.iload Xl.here hexec rfl (hb hbytes d28) rfl ?_
        refine i2b Xl.here hexec rfl (hb hbytes d30) rfl ?_
        exact Steps.refl _)
      obtain ⟨T7, X7, p7, st7⟩ := Xl.aput hexec hBk rfl hlt rfl (fits_lo8 (cv A (o + i))) (g := (mkF m 31 #[.val (.ref b), .val (.int (Int32.ofNat (o + i))), .val (.ref d), .val (.int (Int32.ofNat (q + i))), .val (.int (Int32.ofNat len)), .val (.int (Int32.ofNat i)), .val (.int (cv A (o + i)))] [.int (lo8 (cv A (o + i))), .int (Int32.ofNat (q + i)), .ref d])) rfl (rest := []) rfl (hb hbytes d31)
      have c8 : Steps p.tables e below (s₁.setTop (entryFrame m #[.ref b, .int (Int32.ofNat o), .ref d, .int (Int32.ofNat q), .int (Int32.ofNat len)] 7)) (T7.setTop (mkF m 32 #[.val (.ref b), .val (.int (Int32.ofNat (o + i))), .val (.ref d), .val (.int (Int32.ofNat (q + i))), .val (.int (Int32.ofNat len)), .val (.int (Int32.ofNat i)), .val (.int (cv A (o + i)))] [])) := c6.trans (st7 _ (Steps.refl _))
      have c9 : Steps p.tables e below (s₁.setTop (entryFrame m #[.ref b, .int (Int32.ofNat o), .ref d, .int (Int32.ofNat q), .int (Int32.ofNat len)] 7)) (T7.setTop (mkF m 3 #[.val (.ref b), .val (.int (Int32.ofNat (o + i) + 1)), .val (.ref d), .val (.int (Int32.ofNat (q + i) + 1)), .val (.int (Int32.ofNat len)), .val (.int (Int32.ofNat i + 1)), .val (.int (cv A (o + i)))] [])) := c8.trans (by
        refine iincV X7.here hexec rfl 1 (hb hbytes d32) (by decide) rfl rfl ?_
        refine iincV X7.here hexec rfl 1 (hb hbytes d35) (by decide) rfl rfl ?_
        refine iincV X7.here hexec rfl 1 (hb hbytes d38) (by decide) rfl rfl ?_
        refine XS.goto X7.here hexec rfl (pc0 := 41) rfl (hb hbytes d41) (by decide) rfl ?_
        exact Steps.refl _)
      have c10 : Steps p.tables e below (s₁.setTop (entryFrame m #[.ref b, .int (Int32.ofNat o), .ref d, .int (Int32.ofNat q), .int (Int32.ofNat len)] 7)) (T7.setTop (mkF m 3 #[.val (.ref b), .val (.int (Int32.ofNat (o + (i + 1)))), .val (.ref d), .val (.int (Int32.ofNat (q + (i + 1)))), .val (.int (Int32.ofNat len)), .val (.int (Int32.ofNat (i + 1))), .val (.int (cv A (o + i)))] [])) := by
        have := c9
        rw [succ32, succ32, succ32] at this
        exact this
      exact ih (i + 1) (by omega) _ (Or.inr ⟨_, rfl, rfl⟩) T7 _ (by rw [copyLocs_step, ← List.append_assoc]; exact X7) (pl.trans p7) (fl.step (by omega) hlt (by simp)) c10
  obtain ⟨T9, B9, z9, X9, p9, f9, g9⟩ := loop len 0 (by omega) .unset (Or.inl rfl) s₁ B (by simpa [copyLocs] using X0) ⟨hB0.1, fun _ _ => rfl, rfl⟩ (Laid.zero _ _ _) c2
  have c11 : Steps p.tables e below (s₁.setTop (entryFrame m #[.ref b, .int (Int32.ofNat o), .ref d, .int (Int32.ofNat q), .int (Int32.ofNat len)] 7)) (T9.setTop (mkF m 46 #[.val (.ref b), .val (.int (Int32.ofNat (o + len))), .val (.ref d), .val (.int (Int32.ofNat (q + len))), .val (.int (Int32.ofNat len)), .val (.int (Int32.ofNat len)), z9] [.int (Int32.ofNat len)])) := g9.trans (by
    refine XS.iload X9.here hexec rfl (hb hbytes d3) rfl ?_
    refine XS.iload X9.here hexec rfl (hb hbytes d5) rfl ?_
    refine XS.icmpYes X9.here hexec rfl (pc0 := 7) rfl (hb hbytes d7) rfl (ii_ge_t (nlt32 (by omega) (Nat.le_refl _))) (by decide) rfl ?_
    refine XS.iload X9.here hexec rfl (hb hbytes d44) rfl ?_
    exact Steps.refl _)
  exact ⟨T9, some (.int (Int32.ofNat len)), _, _, _, X9, by simp, rfl, rfl, (fun h => by cases h), ⟨rfl, B9, p9.from hh0, f9⟩, fun fs hl => c11.trans (X9.ireturnOut hexec hret rfl (Or.inl rfl) (hb hbytes d46) hl)⟩
end Cmp5
namespace Cmp3
def yN : MethodName := ⟨"java/lang/StringUTF16", "compress", "([CII)[B"⟩
abbrev yB : ByteArray := jdk_52_method_16_code
theorem d0 : decode yB 0 = .ok (.iload_n 2, 1) := by decide +kernel
theorem d1 : decode yB 1 = .ok (.newarray .byte, 2) := by decide +kernel
theorem d3 : decode yB 3 = .ok (.astore_n 3, 1) := by decide +kernel
theorem d4 : decode yB 4 = .ok (.aload_n 0, 1) := by decide +kernel
theorem d5 : decode yB 5 = .ok (.iload_n 1, 1) := by decide +kernel
theorem d6 : decode yB 6 = .ok (.aload_n 3, 1) := by decide +kernel
theorem d7 : decode yB 7 = .ok (.iconst 0, 1) := by decide +kernel
theorem d8 : decode yB 8 = .ok (.iload_n 2, 1) := by decide +kernel
theorem d9 : decode yB 9 = .ok (.invokestatic 115, 3) := by decide +kernel
theorem d12 : decode yB 12 = .ok (.istore 4, 2) := by decide +kernel
theorem d14 : decode yB 14 = .ok (.iload 4, 2) := by decide +kernel
theorem d16 : decode yB 16 = .ok (.iload_n 2, 1) := by decide +kernel
theorem d17 : decode yB 17 = .ok (.if_icmp (.eq) 40, 3) := by decide +kernel
theorem d57 : decode yB 57 = .ok (.aload_n 3, 1) := by decide +kernel
theorem d58 : decode yB 58 = .ok (.areturn, 1) := by decide +kernel
def site : List Cond := [.arrayClass .byte, Cmp5.tab] ++ staticW U16 115 Cmp5.yN
def tab : Cond := tabOf yN yB 6 (some (.array .byte)) site
def P (b : Addr) (A : Cell) (o len : Nat) (args : Array Value) (s : State) : Prop := args = #[.ref b, .int (Int32.ofNat o), .int (Int32.ofNat len)] ∧ Ch b A s ∧ o + len ≤ A.slots.size ∧ len ≤ 536870912 ∧ ∀ i, i < len → ¬ 255 < cv A (o + i)
def E (b : Addr) (A : Cell) (o len : Nat) (r : Option Value) (s u : State) : Prop := NewArr .byte "[B" len (fun j => .int (lo8 (cv A (o + j)))) r s u ∧ u.heap.size = s.heap.size + 1
/-- no char of the range above 255: a new byte[] of their low bytes -/
theorem law (l : Launch) (b : Addr) (A : Cell) (o len : Nat) : Law l yN 3 3 1 18 yB 6 (some (.array .byte)) site (P b A o len) (E b A o len) [] 1 len := by
  refine Law.of_walk (plainFor_of_name (by decide +kernel)) (by decide +kernel) (by decide +kernel) (by decide) (fun _ _ h => by rw [h.1]; rfl) (fun _ U U' hal hh h => ⟨h.1, h.2.1.mv hal hh, h.2.2⟩) (fun r U U' V V' h1 hal h2 h => ⟨NewArr.mv r U U' V V' h1 hal h2 h.1, by rw [h1, h2]; exact h.2⟩) ?_
  intro p e s m args below meth c s₁ X0 hexec hbytes hml hret hlk hnm hown hh0 W hP
  obtain ⟨rfl, hA, l1, l2, hp⟩ := hP
  have a31 := hA.1.2.2.2
  have c1 : Steps p.tables e below (s₁.setTop (entryFrame m #[.ref b, .int (Int32.ofNat o), .int (Int32.ofNat len)] 6)) (s₁.setTop (mkF m 0 #[.val (.ref b), .val (.int (Int32.ofNat o)), .val (.int (Int32.ofNat len)), .unset, .unset, .unset] [])) := entry rfl
  have c2 : Steps p.tables e below (s₁.setTop (entryFrame m #[.ref b, .int (Int32.ofNat o), .int (Int32.ofNat len)] 6)) (s₁.setTop (mkF m 1 #[.val (.ref b), .val (.int (Int32.ofNat o)), .val (.int (Int32.ofNat len)), .unset, .unset, .unset] [.int (Int32.ofNat len)])) := c1.trans (by
    refine XS.iloadN X0.here hexec rfl (hb hbytes d0) rfl ?_
    exact Steps.refl _)
  obtain ⟨T3, B3, X3, ba3, bs3, bv3, bh3, bf3, st3⟩ := X0.anew hexec (atype := .byte) (wk W (.arrayClass .byte)) rfl (by show len * 1 ≤ _; omega) (by omega) (g := (mkF m 1 #[.val (.ref b), .val (.int (Int32.ofNat o)), .val (.int (Int32.ofNat len)), .unset, .unset, .unset] [.int (Int32.ofNat len)])) rfl (hb hbytes d1) (rest := []) rfl (Nat.le_refl _) (by show 0 + len ≤ len; omega)
  rw [hh0] at ba3 st3
  have kp3 : XT.Kept s T3 := (XT.Kept.of_eq hh0).push bh3
  have hA3 := hA.keep X3.warmed.alike (kp3 _ _ hA.1.1)
  have hne : b ≠ s.heap.size := hA.1.ne
  have c4 : Steps p.tables e below (s₁.setTop (entryFrame m #[.ref b, .int (Int32.ofNat o), .int (Int32.ofNat len)] 6)) (T3.setTop (mkF m 3 #[.val (.ref b), .val (.int (Int32.ofNat o)), .val (.int (Int32.ofNat len)), .unset, .unset, .unset] [.ref s.heap.size])) := c2.trans (st3 _ (Steps.refl _))
  have c5 : Steps p.tables e below (s₁.setTop (entryFrame m #[.ref b, .int (Int32.ofNat o), .int (Int32.ofNat len)] 6)) (T3.setTop (mkF m 9 #[.val (.ref b), .val (.int (Int32.ofNat o)), .val (.int (Int32.ofNat len)), .val (.ref s.heap.size), .unset, .unset] [.int (Int32.ofNat len), .int 0, .ref s.heap.size, .int (Int32.ofNat o), .ref b])) := c4.trans (by
    refine XS.astoreN X3.here hexec rfl (hb hbytes d3) rfl rfl rfl ?_
    refine XS.aloadN X3.here hexec rfl (hb hbytes d4) rfl rfl ?_
    refine XS.iloadN X3.here hexec rfl (hb hbytes d5) rfl ?_
    refine XS.aloadN X3.here hexec rfl (hb hbytes d6) rfl rfl ?_
    refine iconstV X3.here hexec rfl 0 (hb hbytes d7) (by decide) ?_
    refine XS.iloadN X3.here hexec rfl (hb hbytes d8) rfl ?_
    exact Steps.refl _)
  obtain ⟨v6, T6, X6, E6, g6⟩ := X3.callS hexec (Cmp5.law l b A s.heap.size B3 o 0 len) hown (wks W (staticW U16 115 Cmp5.yN)) (wk W Cmp5.tab) (W := 0) (Nat.le_of_ble_eq_true rfl) (Nat.le_of_ble_eq_true rfl) (Nat.le_refl _) (by show 0 + len + 0 ≤ len; omega) (g := (mkF m 9 #[.val (.ref b), .val (.int (Int32.ofNat o)), .val (.int (Int32.ofNat len)), .val (.ref s.heap.size), .unset, .unset] [.int (Int32.ofNat len), .int (Int32.ofNat 0), .ref s.heap.size, .int (Int32.ofNat o), .ref b])) rfl (by rw [hml]; rfl) c5 (argsL := [.ref b, .int (Int32.ofNat o), .ref s.heap.size, .int (Int32.ofNat 0), .int (Int32.ofNat len)]) (rest := []) rfl rfl (by show 2 * 0 + 0 ≤ _; decide) (hb hbytes d9) (⟨rfl, hA3, ba3, hne, l1, by rw [bs3]; simp, hp⟩)
  obtain ⟨rfl, B6, p6, f6⟩ := E6
  have c7 : Steps p.tables e below (s₁.setTop (entryFrame m #[.ref b, .int (Int32.ofNat o), .int (Int32.ofNat len)] 6)) (T6.setTop (mkF m 12 #[.val (.ref b), .val (.int (Int32.ofNat o)), .val (.int (Int32.ofNat len)), .val (.ref s.heap.size), .unset, .unset] [.int (Int32.ofNat len)])) := g6
  have c8 : Steps p.tables e below (s₁.setTop (entryFrame m #[.ref b, .int (Int32.ofNat o), .int (Int32.ofNat len)] 6)) (T6.setTop (mkF m 58 #[.val (.ref b), .val (.int (Int32.ofNat o)), .val (.int (Int32.ofNat len)), .val (.ref s.heap.size), .val (.int (Int32.ofNat len)), .unset] [.ref s.heap.size])) := c7.trans (by
    refine XS.istore X6.here hexec rfl (hb hbytes d12) rfl rfl ?_
    refine XS.iload X6.here hexec rfl (hb hbytes d14) rfl ?_
    refine XS.iloadN X6.here hexec rfl (hb hbytes d16) rfl ?_
    refine XS.icmpYes X6.here hexec rfl (pc0 := 17) rfl (hb hbytes d17) rfl (ii_eq_t rfl) (by decide) rfl ?_
    refine XS.aloadN X6.here hexec rfl (hb hbytes d57) rfl rfl ?_
    exact Steps.refl _)
  have X8 := X6.wide (L' := []) (cells' := 1) (slots' := len) (fun x hx hlt => by
    simp only [List.nil_append, copyLocs, List.mem_map, List.mem_range] at hx
    obtain ⟨i, -, rfl⟩ := hx
    exact absurd hlt (Nat.lt_irrefl _)) (Nat.le_refl _) (by omega)
  exact ⟨T6, some (.ref s.heap.size), _, _, _, X8, rfl, rfl, rfl, (fun h => by cases h), ⟨⟨rfl, B6, ba3.like (X3.warmed.alike.symm.trans X6.warmed.alike) p6.1 f6.1 f6.2.1 f6.2.2.1, f6.2.1.trans bv3, by rw [X6.warmed.alike.findClass, f6.1]; exact bf3, by rw [f6.2.2.1, bs3]; simp, fun j hj => by rw [f6.2.2.2 j, if_pos (by omega)]; rfl, kp3.put p6 (Nat.le_refl _)⟩, by rw [p6.2.2, bh3, hh0]; simp⟩, fun fs hl => c8.trans (X8.areturnOut hexec rfl hret rfl (hb hbytes d58) hl)⟩
end Cmp3
namespace CodL
def yN : MethodName := ⟨"java/lang/StringUTF16", "coderFromArrayLen", "([BI)B"⟩
abbrev yB : ByteArray := jdk_52_method_15_code
theorem d0 : decode yB 0 = .ok (.iload_n 1, 1) := by decide +kernel
theorem d1 : decode yB 1 = .ok (.aload_n 0, 1) := by decide +kernel
theorem d2 : decode yB 2 = .ok (.arraylength, 1) := by decide +kernel
theorem d3 : decode yB 3 = .ok (.isub, 1) := by decide +kernel
theorem d4 : decode yB 4 = .ok (.bipush 31, 2) := by decide +kernel
theorem d6 : decode yB 6 = .ok (.iushr, 1) := by decide +kernel
theorem d7 : decode yB 7 = .ok (.i2b, 1) := by decide +kernel
theorem d8 : decode yB 8 = .ok (.ireturn, 1) := by decide +kernel
def site : List Cond := []
def tab : Cond := tabOf yN yB 2 (some .byte) site
def P (d : Addr) (B : Cell) (args : Array Value) (s : State) : Prop := args = #[.ref d, .int (Int32.ofNat B.slots.size)] ∧ Arr .byte d B s
def E (r : Option Value) (s u : State) : Prop := XT.PureE (some (.int 0)) r s u
/-- an array as long as the number of chars: LATIN1 -/
theorem law (l : Launch) (d : Addr) (B : Cell) : Law l yN 2 2 0 0 yB 2 (some .byte) site (P d B) E [] 0 0 := by
  refine Law.of_walk (plainFor_of_name (by decide +kernel)) (by decide +kernel) (by decide +kernel) (by decide) (fun _ _ h => by rw [h.1]; rfl) (fun _ U U' hal hh h => ⟨h.1, h.2.mv hal hh⟩) (fun r U U' V V' h1 hal h2 h => XT.PureE.mv r U U' V V' h1 hal h2 h) ?_
  intro p e s m args below meth c s₁ X0 hexec hbytes hml hret hlk hnm hown hh0 W hP
  obtain ⟨rfl, hB⟩ := hP
  have hB0 := hB.mv X0.warmed.alike hh0
  have c1 : Steps p.tables e below (s₁.setTop (entryFrame m #[.ref d, .int (Int32.ofNat B.slots.size)] 2)) (s₁.setTop (mkF m 0 #[.val (.ref d), .val (.int (Int32.ofNat B.slots.size))] [])) := entry rfl
  have c2 : Steps p.tables e below (s₁.setTop (entryFrame m #[.ref d, .int (Int32.ofNat B.slots.size)] 2)) (s₁.setTop (mkF m 2 #[.val (.ref d), .val (.int (Int32.ofNat B.slots.size))] [.ref d, .int (Int32.ofNat B.slots.size)])) := c1.trans (by
    refine XS.iloadN X0.here hexec rfl (hb hbytes d0) rfl ?_
    refine XS.aloadN X0.here hexec rfl (hb hbytes d1) rfl rfl ?_
    exact Steps.refl _)
  have c3 : Steps p.tables e below (s₁.setTop (entryFrame m #[.ref d, .int (Int32.ofNat B.slots.size)] 2)) (s₁.setTop (mkF m 8 #[.val (.ref d), .val (.int (Int32.ofNat B.slots.size))] [.int (lo8 (ushr (Int32.ofNat B.slots.size - Int32.ofNat B.slots.size) 31))])) := c2.trans (by
    refine X0.alen hexec hB0 rfl rfl (hb hbytes d2) ?_
    refine XS.isub X0.here hexec rfl (hb hbytes d3) rfl ?_
    refine bipushV X0.here hexec rfl 31 (hb hbytes d4) (by decide) ?_
    refine iushr X0.here hexec rfl (hb hbytes d6) rfl ?_
    refine i2b X0.here hexec rfl (hb hbytes d7) rfl ?_
    exact Steps.refl _)
  have e0 : lo8 (ushr (Int32.ofNat B.slots.size - Int32.ofNat B.slots.size) 31) = 0 := by rw [Int32.sub_self]; decide
  rw [e0] at c3
  exact ⟨s₁, some (.int 0), _, _, _, X0, rfl, rfl, rfl, (fun h => by cases h), ⟨rfl, hh0⟩, fun fs hl => c3.trans (X0.ireturnOut hexec hret rfl (Or.inr (Or.inr (Or.inl rfl))) (hb hbytes d8) hl)⟩
end CodL
/-- the String at a is Latin-1 over a new byte[] (the heap's one new cell): the low bytes of the len chars of A from o on; every cell but a is kept -/
def Got (a : Addr) (D : Cell) (fV fC : Field) (A : Cell) (o len : Nat) (r : Option Value) (s u : State) : Prop := r = none ∧ ∃ D' V : Cell, Blank "java/lang/String" a D' u ∧ Same D D' [fV.slot, fC.slot] ∧ D'.slots[fV.slot]? = some (.ref s.heap.size) ∧ D'.slots[fC.slot]? = some (.int 0) ∧ Arr .byte s.heap.size V u ∧ V.vm = .none ∧ u.vm.findClass "[B" = some V.cls ∧ V.slots.size = len ∧ (∀ j, j < len → V.slots[j]? = some (.int (lo8 (cv A (o + j))))) ∧ (∀ (y : Addr) (c : Cell), y ≠ a → s.heap[y]? = some c → u.heap[y]? = some c) ∧ u.heap.size = s.heap.size + 1
theorem Got.mv {a : Addr} {D A : Cell} {fV fC : Field} {o len : Nat} : ∀ r (U U' V V' : State), U'.heap = U.heap → V.vm.Alike V'.vm → V'.heap = V.heap → Got a D fV fC A o len r U V → Got a D fV fC A o len r U' V' :=
  fun r U U' V V' h1 hal h2 ⟨e0, D', X, a1, a2, a3, a4, a5, a6, a7, a8, a9, a10, a11⟩ => ⟨e0, D', X, a1.mv hal h2, a2, by rw [h1]; exact a3, a4, by rw [h1]; exact a5.mv hal h2, a6, by rw [hal.findClass]; exact a7, a8, a9, by rw [h1, h2]; exact a10, by rw [h1, h2]; exact a11⟩
namespace New4
def yN : MethodName := ⟨"java/lang/String", "<init>", "([CIILjava/lang/Void;)V"⟩
abbrev yB : ByteArray := jdk_42_method_149_code
theorem d0 : decode yB 0 = .ok (.aload_n 0, 1) := by decide +kernel
theorem d1 : decode yB 1 = .ok (.invokespecial 1, 3) := by decide +kernel
theorem d4 : decode yB 4 = .ok (.iload_n 3, 1) := by decide +kernel
theorem d5 : decode yB 5 = .ok (.ifCond (.ne) 22, 3) := by decide +kernel
theorem d27 : decode yB 27 = .ok (.getstatic 38, 3) := by decide +kernel
theorem d30 : decode yB 30 = .ok (.ifCond (.eq) 28, 3) := by decide +kernel
theorem d33 : decode yB 33 = .ok (.aload_n 1, 1) := by decide +kernel
theorem d34 : decode yB 34 = .ok (.iload_n 2, 1) := by decide +kernel
theorem d35 : decode yB 35 = .ok (.iload_n 3, 1) := by decide +kernel
theorem d36 : decode yB 36 = .ok (.invokestatic 177, 3) := by decide +kernel
theorem d39 : decode yB 39 = .ok (.astore 5, 2) := by decide +kernel
theorem d41 : decode yB 41 = .ok (.aload_n 0, 1) := by decide +kernel
theorem d42 : decode yB 42 = .ok (.aload 5, 2) := by decide +kernel
theorem d44 : decode yB 44 = .ok (.iload_n 3, 1) := by decide +kernel
theorem d45 : decode yB 45 = .ok (.invokestatic 47, 3) := by decide +kernel
theorem d48 : decode yB 48 = .ok (.putfield 15, 3) := by decide +kernel
theorem d51 : decode yB 51 = .ok (.aload_n 0, 1) := by decide +kernel
theorem d52 : decode yB 52 = .ok (.aload 5, 2) := by decide +kernel
theorem d54 : decode yB 54 = .ok (.putfield 9, 3) := by decide +kernel
theorem d57 : decode yB 57 = .ok (.return_, 1) := by decide +kernel
def site : List Cond := [.fieldLink "java/lang/String" 38 "java/lang/String" "COMPACT_STRINGS" "Z", Cmp3.tab, CodL.tab, .laysFinal "java/lang/String" "java/lang/String" "value" "[B", .fieldLink "java/lang/String" 9 "java/lang/String" "value" "[B", .laysFinal "java/lang/String" "java/lang/String" "coder" "B", .fieldLink "java/lang/String" 15 "java/lang/String" "coder" "B"] ++ objW "java/lang/String" 1 ++ staticW "java/lang/String" 177 Cmp3.yN ++ staticW "java/lang/String" 47 CodL.yN
def tab : Cond := tabOf yN yB 6 none site
def P (a : Addr) (D : Cell) (fV fC : Field) (b : Addr) (A : Cell) (z : Int32) (o len : Nat) (args : Array Value) (s : State) : Prop := args = #[.ref a, .ref b, .int (Int32.ofNat o), .int (Int32.ofNat len), .null] ∧ Blank "java/lang/String" a D s ∧ Found "java/lang/String" "value" "[B" fV s ∧ Found "java/lang/String" "coder" "B" fC s ∧ Ch b A s ∧ StaticIs s "java/lang/String" "COMPACT_STRINGS" "Z" (.int z) ∧ ¬ z = 0 ∧ 0 < len ∧ o + len ≤ A.slots.size ∧ len ≤ 536870912 ∧ ∀ i, i < len → ¬ 255 < cv A (o + i)
def E (a : Addr) (D : Cell) (fV fC : Field) (A : Cell) (o len : Nat) (r : Option Value) (s u : State) : Prop := Got a D fV fC A o len r s u
/-- len > 0, no char of the range above 255: a Latin-1 String of their low bytes -/
theorem law (l : Launch) (a : Addr) (D : Cell) (fV fC : Field) (b : Addr) (A : Cell) (z : Int32) (o len : Nat) : Law l yN 5 4 2 35 yB 6 none site (P a D fV fC b A z o len) (E a D fV fC A o len) [⟨a, fC.slot⟩, ⟨a, fV.slot⟩] 1 len := by
  refine Law.of_walk (plainFor_of_name (by decide +kernel)) (by decide +kernel) (by decide +kernel) (by decide) (fun _ _ h => by rw [h.1]; rfl) (fun _ U U' hal hh h => ⟨h.1, h.2.1.mv hal hh, h.2.2.1.al hal, h.2.2.2.1.al hal, h.2.2.2.2.1.mv hal hh, h.2.2.2.2.2.1.there hal hh, h.2.2.2.2.2.2⟩) (fun r U U' V V' h1 hal h2 h => Got.mv r U U' V V' h1 hal h2 h) ?_
  intro p e s m args below meth c s₁ X0 hexec hbytes hml hret hlk hnm hown hh0 W hP
  obtain ⟨rfl, hB, f1, f2, hA, s1, hz, l0, l1, l2, hp⟩ := hP
  have a31 := hA.1.2.2.2
  have c1 : Steps p.tables e below (s₁.setTop (entryFrame m #[.ref a, .ref b, .int (Int32.ofNat o), .int (Int32.ofNat len), .null] 6)) (s₁.setTop (mkF m 0 #[.val (.ref a), .val (.ref b), .val (.int (Int32.ofNat o)), .val (.int (Int32.ofNat len)), .val .null, .unset] [])) := entry rfl
  have c2 : Steps p.tables e below (s₁.setTop (entryFrame m #[.ref a, .ref b, .int (Int32.ofNat o), .int (Int32.ofNat len), .null] 6)) (s₁.setTop (mkF m 1 #[.val (.ref a), .val (.ref b), .val (.int (Int32.ofNat o)), .val (.int (Int32.ofNat len)), .val .null, .unset] [.ref a])) := c1.trans (by
    refine XS.aloadN X0.here hexec rfl (hb hbytes d0) rfl rfl ?_
    exact Steps.refl _)
  obtain ⟨T3, X3, q3, st3⟩ := X0.oinit hexec hown (wks W (objW "java/lang/String" 1)) (g := (mkF m 1 #[.val (.ref a), .val (.ref b), .val (.int (Int32.ofNat o)), .val (.int (Int32.ofNat len)), .val .null, .unset] [.ref a])) rfl (by rw [hml]; rfl) (rest := []) rfl (hb hbytes d1) (W := 0) (by show 2 * 0 + 0 ≤ _; decide) (Nat.le_of_ble_eq_true rfl) (Nat.le_of_ble_eq_true rfl)
  have hh3 := q3.trans hh0
  have c4 : Steps p.tables e below (s₁.setTop (entryFrame m #[.ref a, .ref b, .int (Int32.ofNat o), .int (Int32.ofNat len), .null] 6)) (T3.setTop (mkF m 27 #[.val (.ref a), .val (.ref b), .val (.int (Int32.ofNat o)), .val (.int (Int32.ofNat len)), .val .null, .unset] [])) := (c2.trans (st3 _ (Steps.refl _))).trans (by
    refine XS.iloadN X3.here hexec rfl (hb hbytes d4) rfl ?_
    refine XS.ifYes X3.here hexec rfl (pc0 := 5) rfl (hb hbytes d5) rfl (i0_ne_t (nz32 (by omega) l0)) (by decide) rfl ?_
    exact Steps.refl _)
  obtain ⟨T5, X5, q5, st5⟩ := X3.sget hexec hown (wk W (.fieldLink "java/lang/String" 38 "java/lang/String" "COMPACT_STRINGS" "Z")) s1 (fun _ _ h => by rw [hh3]; exact h) (g := (mkF m 27 #[.val (.ref a), .val (.ref b), .val (.int (Int32.ofNat o)), .val (.int (Int32.ofNat len)), .val .null, .unset] [])) rfl (hb hbytes d27)
  have hh5 := q5.trans hh3
  have c6 : Steps p.tables e below (s₁.setTop (entryFrame m #[.ref a, .ref b, .int (Int32.ofNat o), .int (Int32.ofNat len), .null] 6)) (T5.setTop (mkF m 30 #[.val (.ref a), .val (.ref b), .val (.int (Int32.ofNat o)), .val (.int (Int32.ofNat len)), .val .null, .unset] [.int z])) := c4.trans (st5 _ (Steps.refl _))
  have c7 : Steps p.tables e below (s₁.setTop (entryFrame m #[.ref a, .ref b, .int (Int32.ofNat o), .int (Int32.ofNat len), .null] 6)) (T5.setTop (mkF m 36 #[.val (.ref a), .val (.ref b), .val (.int (Int32.ofNat o)), .val (.int (Int32.ofNat len)), .val .null, .unset] [.int (Int32.ofNat len), .int (Int32.ofNat o), .ref b])) := c6.trans (by
    refine XS.ifNo X5.here hexec rfl (hb hbytes d30) rfl (i0_eq_f hz) ?_
    refine XS.aloadN X5.here hexec rfl (hb hbytes d33) rfl rfl ?_
    refine XS.iloadN X5.here hexec rfl (hb hbytes d34) rfl ?_
    refine XS.iloadN X5.here hexec rfl (hb hbytes d35) rfl ?_
    exact Steps.refl _)
  obtain ⟨v8, T8, X8, E8, g8⟩ := X5.callS hexec (Cmp3.law l b A o len) hown (wks W (staticW "java/lang/String" 177 Cmp3.yN)) (wk W Cmp3.tab) (W := 0) (Nat.le_of_ble_eq_true rfl) (Nat.le_of_ble_eq_true rfl) (Nat.le_refl _) (by show 0 + len ≤ len; omega) (g := (mkF m 36 #[.val (.ref a), .val (.ref b), .val (.int (Int32.ofNat o)), .val (.int (Int32.ofNat len)), .val .null, .unset] [.int (Int32.ofNat len), .int (Int32.ofNat o), .ref b])) rfl (by rw [hml]; rfl) c7 (argsL := [.ref b, .int (Int32.ofNat o), .int (Int32.ofNat len)]) (rest := []) rfl rfl (by show 2 * 0 + 0 ≤ _; decide) (hb hbytes d36) (⟨rfl, hA.mv X5.warmed.alike hh5, l1, l2, hp⟩)
  obtain ⟨e8, z8⟩ := E8
  obtain ⟨rfl, N, n1, n2, n3, n4, n5, n6⟩ := NewArr.mv _ T5 s _ _ hh5.symm (Vm.Alike.refl _) rfl e8
  rw [hh5] at z8
  have hB1 := hB.keep X8.warmed.alike (n6 _ _ hB.1)
  have hne : s.heap.size ≠ a := (Nat.ne_of_lt (Array.getElem?_eq_some_iff.mp hB.1).1).symm
  have c9 : Steps p.tables e below (s₁.setTop (entryFrame m #[.ref a, .ref b, .int (Int32.ofNat o), .int (Int32.ofNat len), .null] 6)) (T8.setTop (mkF m 39 #[.val (.ref a), .val (.ref b), .val (.int (Int32.ofNat o)), .val (.int (Int32.ofNat len)), .val .null, .unset] [.ref s.heap.size])) := g8
  have c10 : Steps p.tables e below (s₁.setTop (entryFrame m #[.ref a, .ref b, .int (Int32.ofNat o), .int (Int32.ofNat len), .null] 6)) (T8.setTop (mkF m 45 #[.val (.ref a), .val (.ref b), .val (.int (Int32.ofNat o)), .val (.int (Int32.ofNat len)), .val .null, .val (.ref s.heap.size)] [.int (Int32.ofNat N.slots.size), .ref s.heap.size, .ref a])) := by
    have hc : Steps p.tables e below (s₁.setTop (entryFrame m #[.ref a, .ref b, .int (Int32.ofNat o), .int (Int32.ofNat len), .null] 6)) (T8.setTop (mkF m 45 #[.val (.ref a), .val (.ref b), .val (.int (Int32.ofNat o)), .val (.int (Int32.ofNat len)), .val .null, .val (.ref s.heap.size)] [.int (Int32.ofNat len), .ref s.heap.size, .ref a])) := c9.trans (by
      refine XS.astore X8.here hexec rfl (hb hbytes d39) rfl rfl rfl ?_
      refine XS.aloadN X8.here hexec rfl (hb hbytes d41) rfl rfl ?_
      refine XS.aload X8.here hexec rfl (hb hbytes d42) rfl rfl ?_
      refine XS.iloadN X8.here hexec rfl (hb hbytes d44) rfl ?_
      exact Steps.refl _)
    rw [n4]; exact hc
  obtain ⟨v11, T11, X11, E11, g11⟩ := X8.callS hexec (CodL.law l s.heap.size N) hown (wks W (staticW "java/lang/String" 47 CodL.yN)) (wk W CodL.tab) (W := 1) (Nat.le_of_ble_eq_true rfl) (Nat.le_of_ble_eq_true rfl) (Nat.le_refl _) (by show 0 + len + 0 ≤ len; omega) (g := (mkF m 45 #[.val (.ref a), .val (.ref b), .val (.int (Int32.ofNat o)), .val (.int (Int32.ofNat len)), .val .null, .val (.ref s.heap.size)] [.int (Int32.ofNat N.slots.size), .ref s.heap.size, .ref a])) rfl (by rw [hml]; rfl) c10 (argsL := [.ref s.heap.size, .int (Int32.ofNat N.slots.size)]) (rest := [.ref a]) rfl rfl (by show 2 * 0 + (1 + 0) ≤ _; decide) (hb hbytes d45) (⟨rfl, n1⟩)
  obtain ⟨rfl, q11⟩ := E11
  have hB11 := hB1.mv (X8.warmed.alike.symm.trans X11.warmed.alike) q11
  have c12 : Steps p.tables e below (s₁.setTop (entryFrame m #[.ref a, .ref b, .int (Int32.ofNat o), .int (Int32.ofNat len), .null] 6)) (T11.setTop (mkF m 48 #[.val (.ref a), .val (.ref b), .val (.int (Int32.ofNat o)), .val (.int (Int32.ofNat len)), .val .null, .val (.ref s.heap.size)] [.int 0, .ref a])) := g11
  obtain ⟨T13, X13, p13, bl13, sl13, st13⟩ := X11.finit hexec hown (wk W (.fieldLink "java/lang/String" 15 "java/lang/String" "coder" "B")) (Or.inr ⟨_, (wk W (.laysFinal "java/lang/String" "java/lang/String" "coder" "B"))⟩) (Or.inl ⟨rfl, hnm⟩) f2 (Or.inl rfl) hB11 (t := .byte) (by decide +kernel) rfl (g := (mkF m 48 #[.val (.ref a), .val (.ref b), .val (.int (Int32.ofNat o)), .val (.int (Int32.ofNat len)), .val .null, .val (.ref s.heap.size)] [.int 0, .ref a])) rfl (rest := []) rfl (hb hbytes d48)
  have c14 : Steps p.tables e below (s₁.setTop (entryFrame m #[.ref a, .ref b, .int (Int32.ofNat o), .int (Int32.ofNat len), .null] 6)) (T13.setTop (mkF m 54 #[.val (.ref a), .val (.ref b), .val (.int (Int32.ofNat o)), .val (.int (Int32.ofNat len)), .val .null, .val (.ref s.heap.size)] [.ref s.heap.size, .ref a])) := (c12.trans (st13 _ (Steps.refl _))).trans (by
    refine XS.aloadN X13.here hexec rfl (hb hbytes d51) rfl rfl ?_
    refine XS.aload X13.here hexec rfl (hb hbytes d52) rfl rfl ?_
    exact Steps.refl _)
  obtain ⟨T15, X15, p15, bl15, sl15, st15⟩ := X13.finit hexec hown (wk W (.fieldLink "java/lang/String" 9 "java/lang/String" "value" "[B")) (Or.inr ⟨_, (wk W (.laysFinal "java/lang/String" "java/lang/String" "value" "[B"))⟩) (Or.inl ⟨rfl, hnm⟩) f1 (Or.inl rfl) bl13 (t := (.array .byte)) (by decide +kernel) rfl (g := (mkF m 54 #[.val (.ref a), .val (.ref b), .val (.int (Int32.ofNat o)), .val (.int (Int32.ofNat len)), .val .null, .val (.ref s.heap.size)] [.ref s.heap.size, .ref a])) rfl (rest := []) rfl (hb hbytes d54)
  have c16 : Steps p.tables e below (s₁.setTop (entryFrame m #[.ref a, .ref b, .int (Int32.ofNat o), .int (Int32.ofNat len), .null] 6)) (T15.setTop (mkF m 57 #[.val (.ref a), .val (.ref b), .val (.int (Int32.ofNat o)), .val (.int (Int32.ofNat len)), .val .null, .val (.ref s.heap.size)] [])) := c14.trans (st15 _ (Steps.refl _))
  have ap := apart (Or.inr ⟨_, (wk W (.laysFinal "java/lang/String" "java/lang/String" "value" "[B"))⟩) (Or.inr ⟨_, (wk W (.laysFinal "java/lang/String" "java/lang/String" "coder" "B"))⟩) f1 f2 (t₁ := .array .byte) (t₂ := .byte) (by decide +kernel) (by decide +kernel) (by decide)
  have al := X8.warmed.alike.symm.trans X15.warmed.alike
  have n7 : T11.heap[s.heap.size]? = some N := by rw [q11]; exact n1.1
  exact ⟨T15, none, _, _, _, X15, by simp, rfl, by omega, (fun _ => rfl), ⟨rfl, _, N, bl15, ((Same.refl D _).set _ (by simp)).set _ (by simp), sl15, (Cell.slots_setSlot_ne _ ap).trans sl13, n1.keep al (p15.other hne (p13.other hne n7)), n2, by rw [al.findClass]; exact n3, n4, n5, fun y c h1 h2 => p15.other h1 (p13.other h1 (by rw [q11]; exact n6 y c h2)), by rw [p15.2.2, p13.2.2, q11]; exact z8⟩, fun fs hl => c16.trans (X15.returnOut hexec hret (hb hbytes d57) hl)⟩
end New4
namespace New1
def yN : MethodName := ⟨"java/lang/String", "<init>", "([C)V"⟩
abbrev yB : ByteArray := jdk_42_method_3_code
theorem d0 : decode yB 0 = .ok (.aload_n 0, 1) := by decide +kernel
theorem d1 : decode yB 1 = .ok (.aload_n 1, 1) := by decide +kernel
theorem d2 : decode yB 2 = .ok (.iconst 0, 1) := by decide +kernel
theorem d3 : decode yB 3 = .ok (.aload_n 1, 1) := by decide +kernel
theorem d4 : decode yB 4 = .ok (.arraylength, 1) := by decide +kernel
theorem d5 : decode yB 5 = .ok (.aconst_null, 1) := by decide +kernel
theorem d6 : decode yB 6 = .ok (.invokespecial 27, 3) := by decide +kernel
theorem d9 : decode yB 9 = .ok (.return_, 1) := by decide +kernel
def site : List Cond := [New4.tab] ++ initW "java/lang/String" 27 New4.yN
def tab : Cond := tabOf yN yB 2 none site
def P (a : Addr) (D : Cell) (fV fC : Field) (b : Addr) (A : Cell) (z : Int32) (args : Array Value) (s : State) : Prop := args = #[.ref a, .ref b] ∧ Blank "java/lang/String" a D s ∧ Found "java/lang/String" "value" "[B" fV s ∧ Found "java/lang/String" "coder" "B" fC s ∧ Ch b A s ∧ StaticIs s "java/lang/String" "COMPACT_STRINGS" "Z" (.int z) ∧ ¬ z = 0 ∧ 0 < A.slots.size ∧ A.slots.size ≤ 536870912 ∧ ∀ i, i < A.slots.size → ¬ 255 < cv A i
def E (a : Addr) (D : Cell) (fV fC : Field) (A : Cell) (r : Option Value) (s u : State) : Prop := Got a D fV fC A 0 A.slots.size r s u
/-- new String(chars), not empty, no char above 255: a Latin-1 String of their low bytes -/
theorem law (l : Launch) (a : Addr) (D : Cell) (fV fC : Field) (b : Addr) (A : Cell) (z : Int32) : Law l yN 2 1 3 52 yB 2 none site (P a D fV fC b A z) (E a D fV fC A) [⟨a, fC.slot⟩, ⟨a, fV.slot⟩] 1 A.slots.size := by
  refine Law.of_walk (plainFor_of_name (by decide +kernel)) (by decide +kernel) (by decide +kernel) (by decide) (fun _ _ h => by rw [h.1]; rfl) (fun _ U U' hal hh h => ⟨h.1, h.2.1.mv hal hh, h.2.2.1.al hal, h.2.2.2.1.al hal, h.2.2.2.2.1.mv hal hh, h.2.2.2.2.2.1.there hal hh, h.2.2.2.2.2.2⟩) (fun r U U' V V' h1 hal h2 h => Got.mv r U U' V V' h1 hal h2 h) ?_
  intro p e s m args below meth c s₁ X0 hexec hbytes hml hret hlk hnm hown hh0 W hP
  obtain ⟨rfl, hB, f1, f2, hA, s1, hz, l0, l2, hp⟩ := hP
  have c1 : Steps p.tables e below (s₁.setTop (entryFrame m #[.ref a, .ref b] 2)) (s₁.setTop (mkF m 0 #[.val (.ref a), .val (.ref b)] [])) := entry rfl
  have c2 : Steps p.tables e below (s₁.setTop (entryFrame m #[.ref a, .ref b] 2)) (s₁.setTop (mkF m 6 #[.val (.ref a), .val (.ref b)] [.null, .int (Int32.ofNat A.slots.size), .int 0, .ref b, .ref a])) := c1.trans (by
    refine XS.aloadN X0.here hexec rfl (hb hbytes d0) rfl rfl ?_
    refine XS.aloadN X0.here hexec rfl (hb hbytes d1) rfl rfl ?_
    refine iconstV X0.here hexec rfl 0 (hb hbytes d2) (by decide) ?_
    refine XS.aloadN X0.here hexec rfl (hb hbytes d3) rfl rfl ?_
    refine X0.alen hexec (hA.1.mv X0.warmed.alike hh0) rfl rfl (hb hbytes d4) ?_
    refine XS.aconstNull X0.here hexec rfl (hb hbytes d5) ?_
    exact Steps.refl _)
  obtain ⟨v3, T3, X3, E3, g3⟩ := X0.callN hexec (New4.law l a D fV fC b A z 0 A.slots.size) rfl hown (wks W (initW "java/lang/String" 27 New4.yN)) (W New4.tab (by simp only [site, List.mem_cons, List.mem_append, true_or, or_true])) (W := 0) (Nat.le_of_ble_eq_true rfl) (Nat.le_of_ble_eq_true rfl) (Nat.le_refl _) (by show 0 + A.slots.size ≤ A.slots.size; omega) (g := (mkF m 6 #[.val (.ref a), .val (.ref b)] [.null, .int (Int32.ofNat A.slots.size), .int (Int32.ofNat 0), .ref b, .ref a])) rfl (by rw [hml]; rfl) c2 (argsL := [.ref b, .int (Int32.ofNat 0), .int (Int32.ofNat A.slots.size), .null]) (rest := []) rfl rfl (by show 2 * 0 + 0 ≤ _; decide) (hb hbytes d6) (⟨rfl, hB.mv X0.warmed.alike hh0, f1.al X0.warmed.alike, f2.al X0.warmed.alike, hA.mv X0.warmed.alike hh0, s1.there X0.warmed.alike hh0, hz, l0, by omega, l2, fun i hi => by rw [Nat.zero_add]; exact hp i hi⟩)
  have e0 := Got.mv _ s₁ s _ _ hh0.symm (Vm.Alike.refl _) rfl E3
  obtain rfl := e0.1
  have c4 : Steps p.tables e below (s₁.setTop (entryFrame m #[.ref a, .ref b] 2)) (T3.setTop (mkF m 9 #[.val (.ref a), .val (.ref b)] [])) := g3
  exact ⟨T3, none, _, _, _, X3, by simp, rfl, by omega, (fun _ => rfl), e0, fun fs hl => c4.trans (X3.returnOut hexec hret (hb hbytes d9) hl)⟩
theorem pays {l : Launch} {R : Room} {p : Program} {e : Env} {below : List Frame} {s : State} {sargs : Array Value} {len W : Nat} (a : Addr) (D : Cell) (fV fC : Field) (b : Addr) (A : Cell) (z : Int32) (htab : tab.before sargs s = true) (hfr : 4 ≤ R.frames) (hlo : W + 65 ≤ R.locals) :
    Back l R p e below s sargs yN len W (fun A₁ a₁ => A₁.cells + 1 ≤ R.cells ∧ A₁.slots + A.slots.size ≤ R.slots ∧ P a D fV fC b A z a₁ A₁.U) (fun A₁ _ v₁ B₁ => E a D fV fC A v₁ A₁.U B₁.U ∧ B₁.locs = A₁.locs ++ [⟨a, fC.slot⟩, ⟨a, fV.slot⟩] ∧ B₁.cells = A₁.cells + 1 ∧ B₁.slots = A₁.slots + A.slots.size) :=
  (law l a D fV fC b A z).pays htab hfr (by omega)
end New1
/-- the byte, read back as charAt reads it, is the char -/
theorem lo8_mask {x : Int32} (h0 : ¬ x < 0) (h1 : ¬ 255 < x) : lo8 x &&& 255 = x := by
  have t : ∀ k : Fin 256, lo8 (Int32.ofNat k.val) &&& 255 = Int32.ofNat k.val := by decide +kernel
  rw [Int32.lt_iff_toInt_lt] at h0 h1
  have e0 : (0 : Int32).toInt = 0 := rfl
  have e1 : (255 : Int32).toInt = 255 := rfl
  obtain ⟨k, hk⟩ : ∃ k : Nat, x.toInt = k := ⟨x.toInt.toNat, by omega⟩
  have hx : x = Int32.ofNat k := Int32.toInt_inj.mp (by rw [hk, Int32.toInt_ofNat_small (by omega)])
  rw [hx]
  exact t ⟨k, by omega⟩
end StrChars
namespace StrChars.Road
open Jvm Sem ClassFile Op Lib Jvm.Stand Jvm.Free Jvm.Free.XT
open Jvm.Lib.Cold (StaticIs)
abbrev ST : String := "java/lang/String"
/-- every table word that New1's law asks, flat -/
abbrev words : List Jvm.Cond := [.code New1.yN New1.yB 2 none, .initialized ST, .methodLink ST 27 New4.yN, .instanceMethod New4.yN,
  .code New4.yN New4.yB 6 none, .fieldLink ST 38 ST "COMPACT_STRINGS" "Z", .laysFinal ST ST "value" "[B", .fieldLink ST 9 ST "value" "[B", .laysFinal ST ST "coder" "B", .fieldLink ST 15 ST "coder" "B",
  .methodLink ST 1 Lib.objectInit, .instanceMethod Lib.objectInit, .code Lib.objectInit ⟨#[0xb1]⟩ 1 none, .methodLink ST 177 Cmp3.yN, .static Cmp3.yN, .methodLink ST 47 CodL.yN, .static CodL.yN,
  .code Cmp3.yN Cmp3.yB 6 (some (.array .byte)), .initialized U16, .arrayClass .byte, .methodLink U16 115 Cmp5.yN, .static Cmp5.yN, .code Cmp5.yN Cmp5.yB 7 (some .int), .code CodL.yN CodL.yB 2 (some .byte)]
theorem tab_of {a : Array Value} {s : State} (h : ∀ w ∈ words, w.before a s = true) : New1.tab.before a s = true := by
  have h5 : Cmp5.tab.before a s = true := unparts (wk h (.code Cmp5.yN Cmp5.yB 7 (some .int))) (wks h (.initialized Cmp5.yN.cls :: Cmp5.site))
  have hc : CodL.tab.before a s = true := unparts (wk h (.code CodL.yN CodL.yB 2 (some .byte))) (wks h (.initialized CodL.yN.cls :: CodL.site))
  have q5 : ∀ w ∈ Cmp5.tab :: words, w.before a s = true := fun w hw => (List.mem_cons.mp hw).elim (fun e => e ▸ h5) (h w)
  have h3 : Cmp3.tab.before a s = true := unparts (wk q5 (.code Cmp3.yN Cmp3.yB 6 (some (.array .byte)))) (wks q5 (.initialized Cmp3.yN.cls :: Cmp3.site))
  have q3 : ∀ w ∈ Cmp3.tab :: CodL.tab :: words, w.before a s = true := fun w hw => (List.mem_cons.mp hw).elim (fun e => e ▸ h3) fun hw => (List.mem_cons.mp hw).elim (fun e => e ▸ hc) (h w)
  have h4 : New4.tab.before a s = true := unparts (wk q3 (.code New4.yN New4.yB 6 none)) (wks q3 (.initialized New4.yN.cls :: New4.site))
  have q4 : ∀ w ∈ New4.tab :: words, w.before a s = true := fun w hw => (List.mem_cons.mp hw).elim (fun e => e ▸ h4) (h w)
  exact unparts (wk q4 (.code New1.yN New1.yB 2 none)) (wks q4 (.initialized New1.yN.cls :: New1.site))
/-- the words ride from the start Z to the walk's own state -/
theorem moved {Z s : State} {a0 args : Array Value} (hZ : Z.Warmed39 s.vm) (hw : ∀ d ∈ words, d.before a0 Z = true) : ∀ d ∈ words, d.before args s = true := fun d hd => by
  have q := hw d hd
  have t : ∀ d ∈ words, d = .arrayClass .byte ∨ (d.onTables && d.keepsFace) = true := by decide +kernel
  rcases t d hd with rfl | t
  · exact RoadKit.mvA hZ q
  · exact RoadKit.mv hZ q t
/-- WHAT COMES BACK, over the tables of the start Z: h the heap at the call, h' behind it -/
def Q (Z : State) (x : Addr) (A : Cell) (h : Heap) (v : Option Value) (h' : Heap) (L : List Loc) : Prop := v = none ∧ (∀ y ∈ L, y.base = x) ∧ RoadKit.Keep h h' [x] ∧ h'.size = h.size + 1 ∧ RoadKit.Exa Z h' x ST ∧ RoadKit.Fld Z h' x ST "value" "[B" (.ref h.size) ∧ RoadKit.Fld Z h' x ST "coder" "B" (.int 0) ∧
  (∃ V : Cell, RoadKit.Arr Z h' h.size V .byte ∧ V.vm = .none ∧ Z.vm.findClass "[B" = some V.cls ∧ V.slots.size = A.slots.size ∧ ∀ j, j < A.slots.size → V.slots[j]? = some (.int (lo8 (cv A j)))) ∧
  ∀ (O n d : String) (w : Value), RoadKit.Fld Z h x O n d w → RoadKit.slotOf Z O n d ≠ RoadKit.slotOf Z ST "value" "[B" → RoadKit.slotOf Z O n d ≠ RoadKit.slotOf Z ST "coder" "B" → RoadKit.Fld Z h' x O n d w
/-- **new String(chars) AT A CALL, IN THE ROAD'S FORM**: for specialBack behind newO: x the fresh String, b the char[] with the cell A -/
theorem back {p : Program} {l : Launch} {e : Env} {R : Room} {s : State} {args : Array Value} {below : List Frame} {len W : Nat} {Z : State} {a0 : Array Value} {h : Heap} (hZ : Z.Warmed39 s.vm) (hw : ∀ d ∈ words, d.before a0 Z = true) {kI : Nat} (wi : (Jvm.Cond.instantiable ST kI).before a0 Z = true)
    {x b : Addr} {A : Cell} {z : Int32} {v0 c0 : Value} (E : RoadKit.Exa Z h x ST) (V : RoadKit.Fld Z h x ST "value" "[B" v0) (C : RoadKit.Fld Z h x ST "coder" "B" c0) (K : RoadKit.Arr Z h b A .char) (hty : Typed .char A) (S : RoadKit.Sta Z h ST "COMPACT_STRINGS" "Z" (.int z)) (hz : ¬ z = 0)
    (l0 : 0 < A.slots.size) (l2 : A.slots.size ≤ 536870912) (hp : ∀ i, i < A.slots.size → ¬ 255 < cv A i) (hfr : 4 ≤ R.frames) (hlo : W + 65 ≤ R.locals) :
    Back l R p e below s args New1.yN len W (fun P a => a = #[.ref x, .ref b] ∧ P.U.heap = h ∧ P.cells + 1 ≤ R.cells ∧ P.slots + A.slots.size ≤ R.slots)
      (fun P _ v B => ∃ L, Q Z x A h v B.U.heap L ∧ B.locs = P.locs ++ L ∧ B.cells = P.cells + 1 ∧ B.slots = P.slots + A.slots.size) := by
  intro m meth c P g ig mk a X hg hsize hdg hW hn hp'
  obtain ⟨rfl, rfl, r1, r2⟩ := hp'
  have al : Z.vm.Alike P.U.vm := hZ.alike.trans X.warmed.alike
  obtain ⟨D, cfV, kV, iV, fV, hD, gV, stV, knV, obV, asV, slV⟩ := id V
  obtain ⟨D', cfC, kC, iC, fC, hD', gC, stC, -, -, asC, slC⟩ := id C
  cases hD.symm.trans hD'
  obtain ⟨D2, kD, e1, e2, e3, e4, e5⟩ := id E
  cases hD.symm.trans e1
  obtain ⟨c2, k2, i1, i2, i3, -⟩ := Cond.instantiable_spec wi
  cases e2.symm.trans i1
  cases e3.symm.trans i2
  obtain ⟨kU, u1, u2⟩ := al.2.2 _ _ e3
  have hB : Blank ST x D P.U := ⟨hD, ⟨knV, fun q hq => by rw [hq] at obV; cases obV⟩, by rw [al.findClass]; exact e2, kU, u1, by rw [u2]; exact i3, by rw [u2]; exact e5 i3⟩
  have F1 : Found ST "value" "[B" fV P.U := ⟨SBG.found_only al ⟨cfV, kV, iV, gV⟩, stV⟩
  have F2 : Found ST "coder" "B" fC P.U := ⟨SBG.found_only al ⟨cfC, kC, iC, gC⟩, stC⟩
  have hA : Ch b A P.U := ⟨⟨K.1, State.isArrayOf_alike al K.2.1, K.2.2, by omega⟩, hty⟩
  have hS : StaticIs P.U ST "COMPACT_STRINGS" "Z" (.int z) := by
    obtain ⟨cfS, iS, kS, fS, st, cS, t1, t2, t3, t4, t5, t6, t7⟩ := S
    exact StaticIs.there (s := { Z with heap := P.U.heap }) ⟨cfS, iS, kS, fS, st, cS, t1, t2, t3, t4, t5, (fun q => by rw [q] at t6; cases t6), t7⟩ al rfl
  obtain ⟨v, B, X', ⟨⟨hv, E', V', q1, q2, q3, q4, q5, q6, q7, q8, q9, q10, q11⟩, hl, hc, hs⟩, st⟩ := New1.pays x D fV fC b A z (tab_of (moved hZ hw)) hfr hlo m meth c P g ig mk _ X hg hsize hdg hW hn ⟨r1, r2, rfl, hB, F1, F2, hA, hS, hz, l0, l2, hp⟩
  have al' : Z.vm.Alike B.U.vm := hZ.alike.trans X'.warmed.alike
  have hsz : E'.slots.size = D.slots.size := by
    obtain ⟨-, -, -, kB, w1, w2, w3⟩ := q1
    obtain ⟨kB', y1, y2⟩ := al'.2.2 _ _ e3
    rw [q2.2.1] at w1
    cases w1.symm.trans y1
    rw [w3, e5 i3, y2]
  refine ⟨v, B, X', ⟨_, ⟨hv, ?_, ⟨by omega, fun y cy hy hn' => q10 y cy (by simpa using hn') hy, fun y cy hy => ?_⟩, q11, ⟨E', _, q1.1, by rw [q2.2.1]; exact e2, by rw [q2.2.1]; exact e3, by rw [q2.1]; exact obV, fun _ => by rw [hsz]; exact e5 i3⟩,
    ⟨E', cfV, kV, iV, fV, q1.1, gV, stV, by rw [q2.1]; exact knV, by rw [q2.1]; exact obV, by rw [q2.2.1]; exact asV, q3⟩, ⟨E', cfC, kC, iC, fC, q1.1, gC, stC, by rw [q2.1]; exact knV, by rw [q2.1]; exact obV, by rw [q2.2.1]; exact asC, q4⟩,
    ⟨V', ⟨q5.1, State.isArrayOf_alike al'.symm q5.2.1, q5.2.2.1⟩, q6, by rw [← al'.findClass]; exact q7, q8, fun j hj => by have := q9 j hj; rwa [Nat.zero_add] at this⟩, fun O n d w F n1 n2 => ?_⟩, hl, hc, hs⟩, st⟩
  · intro y hy
    simp only [List.mem_cons, List.not_mem_nil, or_false] at hy
    rcases hy with rfl | rfl <;> rfl
  · by_cases q : y = x
    · subst q
      cases hD.symm.trans hy
      exact ⟨E', q1.1, q2.2.1, q2.1, hsz⟩
    · exact ⟨cy, q10 y cy q hy, rfl, rfl, rfl⟩
  · obtain ⟨D3, cf, k, i, f, g1, g2, g3, g4, g5, g6, g7⟩ := F
    cases hD.symm.trans g1
    simp only [RoadKit.slotOf, g2, gV, gC, Option.map_some, Option.getD_some] at n1 n2
    exact ⟨E', cf, k, i, f, q1.1, g2, g3, by rw [q2.1]; exact g4, by rw [q2.1]; exact g5, by rw [q2.2.1]; exact g6, by rw [q2.2.2 f.slot (by simp [n1, n2])]; exact g7⟩
end StrChars.Road
namespace StrChars.Road
open Jvm Sem ClassFile Op Lib Jvm.Stand Jvm.Free Jvm.Free.XT
/-- WHAT COMES BACK, the byte[] as a list of values -/
def QA (Z : State) (x : Addr) (zn : Int32) (cs : List Int32) (h : Heap) (v : Option Value) (h' : Heap) (L : List Loc) : Prop := v = none ∧ (∀ y ∈ L, y.base = x) ∧ RoadKit.Keep h h' [x] ∧ h'.size = h.size + 1 ∧ RoadKit.Exa Z h' x ST ∧ RoadKit.Fld Z h' x ST "value" "[B" (.ref h.size) ∧ RoadKit.Fld Z h' x ST "coder" "B" (.int 0) ∧
  (∃ kb, Z.vm.findClass "[B" = some kb ∧ RoadKit.Arv Z h' h.size kb .byte zn (cs.map fun c => .int (lo8 c)) (.int 0)) ∧
  ∀ (O n d : String) (w : Value), RoadKit.Fld Z h x O n d w → RoadKit.slotOf Z O n d ≠ RoadKit.slotOf Z ST "value" "[B" → RoadKit.slotOf Z O n d ≠ RoadKit.slotOf Z ST "coder" "B" → RoadKit.Fld Z h' x O n d w
/-- **new String(chars) AT A CALL, THE ARRAYS AS LISTS**: the char[] at b holds cs, not empty, no char above 255 -/
theorem backArv {p : Program} {l : Launch} {e : Env} {R : Room} {s : State} {args : Array Value} {below : List Frame} {len W : Nat} {Z : State} {a0 : Array Value} {h : Heap} (hZ : Z.Warmed39 s.vm) (hw : ∀ d ∈ words, d.before a0 Z = true) {kI : Nat} (wi : (Jvm.Cond.instantiable ST kI).before a0 Z = true)
    {x b : Addr} {k : ClassId} {zn z : Int32} {cs : List Int32} {dv v0 c0 : Value} (E : RoadKit.Exa Z h x ST) (V : RoadKit.Fld Z h x ST "value" "[B" v0) (C : RoadKit.Fld Z h x ST "coder" "B" c0) (K : RoadKit.Arv Z h b k .char zn (cs.map Value.int) dv) (S : RoadKit.Sta Z h ST "COMPACT_STRINGS" "Z" (.int z)) (hz : ¬ z = 0)
    (hlen : zn.toNatClampNeg = cs.length) (h0 : 0 < cs.length) (hbig : cs.length ≤ 536870912) (hall : ∀ c ∈ cs, ¬ 255 < c) (hfr : 4 ≤ R.frames) (hlo : W + 65 ≤ R.locals) :
    Back l R p e below s args New1.yN len W (fun P a => a = #[.ref x, .ref b] ∧ P.U.heap = h ∧ P.cells + 1 ≤ R.cells ∧ P.slots + cs.length ≤ R.slots)
      (fun P _ v B => ∃ L, QA Z x zn cs h v B.U.heap L ∧ B.locs = P.locs ++ L ∧ B.cells = P.cells + 1 ∧ B.slots = P.slots + cs.length) := by
  obtain ⟨A, K1, K2, K3, K4, K5, K6⟩ := K
  have e : A.slots.size = cs.length := K3.trans hlen
  have hat : ∀ (i : Nat) (hi : i < cs.length), A.slots[i]? = some (.int cs[i]) := fun i hi => by rw [K5 i (by omega)]; simp [List.getD_eq_getElem?_getD, hi]
  have hcv : ∀ (i : Nat) (hi : i < cs.length), cv A i = cs[i] := fun i hi => by unfold cv; rw [hat i hi]
  have hty : Typed .char A := fun i v hv => by
    have hi : i < A.slots.size := (Array.getElem?_eq_some_iff.mp hv).1
    have q := K5 i hi
    rw [hv] at q
    rw [Option.some.inj q]
    exact K6 i hi
  refine Back.mono (back hZ hw wi E V C K1 hty S hz (by omega) (by omega) (fun i hi => by rw [hcv i (by omega)]; exact hall _ (List.getElem_mem _)) hfr hlo) (fun P a hp => ⟨hp.1, hp.2.1, hp.2.2.1, by rw [e]; exact hp.2.2.2⟩) (fun P a v B hp hq => ?_)
  obtain ⟨L, ⟨q1, q2, q3, q4, q5, q6, q7, ⟨V', v1, v2, v3, v4, v5⟩, q9⟩, hl, hc, hs⟩ := hq
  refine ⟨L, ⟨q1, q2, q3, q4, q5, q6, q7, ⟨V'.cls, v3, V', v1, rfl, by rw [v4, e, hlen], K4, fun i hi => ?_, fun i hi => ?_⟩, q9⟩, hl, hc, by rw [hs, e]⟩
  · have hi' : i < cs.length := by omega
    rw [v5 i (by omega), hcv i hi']; simp [List.getD_eq_getElem?_getD, hi']
  · have hi' : i < cs.length := by omega
    simp only [List.getD_eq_getElem?_getD, List.getElem?_map, List.getElem?_eq_getElem hi', Option.map_some, Option.getD_some]
    exact fits_lo8 _
end StrChars.Road
namespace StrChars.Road
open Jvm Sem ClassFile Op Lib Jvm.Stand Jvm.Free Jvm.Free.XT
/-- WHAT COMES BACK, in the writer's own shape -/
def QV (Z : State) (x : Addr) (N : Int32) (bs : List Int32) (h : Heap) (n0 : Nat) (v : Option Value) (h' : Heap) (L : List Loc) : Prop := v = none ∧ RoadKit.Fr n0 L ∧ RoadKit.Keep h h' [x] ∧ RoadKit.Exa Z h' x ST ∧ RoadKit.Fld Z h' x ST "coder" "B" (.int 0) ∧
  ∃ (t : Addr) (kb : ClassId), n0 ≤ t ∧ h.size ≤ t ∧ ¬ t = x ∧ RoadKit.Fld Z h' x ST "value" "[B" (.ref t) ∧ RoadKit.Arv Z h' t kb .byte N (bs.map Value.int) (.int 0)
/-- **new String(chars) AT A CALL, FOR THE WRITER**: a char[] of n known ints, each 0 to 255 -/
theorem backV {p : Program} {l : Launch} {e : Env} {R : Room} {s : State} {args : Array Value} {below : List Frame} {len W : Nat} {Z : State} {a0 : Array Value} {h : Heap} (hZ : Z.Warmed39 s.vm) (hw : ∀ d ∈ words, d.before a0 Z = true) {kI : Nat} (wi : (Jvm.Cond.instantiable ST kI).before a0 Z = true)
    {x b : Addr} {kC : ClassId} {cs bs : List Int32} {d v0 c0 : Value} {z N : Int32} {n n0 : Nat} (hx0 : n0 ≤ x) (hh0 : n0 ≤ h.size) (E : RoadKit.Exa Z h x ST) (V : RoadKit.Fld Z h x ST "value" "[B" v0) (C : RoadKit.Fld Z h x ST "coder" "B" c0) (K : RoadKit.Arv Z h b kC .char N (cs.map Value.int) d) (S : RoadKit.Sta Z h ST "COMPACT_STRINGS" "Z" (.int z)) (hz : ¬ z = 0)
    (hn : cs.length = n) (hN : N = Int32.ofNat n) (l0 : 0 < n) (l2 : n ≤ 4000) (hp : ∀ c ∈ cs, ¬ c < 0 ∧ ¬ (255 : Int32) < c) (hb : bs = cs.map (fun c => c.toInt8.toInt32)) (hfr : 4 ≤ R.frames) (hlo : W + 65 ≤ R.locals) :
    Back l R p e below s args (⟨"java/lang/String", "<init>", "([C)V"⟩ : MethodName) len W (fun P a => a = #[.ref x, .ref b] ∧ P.U.heap = h ∧ P.cells + 1 ≤ R.cells ∧ P.slots + n ≤ R.slots)
      (fun P _ v B => ∃ L, QV Z x N bs h n0 v B.U.heap L ∧ B.locs = P.locs ++ L ∧ B.cells = P.cells + 1 ∧ B.slots = P.slots + n) := by
  subst hn hN hb
  refine Back.mono (backArv hZ hw wi E V C K S hz (n32 (by omega)) l0 (by omega) (fun c hc => (hp c hc).2) hfr hlo) (fun P a hp => hp) (fun P a v B hp hq => ?_)
  obtain ⟨L, ⟨q1, q2, q3, q4, q5, q6, q7, ⟨kb, v1, v2⟩, q9⟩, hl, hc, hs⟩ := hq
  exact ⟨L, ⟨q1, fun y hy => by rw [q2 y hy]; exact hx0, q3, q5, q7, h.size, kb, hh0, Nat.le_refl _, Nat.ne_of_gt E.lt, q6, by rw [List.map_map]; exact v2⟩, hl, hc, hs⟩
end StrChars.Road
namespace StrChars
open Jvm Sem ClassFile Op Lib Jvm.Stand Jvm.Free.XT Jvm.Free.ALB Jvm.Free.JM Jvm.Free
open Jvm.Lib.Cold (StaticIs)
def hi8 (x : Int32) : Int32 := lo8 (x >>> ((8 : Int32) &&& 31))
/-- what StringUTF16.getChar makes of two bytes -/
def pairCh (u v : Int32) : Int32 := (((u &&& 255) <<< ((0 : Int32) &&& 31)) ||| ((v &&& 255) <<< ((8 : Int32) &&& 31))).toUInt32.toUInt16.toUInt32.toInt32
theorem lo8_and (x : Int32) : (lo8 x &&& 255).toBitVec.toNat = x.toBitVec.toNat % 256 := by
  have h : (lo8 x).toBitVec = (x.toBitVec.signExtend 8).signExtend 32 := by rw [lo8, Int8.toBitVec_toInt32, Int32.toBitVec_toInt8]
  rw [Int32.toBitVec_and, BitVec.toNat_and, h]
  have e : ((x.toBitVec.signExtend 8).signExtend 32).toNat % 256 = x.toBitVec.toNat % 256 := by
    rw [BitVec.toNat_signExtend]
    have hlt := x.toBitVec.isLt
    simp only [BitVec.toNat_setWidth, BitVec.toNat_signExtend]
    split <;> split <;> omega
  rw [← e]
  exact Nat.and_two_pow_sub_one_eq_mod _ 8
theorem pair_says {c : Int32} (h0 : ¬ c < 0) (h1 : ¬ 65535 < c) : pairCh (lo8 c) (hi8 c) = c := by
  rw [Int32.lt_iff_toInt_lt] at h0 h1
  have e0 : (0 : Int32).toInt = 0 := rfl
  have e1 : (65535 : Int32).toInt = 65535 := rfl
  have hc : c.toInt = c.toBitVec.toNat := by
    have := c.toBitVec.isLt
    have e : c.toInt = c.toBitVec.toInt := rfl
    rw [e] at h0 h1
    rw [e]
    rw [BitVec.toInt_eq_toNat_cond] at h0 h1 ⊢
    split at h0 <;> split <;> omega
  have hn : c.toBitVec.toNat < 65536 := by omega
  have a1 := lo8_and c
  have a2 : (hi8 c &&& 255).toBitVec.toNat = c.toBitVec.toNat / 256 := by
    rw [hi8, lo8_and]
    have e : ((8 : Int32) &&& 31) = 8 := by decide
    rw [e, Int32.toBitVec_shiftRight]
    have e2 : ((8 : Int32).toBitVec.smod 32) = 8#32 := by decide
    rw [e2, BitVec.sshiftRight_eq', BitVec.toNat_sshiftRight_of_msb_false (by rw [BitVec.msb_eq_false_iff_two_mul_lt]; omega)]
    show c.toBitVec.toNat >>> 8 % 256 = _
    rw [Nat.shiftRight_eq_div_pow]
    omega
  unfold pairCh
  apply Int32.toBitVec_inj.mp
  apply BitVec.eq_of_toNat_eq
  have f0 : ((0 : Int32) &&& 31) = 0 := by decide
  have f8 : ((8 : Int32) &&& 31) = 8 := by decide
  rw [f0, f8]
  have g : (((lo8 c &&& 255) <<< (0 : Int32)) ||| ((hi8 c &&& 255) <<< (8 : Int32))).toBitVec.toNat = c.toBitVec.toNat := by
    rw [Int32.toBitVec_or, Int32.toBitVec_shiftLeft, Int32.toBitVec_shiftLeft]
    have s0 : ((0 : Int32).toBitVec.smod 32) = 0#32 := by decide
    have s8 : ((8 : Int32).toBitVec.smod 32) = 8#32 := by decide
    rw [s0, s8, BitVec.toNat_or]
    simp only [BitVec.shiftLeft_eq', BitVec.toNat_shiftLeft, a1, a2]
    show (c.toBitVec.toNat % 256) <<< 0 % 2 ^ 32 ||| (c.toBitVec.toNat / 256) <<< 8 % 2 ^ 32 = _
    rw [Nat.shiftLeft_zero, Nat.mod_eq_of_lt (show c.toBitVec.toNat % 256 < 2 ^ 32 by omega), Nat.mod_eq_of_lt (show (c.toBitVec.toNat / 256) <<< 8 < 2 ^ 32 by rw [Nat.shiftLeft_eq]; omega), Nat.or_comm, ← Nat.shiftLeft_add_eq_or_of_lt (by omega), Nat.shiftLeft_eq]
    omega
  show BitVec.toNat (((((lo8 c &&& 255) <<< (0 : Int32)) ||| ((hi8 c &&& 255) <<< (8 : Int32))).toBitVec.setWidth 16).setWidth 32) = _
  rw [BitVec.toNat_setWidth, BitVec.toNat_setWidth, g]
  omega
end StrChars
namespace StrChars
open Jvm Sem ClassFile Op Lib Jvm.Stand Jvm.Free.XT Jvm.Free.ALB Jvm.Free.JM Jvm.Free
open Jvm.Lib.Cold (StaticIs)
/-- charAt's cast of a byte read back -/
def chr8 (u : Int32) : Int32 := (u &&& 255).toUInt32.toUInt16.toUInt32.toInt32
theorem chr8_lo8 {c : Int32} (h0 : ¬ c < 0) (h1 : ¬ 255 < c) : chr8 (lo8 c) = c := by
  have t : ∀ k : Fin 256, (Int32.ofNat k.val).toUInt32.toUInt16.toUInt32.toInt32 = Int32.ofNat k.val := by decide +kernel
  unfold chr8
  rw [lo8_mask h0 h1]
  rw [Int32.lt_iff_toInt_lt] at h0 h1
  have e0 : (0 : Int32).toInt = 0 := rfl
  have e1 : (255 : Int32).toInt = 255 := rfl
  obtain ⟨k, hk⟩ : ∃ k : Nat, c.toInt = k := ⟨c.toInt.toNat, by omega⟩
  have hx : c = Int32.ofNat k := Int32.toInt_inj.mp (by rw [hk, Int32.toInt_ofNat_small (by omega)])
  rw [hx]
  exact t ⟨k, by omega⟩
theorem narrow_ch {c : Int32} (h0 : ¬ c < 0) (h1 : ¬ 65535 < c) : narrow .char (.int c) = .int c := by
  have q : narrow .char (.int (pairCh (lo8 c) (hi8 c))) = .int (pairCh (lo8 c) (hi8 c)) := narrow_c _
  rwa [pair_says h0 h1] at q
/-- the array's cell V codes the n chars f 0 .. f (n - 1) by the coder cd, as the JDK does: coder 1 just where some char is above 255 -/
def Cod (cd : Int32) (n : Nat) (f : Nat → Int32) (V : Cell) : Prop := (cd = 0 ∧ V.slots.size = n ∧ ∀ j, j < n → V.slots[j]? = some (.int (lo8 (f j))) ∧ ¬ 255 < f j) ∨ (cd = 1 ∧ V.slots.size = 2 * n ∧ (∀ j, j < n → V.slots[2 * j]? = some (.int (lo8 (f j))) ∧ V.slots[2 * j + 1]? = some (.int (hi8 (f j)))) ∧ ∃ j, j < n ∧ 255 < f j)
theorem Cod.cd {cd : Int32} {n : Nat} {f : Nat → Int32} {V : Cell} (h : Cod cd n f V) : cd = 0 ∨ cd = 1 := h.imp (fun q => q.1) fun q => q.1
/-- **x is a String of the n chars f 0 .. f (n - 1)**, Latin-1 or UTF-16; its array at t has the cell V -/
def Txt (x t : Addr) (V : Cell) (cd : Int32) (n : Nat) (f : Nat → Int32) (U : State) : Prop := Exact "java/lang/String" x U ∧ Has x "java/lang/String" "value" "[B" (.ref t) U ∧ Has x "java/lang/String" "coder" "B" (.int cd) U ∧ XT.Arr .byte t V U ∧ Cod cd n f V ∧ ∀ j, j < n → ¬ f j < 0 ∧ ¬ 65535 < f j
theorem Txt.mv {x t : Addr} {V : Cell} {cd : Int32} {n : Nat} {f : Nat → Int32} {U U' : State} (h : Txt x t V cd n f U) (hal : U.vm.Alike U'.vm) (hh : U'.heap = U.heap) : Txt x t V cd n f U' := ⟨h.1.mv hal hh, h.2.1.mv hal hh, h.2.2.1.mv hal hh, h.2.2.2.1.mv hal hh, h.2.2.2.2⟩
namespace IsL
def yN : MethodName := ⟨"java/lang/String", "isLatin1", "()Z"⟩
abbrev yB : ByteArray := jdk_42_method_154_code
theorem d0 : decode yB 0 = .ok (.getstatic 38, 3) := by decide +kernel
theorem d3 : decode yB 3 = .ok (.ifCond (.eq) 14, 3) := by decide +kernel
theorem d6 : decode yB 6 = .ok (.aload_n 0, 1) := by decide +kernel
theorem d7 : decode yB 7 = .ok (.getfield 15, 3) := by decide +kernel
theorem d10 : decode yB 10 = .ok (.ifCond (.ne) 7, 3) := by decide +kernel
theorem d13 : decode yB 13 = .ok (.iconst 1, 1) := by decide +kernel
theorem d14 : decode yB 14 = .ok (.goto 4, 3) := by decide +kernel
theorem d17 : decode yB 17 = .ok (.iconst 0, 1) := by decide +kernel
theorem d18 : decode yB 18 = .ok (.ireturn, 1) := by decide +kernel
def site : List Cond := [.fieldLink "java/lang/String" 38 "java/lang/String" "COMPACT_STRINGS" "Z", .fieldLink "java/lang/String" 15 "java/lang/String" "coder" "B"]
def tab : Cond := tabOf yN yB 1 (some .boolean) site
def P (x : Addr) (cd z : Int32) (args : Array Value) (s : State) : Prop := args = #[.ref x] ∧ Has x "java/lang/String" "coder" "B" (.int cd) s ∧ (cd = 0 ∨ cd = 1) ∧ StaticIs s "java/lang/String" "COMPACT_STRINGS" "Z" (.int z) ∧ ¬ z = 0
def E (cd : Int32) (r : Option Value) (s u : State) : Prop := XT.PureE (some (.int (1 - cd))) r s u
theorem law (l : Launch) (x : Addr) (cd z : Int32) : Law l yN 1 0 0 0 yB 1 (some .boolean) site (P x cd z) (E cd) [] 0 0 := by
  refine Law.of_walk (plainFor_of_name (by decide +kernel)) (by decide +kernel) (by decide +kernel) (by decide) (fun _ _ h => by rw [h.1]; rfl) (fun _ U U' hal hh h => ⟨h.1, h.2.1.mv hal hh, h.2.2.1, h.2.2.2.1.there hal hh, h.2.2.2.2⟩) (fun r U U' V V' h1 hal h2 h => XT.PureE.mv r U U' V V' h1 hal h2 h) ?_
  intro p e s m args below meth c s₁ X0 hexec hbytes hml hret hlk hnm hown hh0 W hP
  obtain ⟨rfl, hx, hc, s1, hz⟩ := hP
  have c1 : Steps p.tables e below (s₁.setTop (entryFrame m #[.ref x] 1)) (s₁.setTop (mkF m 0 #[.val (.ref x)] [])) := entry rfl
  obtain ⟨T2, X2, q2, st2⟩ := X0.sget hexec hown (wk W (.fieldLink "java/lang/String" 38 "java/lang/String" "COMPACT_STRINGS" "Z")) s1 (fun _ _ h => by rw [hh0]; exact h) (g := (mkF m 0 #[.val (.ref x)] [])) rfl (hb hbytes d0)
  have hh2 := q2.trans hh0
  have c3 : Steps p.tables e below (s₁.setTop (entryFrame m #[.ref x] 1)) (T2.setTop (mkF m 7 #[.val (.ref x)] [.ref x])) := (c1.trans (st2 _ (Steps.refl _))).trans (by
    refine XS.ifNo X2.here hexec rfl (hb hbytes d3) rfl (i0_eq_f hz) ?_
    refine XS.aloadN X2.here hexec rfl (hb hbytes d6) rfl rfl ?_
    exact Steps.refl _)
  obtain ⟨T4, X4, q4, st4⟩ := X2.hget hexec hown (wk W (.fieldLink "java/lang/String" 15 "java/lang/String" "coder" "B")) (hx.mv X2.warmed.alike hh2) (g := (mkF m 7 #[.val (.ref x)] [.ref x])) rfl (rest := []) rfl (hb hbytes d7)
  have c5 : Steps p.tables e below (s₁.setTop (entryFrame m #[.ref x] 1)) (T4.setTop (mkF m 10 #[.val (.ref x)] [.int cd])) := c3.trans (st4 _ (Steps.refl _))
  have c6 : Steps p.tables e below (s₁.setTop (entryFrame m #[.ref x] 1)) (T4.setTop (mkF m 18 #[.val (.ref x)] [.int (1 - cd)])) := by
    rcases hc with rfl | rfl
    · exact c5.trans (by
        refine XS.ifNo X4.here hexec rfl (hb hbytes d10) rfl (i0_ne_f rfl) ?_
        refine iconstV X4.here hexec rfl 1 (hb hbytes d13) (by decide) ?_
        refine XS.goto X4.here hexec rfl (pc0 := 14) rfl (hb hbytes d14) (by decide) rfl ?_
        exact Steps.refl _)
    · exact c5.trans (by
        refine XS.ifYes X4.here hexec rfl (pc0 := 10) rfl (hb hbytes d10) rfl (i0_ne_t (by decide)) (by decide) rfl ?_
        refine iconstV X4.here hexec rfl 0 (hb hbytes d17) (by decide) ?_
        exact Steps.refl _)
  exact ⟨T4, some (.int (1 - cd)), _, _, _, X4, rfl, rfl, rfl, (fun h => by cases h), ⟨rfl, q4.trans hh2⟩, fun fs hl => c6.trans (X4.ireturnOut hexec hret (by rcases hc with rfl | rfl <;> rfl) (Or.inr (Or.inl rfl)) (hb hbytes d18) hl)⟩
end IsL
namespace LChA
def yN : MethodName := ⟨"java/lang/StringLatin1", "charAt", "([BI)C"⟩
abbrev yB : ByteArray := jdk_43_method_2_code
theorem d0 : decode yB 0 = .ok (.iload_n 1, 1) := by decide +kernel
theorem d1 : decode yB 1 = .ok (.aload_n 0, 1) := by decide +kernel
theorem d2 : decode yB 2 = .ok (.arraylength, 1) := by decide +kernel
theorem d3 : decode yB 3 = .ok (.invokestatic 9, 3) := by decide +kernel
theorem d6 : decode yB 6 = .ok (.aload_n 0, 1) := by decide +kernel
theorem d7 : decode yB 7 = .ok (.iload_n 1, 1) := by decide +kernel
theorem d8 : decode yB 8 = .ok (.baload, 1) := by decide +kernel
theorem d9 : decode yB 9 = .ok (.sipush 255, 3) := by decide +kernel
theorem d12 : decode yB 12 = .ok (.iand, 1) := by decide +kernel
theorem d13 : decode yB 13 = .ok (.i2c, 1) := by decide +kernel
theorem d14 : decode yB 14 = .ok (.ireturn, 1) := by decide +kernel
def site : List Cond := [JO.Str_checkIndex.tab] ++ staticW "java/lang/StringLatin1" 9 JO.Str_checkIndex.yN
def tab : Cond := tabOf yN yB 2 (some .char) site
def P (t : Addr) (V : Cell) (i : Nat) (u : Int32) (fm : Value) (args : Array Value) (s : State) : Prop := args = #[.ref t, .int (Int32.ofNat i)] ∧ XT.Arr .byte t V s ∧ V.slots[i]? = some (.int u) ∧ (StaticIs s "jdk/internal/util/Preconditions" "SIOOBE_FORMATTER" "Ljava/util/function/BiFunction;" fm ∧ fm.isRef = true)
def E (u : Int32) (r : Option Value) (s w : State) : Prop := XT.PureE (some (.int (chr8 u))) r s w
theorem law (l : Launch) (t : Addr) (V : Cell) (i : Nat) (u : Int32) (fm : Value) : Law l yN 2 2 2 27 yB 2 (some .char) site (P t V i u fm) (E u) [] 0 0 := by
  refine Law.of_walk (plainFor_of_name (by decide +kernel)) (by decide +kernel) (by decide +kernel) (by decide) (fun _ _ h => by rw [h.1]; rfl) (fun _ U U' hal hh h => ⟨h.1, h.2.1.mv hal hh, h.2.2.1, h.2.2.2.1.there hal hh, h.2.2.2.2⟩) (fun r U U' V V' h1 hal h2 h => XT.PureE.mv r U U' V V' h1 hal h2 h) ?_
  intro p e s m args below meth c s₁ X0 hexec hbytes hml hret hlk hnm hown hh0 W hP
  obtain ⟨rfl, hV, hu, s1, rf⟩ := hP
  have v31 := hV.2.2.2
  have hi : i < V.slots.size := (Array.getElem?_eq_some_iff.mp hu).1
  have c1 : Steps p.tables e below (s₁.setTop (entryFrame m #[.ref t, .int (Int32.ofNat i)] 2)) (s₁.setTop (mkF m 0 #[.val (.ref t), .val (.int (Int32.ofNat i))] [])) := entry rfl
  have c2 : Steps p.tables e below (s₁.setTop (entryFrame m #[.ref t, .int (Int32.ofNat i)] 2)) (s₁.setTop (mkF m 3 #[.val (.ref t), .val (.int (Int32.ofNat i))] [.int (Int32.ofNat V.slots.size), .int (Int32.ofNat i)])) := c1.trans (by
    refine XS.iloadN X0.here hexec rfl (hb hbytes d0) rfl ?_
    refine XS.aloadN X0.here hexec rfl (hb hbytes d1) rfl rfl ?_
    refine X0.alen hexec (hV.mv X0.warmed.alike hh0) rfl rfl (hb hbytes d2) ?_
    exact Steps.refl _)
  obtain ⟨v3, T3, X3, E3, g3⟩ := X0.callS hexec (JO.Str_checkIndex.law l (Int32.ofNat i) (Int32.ofNat V.slots.size) fm) hown (wks W (staticW "java/lang/StringLatin1" 9 JO.Str_checkIndex.yN)) (wk W JO.Str_checkIndex.tab) (W := 0) (Nat.le_of_ble_eq_true rfl) (Nat.le_of_ble_eq_true rfl) (Nat.le_refl _) (Nat.le_refl _) (g := (mkF m 3 #[.val (.ref t), .val (.int (Int32.ofNat i))] [.int (Int32.ofNat V.slots.size), .int (Int32.ofNat i)])) rfl (by rw [hml]; rfl) c2 (argsL := [.int (Int32.ofNat i), .int (Int32.ofNat V.slots.size)]) (rest := []) rfl rfl (by show 2 * 0 + 0 ≤ _; decide) (hb hbytes d3) (⟨rfl, rf, s1.there X0.warmed.alike hh0, Int32.ofNat_not_neg (by omega), lt32 v31 hi⟩)
  obtain ⟨rfl, q3⟩ := E3
  have hh3 := q3.trans hh0
  have c4 : Steps p.tables e below (s₁.setTop (entryFrame m #[.ref t, .int (Int32.ofNat i)] 2)) (T3.setTop (mkF m 14 #[.val (.ref t), .val (.int (Int32.ofNat i))] [.int (chr8 u)])) := Steps.trans g3 (by
    refine XS.aloadN X3.here hexec rfl (hb hbytes d6) rfl rfl ?_
    refine XS.iloadN X3.here hexec rfl (hb hbytes d7) rfl ?_
    refine X3.aget hexec (hV.mv X3.warmed.alike hh3) rfl hu rfl rfl (hb hbytes d8) ?_
    refine sipushV X3.here hexec rfl 255 (hb hbytes d9) (by decide) ?_
    refine XS.iand X3.here hexec rfl (hb hbytes d12) rfl ?_
    refine i2c X3.here hexec rfl (hb hbytes d13) rfl ?_
    exact Steps.refl _)
  exact ⟨T3, some (.int (chr8 u)), _, _, _, X3, rfl, rfl, rfl, (fun h => by cases h), ⟨rfl, hh3⟩, fun fs hl => c4.trans (X3.ireturnOut hexec hret (narrow_c _) (Or.inr (Or.inr (Or.inr (Or.inl rfl)))) (hb hbytes d14) hl)⟩
end LChA
end StrChars
namespace StrChars.Road
open Jvm Sem ClassFile Op Lib Jvm.Stand Jvm.Free Jvm.Free.XT
open Jvm.Lib.Cold (StaticIs)
theorem consq {a : Array Value} {s : State} {c : Jvm.Cond} {L : List Jvm.Cond} (h0 : c.before a s = true) (h : ∀ w ∈ L, w.before a s = true) : ∀ w ∈ c :: L, w.before a s = true := fun w hw => (List.mem_cons.mp hw).elim (fun e => e ▸ h0) (h w)
/-- the bytes of the chars cs, low before high -/
def wideBytes : List Int32 → List Value
  | [] => []
  | c :: cs => .int (lo8 c) :: .int (hi8 c) :: wideBytes cs
theorem wide_lo (d : Value) : ∀ (cs : List Int32) (j : Nat), j < cs.length → (wideBytes cs).getD (2 * j) d = .int (lo8 (cs.getD j 0))
  | [], j, h => absurd h (Nat.not_lt_zero j)
  | c :: cs, 0, _ => rfl
  | c :: cs, j + 1, h => by
    have q := wide_lo d cs j (by simpa using h)
    rw [show 2 * (j + 1) = 2 * j + 1 + 1 from by omega]
    simpa [wideBytes] using q
theorem wide_hi (d : Value) : ∀ (cs : List Int32) (j : Nat), j < cs.length → (wideBytes cs).getD (2 * j + 1) d = .int (hi8 (cs.getD j 0))
  | [], j, h => absurd h (Nat.not_lt_zero j)
  | c :: cs, 0, _ => rfl
  | c :: cs, j + 1, h => by
    have q := wide_hi d cs j (by simpa using h)
    rw [show 2 * (j + 1) + 1 = 2 * j + 1 + 1 + 1 from by omega]
    simpa [wideBytes] using q
theorem low_at (d : Value) (cs : List Int32) (j : Nat) (h : j < cs.length) : (cs.map fun c => Value.int (lo8 c)).getD j d = .int (lo8 (cs.getD j 0)) := by
  simp [List.getD_eq_getElem?_getD, h]
/-- an array of N2 bytes vs codes the chars cs by the coder cd -/
def CodA (cs : List Int32) (cd N2 : Int32) (vs : List Value) : Prop := (cd = 0 ∧ N2 = Int32.ofNat cs.length ∧ vs = (cs.map fun c => Value.int (lo8 c)) ∧ ∀ c ∈ cs, ¬ 255 < c) ∨ (cd = 1 ∧ N2 = Int32.ofNat (2 * cs.length) ∧ vs = wideBytes cs ∧ ∃ c ∈ cs, 255 < c)
theorem CodA.cod {cs : List Int32} {cd N2 : Int32} {vs : List Value} {V : Cell} (h : CodA cs cd N2 vs) (hn : 2 * cs.length < 2 ^ 31) (hs : V.slots.size = N2.toNatClampNeg) (hv : RoadKit.Has V vs (.int 0)) : Cod cd cs.length (fun j => cs.getD j 0) V := by
  rcases h with ⟨rfl, rfl, rfl, h⟩ | ⟨rfl, rfl, rfl, c, hc, hw⟩
  · rw [n32 (by omega)] at hs
    exact Or.inl ⟨rfl, hs, fun j hj => ⟨by rw [hv j (by omega), low_at _ _ _ hj], by
      have e : cs.getD j 0 = cs[j] := by simp [List.getD_eq_getElem?_getD, hj]
      show ¬ 255 < cs.getD j 0
      rw [e]; exact h _ (List.getElem_mem _)⟩⟩
  · rw [n32 (by omega)] at hs
    obtain ⟨j, hj, rfl⟩ := List.getElem_of_mem hc
    exact Or.inr ⟨rfl, hs, fun j hj => ⟨by rw [hv _ (by omega), wide_lo _ _ _ hj], by rw [hv _ (by omega), wide_hi _ _ _ hj]⟩, j, hj, by
      have e : cs.getD j 0 = cs[j] := by simp [List.getD_eq_getElem?_getD, hj]
      show 255 < cs.getD j 0
      rw [e]; exact hw⟩
/-- an object of exactly java/lang/String, its two fields found: as the laws ask it -/
theorem strObj {Z U : State} {a0 : Array Value} {kI : Nat} (wi : (Jvm.Cond.instantiable ST kI).before a0 Z = true) (al : Z.vm.Alike U.vm) {x : Addr} {v0 c0 : Value} (E : RoadKit.Exa Z U.heap x ST) (V : RoadKit.Fld Z U.heap x ST "value" "[B" v0) (C : RoadKit.Fld Z U.heap x ST "coder" "B" c0) :
    ∃ (D : Cell) (fV fC : Field), Blank ST x D U ∧ Found ST "value" "[B" fV U ∧ Found ST "coder" "B" fC U ∧ D.slots[fV.slot]? = some v0 ∧ D.slots[fC.slot]? = some c0 ∧ RoadKit.slotOf Z ST "value" "[B" = fV.slot ∧ RoadKit.slotOf Z ST "coder" "B" = fC.slot := by
  obtain ⟨D, cfV, kV, iV, fV, hD, gV, stV, knV, obV, asV, slV⟩ := V
  obtain ⟨D', cfC, kC, iC, fC, hD', gC, stC, -, -, asC, slC⟩ := C
  cases hD.symm.trans hD'
  obtain ⟨D2, kD, e1, e2, e3, e4, e5⟩ := E
  cases hD.symm.trans e1
  obtain ⟨c2, k2, i1, i2, i3, -⟩ := Cond.instantiable_spec wi
  cases e2.symm.trans i1
  cases e3.symm.trans i2
  obtain ⟨kU, u1, u2⟩ := al.2.2 _ _ e3
  exact ⟨D, fV, fC, ⟨hD, ⟨knV, fun q hq => by rw [hq] at obV; cases obV⟩, by rw [al.findClass]; exact e2, kU, u1, by rw [u2]; exact i3, by rw [u2]; exact e5 i3⟩, ⟨SBG.found_only al ⟨cfV, kV, iV, gV⟩, stV⟩, ⟨SBG.found_only al ⟨cfC, kC, iC, gC⟩, stC⟩, slV, slC, by simp [RoadKit.slotOf, gV], by simp [RoadKit.slotOf, gC]⟩
theorem sta_is {Z U : State} (al : Z.vm.Alike U.vm) {C n d : String} {v : Value} (S : RoadKit.Sta Z U.heap C n d v) : StaticIs U C n d v := by
  obtain ⟨cfS, iS, kS, fS, st, cS, t1, t2, t3, t4, t5, t6, t7⟩ := S
  exact StaticIs.there (s := { Z with heap := U.heap }) ⟨cfS, iS, kS, fS, st, cS, t1, t2, t3, t4, t5, (fun q => by rw [q] at t6; cases t6), t7⟩ al rfl
end StrChars.Road
namespace StrChars.Road
open Jvm Sem ClassFile Op Lib Jvm.Stand Jvm.Free Jvm.Free.XT
open Jvm.Lib.Cold (StaticIs)
/-- the road's facts of a String, as the laws ask it -/
theorem txt_of {Z U : State} {a0 : Array Value} {kI : Nat} (wi : (Jvm.Cond.instantiable ST kI).before a0 Z = true) (al : Z.vm.Alike U.vm) {x t : Addr} {kb : ClassId} {cs : List Int32} {cd N2 : Int32} {vs : List Value} (E : RoadKit.Exa Z U.heap x ST) (V : RoadKit.Fld Z U.heap x ST "value" "[B" (.ref t)) (C : RoadKit.Fld Z U.heap x ST "coder" "B" (.int cd)) (K : RoadKit.Arv Z U.heap t kb .byte N2 vs (.int 0)) (hc : CodA cs cd N2 vs) (hb : ∀ c ∈ cs, ¬ c < 0 ∧ ¬ (65535 : Int32) < c) (l2 : cs.length ≤ 4000) :
    ∃ A, Txt x t A cd cs.length (fun j => cs.getD j 0) U := by
  obtain ⟨A, K1, K2, K3, K4, K5, K6⟩ := K
  have hcod := hc.cod (by omega) K3 K5
  obtain ⟨D, fV, fC, hB, F1, F2, g1, g2, -, -⟩ := strObj wi al E V C
  exact ⟨A, ⟨_, hB.2.2.1, D, hB.1, rfl, by cases q : D.vm <;> first | rfl | exact absurd q (hB.2.1.2 _)⟩, Has.of hB F1 g1, Has.of hB F2 g2, ⟨K1.1, State.isArrayOf_alike al K1.2.1, K1.2.2, by rcases hcod with ⟨-, q, -⟩ | ⟨-, q, -⟩ <;> omega⟩, hcod, fun j hj => by
    have e : cs.getD j 0 = cs[j] := by simp [List.getD_eq_getElem?_getD, hj]
    show ¬ cs.getD j 0 < 0 ∧ ¬ 65535 < cs.getD j 0
    rw [e]; exact hb _ (List.getElem_mem _)⟩
end StrChars.Road
namespace StrChars
open Jvm Sem ClassFile Op Lib Jvm.Stand Jvm.Free.XT Jvm.Free.ALB Jvm.Free.JM Jvm.Free
open Jvm.Lib.Cold (StaticIs)
namespace ChN
def yN : MethodName := ⟨"java/lang/String", "charAt", "(I)C"⟩
abbrev yB : ByteArray := jdk_42_method_56_code
theorem d0 : decode yB 0 = .ok (.aload_n 0, 1) := by decide +kernel
theorem d1 : decode yB 1 = .ok (.invokevirtual 492, 3) := by decide +kernel
theorem d4 : decode yB 4 = .ok (.ifCond (.eq) 12, 3) := by decide +kernel
theorem d7 : decode yB 7 = .ok (.aload_n 0, 1) := by decide +kernel
theorem d8 : decode yB 8 = .ok (.getfield 9, 3) := by decide +kernel
theorem d11 : decode yB 11 = .ok (.iload_n 1, 1) := by decide +kernel
theorem d12 : decode yB 12 = .ok (.invokestatic 495, 3) := by decide +kernel
theorem d15 : decode yB 15 = .ok (.ireturn, 1) := by decide +kernel
def site : List Cond := [.fieldLink "java/lang/String" 9 "java/lang/String" "value" "[B", IsL.tab, LChA.tab] ++ virtW "java/lang/String" 492 "java/lang/String" IsL.yN IsL.yN ++ staticW "java/lang/String" 495 LChA.yN
def tab : Cond := tabOf yN yB 2 (some .char) site
def P (x t : Addr) (V : Cell) (n : Nat) (f : Nat → Int32) (z : Int32) (fm : Value) (i : Nat) (args : Array Value) (s : State) : Prop := args = #[.ref x, .int (Int32.ofNat i)] ∧ Txt x t V 0 n f s ∧ i < n ∧ StaticIs s "java/lang/String" "COMPACT_STRINGS" "Z" (.int z) ∧ ¬ z = 0 ∧ StaticIs s "jdk/internal/util/Preconditions" "SIOOBE_FORMATTER" "Ljava/util/function/BiFunction;" fm ∧ fm.isRef = true
def E (f : Nat → Int32) (i : Nat) (r : Option Value) (s u : State) : Prop := XT.PureE (some (.int (f i))) r s u
/-- charAt(i) of a Latin-1 String of n chars, i < n: f i -/
theorem law (l : Launch) (x t : Addr) (V : Cell) (n : Nat) (f : Nat → Int32) (z : Int32) (fm : Value) (i : Nat) : Law l yN 2 1 3 40 yB 2 (some .char) site (P x t V n f z fm i) (E f i) [] 0 0 := by
  refine Law.of_walk (plainFor_of_name (by decide +kernel)) (by decide +kernel) (by decide +kernel) (by decide) (fun _ _ h => by rw [h.1]; rfl) (fun _ U U' hal hh h => ⟨h.1, h.2.1.mv hal hh, h.2.2.1, h.2.2.2.1.there hal hh, h.2.2.2.2.1, h.2.2.2.2.2.1.there hal hh, h.2.2.2.2.2.2⟩) (fun r U U' V V' h1 hal h2 h => XT.PureE.mv r U U' V V' h1 hal h2 h) ?_
  intro p e s m args below meth c s₁ X0 hexec hbytes hml hret hlk hnm hown hh0 W hP
  obtain ⟨rfl, hx, hi, s1, hz, s3, rf⟩ := hP
  have v31 := hx.2.2.2.1.2.2.2
  have hr := hx.2.2.2.2.2 i hi
  have hx0 := hx.mv X0.warmed.alike hh0
  have c1 : Steps p.tables e below (s₁.setTop (entryFrame m #[.ref x, .int (Int32.ofNat i)] 2)) (s₁.setTop (mkF m 1 #[.val (.ref x), .val (.int (Int32.ofNat i))] [.ref x])) := Steps.trans (entry rfl) (by
    show Steps p.tables e below (s₁.setTop (mkF m 0 #[.val (.ref x), .val (.int (Int32.ofNat i))] [])) _
    refine XS.aloadN X0.here hexec rfl (hb hbytes d0) rfl rfl ?_
    exact Steps.refl _)
  obtain ⟨v2, T2, X2, E2, g2⟩ := X0.callV hexec (IsL.law l x 0 z) hown (wks W (virtW "java/lang/String" 492 "java/lang/String" IsL.yN IsL.yN)) rfl (by decide) (wk W IsL.tab) (W := 0) (Nat.le_of_ble_eq_true rfl) (Nat.le_of_ble_eq_true rfl) (Nat.le_refl _) (Nat.le_refl _) (hx0.1.fc X0.warmed.alike) hx0.1.is (g := (mkF m 1 #[.val (.ref x), .val (.int (Int32.ofNat i))] [.ref x])) rfl (by rw [hml]; rfl) c1 (argsL := []) (rest := []) rfl rfl (by show 2 * 0 + 0 ≤ _; decide) (hb hbytes d1) (⟨rfl, hx0.2.2.1, hx.2.2.2.2.1.cd, s1.there X0.warmed.alike hh0, hz⟩)
  obtain ⟨rfl, q2⟩ := E2
  have hh2 := q2.trans hh0
  have hx2 := hx.mv X2.warmed.alike hh2
  obtain ⟨-, k1, k2⟩ | ⟨k0, -⟩ := hx.2.2.2.2.1
  · have c3 : Steps p.tables e below (s₁.setTop (entryFrame m #[.ref x, .int (Int32.ofNat i)] 2)) (T2.setTop (mkF m 8 #[.val (.ref x), .val (.int (Int32.ofNat i))] [.ref x])) := Steps.trans g2 (by
      refine XS.ifNo X2.here hexec rfl (hb hbytes d4) rfl (i0_eq_f (by decide)) ?_
      refine XS.aloadN X2.here hexec rfl (hb hbytes d7) rfl rfl ?_
      exact Steps.refl _)
    obtain ⟨T4, X4, q4, st4⟩ := X2.hget hexec hown (wk W (.fieldLink "java/lang/String" 9 "java/lang/String" "value" "[B")) hx2.2.1 (g := (mkF m 8 #[.val (.ref x), .val (.int (Int32.ofNat i))] [.ref x])) rfl (rest := []) rfl (hb hbytes d8)
    have hh4 := q4.trans hh2
    have c5 : Steps p.tables e below (s₁.setTop (entryFrame m #[.ref x, .int (Int32.ofNat i)] 2)) (T4.setTop (mkF m 12 #[.val (.ref x), .val (.int (Int32.ofNat i))] [.int (Int32.ofNat i), .ref t])) := (c3.trans (st4 _ (Steps.refl _))).trans (by
      refine XS.iloadN X4.here hexec rfl (hb hbytes d11) rfl ?_
      exact Steps.refl _)
    obtain ⟨v6, T6, X6, E6, g6⟩ := X4.callS hexec (LChA.law l t V i (lo8 (f i)) fm) hown (wks W (staticW "java/lang/String" 495 LChA.yN)) (wk W LChA.tab) (W := 0) (Nat.le_of_ble_eq_true rfl) (Nat.le_of_ble_eq_true rfl) (Nat.le_refl _) (Nat.le_refl _) (g := (mkF m 12 #[.val (.ref x), .val (.int (Int32.ofNat i))] [.int (Int32.ofNat i), .ref t])) rfl (by rw [hml]; rfl) c5 (argsL := [.ref t, .int (Int32.ofNat i)]) (rest := []) rfl rfl (by show 2 * 0 + 0 ≤ _; decide) (hb hbytes d12) (⟨rfl, hx.2.2.2.1.mv X4.warmed.alike hh4, (k2 i hi).1, s3.there X4.warmed.alike hh4, rf⟩)
    obtain ⟨rfl, q6⟩ := E6
    rw [chr8_lo8 hr.1 (k2 i hi).2] at g6
    exact ⟨T6, some (.int (f i)), _, _, _, X6, rfl, rfl, rfl, (fun h => by cases h), ⟨rfl, q6.trans hh4⟩, fun fs hl => Steps.trans g6 (X6.ireturnOut hexec hret (narrow_ch hr.1 hr.2) (Or.inr (Or.inr (Or.inr (Or.inl rfl)))) (hb hbytes d15) hl)⟩
  · exact absurd k0 (by decide)
theorem pays {l : Launch} {R : Room} {p : Program} {e : Env} {below : List Frame} {s : State} {sargs : Array Value} {len W : Nat} (x t : Addr) (V : Cell) (n : Nat) (f : Nat → Int32) (z : Int32) (fm : Value) (i : Nat) (htab : tab.before sargs s = true) (hfr : 4 ≤ R.frames) (hlo : W + 53 ≤ R.locals) :
    Back l R p e below s sargs yN len W (fun A₁ a₁ => A₁.cells + 0 ≤ R.cells ∧ A₁.slots + 0 ≤ R.slots ∧ P x t V n f z fm i a₁ A₁.U) (fun A₁ _ v₁ B₁ => E f i v₁ A₁.U B₁.U ∧ B₁.locs = A₁.locs ++ [] ∧ B₁.cells = A₁.cells + 0 ∧ B₁.slots = A₁.slots + 0) :=
  (law l x t V n f z fm i).pays htab hfr (by omega)
end ChN
end StrChars
namespace StrChars.Road
open Jvm Sem ClassFile Op Lib Jvm.Stand Jvm.Free Jvm.Free.XT
open Jvm.Lib.Cold (StaticIs)
/-- the words of String.charAt(int), the Latin-1 road alone -/
abbrev wordsChN : List Jvm.Cond := [.code ChN.yN ChN.yB 2 (some .char), .initialized ST, .fieldLink ST 9 ST "value" "[B", .fieldLink ST 38 ST "COMPACT_STRINGS" "Z", .fieldLink ST 15 ST "coder" "B", .code IsL.yN IsL.yB 1 (some .boolean), .methodLink ST 492 IsL.yN, .declares IsL.yN, .selects ST IsL.yN IsL.yN, .instanceMethod IsL.yN,
  .methodLink ST 495 LChA.yN, .static LChA.yN, .code LChA.yN LChA.yB 2 (some .char), .initialized "java/lang/StringLatin1", .methodLink "java/lang/StringLatin1" 9 JO.Str_checkIndex.yN, .static JO.Str_checkIndex.yN, .code JO.Str_checkIndex.yN JO.Str_checkIndex.yB 2 none,
  .fieldLink ST 1053 "jdk/internal/util/Preconditions" "SIOOBE_FORMATTER" "Ljava/util/function/BiFunction;", .methodLink ST 1059 JC.PreCheck.yN, .static JC.PreCheck.yN, .code JC.PreCheck.yN JC.PreCheck.yB 3 (some .int), .initialized "jdk/internal/util/Preconditions"]
theorem tabChN_of {a : Array Value} {s : State} (h : ∀ w ∈ wordsChN, w.before a s = true) : ChN.tab.before a s = true := by
  have hp : JC.PreCheck.tab.before a s = true := unparts (wk h (.code JC.PreCheck.yN JC.PreCheck.yB 3 (some .int))) (wks h (.initialized JC.PreCheck.yN.cls :: JC.PreCheck.site))
  have qk := consq hp h
  have hk : JO.Str_checkIndex.tab.before a s = true := unparts (wk qk (.code JO.Str_checkIndex.yN JO.Str_checkIndex.yB 2 none)) (wks qk (.initialized JO.Str_checkIndex.yN.cls :: JO.Str_checkIndex.site))
  have ql := consq hk h
  have hl : LChA.tab.before a s = true := unparts (wk ql (.code LChA.yN LChA.yB 2 (some .char))) (wks ql (.initialized LChA.yN.cls :: LChA.site))
  have hi : IsL.tab.before a s = true := unparts (wk h (.code IsL.yN IsL.yB 1 (some .boolean))) (wks h (.initialized IsL.yN.cls :: IsL.site))
  have q := consq hi (consq hl h)
  exact unparts (wk q (.code ChN.yN ChN.yB 2 (some .char))) (wks q (.initialized ChN.yN.cls :: ChN.site))
theorem movedChN {Z s : State} {a0 args : Array Value} (hZ : Z.Warmed39 s.vm) (hw : ∀ d ∈ wordsChN, d.before a0 Z = true) : ∀ d ∈ wordsChN, d.before args s = true := fun d hd => by
  have t : ∀ d ∈ wordsChN, (d.onTables && d.keepsFace) = true := by decide +kernel
  exact RoadKit.mv hZ (hw d hd) (t d hd)
/-- **charAt(i) OF A LATIN-1 STRING**, i < n: the char -/
theorem chN {p : Program} {l : Launch} {e : Env} {R : Room} {s : State} {args : Array Value} {below : List Frame} {len W : Nat} {Z : State} {a0 : Array Value} {h : Heap} (hZ : Z.Warmed39 s.vm) (hw : ∀ d ∈ wordsChN, d.before a0 Z = true) {kI : Nat} (wi : (Jvm.Cond.instantiable ST kI).before a0 Z = true)
    {x t : Addr} {kb : ClassId} {cs : List Int32} {N2 z : Int32} {vs : List Value} {fm : Value} {i : Nat} {j : Int32} (E : RoadKit.Exa Z h x ST) (V : RoadKit.Fld Z h x ST "value" "[B" (.ref t)) (C : RoadKit.Fld Z h x ST "coder" "B" (.int 0)) (K : RoadKit.Arv Z h t kb .byte N2 vs (.int 0)) (hc : CodA cs 0 N2 vs) (hb : ∀ c ∈ cs, ¬ c < 0 ∧ ¬ (65535 : Int32) < c)
    (S : RoadKit.Sta Z h ST "COMPACT_STRINGS" "Z" (.int z)) (hz : ¬ z = 0) (F : RoadKit.Sta Z h "jdk/internal/util/Preconditions" "SIOOBE_FORMATTER" "Ljava/util/function/BiFunction;" fm) (rf : fm.isRef = true) (l2 : cs.length ≤ 4000) (hi : i < cs.length) (hj : j = Int32.ofNat i) (hfr : 4 ≤ R.frames) (hlo : W + 53 ≤ R.locals) :
    Back l R p e below s args (⟨"java/lang/String", "charAt", "(I)C"⟩ : MethodName) len W (fun P a => a = #[.ref x, .int j] ∧ P.U.heap = h ∧ P.cells + 0 ≤ R.cells ∧ P.slots + 0 ≤ R.slots)
      (fun P _ v B => ∃ L, (v = some (.int (cs.getD i 0)) ∧ L = [] ∧ B.U.heap = h) ∧ B.locs = P.locs ++ L ∧ B.cells = P.cells + 0 ∧ B.slots = P.slots + 0) := by
  subst hj
  intro m meth c P g ig mk a X hg hsize hdg hW hn hp'
  obtain ⟨rfl, rfl, r1, r2⟩ := hp'
  have al : Z.vm.Alike P.U.vm := hZ.alike.trans X.warmed.alike
  obtain ⟨A, hx⟩ := txt_of wi al E V C K hc hb l2
  obtain ⟨v, B, X', ⟨⟨hv, hh⟩, hl, hk, hs⟩, st⟩ := ChN.pays x t A cs.length (fun j => cs.getD j 0) z fm i (tabChN_of (movedChN hZ hw)) hfr hlo m meth c P g ig mk _ X hg hsize hdg hW hn ⟨r1, r2, rfl, hx, hi, sta_is al S, hz, sta_is al F, rf⟩
  exact ⟨v, B, X', ⟨[], ⟨hv, rfl, hh⟩, hl, hk, hs⟩, st⟩
end StrChars.Road
end Jvm.Pilot.@@N@@
namespace Jvm.Pilot.@@N@@
open Jvm Jvm.ClassFile Sem Op Lib Jvm.Free Jvm.Stand Jvm.LawKit Jvm.RoadKit Bundle Jvm.Pilot.@@N@@.Jvm.D
/-- an object of exactly this class that the program made (no cell of the machine's own) -/
def Obj (Z : State) (h : Heap) (a : Addr) (C : String) : Prop := ∃ (cell : Cell) (k : Class), h[a]? = some cell ∧ Z.vm.findClass C = some cell.cls ∧ Z.vm.classes[cell.cls]? = some k ∧ cell.vm = .none ∧ (k.kind = .ordinary → cell.slots.size = k.instanceTypes.size)
section ObjS
variable {Z : State} {h h' h0 : Heap} {a b : Addr} {C O n d : String} {sl kk : Nat} {v : Value} {ws : List Addr} {a0 : Array Value}
theorem Obj.of (E : Exa Z h a C) (q : ∃ cell : Cell, h[a]? = some cell ∧ cell.vm = .none ∧ cell.monitor = {}) : Obj Z h a C := by
  obtain ⟨cell, k, h1, h2, h3, h4, h5⟩ := E
  obtain ⟨cell', g1, g2, -⟩ := q
  cases h1.symm.trans g1
  exact ⟨cell, k, h1, h2, h3, g2, h5⟩
theorem Obj.exa (F : Obj Z h a C) : Exa Z h a C := by
  obtain ⟨cell, k, h1, h2, h3, h4, h5⟩ := F
  exact ⟨cell, k, h1, h2, h3, by rw [h4]; rfl, h5⟩
theorem Obj.lt (F : Obj Z h a C) : a < h.size := F.exa.lt
theorem Obj.ext (F : Obj Z h b C) (E : Ext h h') : Obj Z h' b C := by obtain ⟨cell, k, h1, r⟩ := F; exact ⟨cell, k, E.2 _ _ h1, r⟩
theorem Obj.keep (F : Obj Z h a C) (K : Keep h h' ws) : Obj Z h' a C := by
  obtain ⟨cell, k, h1, h2, h3, h4, h5⟩ := F
  obtain ⟨c', q1, q2, q3, q4⟩ := K.2.2 _ _ h1
  exact ⟨c', k, q1, by rw [q2]; exact h2, by rw [q2]; exact h3, by rw [q3]; exact h4, fun q => by rw [q4]; exact h5 q⟩
theorem Obj.wr (F : Obj Z h b C) (W : Wr h h' a sl v) : Obj Z h' b C := F.keep (Keep.of_wr W)
/-- each field that is laid in such an object holds something -/
theorem Obj.fld (F : Obj Z h a C) (L : Laid Z a0 C O n d) (wi : (Cond.instantiable C kk).before a0 Z = true) : ∃ v, Fld Z h a O n d v := by
  obtain ⟨cell, k, h1, h2, h3, h4, h5⟩ := F
  obtain ⟨c1, k1, cf, kf, i, f, a1, a2, a3, a4, a5, a6, -⟩ := L.spec
  obtain ⟨c2, k2, i1, i2, i3, -⟩ := Cond.instantiable_spec wi
  cases h2.symm.trans a1
  cases h2.symm.trans i1
  cases a2.symm.trans i2
  cases h3.symm.trans a2
  have hs := h5 i3
  have hlt : f.slot < cell.slots.size := by rw [hs]; exact (Array.getElem?_eq_some_iff.mp a6).1
  exact ⟨cell.slots[f.slot], cell, cf, kf, i, f, h1, a3, a4, by rw [h4]; simp, by rw [h4]; rfl, a5, Array.getElem?_eq_getElem hlt⟩
end ObjS
section OwnWords
variable {args : Array Value} {s : State} {t u : Term} {a b : Addr} {n : Int32} {cl : Cell} {ty : FieldType} {v : Value}
theorem own_wI (h : (Cond.eq t (Term.int n)).value args s none s [] = some true) : t.eval args s none [] s = some (.int n) := by
  cases hx : t.eval args s none [] s with
  | none => simp [Cond.value, hx] at h
  | some x => cases x <;> simp [Cond.value, hx, Term.eval] at h ⊢ <;> exact h
theorem own_wR (h : (Cond.eq t u).value args s none s [] = some true) (hu : u.eval args s none [] s = some (.ref b)) : t.eval args s none [] s = some (.ref b) := by
  cases hx : t.eval args s none [] s with
  | none => simp [Cond.value, hx] at h
  | some x => cases x <;> simp [Cond.value, hx, hu] at h ⊢ <;> exact h
theorem own_wL (h : (Term.length t).eval args s none [] s = some (.int n)) (ht : t.eval args s none [] s = some (.ref a)) (A : Arr s s.heap a cl ty) : cl.slots.size < 2 ^ 31 ∧ cl.slots.size.toInt32 = n := by
  have ha : s.arrayAt? a = some cl := Arr.fin (Z := s) (U := s) (Vm.Alike.refl _) A
  simp only [Term.eval, ht, ha, Option.bind_eq_bind, Option.bind_some] at h
  by_cases q : cl.slots.size < 2 ^ 31
  · rw [if_pos q] at h; exact ⟨q, Value.int.inj (Option.some.inj h)⟩
  · rw [if_neg q] at h; cases h
theorem own_wE {j : Int32} (h : (Term.elem t (Term.int j)).eval args s none [] s = some v) (ht : t.eval args s none [] s = some (.ref a)) (A : Arr s s.heap a cl ty) : cl.slots[j.toNatClampNeg]? = some v := (elem_in h ht rfl A.1).2
theorem own_wF {C f d : String} (h : (Term.field t C f d).eval args s none [] s = some v) (ht : t.eval args s none [] s = some (.ref a)) : Fld s s.heap a C f d v := Fld.start (by rw [← h]; exact (fld_at ht).symm)
end OwnWords
/-! lists of bytes in a builder's array of 16, and small numbers as ints -/
section OwnW
def own_B (cs : List Int32) : List Value := (cs.map fun c => c.toInt8.toInt32).map Value.int
theorem own_Blen (cs : List Int32) : (own_B cs).length = cs.length := by simp [own_B]
theorem own_Bapp (a b : List Int32) : own_B (a ++ b) = own_B a ++ own_B b := by simp [own_B]
def own_W (B : List Value) : List Value := B ++ List.replicate (16 - B.length) (.int (0 : Int32))
theorem own_Wlen {B : List Value} (h : B.length ≤ 16) : (own_W B).length = 16 := by simp [own_W]; omega
theorem own_on {n : Nat} (h : n ≤ 4000) : (Int32.ofNat n).toInt = n ∧ ¬ Int32.ofNat n < 0 ∧ (Int32.ofNat n).toNatClampNeg = n := by
  have e : (Int32.ofNat n).toInt = n := Int32.toInt_ofNat_of_lt (by omega)
  have hn : ¬ Int32.ofNat n < 0 := by
    rw [Int32.lt_iff_toInt_lt, e]
    have : (0 : Int32).toInt = 0 := by decide
    omega
  refine ⟨e, hn, ?_⟩
  have := nat_of hn
  omega
theorem own_addN {a b : Nat} (h : a + b ≤ 4000) : Int32.ofNat a + Int32.ofNat b = Int32.ofNat (a + b) := by
  apply Int32.toInt_inj.mp
  have e1 := (own_on (n := a) (by omega)).1
  have e2 := (own_on (n := b) (by omega)).1
  have e3 := (own_on h).1
  have q := c_iadd (Int32.ofNat a) (Int32.ofNat b)
  have r := rng32 (Int32.ofNat a + Int32.ofNat b)
  omega
theorem own_WA {B U : List Value} {n : Nat} (hn : U.length = n) (h : B.length + n ≤ 16) : (own_W B).take (Int32.ofNat B.length).toNatClampNeg ++ U ++ (own_W B).drop ((Int32.ofNat B.length).toNatClampNeg + (Int32.ofNat n).toNatClampNeg) = own_W (B ++ U) := by
  subst hn
  rw [(own_on (n := B.length) (by omega)).2.2, (own_on (n := U.length) (by omega)).2.2]
  simp only [own_W, List.take_left', List.length_append]
  rw [List.drop_append, List.drop_eq_nil_of_le (by omega : B.length ≤ B.length + U.length), List.nil_append, List.drop_replicate]
  congr 2
  omega
theorem own_Wtake {B : List Value} (h : B.length ≤ 16) : (own_W B).take (Int32.ofNat B.length).toNatClampNeg = B := by
  rw [(own_on (n := B.length) (by omega)).2.2]
  simp only [own_W]
  rw [List.take_append_of_le_length (Nat.le_refl _), List.take_length]
theorem own_room {a b : Nat} (h : a + b ≤ 16) : ¬ (0 : Int32) < Int32.ofNat a + Int32.ofNat b - (16 : Int32) := by
  rw [own_addN (by omega)]
  have e3 := (own_on (n := a + b) (by omega)).1
  have q := c_isub (Int32.ofNat (a + b)) 16
  have r := rng32 (Int32.ofNat (a + b) - 16)
  have k : (16 : Int32).toInt = 16 := by decide
  have k0 : (0 : Int32).toInt = 0 := by decide
  rw [Int32.lt_iff_toInt_lt]
  omega
end OwnW
def own_EL : List (String × Nat) := [("java/lang/String", 7)]
theorem own_wS {Z : State} {a0 : Array Value} (hw : ∀ d ∈ tables_1, d.before a0 Z = true) : ∀ a ∈ Bundle.stringAtoms, a.before a0 Z = true := fun d hd => hw d ((by decide +kernel : ∀ d ∈ Bundle.stringAtoms, d ∈ tables_1) d hd)
theorem own_hEL {Z : State} {a0 : Array Value} (hw : ∀ d ∈ tables_1, d.before a0 Z = true) : EW Z a0 own_EL := (EW.cons (hw _ (List.mem_of_getElem? (i := 18) rfl)) (by decide) EW.nil)
theorem own_shr0 (x : Int32) : x >>> ((0 : Int32) &&& 31) = x := by
  apply Int32.toInt_inj.mp
  rw [c_ishr x 0 0 (by decide)]; simp
theorem own_shl0 (x : Int32) : x <<< ((0 : Int32) &&& 31) = x := by
  apply Int32.toInt_inj.mp
  have h := c_ishl x 0 0 (by decide)
  have r1 := rng32 x
  have r2 := rng32 (x <<< ((0 : Int32) &&& 31))
  simp only [Nat.pow_zero, Int.natCast_one, Int.mul_one, Int.cast_ofNat_Int] at h
  omega
theorem own_rng (us : List Value) (d : Value) : us = (List.range us.length).map fun i => us.getD ((0 : Int32).toNatClampNeg + i) d := by
  apply List.ext_getElem
  · simp
  · intro i h1 h2
    have e : (0 : Int32).toNatClampNeg = 0 := by decide
    simp [e, List.getD_eq_getElem?_getD, h1]
theorem own_decl {s : State} {a : Array Value} {y : MethodName} {bytes : ByteArray} {maxL : Nat} {ret : Option FieldType} (w1 : (Cond.instanceMethod y).before a s = true) (w2 : (Cond.code y bytes maxL ret).before a s = true) : (Cond.declares y).before a s = true := by
  obtain ⟨mk, methM, hnamed, hmethM, hst, -⟩ := Cond.instanceMethod_spec w1
  obtain ⟨m2, cM, q1, -, -, -, -, -, -, hsig⟩ := Cond.code_spec hnamed w2
  cases hmethM.symm.trans q1
  simp [Cond.before, Cond.holds, Cond.value, hnamed, hmethM, hst, hsig]
theorem own_nf {s : State} {a : Array Value} {y y' : MethodName} (hc : y.cls = y'.cls) (N : NotFace s y') (w : (Cond.instanceMethod y').before a s = true) : NotFace s y := fun r0 h0 => by
  obtain ⟨mk, methM, hnamed, -⟩ := Cond.instanceMethod_spec w
  obtain ⟨kr, h1, h2⟩ := N mk hnamed
  have e1 := findClass_of_methodNamed h0
  have e2 := findClass_of_methodNamed hnamed
  rw [hc, e2] at e1
  rw [← Option.some.inj e1]
  exact ⟨kr, h1, h2⟩
theorem own_same {s : State} {a : Array Value} {y : MethodName} (w : (Cond.instanceMethod y).before a s = true) (N : NotFace s y) (hy : y.cls ≠ "java/lang/invoke/MethodHandle" ∧ y.cls ≠ "java/lang/invoke/VarHandle") : (Cond.sameMethod y.cls y.cls y.name y.desc).before a s = true := by
  obtain ⟨mk, methM, hnamed, -⟩ := Cond.instanceMethod_spec w
  obtain ⟨kr, h1, h2⟩ := N mk hnamed
  have e1 := findClass_of_methodNamed hnamed
  have e2 := State.methodFound?_of_named hnamed hy
  obtain ⟨c1, n1, d1⟩ := y
  simp only at e1 e2
  simp [Cond.before, Cond.holds, Cond.value, e1, e2, hnamed, h1, h2]
theorem pn_java_lang_String : plainName "java/lang/String" = true := by first | (simp [plainName, overriddenIn]; done) | decide +kernel
theorem d_jdk_42_method_152_code_0 : decode jdk_42_method_152_code 0 = .ok (.getstatic 38, 3) := by decide +kernel
theorem d_jdk_42_method_152_code_3 : decode jdk_42_method_152_code 3 = .ok (.ifCond .eq 10, 3) := by decide +kernel
theorem d_jdk_42_method_152_code_6 : decode jdk_42_method_152_code 6 = .ok (.aload_n 0, 1) := by decide +kernel
theorem d_jdk_42_method_152_code_7 : decode jdk_42_method_152_code 7 = .ok (.getfield 15, 3) := by decide +kernel
theorem d_jdk_42_method_152_code_10 : decode jdk_42_method_152_code 10 = .ok (.goto 4, 3) := by decide +kernel
theorem d_jdk_42_method_152_code_14 : decode jdk_42_method_152_code 14 = .ok (.ireturn, 1) := by decide +kernel
theorem ef_own_coder (m : MethodId) {sa : Addr} : entryFrame m #[(.ref sa)] 1 = mkF m 0 #[.val (.ref sa)] [] := by first | (simp [entryFrame, mkF, argsToLocals, Value.category]; done) | rfl
def Q_own_coder (Z : State) (sa : Addr) (G1 : Int32) (h0 : Heap) (n0 : Nat) (v : Option Value) (h : Heap) (L : List Loc) : Prop := v = some (.int (0 : Int32)) ∧ Fr n0 L ∧ h = h0
set_option maxRecDepth 65536 in
set_option maxHeartbeats 40000000 in
theorem own_coder (l : Launch) (Z : State) (a0 : Array Value) (hw : ∀ d ∈ tables_1, d.before a0 Z = true) (ws : List Jvm.Cond) (sa : Addr) (G1 : Int32) (h0 : Heap) (n0 : Nat) (Z0 : n0 ≤ h0.size) (CS : Fld Z h0 sa "java/lang/String" "coder" "B" (.int (0 : Int32))) (O2 : Sta Z Z.heap "java/lang/String" "COMPACT_STRINGS" "Z" (.int G1)) (P5 : ¬ G1 = (0 : Int32)) (XO : Old Z n0 h0) :
    MetFree l (⟨"java/lang/String", "coder", "()B"⟩ : MethodName) (head1 (Jvm.Cond.code (⟨"java/lang/String", "coder", "()B"⟩ : MethodName) jdk_42_method_152_code 1 (some .byte) :: ws) ({ frames := 0, cells := 0, slots := 0, locals := 0 } : Room)) (fun a U => a = #[(.ref sa)] ∧ Z.Warmed39 U.vm ∧ U.heap = h0) (fun _ _ _ _ _ => True) (fun _ U o U' => ∃ v L, o = .returned v ∧ Q_own_coder Z sa G1 h0 n0 v U'.heap L ∧ FrameEnd U o U' L ({ frames := 0, cells := 0, slots := 0, locals := 0 } : Room).cells ({ frames := 0, cells := 0, slots := 0, locals := 0 } : Room).slots) := by
  refine MetFree.of_bodySF (plainFor_of_name pn_java_lang_String) hisR ?_
  intro p e s m args below meth c s₁ Bd hml0 hP hK
  obtain ⟨rfl, hZ, hh⟩ := hP
  have hx := Bd.exec
  have hby := Bd.bytes
  have hml : c.maxLocals = 1 := hml0
  have hown : s.vm.findClass "java/lang/String" = some m.cls := findClass_of_methodNamed Bd.named
  have hnm := (name_of_methodNamed Bd.named Bd.method).1
  have X0 : Stand p l e ({ frames := 0, cells := 0, slots := 0, locals := 0 } : Room) s m #[(.ref sa)] below meth c s₁ [] 0 0 := Stand.of_body Bd
  have e0 : s₁.heap = h0 := by rw [← hh, Bd.state]; rfl
  have N0 := Fr.nil n0
  have pre0 : ∀ t, Steps p.tables e below (s₁.setTop (mkF m 0 #[.val (.ref sa)] [])) t → Steps p.tables e below (s₁.setTop (entryFrame m #[(.ref sa)] 1)) t := fun t k => castTop (ef_own_coder m) k
  obtain ⟨T1, X1, e1, st1⟩ := getS2 X0 hx hZ hown (host := "") (Or.inl (hw _ (List.mem_of_getElem? (i := 70) rfl))) Via.refl e0 (O2.ext XO.2) (g := (mkF m 0 #[.val (.ref sa)] [])) rfl (hb hby d_jdk_42_method_152_code_0)
  have pre2 : ∀ t, Steps p.tables e below (T1.setTop (mkF m 3 #[.val (.ref sa)] [(.int G1)])) t → Steps p.tables e below (s₁.setTop (entryFrame m #[(.ref sa)] 1)) t := by
    intro t kk
    refine pre0 t ?_
    show Steps p.tables e below (s₁.setTop (mkF m 0 #[.val (.ref sa)] [])) _
    exact st1 _ kk
  obtain ⟨T3, X3, e3, st3⟩ := getF X1 hx hZ hown (host := "") (Or.inl (hw _ (List.mem_of_getElem? (i := 25) rfl))) Via.refl e1 CS (g := (mkF m 7 #[.val (.ref sa)] [(.ref sa)])) rfl rfl (hb hby d_jdk_42_method_152_code_7)
  have pre4 : ∀ t, Steps p.tables e below (T3.setTop (mkF m 10 #[.val (.ref sa)] [(.int (0 : Int32))])) t → Steps p.tables e below (s₁.setTop (entryFrame m #[(.ref sa)] 1)) t := by
    intro t kk
    refine pre2 t ?_
    show Steps p.tables e below (T1.setTop (mkF m 3 #[.val (.ref sa)] [(.int G1)])) _
    refine XS.ifNo X1.here hx rfl (hb hby d_jdk_42_method_152_code_3) rfl ((if0 _ _).trans (feq P5).1) ?_
    show Steps p.tables e below (T1.setTop (mkF m 6 #[.val (.ref sa)] [])) _
    refine XS.aloadN X1.here hx rfl (hb hby d_jdk_42_method_152_code_6) rfl rfl ?_
    show Steps p.tables e below (T1.setTop (mkF m 7 #[.val (.ref sa)] [(.ref sa)])) _
    exact st3 _ kk
  obtain ⟨fs, hr, hrun, hended, hW, hsame⟩ := X3.leave (v := some (.int (0 : Int32))) (fun h => by rw [Bd.returns] at h; cases h)
  refine ⟨_, _, pre4 _ ?_, hrun, hended, _, _, rfl, ?_, ⟨_, rfl⟩, hW, hsame.mono (by decide) (by decide)⟩
  · show Steps p.tables e below (T3.setTop (mkF m 10 #[.val (.ref sa)] [(.int (0 : Int32))])) _
    refine XS.goto X3.here hx rfl (pc0 := 10) (pc' := 14) rfl (hb hby d_jdk_42_method_152_code_10) (by decide) (by decide) ?_
    show Steps p.tables e below (T3.setTop (mkF m 14 #[.val (.ref sa)] [(.int (0 : Int32))])) _
    exact retN X3 hx (t := .byte) Bd.returns (by simp) (hb hby d_jdk_42_method_152_code_14) hr
  · show Q_own_coder Z sa G1 h0 n0 _ T3.heap _
    rw [e3]
    exact ⟨rfl, N0, rfl⟩
theorem d_jdk_42_method_54_code_0 : decode jdk_42_method_54_code 0 = .ok (.aload_n 0, 1) := by decide +kernel
theorem d_jdk_42_method_54_code_1 : decode jdk_42_method_54_code 1 = .ok (.getfield 9, 3) := by decide +kernel
theorem d_jdk_42_method_54_code_4 : decode jdk_42_method_54_code 4 = .ok (.arraylength, 1) := by decide +kernel
theorem d_jdk_42_method_54_code_5 : decode jdk_42_method_54_code 5 = .ok (.aload_n 0, 1) := by decide +kernel
theorem pd___B : parseMethodDescriptor "()B" = some ⟨[], some .byte⟩ := by decide +kernel
theorem d_jdk_42_method_54_code_6 : decode jdk_42_method_54_code 6 = .ok (.invokevirtual 335, 3) := by decide +kernel
theorem d_jdk_42_method_54_code_9 : decode jdk_42_method_54_code 9 = .ok (.ishr, 1) := by decide +kernel
theorem d_jdk_42_method_54_code_10 : decode jdk_42_method_54_code 10 = .ok (.ireturn, 1) := by decide +kernel
theorem ef_own_slen (m : MethodId) {sa : Addr} : entryFrame m #[(.ref sa)] 1 = mkF m 0 #[.val (.ref sa)] [] := by first | (simp [entryFrame, mkF, argsToLocals, Value.category]; done) | rfl
def Q_own_slen (Z : State) (sa sb : Addr) (kS : ClassId) (z : Int32) (us : List Value) (G1 : Int32) (h0 : Heap) (n0 : Nat) (v : Option Value) (h : Heap) (L : List Loc) : Prop := v = some (.int z) ∧ Fr n0 L ∧ h = h0
set_option maxRecDepth 65536 in
set_option maxHeartbeats 40000000 in
theorem own_slen (l : Launch) (Z : State) (a0 : Array Value) (hw : ∀ d ∈ tables_1, d.before a0 Z = true) (ws : List Jvm.Cond) (sa sb : Addr) (kS : ClassId) (z : Int32) (us : List Value) (G1 : Int32) (h0 : Heap) (n0 : Nat) (Z0 : n0 ≤ h0.size) (ES : Exa Z h0 sa "java/lang/String") (VS : Fld Z h0 sa "java/lang/String" "value" "[B" (.ref sb)) (CS : Fld Z h0 sa "java/lang/String" "coder" "B" (.int (0 : Int32))) (KS : Arv Z h0 sb kS .byte z us (.int (0 : Int32))) (O2 : Sta Z Z.heap "java/lang/String" "COMPACT_STRINGS" "Z" (.int G1)) (P5 : ¬ G1 = (0 : Int32)) (XO : Old Z n0 h0) :
    MetFree l (⟨"java/lang/String", "length", "()I"⟩ : MethodName) (head1 (Jvm.Cond.code (⟨"java/lang/String", "length", "()I"⟩ : MethodName) jdk_42_method_54_code 1 (some .int) :: ws) ({ frames := 1, cells := 0, slots := 0, locals := 13 } : Room)) (fun a U => a = #[(.ref sa)] ∧ Z.Warmed39 U.vm ∧ U.heap = h0) (fun _ _ _ _ _ => True) (fun _ U o U' => ∃ v L, o = .returned v ∧ Q_own_slen Z sa sb kS z us G1 h0 n0 v U'.heap L ∧ FrameEnd U o U' L ({ frames := 1, cells := 0, slots := 0, locals := 13 } : Room).cells ({ frames := 1, cells := 0, slots := 0, locals := 13 } : Room).slots) := by
  refine MetFree.of_bodySF (plainFor_of_name pn_java_lang_String) hisR ?_
  intro p e s m args below meth c s₁ Bd hml0 hP hK
  obtain ⟨rfl, hZ, hh⟩ := hP
  have hx := Bd.exec
  have hby := Bd.bytes
  have hml : c.maxLocals = 1 := hml0
  have hown : s.vm.findClass "java/lang/String" = some m.cls := findClass_of_methodNamed Bd.named
  have hnm := (name_of_methodNamed Bd.named Bd.method).1
  have X0 : Stand p l e ({ frames := 1, cells := 0, slots := 0, locals := 13 } : Room) s m #[(.ref sa)] below meth c s₁ [] 0 0 := Stand.of_body Bd
  have e0 : s₁.heap = h0 := by rw [← hh, Bd.state]; rfl
  have N0 := Fr.nil n0
  have pre0 : ∀ t, Steps p.tables e below (s₁.setTop (mkF m 0 #[.val (.ref sa)] [])) t → Steps p.tables e below (s₁.setTop (entryFrame m #[(.ref sa)] 1)) t := fun t k => castTop (ef_own_slen m) k
  obtain ⟨T1, X1, e1, st1⟩ := getF X0 hx hZ hown (host := "") (Or.inl (hw _ (List.mem_of_getElem? (i := 24) rfl))) Via.refl e0 VS (g := (mkF m 1 #[.val (.ref sa)] [(.ref sa)])) rfl rfl (hb hby d_jdk_42_method_54_code_1)
  have pre2 : ∀ t, Steps p.tables e below (T1.setTop (mkF m 4 #[.val (.ref sa)] [(.ref sb)])) t → Steps p.tables e below (s₁.setTop (entryFrame m #[(.ref sa)] 1)) t := by
    intro t kk
    refine pre0 t ?_
    show Steps p.tables e below (s₁.setTop (mkF m 0 #[.val (.ref sa)] [])) _
    refine XS.aloadN X0.here hx rfl (hb hby d_jdk_42_method_54_code_0) rfl rfl ?_
    show Steps p.tables e below (s₁.setTop (mkF m 1 #[.val (.ref sa)] [(.ref sa)])) _
    exact st1 _ kk
  obtain ⟨cl3, Ar3, q3, S3, M3, H3, G3⟩ := id KS
  obtain ⟨cq4, kq4, q4a, q4b, q4c⟩ := isOf hZ e1 ES
  obtain ⟨_, _, ⟨T4, L4, k4, n4⟩, -, X4, ⟨Lc4, hQ4, l4, y4, z4⟩, st4⟩ := X1.virtualBack hx (y := (⟨"java/lang/String", "coder", "()B"⟩ : MethodName)) (z := (⟨"java/lang/String", "coder", "()B"⟩ : MethodName)) hown (mvT hZ (hw _ (List.mem_of_getElem? (i := 65) rfl))) (mvT hZ (hw _ (List.mem_of_getElem? (i := 66) rfl))) (notFace_of_selects (args := #[]) (mvT hZ (hw _ (List.mem_of_getElem? (i := 68) rfl)))) (mvT hZ (hw _ (List.mem_of_getElem? (i := 68) rfl))) (mvT hZ (hw _ (List.mem_of_getElem? (i := 67) rfl))) (by decide) (backOf (W := 1) (own_coder l Z a0 hw [] sa G1 h0 n0 Z0 CS O2 P5 XO) hZ (hw _ (List.mem_of_getElem? (i := 69) rfl)) (hw _ (List.mem_of_getElem? (i := 6) rfl)) (by decide) (by decide)) q4a q4c (g := (mkF m 6 #[.val (.ref sa)] [(.ref sa), (.int z)])) rfl (by rw [hml]; rfl) (Steps.refl _) (argsL := []) (rest := [(.int z)]) (lenOf pd___B rfl) rfl (by show 2 * 0 + _ ≤ _; exact Nat.le_of_eq rfl) (hb hby d_jdk_42_method_54_code_6) (fun _ _ => ⟨rfl, e1, (by decide : 0 + 0 ≤ _), (by decide : 0 + 0 ≤ _)⟩)
  dsimp only [Pt.U, Pt.locs, Pt.cells, Pt.slots] at X4 l4 y4 z4 st4 hQ4
  subst l4 y4 z4
  obtain ⟨rfl, N4q, e4q⟩ := hQ4
  have N4 := Fr.app N0 N4q
  have pre5 : ∀ t, Steps p.tables e below (T4.setTop (mkF m 9 #[.val (.ref sa)] [(.int (0 : Int32)), (.int z)])) t → Steps p.tables e below (s₁.setTop (entryFrame m #[(.ref sa)] 1)) t := by
    intro t kk
    refine pre2 t ?_
    show Steps p.tables e below (T1.setTop (mkF m 4 #[.val (.ref sa)] [(.ref sb)])) _
    refine X1.arraylength hx (by rw [e1]; exact Ar3.1) (State.isArrayOf_alike hZ.alike Ar3.2.1) (g := (mkF m 4 #[.val (.ref sa)] [(.ref sb)])) rfl rfl (hb hby d_jdk_42_method_54_code_4) _ ?_
    rw [len_of S3 M3]
    show Steps p.tables e below (T1.setTop (mkF m 5 #[.val (.ref sa)] [(.int z)])) _
    refine XS.aloadN X1.here hx rfl (hb hby d_jdk_42_method_54_code_5) rfl rfl ?_
    show Steps p.tables e below (T1.setTop (mkF m 6 #[.val (.ref sa)] [(.ref sa), (.int z)])) _
    exact st4.trans kk
  have pre6 : ∀ t, Steps p.tables e below (T4.setTop (mkF m 10 #[.val (.ref sa)] [(.int (z >>> ((0 : Int32) &&& 31)))])) t → Steps p.tables e below (s₁.setTop (entryFrame m #[(.ref sa)] 1)) t := by
    intro t kk
    refine pre5 t ?_
    show Steps p.tables e below (T4.setTop (mkF m 9 #[.val (.ref sa)] [(.int (0 : Int32)), (.int z)])) _
    refine XS.ishr X4.here hx rfl (hb hby d_jdk_42_method_54_code_9) rfl ?_
    exact kk
  rw [own_shr0] at pre6
  obtain ⟨fs, hr, hrun, hended, hW, hsame⟩ := X4.leave (v := some (.int z)) (fun h => by rw [Bd.returns] at h; cases h)
  refine ⟨_, _, pre6 _ ?_, hrun, hended, _, _, rfl, ?_, ⟨_, rfl⟩, hW, hsame.mono (by decide) (by decide)⟩
  · show Steps p.tables e below (T4.setTop (mkF m 10 #[.val (.ref sa)] [(.int z)])) _
    exact retI X4 hx Bd.returns (hb hby d_jdk_42_method_54_code_10) hr
  · show Q_own_slen Z sa sb kS z us G1 h0 n0 _ T4.heap _
    rw [e4q]
    exact ⟨rfl, N4, rfl⟩
theorem pn_java_lang_AbstractStringBuilder : plainName "java/lang/AbstractStringBuilder" = true := by first | (simp [plainName, overriddenIn]; done) | decide +kernel
theorem d_jdk_68_method_9_code_0 : decode jdk_68_method_9_code 0 = .ok (.aload_n 0, 1) := by decide +kernel
theorem d_jdk_68_method_9_code_1 : decode jdk_68_method_9_code 1 = .ok (.getfield 15, 3) := by decide +kernel
theorem d_jdk_68_method_9_code_4 : decode jdk_68_method_9_code 4 = .ok (.arraylength, 1) := by decide +kernel
theorem d_jdk_68_method_9_code_5 : decode jdk_68_method_9_code 5 = .ok (.aload_n 0, 1) := by decide +kernel
theorem d_jdk_68_method_9_code_6 : decode jdk_68_method_9_code 6 = .ok (.getfield 22, 3) := by decide +kernel
theorem d_jdk_68_method_9_code_9 : decode jdk_68_method_9_code 9 = .ok (.ishr, 1) := by decide +kernel
theorem d_jdk_68_method_9_code_10 : decode jdk_68_method_9_code 10 = .ok (.istore_n 2, 1) := by decide +kernel
theorem d_jdk_68_method_9_code_11 : decode jdk_68_method_9_code 11 = .ok (.iload_n 1, 1) := by decide +kernel
theorem d_jdk_68_method_9_code_12 : decode jdk_68_method_9_code 12 = .ok (.iload_n 2, 1) := by decide +kernel
theorem d_jdk_68_method_9_code_13 : decode jdk_68_method_9_code 13 = .ok (.isub, 1) := by decide +kernel
theorem d_jdk_68_method_9_code_14 : decode jdk_68_method_9_code 14 = .ok (.ifCond .le 24, 3) := by decide +kernel
theorem d_jdk_68_method_9_code_38 : decode jdk_68_method_9_code 38 = .ok (.return_, 1) := by decide +kernel
theorem ef_own_ens (m : MethodId) {x : Addr} {m1 : Int32} : entryFrame m #[(.ref x), (.int m1)] 3 = mkF m 0 #[.val (.ref x), .val (.int m1), .unset] [] := by first | (simp [entryFrame, mkF, argsToLocals, Value.category]; done) | rfl
def Q_own_ens (Z : State) (x xb : Addr) (kX : ClassId) (cnt : Int32) (vs : List Value) (m1 : Int32) (h0 : Heap) (n0 : Nat) (v : Option Value) (h : Heap) (L : List Loc) : Prop := v = none ∧ Fr n0 L ∧ h = h0
set_option maxRecDepth 65536 in
set_option maxHeartbeats 40000000 in
theorem own_ens (l : Launch) (Z : State) (a0 : Array Value) (hw : ∀ d ∈ tables_1, d.before a0 Z = true) (ws : List Jvm.Cond) (x xb : Addr) (kX : ClassId) (cnt : Int32) (vs : List Value) (m1 : Int32) (h0 : Heap) (n0 : Nat) (Z0 : n0 ≤ h0.size) (EX : Obj Z h0 x "java/lang/StringBuilder") (VX : Fld Z h0 x "java/lang/AbstractStringBuilder" "value" "[B" (.ref xb)) (CX : Fld Z h0 x "java/lang/AbstractStringBuilder" "coder" "B" (.int (0 : Int32))) (NX : Fld Z h0 x "java/lang/AbstractStringBuilder" "count" "I" (.int cnt)) (KX : Arv Z h0 xb kX .byte (16 : Int32) vs (.int (0 : Int32))) (hm : ¬ (0 : Int32) < m1 - (16 : Int32)) :
    MetFree l (⟨"java/lang/AbstractStringBuilder", "ensureCapacityInternal", "(I)V"⟩ : MethodName) (head1 (Jvm.Cond.code (⟨"java/lang/AbstractStringBuilder", "ensureCapacityInternal", "(I)V"⟩ : MethodName) jdk_68_method_9_code 3 none :: ws) ({ frames := 0, cells := 0, slots := 0, locals := 0 } : Room)) (fun a U => a = #[(.ref x), (.int m1)] ∧ Z.Warmed39 U.vm ∧ U.heap = h0) (fun _ _ _ _ _ => True) (fun _ U o U' => ∃ v L, o = .returned v ∧ Q_own_ens Z x xb kX cnt vs m1 h0 n0 v U'.heap L ∧ FrameEnd U o U' L ({ frames := 0, cells := 0, slots := 0, locals := 0 } : Room).cells ({ frames := 0, cells := 0, slots := 0, locals := 0 } : Room).slots) := by
  refine MetFree.of_bodySF (plainFor_of_name pn_java_lang_AbstractStringBuilder) hisR ?_
  intro p e s m args below meth c s₁ Bd hml0 hP hK
  obtain ⟨rfl, hZ, hh⟩ := hP
  have hx := Bd.exec
  have hby := Bd.bytes
  have hml : c.maxLocals = 3 := hml0
  have hown : s.vm.findClass "java/lang/AbstractStringBuilder" = some m.cls := findClass_of_methodNamed Bd.named
  have hnm := (name_of_methodNamed Bd.named Bd.method).1
  have X0 : Stand p l e ({ frames := 0, cells := 0, slots := 0, locals := 0 } : Room) s m #[(.ref x), (.int m1)] below meth c s₁ [] 0 0 := Stand.of_body Bd
  have e0 : s₁.heap = h0 := by rw [← hh, Bd.state]; rfl
  have N0 := Fr.nil n0
  have pre0 : ∀ t, Steps p.tables e below (s₁.setTop (mkF m 0 #[.val (.ref x), .val (.int m1), .unset] [])) t → Steps p.tables e below (s₁.setTop (entryFrame m #[(.ref x), (.int m1)] 3)) t := fun t k => castTop (ef_own_ens m) k
  obtain ⟨T1, X1, e1, st1⟩ := getF X0 hx hZ hown (host := "") (Or.inl (hw _ (List.mem_of_getElem? (i := 46) rfl))) Via.refl e0 VX (g := (mkF m 1 #[.val (.ref x), .val (.int m1), .unset] [(.ref x)])) rfl rfl (hb hby d_jdk_68_method_9_code_1)
  have pre2 : ∀ t, Steps p.tables e below (T1.setTop (mkF m 4 #[.val (.ref x), .val (.int m1), .unset] [(.ref xb)])) t → Steps p.tables e below (s₁.setTop (entryFrame m #[(.ref x), (.int m1)] 3)) t := by
    intro t kk
    refine pre0 t ?_
    show Steps p.tables e below (s₁.setTop (mkF m 0 #[.val (.ref x), .val (.int m1), .unset] [])) _
    refine XS.aloadN X0.here hx rfl (hb hby d_jdk_68_method_9_code_0) rfl rfl ?_
    show Steps p.tables e below (s₁.setTop (mkF m 1 #[.val (.ref x), .val (.int m1), .unset] [(.ref x)])) _
    exact st1 _ kk
  obtain ⟨cl3, Ar3, q3, S3, M3, H3, G3⟩ := id KX
  obtain ⟨T4, X4, e4, st4⟩ := getF X1 hx hZ hown (host := "") (Or.inl (hw _ (List.mem_of_getElem? (i := 48) rfl))) Via.refl e1 CX (g := (mkF m 6 #[.val (.ref x), .val (.int m1), .unset] [(.ref x), (.int (16 : Int32))])) rfl rfl (hb hby d_jdk_68_method_9_code_6)
  have pre5 : ∀ t, Steps p.tables e below (T4.setTop (mkF m 9 #[.val (.ref x), .val (.int m1), .unset] [(.int (0 : Int32)), (.int (16 : Int32))])) t → Steps p.tables e below (s₁.setTop (entryFrame m #[(.ref x), (.int m1)] 3)) t := by
    intro t kk
    refine pre2 t ?_
    show Steps p.tables e below (T1.setTop (mkF m 4 #[.val (.ref x), .val (.int m1), .unset] [(.ref xb)])) _
    refine X1.arraylength hx (by rw [e1]; exact Ar3.1) (State.isArrayOf_alike hZ.alike Ar3.2.1) (g := (mkF m 4 #[.val (.ref x), .val (.int m1), .unset] [(.ref xb)])) rfl rfl (hb hby d_jdk_68_method_9_code_4) _ ?_
    rw [len_of S3 M3]
    show Steps p.tables e below (T1.setTop (mkF m 5 #[.val (.ref x), .val (.int m1), .unset] [(.int (16 : Int32))])) _
    refine XS.aloadN X1.here hx rfl (hb hby d_jdk_68_method_9_code_5) rfl rfl ?_
    show Steps p.tables e below (T1.setTop (mkF m 6 #[.val (.ref x), .val (.int m1), .unset] [(.ref x), (.int (16 : Int32))])) _
    exact st4 _ kk
  have pre6 : ∀ t, Steps p.tables e below (T4.setTop (mkF m 10 #[.val (.ref x), .val (.int m1), .unset] [(.int ((16 : Int32) >>> ((0 : Int32) &&& 31)))])) t → Steps p.tables e below (s₁.setTop (entryFrame m #[(.ref x), (.int m1)] 3)) t := by
    intro t kk
    refine pre5 t ?_
    show Steps p.tables e below (T4.setTop (mkF m 9 #[.val (.ref x), .val (.int m1), .unset] [(.int (0 : Int32)), (.int (16 : Int32))])) _
    refine XS.ishr X4.here hx rfl (hb hby d_jdk_68_method_9_code_9) rfl ?_
    exact kk
  rw [own_shr0] at pre6
  obtain ⟨fs, hr, hrun, hended, hW, hsame⟩ := X4.leave (v := none) (fun _ => rfl)
  refine ⟨_, _, pre6 _ ?_, hrun, hended, _, _, rfl, ?_, ⟨_, rfl⟩, hW, hsame.mono (by decide) (by decide)⟩
  · show Steps p.tables e below (T4.setTop (mkF m 10 #[.val (.ref x), .val (.int m1), .unset] [(.int (16 : Int32))])) _
    refine XS.istoreN X4.here hx rfl (hb hby d_jdk_68_method_9_code_10) rfl (l' := #[.val (.ref x), .val (.int m1), .val (.int (16 : Int32))]) rfl ?_
    show Steps p.tables e below (T4.setTop (mkF m 11 #[.val (.ref x), .val (.int m1), .val (.int (16 : Int32))] [])) _
    refine XS.iloadN X4.here hx rfl (hb hby d_jdk_68_method_9_code_11) rfl ?_
    show Steps p.tables e below (T4.setTop (mkF m 12 #[.val (.ref x), .val (.int m1), .val (.int (16 : Int32))] [(.int m1)])) _
    refine XS.iloadN X4.here hx rfl (hb hby d_jdk_68_method_9_code_12) rfl ?_
    show Steps p.tables e below (T4.setTop (mkF m 13 #[.val (.ref x), .val (.int m1), .val (.int (16 : Int32))] [(.int (16 : Int32)), (.int m1)])) _
    refine XS.isub X4.here hx rfl (hb hby d_jdk_68_method_9_code_13) rfl ?_
    show Steps p.tables e below (T4.setTop (mkF m 14 #[.val (.ref x), .val (.int m1), .val (.int (16 : Int32))] [(.int (m1 - (16 : Int32)))])) _
    refine XS.ifYes X4.here hx rfl (pc0 := 14) (pc' := 38) rfl (hb hby d_jdk_68_method_9_code_14) rfl ((if0 _ _).trans (flt hm).2.2.2) (by decide) (by decide) ?_
    show Steps p.tables e below (T4.setTop (mkF m 38 #[.val (.ref x), .val (.int m1), .val (.int (16 : Int32))] [])) _
    exact X4.returnOut hx Bd.returns (hb hby d_jdk_68_method_9_code_38) hr
  · show Q_own_ens Z x xb kX cnt vs m1 h0 n0 _ T4.heap _
    rw [e4]
    exact ⟨rfl, N0, rfl⟩
theorem d_jdk_68_method_71_code_0 : decode jdk_68_method_71_code 0 = .ok (.getstatic 18, 3) := by decide +kernel
theorem d_jdk_68_method_71_code_3 : decode jdk_68_method_71_code 3 = .ok (.ifCond .eq 18, 3) := by decide +kernel
theorem d_jdk_68_method_71_code_6 : decode jdk_68_method_71_code 6 = .ok (.aload_n 0, 1) := by decide +kernel
theorem d_jdk_68_method_71_code_7 : decode jdk_68_method_71_code 7 = .ok (.getfield 22, 3) := by decide +kernel
theorem d_jdk_68_method_71_code_10 : decode jdk_68_method_71_code 10 = .ok (.aload_n 1, 1) := by decide +kernel
theorem d_jdk_68_method_71_code_11 : decode jdk_68_method_71_code 11 = .ok (.invokevirtual 40, 3) := by decide +kernel
theorem d_jdk_68_method_71_code_14 : decode jdk_68_method_71_code 14 = .ok (.if_icmp .eq 7, 3) := by decide +kernel
theorem d_jdk_68_method_71_code_21 : decode jdk_68_method_71_code 21 = .ok (.return_, 1) := by decide +kernel
theorem ef_own_inf (m : MethodId) {x : Addr} {sa : Addr} : entryFrame m #[(.ref x), (.ref sa)] 2 = mkF m 0 #[.val (.ref x), .val (.ref sa)] [] := by first | (simp [entryFrame, mkF, argsToLocals, Value.category]; done) | rfl
def Q_own_inf (Z : State) (x : Addr) (sa sb : Addr) (kS : ClassId) (z : Int32) (us : List Value) (G1 : Int32) (h0 : Heap) (n0 : Nat) (v : Option Value) (h : Heap) (L : List Loc) : Prop := v = none ∧ Fr n0 L ∧ h = h0
set_option maxRecDepth 65536 in
set_option maxHeartbeats 40000000 in
theorem own_inf (l : Launch) (Z : State) (a0 : Array Value) (hw : ∀ d ∈ tables_1, d.before a0 Z = true) (ws : List Jvm.Cond) (x : Addr) (sa sb : Addr) (kS : ClassId) (z : Int32) (us : List Value) (G1 : Int32) (h0 : Heap) (n0 : Nat) (Z0 : n0 ≤ h0.size) (CX : Fld Z h0 x "java/lang/AbstractStringBuilder" "coder" "B" (.int (0 : Int32))) (ES : Exa Z h0 sa "java/lang/String") (VS : Fld Z h0 sa "java/lang/String" "value" "[B" (.ref sb)) (CS : Fld Z h0 sa "java/lang/String" "coder" "B" (.int (0 : Int32))) (KS : Arv Z h0 sb kS .byte z us (.int (0 : Int32))) (O2 : Sta Z Z.heap "java/lang/String" "COMPACT_STRINGS" "Z" (.int G1)) (P5 : ¬ G1 = (0 : Int32)) (XO : Old Z n0 h0) :
    MetFree l (⟨"java/lang/AbstractStringBuilder", "inflateIfNeededFor", "(Ljava/lang/String;)V"⟩ : MethodName) (head1 (Jvm.Cond.code (⟨"java/lang/AbstractStringBuilder", "inflateIfNeededFor", "(Ljava/lang/String;)V"⟩ : MethodName) jdk_68_method_71_code 2 none :: ws) ({ frames := 1, cells := 0, slots := 0, locals := 13 } : Room)) (fun a U => a = #[(.ref x), (.ref sa)] ∧ Z.Warmed39 U.vm ∧ U.heap = h0) (fun _ _ _ _ _ => True) (fun _ U o U' => ∃ v L, o = .returned v ∧ Q_own_inf Z x sa sb kS z us G1 h0 n0 v U'.heap L ∧ FrameEnd U o U' L ({ frames := 1, cells := 0, slots := 0, locals := 13 } : Room).cells ({ frames := 1, cells := 0, slots := 0, locals := 13 } : Room).slots) := by
  refine MetFree.of_bodySF (plainFor_of_name pn_java_lang_AbstractStringBuilder) hisR ?_
  intro p e s m args below meth c s₁ Bd hml0 hP hK
  obtain ⟨rfl, hZ, hh⟩ := hP
  have hx := Bd.exec
  have hby := Bd.bytes
  have hml : c.maxLocals = 2 := hml0
  have hown : s.vm.findClass "java/lang/AbstractStringBuilder" = some m.cls := findClass_of_methodNamed Bd.named
  have hnm := (name_of_methodNamed Bd.named Bd.method).1
  have X0 : Stand p l e ({ frames := 1, cells := 0, slots := 0, locals := 13 } : Room) s m #[(.ref x), (.ref sa)] below meth c s₁ [] 0 0 := Stand.of_body Bd
  have e0 : s₁.heap = h0 := by rw [← hh, Bd.state]; rfl
  have N0 := Fr.nil n0
  have pre0 : ∀ t, Steps p.tables e below (s₁.setTop (mkF m 0 #[.val (.ref x), .val (.ref sa)] [])) t → Steps p.tables e below (s₁.setTop (entryFrame m #[(.ref x), (.ref sa)] 2)) t := fun t k => castTop (ef_own_inf m) k
  obtain ⟨T1, X1, e1, st1⟩ := getS2 X0 hx hZ hown (host := "") (Or.inl (hw _ (List.mem_of_getElem? (i := 45) rfl))) Via.refl e0 (O2.ext XO.2) (g := (mkF m 0 #[.val (.ref x), .val (.ref sa)] [])) rfl (hb hby d_jdk_68_method_71_code_0)
  have pre2 : ∀ t, Steps p.tables e below (T1.setTop (mkF m 3 #[.val (.ref x), .val (.ref sa)] [(.int G1)])) t → Steps p.tables e below (s₁.setTop (entryFrame m #[(.ref x), (.ref sa)] 2)) t := by
    intro t kk
    refine pre0 t ?_
    show Steps p.tables e below (s₁.setTop (mkF m 0 #[.val (.ref x), .val (.ref sa)] [])) _
    exact st1 _ kk
  obtain ⟨T3, X3, e3, st3⟩ := getF X1 hx hZ hown (host := "") (Or.inl (hw _ (List.mem_of_getElem? (i := 48) rfl))) Via.refl e1 CX (g := (mkF m 7 #[.val (.ref x), .val (.ref sa)] [(.ref x)])) rfl rfl (hb hby d_jdk_68_method_71_code_7)
  have pre4 : ∀ t, Steps p.tables e below (T3.setTop (mkF m 10 #[.val (.ref x), .val (.ref sa)] [(.int (0 : Int32))])) t → Steps p.tables e below (s₁.setTop (entryFrame m #[(.ref x), (.ref sa)] 2)) t := by
    intro t kk
    refine pre2 t ?_
    show Steps p.tables e below (T1.setTop (mkF m 3 #[.val (.ref x), .val (.ref sa)] [(.int G1)])) _
    refine XS.ifNo X1.here hx rfl (hb hby d_jdk_68_method_71_code_3) rfl ((if0 _ _).trans (feq P5).1) ?_
    show Steps p.tables e below (T1.setTop (mkF m 6 #[.val (.ref x), .val (.ref sa)] [])) _
    refine XS.aloadN X1.here hx rfl (hb hby d_jdk_68_method_71_code_6) rfl rfl ?_
    show Steps p.tables e below (T1.setTop (mkF m 7 #[.val (.ref x), .val (.ref sa)] [(.ref x)])) _
    exact st3 _ kk
  obtain ⟨cq5, kq5, q5a, q5b, q5c⟩ := isOf hZ e3 ES
  obtain ⟨_, _, ⟨T5, L5, k5, n5⟩, -, X5, ⟨Lc5, hQ5, l5, y5, z5⟩, st5⟩ := X3.virtualBack hx (y := (⟨"java/lang/String", "coder", "()B"⟩ : MethodName)) (z := (⟨"java/lang/String", "coder", "()B"⟩ : MethodName)) hown (mvT hZ (hw _ (List.mem_of_getElem? (i := 88) rfl))) (mvT hZ (hw _ (List.mem_of_getElem? (i := 66) rfl))) (notFace_of_selects (args := #[]) (mvT hZ (hw _ (List.mem_of_getElem? (i := 68) rfl)))) (mvT hZ (hw _ (List.mem_of_getElem? (i := 68) rfl))) (mvT hZ (hw _ (List.mem_of_getElem? (i := 67) rfl))) (by decide) (backOf (W := 1) (own_coder l Z a0 hw [] sa G1 h0 n0 Z0 CS O2 P5 XO) hZ (hw _ (List.mem_of_getElem? (i := 69) rfl)) (hw _ (List.mem_of_getElem? (i := 6) rfl)) (by decide) (by decide)) q5a q5c (g := (mkF m 11 #[.val (.ref x), .val (.ref sa)] [(.ref sa), (.int (0 : Int32))])) rfl (by rw [hml]; rfl) (Steps.refl _) (argsL := []) (rest := [(.int (0 : Int32))]) (lenOf pd___B rfl) rfl (by show 2 * 0 + _ ≤ _; exact Nat.le_of_eq rfl) (hb hby d_jdk_68_method_71_code_11) (fun _ _ => ⟨rfl, e3, (by decide : 0 + 0 ≤ _), (by decide : 0 + 0 ≤ _)⟩)
  dsimp only [Pt.U, Pt.locs, Pt.cells, Pt.slots] at X5 l5 y5 z5 st5 hQ5
  subst l5 y5 z5
  obtain ⟨rfl, N5q, e5q⟩ := hQ5
  have N5 := Fr.app N0 N5q
  have pre6 : ∀ t, Steps p.tables e below (T5.setTop (mkF m 14 #[.val (.ref x), .val (.ref sa)] [(.int (0 : Int32)), (.int (0 : Int32))])) t → Steps p.tables e below (s₁.setTop (entryFrame m #[(.ref x), (.ref sa)] 2)) t := by
    intro t kk
    refine pre4 t ?_
    show Steps p.tables e below (T3.setTop (mkF m 10 #[.val (.ref x), .val (.ref sa)] [(.int (0 : Int32))])) _
    refine XS.aloadN X3.here hx rfl (hb hby d_jdk_68_method_71_code_10) rfl rfl ?_
    show Steps p.tables e below (T3.setTop (mkF m 11 #[.val (.ref x), .val (.ref sa)] [(.ref sa), (.int (0 : Int32))])) _
    exact st5.trans kk
  obtain ⟨fs, hr, hrun, hended, hW, hsame⟩ := X5.leave (v := none) (fun _ => rfl)
  refine ⟨_, _, pre6 _ ?_, hrun, hended, _, _, rfl, ?_, ⟨_, rfl⟩, hW, hsame.mono (by decide) (by decide)⟩
  · show Steps p.tables e below (T5.setTop (mkF m 14 #[.val (.ref x), .val (.ref sa)] [(.int (0 : Int32)), (.int (0 : Int32))])) _
    refine XS.icmpYes X5.here hx rfl (pc0 := 14) (pc' := 21) rfl (hb hby d_jdk_68_method_71_code_14) rfl (teq (rfl : (0 : Int32) = (0 : Int32))).1 (by decide) (by decide) ?_
    show Steps p.tables e below (T5.setTop (mkF m 21 #[.val (.ref x), .val (.ref sa)] [])) _
    exact X5.returnOut hx Bd.returns (hb hby d_jdk_68_method_71_code_21) hr
  · show Q_own_inf Z x sa sb kS z us G1 h0 n0 _ T5.heap _
    rw [e5q]
    exact ⟨rfl, N5, rfl⟩
theorem d_jdk_42_method_147_code_0 : decode jdk_42_method_147_code 0 = .ok (.aload_n 0, 1) := by decide +kernel
theorem d_jdk_42_method_147_code_1 : decode jdk_42_method_147_code 1 = .ok (.invokevirtual 335, 3) := by decide +kernel
theorem d_jdk_42_method_147_code_4 : decode jdk_42_method_147_code 4 = .ok (.iload_n 3, 1) := by decide +kernel
theorem d_jdk_42_method_147_code_5 : decode jdk_42_method_147_code 5 = .ok (.if_icmp .ne 23, 3) := by decide +kernel
theorem d_jdk_42_method_147_code_8 : decode jdk_42_method_147_code 8 = .ok (.aload_n 0, 1) := by decide +kernel
theorem d_jdk_42_method_147_code_9 : decode jdk_42_method_147_code 9 = .ok (.getfield 9, 3) := by decide +kernel
theorem d_jdk_42_method_147_code_12 : decode jdk_42_method_147_code 12 = .ok (.iconst 0, 1) := by decide +kernel
theorem d_jdk_42_method_147_code_13 : decode jdk_42_method_147_code 13 = .ok (.aload_n 1, 1) := by decide +kernel
theorem d_jdk_42_method_147_code_14 : decode jdk_42_method_147_code 14 = .ok (.iload_n 2, 1) := by decide +kernel
theorem d_jdk_42_method_147_code_15 : decode jdk_42_method_147_code 15 = .ok (.iload_n 3, 1) := by decide +kernel
theorem d_jdk_42_method_147_code_16 : decode jdk_42_method_147_code 16 = .ok (.ishl, 1) := by decide +kernel
theorem d_jdk_42_method_147_code_17 : decode jdk_42_method_147_code 17 = .ok (.aload_n 0, 1) := by decide +kernel
theorem d_jdk_42_method_147_code_18 : decode jdk_42_method_147_code 18 = .ok (.getfield 9, 3) := by decide +kernel
theorem d_jdk_42_method_147_code_21 : decode jdk_42_method_147_code 21 = .ok (.arraylength, 1) := by decide +kernel
theorem d_jdk_42_method_147_code_22 : decode jdk_42_method_147_code 22 = .ok (.invokestatic 212, 3) := by decide +kernel
theorem d_jdk_42_method_147_code_25 : decode jdk_42_method_147_code 25 = .ok (.goto 18, 3) := by decide +kernel
theorem d_jdk_42_method_147_code_43 : decode jdk_42_method_147_code 43 = .ok (.return_, 1) := by decide +kernel
theorem ef_own_gb (m : MethodId) {sa : Addr} {xb : Addr} {dp : Int32} : entryFrame m #[(.ref sa), (.ref xb), (.int dp), (.int (0 : Int32))] 4 = mkF m 0 #[.val (.ref sa), .val (.ref xb), .val (.int dp), .val (.int (0 : Int32))] [] := by first | (simp [entryFrame, mkF, argsToLocals, Value.category]; done) | rfl
def Q_own_gb (Z : State) (sa sb : Addr) (kS : ClassId) (z : Int32) (us : List Value) (xb : Addr) (kX : ClassId) (vs : List Value) (dp G1 : Int32) (h0 : Heap) (n0 : Nat) (v : Option Value) (h : Heap) (L : List Loc) : Prop := v = none ∧ Fr n0 L ∧ Keep h0 h [xb] ∧ Arv Z h xb kX .byte (16 : Int32) (vs.take dp.toNatClampNeg ++ us ++ vs.drop (dp.toNatClampNeg + z.toNatClampNeg)) (.int (0 : Int32))
set_option maxRecDepth 65536 in
set_option maxHeartbeats 40000000 in
theorem own_gb (l : Launch) (Z : State) (a0 : Array Value) (hw : ∀ d ∈ tables_1, d.before a0 Z = true) (ws : List Jvm.Cond) (sa sb : Addr) (kS : ClassId) (z : Int32) (us : List Value) (xb : Addr) (kX : ClassId) (vs : List Value) (dp G1 : Int32) (h0 : Heap) (n0 : Nat) (Z0 : n0 ≤ h0.size) (ES : Exa Z h0 sa "java/lang/String") (VS : Fld Z h0 sa "java/lang/String" "value" "[B" (.ref sb)) (CS : Fld Z h0 sa "java/lang/String" "coder" "B" (.int (0 : Int32))) (KS : Arv Z h0 sb kS .byte z us (.int (0 : Int32))) (KX : Arv Z h0 xb kX .byte (16 : Int32) vs (.int (0 : Int32))) (gb : n0 ≤ xb) (O2 : Sta Z Z.heap "java/lang/String" "COMPACT_STRINGS" "Z" (.int G1)) (P5 : ¬ G1 = (0 : Int32)) (XO : Old Z n0 h0) (hz0 : ¬ z < 0) (hd0 : ¬ dp < 0) (hsz : us.length = z.toNatClampNeg) (hdz : dp.toNatClampNeg + z.toNatClampNeg ≤ 16) (hvs : vs.length = 16) :
    MetFree l (⟨"java/lang/String", "getBytes", "([BIB)V"⟩ : MethodName) (head1 (Jvm.Cond.code (⟨"java/lang/String", "getBytes", "([BIB)V"⟩ : MethodName) jdk_42_method_147_code 4 none :: ws) ({ frames := 1, cells := 0, slots := 0, locals := 18 } : Room)) (fun a U => a = #[(.ref sa), (.ref xb), (.int dp), (.int (0 : Int32))] ∧ Z.Warmed39 U.vm ∧ U.heap = h0) (fun _ _ _ _ _ => True) (fun _ U o U' => ∃ v L, o = .returned v ∧ Q_own_gb Z sa sb kS z us xb kX vs dp G1 h0 n0 v U'.heap L ∧ FrameEnd U o U' L ({ frames := 1, cells := 0, slots := 0, locals := 18 } : Room).cells ({ frames := 1, cells := 0, slots := 0, locals := 18 } : Room).slots) := by
  refine MetFree.of_bodySF (plainFor_of_name pn_java_lang_String) hisR ?_
  intro p e s m args below meth c s₁ Bd hml0 hP hK
  obtain ⟨rfl, hZ, hh⟩ := hP
  have hx := Bd.exec
  have hby := Bd.bytes
  have hml : c.maxLocals = 4 := hml0
  have hown : s.vm.findClass "java/lang/String" = some m.cls := findClass_of_methodNamed Bd.named
  have hnm := (name_of_methodNamed Bd.named Bd.method).1
  have X0 : Stand p l e ({ frames := 1, cells := 0, slots := 0, locals := 18 } : Room) s m #[(.ref sa), (.ref xb), (.int dp), (.int (0 : Int32))] below meth c s₁ [] 0 0 := Stand.of_body Bd
  have e0 : s₁.heap = h0 := by rw [← hh, Bd.state]; rfl
  have N0 := Fr.nil n0
  have pre0 : ∀ t, Steps p.tables e below (s₁.setTop (mkF m 0 #[.val (.ref sa), .val (.ref xb), .val (.int dp), .val (.int (0 : Int32))] [])) t → Steps p.tables e below (s₁.setTop (entryFrame m #[(.ref sa), (.ref xb), (.int dp), (.int (0 : Int32))] 4)) t := fun t k => castTop (ef_own_gb m) k
  obtain ⟨cq1, kq1, q1a, q1b, q1c⟩ := isOf hZ e0 ES
  obtain ⟨_, _, ⟨T1, L1, k1, n1⟩, -, X1, ⟨Lc1, hQ1, l1, y1, z1⟩, st1⟩ := X0.virtualBack hx (y := (⟨"java/lang/String", "coder", "()B"⟩ : MethodName)) (z := (⟨"java/lang/String", "coder", "()B"⟩ : MethodName)) hown (mvT hZ (hw _ (List.mem_of_getElem? (i := 65) rfl))) (mvT hZ (hw _ (List.mem_of_getElem? (i := 66) rfl))) (notFace_of_selects (args := #[]) (mvT hZ (hw _ (List.mem_of_getElem? (i := 68) rfl)))) (mvT hZ (hw _ (List.mem_of_getElem? (i := 68) rfl))) (mvT hZ (hw _ (List.mem_of_getElem? (i := 67) rfl))) (by decide) (backOf (W := 0) (own_coder l Z a0 hw [] sa G1 h0 n0 Z0 CS O2 P5 XO) hZ (hw _ (List.mem_of_getElem? (i := 69) rfl)) (hw _ (List.mem_of_getElem? (i := 6) rfl)) (by decide) (by decide)) q1a q1c (g := (mkF m 1 #[.val (.ref sa), .val (.ref xb), .val (.int dp), .val (.int (0 : Int32))] [(.ref sa)])) rfl (by rw [hml]; rfl) (Steps.refl _) (argsL := []) (rest := []) (lenOf pd___B rfl) rfl (by show 2 * 0 + _ ≤ _; exact Nat.le_of_eq rfl) (hb hby d_jdk_42_method_147_code_1) (fun _ _ => ⟨rfl, e0, (by decide : 0 + 0 ≤ _), (by decide : 0 + 0 ≤ _)⟩)
  dsimp only [Pt.U, Pt.locs, Pt.cells, Pt.slots] at X1 l1 y1 z1 st1 hQ1
  subst l1 y1 z1
  obtain ⟨rfl, N1q, e1q⟩ := hQ1
  have N1 := Fr.app N0 N1q
  have pre2 : ∀ t, Steps p.tables e below (T1.setTop (mkF m 4 #[.val (.ref sa), .val (.ref xb), .val (.int dp), .val (.int (0 : Int32))] [(.int (0 : Int32))])) t → Steps p.tables e below (s₁.setTop (entryFrame m #[(.ref sa), (.ref xb), (.int dp), (.int (0 : Int32))] 4)) t := by
    intro t kk
    refine pre0 t ?_
    show Steps p.tables e below (s₁.setTop (mkF m 0 #[.val (.ref sa), .val (.ref xb), .val (.int dp), .val (.int (0 : Int32))] [])) _
    refine XS.aloadN X0.here hx rfl (hb hby d_jdk_42_method_147_code_0) rfl rfl ?_
    show Steps p.tables e below (s₁.setTop (mkF m 1 #[.val (.ref sa), .val (.ref xb), .val (.int dp), .val (.int (0 : Int32))] [(.ref sa)])) _
    exact st1.trans kk
  obtain ⟨T3, X3, e3, st3⟩ := getF X1 hx hZ hown (host := "") (Or.inl (hw _ (List.mem_of_getElem? (i := 24) rfl))) Via.refl e1q VS (g := (mkF m 9 #[.val (.ref sa), .val (.ref xb), .val (.int dp), .val (.int (0 : Int32))] [(.ref sa)])) rfl rfl (hb hby d_jdk_42_method_147_code_9)
  have pre4 : ∀ t, Steps p.tables e below (T3.setTop (mkF m 12 #[.val (.ref sa), .val (.ref xb), .val (.int dp), .val (.int (0 : Int32))] [(.ref sb)])) t → Steps p.tables e below (s₁.setTop (entryFrame m #[(.ref sa), (.ref xb), (.int dp), (.int (0 : Int32))] 4)) t := by
    intro t kk
    refine pre2 t ?_
    show Steps p.tables e below (T1.setTop (mkF m 4 #[.val (.ref sa), .val (.ref xb), .val (.int dp), .val (.int (0 : Int32))] [(.int (0 : Int32))])) _
    refine XS.iloadN X1.here hx rfl (hb hby d_jdk_42_method_147_code_4) rfl ?_
    show Steps p.tables e below (T1.setTop (mkF m 5 #[.val (.ref sa), .val (.ref xb), .val (.int dp), .val (.int (0 : Int32))] [(.int (0 : Int32)), (.int (0 : Int32))])) _
    refine XS.icmpNo X1.here hx rfl (hb hby d_jdk_42_method_147_code_5) rfl (teq (rfl : (0 : Int32) = (0 : Int32))).2 ?_
    show Steps p.tables e below (T1.setTop (mkF m 8 #[.val (.ref sa), .val (.ref xb), .val (.int dp), .val (.int (0 : Int32))] [])) _
    refine XS.aloadN X1.here hx rfl (hb hby d_jdk_42_method_147_code_8) rfl rfl ?_
    show Steps p.tables e below (T1.setTop (mkF m 9 #[.val (.ref sa), .val (.ref xb), .val (.int dp), .val (.int (0 : Int32))] [(.ref sa)])) _
    exact st3 _ kk
  have pre5 : ∀ t, Steps p.tables e below (T3.setTop (mkF m 17 #[.val (.ref sa), .val (.ref xb), .val (.int dp), .val (.int (0 : Int32))] [(.int (dp <<< ((0 : Int32) &&& 31))), (.ref xb), (.int (0 : Int32)), (.ref sb)])) t → Steps p.tables e below (s₁.setTop (entryFrame m #[(.ref sa), (.ref xb), (.int dp), (.int (0 : Int32))] 4)) t := by
    intro t kk
    refine pre4 t ?_
    show Steps p.tables e below (T3.setTop (mkF m 12 #[.val (.ref sa), .val (.ref xb), .val (.int dp), .val (.int (0 : Int32))] [(.ref sb)])) _
    refine XS.iconst X3.here hx rfl (hb hby d_jdk_42_method_147_code_12) ?_
    show Steps p.tables e below (T3.setTop (mkF m 13 #[.val (.ref sa), .val (.ref xb), .val (.int dp), .val (.int (0 : Int32))] [(.int (0 : Int32)), (.ref sb)])) _
    refine XS.aloadN X3.here hx rfl (hb hby d_jdk_42_method_147_code_13) rfl rfl ?_
    show Steps p.tables e below (T3.setTop (mkF m 14 #[.val (.ref sa), .val (.ref xb), .val (.int dp), .val (.int (0 : Int32))] [(.ref xb), (.int (0 : Int32)), (.ref sb)])) _
    refine XS.iloadN X3.here hx rfl (hb hby d_jdk_42_method_147_code_14) rfl ?_
    show Steps p.tables e below (T3.setTop (mkF m 15 #[.val (.ref sa), .val (.ref xb), .val (.int dp), .val (.int (0 : Int32))] [(.int dp), (.ref xb), (.int (0 : Int32)), (.ref sb)])) _
    refine XS.iloadN X3.here hx rfl (hb hby d_jdk_42_method_147_code_15) rfl ?_
    show Steps p.tables e below (T3.setTop (mkF m 16 #[.val (.ref sa), .val (.ref xb), .val (.int dp), .val (.int (0 : Int32))] [(.int (0 : Int32)), (.int dp), (.ref xb), (.int (0 : Int32)), (.ref sb)])) _
    refine XS.ishl X3.here hx rfl (hb hby d_jdk_42_method_147_code_16) rfl ?_
    exact kk
  rw [own_shl0] at pre5
  obtain ⟨T6, X6, e6, st6⟩ := getF X3 hx hZ hown (host := "") (Or.inl (hw _ (List.mem_of_getElem? (i := 24) rfl))) Via.refl e3 VS (g := (mkF m 18 #[.val (.ref sa), .val (.ref xb), .val (.int dp), .val (.int (0 : Int32))] [(.ref sa), (.int dp), (.ref xb), (.int (0 : Int32)), (.ref sb)])) rfl rfl (hb hby d_jdk_42_method_147_code_18)
  have pre7 : ∀ t, Steps p.tables e below (T6.setTop (mkF m 21 #[.val (.ref sa), .val (.ref xb), .val (.int dp), .val (.int (0 : Int32))] [(.ref sb), (.int dp), (.ref xb), (.int (0 : Int32)), (.ref sb)])) t → Steps p.tables e below (s₁.setTop (entryFrame m #[(.ref sa), (.ref xb), (.int dp), (.int (0 : Int32))] 4)) t := by
    intro t kk
    refine pre5 t ?_
    show Steps p.tables e below (T3.setTop (mkF m 17 #[.val (.ref sa), .val (.ref xb), .val (.int dp), .val (.int (0 : Int32))] [(.int dp), (.ref xb), (.int (0 : Int32)), (.ref sb)])) _
    refine XS.aloadN X3.here hx rfl (hb hby d_jdk_42_method_147_code_17) rfl rfl ?_
    show Steps p.tables e below (T3.setTop (mkF m 18 #[.val (.ref sa), .val (.ref xb), .val (.int dp), .val (.int (0 : Int32))] [(.ref sa), (.int dp), (.ref xb), (.int (0 : Int32)), (.ref sb)])) _
    exact st6 _ kk
  obtain ⟨cl8, Ar8, q8, S8, M8, H8, G8⟩ := id KS
  have pre9 : ∀ t, Steps p.tables e below (T6.setTop (mkF m 22 #[.val (.ref sa), .val (.ref xb), .val (.int dp), .val (.int (0 : Int32))] [(.int z), (.int dp), (.ref xb), (.int (0 : Int32)), (.ref sb)])) t → Steps p.tables e below (s₁.setTop (entryFrame m #[(.ref sa), (.ref xb), (.int dp), (.int (0 : Int32))] 4)) t := by
    intro t kk
    refine pre7 t ?_
    show Steps p.tables e below (T6.setTop (mkF m 21 #[.val (.ref sa), .val (.ref xb), .val (.int dp), .val (.int (0 : Int32))] [(.ref sb), (.int dp), (.ref xb), (.int (0 : Int32)), (.ref sb)])) _
    refine X6.arraylength hx (by rw [e6]; exact Ar8.1) (State.isArrayOf_alike hZ.alike Ar8.2.1) (g := (mkF m 21 #[.val (.ref sa), .val (.ref xb), .val (.int dp), .val (.int (0 : Int32))] [(.ref sb), (.int dp), (.ref xb), (.int (0 : Int32)), (.ref sb)])) rfl rfl (hb hby d_jdk_42_method_147_code_21) _ ?_
    rw [len_of S8 M8]
    exact kk
  obtain ⟨T10, h10, L10, X10, e10, N10, K10, V10, st10⟩ := cpA X6 hx hZ hown (hw _ (List.mem_of_getElem? (i := 94) rfl)) (hw _ (List.mem_of_getElem? (i := 97) rfl)) (hw _ (List.mem_of_getElem? (i := 95) rfl)) (hw _ (List.mem_of_getElem? (i := 96) rfl)) e6 (sp := (0 : Int32)) (dp := dp) (nn := z) (us := us) KS KX (Or.inl ⟨rfl, rfl⟩) (by decide) hd0 hz0 (by rw [show (0 : Int32).toNatClampNeg = 0 from rfl, Nat.zero_add]; exact Nat.le_refl _) (by rw [show (16 : Int32).toNatClampNeg = 16 from rfl]; exact hdz) (by rw [← hsz]; exact own_rng us _) (by rw [hvs]; exact hdz) (n0 := n0) N1 gb (g := (mkF m 22 #[.val (.ref sa), .val (.ref xb), .val (.int dp), .val (.int (0 : Int32))] [(.int z), (.int dp), (.ref xb), (.int (0 : Int32)), (.ref sb)])) rfl (by rw [hml]; rfl) rfl (hb hby d_jdk_42_method_147_code_22) (by decide) (W := 0) (by show 2 * 0 + _ ≤ _; exact Nat.le_of_eq rfl) (by decide)
  have pre11 : ∀ t, Steps p.tables e below (T10.setTop (mkF m 25 #[.val (.ref sa), .val (.ref xb), .val (.int dp), .val (.int (0 : Int32))] [])) t → Steps p.tables e below (s₁.setTop (entryFrame m #[(.ref sa), (.ref xb), (.int dp), (.int (0 : Int32))] 4)) t := by
    intro t kk
    refine pre9 t ?_
    show Steps p.tables e below (T6.setTop (mkF m 22 #[.val (.ref sa), .val (.ref xb), .val (.int dp), .val (.int (0 : Int32))] [(.int z), (.int dp), (.ref xb), (.int (0 : Int32)), (.ref sb)])) _
    exact st10 _ kk
  have fc12 := ((Keep.refl h0 [xb]).trans K10 (allS (Or.inl (List.mem_of_getElem? (i := 0) rfl)) all0))
  obtain ⟨fs, hr, hrun, hended, hW, hsame⟩ := X10.leave (v := none) (fun _ => rfl)
  refine ⟨_, _, pre11 _ ?_, hrun, hended, _, _, rfl, ?_, ⟨_, rfl⟩, hW, hsame.mono (by decide) (by decide)⟩
  · show Steps p.tables e below (T10.setTop (mkF m 25 #[.val (.ref sa), .val (.ref xb), .val (.int dp), .val (.int (0 : Int32))] [])) _
    refine XS.goto X10.here hx rfl (pc0 := 25) (pc' := 43) rfl (hb hby d_jdk_42_method_147_code_25) (by decide) (by decide) ?_
    show Steps p.tables e below (T10.setTop (mkF m 43 #[.val (.ref sa), .val (.ref xb), .val (.int dp), .val (.int (0 : Int32))] [])) _
    exact X10.returnOut hx Bd.returns (hb hby d_jdk_42_method_147_code_43) hr
  · show Q_own_gb Z sa sb kS z us xb kX vs dp G1 h0 n0 _ T10.heap _
    rw [e10]
    exact ⟨rfl, N10, fc12, V10⟩
theorem d_jdk_68_method_73_code_0 : decode jdk_68_method_73_code 0 = .ok (.aload_n 0, 1) := by decide +kernel
theorem d_jdk_68_method_73_code_1 : decode jdk_68_method_73_code 1 = .ok (.aload_n 2, 1) := by decide +kernel
theorem pd__Ljava_lang_String__V : parseMethodDescriptor "(Ljava/lang/String;)V" = some ⟨[(.object "java/lang/String")], none⟩ := by decide +kernel
theorem d_jdk_68_method_73_code_2 : decode jdk_68_method_73_code 2 = .ok (.invokevirtual 397, 3) := by decide +kernel
theorem d_jdk_68_method_73_code_5 : decode jdk_68_method_73_code 5 = .ok (.aload_n 2, 1) := by decide +kernel
theorem d_jdk_68_method_73_code_6 : decode jdk_68_method_73_code 6 = .ok (.aload_n 0, 1) := by decide +kernel
theorem d_jdk_68_method_73_code_7 : decode jdk_68_method_73_code 7 = .ok (.getfield 15, 3) := by decide +kernel
theorem d_jdk_68_method_73_code_10 : decode jdk_68_method_73_code 10 = .ok (.iload_n 1, 1) := by decide +kernel
theorem d_jdk_68_method_73_code_11 : decode jdk_68_method_73_code 11 = .ok (.aload_n 0, 1) := by decide +kernel
theorem d_jdk_68_method_73_code_12 : decode jdk_68_method_73_code 12 = .ok (.getfield 22, 3) := by decide +kernel
theorem pd___BIB_V : parseMethodDescriptor "([BIB)V" = some ⟨[(.array .byte), .int, .byte], none⟩ := by decide +kernel
theorem d_jdk_68_method_73_code_15 : decode jdk_68_method_73_code 15 = .ok (.invokevirtual 399, 3) := by decide +kernel
theorem d_jdk_68_method_73_code_18 : decode jdk_68_method_73_code 18 = .ok (.return_, 1) := by decide +kernel
theorem ef_own_psa (m : MethodId) {x : Addr} {cnt : Int32} {sa : Addr} : entryFrame m #[(.ref x), (.int cnt), (.ref sa)] 3 = mkF m 0 #[.val (.ref x), .val (.int cnt), .val (.ref sa)] [] := by first | (simp [entryFrame, mkF, argsToLocals, Value.category]; done) | rfl
def Q_own_psa (Z : State) (sa sb : Addr) (kS : ClassId) (z : Int32) (us : List Value) (x xb : Addr) (kX : ClassId) (cnt : Int32) (vs : List Value) (G1 : Int32) (h0 : Heap) (n0 : Nat) (v : Option Value) (h : Heap) (L : List Loc) : Prop := v = none ∧ Fr n0 L ∧ Keep h0 h [xb] ∧ Arv Z h xb kX .byte (16 : Int32) (vs.take cnt.toNatClampNeg ++ us ++ vs.drop (cnt.toNatClampNeg + z.toNatClampNeg)) (.int (0 : Int32))
set_option maxRecDepth 65536 in
set_option maxHeartbeats 40000000 in
theorem own_psa (l : Launch) (Z : State) (a0 : Array Value) (hw : ∀ d ∈ tables_1, d.before a0 Z = true) (ws : List Jvm.Cond) (sa sb : Addr) (kS : ClassId) (z : Int32) (us : List Value) (x xb : Addr) (kX : ClassId) (cnt : Int32) (vs : List Value) (G1 : Int32) (h0 : Heap) (n0 : Nat) (Z0 : n0 ≤ h0.size) (ES : Exa Z h0 sa "java/lang/String") (VS : Fld Z h0 sa "java/lang/String" "value" "[B" (.ref sb)) (CS : Fld Z h0 sa "java/lang/String" "coder" "B" (.int (0 : Int32))) (KS : Arv Z h0 sb kS .byte z us (.int (0 : Int32))) (EX : Obj Z h0 x "java/lang/StringBuilder") (VX : Fld Z h0 x "java/lang/AbstractStringBuilder" "value" "[B" (.ref xb)) (CX : Fld Z h0 x "java/lang/AbstractStringBuilder" "coder" "B" (.int (0 : Int32))) (NX : Fld Z h0 x "java/lang/AbstractStringBuilder" "count" "I" (.int cnt)) (KX : Arv Z h0 xb kX .byte (16 : Int32) vs (.int (0 : Int32))) (gx : n0 ≤ x) (gb : n0 ≤ xb) (O2 : Sta Z Z.heap "java/lang/String" "COMPACT_STRINGS" "Z" (.int G1)) (P5 : ¬ G1 = (0 : Int32)) (XO : Old Z n0 h0) (hz0 : ¬ z < 0) (hd0 : ¬ cnt < 0) (hsz : us.length = z.toNatClampNeg) (hdz : cnt.toNatClampNeg + z.toNatClampNeg ≤ 16) (hvs : vs.length = 16) :
    MetFree l (⟨"java/lang/AbstractStringBuilder", "putStringAt", "(ILjava/lang/String;)V"⟩ : MethodName) (head1 (Jvm.Cond.code (⟨"java/lang/AbstractStringBuilder", "putStringAt", "(ILjava/lang/String;)V"⟩ : MethodName) jdk_68_method_73_code 3 none :: ws) ({ frames := 2, cells := 0, slots := 0, locals := 33 } : Room)) (fun a U => a = #[(.ref x), (.int cnt), (.ref sa)] ∧ Z.Warmed39 U.vm ∧ U.heap = h0) (fun _ _ _ _ _ => True) (fun _ U o U' => ∃ v L, o = .returned v ∧ Q_own_psa Z sa sb kS z us x xb kX cnt vs G1 h0 n0 v U'.heap L ∧ FrameEnd U o U' L ({ frames := 2, cells := 0, slots := 0, locals := 33 } : Room).cells ({ frames := 2, cells := 0, slots := 0, locals := 33 } : Room).slots) := by
  refine MetFree.of_bodySF (plainFor_of_name pn_java_lang_AbstractStringBuilder) hisR ?_
  intro p e s m args below meth c s₁ Bd hml0 hP hK
  obtain ⟨rfl, hZ, hh⟩ := hP
  have hx := Bd.exec
  have hby := Bd.bytes
  have hml : c.maxLocals = 3 := hml0
  have hown : s.vm.findClass "java/lang/AbstractStringBuilder" = some m.cls := findClass_of_methodNamed Bd.named
  have hnm := (name_of_methodNamed Bd.named Bd.method).1
  have X0 : Stand p l e ({ frames := 2, cells := 0, slots := 0, locals := 33 } : Room) s m #[(.ref x), (.int cnt), (.ref sa)] below meth c s₁ [] 0 0 := Stand.of_body Bd
  have e0 : s₁.heap = h0 := by rw [← hh, Bd.state]; rfl
  have N0 := Fr.nil n0
  have pre0 : ∀ t, Steps p.tables e below (s₁.setTop (mkF m 0 #[.val (.ref x), .val (.int cnt), .val (.ref sa)] [])) t → Steps p.tables e below (s₁.setTop (entryFrame m #[(.ref x), (.int cnt), (.ref sa)] 3)) t := fun t k => castTop (ef_own_psa m) k
  have ne_x_xb : x ≠ xb := Exa.neArv EX.exa KX (hw _ (List.mem_of_getElem? (i := 33) rfl))
  obtain ⟨cq1, kq1, q1a, q1b, q1c⟩ := isOf hZ e0 EX.exa
  obtain ⟨_, _, ⟨T1, L1, k1, n1⟩, -, X1, ⟨Lc1, hQ1, l1, y1, z1⟩, st1⟩ := X0.virtualBack hx (y := (⟨"java/lang/AbstractStringBuilder", "inflateIfNeededFor", "(Ljava/lang/String;)V"⟩ : MethodName)) (z := (⟨"java/lang/AbstractStringBuilder", "inflateIfNeededFor", "(Ljava/lang/String;)V"⟩ : MethodName)) hown (mvT hZ (hw _ (List.mem_of_getElem? (i := 83) rfl))) (own_decl (mvT hZ (hw _ (List.mem_of_getElem? (i := 84) rfl))) (mvT hZ (hw _ (List.mem_of_getElem? (i := 87) rfl)))) (notFace_of_selects (args := #[]) (mvT hZ (hw _ (List.mem_of_getElem? (i := 86) rfl)))) (mvT hZ (hw _ (List.mem_of_getElem? (i := 86) rfl))) (mvT hZ (hw _ (List.mem_of_getElem? (i := 84) rfl))) (by decide) (backOf (W := 0) (own_inf l Z a0 hw [] x sa sb kS z us G1 h0 n0 Z0 CX ES VS CS KS O2 P5 XO) hZ (hw _ (List.mem_of_getElem? (i := 87) rfl)) (hw _ (List.mem_of_getElem? (i := 42) rfl)) (by decide) (by decide)) q1a q1c (g := (mkF m 2 #[.val (.ref x), .val (.int cnt), .val (.ref sa)] [(.ref sa), (.ref x)])) rfl (by rw [hml]; rfl) (Steps.refl _) (argsL := [(.ref sa)]) (rest := []) (lenOf pd__Ljava_lang_String__V rfl) rfl (by show 2 * 0 + _ ≤ _; exact Nat.le_of_eq rfl) (hb hby d_jdk_68_method_73_code_2) (fun _ _ => ⟨rfl, e0, (by decide : 0 + 0 ≤ _), (by decide : 0 + 0 ≤ _)⟩)
  dsimp only [Pt.U, Pt.locs, Pt.cells, Pt.slots] at X1 l1 y1 z1 st1 hQ1
  subst l1 y1 z1
  obtain ⟨rfl, N1q, e1q⟩ := hQ1
  have N1 := Fr.app N0 N1q
  have pre2 : ∀ t, Steps p.tables e below (T1.setTop (mkF m 5 #[.val (.ref x), .val (.int cnt), .val (.ref sa)] [])) t → Steps p.tables e below (s₁.setTop (entryFrame m #[(.ref x), (.int cnt), (.ref sa)] 3)) t := by
    intro t kk
    refine pre0 t ?_
    show Steps p.tables e below (s₁.setTop (mkF m 0 #[.val (.ref x), .val (.int cnt), .val (.ref sa)] [])) _
    refine XS.aloadN X0.here hx rfl (hb hby d_jdk_68_method_73_code_0) rfl rfl ?_
    show Steps p.tables e below (s₁.setTop (mkF m 1 #[.val (.ref x), .val (.int cnt), .val (.ref sa)] [(.ref x)])) _
    refine XS.aloadN X0.here hx rfl (hb hby d_jdk_68_method_73_code_1) rfl rfl ?_
    show Steps p.tables e below (s₁.setTop (mkF m 2 #[.val (.ref x), .val (.int cnt), .val (.ref sa)] [(.ref sa), (.ref x)])) _
    exact st1.trans kk
  obtain ⟨T3, X3, e3, st3⟩ := getF X1 hx hZ hown (host := "") (Or.inl (hw _ (List.mem_of_getElem? (i := 46) rfl))) Via.refl e1q VX (g := (mkF m 7 #[.val (.ref x), .val (.int cnt), .val (.ref sa)] [(.ref x), (.ref sa)])) rfl rfl (hb hby d_jdk_68_method_73_code_7)
  have pre4 : ∀ t, Steps p.tables e below (T3.setTop (mkF m 10 #[.val (.ref x), .val (.int cnt), .val (.ref sa)] [(.ref xb), (.ref sa)])) t → Steps p.tables e below (s₁.setTop (entryFrame m #[(.ref x), (.int cnt), (.ref sa)] 3)) t := by
    intro t kk
    refine pre2 t ?_
    show Steps p.tables e below (T1.setTop (mkF m 5 #[.val (.ref x), .val (.int cnt), .val (.ref sa)] [])) _
    refine XS.aloadN X1.here hx rfl (hb hby d_jdk_68_method_73_code_5) rfl rfl ?_
    show Steps p.tables e below (T1.setTop (mkF m 6 #[.val (.ref x), .val (.int cnt), .val (.ref sa)] [(.ref sa)])) _
    refine XS.aloadN X1.here hx rfl (hb hby d_jdk_68_method_73_code_6) rfl rfl ?_
    show Steps p.tables e below (T1.setTop (mkF m 7 #[.val (.ref x), .val (.int cnt), .val (.ref sa)] [(.ref x), (.ref sa)])) _
    exact st3 _ kk
  obtain ⟨T5, X5, e5, st5⟩ := getF X3 hx hZ hown (host := "") (Or.inl (hw _ (List.mem_of_getElem? (i := 48) rfl))) Via.refl e3 CX (g := (mkF m 12 #[.val (.ref x), .val (.int cnt), .val (.ref sa)] [(.ref x), (.int cnt), (.ref xb), (.ref sa)])) rfl rfl (hb hby d_jdk_68_method_73_code_12)
  have pre6 : ∀ t, Steps p.tables e below (T5.setTop (mkF m 15 #[.val (.ref x), .val (.int cnt), .val (.ref sa)] [(.int (0 : Int32)), (.int cnt), (.ref xb), (.ref sa)])) t → Steps p.tables e below (s₁.setTop (entryFrame m #[(.ref x), (.int cnt), (.ref sa)] 3)) t := by
    intro t kk
    refine pre4 t ?_
    show Steps p.tables e below (T3.setTop (mkF m 10 #[.val (.ref x), .val (.int cnt), .val (.ref sa)] [(.ref xb), (.ref sa)])) _
    refine XS.iloadN X3.here hx rfl (hb hby d_jdk_68_method_73_code_10) rfl ?_
    show Steps p.tables e below (T3.setTop (mkF m 11 #[.val (.ref x), .val (.int cnt), .val (.ref sa)] [(.int cnt), (.ref xb), (.ref sa)])) _
    refine XS.aloadN X3.here hx rfl (hb hby d_jdk_68_method_73_code_11) rfl rfl ?_
    show Steps p.tables e below (T3.setTop (mkF m 12 #[.val (.ref x), .val (.int cnt), .val (.ref sa)] [(.ref x), (.int cnt), (.ref xb), (.ref sa)])) _
    exact st5 _ kk
  obtain ⟨cq7, kq7, q7a, q7b, q7c⟩ := isOf hZ e5 ES
  obtain ⟨_, _, ⟨T7, L7, k7, n7⟩, -, X7, ⟨Lc7, hQ7, l7, y7, z7⟩, st7⟩ := X5.virtualBack hx (y := (⟨"java/lang/String", "getBytes", "([BIB)V"⟩ : MethodName)) (z := (⟨"java/lang/String", "getBytes", "([BIB)V"⟩ : MethodName)) hown (mvT hZ (hw _ (List.mem_of_getElem? (i := 89) rfl))) (mvT hZ (hw _ (List.mem_of_getElem? (i := 90) rfl))) (notFace_of_selects (args := #[]) (mvT hZ (hw _ (List.mem_of_getElem? (i := 92) rfl)))) (mvT hZ (hw _ (List.mem_of_getElem? (i := 92) rfl))) (mvT hZ (hw _ (List.mem_of_getElem? (i := 91) rfl))) (by decide) (backOf (W := 0) (own_gb l Z a0 hw [] sa sb kS z us xb kX vs cnt G1 h0 n0 Z0 ES VS CS KS KX gb O2 P5 XO hz0 hd0 hsz hdz hvs) hZ (hw _ (List.mem_of_getElem? (i := 93) rfl)) (hw _ (List.mem_of_getElem? (i := 6) rfl)) (by decide) (by decide)) q7a q7c (g := (mkF m 15 #[.val (.ref x), .val (.int cnt), .val (.ref sa)] [(.int (0 : Int32)), (.int cnt), (.ref xb), (.ref sa)])) rfl (by rw [hml]; rfl) (Steps.refl _) (argsL := [(.ref xb), (.int cnt), (.int (0 : Int32))]) (rest := []) (lenOf pd___BIB_V rfl) rfl (by show 2 * 0 + _ ≤ _; exact Nat.le_of_eq rfl) (hb hby d_jdk_68_method_73_code_15) (fun _ _ => ⟨rfl, e5, (by decide : 0 + 0 ≤ _), (by decide : 0 + 0 ≤ _)⟩)
  dsimp only [Pt.U, Pt.locs, Pt.cells, Pt.slots] at X7 l7 y7 z7 st7 hQ7
  subst l7 y7 z7
  obtain ⟨rfl, N7q, K7, V7⟩ := hQ7
  have N7 := Fr.app N1 N7q
  have pre8 : ∀ t, Steps p.tables e below (T7.setTop (mkF m 18 #[.val (.ref x), .val (.int cnt), .val (.ref sa)] [])) t → Steps p.tables e below (s₁.setTop (entryFrame m #[(.ref x), (.int cnt), (.ref sa)] 3)) t := by
    intro t kk
    refine pre6 t ?_
    show Steps p.tables e below (T5.setTop (mkF m 15 #[.val (.ref x), .val (.int cnt), .val (.ref sa)] [(.int (0 : Int32)), (.int cnt), (.ref xb), (.ref sa)])) _
    exact st7.trans kk
  have fc9 := ((Keep.refl h0 [xb]).trans K7 (allS (Or.inl (List.mem_of_getElem? (i := 0) rfl)) all0))
  obtain ⟨fs, hr, hrun, hended, hW, hsame⟩ := X7.leave (v := none) (fun _ => rfl)
  refine ⟨_, _, pre8 _ ?_, hrun, hended, _, _, rfl, ?_, ⟨_, rfl⟩, hW, hsame.mono (by decide) (by decide)⟩
  · show Steps p.tables e below (T7.setTop (mkF m 18 #[.val (.ref x), .val (.int cnt), .val (.ref sa)] [])) _
    exact X7.returnOut hx Bd.returns (hb hby d_jdk_68_method_73_code_18) hr
  · show Q_own_psa Z sa sb kS z us x xb kX cnt vs G1 h0 n0 _ T7.heap _
    exact ⟨rfl, N7, fc9, V7⟩
theorem d_jdk_68_method_22_code_0 : decode jdk_68_method_22_code 0 = .ok (.aload_n 1, 1) := by decide +kernel
theorem d_jdk_68_method_22_code_1 : decode jdk_68_method_22_code 1 = .ok (.ifnonnull 8, 3) := by decide +kernel
theorem d_jdk_68_method_22_code_9 : decode jdk_68_method_22_code 9 = .ok (.aload_n 1, 1) := by decide +kernel
theorem pd___I : parseMethodDescriptor "()I" = some ⟨[], some .int⟩ := by decide +kernel
theorem d_jdk_68_method_22_code_10 : decode jdk_68_method_22_code 10 = .ok (.invokevirtual 32, 3) := by decide +kernel
theorem d_jdk_68_method_22_code_13 : decode jdk_68_method_22_code 13 = .ok (.istore_n 2, 1) := by decide +kernel
theorem d_jdk_68_method_22_code_14 : decode jdk_68_method_22_code 14 = .ok (.aload_n 0, 1) := by decide +kernel
theorem d_jdk_68_method_22_code_15 : decode jdk_68_method_22_code 15 = .ok (.aload_n 0, 1) := by decide +kernel
theorem d_jdk_68_method_22_code_16 : decode jdk_68_method_22_code 16 = .ok (.getfield 79, 3) := by decide +kernel
theorem d_jdk_68_method_22_code_19 : decode jdk_68_method_22_code 19 = .ok (.iload_n 2, 1) := by decide +kernel
theorem d_jdk_68_method_22_code_20 : decode jdk_68_method_22_code 20 = .ok (.iadd, 1) := by decide +kernel
theorem pd__I_V : parseMethodDescriptor "(I)V" = some ⟨[.int], none⟩ := by decide +kernel
theorem d_jdk_68_method_22_code_21 : decode jdk_68_method_22_code 21 = .ok (.invokevirtual 100, 3) := by decide +kernel
theorem d_jdk_68_method_22_code_24 : decode jdk_68_method_22_code 24 = .ok (.aload_n 0, 1) := by decide +kernel
theorem d_jdk_68_method_22_code_25 : decode jdk_68_method_22_code 25 = .ok (.aload_n 0, 1) := by decide +kernel
theorem d_jdk_68_method_22_code_26 : decode jdk_68_method_22_code 26 = .ok (.getfield 79, 3) := by decide +kernel
theorem d_jdk_68_method_22_code_29 : decode jdk_68_method_22_code 29 = .ok (.aload_n 1, 1) := by decide +kernel
theorem pd__ILjava_lang_String__V : parseMethodDescriptor "(ILjava/lang/String;)V" = some ⟨[.int, (.object "java/lang/String")], none⟩ := by decide +kernel
theorem d_jdk_68_method_22_code_30 : decode jdk_68_method_22_code 30 = .ok (.invokevirtual 208, 3) := by decide +kernel
theorem d_jdk_68_method_22_code_33 : decode jdk_68_method_22_code 33 = .ok (.aload_n 0, 1) := by decide +kernel
theorem d_jdk_68_method_22_code_34 : decode jdk_68_method_22_code 34 = .ok (.dup, 1) := by decide +kernel
theorem d_jdk_68_method_22_code_35 : decode jdk_68_method_22_code 35 = .ok (.getfield 79, 3) := by decide +kernel
theorem d_jdk_68_method_22_code_38 : decode jdk_68_method_22_code 38 = .ok (.iload_n 2, 1) := by decide +kernel
theorem d_jdk_68_method_22_code_39 : decode jdk_68_method_22_code 39 = .ok (.iadd, 1) := by decide +kernel
theorem d_jdk_68_method_22_code_40 : decode jdk_68_method_22_code 40 = .ok (.putfield 79, 3) := by decide +kernel
theorem d_jdk_68_method_22_code_43 : decode jdk_68_method_22_code 43 = .ok (.aload_n 0, 1) := by decide +kernel
theorem d_jdk_68_method_22_code_44 : decode jdk_68_method_22_code 44 = .ok (.areturn, 1) := by decide +kernel
theorem ef_own_aapp (m : MethodId) {x : Addr} {sa : Addr} : entryFrame m #[(.ref x), (.ref sa)] 3 = mkF m 0 #[.val (.ref x), .val (.ref sa), .unset] [] := by first | (simp [entryFrame, mkF, argsToLocals, Value.category]; done) | rfl
def Q_own_aapp (Z : State) (sa sb : Addr) (kS : ClassId) (z : Int32) (us : List Value) (x xb : Addr) (kX : ClassId) (cnt : Int32) (vs : List Value) (G1 : Int32) (h0 : Heap) (n0 : Nat) (v : Option Value) (h : Heap) (L : List Loc) : Prop := v = some (.ref x) ∧ Fr n0 L ∧ Keep h0 h [x, xb] ∧ Fld Z h x "java/lang/AbstractStringBuilder" "value" "[B" (.ref xb) ∧ Fld Z h x "java/lang/AbstractStringBuilder" "coder" "B" (.int (0 : Int32)) ∧ Fld Z h x "java/lang/AbstractStringBuilder" "count" "I" (.int (cnt + z)) ∧ Arv Z h xb kX .byte (16 : Int32) (vs.take cnt.toNatClampNeg ++ us ++ vs.drop (cnt.toNatClampNeg + z.toNatClampNeg)) (.int (0 : Int32))
set_option maxRecDepth 65536 in
set_option maxHeartbeats 40000000 in
theorem own_aapp (l : Launch) (Z : State) (a0 : Array Value) (hw : ∀ d ∈ tables_1, d.before a0 Z = true) (ws : List Jvm.Cond) (sa sb : Addr) (kS : ClassId) (z : Int32) (us : List Value) (x xb : Addr) (kX : ClassId) (cnt : Int32) (vs : List Value) (G1 : Int32) (h0 : Heap) (n0 : Nat) (Z0 : n0 ≤ h0.size) (ES : Exa Z h0 sa "java/lang/String") (VS : Fld Z h0 sa "java/lang/String" "value" "[B" (.ref sb)) (CS : Fld Z h0 sa "java/lang/String" "coder" "B" (.int (0 : Int32))) (KS : Arv Z h0 sb kS .byte z us (.int (0 : Int32))) (EX : Obj Z h0 x "java/lang/StringBuilder") (VX : Fld Z h0 x "java/lang/AbstractStringBuilder" "value" "[B" (.ref xb)) (CX : Fld Z h0 x "java/lang/AbstractStringBuilder" "coder" "B" (.int (0 : Int32))) (NX : Fld Z h0 x "java/lang/AbstractStringBuilder" "count" "I" (.int cnt)) (KX : Arv Z h0 xb kX .byte (16 : Int32) vs (.int (0 : Int32))) (gx : n0 ≤ x) (gb : n0 ≤ xb) (O2 : Sta Z Z.heap "java/lang/String" "COMPACT_STRINGS" "Z" (.int G1)) (P5 : ¬ G1 = (0 : Int32)) (XO : Old Z n0 h0) (hz0 : ¬ z < 0) (hd0 : ¬ cnt < 0) (hsz : us.length = z.toNatClampNeg) (hdz : cnt.toNatClampNeg + z.toNatClampNeg ≤ 16) (hvs : vs.length = 16) (hen : ¬ (0 : Int32) < (cnt + z) - (16 : Int32)) :
    MetFree l (⟨"java/lang/AbstractStringBuilder", "append", "(Ljava/lang/String;)Ljava/lang/AbstractStringBuilder;"⟩ : MethodName) (head1 (Jvm.Cond.code (⟨"java/lang/AbstractStringBuilder", "append", "(Ljava/lang/String;)Ljava/lang/AbstractStringBuilder;"⟩ : MethodName) jdk_68_method_22_code 3 (some (.object "java/lang/AbstractStringBuilder")) :: ws) ({ frames := 3, cells := 0, slots := 0, locals := 47 } : Room)) (fun a U => a = #[(.ref x), (.ref sa)] ∧ Z.Warmed39 U.vm ∧ U.heap = h0) (fun _ _ _ _ _ => True) (fun _ U o U' => ∃ v L, o = .returned v ∧ Q_own_aapp Z sa sb kS z us x xb kX cnt vs G1 h0 n0 v U'.heap L ∧ FrameEnd U o U' L ({ frames := 3, cells := 0, slots := 0, locals := 47 } : Room).cells ({ frames := 3, cells := 0, slots := 0, locals := 47 } : Room).slots) := by
  refine MetFree.of_bodySF (plainFor_of_name pn_java_lang_AbstractStringBuilder) hisR ?_
  intro p e s m args below meth c s₁ Bd hml0 hP hK
  obtain ⟨rfl, hZ, hh⟩ := hP
  have hx := Bd.exec
  have hby := Bd.bytes
  have hml : c.maxLocals = 3 := hml0
  have hown : s.vm.findClass "java/lang/AbstractStringBuilder" = some m.cls := findClass_of_methodNamed Bd.named
  have hnm := (name_of_methodNamed Bd.named Bd.method).1
  have X0 : Stand p l e ({ frames := 3, cells := 0, slots := 0, locals := 47 } : Room) s m #[(.ref x), (.ref sa)] below meth c s₁ [] 0 0 := Stand.of_body Bd
  have e0 : s₁.heap = h0 := by rw [← hh, Bd.state]; rfl
  have N0 := Fr.nil n0
  have pre0 : ∀ t, Steps p.tables e below (s₁.setTop (mkF m 0 #[.val (.ref x), .val (.ref sa), .unset] [])) t → Steps p.tables e below (s₁.setTop (entryFrame m #[(.ref x), (.ref sa)] 3)) t := fun t k => castTop (ef_own_aapp m) k
  have ne_x_xb : x ≠ xb := Exa.neArv EX.exa KX (hw _ (List.mem_of_getElem? (i := 33) rfl))
  obtain ⟨cq1, kq1, q1a, q1b, q1c⟩ := isOf hZ e0 ES
  obtain ⟨_, _, ⟨T1, L1, k1, n1⟩, -, X1, ⟨Lc1, hQ1, l1, y1, z1⟩, st1⟩ := X0.virtualBack hx (y := (⟨"java/lang/String", "length", "()I"⟩ : MethodName)) (z := (⟨"java/lang/String", "length", "()I"⟩ : MethodName)) hown (mvT hZ (hw _ (List.mem_of_getElem? (i := 60) rfl))) (mvT hZ (hw _ (List.mem_of_getElem? (i := 61) rfl))) (notFace_of_selects (args := #[]) (mvT hZ (hw _ (List.mem_of_getElem? (i := 63) rfl)))) (mvT hZ (hw _ (List.mem_of_getElem? (i := 63) rfl))) (mvT hZ (hw _ (List.mem_of_getElem? (i := 62) rfl))) (by decide) (backOf (W := 0) (own_slen l Z a0 hw [] sa sb kS z us G1 h0 n0 Z0 ES VS CS KS O2 P5 XO) hZ (hw _ (List.mem_of_getElem? (i := 64) rfl)) (hw _ (List.mem_of_getElem? (i := 6) rfl)) (by decide) (by decide)) q1a q1c (g := (mkF m 10 #[.val (.ref x), .val (.ref sa), .unset] [(.ref sa)])) rfl (by rw [hml]; rfl) (Steps.refl _) (argsL := []) (rest := []) (lenOf pd___I rfl) rfl (by show 2 * 0 + _ ≤ _; exact Nat.le_of_eq rfl) (hb hby d_jdk_68_method_22_code_10) (fun _ _ => ⟨rfl, e0, (by decide : 0 + 0 ≤ _), (by decide : 0 + 0 ≤ _)⟩)
  dsimp only [Pt.U, Pt.locs, Pt.cells, Pt.slots] at X1 l1 y1 z1 st1 hQ1
  subst l1 y1 z1
  obtain ⟨rfl, N1q, e1q⟩ := hQ1
  have N1 := Fr.app N0 N1q
  have pre2 : ∀ t, Steps p.tables e below (T1.setTop (mkF m 13 #[.val (.ref x), .val (.ref sa), .unset] [(.int z)])) t → Steps p.tables e below (s₁.setTop (entryFrame m #[(.ref x), (.ref sa)] 3)) t := by
    intro t kk
    refine pre0 t ?_
    show Steps p.tables e below (s₁.setTop (mkF m 0 #[.val (.ref x), .val (.ref sa), .unset] [])) _
    refine XS.aloadN X0.here hx rfl (hb hby d_jdk_68_method_22_code_0) rfl rfl ?_
    show Steps p.tables e below (s₁.setTop (mkF m 1 #[.val (.ref x), .val (.ref sa), .unset] [(.ref sa)])) _
    refine XS.ifnonnullYes X0.here hx rfl (pc0 := 1) (pc' := 9) rfl (hb hby d_jdk_68_method_22_code_1) rfl (by decide) (by decide) ?_
    show Steps p.tables e below (s₁.setTop (mkF m 9 #[.val (.ref x), .val (.ref sa), .unset] [])) _
    refine XS.aloadN X0.here hx rfl (hb hby d_jdk_68_method_22_code_9) rfl rfl ?_
    show Steps p.tables e below (s₁.setTop (mkF m 10 #[.val (.ref x), .val (.ref sa), .unset] [(.ref sa)])) _
    exact st1.trans kk
  obtain ⟨T3, X3, e3, st3⟩ := getF X1 hx hZ hown (host := "") (Or.inl (hw _ (List.mem_of_getElem? (i := 71) rfl))) Via.refl e1q NX (g := (mkF m 16 #[.val (.ref x), .val (.ref sa), .val (.int z)] [(.ref x), (.ref x)])) rfl rfl (hb hby d_jdk_68_method_22_code_16)
  have pre4 : ∀ t, Steps p.tables e below (T3.setTop (mkF m 19 #[.val (.ref x), .val (.ref sa), .val (.int z)] [(.int cnt), (.ref x)])) t → Steps p.tables e below (s₁.setTop (entryFrame m #[(.ref x), (.ref sa)] 3)) t := by
    intro t kk
    refine pre2 t ?_
    show Steps p.tables e below (T1.setTop (mkF m 13 #[.val (.ref x), .val (.ref sa), .unset] [(.int z)])) _
    refine XS.istoreN X1.here hx rfl (hb hby d_jdk_68_method_22_code_13) rfl (l' := #[.val (.ref x), .val (.ref sa), .val (.int z)]) rfl ?_
    show Steps p.tables e below (T1.setTop (mkF m 14 #[.val (.ref x), .val (.ref sa), .val (.int z)] [])) _
    refine XS.aloadN X1.here hx rfl (hb hby d_jdk_68_method_22_code_14) rfl rfl ?_
    show Steps p.tables e below (T1.setTop (mkF m 15 #[.val (.ref x), .val (.ref sa), .val (.int z)] [(.ref x)])) _
    refine XS.aloadN X1.here hx rfl (hb hby d_jdk_68_method_22_code_15) rfl rfl ?_
    show Steps p.tables e below (T1.setTop (mkF m 16 #[.val (.ref x), .val (.ref sa), .val (.int z)] [(.ref x), (.ref x)])) _
    exact st3 _ kk
  obtain ⟨cq5, kq5, q5a, q5b, q5c⟩ := isOf hZ e3 EX.exa
  obtain ⟨_, _, ⟨T5, L5, k5, n5⟩, -, X5, ⟨Lc5, hQ5, l5, y5, z5⟩, st5⟩ := X3.virtualBack hx (y := (⟨"java/lang/AbstractStringBuilder", "ensureCapacityInternal", "(I)V"⟩ : MethodName)) (z := (⟨"java/lang/AbstractStringBuilder", "ensureCapacityInternal", "(I)V"⟩ : MethodName)) hown (mvT hZ (hw _ (List.mem_of_getElem? (i := 73) rfl))) (own_decl (mvT hZ (hw _ (List.mem_of_getElem? (i := 74) rfl))) (mvT hZ (hw _ (List.mem_of_getElem? (i := 77) rfl)))) (notFace_of_selects (args := #[]) (mvT hZ (hw _ (List.mem_of_getElem? (i := 76) rfl)))) (mvT hZ (hw _ (List.mem_of_getElem? (i := 76) rfl))) (mvT hZ (hw _ (List.mem_of_getElem? (i := 74) rfl))) (by decide) (backOf (W := 0) (own_ens l Z a0 hw [] x xb kX cnt vs (cnt + z) h0 n0 Z0 EX VX CX NX KX hen) hZ (hw _ (List.mem_of_getElem? (i := 77) rfl)) (hw _ (List.mem_of_getElem? (i := 42) rfl)) (by decide) (by decide)) q5a q5c (g := (mkF m 21 #[.val (.ref x), .val (.ref sa), .val (.int z)] [(.int (cnt + z)), (.ref x)])) rfl (by rw [hml]; rfl) (Steps.refl _) (argsL := [(.int (cnt + z))]) (rest := []) (lenOf pd__I_V rfl) rfl (by show 2 * 0 + _ ≤ _; exact Nat.le_of_eq rfl) (hb hby d_jdk_68_method_22_code_21) (fun _ _ => ⟨rfl, e3, (by decide : 0 + 0 ≤ _), (by decide : 0 + 0 ≤ _)⟩)
  dsimp only [Pt.U, Pt.locs, Pt.cells, Pt.slots] at X5 l5 y5 z5 st5 hQ5
  subst l5 y5 z5
  obtain ⟨rfl, N5q, e5q⟩ := hQ5
  have N5 := Fr.app N1 N5q
  have pre6 : ∀ t, Steps p.tables e below (T5.setTop (mkF m 24 #[.val (.ref x), .val (.ref sa), .val (.int z)] [])) t → Steps p.tables e below (s₁.setTop (entryFrame m #[(.ref x), (.ref sa)] 3)) t := by
    intro t kk
    refine pre4 t ?_
    show Steps p.tables e below (T3.setTop (mkF m 19 #[.val (.ref x), .val (.ref sa), .val (.int z)] [(.int cnt), (.ref x)])) _
    refine XS.iloadN X3.here hx rfl (hb hby d_jdk_68_method_22_code_19) rfl ?_
    show Steps p.tables e below (T3.setTop (mkF m 20 #[.val (.ref x), .val (.ref sa), .val (.int z)] [(.int z), (.int cnt), (.ref x)])) _
    refine XS.iadd X3.here hx rfl (hb hby d_jdk_68_method_22_code_20) rfl ?_
    show Steps p.tables e below (T3.setTop (mkF m 21 #[.val (.ref x), .val (.ref sa), .val (.int z)] [(.int (cnt + z)), (.ref x)])) _
    exact st5.trans kk
  obtain ⟨T7, X7, e7, st7⟩ := getF X5 hx hZ hown (host := "") (Or.inl (hw _ (List.mem_of_getElem? (i := 71) rfl))) Via.refl e5q NX (g := (mkF m 26 #[.val (.ref x), .val (.ref sa), .val (.int z)] [(.ref x), (.ref x)])) rfl rfl (hb hby d_jdk_68_method_22_code_26)
  have pre8 : ∀ t, Steps p.tables e below (T7.setTop (mkF m 29 #[.val (.ref x), .val (.ref sa), .val (.int z)] [(.int cnt), (.ref x)])) t → Steps p.tables e below (s₁.setTop (entryFrame m #[(.ref x), (.ref sa)] 3)) t := by
    intro t kk
    refine pre6 t ?_
    show Steps p.tables e below (T5.setTop (mkF m 24 #[.val (.ref x), .val (.ref sa), .val (.int z)] [])) _
    refine XS.aloadN X5.here hx rfl (hb hby d_jdk_68_method_22_code_24) rfl rfl ?_
    show Steps p.tables e below (T5.setTop (mkF m 25 #[.val (.ref x), .val (.ref sa), .val (.int z)] [(.ref x)])) _
    refine XS.aloadN X5.here hx rfl (hb hby d_jdk_68_method_22_code_25) rfl rfl ?_
    show Steps p.tables e below (T5.setTop (mkF m 26 #[.val (.ref x), .val (.ref sa), .val (.int z)] [(.ref x), (.ref x)])) _
    exact st7 _ kk
  obtain ⟨cq9, kq9, q9a, q9b, q9c⟩ := isOf hZ e7 EX.exa
  obtain ⟨_, _, ⟨T9, L9, k9, n9⟩, -, X9, ⟨Lc9, hQ9, l9, y9, z9⟩, st9⟩ := X7.virtualBack hx (y := (⟨"java/lang/AbstractStringBuilder", "putStringAt", "(ILjava/lang/String;)V"⟩ : MethodName)) (z := (⟨"java/lang/AbstractStringBuilder", "putStringAt", "(ILjava/lang/String;)V"⟩ : MethodName)) hown (mvT hZ (hw _ (List.mem_of_getElem? (i := 78) rfl))) (own_decl (mvT hZ (hw _ (List.mem_of_getElem? (i := 79) rfl))) (mvT hZ (hw _ (List.mem_of_getElem? (i := 82) rfl)))) (notFace_of_selects (args := #[]) (mvT hZ (hw _ (List.mem_of_getElem? (i := 81) rfl)))) (mvT hZ (hw _ (List.mem_of_getElem? (i := 81) rfl))) (mvT hZ (hw _ (List.mem_of_getElem? (i := 79) rfl))) (by decide) (backOf (W := 0) (own_psa l Z a0 hw [] sa sb kS z us x xb kX cnt vs G1 h0 n0 Z0 ES VS CS KS EX VX CX NX KX gx gb O2 P5 XO hz0 hd0 hsz hdz hvs) hZ (hw _ (List.mem_of_getElem? (i := 82) rfl)) (hw _ (List.mem_of_getElem? (i := 42) rfl)) (by decide) (by decide)) q9a q9c (g := (mkF m 30 #[.val (.ref x), .val (.ref sa), .val (.int z)] [(.ref sa), (.int cnt), (.ref x)])) rfl (by rw [hml]; rfl) (Steps.refl _) (argsL := [(.int cnt), (.ref sa)]) (rest := []) (lenOf pd__ILjava_lang_String__V rfl) rfl (by show 2 * 0 + _ ≤ _; exact Nat.le_of_eq rfl) (hb hby d_jdk_68_method_22_code_30) (fun _ _ => ⟨rfl, e7, (by decide : 0 + 0 ≤ _), (by decide : 0 + 0 ≤ _)⟩)
  dsimp only [Pt.U, Pt.locs, Pt.cells, Pt.slots] at X9 l9 y9 z9 st9 hQ9
  subst l9 y9 z9
  obtain ⟨rfl, N9q, K9, V9⟩ := hQ9
  have N9 := Fr.app N5 N9q
  have pre10 : ∀ t, Steps p.tables e below (T9.setTop (mkF m 33 #[.val (.ref x), .val (.ref sa), .val (.int z)] [])) t → Steps p.tables e below (s₁.setTop (entryFrame m #[(.ref x), (.ref sa)] 3)) t := by
    intro t kk
    refine pre8 t ?_
    show Steps p.tables e below (T7.setTop (mkF m 29 #[.val (.ref x), .val (.ref sa), .val (.int z)] [(.int cnt), (.ref x)])) _
    refine XS.aloadN X7.here hx rfl (hb hby d_jdk_68_method_22_code_29) rfl rfl ?_
    show Steps p.tables e below (T7.setTop (mkF m 30 #[.val (.ref x), .val (.ref sa), .val (.int z)] [(.ref sa), (.int cnt), (.ref x)])) _
    exact st9.trans kk
  have fc11 := (NX.keep K9 (ninS ne_x_xb nin0))
  obtain ⟨T12, X12, e12, st12⟩ := getF X9 hx hZ hown (host := "") (Or.inl (hw _ (List.mem_of_getElem? (i := 71) rfl))) Via.refl rfl fc11 (g := (mkF m 35 #[.val (.ref x), .val (.ref sa), .val (.int z)] [(.ref x), (.ref x)])) rfl rfl (hb hby d_jdk_68_method_22_code_35)
  have pre13 : ∀ t, Steps p.tables e below (T12.setTop (mkF m 38 #[.val (.ref x), .val (.ref sa), .val (.int z)] [(.int cnt), (.ref x)])) t → Steps p.tables e below (s₁.setTop (entryFrame m #[(.ref x), (.ref sa)] 3)) t := by
    intro t kk
    refine pre10 t ?_
    show Steps p.tables e below (T9.setTop (mkF m 33 #[.val (.ref x), .val (.ref sa), .val (.int z)] [])) _
    refine XS.aloadN X9.here hx rfl (hb hby d_jdk_68_method_22_code_33) rfl rfl ?_
    show Steps p.tables e below (T9.setTop (mkF m 34 #[.val (.ref x), .val (.ref sa), .val (.int z)] [(.ref x)])) _
    refine XS.dup X9.here hx rfl (hb hby d_jdk_68_method_22_code_34) rfl rfl ?_
    show Steps p.tables e below (T9.setTop (mkF m 35 #[.val (.ref x), .val (.ref sa), .val (.int z)] [(.ref x), (.ref x)])) _
    exact st12 _ kk
  have fc14 := (EX.keep K9)
  obtain ⟨T15, h15, X15, e15, W15, st15⟩ := putF X12 hx hZ hown (host := "") (Or.inl (hw _ (List.mem_of_getElem? (i := 71) rfl))) Via.refl e12 fc11 fc14.exa (Or.inl (hw _ (List.mem_of_getElem? (i := 72) rfl))) (hw _ (List.mem_of_getElem? (i := 33) rfl)) (ty := .int) (by decide) rfl rfl (g := (mkF m 40 #[.val (.ref x), .val (.ref sa), .val (.int z)] [(.int (cnt + z)), (.ref x)])) rfl rfl (hb hby d_jdk_68_method_22_code_40)
  have N15 := Fr.snoc X15 N9 gx
  have Fw15 := fc11.same W15
  have pre16 : ∀ t, Steps p.tables e below (T15.setTop (mkF m 43 #[.val (.ref x), .val (.ref sa), .val (.int z)] [])) t → Steps p.tables e below (s₁.setTop (entryFrame m #[(.ref x), (.ref sa)] 3)) t := by
    intro t kk
    refine pre13 t ?_
    show Steps p.tables e below (T12.setTop (mkF m 38 #[.val (.ref x), .val (.ref sa), .val (.int z)] [(.int cnt), (.ref x)])) _
    refine XS.iloadN X12.here hx rfl (hb hby d_jdk_68_method_22_code_38) rfl ?_
    show Steps p.tables e below (T12.setTop (mkF m 39 #[.val (.ref x), .val (.ref sa), .val (.int z)] [(.int z), (.int cnt), (.ref x)])) _
    refine XS.iadd X12.here hx rfl (hb hby d_jdk_68_method_22_code_39) rfl ?_
    show Steps p.tables e below (T12.setTop (mkF m 40 #[.val (.ref x), .val (.ref sa), .val (.int z)] [(.int (cnt + z)), (.ref x)])) _
    exact st15 _ kk
  have fc17 := (((Keep.refl h0 [x, xb]).trans K9 (allS (Or.inl (List.mem_of_getElem? (i := 1) rfl)) all0)).wr W15 (Or.inl (List.mem_of_getElem? (i := 0) rfl)))
  have fc18 := ((VX.keep K9 (ninS ne_x_xb nin0)).other W15 (Or.inr (slot_ne (Or.inl (hw _ (List.mem_of_getElem? (i := 47) rfl))) (Or.inl (hw _ (List.mem_of_getElem? (i := 72) rfl))) (by decide) (t := (.array .byte)) (t' := .int) (by decide) (by decide))))
  have fc19 := ((CX.keep K9 (ninS ne_x_xb nin0)).other W15 (Or.inr (slot_ne (Or.inl (hw _ (List.mem_of_getElem? (i := 49) rfl))) (Or.inl (hw _ (List.mem_of_getElem? (i := 72) rfl))) (by decide) (t := .byte) (t' := .int) (by decide) (by decide))))
  have fc20 := (V9.other W15 (Ne.symm ne_x_xb))
  obtain ⟨fs, hr, hrun, hended, hW, hsame⟩ := X15.leave (v := some (.ref x)) (fun h => by rw [Bd.returns] at h; cases h)
  refine ⟨_, _, pre16 _ ?_, hrun, hended, _, _, rfl, ?_, ⟨_, rfl⟩, hW, hsame.mono (by decide) (by decide)⟩
  · show Steps p.tables e below (T15.setTop (mkF m 43 #[.val (.ref x), .val (.ref sa), .val (.int z)] [])) _
    refine XS.aloadN X15.here hx rfl (hb hby d_jdk_68_method_22_code_43) rfl rfl ?_
    show Steps p.tables e below (T15.setTop (mkF m 44 #[.val (.ref x), .val (.ref sa), .val (.int z)] [(.ref x)])) _
    jvm_step X15.here [X15.here.top, hx, (hb hby d_jdk_68_method_22_code_44), X15.method', Bd.returns, Value.isRef, FieldType.isReference]
    first | (intro acts; rw [hr _ acts rfl rfl rfl]) | rw [hr _ _ rfl rfl rfl]
    exact Steps.refl _
  · show Q_own_aapp Z sa sb kS z us x xb kX cnt vs G1 h0 n0 _ T15.heap _
    rw [e15]
    exact ⟨rfl, N15, fc17, fc18, fc19, Fw15, fc20⟩
theorem own_sameZ {Z : State} {a0 : Array Value} {vm : Vm} {y : MethodName} (hZ : Z.Warmed39 vm) (w : (Cond.instanceMethod y).before a0 Z = true) (N : NotFace Z y) (hy : y.cls ≠ "java/lang/invoke/MethodHandle" ∧ y.cls ≠ "java/lang/invoke/VarHandle" := by decide) : (Cond.sameMethod y.cls y.cls y.name y.desc).before a0 Z = true := own_same w N hy
theorem pn_java_lang_StringBuilder : plainName "java/lang/StringBuilder" = true := by first | (simp [plainName, overriddenIn]; done) | decide +kernel
theorem d_jdk_67_method_7_code_0 : decode jdk_67_method_7_code 0 = .ok (.aload_n 0, 1) := by decide +kernel
theorem d_jdk_67_method_7_code_1 : decode jdk_67_method_7_code 1 = .ok (.aload_n 1, 1) := by decide +kernel
theorem pd__Ljava_lang_String__Ljava_lang_AbstractStringBuilder_ : parseMethodDescriptor "(Ljava/lang/String;)Ljava/lang/AbstractStringBuilder;" = some ⟨[(.object "java/lang/String")], some (.object "java/lang/AbstractStringBuilder")⟩ := by decide +kernel
theorem d_jdk_67_method_7_code_2 : decode jdk_67_method_7_code 2 = .ok (.invokespecial 29, 3) := by decide +kernel
theorem d_jdk_67_method_7_code_5 : decode jdk_67_method_7_code 5 = .ok (.pop, 1) := by decide +kernel
theorem d_jdk_67_method_7_code_6 : decode jdk_67_method_7_code 6 = .ok (.aload_n 0, 1) := by decide +kernel
theorem d_jdk_67_method_7_code_7 : decode jdk_67_method_7_code 7 = .ok (.areturn, 1) := by decide +kernel
theorem ef_own_app (m : MethodId) {x : Addr} {sa : Addr} : entryFrame m #[(.ref x), (.ref sa)] 2 = mkF m 0 #[.val (.ref x), .val (.ref sa)] [] := by first | (simp [entryFrame, mkF, argsToLocals, Value.category]; done) | rfl
def Q_own_app (Z : State) (sa sb : Addr) (kS : ClassId) (z : Int32) (us : List Value) (x xb : Addr) (kX : ClassId) (cnt : Int32) (vs : List Value) (G1 : Int32) (h0 : Heap) (n0 : Nat) (v : Option Value) (h : Heap) (L : List Loc) : Prop := v = some (.ref x) ∧ Fr n0 L ∧ Keep h0 h [x, xb] ∧ Fld Z h x "java/lang/AbstractStringBuilder" "value" "[B" (.ref xb) ∧ Fld Z h x "java/lang/AbstractStringBuilder" "coder" "B" (.int (0 : Int32)) ∧ Fld Z h x "java/lang/AbstractStringBuilder" "count" "I" (.int (cnt + z)) ∧ Arv Z h xb kX .byte (16 : Int32) (vs.take cnt.toNatClampNeg ++ us ++ vs.drop (cnt.toNatClampNeg + z.toNatClampNeg)) (.int (0 : Int32))
set_option maxRecDepth 65536 in
set_option maxHeartbeats 40000000 in
theorem own_app (l : Launch) (Z : State) (a0 : Array Value) (hw : ∀ d ∈ tables_1, d.before a0 Z = true) (ws : List Jvm.Cond) (sa sb : Addr) (kS : ClassId) (z : Int32) (us : List Value) (x xb : Addr) (kX : ClassId) (cnt : Int32) (vs : List Value) (G1 : Int32) (h0 : Heap) (n0 : Nat) (Z0 : n0 ≤ h0.size) (ES : Exa Z h0 sa "java/lang/String") (VS : Fld Z h0 sa "java/lang/String" "value" "[B" (.ref sb)) (CS : Fld Z h0 sa "java/lang/String" "coder" "B" (.int (0 : Int32))) (KS : Arv Z h0 sb kS .byte z us (.int (0 : Int32))) (EX : Obj Z h0 x "java/lang/StringBuilder") (VX : Fld Z h0 x "java/lang/AbstractStringBuilder" "value" "[B" (.ref xb)) (CX : Fld Z h0 x "java/lang/AbstractStringBuilder" "coder" "B" (.int (0 : Int32))) (NX : Fld Z h0 x "java/lang/AbstractStringBuilder" "count" "I" (.int cnt)) (KX : Arv Z h0 xb kX .byte (16 : Int32) vs (.int (0 : Int32))) (gx : n0 ≤ x) (gb : n0 ≤ xb) (O2 : Sta Z Z.heap "java/lang/String" "COMPACT_STRINGS" "Z" (.int G1)) (P5 : ¬ G1 = (0 : Int32)) (XO : Old Z n0 h0) (hz0 : ¬ z < 0) (hd0 : ¬ cnt < 0) (hsz : us.length = z.toNatClampNeg) (hdz : cnt.toNatClampNeg + z.toNatClampNeg ≤ 16) (hvs : vs.length = 16) (hen : ¬ (0 : Int32) < (cnt + z) - (16 : Int32)) :
    MetFree l (⟨"java/lang/StringBuilder", "append", "(Ljava/lang/String;)Ljava/lang/StringBuilder;"⟩ : MethodName) (head1 (Jvm.Cond.code (⟨"java/lang/StringBuilder", "append", "(Ljava/lang/String;)Ljava/lang/StringBuilder;"⟩ : MethodName) jdk_67_method_7_code 2 (some (.object "java/lang/StringBuilder")) :: ws) ({ frames := 4, cells := 0, slots := 0, locals := 61 } : Room)) (fun a U => a = #[(.ref x), (.ref sa)] ∧ Z.Warmed39 U.vm ∧ U.heap = h0) (fun _ _ _ _ _ => True) (fun _ U o U' => ∃ v L, o = .returned v ∧ Q_own_app Z sa sb kS z us x xb kX cnt vs G1 h0 n0 v U'.heap L ∧ FrameEnd U o U' L ({ frames := 4, cells := 0, slots := 0, locals := 61 } : Room).cells ({ frames := 4, cells := 0, slots := 0, locals := 61 } : Room).slots) := by
  refine MetFree.of_bodySF (plainFor_of_name pn_java_lang_StringBuilder) hisR ?_
  intro p e s m args below meth c s₁ Bd hml0 hP hK
  obtain ⟨rfl, hZ, hh⟩ := hP
  have hx := Bd.exec
  have hby := Bd.bytes
  have hml : c.maxLocals = 2 := hml0
  have hown : s.vm.findClass "java/lang/StringBuilder" = some m.cls := findClass_of_methodNamed Bd.named
  have hnm := (name_of_methodNamed Bd.named Bd.method).1
  have X0 : Stand p l e ({ frames := 4, cells := 0, slots := 0, locals := 61 } : Room) s m #[(.ref x), (.ref sa)] below meth c s₁ [] 0 0 := Stand.of_body Bd
  have e0 : s₁.heap = h0 := by rw [← hh, Bd.state]; rfl
  have N0 := Fr.nil n0
  have pre0 : ∀ t, Steps p.tables e below (s₁.setTop (mkF m 0 #[.val (.ref x), .val (.ref sa)] [])) t → Steps p.tables e below (s₁.setTop (entryFrame m #[(.ref x), (.ref sa)] 2)) t := fun t k => castTop (ef_own_app m) k
  have ne_x_xb : x ≠ xb := Exa.neArv EX.exa KX (hw _ (List.mem_of_getElem? (i := 33) rfl))
  obtain ⟨_, _, ⟨T1, L1, k1, n1⟩, -, X1, ⟨Lc1, hQ1, l1, y1, z1⟩, st1⟩ := superBack X0 hx hZ (y := (⟨"java/lang/AbstractStringBuilder", "append", "(Ljava/lang/String;)Ljava/lang/AbstractStringBuilder;"⟩ : MethodName)) hown (hw _ (List.mem_of_getElem? (i := 55) rfl)) (own_sameZ hZ (hw _ (List.mem_of_getElem? (i := 56) rfl)) (own_nf (y := (⟨"java/lang/AbstractStringBuilder", "append", "(Ljava/lang/String;)Ljava/lang/AbstractStringBuilder;"⟩ : MethodName)) (y' := (⟨"java/lang/AbstractStringBuilder", "getValue", "()[B"⟩ : MethodName)) rfl (notFace_of_selects (args := #[]) (hw _ (List.mem_of_getElem? (i := 113) rfl))) (hw _ (List.mem_of_getElem? (i := 112) rfl)))) (hw _ (List.mem_of_getElem? (i := 56) rfl)) (hw _ (List.mem_of_getElem? (i := 57) rfl)) (by decide) (backOf (W := 0) (own_aapp l Z a0 hw [] sa sb kS z us x xb kX cnt vs G1 h0 n0 Z0 ES VS CS KS EX VX CX NX KX gx gb O2 P5 XO hz0 hd0 hsz hdz hvs hen) hZ (hw _ (List.mem_of_getElem? (i := 59) rfl)) (hw _ (List.mem_of_getElem? (i := 42) rfl)) (by decide) (by decide)) e0 (Ins.self EX.exa) (g := (mkF m 2 #[.val (.ref x), .val (.ref sa)] [(.ref sa), (.ref x)])) rfl (by rw [hml]; rfl) (hw _ (List.mem_of_getElem? (i := 59) rfl)) (argsL := [(.ref sa)]) (rest := []) (lenOf pd__Ljava_lang_String__Ljava_lang_AbstractStringBuilder_ rfl) rfl (by show 2 * 0 + _ ≤ _; exact Nat.le_of_eq rfl) (hb hby d_jdk_67_method_7_code_2) (fun _ _ => ⟨rfl, e0, (by decide : 0 + 0 ≤ _), (by decide : 0 + 0 ≤ _)⟩)
  dsimp only [Pt.U, Pt.locs, Pt.cells, Pt.slots] at X1 l1 y1 z1 st1 hQ1
  subst l1 y1 z1
  obtain ⟨rfl, N1q, K1, F11, F21, F31, V1⟩ := hQ1
  have N1 := Fr.app N0 N1q
  have pre2 : ∀ t, Steps p.tables e below (T1.setTop (mkF m 5 #[.val (.ref x), .val (.ref sa)] [(.ref x)])) t → Steps p.tables e below (s₁.setTop (entryFrame m #[(.ref x), (.ref sa)] 2)) t := by
    intro t kk
    refine pre0 t ?_
    show Steps p.tables e below (s₁.setTop (mkF m 0 #[.val (.ref x), .val (.ref sa)] [])) _
    refine XS.aloadN X0.here hx rfl (hb hby d_jdk_67_method_7_code_0) rfl rfl ?_
    show Steps p.tables e below (s₁.setTop (mkF m 1 #[.val (.ref x), .val (.ref sa)] [(.ref x)])) _
    refine XS.aloadN X0.here hx rfl (hb hby d_jdk_67_method_7_code_1) rfl rfl ?_
    show Steps p.tables e below (s₁.setTop (mkF m 2 #[.val (.ref x), .val (.ref sa)] [(.ref sa), (.ref x)])) _
    exact st1.trans kk
  have fc3 := ((Keep.refl h0 [x, xb]).trans K1 (allS (Or.inl (List.mem_of_getElem? (i := 0) rfl)) (allS (Or.inl (List.mem_of_getElem? (i := 1) rfl)) all0)))
  obtain ⟨fs, hr, hrun, hended, hW, hsame⟩ := X1.leave (v := some (.ref x)) (fun h => by rw [Bd.returns] at h; cases h)
  refine ⟨_, _, pre2 _ ?_, hrun, hended, _, _, rfl, ?_, ⟨_, rfl⟩, hW, hsame.mono (by decide) (by decide)⟩
  · show Steps p.tables e below (T1.setTop (mkF m 5 #[.val (.ref x), .val (.ref sa)] [(.ref x)])) _
    refine XS.pop X1.here hx rfl (hb hby d_jdk_67_method_7_code_5) rfl rfl ?_
    show Steps p.tables e below (T1.setTop (mkF m 6 #[.val (.ref x), .val (.ref sa)] [])) _
    refine XS.aloadN X1.here hx rfl (hb hby d_jdk_67_method_7_code_6) rfl rfl ?_
    show Steps p.tables e below (T1.setTop (mkF m 7 #[.val (.ref x), .val (.ref sa)] [(.ref x)])) _
    jvm_step X1.here [X1.here.top, hx, (hb hby d_jdk_67_method_7_code_7), X1.method', Bd.returns, Value.isRef, FieldType.isReference]
    first | (intro acts; rw [hr _ acts rfl rfl rfl]) | rw [hr _ _ rfl rfl rfl]
    exact Steps.refl _
  · show Q_own_app Z sa sb kS z us x xb kX cnt vs G1 h0 n0 _ T1.heap _
    exact ⟨rfl, N1, fc3, F11, F21, F31, V1⟩
theorem d_jdk_68_method_6_code_0 : decode jdk_68_method_6_code 0 = .ok (.aload_n 0, 1) := by decide +kernel
theorem d_jdk_68_method_6_code_1 : decode jdk_68_method_6_code 1 = .ok (.getfield 79, 3) := by decide +kernel
theorem d_jdk_68_method_6_code_4 : decode jdk_68_method_6_code 4 = .ok (.ireturn, 1) := by decide +kernel
theorem ef_own_alen (m : MethodId) {x : Addr} : entryFrame m #[(.ref x)] 1 = mkF m 0 #[.val (.ref x)] [] := by first | (simp [entryFrame, mkF, argsToLocals, Value.category]; done) | rfl
def Q_own_alen (Z : State) (x : Addr) (cnt : Int32) (h0 : Heap) (n0 : Nat) (v : Option Value) (h : Heap) (L : List Loc) : Prop := v = some (.int cnt) ∧ Fr n0 L ∧ h = h0
set_option maxRecDepth 65536 in
set_option maxHeartbeats 40000000 in
theorem own_alen (l : Launch) (Z : State) (a0 : Array Value) (hw : ∀ d ∈ tables_1, d.before a0 Z = true) (ws : List Jvm.Cond) (x : Addr) (cnt : Int32) (h0 : Heap) (n0 : Nat) (Z0 : n0 ≤ h0.size) (NX : Fld Z h0 x "java/lang/AbstractStringBuilder" "count" "I" (.int cnt)) :
    MetFree l (⟨"java/lang/AbstractStringBuilder", "length", "()I"⟩ : MethodName) (head1 (Jvm.Cond.code (⟨"java/lang/AbstractStringBuilder", "length", "()I"⟩ : MethodName) jdk_68_method_6_code 1 (some .int) :: ws) ({ frames := 0, cells := 0, slots := 0, locals := 0 } : Room)) (fun a U => a = #[(.ref x)] ∧ Z.Warmed39 U.vm ∧ U.heap = h0) (fun _ _ _ _ _ => True) (fun _ U o U' => ∃ v L, o = .returned v ∧ Q_own_alen Z x cnt h0 n0 v U'.heap L ∧ FrameEnd U o U' L ({ frames := 0, cells := 0, slots := 0, locals := 0 } : Room).cells ({ frames := 0, cells := 0, slots := 0, locals := 0 } : Room).slots) := by
  refine MetFree.of_bodySF (plainFor_of_name pn_java_lang_AbstractStringBuilder) hisR ?_
  intro p e s m args below meth c s₁ Bd hml0 hP hK
  obtain ⟨rfl, hZ, hh⟩ := hP
  have hx := Bd.exec
  have hby := Bd.bytes
  have hml : c.maxLocals = 1 := hml0
  have hown : s.vm.findClass "java/lang/AbstractStringBuilder" = some m.cls := findClass_of_methodNamed Bd.named
  have hnm := (name_of_methodNamed Bd.named Bd.method).1
  have X0 : Stand p l e ({ frames := 0, cells := 0, slots := 0, locals := 0 } : Room) s m #[(.ref x)] below meth c s₁ [] 0 0 := Stand.of_body Bd
  have e0 : s₁.heap = h0 := by rw [← hh, Bd.state]; rfl
  have N0 := Fr.nil n0
  have pre0 : ∀ t, Steps p.tables e below (s₁.setTop (mkF m 0 #[.val (.ref x)] [])) t → Steps p.tables e below (s₁.setTop (entryFrame m #[(.ref x)] 1)) t := fun t k => castTop (ef_own_alen m) k
  obtain ⟨T1, X1, e1, st1⟩ := getF X0 hx hZ hown (host := "") (Or.inl (hw _ (List.mem_of_getElem? (i := 71) rfl))) Via.refl e0 NX (g := (mkF m 1 #[.val (.ref x)] [(.ref x)])) rfl rfl (hb hby d_jdk_68_method_6_code_1)
  have pre2 : ∀ t, Steps p.tables e below (T1.setTop (mkF m 4 #[.val (.ref x)] [(.int cnt)])) t → Steps p.tables e below (s₁.setTop (entryFrame m #[(.ref x)] 1)) t := by
    intro t kk
    refine pre0 t ?_
    show Steps p.tables e below (s₁.setTop (mkF m 0 #[.val (.ref x)] [])) _
    refine XS.aloadN X0.here hx rfl (hb hby d_jdk_68_method_6_code_0) rfl rfl ?_
    show Steps p.tables e below (s₁.setTop (mkF m 1 #[.val (.ref x)] [(.ref x)])) _
    exact st1 _ kk
  obtain ⟨fs, hr, hrun, hended, hW, hsame⟩ := X1.leave (v := some (.int cnt)) (fun h => by rw [Bd.returns] at h; cases h)
  refine ⟨_, _, pre2 _ ?_, hrun, hended, _, _, rfl, ?_, ⟨_, rfl⟩, hW, hsame.mono (by decide) (by decide)⟩
  · show Steps p.tables e below (T1.setTop (mkF m 4 #[.val (.ref x)] [(.int cnt)])) _
    exact retI X1 hx Bd.returns (hb hby d_jdk_68_method_6_code_4) hr
  · show Q_own_alen Z x cnt h0 n0 _ T1.heap _
    rw [e1]
    exact ⟨rfl, N0, rfl⟩
theorem d_jdk_67_method_93_code_0 : decode jdk_67_method_93_code 0 = .ok (.aload_n 0, 1) := by decide +kernel
theorem d_jdk_67_method_93_code_1 : decode jdk_67_method_93_code 1 = .ok (.invokespecial 343, 3) := by decide +kernel
theorem d_jdk_67_method_93_code_4 : decode jdk_67_method_93_code 4 = .ok (.ireturn, 1) := by decide +kernel
theorem ef_own_blen (m : MethodId) {x : Addr} : entryFrame m #[(.ref x)] 1 = mkF m 0 #[.val (.ref x)] [] := by first | (simp [entryFrame, mkF, argsToLocals, Value.category]; done) | rfl
def Q_own_blen (Z : State) (x : Addr) (cnt : Int32) (h0 : Heap) (n0 : Nat) (v : Option Value) (h : Heap) (L : List Loc) : Prop := v = some (.int cnt) ∧ Fr n0 L ∧ h = h0
set_option maxRecDepth 65536 in
set_option maxHeartbeats 40000000 in
theorem own_blen (l : Launch) (Z : State) (a0 : Array Value) (hw : ∀ d ∈ tables_1, d.before a0 Z = true) (ws : List Jvm.Cond) (x : Addr) (cnt : Int32) (h0 : Heap) (n0 : Nat) (Z0 : n0 ≤ h0.size) (EX : Obj Z h0 x "java/lang/StringBuilder") (NX : Fld Z h0 x "java/lang/AbstractStringBuilder" "count" "I" (.int cnt)) :
    MetFree l (⟨"java/lang/StringBuilder", "length", "()I"⟩ : MethodName) (head1 (Jvm.Cond.code (⟨"java/lang/StringBuilder", "length", "()I"⟩ : MethodName) jdk_67_method_93_code 1 (some .int) :: ws) ({ frames := 1, cells := 0, slots := 0, locals := 12 } : Room)) (fun a U => a = #[(.ref x)] ∧ Z.Warmed39 U.vm ∧ U.heap = h0) (fun _ _ _ _ _ => True) (fun _ U o U' => ∃ v L, o = .returned v ∧ Q_own_blen Z x cnt h0 n0 v U'.heap L ∧ FrameEnd U o U' L ({ frames := 1, cells := 0, slots := 0, locals := 12 } : Room).cells ({ frames := 1, cells := 0, slots := 0, locals := 12 } : Room).slots) := by
  refine MetFree.of_bodySF (plainFor_of_name pn_java_lang_StringBuilder) hisR ?_
  intro p e s m args below meth c s₁ Bd hml0 hP hK
  obtain ⟨rfl, hZ, hh⟩ := hP
  have hx := Bd.exec
  have hby := Bd.bytes
  have hml : c.maxLocals = 1 := hml0
  have hown : s.vm.findClass "java/lang/StringBuilder" = some m.cls := findClass_of_methodNamed Bd.named
  have hnm := (name_of_methodNamed Bd.named Bd.method).1
  have X0 : Stand p l e ({ frames := 1, cells := 0, slots := 0, locals := 12 } : Room) s m #[(.ref x)] below meth c s₁ [] 0 0 := Stand.of_body Bd
  have e0 : s₁.heap = h0 := by rw [← hh, Bd.state]; rfl
  have N0 := Fr.nil n0
  have pre0 : ∀ t, Steps p.tables e below (s₁.setTop (mkF m 0 #[.val (.ref x)] [])) t → Steps p.tables e below (s₁.setTop (entryFrame m #[(.ref x)] 1)) t := fun t k => castTop (ef_own_blen m) k
  obtain ⟨_, _, ⟨T1, L1, k1, n1⟩, -, X1, ⟨Lc1, hQ1, l1, y1, z1⟩, st1⟩ := superBack X0 hx hZ (y := (⟨"java/lang/AbstractStringBuilder", "length", "()I"⟩ : MethodName)) hown (hw _ (List.mem_of_getElem? (i := 121) rfl)) (own_sameZ hZ (hw _ (List.mem_of_getElem? (i := 117) rfl)) (own_nf (y := (⟨"java/lang/AbstractStringBuilder", "length", "()I"⟩ : MethodName)) (y' := (⟨"java/lang/AbstractStringBuilder", "getValue", "()[B"⟩ : MethodName)) rfl (notFace_of_selects (args := #[]) (hw _ (List.mem_of_getElem? (i := 113) rfl))) (hw _ (List.mem_of_getElem? (i := 112) rfl)))) (hw _ (List.mem_of_getElem? (i := 117) rfl)) (hw _ (List.mem_of_getElem? (i := 57) rfl)) (by decide) (backOf (W := 0) (own_alen l Z a0 hw [] x cnt h0 n0 Z0 NX) hZ (hw _ (List.mem_of_getElem? (i := 122) rfl)) (hw _ (List.mem_of_getElem? (i := 42) rfl)) (by decide) (by decide)) e0 (Ins.self EX.exa) (g := (mkF m 1 #[.val (.ref x)] [(.ref x)])) rfl (by rw [hml]; rfl) (hw _ (List.mem_of_getElem? (i := 122) rfl)) (argsL := []) (rest := []) (lenOf pd___I rfl) rfl (by show 2 * 0 + _ ≤ _; exact Nat.le_of_eq rfl) (hb hby d_jdk_67_method_93_code_1) (fun _ _ => ⟨rfl, e0, (by decide : 0 + 0 ≤ _), (by decide : 0 + 0 ≤ _)⟩)
  dsimp only [Pt.U, Pt.locs, Pt.cells, Pt.slots] at X1 l1 y1 z1 st1 hQ1
  subst l1 y1 z1
  obtain ⟨rfl, N1q, e1q⟩ := hQ1
  have N1 := Fr.app N0 N1q
  have pre2 : ∀ t, Steps p.tables e below (T1.setTop (mkF m 4 #[.val (.ref x)] [(.int cnt)])) t → Steps p.tables e below (s₁.setTop (entryFrame m #[(.ref x)] 1)) t := by
    intro t kk
    refine pre0 t ?_
    show Steps p.tables e below (s₁.setTop (mkF m 0 #[.val (.ref x)] [])) _
    refine XS.aloadN X0.here hx rfl (hb hby d_jdk_67_method_93_code_0) rfl rfl ?_
    show Steps p.tables e below (s₁.setTop (mkF m 1 #[.val (.ref x)] [(.ref x)])) _
    exact st1.trans kk
  obtain ⟨fs, hr, hrun, hended, hW, hsame⟩ := X1.leave (v := some (.int cnt)) (fun h => by rw [Bd.returns] at h; cases h)
  refine ⟨_, _, pre2 _ ?_, hrun, hended, _, _, rfl, ?_, ⟨_, rfl⟩, hW, hsame.mono (by decide) (by decide)⟩
  · show Steps p.tables e below (T1.setTop (mkF m 4 #[.val (.ref x)] [(.int cnt)])) _
    exact retI X1 hx Bd.returns (hb hby d_jdk_67_method_93_code_4) hr
  · show Q_own_blen Z x cnt h0 n0 _ T1.heap _
    rw [e1q]
    exact ⟨rfl, N1, rfl⟩
theorem d_jdk_68_method_2_code_0 : decode jdk_68_method_2_code 0 = .ok (.aload_n 0, 1) := by decide +kernel
theorem d_jdk_68_method_2_code_1 : decode jdk_68_method_2_code 1 = .ok (.invokespecial 3, 3) := by decide +kernel
theorem d_jdk_68_method_2_code_4 : decode jdk_68_method_2_code 4 = .ok (.getstatic 18, 3) := by decide +kernel
theorem d_jdk_68_method_2_code_7 : decode jdk_68_method_2_code 7 = .ok (.ifCond .eq 18, 3) := by decide +kernel
theorem d_jdk_68_method_2_code_10 : decode jdk_68_method_2_code 10 = .ok (.aload_n 0, 1) := by decide +kernel
theorem d_jdk_68_method_2_code_11 : decode jdk_68_method_2_code 11 = .ok (.iload_n 1, 1) := by decide +kernel
theorem d_jdk_68_method_2_code_12 : decode jdk_68_method_2_code 12 = .ok (.newarray .byte, 2) := by decide +kernel
theorem d_jdk_68_method_2_code_14 : decode jdk_68_method_2_code 14 = .ok (.putfield 15, 3) := by decide +kernel
theorem d_jdk_68_method_2_code_17 : decode jdk_68_method_2_code 17 = .ok (.aload_n 0, 1) := by decide +kernel
theorem d_jdk_68_method_2_code_18 : decode jdk_68_method_2_code 18 = .ok (.iconst 0, 1) := by decide +kernel
theorem d_jdk_68_method_2_code_19 : decode jdk_68_method_2_code 19 = .ok (.putfield 22, 3) := by decide +kernel
theorem d_jdk_68_method_2_code_22 : decode jdk_68_method_2_code 22 = .ok (.goto 16, 3) := by decide +kernel
theorem d_jdk_68_method_2_code_38 : decode jdk_68_method_2_code 38 = .ok (.return_, 1) := by decide +kernel
theorem ef_own_ainit (m : MethodId) {x : Addr} : entryFrame m #[(.ref x), (.int (16 : Int32))] 2 = mkF m 0 #[.val (.ref x), .val (.int (16 : Int32))] [] := by first | (simp [entryFrame, mkF, argsToLocals, Value.category]; done) | rfl
def Q_own_ainit (Z : State) (x : Addr) (cnt G1 : Int32) (h0 : Heap) (n0 : Nat) (v : Option Value) (h : Heap) (L : List Loc) : Prop := ∃ (xb : Addr) (kX : ClassId), v = none ∧ Fr n0 L ∧ Keep h0 h [x] ∧ h0.size ≤ xb ∧ Fld Z h x "java/lang/AbstractStringBuilder" "value" "[B" (.ref xb) ∧ Fld Z h x "java/lang/AbstractStringBuilder" "coder" "B" (.int (0 : Int32)) ∧ Fld Z h x "java/lang/AbstractStringBuilder" "count" "I" (.int cnt) ∧ Arv Z h xb kX .byte (16 : Int32) (List.replicate 16 (.int (0 : Int32))) (.int (0 : Int32))
set_option maxRecDepth 65536 in
set_option maxHeartbeats 40000000 in
theorem own_ainit (l : Launch) (Z : State) (a0 : Array Value) (hw : ∀ d ∈ tables_1, d.before a0 Z = true) (ws : List Jvm.Cond) (x : Addr) (cnt G1 : Int32) (h0 : Heap) (n0 : Nat) (Z0 : n0 ≤ h0.size) (EX : Obj Z h0 x "java/lang/StringBuilder") (gx : n0 ≤ x) (NX : Fld Z h0 x "java/lang/AbstractStringBuilder" "count" "I" (.int cnt)) (O2 : Sta Z Z.heap "java/lang/String" "COMPACT_STRINGS" "Z" (.int G1)) (P5 : ¬ G1 = (0 : Int32)) (XO : Old Z n0 h0) :
    MetFree l (⟨"java/lang/AbstractStringBuilder", "<init>", "(I)V"⟩ : MethodName) (head1 (Jvm.Cond.code (⟨"java/lang/AbstractStringBuilder", "<init>", "(I)V"⟩ : MethodName) jdk_68_method_2_code 2 none :: ws) ({ frames := 1, cells := 1, slots := 16, locals := 12 } : Room)) (fun a U => a = #[(.ref x), (.int (16 : Int32))] ∧ Z.Warmed39 U.vm ∧ U.heap = h0) (fun _ _ _ _ _ => True) (fun _ U o U' => ∃ v L, o = .returned v ∧ Q_own_ainit Z x cnt G1 h0 n0 v U'.heap L ∧ FrameEnd U o U' L ({ frames := 1, cells := 1, slots := 16, locals := 12 } : Room).cells ({ frames := 1, cells := 1, slots := 16, locals := 12 } : Room).slots) := by
  refine MetFree.of_bodySF (plainFor_of_name pn_java_lang_AbstractStringBuilder) hisR ?_
  intro p e s m args below meth c s₁ Bd hml0 hP hK
  obtain ⟨rfl, hZ, hh⟩ := hP
  have hx := Bd.exec
  have hby := Bd.bytes
  have hml : c.maxLocals = 2 := hml0
  have hown : s.vm.findClass "java/lang/AbstractStringBuilder" = some m.cls := findClass_of_methodNamed Bd.named
  have hnm := (name_of_methodNamed Bd.named Bd.method).1
  have X0 : Stand p l e ({ frames := 1, cells := 1, slots := 16, locals := 12 } : Room) s m #[(.ref x), (.int (16 : Int32))] below meth c s₁ [] 0 0 := Stand.of_body Bd
  have e0 : s₁.heap = h0 := by rw [← hh, Bd.state]; rfl
  have N0 := Fr.nil n0
  have pre0 : ∀ t, Steps p.tables e below (s₁.setTop (mkF m 0 #[.val (.ref x), .val (.int (16 : Int32))] [])) t → Steps p.tables e below (s₁.setTop (entryFrame m #[(.ref x), (.int (16 : Int32))] 2)) t := fun t k => castTop (ef_own_ainit m) k
  obtain ⟨T1, X1, e1, st1⟩ := initO X0 hx hZ hown (hw _ (List.mem_of_getElem? (i := 44) rfl)) (hw _ (List.mem_of_getElem? (i := 16) rfl)) (hw _ (List.mem_of_getElem? (i := 17) rfl)) e0 (g := (mkF m 1 #[.val (.ref x), .val (.int (16 : Int32))] [(.ref x)])) rfl (by rw [hml]; rfl) rfl (hb hby d_jdk_68_method_2_code_1) (by decide) (W := 0) (by show 2 * 0 + _ ≤ _; exact Nat.le_of_eq rfl) (by decide)
  have pre2 : ∀ t, Steps p.tables e below (T1.setTop (mkF m 4 #[.val (.ref x), .val (.int (16 : Int32))] [])) t → Steps p.tables e below (s₁.setTop (entryFrame m #[(.ref x), (.int (16 : Int32))] 2)) t := by
    intro t kk
    refine pre0 t ?_
    show Steps p.tables e below (s₁.setTop (mkF m 0 #[.val (.ref x), .val (.int (16 : Int32))] [])) _
    refine XS.aloadN X0.here hx rfl (hb hby d_jdk_68_method_2_code_0) rfl rfl ?_
    show Steps p.tables e below (s₁.setTop (mkF m 1 #[.val (.ref x), .val (.int (16 : Int32))] [(.ref x)])) _
    exact st1 _ kk
  obtain ⟨T3, X3, e3, st3⟩ := getS2 X1 hx hZ hown (host := "") (Or.inl (hw _ (List.mem_of_getElem? (i := 45) rfl))) Via.refl e1 (O2.ext XO.2) (g := (mkF m 4 #[.val (.ref x), .val (.int (16 : Int32))] [])) rfl (hb hby d_jdk_68_method_2_code_4)
  have pre4 : ∀ t, Steps p.tables e below (T3.setTop (mkF m 7 #[.val (.ref x), .val (.int (16 : Int32))] [(.int G1)])) t → Steps p.tables e below (s₁.setTop (entryFrame m #[(.ref x), (.int (16 : Int32))] 2)) t := by
    intro t kk
    refine pre2 t ?_
    show Steps p.tables e below (T1.setTop (mkF m 4 #[.val (.ref x), .val (.int (16 : Int32))] [])) _
    exact st3 _ kk
  obtain ⟨fb5, g5⟩ : ∃ z, z = h0.size := ⟨_, rfl⟩
  have ne_x_fb5 : x ≠ fb5 := Nat.ne_of_lt (Nat.lt_of_lt_of_le EX.lt (Nat.le_of_eq g5.symm))
  have lo_fb5 : n0 ≤ fb5 := Nat.le_trans Z0 (Nat.le_of_eq g5.symm)
  have hi_fb5 : h0.size ≤ fb5 := Nat.le_trans (Keep.refl h0 [x]).1 (Nat.le_of_eq g5.symm)
  obtain ⟨T5, h5, k5, X5, e5, E5, A5, st5⟩ := newP X3 hx hZ (hw _ (List.mem_of_getElem? (i := 19) rfl)) e3 (g := (mkF m 12 #[.val (.ref x), .val (.int (16 : Int32))] [(.int (16 : Int32)), (.ref x)])) rfl (hb hby d_jdk_68_method_2_code_12) rfl (by decide) (cap := 16) (by decide) (by decide) (by decide) (by decide)
  rw [← g5] at A5 st5
  have V5 : Arv Z h5 fb5 k5 .byte (16 : Int32) [(.int (0 : Int32)), (.int (0 : Int32)), (.int (0 : Int32)), (.int (0 : Int32)), (.int (0 : Int32)), (.int (0 : Int32)), (.int (0 : Int32)), (.int (0 : Int32)), (.int (0 : Int32)), (.int (0 : Int32)), (.int (0 : Int32)), (.int (0 : Int32)), (.int (0 : Int32)), (.int (0 : Int32)), (.int (0 : Int32)), (.int (0 : Int32))] (.int (0 : Int32)) := (Arv.new A5 (by decide)).pad (pad_rep [] (.int (0 : Int32)) 16)
  have pre6 : ∀ t, Steps p.tables e below (T5.setTop (mkF m 14 #[.val (.ref x), .val (.int (16 : Int32))] [(.ref fb5), (.ref x)])) t → Steps p.tables e below (s₁.setTop (entryFrame m #[(.ref x), (.int (16 : Int32))] 2)) t := by
    intro t kk
    refine pre4 t ?_
    show Steps p.tables e below (T3.setTop (mkF m 7 #[.val (.ref x), .val (.int (16 : Int32))] [(.int G1)])) _
    refine XS.ifNo X3.here hx rfl (hb hby d_jdk_68_method_2_code_7) rfl ((if0 _ _).trans (feq P5).1) ?_
    show Steps p.tables e below (T3.setTop (mkF m 10 #[.val (.ref x), .val (.int (16 : Int32))] [])) _
    refine XS.aloadN X3.here hx rfl (hb hby d_jdk_68_method_2_code_10) rfl rfl ?_
    show Steps p.tables e below (T3.setTop (mkF m 11 #[.val (.ref x), .val (.int (16 : Int32))] [(.ref x)])) _
    refine XS.iloadN X3.here hx rfl (hb hby d_jdk_68_method_2_code_11) rfl ?_
    show Steps p.tables e below (T3.setTop (mkF m 12 #[.val (.ref x), .val (.int (16 : Int32))] [(.int (16 : Int32)), (.ref x)])) _
    exact st5 _ kk
  have fc7 := (EX.ext E5)
  obtain ⟨u8, U8⟩ := Obj.fld fc7 (Or.inl (hw _ (List.mem_of_getElem? (i := 47) rfl))) (hw _ (List.mem_of_getElem? (i := 33) rfl))
  obtain ⟨T8, h8, X8, e8, W8, st8⟩ := putF X5 hx hZ hown (host := "") (Or.inl (hw _ (List.mem_of_getElem? (i := 46) rfl))) Via.refl e5 U8 fc7.exa (Or.inl (hw _ (List.mem_of_getElem? (i := 47) rfl))) (hw _ (List.mem_of_getElem? (i := 33) rfl)) (ty := (.array .byte)) (by decide) rfl rfl (g := (mkF m 14 #[.val (.ref x), .val (.int (16 : Int32))] [(.ref fb5), (.ref x)])) rfl rfl (hb hby d_jdk_68_method_2_code_14)
  have N8 := Fr.snoc X8 N0 gx
  have Fw8 := U8.same W8
  have pre9 : ∀ t, Steps p.tables e below (T8.setTop (mkF m 17 #[.val (.ref x), .val (.int (16 : Int32))] [])) t → Steps p.tables e below (s₁.setTop (entryFrame m #[(.ref x), (.int (16 : Int32))] 2)) t := by
    intro t kk
    refine pre6 t ?_
    show Steps p.tables e below (T5.setTop (mkF m 14 #[.val (.ref x), .val (.int (16 : Int32))] [(.ref fb5), (.ref x)])) _
    exact st8 _ kk
  have fc10 := (fc7.wr W8)
  obtain ⟨u11, U11⟩ := Obj.fld fc10 (Or.inl (hw _ (List.mem_of_getElem? (i := 49) rfl))) (hw _ (List.mem_of_getElem? (i := 33) rfl))
  obtain ⟨T11, h11, X11, e11, W11, st11⟩ := putF X8 hx hZ hown (host := "") (Or.inl (hw _ (List.mem_of_getElem? (i := 48) rfl))) Via.refl e8 U11 fc10.exa (Or.inl (hw _ (List.mem_of_getElem? (i := 49) rfl))) (hw _ (List.mem_of_getElem? (i := 33) rfl)) (ty := .byte) (by decide) rfl rfl (g := (mkF m 19 #[.val (.ref x), .val (.int (16 : Int32))] [(.int (0 : Int32)), (.ref x)])) rfl rfl (hb hby d_jdk_68_method_2_code_19)
  have N11 := Fr.snoc X11 N8 gx
  have Fw11 := U11.same W11
  have pre12 : ∀ t, Steps p.tables e below (T11.setTop (mkF m 22 #[.val (.ref x), .val (.int (16 : Int32))] [])) t → Steps p.tables e below (s₁.setTop (entryFrame m #[(.ref x), (.int (16 : Int32))] 2)) t := by
    intro t kk
    refine pre9 t ?_
    show Steps p.tables e below (T8.setTop (mkF m 17 #[.val (.ref x), .val (.int (16 : Int32))] [])) _
    refine XS.aloadN X8.here hx rfl (hb hby d_jdk_68_method_2_code_17) rfl rfl ?_
    show Steps p.tables e below (T8.setTop (mkF m 18 #[.val (.ref x), .val (.int (16 : Int32))] [(.ref x)])) _
    refine XS.iconst X8.here hx rfl (hb hby d_jdk_68_method_2_code_18) ?_
    show Steps p.tables e below (T8.setTop (mkF m 19 #[.val (.ref x), .val (.int (16 : Int32))] [(.int (0 : Int32)), (.ref x)])) _
    exact st11 _ kk
  have fc13 := ((((Keep.refl h0 [x]).ext E5).wr W8 (Or.inl (List.mem_of_getElem? (i := 0) rfl))).wr W11 (Or.inl (List.mem_of_getElem? (i := 0) rfl)))
  have fc14 := (Fw8.other W11 (Or.inr (slot_ne (Or.inl (hw _ (List.mem_of_getElem? (i := 47) rfl))) (Or.inl (hw _ (List.mem_of_getElem? (i := 49) rfl))) (by decide) (t := (.array .byte)) (t' := .byte) (by decide) (by decide))))
  have fc15 := (((NX.ext E5).other W8 (Or.inr (slot_ne (Or.inl (hw _ (List.mem_of_getElem? (i := 72) rfl))) (Or.inl (hw _ (List.mem_of_getElem? (i := 47) rfl))) (by decide) (t := .int) (t' := (.array .byte)) (by decide) (by decide)))).other W11 (Or.inr (slot_ne (Or.inl (hw _ (List.mem_of_getElem? (i := 72) rfl))) (Or.inl (hw _ (List.mem_of_getElem? (i := 49) rfl))) (by decide) (t := .int) (t' := .byte) (by decide) (by decide))))
  have fc16 := ((V5.other W8 (Ne.symm ne_x_fb5)).other W11 (Ne.symm ne_x_fb5))
  obtain ⟨fs, hr, hrun, hended, hW, hsame⟩ := X11.leave (v := none) (fun _ => rfl)
  refine ⟨_, _, pre12 _ ?_, hrun, hended, _, _, rfl, ?_, ⟨_, rfl⟩, hW, hsame.mono (by decide) (by decide)⟩
  · show Steps p.tables e below (T11.setTop (mkF m 22 #[.val (.ref x), .val (.int (16 : Int32))] [])) _
    refine XS.goto X11.here hx rfl (pc0 := 22) (pc' := 38) rfl (hb hby d_jdk_68_method_2_code_22) (by decide) (by decide) ?_
    show Steps p.tables e below (T11.setTop (mkF m 38 #[.val (.ref x), .val (.int (16 : Int32))] [])) _
    exact X11.returnOut hx Bd.returns (hb hby d_jdk_68_method_2_code_38) hr
  · show Q_own_ainit Z x cnt G1 h0 n0 _ T11.heap _
    rw [e11]
    exact ⟨fb5, k5, rfl, N11, fc13, hi_fb5, fc14, Fw11, fc15, fc16⟩
theorem d_jdk_67_method_1_code_0 : decode jdk_67_method_1_code 0 = .ok (.aload_n 0, 1) := by decide +kernel
theorem d_jdk_67_method_1_code_1 : decode jdk_67_method_1_code 1 = .ok (.bipush 16, 2) := by decide +kernel
theorem d_jdk_67_method_1_code_3 : decode jdk_67_method_1_code 3 = .ok (.invokespecial 1, 3) := by decide +kernel
theorem d_jdk_67_method_1_code_6 : decode jdk_67_method_1_code 6 = .ok (.return_, 1) := by decide +kernel
theorem ef_own_binit (m : MethodId) {x : Addr} : entryFrame m #[(.ref x)] 1 = mkF m 0 #[.val (.ref x)] [] := by first | (simp [entryFrame, mkF, argsToLocals, Value.category]; done) | rfl
def Q_own_binit (Z : State) (x : Addr) (cnt G1 : Int32) (h0 : Heap) (n0 : Nat) (v : Option Value) (h : Heap) (L : List Loc) : Prop := ∃ (xb : Addr) (kX : ClassId), v = none ∧ Fr n0 L ∧ Keep h0 h [x] ∧ h0.size ≤ xb ∧ Fld Z h x "java/lang/AbstractStringBuilder" "value" "[B" (.ref xb) ∧ Fld Z h x "java/lang/AbstractStringBuilder" "coder" "B" (.int (0 : Int32)) ∧ Fld Z h x "java/lang/AbstractStringBuilder" "count" "I" (.int cnt) ∧ Arv Z h xb kX .byte (16 : Int32) (List.replicate 16 (.int (0 : Int32))) (.int (0 : Int32))
set_option maxRecDepth 65536 in
set_option maxHeartbeats 40000000 in
theorem own_binit (l : Launch) (Z : State) (a0 : Array Value) (hw : ∀ d ∈ tables_1, d.before a0 Z = true) (ws : List Jvm.Cond) (x : Addr) (cnt G1 : Int32) (h0 : Heap) (n0 : Nat) (Z0 : n0 ≤ h0.size) (EX : Obj Z h0 x "java/lang/StringBuilder") (gx : n0 ≤ x) (NX : Fld Z h0 x "java/lang/AbstractStringBuilder" "count" "I" (.int cnt)) (O2 : Sta Z Z.heap "java/lang/String" "COMPACT_STRINGS" "Z" (.int G1)) (P5 : ¬ G1 = (0 : Int32)) (XO : Old Z n0 h0) :
    MetFree l (⟨"java/lang/StringBuilder", "<init>", "()V"⟩ : MethodName) (head1 (Jvm.Cond.code (⟨"java/lang/StringBuilder", "<init>", "()V"⟩ : MethodName) jdk_67_method_1_code 1 none :: ws) ({ frames := 2, cells := 1, slots := 16, locals := 25 } : Room)) (fun a U => a = #[(.ref x)] ∧ Z.Warmed39 U.vm ∧ U.heap = h0) (fun _ _ _ _ _ => True) (fun _ U o U' => ∃ v L, o = .returned v ∧ Q_own_binit Z x cnt G1 h0 n0 v U'.heap L ∧ FrameEnd U o U' L ({ frames := 2, cells := 1, slots := 16, locals := 25 } : Room).cells ({ frames := 2, cells := 1, slots := 16, locals := 25 } : Room).slots) := by
  refine MetFree.of_bodySF (plainFor_of_name pn_java_lang_StringBuilder) hisR ?_
  intro p e s m args below meth c s₁ Bd hml0 hP hK
  obtain ⟨rfl, hZ, hh⟩ := hP
  have hx := Bd.exec
  have hby := Bd.bytes
  have hml : c.maxLocals = 1 := hml0
  have hown : s.vm.findClass "java/lang/StringBuilder" = some m.cls := findClass_of_methodNamed Bd.named
  have hnm := (name_of_methodNamed Bd.named Bd.method).1
  have X0 : Stand p l e ({ frames := 2, cells := 1, slots := 16, locals := 25 } : Room) s m #[(.ref x)] below meth c s₁ [] 0 0 := Stand.of_body Bd
  have e0 : s₁.heap = h0 := by rw [← hh, Bd.state]; rfl
  have N0 := Fr.nil n0
  have pre0 : ∀ t, Steps p.tables e below (s₁.setTop (mkF m 0 #[.val (.ref x)] [])) t → Steps p.tables e below (s₁.setTop (entryFrame m #[(.ref x)] 1)) t := fun t k => castTop (ef_own_binit m) k
  obtain ⟨_, _, ⟨T1, L1, k1, n1⟩, -, X1, ⟨Lc1, hQ1, l1, y1, z1⟩, st1⟩ := X0.specialBack hx (y := (⟨"java/lang/AbstractStringBuilder", "<init>", "(I)V"⟩ : MethodName)) rfl hown (mvT hZ (hw _ (List.mem_of_getElem? (i := 38) rfl))) (mvT hZ (hw _ (List.mem_of_getElem? (i := 39) rfl))) (mvT hZ (hw _ (List.mem_of_getElem? (i := 43) rfl))) (by decide) (backOf (W := 0) (own_ainit l Z a0 hw [] x cnt G1 h0 n0 Z0 EX gx NX O2 P5 XO) hZ (hw _ (List.mem_of_getElem? (i := 43) rfl)) (hw _ (List.mem_of_getElem? (i := 42) rfl)) (by decide) (by decide)) (g := (mkF m 3 #[.val (.ref x)] [(.int (16 : Int32)), (.ref x)])) rfl (by rw [hml]; rfl) (Steps.refl _) (a := x) (argsL := [(.int (16 : Int32))]) (rest := []) (lenOf pd__I_V rfl) rfl (by show 2 * 0 + _ ≤ _; exact Nat.le_of_eq rfl) (hb hby d_jdk_67_method_1_code_3) (fun _ _ => ⟨rfl, e0, (by decide : 0 + 1 ≤ _), (by decide : 0 + 16 ≤ _)⟩)
  dsimp only [Pt.U, Pt.locs, Pt.cells, Pt.slots] at X1 l1 y1 z1 st1 hQ1
  subst l1 y1 z1
  obtain ⟨b1, kb1, rfl, N1q, K1, q1a, q1b, q1c, q1d, q1e⟩ := hQ1
  have N1 := Fr.app N0 N1q
  have pre2 : ∀ t, Steps p.tables e below (T1.setTop (mkF m 6 #[.val (.ref x)] [])) t → Steps p.tables e below (s₁.setTop (entryFrame m #[(.ref x)] 1)) t := by
    intro t kk
    refine pre0 t ?_
    show Steps p.tables e below (s₁.setTop (mkF m 0 #[.val (.ref x)] [])) _
    refine XS.aloadN X0.here hx rfl (hb hby d_jdk_67_method_1_code_0) rfl rfl ?_
    show Steps p.tables e below (s₁.setTop (mkF m 1 #[.val (.ref x)] [(.ref x)])) _
    refine XS.bipush X0.here hx rfl (hb hby d_jdk_67_method_1_code_1) ?_
    show Steps p.tables e below (s₁.setTop (mkF m 3 #[.val (.ref x)] [(.int (16 : Int32)), (.ref x)])) _
    exact st1.trans kk
  have fc3 := ((Keep.refl h0 [x]).trans K1 (allS (Or.inl (List.mem_of_getElem? (i := 0) rfl)) all0))
  obtain ⟨fs, hr, hrun, hended, hW, hsame⟩ := X1.leave (v := none) (fun _ => rfl)
  refine ⟨_, _, pre2 _ ?_, hrun, hended, _, _, rfl, ?_, ⟨_, rfl⟩, hW, hsame.mono (by decide) (by decide)⟩
  · show Steps p.tables e below (T1.setTop (mkF m 6 #[.val (.ref x)] [])) _
    exact X1.returnOut hx Bd.returns (hb hby d_jdk_67_method_1_code_6) hr
  · show Q_own_binit Z x cnt G1 h0 n0 _ T1.heap _
    exact ⟨b1, kb1, rfl, N1, fc3, q1a, q1b, q1c, q1d, q1e⟩
theorem d_jdk_68_method_64_code_0 : decode jdk_68_method_64_code 0 = .ok (.aload_n 0, 1) := by decide +kernel
theorem d_jdk_68_method_64_code_1 : decode jdk_68_method_64_code 1 = .ok (.getfield 15, 3) := by decide +kernel
theorem d_jdk_68_method_64_code_4 : decode jdk_68_method_64_code 4 = .ok (.areturn, 1) := by decide +kernel
theorem ef_own_gv (m : MethodId) {x : Addr} : entryFrame m #[(.ref x)] 1 = mkF m 0 #[.val (.ref x)] [] := by first | (simp [entryFrame, mkF, argsToLocals, Value.category]; done) | rfl
def Q_own_gv (Z : State) (x xb : Addr) (h0 : Heap) (n0 : Nat) (v : Option Value) (h : Heap) (L : List Loc) : Prop := v = some (.ref xb) ∧ Fr n0 L ∧ h = h0
set_option maxRecDepth 65536 in
set_option maxHeartbeats 40000000 in
theorem own_gv (l : Launch) (Z : State) (a0 : Array Value) (hw : ∀ d ∈ tables_1, d.before a0 Z = true) (ws : List Jvm.Cond) (x xb : Addr) (h0 : Heap) (n0 : Nat) (Z0 : n0 ≤ h0.size) (VX : Fld Z h0 x "java/lang/AbstractStringBuilder" "value" "[B" (.ref xb)) :
    MetFree l (⟨"java/lang/AbstractStringBuilder", "getValue", "()[B"⟩ : MethodName) (head1 (Jvm.Cond.code (⟨"java/lang/AbstractStringBuilder", "getValue", "()[B"⟩ : MethodName) jdk_68_method_64_code 1 (some (.array .byte)) :: ws) ({ frames := 0, cells := 0, slots := 0, locals := 0 } : Room)) (fun a U => a = #[(.ref x)] ∧ Z.Warmed39 U.vm ∧ U.heap = h0) (fun _ _ _ _ _ => True) (fun _ U o U' => ∃ v L, o = .returned v ∧ Q_own_gv Z x xb h0 n0 v U'.heap L ∧ FrameEnd U o U' L ({ frames := 0, cells := 0, slots := 0, locals := 0 } : Room).cells ({ frames := 0, cells := 0, slots := 0, locals := 0 } : Room).slots) := by
  refine MetFree.of_bodySF (plainFor_of_name pn_java_lang_AbstractStringBuilder) hisR ?_
  intro p e s m args below meth c s₁ Bd hml0 hP hK
  obtain ⟨rfl, hZ, hh⟩ := hP
  have hx := Bd.exec
  have hby := Bd.bytes
  have hml : c.maxLocals = 1 := hml0
  have hown : s.vm.findClass "java/lang/AbstractStringBuilder" = some m.cls := findClass_of_methodNamed Bd.named
  have hnm := (name_of_methodNamed Bd.named Bd.method).1
  have X0 : Stand p l e ({ frames := 0, cells := 0, slots := 0, locals := 0 } : Room) s m #[(.ref x)] below meth c s₁ [] 0 0 := Stand.of_body Bd
  have e0 : s₁.heap = h0 := by rw [← hh, Bd.state]; rfl
  have N0 := Fr.nil n0
  have pre0 : ∀ t, Steps p.tables e below (s₁.setTop (mkF m 0 #[.val (.ref x)] [])) t → Steps p.tables e below (s₁.setTop (entryFrame m #[(.ref x)] 1)) t := fun t k => castTop (ef_own_gv m) k
  obtain ⟨T1, X1, e1, st1⟩ := getF X0 hx hZ hown (host := "") (Or.inl (hw _ (List.mem_of_getElem? (i := 46) rfl))) Via.refl e0 VX (g := (mkF m 1 #[.val (.ref x)] [(.ref x)])) rfl rfl (hb hby d_jdk_68_method_64_code_1)
  have pre2 : ∀ t, Steps p.tables e below (T1.setTop (mkF m 4 #[.val (.ref x)] [(.ref xb)])) t → Steps p.tables e below (s₁.setTop (entryFrame m #[(.ref x)] 1)) t := by
    intro t kk
    refine pre0 t ?_
    show Steps p.tables e below (s₁.setTop (mkF m 0 #[.val (.ref x)] [])) _
    refine XS.aloadN X0.here hx rfl (hb hby d_jdk_68_method_64_code_0) rfl rfl ?_
    show Steps p.tables e below (s₁.setTop (mkF m 1 #[.val (.ref x)] [(.ref x)])) _
    exact st1 _ kk
  obtain ⟨fs, hr, hrun, hended, hW, hsame⟩ := X1.leave (v := some (.ref xb)) (fun h => by rw [Bd.returns] at h; cases h)
  refine ⟨_, _, pre2 _ ?_, hrun, hended, _, _, rfl, ?_, ⟨_, rfl⟩, hW, hsame.mono (by decide) (by decide)⟩
  · show Steps p.tables e below (T1.setTop (mkF m 4 #[.val (.ref x)] [(.ref xb)])) _
    jvm_step X1.here [X1.here.top, hx, (hb hby d_jdk_68_method_64_code_4), X1.method', Bd.returns, Value.isRef, FieldType.isReference]
    first | (intro acts; rw [hr _ acts rfl rfl rfl]) | rw [hr _ _ rfl rfl rfl]
    exact Steps.refl _
  · show Q_own_gv Z x xb h0 n0 _ T1.heap _
    rw [e1]
    exact ⟨rfl, N0, rfl⟩
theorem d_jdk_68_method_68_code_0 : decode jdk_68_method_68_code 0 = .ok (.getstatic 18, 3) := by decide +kernel
theorem d_jdk_68_method_68_code_3 : decode jdk_68_method_68_code 3 = .ok (.ifCond .eq 14, 3) := by decide +kernel
theorem d_jdk_68_method_68_code_6 : decode jdk_68_method_68_code 6 = .ok (.aload_n 0, 1) := by decide +kernel
theorem d_jdk_68_method_68_code_7 : decode jdk_68_method_68_code 7 = .ok (.getfield 22, 3) := by decide +kernel
theorem d_jdk_68_method_68_code_10 : decode jdk_68_method_68_code 10 = .ok (.ifCond .ne 7, 3) := by decide +kernel
theorem d_jdk_68_method_68_code_13 : decode jdk_68_method_68_code 13 = .ok (.iconst 1, 1) := by decide +kernel
theorem d_jdk_68_method_68_code_14 : decode jdk_68_method_68_code 14 = .ok (.goto 4, 3) := by decide +kernel
theorem d_jdk_68_method_68_code_18 : decode jdk_68_method_68_code 18 = .ok (.ireturn, 1) := by decide +kernel
theorem ef_own_isl (m : MethodId) {x : Addr} : entryFrame m #[(.ref x)] 1 = mkF m 0 #[.val (.ref x)] [] := by first | (simp [entryFrame, mkF, argsToLocals, Value.category]; done) | rfl
def Q_own_isl (Z : State) (x : Addr) (G1 : Int32) (h0 : Heap) (n0 : Nat) (v : Option Value) (h : Heap) (L : List Loc) : Prop := v = some (.int (1 : Int32)) ∧ Fr n0 L ∧ h = h0
set_option maxRecDepth 65536 in
set_option maxHeartbeats 40000000 in
theorem own_isl (l : Launch) (Z : State) (a0 : Array Value) (hw : ∀ d ∈ tables_1, d.before a0 Z = true) (ws : List Jvm.Cond) (x : Addr) (G1 : Int32) (h0 : Heap) (n0 : Nat) (Z0 : n0 ≤ h0.size) (CX : Fld Z h0 x "java/lang/AbstractStringBuilder" "coder" "B" (.int (0 : Int32))) (O2 : Sta Z Z.heap "java/lang/String" "COMPACT_STRINGS" "Z" (.int G1)) (P5 : ¬ G1 = (0 : Int32)) (XO : Old Z n0 h0) :
    MetFree l (⟨"java/lang/AbstractStringBuilder", "isLatin1", "()Z"⟩ : MethodName) (head1 (Jvm.Cond.code (⟨"java/lang/AbstractStringBuilder", "isLatin1", "()Z"⟩ : MethodName) jdk_68_method_68_code 1 (some .boolean) :: ws) ({ frames := 0, cells := 0, slots := 0, locals := 0 } : Room)) (fun a U => a = #[(.ref x)] ∧ Z.Warmed39 U.vm ∧ U.heap = h0) (fun _ _ _ _ _ => True) (fun _ U o U' => ∃ v L, o = .returned v ∧ Q_own_isl Z x G1 h0 n0 v U'.heap L ∧ FrameEnd U o U' L ({ frames := 0, cells := 0, slots := 0, locals := 0 } : Room).cells ({ frames := 0, cells := 0, slots := 0, locals := 0 } : Room).slots) := by
  refine MetFree.of_bodySF (plainFor_of_name pn_java_lang_AbstractStringBuilder) hisR ?_
  intro p e s m args below meth c s₁ Bd hml0 hP hK
  obtain ⟨rfl, hZ, hh⟩ := hP
  have hx := Bd.exec
  have hby := Bd.bytes
  have hml : c.maxLocals = 1 := hml0
  have hown : s.vm.findClass "java/lang/AbstractStringBuilder" = some m.cls := findClass_of_methodNamed Bd.named
  have hnm := (name_of_methodNamed Bd.named Bd.method).1
  have X0 : Stand p l e ({ frames := 0, cells := 0, slots := 0, locals := 0 } : Room) s m #[(.ref x)] below meth c s₁ [] 0 0 := Stand.of_body Bd
  have e0 : s₁.heap = h0 := by rw [← hh, Bd.state]; rfl
  have N0 := Fr.nil n0
  have pre0 : ∀ t, Steps p.tables e below (s₁.setTop (mkF m 0 #[.val (.ref x)] [])) t → Steps p.tables e below (s₁.setTop (entryFrame m #[(.ref x)] 1)) t := fun t k => castTop (ef_own_isl m) k
  obtain ⟨T1, X1, e1, st1⟩ := getS2 X0 hx hZ hown (host := "") (Or.inl (hw _ (List.mem_of_getElem? (i := 45) rfl))) Via.refl e0 (O2.ext XO.2) (g := (mkF m 0 #[.val (.ref x)] [])) rfl (hb hby d_jdk_68_method_68_code_0)
  have pre2 : ∀ t, Steps p.tables e below (T1.setTop (mkF m 3 #[.val (.ref x)] [(.int G1)])) t → Steps p.tables e below (s₁.setTop (entryFrame m #[(.ref x)] 1)) t := by
    intro t kk
    refine pre0 t ?_
    show Steps p.tables e below (s₁.setTop (mkF m 0 #[.val (.ref x)] [])) _
    exact st1 _ kk
  obtain ⟨T3, X3, e3, st3⟩ := getF X1 hx hZ hown (host := "") (Or.inl (hw _ (List.mem_of_getElem? (i := 48) rfl))) Via.refl e1 CX (g := (mkF m 7 #[.val (.ref x)] [(.ref x)])) rfl rfl (hb hby d_jdk_68_method_68_code_7)
  have pre4 : ∀ t, Steps p.tables e below (T3.setTop (mkF m 10 #[.val (.ref x)] [(.int (0 : Int32))])) t → Steps p.tables e below (s₁.setTop (entryFrame m #[(.ref x)] 1)) t := by
    intro t kk
    refine pre2 t ?_
    show Steps p.tables e below (T1.setTop (mkF m 3 #[.val (.ref x)] [(.int G1)])) _
    refine XS.ifNo X1.here hx rfl (hb hby d_jdk_68_method_68_code_3) rfl ((if0 _ _).trans (feq P5).1) ?_
    show Steps p.tables e below (T1.setTop (mkF m 6 #[.val (.ref x)] [])) _
    refine XS.aloadN X1.here hx rfl (hb hby d_jdk_68_method_68_code_6) rfl rfl ?_
    show Steps p.tables e below (T1.setTop (mkF m 7 #[.val (.ref x)] [(.ref x)])) _
    exact st3 _ kk
  obtain ⟨fs, hr, hrun, hended, hW, hsame⟩ := X3.leave (v := some (.int (1 : Int32))) (fun h => by rw [Bd.returns] at h; cases h)
  refine ⟨_, _, pre4 _ ?_, hrun, hended, _, _, rfl, ?_, ⟨_, rfl⟩, hW, hsame.mono (by decide) (by decide)⟩
  · show Steps p.tables e below (T3.setTop (mkF m 10 #[.val (.ref x)] [(.int (0 : Int32))])) _
    refine XS.ifNo X3.here hx rfl (hb hby d_jdk_68_method_68_code_10) rfl ((if0 _ _).trans (teq (rfl : (0 : Int32) = (0 : Int32))).2) ?_
    show Steps p.tables e below (T3.setTop (mkF m 13 #[.val (.ref x)] [])) _
    refine XS.iconst X3.here hx rfl (hb hby d_jdk_68_method_68_code_13) ?_
    show Steps p.tables e below (T3.setTop (mkF m 14 #[.val (.ref x)] [(.int (1 : Int32))])) _
    refine XS.goto X3.here hx rfl (pc0 := 14) (pc' := 18) rfl (hb hby d_jdk_68_method_68_code_14) (by decide) (by decide) ?_
    show Steps p.tables e below (T3.setTop (mkF m 18 #[.val (.ref x)] [(.int (1 : Int32))])) _
    exact retN X3 hx (t := .boolean) Bd.returns (by simp) (hb hby d_jdk_68_method_68_code_18) hr
  · show Q_own_isl Z x G1 h0 n0 _ T3.heap _
    rw [e3]
    exact ⟨rfl, N0, rfl⟩
theorem pn_java_util_Arrays : plainName "java/util/Arrays" = true := by first | (simp [plainName, overriddenIn]; done) | decide +kernel
theorem d_jdk_65_method_131_code_0 : decode jdk_65_method_131_code 0 = .ok (.iload_n 1, 1) := by decide +kernel
theorem d_jdk_65_method_131_code_1 : decode jdk_65_method_131_code 1 = .ok (.iload_n 0, 1) := by decide +kernel
theorem d_jdk_65_method_131_code_2 : decode jdk_65_method_131_code 2 = .ok (.if_icmp .ge 35, 3) := by decide +kernel
theorem d_jdk_65_method_131_code_37 : decode jdk_65_method_131_code 37 = .ok (.return_, 1) := by decide +kernel
theorem ef_own_cl (m : MethodId) {cnt : Int32} : entryFrame m #[(.int (0 : Int32)), (.int cnt)] 2 = mkF m 0 #[.val (.int (0 : Int32)), .val (.int cnt)] [] := by first | (simp [entryFrame, mkF, argsToLocals, Value.category]; done) | rfl
def Q_own_cl (Z : State) (cnt : Int32) (h0 : Heap) (n0 : Nat) (v : Option Value) (h : Heap) (L : List Loc) : Prop := v = none ∧ Fr n0 L ∧ h = h0
set_option maxRecDepth 65536 in
set_option maxHeartbeats 40000000 in
theorem own_cl (l : Launch) (Z : State) (a0 : Array Value) (hw : ∀ d ∈ tables_1, d.before a0 Z = true) (ws : List Jvm.Cond) (cnt : Int32) (h0 : Heap) (n0 : Nat) (Z0 : n0 ≤ h0.size) (hc0 : ¬ cnt < (0 : Int32)) :
    MetFree l (⟨"java/util/Arrays", "checkLength", "(II)V"⟩ : MethodName) (head1 (Jvm.Cond.code (⟨"java/util/Arrays", "checkLength", "(II)V"⟩ : MethodName) jdk_65_method_131_code 2 none :: ws) ({ frames := 0, cells := 0, slots := 0, locals := 0 } : Room)) (fun a U => a = #[(.int (0 : Int32)), (.int cnt)] ∧ Z.Warmed39 U.vm ∧ U.heap = h0) (fun _ _ _ _ _ => True) (fun _ U o U' => ∃ v L, o = .returned v ∧ Q_own_cl Z cnt h0 n0 v U'.heap L ∧ FrameEnd U o U' L ({ frames := 0, cells := 0, slots := 0, locals := 0 } : Room).cells ({ frames := 0, cells := 0, slots := 0, locals := 0 } : Room).slots) := by
  refine MetFree.of_bodySF (plainFor_of_name pn_java_util_Arrays) hisR ?_
  intro p e s m args below meth c s₁ Bd hml0 hP hK
  obtain ⟨rfl, hZ, hh⟩ := hP
  have hx := Bd.exec
  have hby := Bd.bytes
  have hml : c.maxLocals = 2 := hml0
  have hown : s.vm.findClass "java/util/Arrays" = some m.cls := findClass_of_methodNamed Bd.named
  have hnm := (name_of_methodNamed Bd.named Bd.method).1
  have X0 : Stand p l e ({ frames := 0, cells := 0, slots := 0, locals := 0 } : Room) s m #[(.int (0 : Int32)), (.int cnt)] below meth c s₁ [] 0 0 := Stand.of_body Bd
  have e0 : s₁.heap = h0 := by rw [← hh, Bd.state]; rfl
  have N0 := Fr.nil n0
  have pre0 : ∀ t, Steps p.tables e below (s₁.setTop (mkF m 0 #[.val (.int (0 : Int32)), .val (.int cnt)] [])) t → Steps p.tables e below (s₁.setTop (entryFrame m #[(.int (0 : Int32)), (.int cnt)] 2)) t := fun t k => castTop (ef_own_cl m) k
  obtain ⟨fs, hr, hrun, hended, hW, hsame⟩ := X0.leave (v := none) (fun _ => rfl)
  refine ⟨_, _, pre0 _ ?_, hrun, hended, _, _, rfl, ?_, ⟨_, rfl⟩, hW, hsame.mono (by decide) (by decide)⟩
  · show Steps p.tables e below (s₁.setTop (mkF m 0 #[.val (.int (0 : Int32)), .val (.int cnt)] [])) _
    refine XS.iloadN X0.here hx rfl (hb hby d_jdk_65_method_131_code_0) rfl ?_
    show Steps p.tables e below (s₁.setTop (mkF m 1 #[.val (.int (0 : Int32)), .val (.int cnt)] [(.int cnt)])) _
    refine XS.iloadN X0.here hx rfl (hb hby d_jdk_65_method_131_code_1) rfl ?_
    show Steps p.tables e below (s₁.setTop (mkF m 2 #[.val (.int (0 : Int32)), .val (.int cnt)] [(.int (0 : Int32)), (.int cnt)])) _
    refine XS.icmpYes X0.here hx rfl (pc0 := 2) (pc' := 37) rfl (hb hby d_jdk_65_method_131_code_2) rfl (flt hc0).2.1 (by decide) (by decide) ?_
    show Steps p.tables e below (s₁.setTop (mkF m 37 #[.val (.int (0 : Int32)), .val (.int cnt)] [])) _
    exact X0.returnOut hx Bd.returns (hb hby d_jdk_65_method_131_code_37) hr
  · show Q_own_cl Z cnt h0 n0 _ s₁.heap _
    rw [e0]
    exact ⟨rfl, N0, rfl⟩
theorem pf_26 : plainFor (⟨"java/lang/Math", "min", "(II)I"⟩ : MethodName) = true := by decide +kernel
theorem d_jdk_29_method_69_code_0 : decode jdk_29_method_69_code 0 = .ok (.iload_n 0, 1) := by decide +kernel
theorem d_jdk_29_method_69_code_1 : decode jdk_29_method_69_code 1 = .ok (.iload_n 1, 1) := by decide +kernel
theorem d_jdk_29_method_69_code_2 : decode jdk_29_method_69_code 2 = .ok (.if_icmp .gt 7, 3) := by decide +kernel
theorem d_jdk_29_method_69_code_9 : decode jdk_29_method_69_code 9 = .ok (.iload_n 1, 1) := by decide +kernel
theorem d_jdk_29_method_69_code_10 : decode jdk_29_method_69_code 10 = .ok (.ireturn, 1) := by decide +kernel
theorem d_jdk_29_method_69_code_5 : decode jdk_29_method_69_code 5 = .ok (.iload_n 0, 1) := by decide +kernel
theorem d_jdk_29_method_69_code_6 : decode jdk_29_method_69_code 6 = .ok (.goto 4, 3) := by decide +kernel
theorem ef_own_min (m : MethodId) {m1 : Int32} {m2 : Int32} : entryFrame m #[(.int m1), (.int m2)] 2 = mkF m 0 #[.val (.int m1), .val (.int m2)] [] := by first | (simp [entryFrame, mkF, argsToLocals, Value.category]; done) | rfl
def Q_own_min (Z : State) (m1 m2 : Int32) (h0 : Heap) (n0 : Nat) (v : Option Value) (h : Heap) (L : List Loc) : Prop := v = some (.int m2) ∧ Fr n0 L ∧ h = h0
set_option maxRecDepth 65536 in
set_option maxHeartbeats 40000000 in
theorem own_min (l : Launch) (Z : State) (a0 : Array Value) (hw : ∀ d ∈ tables_1, d.before a0 Z = true) (ws : List Jvm.Cond) (m1 m2 : Int32) (h0 : Heap) (n0 : Nat) (Z0 : n0 ≤ h0.size) (hle : ¬ m1 < m2) :
    MetFree l (⟨"java/lang/Math", "min", "(II)I"⟩ : MethodName) (head1 (Jvm.Cond.code (⟨"java/lang/Math", "min", "(II)I"⟩ : MethodName) jdk_29_method_69_code 2 (some .int) :: ws) ({ frames := 0, cells := 0, slots := 0, locals := 0 } : Room)) (fun a U => a = #[(.int m1), (.int m2)] ∧ Z.Warmed39 U.vm ∧ U.heap = h0) (fun _ _ _ _ _ => True) (fun _ U o U' => ∃ v L, o = .returned v ∧ Q_own_min Z m1 m2 h0 n0 v U'.heap L ∧ FrameEnd U o U' L ({ frames := 0, cells := 0, slots := 0, locals := 0 } : Room).cells ({ frames := 0, cells := 0, slots := 0, locals := 0 } : Room).slots) := by
  refine MetFree.of_bodySF pf_26 hisR ?_
  intro p e s m args below meth c s₁ Bd hml0 hP hK
  obtain ⟨rfl, hZ, hh⟩ := hP
  have hx := Bd.exec
  have hby := Bd.bytes
  have hml : c.maxLocals = 2 := hml0
  have hown : s.vm.findClass "java/lang/Math" = some m.cls := findClass_of_methodNamed Bd.named
  have hnm := (name_of_methodNamed Bd.named Bd.method).1
  have X0 : Stand p l e ({ frames := 0, cells := 0, slots := 0, locals := 0 } : Room) s m #[(.int m1), (.int m2)] below meth c s₁ [] 0 0 := Stand.of_body Bd
  have e0 : s₁.heap = h0 := by rw [← hh, Bd.state]; rfl
  have N0 := Fr.nil n0
  have pre0 : ∀ t, Steps p.tables e below (s₁.setTop (mkF m 0 #[.val (.int m1), .val (.int m2)] [])) t → Steps p.tables e below (s₁.setTop (entryFrame m #[(.int m1), (.int m2)] 2)) t := fun t k => castTop (ef_own_min m) k
  -- m2 < m1
  by_cases hq : m2 < m1
  case pos =>
    obtain ⟨fs, hr, hrun, hended, hW, hsame⟩ := X0.leave (v := some (.int m2)) (fun h => by rw [Bd.returns] at h; cases h)
    refine ⟨_, _, pre0 _ ?_, hrun, hended, _, _, rfl, ?_, ⟨_, rfl⟩, hW, hsame.mono (by decide) (by decide)⟩
    · show Steps p.tables e below (s₁.setTop (mkF m 0 #[.val (.int m1), .val (.int m2)] [])) _
      refine XS.iloadN X0.here hx rfl (hb hby d_jdk_29_method_69_code_0) rfl ?_
      show Steps p.tables e below (s₁.setTop (mkF m 1 #[.val (.int m1), .val (.int m2)] [(.int m1)])) _
      refine XS.iloadN X0.here hx rfl (hb hby d_jdk_29_method_69_code_1) rfl ?_
      show Steps p.tables e below (s₁.setTop (mkF m 2 #[.val (.int m1), .val (.int m2)] [(.int m2), (.int m1)])) _
      refine XS.icmpYes X0.here hx rfl (pc0 := 2) (pc' := 9) rfl (hb hby d_jdk_29_method_69_code_2) rfl (tlt hq).2.2.1 (by decide) (by decide) ?_
      show Steps p.tables e below (s₁.setTop (mkF m 9 #[.val (.int m1), .val (.int m2)] [])) _
      refine XS.iloadN X0.here hx rfl (hb hby d_jdk_29_method_69_code_9) rfl ?_
      show Steps p.tables e below (s₁.setTop (mkF m 10 #[.val (.int m1), .val (.int m2)] [(.int m2)])) _
      exact retI X0 hx Bd.returns (hb hby d_jdk_29_method_69_code_10) hr
    · show Q_own_min Z m1 m2 h0 n0 _ s₁.heap _
      rw [e0]
      exact ⟨rfl, N0, rfl⟩
  case neg =>
    have em : m1 = m2 := by
      rw [Int32.lt_iff_toInt_lt] at hq hle
      exact Int32.toInt_inj.mp (by omega)
    obtain ⟨fs, hr, hrun, hended, hW, hsame⟩ := X0.leave (v := some (.int m1)) (fun h => by rw [Bd.returns] at h; cases h)
    refine ⟨_, _, pre0 _ ?_, hrun, hended, _, _, rfl, ?_, ⟨_, rfl⟩, hW, hsame.mono (by decide) (by decide)⟩
    · show Steps p.tables e below (s₁.setTop (mkF m 0 #[.val (.int m1), .val (.int m2)] [])) _
      refine XS.iloadN X0.here hx rfl (hb hby d_jdk_29_method_69_code_0) rfl ?_
      show Steps p.tables e below (s₁.setTop (mkF m 1 #[.val (.int m1), .val (.int m2)] [(.int m1)])) _
      refine XS.iloadN X0.here hx rfl (hb hby d_jdk_29_method_69_code_1) rfl ?_
      show Steps p.tables e below (s₁.setTop (mkF m 2 #[.val (.int m1), .val (.int m2)] [(.int m2), (.int m1)])) _
      refine XS.icmpNo X0.here hx rfl (hb hby d_jdk_29_method_69_code_2) rfl (flt hq).2.2.1 ?_
      show Steps p.tables e below (s₁.setTop (mkF m 5 #[.val (.int m1), .val (.int m2)] [])) _
      refine XS.iloadN X0.here hx rfl (hb hby d_jdk_29_method_69_code_5) rfl ?_
      show Steps p.tables e below (s₁.setTop (mkF m 6 #[.val (.int m1), .val (.int m2)] [(.int m1)])) _
      refine XS.goto X0.here hx rfl (pc0 := 6) (pc' := 10) rfl (hb hby d_jdk_29_method_69_code_6) (by decide) (by decide) ?_
      show Steps p.tables e below (s₁.setTop (mkF m 10 #[.val (.int m1), .val (.int m2)] [(.int m1)])) _
      exact retI X0 hx Bd.returns (hb hby d_jdk_29_method_69_code_10) hr
    · show Q_own_min Z m1 m2 h0 n0 _ s₁.heap _
      rw [e0]
      exact ⟨by rw [em], N0, rfl⟩
theorem own_sub0 (x : Int32) : x - (0 : Int32) = x := by
  apply Int32.toInt_inj.mp
  have h := c_isub x 0
  have r1 := rng32 x
  have r2 := rng32 (x - 0)
  have e : (0 : Int32).toInt = 0 := by decide
  omega
theorem own_take (vs : List Value) (d : Value) (n : Nat) (h : n ≤ vs.length) : vs.take n = (List.range n).map fun i => vs.getD ((0 : Int32).toNatClampNeg + i) d := by
  apply List.ext_getElem
  · simp [h]
  · intro i h1 h2
    have e : (0 : Int32).toNatClampNeg = 0 := by decide
    have h3 : i < vs.length := by simp at h1; omega
    simp [e, List.getD_eq_getElem?_getD, h3]
theorem own_cpl (us : List Value) (d : Value) (n : Nat) : (List.replicate n d).take (0 : Int32).toNatClampNeg ++ us ++ (List.replicate n d).drop ((0 : Int32).toNatClampNeg + n) = us := by
  have e : (0 : Int32).toNatClampNeg = 0 := by decide
  simp [e]
theorem d_jdk_65_method_133_code_0 : decode jdk_65_method_133_code 0 = .ok (.iload_n 1, 1) := by decide +kernel
theorem d_jdk_65_method_133_code_1 : decode jdk_65_method_133_code 1 = .ok (.iload_n 2, 1) := by decide +kernel
theorem pd__II_V : parseMethodDescriptor "(II)V" = some ⟨[.int, .int], none⟩ := by decide +kernel
theorem d_jdk_65_method_133_code_2 : decode jdk_65_method_133_code 2 = .ok (.invokestatic 343, 3) := by decide +kernel
theorem d_jdk_65_method_133_code_5 : decode jdk_65_method_133_code 5 = .ok (.iload_n 2, 1) := by decide +kernel
theorem d_jdk_65_method_133_code_6 : decode jdk_65_method_133_code 6 = .ok (.iload_n 1, 1) := by decide +kernel
theorem d_jdk_65_method_133_code_7 : decode jdk_65_method_133_code 7 = .ok (.isub, 1) := by decide +kernel
theorem d_jdk_65_method_133_code_8 : decode jdk_65_method_133_code 8 = .ok (.istore_n 3, 1) := by decide +kernel
theorem d_jdk_65_method_133_code_9 : decode jdk_65_method_133_code 9 = .ok (.iload_n 3, 1) := by decide +kernel
theorem d_jdk_65_method_133_code_10 : decode jdk_65_method_133_code 10 = .ok (.newarray .byte, 2) := by decide +kernel
theorem d_jdk_65_method_133_code_12 : decode jdk_65_method_133_code 12 = .ok (.astore 4, 2) := by decide +kernel
theorem d_jdk_65_method_133_code_14 : decode jdk_65_method_133_code 14 = .ok (.aload_n 0, 1) := by decide +kernel
theorem d_jdk_65_method_133_code_15 : decode jdk_65_method_133_code 15 = .ok (.iload_n 1, 1) := by decide +kernel
theorem d_jdk_65_method_133_code_16 : decode jdk_65_method_133_code 16 = .ok (.aload 4, 2) := by decide +kernel
theorem d_jdk_65_method_133_code_18 : decode jdk_65_method_133_code 18 = .ok (.iconst 0, 1) := by decide +kernel
theorem d_jdk_65_method_133_code_19 : decode jdk_65_method_133_code 19 = .ok (.aload_n 0, 1) := by decide +kernel
theorem d_jdk_65_method_133_code_20 : decode jdk_65_method_133_code 20 = .ok (.arraylength, 1) := by decide +kernel
theorem d_jdk_65_method_133_code_21 : decode jdk_65_method_133_code 21 = .ok (.iload_n 1, 1) := by decide +kernel
theorem d_jdk_65_method_133_code_22 : decode jdk_65_method_133_code 22 = .ok (.isub, 1) := by decide +kernel
theorem d_jdk_65_method_133_code_23 : decode jdk_65_method_133_code 23 = .ok (.iload_n 3, 1) := by decide +kernel
theorem pd__II_I : parseMethodDescriptor "(II)I" = some ⟨[.int, .int], some .int⟩ := by decide +kernel
theorem d_jdk_65_method_133_code_24 : decode jdk_65_method_133_code 24 = .ok (.invokestatic 304, 3) := by decide +kernel
theorem d_jdk_65_method_133_code_27 : decode jdk_65_method_133_code 27 = .ok (.invokestatic 150, 3) := by decide +kernel
theorem d_jdk_65_method_133_code_30 : decode jdk_65_method_133_code 30 = .ok (.aload 4, 2) := by decide +kernel
theorem d_jdk_65_method_133_code_32 : decode jdk_65_method_133_code 32 = .ok (.areturn, 1) := by decide +kernel
theorem ef_own_corb (m : MethodId) {xb : Addr} {cnt : Int32} : entryFrame m #[(.ref xb), (.int (0 : Int32)), (.int cnt)] 5 = mkF m 0 #[.val (.ref xb), .val (.int (0 : Int32)), .val (.int cnt), .unset, .unset] [] := by first | (simp [entryFrame, mkF, argsToLocals, Value.category]; done) | rfl
def Q_own_corb (Z : State) (xb : Addr) (kX : ClassId) (cnt : Int32) (vs : List Value) (h0 : Heap) (n0 : Nat) (v : Option Value) (h : Heap) (L : List Loc) : Prop := ∃ (nb : Addr) (k : ClassId), v = some (.ref nb) ∧ Fr n0 L ∧ Keep h0 h [] ∧ h0.size ≤ nb ∧ Arv Z h nb k .byte cnt (vs.take cnt.toNatClampNeg) (.int (0 : Int32))
set_option maxRecDepth 65536 in
set_option maxHeartbeats 40000000 in
theorem own_corb (l : Launch) (Z : State) (a0 : Array Value) (hw : ∀ d ∈ tables_1, d.before a0 Z = true) (ws : List Jvm.Cond) (xb : Addr) (kX : ClassId) (cnt : Int32) (vs : List Value) (h0 : Heap) (n0 : Nat) (Z0 : n0 ≤ h0.size) (KX : Arv Z h0 xb kX .byte (16 : Int32) vs (.int (0 : Int32))) (hc0 : ¬ cnt < (0 : Int32)) (hc16 : cnt.toNatClampNeg < 16) (hvs : vs.length = 16) :
    MetFree l (⟨"java/util/Arrays", "copyOfRangeByte", "([BII)[B"⟩ : MethodName) (head1 (Jvm.Cond.code (⟨"java/util/Arrays", "copyOfRangeByte", "([BII)[B"⟩ : MethodName) jdk_65_method_133_code 5 (some (.array .byte)) :: ws) ({ frames := 1, cells := 1, slots := 15, locals := 18 } : Room)) (fun a U => a = #[(.ref xb), (.int (0 : Int32)), (.int cnt)] ∧ Z.Warmed39 U.vm ∧ U.heap = h0) (fun _ _ _ _ _ => True) (fun _ U o U' => ∃ v L, o = .returned v ∧ Q_own_corb Z xb kX cnt vs h0 n0 v U'.heap L ∧ FrameEnd U o U' L ({ frames := 1, cells := 1, slots := 15, locals := 18 } : Room).cells ({ frames := 1, cells := 1, slots := 15, locals := 18 } : Room).slots) := by
  refine MetFree.of_bodySF (plainFor_of_name pn_java_util_Arrays) hisR ?_
  intro p e s m args below meth c s₁ Bd hml0 hP hK
  obtain ⟨rfl, hZ, hh⟩ := hP
  have hx := Bd.exec
  have hby := Bd.bytes
  have hml : c.maxLocals = 5 := hml0
  have hown : s.vm.findClass "java/util/Arrays" = some m.cls := findClass_of_methodNamed Bd.named
  have hnm := (name_of_methodNamed Bd.named Bd.method).1
  have X0 : Stand p l e ({ frames := 1, cells := 1, slots := 15, locals := 18 } : Room) s m #[(.ref xb), (.int (0 : Int32)), (.int cnt)] below meth c s₁ [] 0 0 := Stand.of_body Bd
  have e0 : s₁.heap = h0 := by rw [← hh, Bd.state]; rfl
  have N0 := Fr.nil n0
  have pre0 : ∀ t, Steps p.tables e below (s₁.setTop (mkF m 0 #[.val (.ref xb), .val (.int (0 : Int32)), .val (.int cnt), .unset, .unset] [])) t → Steps p.tables e below (s₁.setTop (entryFrame m #[(.ref xb), (.int (0 : Int32)), (.int cnt)] 5)) t := fun t k => castTop (ef_own_corb m) k
  obtain ⟨_, _, ⟨T1, L1, k1, n1⟩, -, X1, ⟨Lc1, hQ1, l1, y1, z1⟩, st1⟩ := Jvm.LawKit.callS X0 hx (y := (⟨"java/util/Arrays", "checkLength", "(II)V"⟩ : MethodName)) hown (mvT hZ (hw _ (List.mem_of_getElem? (i := 135) rfl))) (mvT hZ (hw _ (List.mem_of_getElem? (i := 136) rfl))) (mvT hZ (hw _ (List.mem_of_getElem? (i := 130) rfl))) (mvT hZ (hw _ (List.mem_of_getElem? (i := 137) rfl))) (by decide) (backOf (W := 0) (own_cl l Z a0 hw [] cnt h0 n0 Z0 hc0) hZ (hw _ (List.mem_of_getElem? (i := 137) rfl)) (hw _ (List.mem_of_getElem? (i := 130) rfl)) (by decide) (by decide)) (g := (mkF m 2 #[.val (.ref xb), .val (.int (0 : Int32)), .val (.int cnt), .unset, .unset] [(.int cnt), (.int (0 : Int32))])) rfl (by rw [hml]; rfl) (argsL := [(.int (0 : Int32)), (.int cnt)]) (rest := []) (lenOf pd__II_V rfl) rfl (by show 2 * 0 + _ ≤ _; exact Nat.le_of_eq rfl) (hb hby d_jdk_65_method_133_code_2) (fun _ _ => ⟨rfl, e0, (by decide : 0 + 0 ≤ _), (by decide : 0 + 0 ≤ _)⟩)
  dsimp only [Pt.U, Pt.locs, Pt.cells, Pt.slots] at X1 l1 y1 z1 st1 hQ1
  subst l1 y1 z1
  obtain ⟨rfl, N1q, e1q⟩ := hQ1
  have N1 := Fr.app N0 N1q
  have pre2 : ∀ t, Steps p.tables e below (T1.setTop (mkF m 5 #[.val (.ref xb), .val (.int (0 : Int32)), .val (.int cnt), .unset, .unset] [])) t → Steps p.tables e below (s₁.setTop (entryFrame m #[(.ref xb), (.int (0 : Int32)), (.int cnt)] 5)) t := by
    intro t kk
    refine pre0 t ?_
    show Steps p.tables e below (s₁.setTop (mkF m 0 #[.val (.ref xb), .val (.int (0 : Int32)), .val (.int cnt), .unset, .unset] [])) _
    refine XS.iloadN X0.here hx rfl (hb hby d_jdk_65_method_133_code_0) rfl ?_
    show Steps p.tables e below (s₁.setTop (mkF m 1 #[.val (.ref xb), .val (.int (0 : Int32)), .val (.int cnt), .unset, .unset] [(.int (0 : Int32))])) _
    refine XS.iloadN X0.here hx rfl (hb hby d_jdk_65_method_133_code_1) rfl ?_
    show Steps p.tables e below (s₁.setTop (mkF m 2 #[.val (.ref xb), .val (.int (0 : Int32)), .val (.int cnt), .unset, .unset] [(.int cnt), (.int (0 : Int32))])) _
    exact st1 _ kk
  have pre3 : ∀ t, Steps p.tables e below (T1.setTop (mkF m 8 #[.val (.ref xb), .val (.int (0 : Int32)), .val (.int cnt), .unset, .unset] [(.int (cnt - (0 : Int32)))])) t → Steps p.tables e below (s₁.setTop (entryFrame m #[(.ref xb), (.int (0 : Int32)), (.int cnt)] 5)) t := by
    intro t kk
    refine pre2 t ?_
    show Steps p.tables e below (T1.setTop (mkF m 5 #[.val (.ref xb), .val (.int (0 : Int32)), .val (.int cnt), .unset, .unset] [])) _
    refine XS.iloadN X1.here hx rfl (hb hby d_jdk_65_method_133_code_5) rfl ?_
    show Steps p.tables e below (T1.setTop (mkF m 6 #[.val (.ref xb), .val (.int (0 : Int32)), .val (.int cnt), .unset, .unset] [(.int cnt)])) _
    refine XS.iloadN X1.here hx rfl (hb hby d_jdk_65_method_133_code_6) rfl ?_
    show Steps p.tables e below (T1.setTop (mkF m 7 #[.val (.ref xb), .val (.int (0 : Int32)), .val (.int cnt), .unset, .unset] [(.int (0 : Int32)), (.int cnt)])) _
    refine XS.isub X1.here hx rfl (hb hby d_jdk_65_method_133_code_7) rfl ?_
    exact kk
  rw [own_sub0] at pre3
  obtain ⟨fb4, g4⟩ : ∃ z, z = h0.size := ⟨_, rfl⟩
  have ne_xb_fb4 : xb ≠ fb4 := Nat.ne_of_lt (Nat.lt_of_lt_of_le KX.lt (Nat.le_of_eq g4.symm))
  have lo_fb4 : n0 ≤ fb4 := Nat.le_trans Z0 (Nat.le_of_eq g4.symm)
  have hi_fb4 : h0.size ≤ fb4 := Nat.le_trans (Keep.refl h0 []).1 (Nat.le_of_eq g4.symm)
  obtain ⟨T4, h4, k4, X4, e4, E4, A4, st4⟩ := newP X1 hx hZ (hw _ (List.mem_of_getElem? (i := 19) rfl)) e1q (g := (mkF m 10 #[.val (.ref xb), .val (.int (0 : Int32)), .val (.int cnt), .val (.int cnt), .unset] [(.int cnt)])) rfl (hb hby d_jdk_65_method_133_code_10) rfl hc0 (cap := 15) (Nat.le_of_lt_succ hc16) (by decide) (by decide) (by decide)
  rw [← g4] at A4 st4
  have V4 : Arv Z h4 fb4 k4 .byte cnt (List.replicate cnt.toNatClampNeg (.int (0 : Int32))) (.int (0 : Int32)) := (Arv.new A4 hc0).pad (pad_rep [] (.int (0 : Int32)) cnt.toNatClampNeg)
  have pre5 : ∀ t, Steps p.tables e below (T4.setTop (mkF m 12 #[.val (.ref xb), .val (.int (0 : Int32)), .val (.int cnt), .val (.int cnt), .unset] [(.ref fb4)])) t → Steps p.tables e below (s₁.setTop (entryFrame m #[(.ref xb), (.int (0 : Int32)), (.int cnt)] 5)) t := by
    intro t kk
    refine pre3 t ?_
    show Steps p.tables e below (T1.setTop (mkF m 8 #[.val (.ref xb), .val (.int (0 : Int32)), .val (.int cnt), .unset, .unset] [(.int cnt)])) _
    refine XS.istoreN X1.here hx rfl (hb hby d_jdk_65_method_133_code_8) rfl (l' := #[.val (.ref xb), .val (.int (0 : Int32)), .val (.int cnt), .val (.int cnt), .unset]) rfl ?_
    show Steps p.tables e below (T1.setTop (mkF m 9 #[.val (.ref xb), .val (.int (0 : Int32)), .val (.int cnt), .val (.int cnt), .unset] [])) _
    refine XS.iloadN X1.here hx rfl (hb hby d_jdk_65_method_133_code_9) rfl ?_
    show Steps p.tables e below (T1.setTop (mkF m 10 #[.val (.ref xb), .val (.int (0 : Int32)), .val (.int cnt), .val (.int cnt), .unset] [(.int cnt)])) _
    exact st4 _ kk
  have fc7 := (KX.ext E4)
  obtain ⟨cl6, Ar6, q6, S6, M6, H6, G6⟩ := id fc7
  have pre8 : ∀ t, Steps p.tables e below (T4.setTop (mkF m 23 #[.val (.ref xb), .val (.int (0 : Int32)), .val (.int cnt), .val (.int cnt), .val (.ref fb4)] [(.int ((16 : Int32) - (0 : Int32))), (.int (0 : Int32)), (.ref fb4), (.int (0 : Int32)), (.ref xb)])) t → Steps p.tables e below (s₁.setTop (entryFrame m #[(.ref xb), (.int (0 : Int32)), (.int cnt)] 5)) t := by
    intro t kk
    refine pre5 t ?_
    show Steps p.tables e below (T4.setTop (mkF m 12 #[.val (.ref xb), .val (.int (0 : Int32)), .val (.int cnt), .val (.int cnt), .unset] [(.ref fb4)])) _
    refine XS.astore X4.here hx rfl (hb hby d_jdk_65_method_133_code_12) rfl rfl (l' := #[.val (.ref xb), .val (.int (0 : Int32)), .val (.int cnt), .val (.int cnt), .val (.ref fb4)]) rfl ?_
    show Steps p.tables e below (T4.setTop (mkF m 14 #[.val (.ref xb), .val (.int (0 : Int32)), .val (.int cnt), .val (.int cnt), .val (.ref fb4)] [])) _
    refine XS.aloadN X4.here hx rfl (hb hby d_jdk_65_method_133_code_14) rfl rfl ?_
    show Steps p.tables e below (T4.setTop (mkF m 15 #[.val (.ref xb), .val (.int (0 : Int32)), .val (.int cnt), .val (.int cnt), .val (.ref fb4)] [(.ref xb)])) _
    refine XS.iloadN X4.here hx rfl (hb hby d_jdk_65_method_133_code_15) rfl ?_
    show Steps p.tables e below (T4.setTop (mkF m 16 #[.val (.ref xb), .val (.int (0 : Int32)), .val (.int cnt), .val (.int cnt), .val (.ref fb4)] [(.int (0 : Int32)), (.ref xb)])) _
    refine XS.aload X4.here hx rfl (hb hby d_jdk_65_method_133_code_16) rfl rfl ?_
    show Steps p.tables e below (T4.setTop (mkF m 18 #[.val (.ref xb), .val (.int (0 : Int32)), .val (.int cnt), .val (.int cnt), .val (.ref fb4)] [(.ref fb4), (.int (0 : Int32)), (.ref xb)])) _
    refine XS.iconst X4.here hx rfl (hb hby d_jdk_65_method_133_code_18) ?_
    show Steps p.tables e below (T4.setTop (mkF m 19 #[.val (.ref xb), .val (.int (0 : Int32)), .val (.int cnt), .val (.int cnt), .val (.ref fb4)] [(.int (0 : Int32)), (.ref fb4), (.int (0 : Int32)), (.ref xb)])) _
    refine XS.aloadN X4.here hx rfl (hb hby d_jdk_65_method_133_code_19) rfl rfl ?_
    show Steps p.tables e below (T4.setTop (mkF m 20 #[.val (.ref xb), .val (.int (0 : Int32)), .val (.int cnt), .val (.int cnt), .val (.ref fb4)] [(.ref xb), (.int (0 : Int32)), (.ref fb4), (.int (0 : Int32)), (.ref xb)])) _
    refine X4.arraylength hx (by rw [e4]; exact Ar6.1) (State.isArrayOf_alike hZ.alike Ar6.2.1) (g := (mkF m 20 #[.val (.ref xb), .val (.int (0 : Int32)), .val (.int cnt), .val (.int cnt), .val (.ref fb4)] [(.ref xb), (.int (0 : Int32)), (.ref fb4), (.int (0 : Int32)), (.ref xb)])) rfl rfl (hb hby d_jdk_65_method_133_code_20) _ ?_
    rw [len_of S6 M6]
    show Steps p.tables e below (T4.setTop (mkF m 21 #[.val (.ref xb), .val (.int (0 : Int32)), .val (.int cnt), .val (.int cnt), .val (.ref fb4)] [(.int (16 : Int32)), (.int (0 : Int32)), (.ref fb4), (.int (0 : Int32)), (.ref xb)])) _
    refine XS.iloadN X4.here hx rfl (hb hby d_jdk_65_method_133_code_21) rfl ?_
    show Steps p.tables e below (T4.setTop (mkF m 22 #[.val (.ref xb), .val (.int (0 : Int32)), .val (.int cnt), .val (.int cnt), .val (.ref fb4)] [(.int (0 : Int32)), (.int (16 : Int32)), (.int (0 : Int32)), (.ref fb4), (.int (0 : Int32)), (.ref xb)])) _
    refine XS.isub X4.here hx rfl (hb hby d_jdk_65_method_133_code_22) rfl ?_
    exact kk
  rw [own_sub0] at pre8
  have h16 : ¬ (16 : Int32) < cnt := by
    intro q
    rw [Int32.lt_iff_toInt_lt] at q
    have e1 : (16 : Int32).toInt = 16 := by decide
    have e2 := nat_of hc0
    omega
  have fc10 := (Nat.le_trans Z0 E4.1)
  obtain ⟨_, _, ⟨T9, L9, k9, n9⟩, -, X9, ⟨Lc9, hQ9, l9, y9, z9⟩, st9⟩ := Jvm.LawKit.callS X4 hx (y := (⟨"java/lang/Math", "min", "(II)I"⟩ : MethodName)) hown (mvT hZ (hw _ (List.mem_of_getElem? (i := 138) rfl))) (mvT hZ (hw _ (List.mem_of_getElem? (i := 139) rfl))) (mvT hZ (hw _ (List.mem_of_getElem? (i := 140) rfl))) (mvT hZ (hw _ (List.mem_of_getElem? (i := 141) rfl))) (by decide) (backOf (W := 4) (own_min l Z a0 hw [] 16 cnt h4 n0 fc10 h16) hZ (hw _ (List.mem_of_getElem? (i := 141) rfl)) (hw _ (List.mem_of_getElem? (i := 140) rfl)) (by decide) (by decide)) (g := (mkF m 24 #[.val (.ref xb), .val (.int (0 : Int32)), .val (.int cnt), .val (.int cnt), .val (.ref fb4)] [(.int cnt), (.int (16 : Int32)), (.int (0 : Int32)), (.ref fb4), (.int (0 : Int32)), (.ref xb)])) rfl (by rw [hml]; rfl) (argsL := [(.int (16 : Int32)), (.int cnt)]) (rest := [(.int (0 : Int32)), (.ref fb4), (.int (0 : Int32)), (.ref xb)]) (lenOf pd__II_I rfl) rfl (by show 2 * 0 + _ ≤ _; exact Nat.le_of_eq rfl) (hb hby d_jdk_65_method_133_code_24) (fun _ _ => ⟨rfl, e4, (by decide : 1 + 0 ≤ _), (by decide : 15 + 0 ≤ _)⟩)
  dsimp only [Pt.U, Pt.locs, Pt.cells, Pt.slots] at X9 l9 y9 z9 st9 hQ9
  subst l9 y9 z9
  obtain ⟨rfl, N9q, e9q⟩ := hQ9
  have N9 := Fr.app N1 N9q
  have pre11 : ∀ t, Steps p.tables e below (T9.setTop (mkF m 27 #[.val (.ref xb), .val (.int (0 : Int32)), .val (.int cnt), .val (.int cnt), .val (.ref fb4)] [(.int cnt), (.int (0 : Int32)), (.ref fb4), (.int (0 : Int32)), (.ref xb)])) t → Steps p.tables e below (s₁.setTop (entryFrame m #[(.ref xb), (.int (0 : Int32)), (.int cnt)] 5)) t := by
    intro t kk
    refine pre8 t ?_
    show Steps p.tables e below (T4.setTop (mkF m 23 #[.val (.ref xb), .val (.int (0 : Int32)), .val (.int cnt), .val (.int cnt), .val (.ref fb4)] [(.int (16 : Int32)), (.int (0 : Int32)), (.ref fb4), (.int (0 : Int32)), (.ref xb)])) _
    refine XS.iloadN X4.here hx rfl (hb hby d_jdk_65_method_133_code_23) rfl ?_
    show Steps p.tables e below (T4.setTop (mkF m 24 #[.val (.ref xb), .val (.int (0 : Int32)), .val (.int cnt), .val (.int cnt), .val (.ref fb4)] [(.int cnt), (.int (16 : Int32)), (.int (0 : Int32)), (.ref fb4), (.int (0 : Int32)), (.ref xb)])) _
    exact st9 _ kk
  obtain ⟨T12, h12, L12, X12, e12, N12, K12, V12, st12⟩ := cpA X9 hx hZ hown (hw _ (List.mem_of_getElem? (i := 142) rfl)) (hw _ (List.mem_of_getElem? (i := 97) rfl)) (hw _ (List.mem_of_getElem? (i := 95) rfl)) (hw _ (List.mem_of_getElem? (i := 96) rfl)) e9q (sp := (0 : Int32)) (dp := (0 : Int32)) (nn := cnt) (us := (vs.take cnt.toNatClampNeg)) fc7 V4 (Or.inl ⟨rfl, rfl⟩) (by decide) (by decide) hc0 (by rw [show (0 : Int32).toNatClampNeg = 0 from rfl, show (16 : Int32).toNatClampNeg = 16 from rfl, Nat.zero_add]; exact Nat.le_of_lt hc16) (by rw [show (0 : Int32).toNatClampNeg = 0 from rfl, Nat.zero_add]; exact Nat.le_refl _) (own_take vs _ _ (by rw [hvs]; exact Nat.le_of_lt hc16)) (by rw [show (0 : Int32).toNatClampNeg = 0 from rfl, Nat.zero_add, List.length_replicate]; exact Nat.le_refl _) (n0 := n0) N9 lo_fb4 (g := (mkF m 27 #[.val (.ref xb), .val (.int (0 : Int32)), .val (.int cnt), .val (.int cnt), .val (.ref fb4)] [(.int cnt), (.int (0 : Int32)), (.ref fb4), (.int (0 : Int32)), (.ref xb)])) rfl (by rw [hml]; rfl) rfl (hb hby d_jdk_65_method_133_code_27) (by decide) (W := 0) (by show 2 * 0 + _ ≤ _; exact Nat.le_of_eq rfl) (by decide)
  have pre13 : ∀ t, Steps p.tables e below (T12.setTop (mkF m 30 #[.val (.ref xb), .val (.int (0 : Int32)), .val (.int cnt), .val (.int cnt), .val (.ref fb4)] [])) t → Steps p.tables e below (s₁.setTop (entryFrame m #[(.ref xb), (.int (0 : Int32)), (.int cnt)] 5)) t := by
    intro t kk
    refine pre11 t ?_
    show Steps p.tables e below (T9.setTop (mkF m 27 #[.val (.ref xb), .val (.int (0 : Int32)), .val (.int cnt), .val (.int cnt), .val (.ref fb4)] [(.int cnt), (.int (0 : Int32)), (.ref fb4), (.int (0 : Int32)), (.ref xb)])) _
    exact st12 _ kk
  rw [own_cpl] at V12
  have fc14 := (((Keep.refl h0 []).ext E4).trans K12 (allS (Or.inr hi_fb4) all0))
  obtain ⟨fs, hr, hrun, hended, hW, hsame⟩ := X12.leave (v := some (.ref fb4)) (fun h => by rw [Bd.returns] at h; cases h)
  refine ⟨_, _, pre13 _ ?_, hrun, hended, _, _, rfl, ?_, ⟨_, rfl⟩, hW, hsame.mono (by decide) (by decide)⟩
  · show Steps p.tables e below (T12.setTop (mkF m 30 #[.val (.ref xb), .val (.int (0 : Int32)), .val (.int cnt), .val (.int cnt), .val (.ref fb4)] [])) _
    refine XS.aload X12.here hx rfl (hb hby d_jdk_65_method_133_code_30) rfl rfl ?_
    show Steps p.tables e below (T12.setTop (mkF m 32 #[.val (.ref xb), .val (.int (0 : Int32)), .val (.int cnt), .val (.int cnt), .val (.ref fb4)] [(.ref fb4)])) _
    jvm_step X12.here [X12.here.top, hx, (hb hby d_jdk_65_method_133_code_32), X12.method', Bd.returns, Value.isRef, FieldType.isReference]
    first | (intro acts; rw [hr _ acts rfl rfl rfl]) | rw [hr _ _ rfl rfl rfl]
    exact Steps.refl _
  · show Q_own_corb Z xb kX cnt vs h0 n0 _ T12.heap _
    rw [e12]
    exact ⟨fb4, k4, rfl, N12, fc14, hi_fb4, V12⟩
theorem d_jdk_65_method_132_code_0 : decode jdk_65_method_132_code 0 = .ok (.iload_n 1, 1) := by decide +kernel
theorem d_jdk_65_method_132_code_1 : decode jdk_65_method_132_code 1 = .ok (.ifCond .ne 9, 3) := by decide +kernel
theorem d_jdk_65_method_132_code_4 : decode jdk_65_method_132_code 4 = .ok (.iload_n 2, 1) := by decide +kernel
theorem d_jdk_65_method_132_code_5 : decode jdk_65_method_132_code 5 = .ok (.aload_n 0, 1) := by decide +kernel
theorem d_jdk_65_method_132_code_6 : decode jdk_65_method_132_code 6 = .ok (.arraylength, 1) := by decide +kernel
theorem d_jdk_65_method_132_code_7 : decode jdk_65_method_132_code 7 = .ok (.if_icmp .eq 10, 3) := by decide +kernel
theorem d_jdk_65_method_132_code_10 : decode jdk_65_method_132_code 10 = .ok (.aload_n 0, 1) := by decide +kernel
theorem d_jdk_65_method_132_code_11 : decode jdk_65_method_132_code 11 = .ok (.iload_n 1, 1) := by decide +kernel
theorem d_jdk_65_method_132_code_12 : decode jdk_65_method_132_code 12 = .ok (.iload_n 2, 1) := by decide +kernel
theorem pd___BII__B : parseMethodDescriptor "([BII)[B" = some ⟨[(.array .byte), .int, .int], some (.array .byte)⟩ := by decide +kernel
theorem d_jdk_65_method_132_code_13 : decode jdk_65_method_132_code 13 = .ok (.invokestatic 339, 3) := by decide +kernel
theorem d_jdk_65_method_132_code_16 : decode jdk_65_method_132_code 16 = .ok (.areturn, 1) := by decide +kernel
theorem ef_own_cor (m : MethodId) {xb : Addr} {cnt : Int32} : entryFrame m #[(.ref xb), (.int (0 : Int32)), (.int cnt)] 3 = mkF m 0 #[.val (.ref xb), .val (.int (0 : Int32)), .val (.int cnt)] [] := by first | (simp [entryFrame, mkF, argsToLocals, Value.category]; done) | rfl
def Q_own_cor (Z : State) (xb : Addr) (kX : ClassId) (cnt : Int32) (vs : List Value) (h0 : Heap) (n0 : Nat) (v : Option Value) (h : Heap) (L : List Loc) : Prop := ∃ (nb : Addr) (k : ClassId), v = some (.ref nb) ∧ Fr n0 L ∧ Keep h0 h [] ∧ h0.size ≤ nb ∧ Arv Z h nb k .byte cnt (vs.take cnt.toNatClampNeg) (.int (0 : Int32))
set_option maxRecDepth 65536 in
set_option maxHeartbeats 40000000 in
theorem own_cor (l : Launch) (Z : State) (a0 : Array Value) (hw : ∀ d ∈ tables_1, d.before a0 Z = true) (ws : List Jvm.Cond) (xb : Addr) (kX : ClassId) (cnt : Int32) (vs : List Value) (h0 : Heap) (n0 : Nat) (Z0 : n0 ≤ h0.size) (KX : Arv Z h0 xb kX .byte (16 : Int32) vs (.int (0 : Int32))) (hc0 : ¬ cnt < (0 : Int32)) (hc16 : cnt.toNatClampNeg < 16) (hvs : vs.length = 16) :
    MetFree l (⟨"java/util/Arrays", "copyOfRange", "([BII)[B"⟩ : MethodName) (head1 (Jvm.Cond.code (⟨"java/util/Arrays", "copyOfRange", "([BII)[B"⟩ : MethodName) jdk_65_method_132_code 3 (some (.array .byte)) :: ws) ({ frames := 2, cells := 1, slots := 15, locals := 34 } : Room)) (fun a U => a = #[(.ref xb), (.int (0 : Int32)), (.int cnt)] ∧ Z.Warmed39 U.vm ∧ U.heap = h0) (fun _ _ _ _ _ => True) (fun _ U o U' => ∃ v L, o = .returned v ∧ Q_own_cor Z xb kX cnt vs h0 n0 v U'.heap L ∧ FrameEnd U o U' L ({ frames := 2, cells := 1, slots := 15, locals := 34 } : Room).cells ({ frames := 2, cells := 1, slots := 15, locals := 34 } : Room).slots) := by
  refine MetFree.of_bodySF (plainFor_of_name pn_java_util_Arrays) hisR ?_
  intro p e s m args below meth c s₁ Bd hml0 hP hK
  obtain ⟨rfl, hZ, hh⟩ := hP
  have hx := Bd.exec
  have hby := Bd.bytes
  have hml : c.maxLocals = 3 := hml0
  have hown : s.vm.findClass "java/util/Arrays" = some m.cls := findClass_of_methodNamed Bd.named
  have hnm := (name_of_methodNamed Bd.named Bd.method).1
  have X0 : Stand p l e ({ frames := 2, cells := 1, slots := 15, locals := 34 } : Room) s m #[(.ref xb), (.int (0 : Int32)), (.int cnt)] below meth c s₁ [] 0 0 := Stand.of_body Bd
  have e0 : s₁.heap = h0 := by rw [← hh, Bd.state]; rfl
  have N0 := Fr.nil n0
  have pre0 : ∀ t, Steps p.tables e below (s₁.setTop (mkF m 0 #[.val (.ref xb), .val (.int (0 : Int32)), .val (.int cnt)] [])) t → Steps p.tables e below (s₁.setTop (entryFrame m #[(.ref xb), (.int (0 : Int32)), (.int cnt)] 3)) t := fun t k => castTop (ef_own_cor m) k
  obtain ⟨cl1, Ar1, q1, S1, M1, H1, G1⟩ := id KX
  have hd2 : ¬ (cnt = (16 : Int32)) := by
    intro q
    rw [q] at hc16
    exact absurd hc16 (by decide)
  obtain ⟨_, _, ⟨T3, L3, k3, n3⟩, -, X3, ⟨Lc3, hQ3, l3, y3, z3⟩, st3⟩ := Jvm.LawKit.callS X0 hx (y := (⟨"java/util/Arrays", "copyOfRangeByte", "([BII)[B"⟩ : MethodName)) hown (mvT hZ (hw _ (List.mem_of_getElem? (i := 132) rfl))) (mvT hZ (hw _ (List.mem_of_getElem? (i := 133) rfl))) (mvT hZ (hw _ (List.mem_of_getElem? (i := 130) rfl))) (mvT hZ (hw _ (List.mem_of_getElem? (i := 134) rfl))) (by decide) (backOf (W := 0) (own_corb l Z a0 hw [] xb kX cnt vs h0 n0 Z0 KX hc0 hc16 hvs) hZ (hw _ (List.mem_of_getElem? (i := 134) rfl)) (hw _ (List.mem_of_getElem? (i := 130) rfl)) (by decide) (by decide)) (g := (mkF m 13 #[.val (.ref xb), .val (.int (0 : Int32)), .val (.int cnt)] [(.int cnt), (.int (0 : Int32)), (.ref xb)])) rfl (by rw [hml]; rfl) (argsL := [(.ref xb), (.int (0 : Int32)), (.int cnt)]) (rest := []) (lenOf pd___BII__B rfl) rfl (by show 2 * 0 + _ ≤ _; exact Nat.le_of_eq rfl) (hb hby d_jdk_65_method_132_code_13) (fun _ _ => ⟨rfl, e0, (by decide : 0 + 1 ≤ _), (by decide : 0 + 15 ≤ _)⟩)
  dsimp only [Pt.U, Pt.locs, Pt.cells, Pt.slots] at X3 l3 y3 z3 st3 hQ3
  subst l3 y3 z3
  obtain ⟨b3, kb3, rfl, N3q, K3, lo3, V3⟩ := hQ3
  have N3 := Fr.app N0 N3q
  have pre4 : ∀ t, Steps p.tables e below (T3.setTop (mkF m 16 #[.val (.ref xb), .val (.int (0 : Int32)), .val (.int cnt)] [(.ref b3)])) t → Steps p.tables e below (s₁.setTop (entryFrame m #[(.ref xb), (.int (0 : Int32)), (.int cnt)] 3)) t := by
    intro t kk
    refine pre0 t ?_
    show Steps p.tables e below (s₁.setTop (mkF m 0 #[.val (.ref xb), .val (.int (0 : Int32)), .val (.int cnt)] [])) _
    refine XS.iloadN X0.here hx rfl (hb hby d_jdk_65_method_132_code_0) rfl ?_
    show Steps p.tables e below (s₁.setTop (mkF m 1 #[.val (.ref xb), .val (.int (0 : Int32)), .val (.int cnt)] [(.int (0 : Int32))])) _
    refine XS.ifNo X0.here hx rfl (hb hby d_jdk_65_method_132_code_1) rfl ((if0 _ _).trans (teq (rfl : (0 : Int32) = (0 : Int32))).2) ?_
    show Steps p.tables e below (s₁.setTop (mkF m 4 #[.val (.ref xb), .val (.int (0 : Int32)), .val (.int cnt)] [])) _
    refine XS.iloadN X0.here hx rfl (hb hby d_jdk_65_method_132_code_4) rfl ?_
    show Steps p.tables e below (s₁.setTop (mkF m 5 #[.val (.ref xb), .val (.int (0 : Int32)), .val (.int cnt)] [(.int cnt)])) _
    refine XS.aloadN X0.here hx rfl (hb hby d_jdk_65_method_132_code_5) rfl rfl ?_
    show Steps p.tables e below (s₁.setTop (mkF m 6 #[.val (.ref xb), .val (.int (0 : Int32)), .val (.int cnt)] [(.ref xb), (.int cnt)])) _
    refine X0.arraylength hx (by rw [e0]; exact Ar1.1) (State.isArrayOf_alike hZ.alike Ar1.2.1) (g := (mkF m 6 #[.val (.ref xb), .val (.int (0 : Int32)), .val (.int cnt)] [(.ref xb), (.int cnt)])) rfl rfl (hb hby d_jdk_65_method_132_code_6) _ ?_
    rw [len_of S1 M1]
    show Steps p.tables e below (s₁.setTop (mkF m 7 #[.val (.ref xb), .val (.int (0 : Int32)), .val (.int cnt)] [(.int (16 : Int32)), (.int cnt)])) _
    refine XS.icmpNo X0.here hx rfl (hb hby d_jdk_65_method_132_code_7) rfl (feq hd2).1 ?_
    show Steps p.tables e below (s₁.setTop (mkF m 10 #[.val (.ref xb), .val (.int (0 : Int32)), .val (.int cnt)] [])) _
    refine XS.aloadN X0.here hx rfl (hb hby d_jdk_65_method_132_code_10) rfl rfl ?_
    show Steps p.tables e below (s₁.setTop (mkF m 11 #[.val (.ref xb), .val (.int (0 : Int32)), .val (.int cnt)] [(.ref xb)])) _
    refine XS.iloadN X0.here hx rfl (hb hby d_jdk_65_method_132_code_11) rfl ?_
    show Steps p.tables e below (s₁.setTop (mkF m 12 #[.val (.ref xb), .val (.int (0 : Int32)), .val (.int cnt)] [(.int (0 : Int32)), (.ref xb)])) _
    refine XS.iloadN X0.here hx rfl (hb hby d_jdk_65_method_132_code_12) rfl ?_
    show Steps p.tables e below (s₁.setTop (mkF m 13 #[.val (.ref xb), .val (.int (0 : Int32)), .val (.int cnt)] [(.int cnt), (.int (0 : Int32)), (.ref xb)])) _
    exact st3 _ kk
  have fc5 := ((Keep.refl h0 []).trans K3 all0)
  obtain ⟨fs, hr, hrun, hended, hW, hsame⟩ := X3.leave (v := some (.ref b3)) (fun h => by rw [Bd.returns] at h; cases h)
  refine ⟨_, _, pre4 _ ?_, hrun, hended, _, _, rfl, ?_, ⟨_, rfl⟩, hW, hsame.mono (by decide) (by decide)⟩
  · show Steps p.tables e below (T3.setTop (mkF m 16 #[.val (.ref xb), .val (.int (0 : Int32)), .val (.int cnt)] [(.ref b3)])) _
    jvm_step X3.here [X3.here.top, hx, (hb hby d_jdk_65_method_132_code_16), X3.method', Bd.returns, Value.isRef, FieldType.isReference]
    first | (intro acts; rw [hr _ acts rfl rfl rfl]) | rw [hr _ _ rfl rfl rfl]
    exact Steps.refl _
  · show Q_own_cor Z xb kX cnt vs h0 n0 _ T3.heap _
    exact ⟨b3, kb3, rfl, N3, fc5, lo3, V3⟩
theorem d_jdk_42_method_150_code_0 : decode jdk_42_method_150_code 0 = .ok (.aload_n 0, 1) := by decide +kernel
theorem d_jdk_42_method_150_code_1 : decode jdk_42_method_150_code 1 = .ok (.invokespecial 1, 3) := by decide +kernel
theorem d_jdk_42_method_150_code_4 : decode jdk_42_method_150_code 4 = .ok (.aload_n 1, 1) := by decide +kernel
theorem pd____B : parseMethodDescriptor "()[B" = some ⟨[], some (.array .byte)⟩ := by decide +kernel
theorem d_jdk_42_method_150_code_5 : decode jdk_42_method_150_code 5 = .ok (.invokevirtual 552, 3) := by decide +kernel
theorem d_jdk_42_method_150_code_8 : decode jdk_42_method_150_code 8 = .ok (.astore_n 3, 1) := by decide +kernel
theorem d_jdk_42_method_150_code_9 : decode jdk_42_method_150_code 9 = .ok (.aload_n 1, 1) := by decide +kernel
theorem d_jdk_42_method_150_code_10 : decode jdk_42_method_150_code 10 = .ok (.invokevirtual 549, 3) := by decide +kernel
theorem d_jdk_42_method_150_code_13 : decode jdk_42_method_150_code 13 = .ok (.istore 4, 2) := by decide +kernel
theorem d_jdk_42_method_150_code_15 : decode jdk_42_method_150_code 15 = .ok (.aload_n 1, 1) := by decide +kernel
theorem pd___Z : parseMethodDescriptor "()Z" = some ⟨[], some .boolean⟩ := by decide +kernel
theorem d_jdk_42_method_150_code_16 : decode jdk_42_method_150_code 16 = .ok (.invokevirtual 1047, 3) := by decide +kernel
theorem d_jdk_42_method_150_code_19 : decode jdk_42_method_150_code 19 = .ok (.ifCond .eq 22, 3) := by decide +kernel
theorem d_jdk_42_method_150_code_22 : decode jdk_42_method_150_code 22 = .ok (.aload_n 0, 1) := by decide +kernel
theorem d_jdk_42_method_150_code_23 : decode jdk_42_method_150_code 23 = .ok (.iconst 0, 1) := by decide +kernel
theorem d_jdk_42_method_150_code_24 : decode jdk_42_method_150_code 24 = .ok (.putfield 15, 3) := by decide +kernel
theorem d_jdk_42_method_150_code_27 : decode jdk_42_method_150_code 27 = .ok (.aload_n 0, 1) := by decide +kernel
theorem d_jdk_42_method_150_code_28 : decode jdk_42_method_150_code 28 = .ok (.aload_n 3, 1) := by decide +kernel
theorem d_jdk_42_method_150_code_29 : decode jdk_42_method_150_code 29 = .ok (.iconst 0, 1) := by decide +kernel
theorem d_jdk_42_method_150_code_30 : decode jdk_42_method_150_code 30 = .ok (.iload 4, 2) := by decide +kernel
theorem d_jdk_42_method_150_code_32 : decode jdk_42_method_150_code 32 = .ok (.invokestatic 54, 3) := by decide +kernel
theorem d_jdk_42_method_150_code_35 : decode jdk_42_method_150_code 35 = .ok (.putfield 9, 3) := by decide +kernel
theorem d_jdk_42_method_150_code_38 : decode jdk_42_method_150_code 38 = .ok (.goto 59, 3) := by decide +kernel
theorem d_jdk_42_method_150_code_97 : decode jdk_42_method_150_code 97 = .ok (.return_, 1) := by decide +kernel
theorem ef_own_sasb (m : MethodId) {a1 : Addr} {x : Addr} : entryFrame m #[(.ref a1), (.ref x), .null] 5 = mkF m 0 #[.val (.ref a1), .val (.ref x), .val .null, .unset, .unset] [] := by first | (simp [entryFrame, mkF, argsToLocals, Value.category]; done) | rfl
def Q_own_sasb (Z : State) (a1 : Addr) (x xb : Addr) (kX : ClassId) (cnt : Int32) (vs : List Value) (G1 : Int32) (h0 : Heap) (n0 : Nat) (v : Option Value) (h : Heap) (L : List Loc) : Prop := ∃ (nb : Addr) (k : ClassId), v = none ∧ Fr n0 L ∧ Keep h0 h [a1] ∧ h0.size ≤ nb ∧ Fld Z h a1 "java/lang/String" "value" "[B" (.ref nb) ∧ Fld Z h a1 "java/lang/String" "coder" "B" (.int (0 : Int32)) ∧ Arv Z h nb k .byte cnt (vs.take cnt.toNatClampNeg) (.int (0 : Int32))
set_option maxRecDepth 65536 in
set_option maxHeartbeats 40000000 in
theorem own_sasb (l : Launch) (Z : State) (a0 : Array Value) (hw : ∀ d ∈ tables_1, d.before a0 Z = true) (ws : List Jvm.Cond) (a1 : Addr) (x xb : Addr) (kX : ClassId) (cnt : Int32) (vs : List Value) (G1 : Int32) (h0 : Heap) (n0 : Nat) (Z0 : n0 ≤ h0.size) (O1 : Obj Z h0 a1 "java/lang/String") (g1 : n0 ≤ a1) (EX : Obj Z h0 x "java/lang/StringBuilder") (VX : Fld Z h0 x "java/lang/AbstractStringBuilder" "value" "[B" (.ref xb)) (CX : Fld Z h0 x "java/lang/AbstractStringBuilder" "coder" "B" (.int (0 : Int32))) (NX : Fld Z h0 x "java/lang/AbstractStringBuilder" "count" "I" (.int cnt)) (KX : Arv Z h0 xb kX .byte (16 : Int32) vs (.int (0 : Int32))) (O2 : Sta Z Z.heap "java/lang/String" "COMPACT_STRINGS" "Z" (.int G1)) (P5 : ¬ G1 = (0 : Int32)) (XO : Old Z n0 h0) (hc0 : ¬ cnt < (0 : Int32)) (hc16 : cnt.toNatClampNeg < 16) (hvs : vs.length = 16) :
    MetFree l (⟨"java/lang/String", "<init>", "(Ljava/lang/AbstractStringBuilder;Ljava/lang/Void;)V"⟩ : MethodName) (head1 (Jvm.Cond.code (⟨"java/lang/String", "<init>", "(Ljava/lang/AbstractStringBuilder;Ljava/lang/Void;)V"⟩ : MethodName) jdk_42_method_150_code 5 none :: ws) ({ frames := 3, cells := 1, slots := 15, locals := 49 } : Room)) (fun a U => a = #[(.ref a1), (.ref x), .null] ∧ Z.Warmed39 U.vm ∧ U.heap = h0) (fun _ _ _ _ _ => True) (fun _ U o U' => ∃ v L, o = .returned v ∧ Q_own_sasb Z a1 x xb kX cnt vs G1 h0 n0 v U'.heap L ∧ FrameEnd U o U' L ({ frames := 3, cells := 1, slots := 15, locals := 49 } : Room).cells ({ frames := 3, cells := 1, slots := 15, locals := 49 } : Room).slots) := by
  refine MetFree.of_bodySF (plainFor_of_name pn_java_lang_String) hisR ?_
  intro p e s m args below meth c s₁ Bd hml0 hP hK
  obtain ⟨rfl, hZ, hh⟩ := hP
  have hx := Bd.exec
  have hby := Bd.bytes
  have hml : c.maxLocals = 5 := hml0
  have hown : s.vm.findClass "java/lang/String" = some m.cls := findClass_of_methodNamed Bd.named
  have hnm := (name_of_methodNamed Bd.named Bd.method).1
  have X0 : Stand p l e ({ frames := 3, cells := 1, slots := 15, locals := 49 } : Room) s m #[(.ref a1), (.ref x), .null] below meth c s₁ [] 0 0 := Stand.of_body Bd
  have e0 : s₁.heap = h0 := by rw [← hh, Bd.state]; rfl
  have N0 := Fr.nil n0
  have pre0 : ∀ t, Steps p.tables e below (s₁.setTop (mkF m 0 #[.val (.ref a1), .val (.ref x), .val .null, .unset, .unset] [])) t → Steps p.tables e below (s₁.setTop (entryFrame m #[(.ref a1), (.ref x), .null] 5)) t := fun t k => castTop (ef_own_sasb m) k
  have ne_x_a1 : x ≠ a1 := Exa.ne EX.exa O1.exa (by decide)
  have ne_a1_xb : a1 ≠ xb := Exa.neArv O1.exa KX (hw _ (List.mem_of_getElem? (i := 5) rfl))
  obtain ⟨T1, X1, e1, st1⟩ := initO X0 hx hZ hown (hw _ (List.mem_of_getElem? (i := 15) rfl)) (hw _ (List.mem_of_getElem? (i := 16) rfl)) (hw _ (List.mem_of_getElem? (i := 17) rfl)) e0 (g := (mkF m 1 #[.val (.ref a1), .val (.ref x), .val .null, .unset, .unset] [(.ref a1)])) rfl (by rw [hml]; rfl) rfl (hb hby d_jdk_42_method_150_code_1) (by decide) (W := 0) (by show 2 * 0 + _ ≤ _; exact Nat.le_of_eq rfl) (by decide)
  have pre2 : ∀ t, Steps p.tables e below (T1.setTop (mkF m 4 #[.val (.ref a1), .val (.ref x), .val .null, .unset, .unset] [])) t → Steps p.tables e below (s₁.setTop (entryFrame m #[(.ref a1), (.ref x), .null] 5)) t := by
    intro t kk
    refine pre0 t ?_
    show Steps p.tables e below (s₁.setTop (mkF m 0 #[.val (.ref a1), .val (.ref x), .val .null, .unset, .unset] [])) _
    refine XS.aloadN X0.here hx rfl (hb hby d_jdk_42_method_150_code_0) rfl rfl ?_
    show Steps p.tables e below (s₁.setTop (mkF m 1 #[.val (.ref a1), .val (.ref x), .val .null, .unset, .unset] [(.ref a1)])) _
    exact st1 _ kk
  obtain ⟨cq3, kq3, q3a, q3b, q3c⟩ := isOf hZ e1 EX.exa
  obtain ⟨_, _, ⟨T3, L3, k3, n3⟩, -, X3, ⟨Lc3, hQ3, l3, y3, z3⟩, st3⟩ := X1.virtualBack hx (y := (⟨"java/lang/AbstractStringBuilder", "getValue", "()[B"⟩ : MethodName)) (z := (⟨"java/lang/AbstractStringBuilder", "getValue", "()[B"⟩ : MethodName)) hown (mvT hZ (hw _ (List.mem_of_getElem? (i := 110) rfl))) (mvT hZ (hw _ (List.mem_of_getElem? (i := 111) rfl))) (notFace_of_selects (args := #[]) (mvT hZ (hw _ (List.mem_of_getElem? (i := 113) rfl)))) (mvT hZ (hw _ (List.mem_of_getElem? (i := 113) rfl))) (mvT hZ (hw _ (List.mem_of_getElem? (i := 112) rfl))) (by decide) (backOf (W := 0) (own_gv l Z a0 hw [] x xb h0 n0 Z0 VX) hZ (hw _ (List.mem_of_getElem? (i := 114) rfl)) (hw _ (List.mem_of_getElem? (i := 42) rfl)) (by decide) (by decide)) q3a q3c (g := (mkF m 5 #[.val (.ref a1), .val (.ref x), .val .null, .unset, .unset] [(.ref x)])) rfl (by rw [hml]; rfl) (Steps.refl _) (argsL := []) (rest := []) (lenOf pd____B rfl) rfl (by show 2 * 0 + _ ≤ _; exact Nat.le_of_eq rfl) (hb hby d_jdk_42_method_150_code_5) (fun _ _ => ⟨rfl, e1, (by decide : 0 + 0 ≤ _), (by decide : 0 + 0 ≤ _)⟩)
  dsimp only [Pt.U, Pt.locs, Pt.cells, Pt.slots] at X3 l3 y3 z3 st3 hQ3
  subst l3 y3 z3
  obtain ⟨rfl, N3q, e3q⟩ := hQ3
  have N3 := Fr.app N0 N3q
  have pre4 : ∀ t, Steps p.tables e below (T3.setTop (mkF m 8 #[.val (.ref a1), .val (.ref x), .val .null, .unset, .unset] [(.ref xb)])) t → Steps p.tables e below (s₁.setTop (entryFrame m #[(.ref a1), (.ref x), .null] 5)) t := by
    intro t kk
    refine pre2 t ?_
    show Steps p.tables e below (T1.setTop (mkF m 4 #[.val (.ref a1), .val (.ref x), .val .null, .unset, .unset] [])) _
    refine XS.aloadN X1.here hx rfl (hb hby d_jdk_42_method_150_code_4) rfl rfl ?_
    show Steps p.tables e below (T1.setTop (mkF m 5 #[.val (.ref a1), .val (.ref x), .val .null, .unset, .unset] [(.ref x)])) _
    exact st3.trans kk
  obtain ⟨cq5, kq5, q5a, q5b, q5c⟩ := isOf hZ e3q EX.exa
  obtain ⟨_, _, ⟨T5, L5, k5, n5⟩, -, X5, ⟨Lc5, hQ5, l5, y5, z5⟩, st5⟩ := X3.virtualBack hx (y := (⟨"java/lang/AbstractStringBuilder", "length", "()I"⟩ : MethodName)) (z := (⟨"java/lang/StringBuilder", "length", "()I"⟩ : MethodName)) hown (mvT hZ (hw _ (List.mem_of_getElem? (i := 115) rfl))) (mvT hZ (hw _ (List.mem_of_getElem? (i := 116) rfl))) (own_nf (y := (⟨"java/lang/AbstractStringBuilder", "length", "()I"⟩ : MethodName)) (y' := (⟨"java/lang/AbstractStringBuilder", "getValue", "()[B"⟩ : MethodName)) rfl (notFace_of_selects (args := #[]) (mvT hZ (hw _ (List.mem_of_getElem? (i := 113) rfl)))) (mvT hZ (hw _ (List.mem_of_getElem? (i := 112) rfl)) (args := #[]))) (mvT hZ (hw _ (List.mem_of_getElem? (i := 118) rfl))) (mvT hZ (hw _ (List.mem_of_getElem? (i := 119) rfl))) (by decide) (backOf (W := 0) (own_blen l Z a0 hw [] x cnt h0 n0 Z0 EX NX) hZ (hw _ (List.mem_of_getElem? (i := 120) rfl)) (hw _ (List.mem_of_getElem? (i := 34) rfl)) (by decide) (by decide)) q5a q5c (g := (mkF m 10 #[.val (.ref a1), .val (.ref x), .val .null, .val (.ref xb), .unset] [(.ref x)])) rfl (by rw [hml]; rfl) (Steps.refl _) (argsL := []) (rest := []) (lenOf pd___I rfl) rfl (by show 2 * 0 + _ ≤ _; exact Nat.le_of_eq rfl) (hb hby d_jdk_42_method_150_code_10) (fun _ _ => ⟨rfl, e3q, (by decide : 0 + 0 ≤ _), (by decide : 0 + 0 ≤ _)⟩)
  dsimp only [Pt.U, Pt.locs, Pt.cells, Pt.slots] at X5 l5 y5 z5 st5 hQ5
  subst l5 y5 z5
  obtain ⟨rfl, N5q, e5q⟩ := hQ5
  have N5 := Fr.app N3 N5q
  have pre6 : ∀ t, Steps p.tables e below (T5.setTop (mkF m 13 #[.val (.ref a1), .val (.ref x), .val .null, .val (.ref xb), .unset] [(.int cnt)])) t → Steps p.tables e below (s₁.setTop (entryFrame m #[(.ref a1), (.ref x), .null] 5)) t := by
    intro t kk
    refine pre4 t ?_
    show Steps p.tables e below (T3.setTop (mkF m 8 #[.val (.ref a1), .val (.ref x), .val .null, .unset, .unset] [(.ref xb)])) _
    refine XS.astoreN X3.here hx rfl (hb hby d_jdk_42_method_150_code_8) rfl rfl (l' := #[.val (.ref a1), .val (.ref x), .val .null, .val (.ref xb), .unset]) rfl ?_
    show Steps p.tables e below (T3.setTop (mkF m 9 #[.val (.ref a1), .val (.ref x), .val .null, .val (.ref xb), .unset] [])) _
    refine XS.aloadN X3.here hx rfl (hb hby d_jdk_42_method_150_code_9) rfl rfl ?_
    show Steps p.tables e below (T3.setTop (mkF m 10 #[.val (.ref a1), .val (.ref x), .val .null, .val (.ref xb), .unset] [(.ref x)])) _
    exact st5.trans kk
  obtain ⟨cq7, kq7, q7a, q7b, q7c⟩ := isOf hZ e5q EX.exa
  obtain ⟨_, _, ⟨T7, L7, k7, n7⟩, -, X7, ⟨Lc7, hQ7, l7, y7, z7⟩, st7⟩ := X5.virtualBack hx (y := (⟨"java/lang/AbstractStringBuilder", "isLatin1", "()Z"⟩ : MethodName)) (z := (⟨"java/lang/AbstractStringBuilder", "isLatin1", "()Z"⟩ : MethodName)) hown (mvT hZ (hw _ (List.mem_of_getElem? (i := 123) rfl))) (mvT hZ (hw _ (List.mem_of_getElem? (i := 124) rfl))) (notFace_of_selects (args := #[]) (mvT hZ (hw _ (List.mem_of_getElem? (i := 126) rfl)))) (mvT hZ (hw _ (List.mem_of_getElem? (i := 126) rfl))) (mvT hZ (hw _ (List.mem_of_getElem? (i := 125) rfl))) (by decide) (backOf (W := 0) (own_isl l Z a0 hw [] x G1 h0 n0 Z0 CX O2 P5 XO) hZ (hw _ (List.mem_of_getElem? (i := 127) rfl)) (hw _ (List.mem_of_getElem? (i := 42) rfl)) (by decide) (by decide)) q7a q7c (g := (mkF m 16 #[.val (.ref a1), .val (.ref x), .val .null, .val (.ref xb), .val (.int cnt)] [(.ref x)])) rfl (by rw [hml]; rfl) (Steps.refl _) (argsL := []) (rest := []) (lenOf pd___Z rfl) rfl (by show 2 * 0 + _ ≤ _; exact Nat.le_of_eq rfl) (hb hby d_jdk_42_method_150_code_16) (fun _ _ => ⟨rfl, e5q, (by decide : 0 + 0 ≤ _), (by decide : 0 + 0 ≤ _)⟩)
  dsimp only [Pt.U, Pt.locs, Pt.cells, Pt.slots] at X7 l7 y7 z7 st7 hQ7
  subst l7 y7 z7
  obtain ⟨rfl, N7q, e7q⟩ := hQ7
  have N7 := Fr.app N5 N7q
  have pre8 : ∀ t, Steps p.tables e below (T7.setTop (mkF m 19 #[.val (.ref a1), .val (.ref x), .val .null, .val (.ref xb), .val (.int cnt)] [(.int (1 : Int32))])) t → Steps p.tables e below (s₁.setTop (entryFrame m #[(.ref a1), (.ref x), .null] 5)) t := by
    intro t kk
    refine pre6 t ?_
    show Steps p.tables e below (T5.setTop (mkF m 13 #[.val (.ref a1), .val (.ref x), .val .null, .val (.ref xb), .unset] [(.int cnt)])) _
    refine XS.istore X5.here hx rfl (hb hby d_jdk_42_method_150_code_13) rfl (l' := #[.val (.ref a1), .val (.ref x), .val .null, .val (.ref xb), .val (.int cnt)]) rfl ?_
    show Steps p.tables e below (T5.setTop (mkF m 15 #[.val (.ref a1), .val (.ref x), .val .null, .val (.ref xb), .val (.int cnt)] [])) _
    refine XS.aloadN X5.here hx rfl (hb hby d_jdk_42_method_150_code_15) rfl rfl ?_
    show Steps p.tables e below (T5.setTop (mkF m 16 #[.val (.ref a1), .val (.ref x), .val .null, .val (.ref xb), .val (.int cnt)] [(.ref x)])) _
    exact st7.trans kk
  have hd9 : ¬ ((1 : Int32) = (0 : Int32)) := by decide
  obtain ⟨u10, U10⟩ := Obj.fld O1 (Or.inr (hw _ (List.mem_of_getElem? (i := 21) rfl))) (hw _ (List.mem_of_getElem? (i := 5) rfl))
  obtain ⟨T10, h10, X10, e10, W10, st10⟩ := putF X7 hx hZ hown (host := "") (Or.inl (hw _ (List.mem_of_getElem? (i := 25) rfl))) Via.refl e7q U10 O1.exa (Or.inr ⟨(hw _ (List.mem_of_getElem? (i := 21) rfl)), rfl, hnm⟩) (hw _ (List.mem_of_getElem? (i := 5) rfl)) (ty := .byte) (by decide) rfl rfl (g := (mkF m 24 #[.val (.ref a1), .val (.ref x), .val .null, .val (.ref xb), .val (.int cnt)] [(.int (0 : Int32)), (.ref a1)])) rfl rfl (hb hby d_jdk_42_method_150_code_24)
  have N10 := Fr.snoc X10 N7 g1
  have Fw10 := U10.same W10
  have pre11 : ∀ t, Steps p.tables e below (T10.setTop (mkF m 27 #[.val (.ref a1), .val (.ref x), .val .null, .val (.ref xb), .val (.int cnt)] [])) t → Steps p.tables e below (s₁.setTop (entryFrame m #[(.ref a1), (.ref x), .null] 5)) t := by
    intro t kk
    refine pre8 t ?_
    show Steps p.tables e below (T7.setTop (mkF m 19 #[.val (.ref a1), .val (.ref x), .val .null, .val (.ref xb), .val (.int cnt)] [(.int (1 : Int32))])) _
    refine XS.ifNo X7.here hx rfl (hb hby d_jdk_42_method_150_code_19) rfl ((if0 _ _).trans (feq hd9).1) ?_
    show Steps p.tables e below (T7.setTop (mkF m 22 #[.val (.ref a1), .val (.ref x), .val .null, .val (.ref xb), .val (.int cnt)] [])) _
    refine XS.aloadN X7.here hx rfl (hb hby d_jdk_42_method_150_code_22) rfl rfl ?_
    show Steps p.tables e below (T7.setTop (mkF m 23 #[.val (.ref a1), .val (.ref x), .val .null, .val (.ref xb), .val (.int cnt)] [(.ref a1)])) _
    refine XS.iconst X7.here hx rfl (hb hby d_jdk_42_method_150_code_23) ?_
    show Steps p.tables e below (T7.setTop (mkF m 24 #[.val (.ref a1), .val (.ref x), .val .null, .val (.ref xb), .val (.int cnt)] [(.int (0 : Int32)), (.ref a1)])) _
    exact st10 _ kk
  have fc12 := (KX.other W10 (Ne.symm ne_a1_xb))
  have fc14 := (Nat.le_trans Z0 (Keep.of_wr W10).1)
  obtain ⟨_, _, ⟨T13, L13, k13, n13⟩, -, X13, ⟨Lc13, hQ13, l13, y13, z13⟩, st13⟩ := Jvm.LawKit.callS X10 hx (y := (⟨"java/util/Arrays", "copyOfRange", "([BII)[B"⟩ : MethodName)) hown (mvT hZ (hw _ (List.mem_of_getElem? (i := 128) rfl))) (mvT hZ (hw _ (List.mem_of_getElem? (i := 129) rfl))) (mvT hZ (hw _ (List.mem_of_getElem? (i := 130) rfl))) (mvT hZ (hw _ (List.mem_of_getElem? (i := 131) rfl))) (by decide) (backOf (W := 1) (own_cor l Z a0 hw [] xb kX cnt vs h10 n0 fc14 fc12 hc0 hc16 hvs) hZ (hw _ (List.mem_of_getElem? (i := 131) rfl)) (hw _ (List.mem_of_getElem? (i := 130) rfl)) (by decide) (by decide)) (g := (mkF m 32 #[.val (.ref a1), .val (.ref x), .val .null, .val (.ref xb), .val (.int cnt)] [(.int cnt), (.int (0 : Int32)), (.ref xb), (.ref a1)])) rfl (by rw [hml]; rfl) (argsL := [(.ref xb), (.int (0 : Int32)), (.int cnt)]) (rest := [(.ref a1)]) (lenOf pd___BII__B rfl) rfl (by show 2 * 0 + _ ≤ _; exact Nat.le_of_eq rfl) (hb hby d_jdk_42_method_150_code_32) (fun _ _ => ⟨rfl, e10, (by decide : 0 + 1 ≤ _), (by decide : 0 + 15 ≤ _)⟩)
  dsimp only [Pt.U, Pt.locs, Pt.cells, Pt.slots] at X13 l13 y13 z13 st13 hQ13
  subst l13 y13 z13
  obtain ⟨b13, kb13, rfl, N13q, K13, lo13, V13⟩ := hQ13
  have N13 := Fr.app N10 N13q
  have pre15 : ∀ t, Steps p.tables e below (T13.setTop (mkF m 35 #[.val (.ref a1), .val (.ref x), .val .null, .val (.ref xb), .val (.int cnt)] [(.ref b13), (.ref a1)])) t → Steps p.tables e below (s₁.setTop (entryFrame m #[(.ref a1), (.ref x), .null] 5)) t := by
    intro t kk
    refine pre11 t ?_
    show Steps p.tables e below (T10.setTop (mkF m 27 #[.val (.ref a1), .val (.ref x), .val .null, .val (.ref xb), .val (.int cnt)] [])) _
    refine XS.aloadN X10.here hx rfl (hb hby d_jdk_42_method_150_code_27) rfl rfl ?_
    show Steps p.tables e below (T10.setTop (mkF m 28 #[.val (.ref a1), .val (.ref x), .val .null, .val (.ref xb), .val (.int cnt)] [(.ref a1)])) _
    refine XS.aloadN X10.here hx rfl (hb hby d_jdk_42_method_150_code_28) rfl rfl ?_
    show Steps p.tables e below (T10.setTop (mkF m 29 #[.val (.ref a1), .val (.ref x), .val .null, .val (.ref xb), .val (.int cnt)] [(.ref xb), (.ref a1)])) _
    refine XS.iconst X10.here hx rfl (hb hby d_jdk_42_method_150_code_29) ?_
    show Steps p.tables e below (T10.setTop (mkF m 30 #[.val (.ref a1), .val (.ref x), .val .null, .val (.ref xb), .val (.int cnt)] [(.int (0 : Int32)), (.ref xb), (.ref a1)])) _
    refine XS.iload X10.here hx rfl (hb hby d_jdk_42_method_150_code_30) rfl ?_
    show Steps p.tables e below (T10.setTop (mkF m 32 #[.val (.ref a1), .val (.ref x), .val .null, .val (.ref xb), .val (.int cnt)] [(.int cnt), (.int (0 : Int32)), (.ref xb), (.ref a1)])) _
    exact st13 _ kk
  have ne_a1_b13 : a1 ≠ b13 := Nat.ne_of_lt (Nat.lt_of_lt_of_le (O1.wr W10).lt lo13)
  have hi_b13 : h0.size ≤ b13 := Nat.le_trans ((Keep.refl h0 [a1]).wr W10 (Or.inl (List.mem_of_getElem? (i := 0) rfl))).1 lo13
  have fc16 := ((O1.wr W10).keep K13)
  obtain ⟨u17, U17⟩ := Obj.fld fc16 (Or.inr (hw _ (List.mem_of_getElem? (i := 20) rfl))) (hw _ (List.mem_of_getElem? (i := 5) rfl))
  obtain ⟨T17, h17, X17, e17, W17, st17⟩ := putF X13 hx hZ hown (host := "") (Or.inl (hw _ (List.mem_of_getElem? (i := 24) rfl))) Via.refl rfl U17 fc16.exa (Or.inr ⟨(hw _ (List.mem_of_getElem? (i := 20) rfl)), rfl, hnm⟩) (hw _ (List.mem_of_getElem? (i := 5) rfl)) (ty := (.array .byte)) (by decide) rfl rfl (g := (mkF m 35 #[.val (.ref a1), .val (.ref x), .val .null, .val (.ref xb), .val (.int cnt)] [(.ref b13), (.ref a1)])) rfl rfl (hb hby d_jdk_42_method_150_code_35)
  have N17 := Fr.snoc X17 N13 g1
  have Fw17 := U17.same W17
  have pre18 : ∀ t, Steps p.tables e below (T17.setTop (mkF m 38 #[.val (.ref a1), .val (.ref x), .val .null, .val (.ref xb), .val (.int cnt)] [])) t → Steps p.tables e below (s₁.setTop (entryFrame m #[(.ref a1), (.ref x), .null] 5)) t := by
    intro t kk
    refine pre15 t ?_
    show Steps p.tables e below (T13.setTop (mkF m 35 #[.val (.ref a1), .val (.ref x), .val .null, .val (.ref xb), .val (.int cnt)] [(.ref b13), (.ref a1)])) _
    exact st17 _ kk
  have fc19 := ((((Keep.refl h0 [a1]).wr W10 (Or.inl (List.mem_of_getElem? (i := 0) rfl))).trans K13 all0).wr W17 (Or.inl (List.mem_of_getElem? (i := 0) rfl)))
  have fc20 := ((Fw10.keep K13 nin0).other W17 (Or.inr (slot_ne (Or.inr (hw _ (List.mem_of_getElem? (i := 21) rfl))) (Or.inr (hw _ (List.mem_of_getElem? (i := 20) rfl))) (by decide) (t := .byte) (t' := (.array .byte)) (by decide) (by decide))))
  have fc21 := (V13.other W17 (Ne.symm ne_a1_b13))
  obtain ⟨fs, hr, hrun, hended, hW, hsame⟩ := X17.leave (v := none) (fun _ => rfl)
  refine ⟨_, _, pre18 _ ?_, hrun, hended, _, _, rfl, ?_, ⟨_, rfl⟩, hW, hsame.mono (by decide) (by decide)⟩
  · show Steps p.tables e below (T17.setTop (mkF m 38 #[.val (.ref a1), .val (.ref x), .val .null, .val (.ref xb), .val (.int cnt)] [])) _
    refine XS.goto X17.here hx rfl (pc0 := 38) (pc' := 97) rfl (hb hby d_jdk_42_method_150_code_38) (by decide) (by decide) ?_
    show Steps p.tables e below (T17.setTop (mkF m 97 #[.val (.ref a1), .val (.ref x), .val .null, .val (.ref xb), .val (.int cnt)] [])) _
    exact X17.returnOut hx Bd.returns (hb hby d_jdk_42_method_150_code_97) hr
  · show Q_own_sasb Z a1 x xb kX cnt vs G1 h0 n0 _ T17.heap _
    rw [e17]
    exact ⟨b13, kb13, rfl, N17, fc19, hi_b13, Fw17, fc20, fc21⟩
theorem d_jdk_42_method_53_code_0 : decode jdk_42_method_53_code 0 = .ok (.aload_n 0, 1) := by decide +kernel
theorem d_jdk_42_method_53_code_1 : decode jdk_42_method_53_code 1 = .ok (.aload_n 1, 1) := by decide +kernel
theorem d_jdk_42_method_53_code_2 : decode jdk_42_method_53_code 2 = .ok (.aconst_null, 1) := by decide +kernel
theorem pd__Ljava_lang_AbstractStringBuilder_Ljava_lang_Void__V : parseMethodDescriptor "(Ljava/lang/AbstractStringBuilder;Ljava/lang/Void;)V" = some ⟨[(.object "java/lang/AbstractStringBuilder"), (.object "java/lang/Void")], none⟩ := by decide +kernel
theorem d_jdk_42_method_53_code_3 : decode jdk_42_method_53_code 3 = .ok (.invokespecial 489, 3) := by decide +kernel
theorem d_jdk_42_method_53_code_6 : decode jdk_42_method_53_code 6 = .ok (.return_, 1) := by decide +kernel
theorem ef_own_ssb (m : MethodId) {a1 : Addr} {x : Addr} : entryFrame m #[(.ref a1), (.ref x)] 2 = mkF m 0 #[.val (.ref a1), .val (.ref x)] [] := by first | (simp [entryFrame, mkF, argsToLocals, Value.category]; done) | rfl
def Q_own_ssb (Z : State) (a1 : Addr) (x xb : Addr) (kX : ClassId) (cnt : Int32) (vs : List Value) (G1 : Int32) (h0 : Heap) (n0 : Nat) (v : Option Value) (h : Heap) (L : List Loc) : Prop := ∃ (nb : Addr) (k : ClassId), v = none ∧ Fr n0 L ∧ Keep h0 h [a1] ∧ h0.size ≤ nb ∧ Fld Z h a1 "java/lang/String" "value" "[B" (.ref nb) ∧ Fld Z h a1 "java/lang/String" "coder" "B" (.int (0 : Int32)) ∧ Arv Z h nb k .byte cnt (vs.take cnt.toNatClampNeg) (.int (0 : Int32))
set_option maxRecDepth 65536 in
set_option maxHeartbeats 40000000 in
theorem own_ssb (l : Launch) (Z : State) (a0 : Array Value) (hw : ∀ d ∈ tables_1, d.before a0 Z = true) (ws : List Jvm.Cond) (a1 : Addr) (x xb : Addr) (kX : ClassId) (cnt : Int32) (vs : List Value) (G1 : Int32) (h0 : Heap) (n0 : Nat) (Z0 : n0 ≤ h0.size) (O1 : Obj Z h0 a1 "java/lang/String") (g1 : n0 ≤ a1) (EX : Obj Z h0 x "java/lang/StringBuilder") (VX : Fld Z h0 x "java/lang/AbstractStringBuilder" "value" "[B" (.ref xb)) (CX : Fld Z h0 x "java/lang/AbstractStringBuilder" "coder" "B" (.int (0 : Int32))) (NX : Fld Z h0 x "java/lang/AbstractStringBuilder" "count" "I" (.int cnt)) (KX : Arv Z h0 xb kX .byte (16 : Int32) vs (.int (0 : Int32))) (O2 : Sta Z Z.heap "java/lang/String" "COMPACT_STRINGS" "Z" (.int G1)) (P5 : ¬ G1 = (0 : Int32)) (XO : Old Z n0 h0) (hc0 : ¬ cnt < (0 : Int32)) (hc16 : cnt.toNatClampNeg < 16) (hvs : vs.length = 16) :
    MetFree l (⟨"java/lang/String", "<init>", "(Ljava/lang/StringBuilder;)V"⟩ : MethodName) (head1 (Jvm.Cond.code (⟨"java/lang/String", "<init>", "(Ljava/lang/StringBuilder;)V"⟩ : MethodName) jdk_42_method_53_code 2 none :: ws) ({ frames := 4, cells := 1, slots := 15, locals := 65 } : Room)) (fun a U => a = #[(.ref a1), (.ref x)] ∧ Z.Warmed39 U.vm ∧ U.heap = h0) (fun _ _ _ _ _ => True) (fun _ U o U' => ∃ v L, o = .returned v ∧ Q_own_ssb Z a1 x xb kX cnt vs G1 h0 n0 v U'.heap L ∧ FrameEnd U o U' L ({ frames := 4, cells := 1, slots := 15, locals := 65 } : Room).cells ({ frames := 4, cells := 1, slots := 15, locals := 65 } : Room).slots) := by
  refine MetFree.of_bodySF (plainFor_of_name pn_java_lang_String) hisR ?_
  intro p e s m args below meth c s₁ Bd hml0 hP hK
  obtain ⟨rfl, hZ, hh⟩ := hP
  have hx := Bd.exec
  have hby := Bd.bytes
  have hml : c.maxLocals = 2 := hml0
  have hown : s.vm.findClass "java/lang/String" = some m.cls := findClass_of_methodNamed Bd.named
  have hnm := (name_of_methodNamed Bd.named Bd.method).1
  have X0 : Stand p l e ({ frames := 4, cells := 1, slots := 15, locals := 65 } : Room) s m #[(.ref a1), (.ref x)] below meth c s₁ [] 0 0 := Stand.of_body Bd
  have e0 : s₁.heap = h0 := by rw [← hh, Bd.state]; rfl
  have N0 := Fr.nil n0
  have pre0 : ∀ t, Steps p.tables e below (s₁.setTop (mkF m 0 #[.val (.ref a1), .val (.ref x)] [])) t → Steps p.tables e below (s₁.setTop (entryFrame m #[(.ref a1), (.ref x)] 2)) t := fun t k => castTop (ef_own_ssb m) k
  obtain ⟨_, _, ⟨T1, L1, k1, n1⟩, -, X1, ⟨Lc1, hQ1, l1, y1, z1⟩, st1⟩ := X0.specialBack hx (y := (⟨"java/lang/String", "<init>", "(Ljava/lang/AbstractStringBuilder;Ljava/lang/Void;)V"⟩ : MethodName)) rfl hown (mvT hZ (hw _ (List.mem_of_getElem? (i := 107) rfl))) (mvT hZ (hw _ (List.mem_of_getElem? (i := 108) rfl))) (mvT hZ (hw _ (List.mem_of_getElem? (i := 109) rfl))) (by decide) (backOf (W := 0) (own_sasb l Z a0 hw [] a1 x xb kX cnt vs G1 h0 n0 Z0 O1 g1 EX VX CX NX KX O2 P5 XO hc0 hc16 hvs) hZ (hw _ (List.mem_of_getElem? (i := 109) rfl)) (hw _ (List.mem_of_getElem? (i := 6) rfl)) (by decide) (by decide)) (g := (mkF m 3 #[.val (.ref a1), .val (.ref x)] [.null, (.ref x), (.ref a1)])) rfl (by rw [hml]; rfl) (Steps.refl _) (a := a1) (argsL := [(.ref x), .null]) (rest := []) (lenOf pd__Ljava_lang_AbstractStringBuilder_Ljava_lang_Void__V rfl) rfl (by show 2 * 0 + _ ≤ _; exact Nat.le_of_eq rfl) (hb hby d_jdk_42_method_53_code_3) (fun _ _ => ⟨rfl, e0, (by decide : 0 + 1 ≤ _), (by decide : 0 + 15 ≤ _)⟩)
  dsimp only [Pt.U, Pt.locs, Pt.cells, Pt.slots] at X1 l1 y1 z1 st1 hQ1
  subst l1 y1 z1
  obtain ⟨b1, kb1, rfl, N1q, K1, q1a, q1b, q1c, q1d⟩ := hQ1
  have N1 := Fr.app N0 N1q
  have pre2 : ∀ t, Steps p.tables e below (T1.setTop (mkF m 6 #[.val (.ref a1), .val (.ref x)] [])) t → Steps p.tables e below (s₁.setTop (entryFrame m #[(.ref a1), (.ref x)] 2)) t := by
    intro t kk
    refine pre0 t ?_
    show Steps p.tables e below (s₁.setTop (mkF m 0 #[.val (.ref a1), .val (.ref x)] [])) _
    refine XS.aloadN X0.here hx rfl (hb hby d_jdk_42_method_53_code_0) rfl rfl ?_
    show Steps p.tables e below (s₁.setTop (mkF m 1 #[.val (.ref a1), .val (.ref x)] [(.ref a1)])) _
    refine XS.aloadN X0.here hx rfl (hb hby d_jdk_42_method_53_code_1) rfl rfl ?_
    show Steps p.tables e below (s₁.setTop (mkF m 2 #[.val (.ref a1), .val (.ref x)] [(.ref x), (.ref a1)])) _
    refine XS.aconstNull X0.here hx rfl (hb hby d_jdk_42_method_53_code_2) ?_
    show Steps p.tables e below (s₁.setTop (mkF m 3 #[.val (.ref a1), .val (.ref x)] [.null, (.ref x), (.ref a1)])) _
    exact st1.trans kk
  have fc3 := ((Keep.refl h0 [a1]).trans K1 (allS (Or.inl (List.mem_of_getElem? (i := 0) rfl)) all0))
  obtain ⟨fs, hr, hrun, hended, hW, hsame⟩ := X1.leave (v := none) (fun _ => rfl)
  refine ⟨_, _, pre2 _ ?_, hrun, hended, _, _, rfl, ?_, ⟨_, rfl⟩, hW, hsame.mono (by decide) (by decide)⟩
  · show Steps p.tables e below (T1.setTop (mkF m 6 #[.val (.ref a1), .val (.ref x)] [])) _
    exact X1.returnOut hx Bd.returns (hb hby d_jdk_42_method_53_code_6) hr
  · show Q_own_ssb Z a1 x xb kX cnt vs G1 h0 n0 _ T1.heap _
    exact ⟨b1, kb1, rfl, N1, fc3, q1a, q1b, q1c, q1d⟩
theorem d_jdk_67_method_42_code_0 : decode jdk_67_method_42_code 0 = .ok (.new 18, 3) := by decide +kernel
theorem d_jdk_67_method_42_code_3 : decode jdk_67_method_42_code 3 = .ok (.dup, 1) := by decide +kernel
theorem d_jdk_67_method_42_code_4 : decode jdk_67_method_42_code 4 = .ok (.aload_n 0, 1) := by decide +kernel
theorem pd__Ljava_lang_StringBuilder__V : parseMethodDescriptor "(Ljava/lang/StringBuilder;)V" = some ⟨[(.object "java/lang/StringBuilder")], none⟩ := by decide +kernel
theorem d_jdk_67_method_42_code_5 : decode jdk_67_method_42_code 5 = .ok (.invokespecial 137, 3) := by decide +kernel
theorem d_jdk_67_method_42_code_8 : decode jdk_67_method_42_code 8 = .ok (.areturn, 1) := by decide +kernel
theorem ef_own_ts (m : MethodId) {x : Addr} : entryFrame m #[(.ref x)] 1 = mkF m 0 #[.val (.ref x)] [] := by first | (simp [entryFrame, mkF, argsToLocals, Value.category]; done) | rfl
def Q_own_ts (Z : State) (x xb : Addr) (kX : ClassId) (cnt : Int32) (vs : List Value) (G1 : Int32) (h0 : Heap) (n0 : Nat) (v : Option Value) (h : Heap) (L : List Loc) : Prop := ∃ (r nb : Addr) (k : ClassId), v = some (.ref r) ∧ Fr n0 L ∧ Keep h0 h [] ∧ h0.size ≤ r ∧ h0.size ≤ nb ∧ Exa Z h r "java/lang/String" ∧ Fld Z h r "java/lang/String" "value" "[B" (.ref nb) ∧ Fld Z h r "java/lang/String" "coder" "B" (.int (0 : Int32)) ∧ Arv Z h nb k .byte cnt (vs.take cnt.toNatClampNeg) (.int (0 : Int32))
set_option maxRecDepth 65536 in
set_option maxHeartbeats 40000000 in
theorem own_ts (l : Launch) (Z : State) (a0 : Array Value) (hw : ∀ d ∈ tables_1, d.before a0 Z = true) (ws : List Jvm.Cond) (x xb : Addr) (kX : ClassId) (cnt : Int32) (vs : List Value) (G1 : Int32) (h0 : Heap) (n0 : Nat) (Z0 : n0 ≤ h0.size) (EX : Obj Z h0 x "java/lang/StringBuilder") (VX : Fld Z h0 x "java/lang/AbstractStringBuilder" "value" "[B" (.ref xb)) (CX : Fld Z h0 x "java/lang/AbstractStringBuilder" "coder" "B" (.int (0 : Int32))) (NX : Fld Z h0 x "java/lang/AbstractStringBuilder" "count" "I" (.int cnt)) (KX : Arv Z h0 xb kX .byte (16 : Int32) vs (.int (0 : Int32))) (O2 : Sta Z Z.heap "java/lang/String" "COMPACT_STRINGS" "Z" (.int G1)) (P5 : ¬ G1 = (0 : Int32)) (XO : Old Z n0 h0) (hc0 : ¬ cnt < (0 : Int32)) (hc16 : cnt.toNatClampNeg < 16) (hvs : vs.length = 16) :
    MetFree l (⟨"java/lang/StringBuilder", "toString", "()Ljava/lang/String;"⟩ : MethodName) (head1 (Jvm.Cond.code (⟨"java/lang/StringBuilder", "toString", "()Ljava/lang/String;"⟩ : MethodName) jdk_67_method_42_code 1 (some (.object "java/lang/String")) :: ws) ({ frames := 5, cells := 2, slots := 19, locals := 79 } : Room)) (fun a U => a = #[(.ref x)] ∧ Z.Warmed39 U.vm ∧ U.heap = h0) (fun _ _ _ _ _ => True) (fun _ U o U' => ∃ v L, o = .returned v ∧ Q_own_ts Z x xb kX cnt vs G1 h0 n0 v U'.heap L ∧ FrameEnd U o U' L ({ frames := 5, cells := 2, slots := 19, locals := 79 } : Room).cells ({ frames := 5, cells := 2, slots := 19, locals := 79 } : Room).slots) := by
  refine MetFree.of_bodySF (plainFor_of_name pn_java_lang_StringBuilder) hisR ?_
  intro p e s m args below meth c s₁ Bd hml0 hP hK
  obtain ⟨rfl, hZ, hh⟩ := hP
  have hx := Bd.exec
  have hby := Bd.bytes
  have hml : c.maxLocals = 1 := hml0
  have hown : s.vm.findClass "java/lang/StringBuilder" = some m.cls := findClass_of_methodNamed Bd.named
  have hnm := (name_of_methodNamed Bd.named Bd.method).1
  have X0 : Stand p l e ({ frames := 5, cells := 2, slots := 19, locals := 79 } : Room) s m #[(.ref x)] below meth c s₁ [] 0 0 := Stand.of_body Bd
  have e0 : s₁.heap = h0 := by rw [← hh, Bd.state]; rfl
  have N0 := Fr.nil n0
  have pre0 : ∀ t, Steps p.tables e below (s₁.setTop (mkF m 0 #[.val (.ref x)] [])) t → Steps p.tables e below (s₁.setTop (entryFrame m #[(.ref x)] 1)) t := fun t k => castTop (ef_own_ts m) k
  obtain ⟨fb1, g1⟩ : ∃ z, z = h0.size := ⟨_, rfl⟩
  have ne_x_fb1 : x ≠ fb1 := Nat.ne_of_lt (Nat.lt_of_lt_of_le EX.lt (Nat.le_of_eq g1.symm))
  have ne_xb_fb1 : xb ≠ fb1 := Nat.ne_of_lt (Nat.lt_of_lt_of_le KX.lt (Nat.le_of_eq g1.symm))
  have lo_fb1 : n0 ≤ fb1 := Nat.le_trans Z0 (Nat.le_of_eq g1.symm)
  have hi_fb1 : h0.size ≤ fb1 := Nat.le_trans (Keep.refl h0 []).1 (Nat.le_of_eq g1.symm)
  obtain ⟨T1, h1, X1, e1, E1, A1, D1, B1, st1⟩ := newO X0 hx hZ hown (hw _ (List.mem_of_getElem? (i := 103) rfl)) (hw _ (List.mem_of_getElem? (i := 5) rfl)) (hw _ (List.mem_of_getElem? (i := 6) rfl)) e0 (g := (mkF m 0 #[.val (.ref x)] [])) rfl (hb hby d_jdk_67_method_42_code_0) (by decide) (by decide)
  rw [← g1] at A1 D1 B1 st1
  have O1 := Obj.of A1 B1
  have pre2 : ∀ t, Steps p.tables e below (T1.setTop (mkF m 3 #[.val (.ref x)] [(.ref fb1)])) t → Steps p.tables e below (s₁.setTop (entryFrame m #[(.ref x)] 1)) t := by
    intro t kk
    refine pre0 t ?_
    show Steps p.tables e below (s₁.setTop (mkF m 0 #[.val (.ref x)] [])) _
    exact st1 _ kk
  have fc3 := (EX.ext E1)
  have fc4 := (VX.ext E1)
  have fc5 := (CX.ext E1)
  have fc6 := (NX.ext E1)
  have fc7 := (KX.ext E1)
  have fc8 := (XO.ext E1)
  have fc10 := (Nat.le_trans Z0 E1.1)
  obtain ⟨_, _, ⟨T9, L9, k9, n9⟩, -, X9, ⟨Lc9, hQ9, l9, y9, z9⟩, st9⟩ := X1.specialBack hx (y := (⟨"java/lang/String", "<init>", "(Ljava/lang/StringBuilder;)V"⟩ : MethodName)) rfl hown (mvT hZ (hw _ (List.mem_of_getElem? (i := 104) rfl))) (mvT hZ (hw _ (List.mem_of_getElem? (i := 105) rfl))) (mvT hZ (hw _ (List.mem_of_getElem? (i := 106) rfl))) (by decide) (backOf (W := 1) (own_ssb l Z a0 hw [] fb1 x xb kX cnt vs G1 h1 n0 fc10 O1 lo_fb1 fc3 fc4 fc5 fc6 fc7 O2 P5 fc8 hc0 hc16 hvs) hZ (hw _ (List.mem_of_getElem? (i := 106) rfl)) (hw _ (List.mem_of_getElem? (i := 6) rfl)) (by decide) (by decide)) (g := (mkF m 5 #[.val (.ref x)] [(.ref x), (.ref fb1), (.ref fb1)])) rfl (by rw [hml]; rfl) (Steps.refl _) (a := fb1) (argsL := [(.ref x)]) (rest := [(.ref fb1)]) (lenOf pd__Ljava_lang_StringBuilder__V rfl) rfl (by show 2 * 0 + _ ≤ _; exact Nat.le_of_eq rfl) (hb hby d_jdk_67_method_42_code_5) (fun _ _ => ⟨rfl, e1, (by decide : 1 + 1 ≤ _), (by decide : 4 + 15 ≤ _)⟩)
  dsimp only [Pt.U, Pt.locs, Pt.cells, Pt.slots] at X9 l9 y9 z9 st9 hQ9
  subst l9 y9 z9
  obtain ⟨b9, kb9, rfl, N9q, K9, q9a, q9b, q9c, q9d⟩ := hQ9
  have N9 := Fr.app N0 N9q
  have pre11 : ∀ t, Steps p.tables e below (T9.setTop (mkF m 8 #[.val (.ref x)] [(.ref fb1)])) t → Steps p.tables e below (s₁.setTop (entryFrame m #[(.ref x)] 1)) t := by
    intro t kk
    refine pre2 t ?_
    show Steps p.tables e below (T1.setTop (mkF m 3 #[.val (.ref x)] [(.ref fb1)])) _
    refine XS.dup X1.here hx rfl (hb hby d_jdk_67_method_42_code_3) rfl rfl ?_
    show Steps p.tables e below (T1.setTop (mkF m 4 #[.val (.ref x)] [(.ref fb1), (.ref fb1)])) _
    refine XS.aloadN X1.here hx rfl (hb hby d_jdk_67_method_42_code_4) rfl rfl ?_
    show Steps p.tables e below (T1.setTop (mkF m 5 #[.val (.ref x)] [(.ref x), (.ref fb1), (.ref fb1)])) _
    exact st9.trans kk
  have hi_b9 : h0.size ≤ b9 := Nat.le_trans ((Keep.refl h0 []).ext E1).1 q9a
  have fc12 := (((Keep.refl h0 []).ext E1).trans K9 (allS (Or.inr hi_fb1) all0))
  have fc13 := (O1.keep K9)
  obtain ⟨fs, hr, hrun, hended, hW, hsame⟩ := X9.leave (v := some (.ref fb1)) (fun h => by rw [Bd.returns] at h; cases h)
  refine ⟨_, _, pre11 _ ?_, hrun, hended, _, _, rfl, ?_, ⟨_, rfl⟩, hW, hsame.mono (by decide) (by decide)⟩
  · show Steps p.tables e below (T9.setTop (mkF m 8 #[.val (.ref x)] [(.ref fb1)])) _
    jvm_step X9.here [X9.here.top, hx, (hb hby d_jdk_67_method_42_code_8), X9.method', Bd.returns, Value.isRef, FieldType.isReference]
    first | (intro acts; rw [hr _ acts rfl rfl rfl]) | rw [hr _ _ rfl rfl rfl]
    exact Steps.refl _
  · show Q_own_ts Z x xb kX cnt vs G1 h0 n0 _ T9.heap _
    exact ⟨fb1, b9, kb9, rfl, N9, fc12, hi_fb1, hi_b9, fc13.exa, q9b, q9c, q9d⟩
theorem own_safeNull {Z : State} {EL : List (String × Nat)} {vm : Vm} {h : Heap} {a : Addr} (hal : Z.vm.Alike vm) (E : Exa Z h a "java/lang/String") (F : Fld Z h a "java/lang/String" "value" "[B" .null) : Safe Z EL vm h a := fun B => by
  obtain ⟨p, -, u, a', -, q, -, S, rfl | rfl⟩ := B
  · obtain ⟨cell, cf, k, i, f, g1, g2, -, -, -, -, g7⟩ := F
    cases (show h[q.sa]? = some q.sC from S.ha).symm.trans g1
    obtain ⟨cS, ⟨⟨-, -, -, ⟨c1, k1, i1, f1, -⟩, -, -, -, v1, -⟩, -⟩, -⟩ := S
    obtain ⟨k3, e3, -⟩ := State.fieldFound?_setVm (s := { Z with heap := h }) hal (show ({ Z with heap := h } : State).fieldFound? _ _ _ = _ from g2)
    have e4 := (show (Wst Z vm h).fieldFound? _ _ _ = _ from e3).symm.trans f1
    simp only [Option.some.injEq, Prod.mk.injEq] at e4
    rw [← e4.2.2.2, g7] at v1
    cases v1
  · obtain ⟨cell, k, e1, e2, e3, -, -⟩ := E
    cases (show h[q.sd]? = some q.SA from S.hd).symm.trans e1
    obtain ⟨cS, -, -, f, -⟩ := S
    have f' : Z.vm.findClass "[B" = some q.SA.cls := by rw [← hal.findClass]; exact f
    obtain ⟨k1, q1, q2⟩ := Vm.findClass_spec f'
    obtain ⟨k2, q3, q4⟩ := Vm.findClass_spec e2
    cases q1.symm.trans q3
    exact absurd (q2.symm.trans q4) (by decide)
theorem d_jdk_42_method_149_code_0 : decode jdk_42_method_149_code 0 = .ok (.aload_n 0, 1) := by decide +kernel
theorem d_jdk_42_method_149_code_1 : decode jdk_42_method_149_code 1 = .ok (.invokespecial 1, 3) := by decide +kernel
theorem d_jdk_42_method_149_code_4 : decode jdk_42_method_149_code 4 = .ok (.iload_n 3, 1) := by decide +kernel
theorem d_jdk_42_method_149_code_5 : decode jdk_42_method_149_code 5 = .ok (.ifCond .ne 22, 3) := by decide +kernel
theorem d_jdk_42_method_149_code_8 : decode jdk_42_method_149_code 8 = .ok (.aload_n 0, 1) := by decide +kernel
theorem d_jdk_42_method_149_code_9 : decode jdk_42_method_149_code 9 = .ok (.ldc 7, 2) := by decide +kernel
theorem d_jdk_42_method_149_code_11 : decode jdk_42_method_149_code 11 = .ok (.getfield 9, 3) := by decide +kernel
theorem d_jdk_42_method_149_code_14 : decode jdk_42_method_149_code 14 = .ok (.putfield 9, 3) := by decide +kernel
theorem d_jdk_42_method_149_code_17 : decode jdk_42_method_149_code 17 = .ok (.aload_n 0, 1) := by decide +kernel
theorem d_jdk_42_method_149_code_18 : decode jdk_42_method_149_code 18 = .ok (.ldc 7, 2) := by decide +kernel
theorem d_jdk_42_method_149_code_20 : decode jdk_42_method_149_code 20 = .ok (.getfield 15, 3) := by decide +kernel
theorem d_jdk_42_method_149_code_23 : decode jdk_42_method_149_code 23 = .ok (.putfield 15, 3) := by decide +kernel
theorem d_jdk_42_method_149_code_26 : decode jdk_42_method_149_code 26 = .ok (.return_, 1) := by decide +kernel
theorem ef_own_sc0v (m : MethodId) {a1 : Addr} {ca : Addr} : entryFrame m #[(.ref a1), (.ref ca), (.int (0 : Int32)), (.int (0 : Int32)), .null] 6 = mkF m 0 #[.val (.ref a1), .val (.ref ca), .val (.int (0 : Int32)), .val (.int (0 : Int32)), .val .null, .unset] [] := by first | (simp [entryFrame, mkF, argsToLocals, Value.category]; done) | rfl
def Q_own_sc0v (Z : State) (a1 ca : Addr) (h0 : Heap) (n0 : Nat) (v : Option Value) (h : Heap) (L : List Loc) : Prop := ∃ (bb : Addr) (k : ClassId), v = none ∧ Fr n0 L ∧ Keep h0 h [a1] ∧ Fld Z h a1 "java/lang/String" "value" "[B" (.ref bb) ∧ Fld Z h a1 "java/lang/String" "coder" "B" (.int (0 : Int32)) ∧ Arv Z h bb k .byte (0 : Int32) [] (.int (0 : Int32)) ∧ a1 ≠ bb
set_option maxRecDepth 65536 in
set_option maxHeartbeats 40000000 in
theorem own_sc0v (l : Launch) (Z : State) (a0 : Array Value) (hw : ∀ d ∈ tables_1, d.before a0 Z = true) (ws : List Jvm.Cond) (a1 ca : Addr) (h0 : Heap) (n0 : Nat) (Z0 : n0 ≤ h0.size) (O1 : Obj Z h0 a1 "java/lang/String") (g1 : n0 ≤ a1) (FV : Fld Z h0 a1 "java/lang/String" "value" "[B" .null) :
    MetFree l (⟨"java/lang/String", "<init>", "([CIILjava/lang/Void;)V"⟩ : MethodName) (head1 (Jvm.Cond.code (⟨"java/lang/String", "<init>", "([CIILjava/lang/Void;)V"⟩ : MethodName) jdk_42_method_149_code 6 none :: ws) ({ frames := 1, cells := 4, slots := 8, locals := 12 } : Room)) (fun a U => a = #[(.ref a1), (.ref ca), (.int (0 : Int32)), (.int (0 : Int32)), .null] ∧ Z.Warmed39 U.vm ∧ U.heap = h0 ∧ CHv Z own_EL U.vm h0) (fun _ _ _ _ _ => True) (fun _ U o U' => ∃ v L, o = .returned v ∧ Q_own_sc0v Z a1 ca h0 n0 v U'.heap L ∧ CHr Z own_EL U.vm U.heap U'.vm U'.heap ∧ ReturnedEndW U o U' L ({ frames := 1, cells := 4, slots := 8, locals := 12 } : Room).cells ({ frames := 1, cells := 4, slots := 8, locals := 12 } : Room).slots) := by
  refine MetFree.of_bodySF (plainFor_of_name pn_java_lang_String) hisR ?_
  intro p e s m args below meth c s₁ Bd hml0 hP hK
  obtain ⟨rfl, hZ, hh, hC0⟩ := hP
  have hx := Bd.exec
  have hby := Bd.bytes
  have hml : c.maxLocals = 6 := hml0
  have hown : s.vm.findClass "java/lang/String" = some m.cls := findClass_of_methodNamed Bd.named
  have hnm := (name_of_methodNamed Bd.named Bd.method).1
  have X0 : Stand p l e ({ frames := 1, cells := 4, slots := 8, locals := 12 } : Room) (s.setVm s.vm) m #[(.ref a1), (.ref ca), (.int (0 : Int32)), (.int (0 : Int32)), .null] below meth c s₁ [] 0 0 := Stand.of_body Bd
  have e0 : s₁.heap = h0 := by rw [← hh, Bd.state]; rfl
  have N0 := Fr.nil n0
  have pre0 : ∀ t, Steps p.tables e below (s₁.setTop (mkF m 0 #[.val (.ref a1), .val (.ref ca), .val (.int (0 : Int32)), .val (.int (0 : Int32)), .val .null, .unset] [])) t → Steps p.tables e below (s₁.setTop (entryFrame m #[(.ref a1), (.ref ca), (.int (0 : Int32)), (.int (0 : Int32)), .null] 6)) t := fun t k => castTop (ef_own_sc0v m) k
  have hown : (s.setVm s.vm).vm.findClass "java/lang/String" = some m.cls := hown
  have hZ : Z.Warmed39 (s.setVm s.vm).vm := hZ
  have hS0 : s.Since s.vm 0 := (State.WarmedH.refl s).since 0
  have hk0 : 0 ≤ h0.size := Nat.zero_le _
  have CR0 := CHr.refl hC0
  have wS := own_wS hw
  have hEL := own_hEL hw
  have sf_a1 : Safe Z own_EL s.vm h0 a1 := own_safeNull hZ.alike O1.exa FV
  obtain ⟨T1, X1, e1, st1⟩ := initO X0 hx hZ hown (hw _ (List.mem_of_getElem? (i := 15) rfl)) (hw _ (List.mem_of_getElem? (i := 16) rfl)) (hw _ (List.mem_of_getElem? (i := 17) rfl)) e0 (g := (mkF m 1 #[.val (.ref a1), .val (.ref ca), .val (.int (0 : Int32)), .val (.int (0 : Int32)), .val .null, .unset] [(.ref a1)])) rfl (by rw [hml]; rfl) rfl (hb hby d_jdk_42_method_149_code_1) (by decide) (W := 0) (by show 2 * 0 + _ ≤ _; exact Nat.le_of_eq rfl) (by decide)
  have pre2 : ∀ t, Steps p.tables e below (T1.setTop (mkF m 4 #[.val (.ref a1), .val (.ref ca), .val (.int (0 : Int32)), .val (.int (0 : Int32)), .val .null, .unset] [])) t → Steps p.tables e below (s₁.setTop (entryFrame m #[(.ref a1), (.ref ca), (.int (0 : Int32)), (.int (0 : Int32)), .null] 6)) t := by
    intro t kk
    refine pre0 t ?_
    show Steps p.tables e below (s₁.setTop (mkF m 0 #[.val (.ref a1), .val (.ref ca), .val (.int (0 : Int32)), .val (.int (0 : Int32)), .val .null, .unset] [])) _
    refine XS.aloadN X0.here hx rfl (hb hby d_jdk_42_method_149_code_0) rfl rfl ?_
    show Steps p.tables e below (s₁.setTop (mkF m 1 #[.val (.ref a1), .val (.ref ca), .val (.int (0 : Int32)), .val (.int (0 : Int32)), .val .null, .unset] [(.ref a1)])) _
    exact st1 _ kk
  have pre3 : ∀ t, Steps p.tables e below (T1.setTop (mkF m 9 #[.val (.ref a1), .val (.ref ca), .val (.int (0 : Int32)), .val (.int (0 : Int32)), .val .null, .unset] [(.ref a1)])) t → Steps p.tables e below (s₁.setTop (entryFrame m #[(.ref a1), (.ref ca), (.int (0 : Int32)), (.int (0 : Int32)), .null] 6)) t := by
    intro t kk
    refine pre2 t ?_
    show Steps p.tables e below (T1.setTop (mkF m 4 #[.val (.ref a1), .val (.ref ca), .val (.int (0 : Int32)), .val (.int (0 : Int32)), .val .null, .unset] [])) _
    refine XS.iloadN X1.here hx rfl (hb hby d_jdk_42_method_149_code_4) rfl ?_
    show Steps p.tables e below (T1.setTop (mkF m 5 #[.val (.ref a1), .val (.ref ca), .val (.int (0 : Int32)), .val (.int (0 : Int32)), .val .null, .unset] [(.int (0 : Int32))])) _
    refine XS.ifNo X1.here hx rfl (hb hby d_jdk_42_method_149_code_5) rfl ((if0 _ _).trans (teq (rfl : (0 : Int32) = (0 : Int32))).2) ?_
    show Steps p.tables e below (T1.setTop (mkF m 8 #[.val (.ref a1), .val (.ref ca), .val (.int (0 : Int32)), .val (.int (0 : Int32)), .val .null, .unset] [])) _
    refine XS.aloadN X1.here hx rfl (hb hby d_jdk_42_method_149_code_8) rfl rfl ?_
    exact kk
  obtain ⟨a4, T4, h4, k4, bb4, kb4, X4, e4, E4, hS4, hk4, hZ, hown, Ex4, Fc4, Fv4, V4, lta4, ltb4, CQ4, Lt4, sl4, st4⟩ := ldcCH X1 hx hZ hown (hw _ (List.mem_of_getElem? (i := 18) rfl)) wS e1 hS0 hk0 hEL (List.mem_of_getElem? (i := 0) rfl) CR0.1 (vs := []) (z := (0 : Int32)) ⟨by decide, by decide⟩ (by decide) rfl (g := (mkF m 9 #[.val (.ref a1), .val (.ref ca), .val (.int (0 : Int32)), .val (.int (0 : Int32)), .val .null, .unset] [(.ref a1)])) rfl (hb hby d_jdk_42_method_149_code_9) (n := 0) (by decide) (by decide) (by decide) (by decide)
  have sf4_a1 := CQ4.safe O1.lt sf_a1
  have CR4 := CHr.trans CR0 CQ4
  have ne_a1_a4 : a1 ≠ a4 := (sl4 _ sf4_a1).1
  have ne_a1_bb4 : a1 ≠ bb4 := (sl4 _ sf4_a1).2
  have pre5 : ∀ t, Steps p.tables e below (T4.setTop (mkF m 11 #[.val (.ref a1), .val (.ref ca), .val (.int (0 : Int32)), .val (.int (0 : Int32)), .val .null, .unset] [(.ref a4), (.ref a1)])) t → Steps p.tables e below (s₁.setTop (entryFrame m #[(.ref a1), (.ref ca), (.int (0 : Int32)), (.int (0 : Int32)), .null] 6)) t := by
    intro t kk
    refine pre3 t ?_
    show Steps p.tables e below (T1.setTop (mkF m 9 #[.val (.ref a1), .val (.ref ca), .val (.int (0 : Int32)), .val (.int (0 : Int32)), .val .null, .unset] [(.ref a1)])) _
    exact st4 _ kk
  obtain ⟨T6, X6, e6, st6⟩ := getF X4 hx hZ hown (host := "") (Or.inl (hw _ (List.mem_of_getElem? (i := 24) rfl))) Via.refl e4 Fv4 (g := (mkF m 11 #[.val (.ref a1), .val (.ref ca), .val (.int (0 : Int32)), .val (.int (0 : Int32)), .val .null, .unset] [(.ref a4), (.ref a1)])) rfl rfl (hb hby d_jdk_42_method_149_code_11)
  have pre7 : ∀ t, Steps p.tables e below (T6.setTop (mkF m 14 #[.val (.ref a1), .val (.ref ca), .val (.int (0 : Int32)), .val (.int (0 : Int32)), .val .null, .unset] [(.ref bb4), (.ref a1)])) t → Steps p.tables e below (s₁.setTop (entryFrame m #[(.ref a1), (.ref ca), (.int (0 : Int32)), (.int (0 : Int32)), .null] 6)) t := by
    intro t kk
    refine pre5 t ?_
    show Steps p.tables e below (T4.setTop (mkF m 11 #[.val (.ref a1), .val (.ref ca), .val (.int (0 : Int32)), .val (.int (0 : Int32)), .val .null, .unset] [(.ref a4), (.ref a1)])) _
    exact st6 _ kk
  have fc8 := (O1.ext E4)
  have fc10 := (FV.ext E4)
  obtain ⟨T9, h9, X9, e9, W9, st9⟩ := putF X6 hx hZ hown (host := "") (Or.inl (hw _ (List.mem_of_getElem? (i := 24) rfl))) Via.refl e6 fc10 fc8.exa (Or.inr ⟨(hw _ (List.mem_of_getElem? (i := 20) rfl)), rfl, hnm⟩) (hw _ (List.mem_of_getElem? (i := 5) rfl)) (ty := (.array .byte)) (by decide) rfl rfl (g := (mkF m 14 #[.val (.ref a1), .val (.ref ca), .val (.int (0 : Int32)), .val (.int (0 : Int32)), .val .null, .unset] [(.ref bb4), (.ref a1)])) rfl rfl (hb hby d_jdk_42_method_149_code_14)
  have SA11 := sf4_a1
  have CR11 := CHr.trans CR4 (CHr.wr W9 SA11 CR4.1)
  have sf11_a1 := (Safe.wr W9 SA11 CR4.1 sf4_a1)
  have N9 := Fr.snoc X9 N0 g1
  have Fw9 := fc10.same W9
  have pre12 : ∀ t, Steps p.tables e below (T9.setTop (mkF m 17 #[.val (.ref a1), .val (.ref ca), .val (.int (0 : Int32)), .val (.int (0 : Int32)), .val .null, .unset] [])) t → Steps p.tables e below (s₁.setTop (entryFrame m #[(.ref a1), (.ref ca), (.int (0 : Int32)), (.int (0 : Int32)), .null] 6)) t := by
    intro t kk
    refine pre7 t ?_
    show Steps p.tables e below (T6.setTop (mkF m 14 #[.val (.ref a1), .val (.ref ca), .val (.int (0 : Int32)), .val (.int (0 : Int32)), .val .null, .unset] [(.ref bb4), (.ref a1)])) _
    exact st9 _ kk
  have pre13 : ∀ t, Steps p.tables e below (T9.setTop (mkF m 18 #[.val (.ref a1), .val (.ref ca), .val (.int (0 : Int32)), .val (.int (0 : Int32)), .val .null, .unset] [(.ref a1)])) t → Steps p.tables e below (s₁.setTop (entryFrame m #[(.ref a1), (.ref ca), (.int (0 : Int32)), (.int (0 : Int32)), .null] 6)) t := by
    intro t kk
    refine pre12 t ?_
    show Steps p.tables e below (T9.setTop (mkF m 17 #[.val (.ref a1), .val (.ref ca), .val (.int (0 : Int32)), .val (.int (0 : Int32)), .val .null, .unset] [])) _
    refine XS.aloadN X9.here hx rfl (hb hby d_jdk_42_method_149_code_17) rfl rfl ?_
    exact kk
  have fc15 := (Nat.le_trans hk4 (Keep.of_wr W9).1)
  obtain ⟨a14, T14, h14, k14, bb14, kb14, X14, e14, E14, hS14, hk14, hZ, hown, Ex14, Fc14, Fv14, V14, lta14, ltb14, CQ14, Lt14, sl14, st14⟩ := ldcCH X9 hx hZ hown (hw _ (List.mem_of_getElem? (i := 18) rfl)) wS e9 hS4 fc15 hEL (List.mem_of_getElem? (i := 0) rfl) CR11.1 (vs := []) (z := (0 : Int32)) ⟨by decide, by decide⟩ (by decide) rfl (g := (mkF m 18 #[.val (.ref a1), .val (.ref ca), .val (.int (0 : Int32)), .val (.int (0 : Int32)), .val .null, .unset] [(.ref a1)])) rfl (hb hby d_jdk_42_method_149_code_18) (n := 0) (by decide) (by decide) (by decide) (by decide)
  have fc16 := (fc8.wr W9)
  have sf14_a1 := CQ14.safe fc16.lt sf11_a1
  have CR14 := CHr.trans CR11 CQ14
  have ne_a1_a14 : a1 ≠ a14 := (sl14 _ sf14_a1).1
  have ne_a1_bb14 : a1 ≠ bb14 := (sl14 _ sf14_a1).2
  have pre17 : ∀ t, Steps p.tables e below (T14.setTop (mkF m 20 #[.val (.ref a1), .val (.ref ca), .val (.int (0 : Int32)), .val (.int (0 : Int32)), .val .null, .unset] [(.ref a14), (.ref a1)])) t → Steps p.tables e below (s₁.setTop (entryFrame m #[(.ref a1), (.ref ca), (.int (0 : Int32)), (.int (0 : Int32)), .null] 6)) t := by
    intro t kk
    refine pre13 t ?_
    show Steps p.tables e below (T9.setTop (mkF m 18 #[.val (.ref a1), .val (.ref ca), .val (.int (0 : Int32)), .val (.int (0 : Int32)), .val .null, .unset] [(.ref a1)])) _
    exact st14 _ kk
  obtain ⟨T18, X18, e18, st18⟩ := getF X14 hx hZ hown (host := "") (Or.inl (hw _ (List.mem_of_getElem? (i := 25) rfl))) Via.refl e14 Fc14 (g := (mkF m 20 #[.val (.ref a1), .val (.ref ca), .val (.int (0 : Int32)), .val (.int (0 : Int32)), .val .null, .unset] [(.ref a14), (.ref a1)])) rfl rfl (hb hby d_jdk_42_method_149_code_20)
  have pre19 : ∀ t, Steps p.tables e below (T18.setTop (mkF m 23 #[.val (.ref a1), .val (.ref ca), .val (.int (0 : Int32)), .val (.int (0 : Int32)), .val .null, .unset] [(.int (0 : Int32)), (.ref a1)])) t → Steps p.tables e below (s₁.setTop (entryFrame m #[(.ref a1), (.ref ca), (.int (0 : Int32)), (.int (0 : Int32)), .null] 6)) t := by
    intro t kk
    refine pre17 t ?_
    show Steps p.tables e below (T14.setTop (mkF m 20 #[.val (.ref a1), .val (.ref ca), .val (.int (0 : Int32)), .val (.int (0 : Int32)), .val .null, .unset] [(.ref a14), (.ref a1)])) _
    exact st18 _ kk
  have fc20 := (fc16.ext E14)
  obtain ⟨u21, U21⟩ := Obj.fld fc20 (Or.inr (hw _ (List.mem_of_getElem? (i := 21) rfl))) (hw _ (List.mem_of_getElem? (i := 5) rfl))
  obtain ⟨T21, h21, X21, e21, W21, st21⟩ := putF X18 hx hZ hown (host := "") (Or.inl (hw _ (List.mem_of_getElem? (i := 25) rfl))) Via.refl e18 U21 fc20.exa (Or.inr ⟨(hw _ (List.mem_of_getElem? (i := 21) rfl)), rfl, hnm⟩) (hw _ (List.mem_of_getElem? (i := 5) rfl)) (ty := .byte) (by decide) rfl rfl (g := (mkF m 23 #[.val (.ref a1), .val (.ref ca), .val (.int (0 : Int32)), .val (.int (0 : Int32)), .val .null, .unset] [(.int (0 : Int32)), (.ref a1)])) rfl rfl (hb hby d_jdk_42_method_149_code_23)
  have SA22 := sf14_a1
  have CR22 := CHr.trans CR14 (CHr.wr W21 SA22 CR14.1)
  have sf22_a1 := (Safe.wr W21 SA22 CR14.1 sf14_a1)
  have N21 := Fr.snoc X21 N9 g1
  have Fw21 := U21.same W21
  have pre23 : ∀ t, Steps p.tables e below (T21.setTop (mkF m 26 #[.val (.ref a1), .val (.ref ca), .val (.int (0 : Int32)), .val (.int (0 : Int32)), .val .null, .unset] [])) t → Steps p.tables e below (s₁.setTop (entryFrame m #[(.ref a1), (.ref ca), (.int (0 : Int32)), (.int (0 : Int32)), .null] 6)) t := by
    intro t kk
    refine pre19 t ?_
    show Steps p.tables e below (T18.setTop (mkF m 23 #[.val (.ref a1), .val (.ref ca), .val (.int (0 : Int32)), .val (.int (0 : Int32)), .val .null, .unset] [(.int (0 : Int32)), (.ref a1)])) _
    exact st21 _ kk
  have fc24 := (((((Keep.refl h0 [a1]).ext E4).wr W9 (Or.inl (List.mem_of_getElem? (i := 0) rfl))).ext E14).wr W21 (Or.inl (List.mem_of_getElem? (i := 0) rfl)))
  have fc25 := ((Fw9.ext E14).other W21 (Or.inr (slot_ne (Or.inr (hw _ (List.mem_of_getElem? (i := 20) rfl))) (Or.inr (hw _ (List.mem_of_getElem? (i := 21) rfl))) (by decide) (t := (.array .byte)) (t' := .byte) (by decide) (by decide))))
  have fc26 := (((V4.other W9 (Ne.symm ne_a1_bb4)).ext E14).other W21 (Ne.symm ne_a1_bb4))
  have fc27 := (Nat.le_trans hk14 (Keep.of_wr W21).1)
  obtain ⟨fs, hr, hrun, hended, hRW⟩ := X21.leaveW hS14 (by rw [e21]; exact fc27) (v := none) (fun _ => rfl)
  have CRe := CHr.trans CR22 (CHv.at X21 hZ hEL CR22.1)
  refine ⟨_, _, pre23 _ ?_, hrun, hended, _, _, rfl, ?_, ?_, hRW.1, hRW.2.1, hRW.2.2.1, hRW.2.2.2.mono (by decide) (by decide)⟩
  · show Steps p.tables e below (T21.setTop (mkF m 26 #[.val (.ref a1), .val (.ref ca), .val (.int (0 : Int32)), .val (.int (0 : Int32)), .val .null, .unset] [])) _
    exact X21.returnOut hx Bd.returns (hb hby d_jdk_42_method_149_code_26) hr
  · show Q_own_sc0v Z a1 ca h0 n0 _ T21.heap _
    rw [e21]
    exact ⟨bb4, kb4, rfl, N21, fc24, fc25, Fw21, fc26, ne_a1_bb4⟩
  · show CHr Z own_EL s.vm s.heap T21.vm T21.heap
    rw [hh]
    rw [e21]
    exact CRe
theorem d_jdk_42_method_3_code_0 : decode jdk_42_method_3_code 0 = .ok (.aload_n 0, 1) := by decide +kernel
theorem d_jdk_42_method_3_code_1 : decode jdk_42_method_3_code 1 = .ok (.aload_n 1, 1) := by decide +kernel
theorem d_jdk_42_method_3_code_2 : decode jdk_42_method_3_code 2 = .ok (.iconst 0, 1) := by decide +kernel
theorem d_jdk_42_method_3_code_3 : decode jdk_42_method_3_code 3 = .ok (.aload_n 1, 1) := by decide +kernel
theorem d_jdk_42_method_3_code_4 : decode jdk_42_method_3_code 4 = .ok (.arraylength, 1) := by decide +kernel
theorem d_jdk_42_method_3_code_5 : decode jdk_42_method_3_code 5 = .ok (.aconst_null, 1) := by decide +kernel
theorem pd___CIILjava_lang_Void__V : parseMethodDescriptor "([CIILjava/lang/Void;)V" = some ⟨[(.array .char), .int, .int, (.object "java/lang/Void")], none⟩ := by decide +kernel
theorem d_jdk_42_method_3_code_6 : decode jdk_42_method_3_code 6 = .ok (.invokespecial 27, 3) := by decide +kernel
theorem d_jdk_42_method_3_code_9 : decode jdk_42_method_3_code 9 = .ok (.return_, 1) := by decide +kernel
theorem ef_own_sc0 (m : MethodId) {a1 : Addr} {ca : Addr} : entryFrame m #[(.ref a1), (.ref ca)] 2 = mkF m 0 #[.val (.ref a1), .val (.ref ca)] [] := by first | (simp [entryFrame, mkF, argsToLocals, Value.category]; done) | rfl
def Q_own_sc0 (Z : State) (a1 ca : Addr) (kC : ClassId) (h0 : Heap) (n0 : Nat) (v : Option Value) (h : Heap) (L : List Loc) : Prop := ∃ (bb : Addr) (k : ClassId), v = none ∧ Fr n0 L ∧ Keep h0 h [a1] ∧ Fld Z h a1 "java/lang/String" "value" "[B" (.ref bb) ∧ Fld Z h a1 "java/lang/String" "coder" "B" (.int (0 : Int32)) ∧ Arv Z h bb k .byte (0 : Int32) [] (.int (0 : Int32)) ∧ a1 ≠ bb
set_option maxRecDepth 65536 in
set_option maxHeartbeats 40000000 in
theorem own_sc0 (l : Launch) (Z : State) (a0 : Array Value) (hw : ∀ d ∈ tables_1, d.before a0 Z = true) (ws : List Jvm.Cond) (a1 ca : Addr) (kC : ClassId) (h0 : Heap) (n0 : Nat) (Z0 : n0 ≤ h0.size) (O1 : Obj Z h0 a1 "java/lang/String") (g1 : n0 ≤ a1) (FV : Fld Z h0 a1 "java/lang/String" "value" "[B" .null) (KC : Arv Z h0 ca kC .char (0 : Int32) [] (.int (0 : Int32))) :
    MetFree l (⟨"java/lang/String", "<init>", "([C)V"⟩ : MethodName) (head1 (Jvm.Cond.code (⟨"java/lang/String", "<init>", "([C)V"⟩ : MethodName) jdk_42_method_3_code 2 none :: ws) ({ frames := 2, cells := 4, slots := 8, locals := 29 } : Room)) (fun a U => a = #[(.ref a1), (.ref ca)] ∧ Z.Warmed39 U.vm ∧ U.heap = h0 ∧ CHv Z own_EL U.vm h0) (fun _ _ _ _ _ => True) (fun _ U o U' => ∃ v L, o = .returned v ∧ Q_own_sc0 Z a1 ca kC h0 n0 v U'.heap L ∧ CHr Z own_EL U.vm U.heap U'.vm U'.heap ∧ ReturnedEndW U o U' L ({ frames := 2, cells := 4, slots := 8, locals := 29 } : Room).cells ({ frames := 2, cells := 4, slots := 8, locals := 29 } : Room).slots) := by
  refine MetFree.of_bodySF (plainFor_of_name pn_java_lang_String) hisR ?_
  intro p e s m args below meth c s₁ Bd hml0 hP hK
  obtain ⟨rfl, hZ, hh, hC0⟩ := hP
  have hx := Bd.exec
  have hby := Bd.bytes
  have hml : c.maxLocals = 2 := hml0
  have hown : s.vm.findClass "java/lang/String" = some m.cls := findClass_of_methodNamed Bd.named
  have hnm := (name_of_methodNamed Bd.named Bd.method).1
  have X0 : Stand p l e ({ frames := 2, cells := 4, slots := 8, locals := 29 } : Room) (s.setVm s.vm) m #[(.ref a1), (.ref ca)] below meth c s₁ [] 0 0 := Stand.of_body Bd
  have e0 : s₁.heap = h0 := by rw [← hh, Bd.state]; rfl
  have N0 := Fr.nil n0
  have pre0 : ∀ t, Steps p.tables e below (s₁.setTop (mkF m 0 #[.val (.ref a1), .val (.ref ca)] [])) t → Steps p.tables e below (s₁.setTop (entryFrame m #[(.ref a1), (.ref ca)] 2)) t := fun t k => castTop (ef_own_sc0 m) k
  have hown : (s.setVm s.vm).vm.findClass "java/lang/String" = some m.cls := hown
  have hZ : Z.Warmed39 (s.setVm s.vm).vm := hZ
  have hS0 : s.Since s.vm 0 := (State.WarmedH.refl s).since 0
  have hk0 : 0 ≤ h0.size := Nat.zero_le _
  have CR0 := CHr.refl hC0
  have wS := own_wS hw
  have hEL := own_hEL hw
  obtain ⟨cl1, Ar1, q1, S1, M1, H1, G1⟩ := id KC
  have pre2 : ∀ t, Steps p.tables e below (s₁.setTop (mkF m 6 #[.val (.ref a1), .val (.ref ca)] [.null, (.int (0 : Int32)), (.int (0 : Int32)), (.ref ca), (.ref a1)])) t → Steps p.tables e below (s₁.setTop (entryFrame m #[(.ref a1), (.ref ca)] 2)) t := by
    intro t kk
    refine pre0 t ?_
    show Steps p.tables e below (s₁.setTop (mkF m 0 #[.val (.ref a1), .val (.ref ca)] [])) _
    refine XS.aloadN X0.here hx rfl (hb hby d_jdk_42_method_3_code_0) rfl rfl ?_
    show Steps p.tables e below (s₁.setTop (mkF m 1 #[.val (.ref a1), .val (.ref ca)] [(.ref a1)])) _
    refine XS.aloadN X0.here hx rfl (hb hby d_jdk_42_method_3_code_1) rfl rfl ?_
    show Steps p.tables e below (s₁.setTop (mkF m 2 #[.val (.ref a1), .val (.ref ca)] [(.ref ca), (.ref a1)])) _
    refine XS.iconst X0.here hx rfl (hb hby d_jdk_42_method_3_code_2) ?_
    show Steps p.tables e below (s₁.setTop (mkF m 3 #[.val (.ref a1), .val (.ref ca)] [(.int (0 : Int32)), (.ref ca), (.ref a1)])) _
    refine XS.aloadN X0.here hx rfl (hb hby d_jdk_42_method_3_code_3) rfl rfl ?_
    show Steps p.tables e below (s₁.setTop (mkF m 4 #[.val (.ref a1), .val (.ref ca)] [(.ref ca), (.int (0 : Int32)), (.ref ca), (.ref a1)])) _
    refine X0.arraylength hx (by rw [e0]; exact Ar1.1) (State.isArrayOf_alike hZ.alike Ar1.2.1) (g := (mkF m 4 #[.val (.ref a1), .val (.ref ca)] [(.ref ca), (.int (0 : Int32)), (.ref ca), (.ref a1)])) rfl rfl (hb hby d_jdk_42_method_3_code_4) _ ?_
    rw [len_of S1 M1]
    show Steps p.tables e below (s₁.setTop (mkF m 5 #[.val (.ref a1), .val (.ref ca)] [(.int (0 : Int32)), (.int (0 : Int32)), (.ref ca), (.ref a1)])) _
    refine XS.aconstNull X0.here hx rfl (hb hby d_jdk_42_method_3_code_5) ?_
    exact kk
  obtain ⟨_, _, ⟨T3, L3, k3, n3⟩, -, X3w, hS3w, gr3, ⟨Lc3, hQ3, l3, y3, z3, CQ3⟩, st3⟩ := X0.specialBackS hx (y := (⟨"java/lang/String", "<init>", "([CIILjava/lang/Void;)V"⟩ : MethodName)) rfl hown (mvT hZ (hw _ (List.mem_of_getElem? (i := 11) rfl))) (mvT hZ (hw _ (List.mem_of_getElem? (i := 12) rfl))) (mvT hZ (hw _ (List.mem_of_getElem? (i := 14) rfl))) (by decide) (backOfSH (W := 0) (own_sc0v l Z a0 hw [] a1 ca h0 n0 Z0 O1 g1 FV) hZ (hw _ (List.mem_of_getElem? (i := 14) rfl)) (hw _ (List.mem_of_getElem? (i := 6) rfl)) (by decide) (by decide) hEL CR0.1) (g := (mkF m 6 #[.val (.ref a1), .val (.ref ca)] [.null, (.int (0 : Int32)), (.int (0 : Int32)), (.ref ca), (.ref a1)])) rfl (by rw [hml]; rfl) (Steps.refl _) (a := a1) (argsL := [(.ref ca), (.int (0 : Int32)), (.int (0 : Int32)), .null]) (rest := []) (lenOf pd___CIILjava_lang_Void__V rfl) rfl (by show 2 * 0 + _ ≤ _; exact Nat.le_of_eq rfl) (hb hby d_jdk_42_method_3_code_6) (fun _ _ => ⟨rfl, e0, (by decide : 0 + 4 ≤ _), (by decide : 0 + 8 ≤ _)⟩)
  dsimp only [Pt.U, Pt.locs, Pt.cells, Pt.slots] at X3w hS3w gr3 l3 y3 z3 st3 hQ3 CQ3
  subst l3 y3 z3
  obtain ⟨bb3, kb3, rfl, N3q, K3, q3a, q3b, q3c, q3d⟩ := hQ3
  have N3 := Fr.app N0 N3q
  obtain ⟨X3, hS3, hZ, hown⟩ := rebS hS0 (by rw [e0]; exact hk0) X3w hS3w gr3 hZ hown
  have hk3 : T3.heap.size ≤ T3.heap.size := Nat.le_refl _
  have CR3 := CHr.trans CR0 CQ3
  have pre4 : ∀ t, Steps p.tables e below (T3.setTop (mkF m 9 #[.val (.ref a1), .val (.ref ca)] [])) t → Steps p.tables e below (s₁.setTop (entryFrame m #[(.ref a1), (.ref ca)] 2)) t := by
    intro t kk
    refine pre2 t ?_
    show Steps p.tables e below (s₁.setTop (mkF m 6 #[.val (.ref a1), .val (.ref ca)] [.null, (.int (0 : Int32)), (.int (0 : Int32)), (.ref ca), (.ref a1)])) _
    exact st3.trans kk
  have fc5 := ((Keep.refl h0 [a1]).trans K3 (allS (Or.inl (List.mem_of_getElem? (i := 0) rfl)) all0))
  obtain ⟨fs, hr, hrun, hended, hRW⟩ := X3.leaveW hS3 hk3 (v := none) (fun _ => rfl)
  have CRe := CHr.trans CR3 (CHv.at X3 hZ hEL CR3.1)
  refine ⟨_, _, pre4 _ ?_, hrun, hended, _, _, rfl, ?_, ?_, hRW.1, hRW.2.1, hRW.2.2.1, hRW.2.2.2.mono (by decide) (by decide)⟩
  · show Steps p.tables e below (T3.setTop (mkF m 9 #[.val (.ref a1), .val (.ref ca)] [])) _
    exact X3.returnOut hx Bd.returns (hb hby d_jdk_42_method_3_code_9) hr
  · show Q_own_sc0 Z a1 ca kC h0 n0 _ T3.heap _
    exact ⟨bb3, kb3, rfl, N3, fc5, q3a, q3b, q3c, q3d⟩
  · show CHr Z own_EL s.vm s.heap T3.vm T3.heap
    rw [hh]
    exact CRe
theorem own_c8 (x : Int32) : ¬ (x &&& (255 : Int32)).toUInt32.toUInt16.toUInt32.toInt32 < 0 ∧ ¬ (255 : Int32) < (x &&& (255 : Int32)).toUInt32.toUInt16.toUInt32.toInt32 := by
  have h1 := c_and x 255 (by decide)
  have h2 := c_i2c (x &&& 255)
  have h3 : (255 : Int32).toInt = 255 := by decide
  have h4 : (0 : Int32).toInt = 0 := by decide
  rw [Int32.lt_iff_toInt_lt, Int32.lt_iff_toInt_lt]
  omega
theorem own_n8 (x : Int32) : ¬ nar .char ((x &&& (255 : Int32)).toUInt32.toUInt16.toUInt32.toInt32) < 0 ∧ ¬ (255 : Int32) < nar .char ((x &&& (255 : Int32)).toUInt32.toUInt16.toUInt32.toInt32) := by
  have e : nar .char ((x &&& (255 : Int32)).toUInt32.toUInt16.toUInt32.toInt32) = (x &&& (255 : Int32)).toUInt32.toUInt16.toUInt32.toInt32 := by simp only [nar, UInt32.toUInt32_toInt32, UInt16.toUInt16_toUInt32]
  rw [e]; exact own_c8 x
def own_Lt (cs : List Int32) : Prop := ∀ c ∈ cs, ¬ c < 0 ∧ ¬ (255 : Int32) < c
theorem own_p0 : own_Lt [] := fun c hc => by cases hc
theorem own_pc {a : Int32} {cs : List Int32} (ha : ¬ a < 0 ∧ ¬ (255 : Int32) < a) (h : own_Lt cs) : own_Lt (a :: cs) := by
  intro c hc
  rcases List.mem_cons.mp hc with rfl | hc
  · exact ha
  · exact h c hc
theorem own_papp {a b : List Int32} (ha : own_Lt a) (hb : own_Lt b) : own_Lt (a ++ b) := by
  intro c hc
  rcases List.mem_append.mp hc with h | h
  · exact ha c h
  · exact hb c h
theorem own_up {cs : List Int32} (h : own_Lt cs) : ∀ c ∈ cs, ¬ c < 0 ∧ ¬ (65535 : Int32) < c := fun c hc => ⟨(h c hc).1, fun q => (h c hc).2 (by rw [Int32.lt_iff_toInt_lt] at q ⊢; have e1 : (65535 : Int32).toInt = 65535 := rfl; have e2 : (255 : Int32).toInt = 255 := rfl; omega)⟩
theorem pn_com_example_hulse_hulse_failure_ExplanationOfPinLaw : plainName "com/example/hulse/hulse/failure/ExplanationOfPinLaw" = true := by first | (simp [plainName, overriddenIn]; done) | decide +kernel
theorem d_method_3_code_0 : decode method_3_code 0 = .ok (.iload_n 0, 1) := by decide +kernel
theorem d_method_3_code_1 : decode method_3_code 1 = .ok (.bipush 16, 2) := by decide +kernel
theorem d_method_3_code_3 : decode method_3_code 3 = .ok (.iushr, 1) := by decide +kernel
theorem d_method_3_code_4 : decode method_3_code 4 = .ok (.iconst 3, 1) := by decide +kernel
theorem d_method_3_code_5 : decode method_3_code 5 = .ok (.irem, 1) := by decide +kernel
theorem d_method_3_code_6 : decode method_3_code 6 = .ok (.istore_n 1, 1) := by decide +kernel
theorem d_method_3_code_7 : decode method_3_code 7 = .ok (.iload_n 0, 1) := by decide +kernel
theorem d_method_3_code_8 : decode method_3_code 8 = .ok (.sipush 255, 3) := by decide +kernel
theorem d_method_3_code_11 : decode method_3_code 11 = .ok (.iand, 1) := by decide +kernel
theorem d_method_3_code_12 : decode method_3_code 12 = .ok (.i2c, 1) := by decide +kernel
theorem d_method_3_code_13 : decode method_3_code 13 = .ok (.istore_n 2, 1) := by decide +kernel
theorem d_method_3_code_14 : decode method_3_code 14 = .ok (.iload_n 0, 1) := by decide +kernel
theorem d_method_3_code_15 : decode method_3_code 15 = .ok (.bipush 8, 2) := by decide +kernel
theorem d_method_3_code_17 : decode method_3_code 17 = .ok (.iushr, 1) := by decide +kernel
theorem d_method_3_code_18 : decode method_3_code 18 = .ok (.sipush 255, 3) := by decide +kernel
theorem d_method_3_code_21 : decode method_3_code 21 = .ok (.iand, 1) := by decide +kernel
theorem d_method_3_code_22 : decode method_3_code 22 = .ok (.i2c, 1) := by decide +kernel
theorem d_method_3_code_23 : decode method_3_code 23 = .ok (.istore_n 3, 1) := by decide +kernel
theorem d_method_3_code_24 : decode method_3_code 24 = .ok (.iload_n 1, 1) := by decide +kernel
theorem d_method_3_code_25 : decode method_3_code 25 = .ok (.ifCond .ne 14, 3) := by decide +kernel
theorem d_method_3_code_28 : decode method_3_code 28 = .ok (.new 24, 3) := by decide +kernel
theorem d_method_3_code_31 : decode method_3_code 31 = .ok (.dup, 1) := by decide +kernel
theorem d_method_3_code_32 : decode method_3_code 32 = .ok (.iconst 0, 1) := by decide +kernel
theorem d_method_3_code_33 : decode method_3_code 33 = .ok (.newarray .char, 2) := by decide +kernel
theorem pd___C_V : parseMethodDescriptor "([C)V" = some ⟨[(.array .char)], none⟩ := by decide +kernel
theorem d_method_3_code_35 : decode method_3_code 35 = .ok (.invokespecial 43, 3) := by decide +kernel
theorem d_method_3_code_38 : decode method_3_code 38 = .ok (.areturn, 1) := by decide +kernel
theorem d_method_3_code_39 : decode method_3_code 39 = .ok (.iload_n 1, 1) := by decide +kernel
theorem d_method_3_code_40 : decode method_3_code 40 = .ok (.iconst 1, 1) := by decide +kernel
theorem d_method_3_code_41 : decode method_3_code 41 = .ok (.if_icmp .ne 18, 3) := by decide +kernel
theorem d_method_3_code_44 : decode method_3_code 44 = .ok (.new 24, 3) := by decide +kernel
theorem d_method_3_code_47 : decode method_3_code 47 = .ok (.dup, 1) := by decide +kernel
theorem d_method_3_code_48 : decode method_3_code 48 = .ok (.iconst 1, 1) := by decide +kernel
theorem d_method_3_code_49 : decode method_3_code 49 = .ok (.newarray .char, 2) := by decide +kernel
theorem d_method_3_code_51 : decode method_3_code 51 = .ok (.dup, 1) := by decide +kernel
theorem d_method_3_code_52 : decode method_3_code 52 = .ok (.iconst 0, 1) := by decide +kernel
theorem d_method_3_code_53 : decode method_3_code 53 = .ok (.iload_n 2, 1) := by decide +kernel
theorem d_method_3_code_54 : decode method_3_code 54 = .ok (.castore, 1) := by decide +kernel
theorem d_method_3_code_55 : decode method_3_code 55 = .ok (.invokespecial 43, 3) := by decide +kernel
theorem d_method_3_code_58 : decode method_3_code 58 = .ok (.areturn, 1) := by decide +kernel
theorem d_method_3_code_59 : decode method_3_code 59 = .ok (.new 24, 3) := by decide +kernel
theorem d_method_3_code_62 : decode method_3_code 62 = .ok (.dup, 1) := by decide +kernel
theorem d_method_3_code_63 : decode method_3_code 63 = .ok (.iconst 2, 1) := by decide +kernel
theorem d_method_3_code_64 : decode method_3_code 64 = .ok (.newarray .char, 2) := by decide +kernel
theorem d_method_3_code_66 : decode method_3_code 66 = .ok (.dup, 1) := by decide +kernel
theorem d_method_3_code_67 : decode method_3_code 67 = .ok (.iconst 0, 1) := by decide +kernel
theorem d_method_3_code_68 : decode method_3_code 68 = .ok (.iload_n 2, 1) := by decide +kernel
theorem d_method_3_code_69 : decode method_3_code 69 = .ok (.castore, 1) := by decide +kernel
theorem d_method_3_code_70 : decode method_3_code 70 = .ok (.dup, 1) := by decide +kernel
theorem d_method_3_code_71 : decode method_3_code 71 = .ok (.iconst 1, 1) := by decide +kernel
theorem d_method_3_code_72 : decode method_3_code 72 = .ok (.iload_n 3, 1) := by decide +kernel
theorem d_method_3_code_73 : decode method_3_code 73 = .ok (.castore, 1) := by decide +kernel
theorem d_method_3_code_74 : decode method_3_code 74 = .ok (.invokespecial 43, 3) := by decide +kernel
theorem d_method_3_code_77 : decode method_3_code 77 = .ok (.areturn, 1) := by decide +kernel
theorem ef_own_mk (m : MethodId) {p1 : Int32} : entryFrame m #[(.int p1)] 4 = mkF m 0 #[.val (.int p1), .unset, .unset, .unset] [] := by first | (simp [entryFrame, mkF, argsToLocals, Value.category]; done) | rfl
def Q_own_mk (Z : State) (p1 G1 : Int32) (h0 : Heap) (n0 : Nat) (v : Option Value) (h : Heap) (L : List Loc) : Prop := ∃ (r b : Addr) (k : ClassId) (cs : List Int32), v = some (.ref r) ∧ Fr n0 L ∧ Keep h0 h [] ∧ Exa Z h r "java/lang/String" ∧ Fld Z h r "java/lang/String" "value" "[B" (.ref b) ∧ Fld Z h r "java/lang/String" "coder" "B" (.int (0 : Int32)) ∧ Arv Z h b k .byte (Int32.ofNat cs.length) (own_B cs) (.int (0 : Int32)) ∧ cs.length ≤ 2 ∧ own_Lt cs
set_option maxRecDepth 65536 in
set_option maxHeartbeats 40000000 in
theorem own_mk (l : Launch) (Z : State) (a0 : Array Value) (hw : ∀ d ∈ tables_1, d.before a0 Z = true) (ws : List Jvm.Cond) (p1 G1 : Int32) (h0 : Heap) (n0 : Nat) (Z0 : n0 ≤ h0.size) (O2 : Sta Z Z.heap "java/lang/String" "COMPACT_STRINGS" "Z" (.int G1)) (P5 : ¬ G1 = (0 : Int32)) (XO : Old Z n0 h0) :
    MetFree l (⟨"com/example/hulse/hulse/failure/ExplanationOfPinLaw", "mk", "(I)Ljava/lang/String;"⟩ : MethodName) (head1 (Jvm.Cond.code (⟨"com/example/hulse/hulse/failure/ExplanationOfPinLaw", "mk", "(I)Ljava/lang/String;"⟩ : MethodName) method_3_code 4 (some (.object "java/lang/String")) :: ws) ({ frames := 4, cells := 6, slots := 12, locals := 66 } : Room)) (fun a U => a = #[(.int p1)] ∧ Z.Warmed39 U.vm ∧ U.heap = h0 ∧ CHv Z own_EL U.vm h0) (fun _ _ _ _ _ => True) (fun _ U o U' => ∃ v L, o = .returned v ∧ Q_own_mk Z p1 G1 h0 n0 v U'.heap L ∧ CHr Z own_EL U.vm U.heap U'.vm U'.heap ∧ ReturnedEndW U o U' L ({ frames := 4, cells := 6, slots := 12, locals := 66 } : Room).cells ({ frames := 4, cells := 6, slots := 12, locals := 66 } : Room).slots) := by
  refine MetFree.of_bodySF (plainFor_of_name pn_com_example_hulse_hulse_failure_ExplanationOfPinLaw) hisR ?_
  intro p e s m args below meth c s₁ Bd hml0 hP hK
  obtain ⟨rfl, hZ, hh, hC0⟩ := hP
  have hx := Bd.exec
  have hby := Bd.bytes
  have hml : c.maxLocals = 4 := hml0
  have hown : s.vm.findClass "com/example/hulse/hulse/failure/ExplanationOfPinLaw" = some m.cls := findClass_of_methodNamed Bd.named
  have hnm := (name_of_methodNamed Bd.named Bd.method).1
  have X0 : Stand p l e ({ frames := 4, cells := 6, slots := 12, locals := 66 } : Room) (s.setVm s.vm) m #[(.int p1)] below meth c s₁ [] 0 0 := Stand.of_body Bd
  have e0 : s₁.heap = h0 := by rw [← hh, Bd.state]; rfl
  have N0 := Fr.nil n0
  have pre0 : ∀ t, Steps p.tables e below (s₁.setTop (mkF m 0 #[.val (.int p1), .unset, .unset, .unset] [])) t → Steps p.tables e below (s₁.setTop (entryFrame m #[(.int p1)] 4)) t := fun t k => castTop (ef_own_mk m) k
  have hown : (s.setVm s.vm).vm.findClass "com/example/hulse/hulse/failure/ExplanationOfPinLaw" = some m.cls := hown
  have hZ : Z.Warmed39 (s.setVm s.vm).vm := hZ
  have hS0 : s.Since s.vm 0 := (State.WarmedH.refl s).since 0
  have hk0 : 0 ≤ h0.size := Nat.zero_le _
  have CR0 := CHr.refl hC0
  have wS := own_wS hw
  have hEL := own_hEL hw
  have hws : ∀ d ∈ StrChars.Road.words, d.before a0 Z = true := fun d hd => hw d ((by decide +kernel : ∀ d ∈ StrChars.Road.words, d ∈ tables_1) d hd)
  by_cases hl0 : (((p1.toUInt32 >>> ((16 : Int32) &&& 31).toUInt32).toInt32) % (3 : Int32)) = (0 : Int32)
  case pos =>
    obtain ⟨fb1, g1⟩ : ∃ z, z = h0.size := ⟨_, rfl⟩
    have lo_fb1 : n0 ≤ fb1 := Nat.le_trans Z0 (Nat.le_of_eq g1.symm)
    have hi_fb1 : h0.size ≤ fb1 := Nat.le_trans (Keep.refl h0 []).1 (Nat.le_of_eq g1.symm)
    have sf2_fb1 : Safe Z own_EL _ _ fb1 := Safe.new (h := h0) (vm := s.vm) (Nat.le_of_eq g1.symm)
    obtain ⟨T1, h1, X1, e1, E1, A1, D1, B1, st1⟩ := newO X0 hx hZ hown (hw _ (List.mem_of_getElem? (i := 4) rfl)) (hw _ (List.mem_of_getElem? (i := 5) rfl)) (hw _ (List.mem_of_getElem? (i := 6) rfl)) e0 (g := (mkF m 28 #[.val (.int p1), .val (.int (((p1.toUInt32 >>> ((16 : Int32) &&& 31).toUInt32).toInt32) % (3 : Int32))), .val (.int ((p1 &&& (255 : Int32)).toUInt32.toUInt16.toUInt32.toInt32)), .val (.int ((((p1.toUInt32 >>> ((8 : Int32) &&& 31).toUInt32).toInt32) &&& (255 : Int32)).toUInt32.toUInt16.toUInt32.toInt32))] [])) rfl (hb hby d_method_3_code_28) (by decide) (by decide)
    rw [← g1] at A1 D1 B1 st1
    have O1 := Obj.of A1 B1
    have CR3 := CHr.trans CR0 (CHr.ext E1 CR0.1)
    have sf3_fb1 := (Safe.ext E1 CR0.1 sf2_fb1)
    have F1_value : Fld Z h1 fb1 "java/lang/String" "value" "[B" .null := D1 (Or.inr (hw _ (List.mem_of_getElem? (i := 20) rfl))) (ty := (.array .byte)) (by decide)
    have F1_coder : Fld Z h1 fb1 "java/lang/String" "coder" "B" (.int (0 : Int32)) := D1 (Or.inr (hw _ (List.mem_of_getElem? (i := 21) rfl))) (ty := .byte) (by decide)
    have pre4 : ∀ t, Steps p.tables e below (T1.setTop (mkF m 31 #[.val (.int p1), .val (.int (((p1.toUInt32 >>> ((16 : Int32) &&& 31).toUInt32).toInt32) % (3 : Int32))), .val (.int ((p1 &&& (255 : Int32)).toUInt32.toUInt16.toUInt32.toInt32)), .val (.int ((((p1.toUInt32 >>> ((8 : Int32) &&& 31).toUInt32).toInt32) &&& (255 : Int32)).toUInt32.toUInt16.toUInt32.toInt32))] [(.ref fb1)])) t → Steps p.tables e below (s₁.setTop (entryFrame m #[(.int p1)] 4)) t := by
      intro t kk
      refine pre0 t ?_
      show Steps p.tables e below (s₁.setTop (mkF m 0 #[.val (.int p1), .unset, .unset, .unset] [])) _
      refine XS.iloadN X0.here hx rfl (hb hby d_method_3_code_0) rfl ?_
      show Steps p.tables e below (s₁.setTop (mkF m 1 #[.val (.int p1), .unset, .unset, .unset] [(.int p1)])) _
      refine XS.bipush X0.here hx rfl (hb hby d_method_3_code_1) ?_
      show Steps p.tables e below (s₁.setTop (mkF m 3 #[.val (.int p1), .unset, .unset, .unset] [(.int (16 : Int32)), (.int p1)])) _
      refine XS.iushr X0.here hx rfl (hb hby d_method_3_code_3) rfl ?_
      show Steps p.tables e below (s₁.setTop (mkF m 4 #[.val (.int p1), .unset, .unset, .unset] [(.int ((p1.toUInt32 >>> ((16 : Int32) &&& 31).toUInt32).toInt32))])) _
      refine XS.iconst X0.here hx rfl (hb hby d_method_3_code_4) ?_
      show Steps p.tables e below (s₁.setTop (mkF m 5 #[.val (.int p1), .unset, .unset, .unset] [(.int (3 : Int32)), (.int ((p1.toUInt32 >>> ((16 : Int32) &&& 31).toUInt32).toInt32))])) _
      refine iremM (g := (mkF m 5 #[.val (.int p1), .unset, .unset, .unset] [(.int (3 : Int32)), (.int ((p1.toUInt32 >>> ((16 : Int32) &&& 31).toUInt32).toInt32))])) X0 hx rfl (hb hby d_method_3_code_5) rfl (by decide) ?_
      show Steps p.tables e below (s₁.setTop (mkF m 6 #[.val (.int p1), .unset, .unset, .unset] [(.int (((p1.toUInt32 >>> ((16 : Int32) &&& 31).toUInt32).toInt32) % (3 : Int32)))])) _
      refine XS.istoreN X0.here hx rfl (hb hby d_method_3_code_6) rfl (l' := #[.val (.int p1), .val (.int (((p1.toUInt32 >>> ((16 : Int32) &&& 31).toUInt32).toInt32) % (3 : Int32))), .unset, .unset]) rfl ?_
      show Steps p.tables e below (s₁.setTop (mkF m 7 #[.val (.int p1), .val (.int (((p1.toUInt32 >>> ((16 : Int32) &&& 31).toUInt32).toInt32) % (3 : Int32))), .unset, .unset] [])) _
      refine XS.iloadN X0.here hx rfl (hb hby d_method_3_code_7) rfl ?_
      show Steps p.tables e below (s₁.setTop (mkF m 8 #[.val (.int p1), .val (.int (((p1.toUInt32 >>> ((16 : Int32) &&& 31).toUInt32).toInt32) % (3 : Int32))), .unset, .unset] [(.int p1)])) _
      refine XS.sipush X0.here hx rfl (hb hby d_method_3_code_8) ?_
      show Steps p.tables e below (s₁.setTop (mkF m 11 #[.val (.int p1), .val (.int (((p1.toUInt32 >>> ((16 : Int32) &&& 31).toUInt32).toInt32) % (3 : Int32))), .unset, .unset] [(.int (255 : Int32)), (.int p1)])) _
      refine XS.iand X0.here hx rfl (hb hby d_method_3_code_11) rfl ?_
      show Steps p.tables e below (s₁.setTop (mkF m 12 #[.val (.int p1), .val (.int (((p1.toUInt32 >>> ((16 : Int32) &&& 31).toUInt32).toInt32) % (3 : Int32))), .unset, .unset] [(.int (p1 &&& (255 : Int32)))])) _
      refine XS.i2c X0.here hx rfl (hb hby d_method_3_code_12) rfl ?_
      show Steps p.tables e below (s₁.setTop (mkF m 13 #[.val (.int p1), .val (.int (((p1.toUInt32 >>> ((16 : Int32) &&& 31).toUInt32).toInt32) % (3 : Int32))), .unset, .unset] [(.int ((p1 &&& (255 : Int32)).toUInt32.toUInt16.toUInt32.toInt32))])) _
      refine XS.istoreN X0.here hx rfl (hb hby d_method_3_code_13) rfl (l' := #[.val (.int p1), .val (.int (((p1.toUInt32 >>> ((16 : Int32) &&& 31).toUInt32).toInt32) % (3 : Int32))), .val (.int ((p1 &&& (255 : Int32)).toUInt32.toUInt16.toUInt32.toInt32)), .unset]) rfl ?_
      show Steps p.tables e below (s₁.setTop (mkF m 14 #[.val (.int p1), .val (.int (((p1.toUInt32 >>> ((16 : Int32) &&& 31).toUInt32).toInt32) % (3 : Int32))), .val (.int ((p1 &&& (255 : Int32)).toUInt32.toUInt16.toUInt32.toInt32)), .unset] [])) _
      refine XS.iloadN X0.here hx rfl (hb hby d_method_3_code_14) rfl ?_
      show Steps p.tables e below (s₁.setTop (mkF m 15 #[.val (.int p1), .val (.int (((p1.toUInt32 >>> ((16 : Int32) &&& 31).toUInt32).toInt32) % (3 : Int32))), .val (.int ((p1 &&& (255 : Int32)).toUInt32.toUInt16.toUInt32.toInt32)), .unset] [(.int p1)])) _
      refine XS.bipush X0.here hx rfl (hb hby d_method_3_code_15) ?_
      show Steps p.tables e below (s₁.setTop (mkF m 17 #[.val (.int p1), .val (.int (((p1.toUInt32 >>> ((16 : Int32) &&& 31).toUInt32).toInt32) % (3 : Int32))), .val (.int ((p1 &&& (255 : Int32)).toUInt32.toUInt16.toUInt32.toInt32)), .unset] [(.int (8 : Int32)), (.int p1)])) _
      refine XS.iushr X0.here hx rfl (hb hby d_method_3_code_17) rfl ?_
      show Steps p.tables e below (s₁.setTop (mkF m 18 #[.val (.int p1), .val (.int (((p1.toUInt32 >>> ((16 : Int32) &&& 31).toUInt32).toInt32) % (3 : Int32))), .val (.int ((p1 &&& (255 : Int32)).toUInt32.toUInt16.toUInt32.toInt32)), .unset] [(.int ((p1.toUInt32 >>> ((8 : Int32) &&& 31).toUInt32).toInt32))])) _
      refine XS.sipush X0.here hx rfl (hb hby d_method_3_code_18) ?_
      show Steps p.tables e below (s₁.setTop (mkF m 21 #[.val (.int p1), .val (.int (((p1.toUInt32 >>> ((16 : Int32) &&& 31).toUInt32).toInt32) % (3 : Int32))), .val (.int ((p1 &&& (255 : Int32)).toUInt32.toUInt16.toUInt32.toInt32)), .unset] [(.int (255 : Int32)), (.int ((p1.toUInt32 >>> ((8 : Int32) &&& 31).toUInt32).toInt32))])) _
      refine XS.iand X0.here hx rfl (hb hby d_method_3_code_21) rfl ?_
      show Steps p.tables e below (s₁.setTop (mkF m 22 #[.val (.int p1), .val (.int (((p1.toUInt32 >>> ((16 : Int32) &&& 31).toUInt32).toInt32) % (3 : Int32))), .val (.int ((p1 &&& (255 : Int32)).toUInt32.toUInt16.toUInt32.toInt32)), .unset] [(.int (((p1.toUInt32 >>> ((8 : Int32) &&& 31).toUInt32).toInt32) &&& (255 : Int32)))])) _
      refine XS.i2c X0.here hx rfl (hb hby d_method_3_code_22) rfl ?_
      show Steps p.tables e below (s₁.setTop (mkF m 23 #[.val (.int p1), .val (.int (((p1.toUInt32 >>> ((16 : Int32) &&& 31).toUInt32).toInt32) % (3 : Int32))), .val (.int ((p1 &&& (255 : Int32)).toUInt32.toUInt16.toUInt32.toInt32)), .unset] [(.int ((((p1.toUInt32 >>> ((8 : Int32) &&& 31).toUInt32).toInt32) &&& (255 : Int32)).toUInt32.toUInt16.toUInt32.toInt32))])) _
      refine XS.istoreN X0.here hx rfl (hb hby d_method_3_code_23) rfl (l' := #[.val (.int p1), .val (.int (((p1.toUInt32 >>> ((16 : Int32) &&& 31).toUInt32).toInt32) % (3 : Int32))), .val (.int ((p1 &&& (255 : Int32)).toUInt32.toUInt16.toUInt32.toInt32)), .val (.int ((((p1.toUInt32 >>> ((8 : Int32) &&& 31).toUInt32).toInt32) &&& (255 : Int32)).toUInt32.toUInt16.toUInt32.toInt32))]) rfl ?_
      show Steps p.tables e below (s₁.setTop (mkF m 24 #[.val (.int p1), .val (.int (((p1.toUInt32 >>> ((16 : Int32) &&& 31).toUInt32).toInt32) % (3 : Int32))), .val (.int ((p1 &&& (255 : Int32)).toUInt32.toUInt16.toUInt32.toInt32)), .val (.int ((((p1.toUInt32 >>> ((8 : Int32) &&& 31).toUInt32).toInt32) &&& (255 : Int32)).toUInt32.toUInt16.toUInt32.toInt32))] [])) _
      refine XS.iloadN X0.here hx rfl (hb hby d_method_3_code_24) rfl ?_
      show Steps p.tables e below (s₁.setTop (mkF m 25 #[.val (.int p1), .val (.int (((p1.toUInt32 >>> ((16 : Int32) &&& 31).toUInt32).toInt32) % (3 : Int32))), .val (.int ((p1 &&& (255 : Int32)).toUInt32.toUInt16.toUInt32.toInt32)), .val (.int ((((p1.toUInt32 >>> ((8 : Int32) &&& 31).toUInt32).toInt32) &&& (255 : Int32)).toUInt32.toUInt16.toUInt32.toInt32))] [(.int (((p1.toUInt32 >>> ((16 : Int32) &&& 31).toUInt32).toInt32) % (3 : Int32)))])) _
      refine XS.ifNo X0.here hx rfl (hb hby d_method_3_code_25) rfl ((if0 _ _).trans (teq hl0).2) ?_
      show Steps p.tables e below (s₁.setTop (mkF m 28 #[.val (.int p1), .val (.int (((p1.toUInt32 >>> ((16 : Int32) &&& 31).toUInt32).toInt32) % (3 : Int32))), .val (.int ((p1 &&& (255 : Int32)).toUInt32.toUInt16.toUInt32.toInt32)), .val (.int ((((p1.toUInt32 >>> ((8 : Int32) &&& 31).toUInt32).toInt32) &&& (255 : Int32)).toUInt32.toUInt16.toUInt32.toInt32))] [])) _
      exact st1 _ kk
    obtain ⟨fb5, g5⟩ : ∃ z, z = h1.size := ⟨_, rfl⟩
    have ne_fb1_fb5 : fb1 ≠ fb5 := Nat.ne_of_lt (Nat.lt_of_lt_of_le O1.lt (Nat.le_of_eq g5.symm))
    have fc6 := (Nat.le_trans Z0 E1.1)
    have lo_fb5 : n0 ≤ fb5 := Nat.le_trans fc6 (Nat.le_of_eq g5.symm)
    have fc7 := ((Keep.refl h0 []).ext E1)
    have hi_fb5 : h0.size ≤ fb5 := Nat.le_trans fc7.1 (Nat.le_of_eq g5.symm)
    obtain ⟨T5, h5, k5, X5, e5, E5, A5, st5⟩ := newP X1 hx hZ (hw _ (List.mem_of_getElem? (i := 7) rfl)) e1 (g := (mkF m 33 #[.val (.int p1), .val (.int (((p1.toUInt32 >>> ((16 : Int32) &&& 31).toUInt32).toInt32) % (3 : Int32))), .val (.int ((p1 &&& (255 : Int32)).toUInt32.toUInt16.toUInt32.toInt32)), .val (.int ((((p1.toUInt32 >>> ((8 : Int32) &&& 31).toUInt32).toInt32) &&& (255 : Int32)).toUInt32.toUInt16.toUInt32.toInt32))] [(.int (0 : Int32)), (.ref fb1), (.ref fb1)])) rfl (hb hby d_method_3_code_33) rfl (by decide) (cap := 0) (by decide) (by decide) (by decide) (by decide)
    rw [← g5] at A5 st5
    have V5 : Arv Z h5 fb5 k5 .char (0 : Int32) [] (.int (0 : Int32)) := (Arv.new A5 (by decide)).pad (pad_rep [] (.int (0 : Int32)) 0)
    have CR8 := CHr.trans CR3 (CHr.ext E5 CR3.1)
    have sf8_fb1 := (Safe.ext E5 CR3.1 sf3_fb1)
    have pre9 : ∀ t, Steps p.tables e below (T5.setTop (mkF m 35 #[.val (.int p1), .val (.int (((p1.toUInt32 >>> ((16 : Int32) &&& 31).toUInt32).toInt32) % (3 : Int32))), .val (.int ((p1 &&& (255 : Int32)).toUInt32.toUInt16.toUInt32.toInt32)), .val (.int ((((p1.toUInt32 >>> ((8 : Int32) &&& 31).toUInt32).toInt32) &&& (255 : Int32)).toUInt32.toUInt16.toUInt32.toInt32))] [(.ref fb5), (.ref fb1), (.ref fb1)])) t → Steps p.tables e below (s₁.setTop (entryFrame m #[(.int p1)] 4)) t := by
      intro t kk
      refine pre4 t ?_
      show Steps p.tables e below (T1.setTop (mkF m 31 #[.val (.int p1), .val (.int (((p1.toUInt32 >>> ((16 : Int32) &&& 31).toUInt32).toInt32) % (3 : Int32))), .val (.int ((p1 &&& (255 : Int32)).toUInt32.toUInt16.toUInt32.toInt32)), .val (.int ((((p1.toUInt32 >>> ((8 : Int32) &&& 31).toUInt32).toInt32) &&& (255 : Int32)).toUInt32.toUInt16.toUInt32.toInt32))] [(.ref fb1)])) _
      refine XS.dup X1.here hx rfl (hb hby d_method_3_code_31) rfl rfl ?_
      show Steps p.tables e below (T1.setTop (mkF m 32 #[.val (.int p1), .val (.int (((p1.toUInt32 >>> ((16 : Int32) &&& 31).toUInt32).toInt32) % (3 : Int32))), .val (.int ((p1 &&& (255 : Int32)).toUInt32.toUInt16.toUInt32.toInt32)), .val (.int ((((p1.toUInt32 >>> ((8 : Int32) &&& 31).toUInt32).toInt32) &&& (255 : Int32)).toUInt32.toUInt16.toUInt32.toInt32))] [(.ref fb1), (.ref fb1)])) _
      refine XS.iconst X1.here hx rfl (hb hby d_method_3_code_32) ?_
      show Steps p.tables e below (T1.setTop (mkF m 33 #[.val (.int p1), .val (.int (((p1.toUInt32 >>> ((16 : Int32) &&& 31).toUInt32).toInt32) % (3 : Int32))), .val (.int ((p1 &&& (255 : Int32)).toUInt32.toUInt16.toUInt32.toInt32)), .val (.int ((((p1.toUInt32 >>> ((8 : Int32) &&& 31).toUInt32).toInt32) &&& (255 : Int32)).toUInt32.toUInt16.toUInt32.toInt32))] [(.int (0 : Int32)), (.ref fb1), (.ref fb1)])) _
      exact st5 _ kk
    have fc10 := (O1.ext E5)
    have fc11 := (F1_value.ext E5)
    have fc13 := (Nat.le_trans fc6 E5.1)
    obtain ⟨_, _, ⟨T12, L12, k12, n12⟩, -, X12w, hS12w, gr12, ⟨Lc12, hQ12, l12, y12, z12, CQ12⟩, st12⟩ := X5.specialBackS hx (y := (⟨"java/lang/String", "<init>", "([C)V"⟩ : MethodName)) rfl hown (mvT hZ (hw _ (List.mem_of_getElem? (i := 8) rfl))) (mvT hZ (hw _ (List.mem_of_getElem? (i := 9) rfl))) (mvT hZ (hw _ (List.mem_of_getElem? (i := 10) rfl))) (by decide) (backOfSH (W := 1) (own_sc0 l Z a0 hw [] fb1 fb5 k5 h5 n0 fc13 fc10 lo_fb1 fc11 V5) hZ (hw _ (List.mem_of_getElem? (i := 10) rfl)) (hw _ (List.mem_of_getElem? (i := 6) rfl)) (by decide) (by decide) hEL CR8.1) (g := (mkF m 35 #[.val (.int p1), .val (.int (((p1.toUInt32 >>> ((16 : Int32) &&& 31).toUInt32).toInt32) % (3 : Int32))), .val (.int ((p1 &&& (255 : Int32)).toUInt32.toUInt16.toUInt32.toInt32)), .val (.int ((((p1.toUInt32 >>> ((8 : Int32) &&& 31).toUInt32).toInt32) &&& (255 : Int32)).toUInt32.toUInt16.toUInt32.toInt32))] [(.ref fb5), (.ref fb1), (.ref fb1)])) rfl (by rw [hml]; rfl) (Steps.refl _) (a := fb1) (argsL := [(.ref fb5)]) (rest := [(.ref fb1)]) (lenOf pd___C_V rfl) rfl (by show 2 * 0 + _ ≤ _; exact Nat.le_of_eq rfl) (hb hby d_method_3_code_35) (fun _ _ => ⟨rfl, e5, (by decide : 2 + 4 ≤ _), (by decide : 4 + 8 ≤ _)⟩)
    dsimp only [Pt.U, Pt.locs, Pt.cells, Pt.slots] at X12w hS12w gr12 l12 y12 z12 st12 hQ12 CQ12
    subst l12 y12 z12
    obtain ⟨bb12, kb12, rfl, N12q, K12, q12a, q12b, q12c, q12d⟩ := hQ12
    have N12 := Fr.app N0 N12q
    have fc14 := (Nat.le_trans (Nat.le_trans hk0 E1.1) E5.1)
    obtain ⟨X12, hS12, hZ, hown⟩ := rebS hS0 (by rw [e5]; exact fc14) X12w hS12w gr12 hZ hown
    have hk12 : T12.heap.size ≤ T12.heap.size := Nat.le_refl _
    have sf12_fb1 := CQ12.safe fc10.lt sf8_fb1
    have CR12 := CHr.trans CR8 CQ12
    have pre15 : ∀ t, Steps p.tables e below (T12.setTop (mkF m 38 #[.val (.int p1), .val (.int (((p1.toUInt32 >>> ((16 : Int32) &&& 31).toUInt32).toInt32) % (3 : Int32))), .val (.int ((p1 &&& (255 : Int32)).toUInt32.toUInt16.toUInt32.toInt32)), .val (.int ((((p1.toUInt32 >>> ((8 : Int32) &&& 31).toUInt32).toInt32) &&& (255 : Int32)).toUInt32.toUInt16.toUInt32.toInt32))] [(.ref fb1)])) t → Steps p.tables e below (s₁.setTop (entryFrame m #[(.int p1)] 4)) t := by
      intro t kk
      refine pre9 t ?_
      show Steps p.tables e below (T5.setTop (mkF m 35 #[.val (.int p1), .val (.int (((p1.toUInt32 >>> ((16 : Int32) &&& 31).toUInt32).toInt32) % (3 : Int32))), .val (.int ((p1 &&& (255 : Int32)).toUInt32.toUInt16.toUInt32.toInt32)), .val (.int ((((p1.toUInt32 >>> ((8 : Int32) &&& 31).toUInt32).toInt32) &&& (255 : Int32)).toUInt32.toUInt16.toUInt32.toInt32))] [(.ref fb5), (.ref fb1), (.ref fb1)])) _
      exact st12.trans kk
    have fc16 := ((fc7.ext E5).trans K12 (allS (Or.inr hi_fb1) all0))
    have fc17 := (fc10.keep K12)
    obtain ⟨fs, hr, hrun, hended, hRW⟩ := X12.leaveW hS12 hk12 (v := some (.ref fb1)) (fun h => by rw [Bd.returns] at h; cases h)
    have CRe := CHr.trans CR12 (CHv.at X12 hZ hEL CR12.1)
    refine ⟨_, _, pre15 _ ?_, hrun, hended, _, _, rfl, ?_, ?_, hRW.1, hRW.2.1, hRW.2.2.1, hRW.2.2.2.mono (by decide) (by decide)⟩
    · show Steps p.tables e below (T12.setTop (mkF m 38 #[.val (.int p1), .val (.int (((p1.toUInt32 >>> ((16 : Int32) &&& 31).toUInt32).toInt32) % (3 : Int32))), .val (.int ((p1 &&& (255 : Int32)).toUInt32.toUInt16.toUInt32.toInt32)), .val (.int ((((p1.toUInt32 >>> ((8 : Int32) &&& 31).toUInt32).toInt32) &&& (255 : Int32)).toUInt32.toUInt16.toUInt32.toInt32))] [(.ref fb1)])) _
      jvm_step X12.here [X12.here.top, hx, (hb hby d_method_3_code_38), X12.method', Bd.returns, Value.isRef, FieldType.isReference]
      first | (intro acts; rw [hr _ acts rfl rfl rfl]) | rw [hr _ _ rfl rfl rfl]
      exact Steps.refl _
    · show Q_own_mk Z p1 G1 h0 n0 _ T12.heap _
      exact ⟨fb1, bb12, kb12, [], rfl, N12, fc16, fc17.exa, q12a, q12b, q12c, by decide, own_p0⟩
    · show CHr Z own_EL s.vm s.heap T12.vm T12.heap
      rw [hh]
      exact CRe
  case neg =>
    by_cases hl1 : (((p1.toUInt32 >>> ((16 : Int32) &&& 31).toUInt32).toInt32) % (3 : Int32)) = (1 : Int32)
    case pos =>
      obtain ⟨fb18, g18⟩ : ∃ z, z = h0.size := ⟨_, rfl⟩
      have lo_fb18 : n0 ≤ fb18 := Nat.le_trans Z0 (Nat.le_of_eq g18.symm)
      have hi_fb18 : h0.size ≤ fb18 := Nat.le_trans (Keep.refl h0 []).1 (Nat.le_of_eq g18.symm)
      have sf19_fb18 : Safe Z own_EL _ _ fb18 := Safe.new (h := h0) (vm := s.vm) (Nat.le_of_eq g18.symm)
      obtain ⟨T18, h18, X18, e18, E18, A18, D18, B18, st18⟩ := newO X0 hx hZ hown (hw _ (List.mem_of_getElem? (i := 4) rfl)) (hw _ (List.mem_of_getElem? (i := 5) rfl)) (hw _ (List.mem_of_getElem? (i := 6) rfl)) e0 (g := (mkF m 44 #[.val (.int p1), .val (.int (((p1.toUInt32 >>> ((16 : Int32) &&& 31).toUInt32).toInt32) % (3 : Int32))), .val (.int ((p1 &&& (255 : Int32)).toUInt32.toUInt16.toUInt32.toInt32)), .val (.int ((((p1.toUInt32 >>> ((8 : Int32) &&& 31).toUInt32).toInt32) &&& (255 : Int32)).toUInt32.toUInt16.toUInt32.toInt32))] [])) rfl (hb hby d_method_3_code_44) (by decide) (by decide)
      rw [← g18] at A18 D18 B18 st18
      have O18 := Obj.of A18 B18
      have CR20 := CHr.trans CR0 (CHr.ext E18 CR0.1)
      have sf20_fb18 := (Safe.ext E18 CR0.1 sf19_fb18)
      have F18_value : Fld Z h18 fb18 "java/lang/String" "value" "[B" .null := D18 (Or.inr (hw _ (List.mem_of_getElem? (i := 20) rfl))) (ty := (.array .byte)) (by decide)
      have F18_coder : Fld Z h18 fb18 "java/lang/String" "coder" "B" (.int (0 : Int32)) := D18 (Or.inr (hw _ (List.mem_of_getElem? (i := 21) rfl))) (ty := .byte) (by decide)
      have pre21 : ∀ t, Steps p.tables e below (T18.setTop (mkF m 47 #[.val (.int p1), .val (.int (((p1.toUInt32 >>> ((16 : Int32) &&& 31).toUInt32).toInt32) % (3 : Int32))), .val (.int ((p1 &&& (255 : Int32)).toUInt32.toUInt16.toUInt32.toInt32)), .val (.int ((((p1.toUInt32 >>> ((8 : Int32) &&& 31).toUInt32).toInt32) &&& (255 : Int32)).toUInt32.toUInt16.toUInt32.toInt32))] [(.ref fb18)])) t → Steps p.tables e below (s₁.setTop (entryFrame m #[(.int p1)] 4)) t := by
        intro t kk
        refine pre0 t ?_
        show Steps p.tables e below (s₁.setTop (mkF m 0 #[.val (.int p1), .unset, .unset, .unset] [])) _
        refine XS.iloadN X0.here hx rfl (hb hby d_method_3_code_0) rfl ?_
        show Steps p.tables e below (s₁.setTop (mkF m 1 #[.val (.int p1), .unset, .unset, .unset] [(.int p1)])) _
        refine XS.bipush X0.here hx rfl (hb hby d_method_3_code_1) ?_
        show Steps p.tables e below (s₁.setTop (mkF m 3 #[.val (.int p1), .unset, .unset, .unset] [(.int (16 : Int32)), (.int p1)])) _
        refine XS.iushr X0.here hx rfl (hb hby d_method_3_code_3) rfl ?_
        show Steps p.tables e below (s₁.setTop (mkF m 4 #[.val (.int p1), .unset, .unset, .unset] [(.int ((p1.toUInt32 >>> ((16 : Int32) &&& 31).toUInt32).toInt32))])) _
        refine XS.iconst X0.here hx rfl (hb hby d_method_3_code_4) ?_
        show Steps p.tables e below (s₁.setTop (mkF m 5 #[.val (.int p1), .unset, .unset, .unset] [(.int (3 : Int32)), (.int ((p1.toUInt32 >>> ((16 : Int32) &&& 31).toUInt32).toInt32))])) _
        refine iremM (g := (mkF m 5 #[.val (.int p1), .unset, .unset, .unset] [(.int (3 : Int32)), (.int ((p1.toUInt32 >>> ((16 : Int32) &&& 31).toUInt32).toInt32))])) X0 hx rfl (hb hby d_method_3_code_5) rfl (by decide) ?_
        show Steps p.tables e below (s₁.setTop (mkF m 6 #[.val (.int p1), .unset, .unset, .unset] [(.int (((p1.toUInt32 >>> ((16 : Int32) &&& 31).toUInt32).toInt32) % (3 : Int32)))])) _
        refine XS.istoreN X0.here hx rfl (hb hby d_method_3_code_6) rfl (l' := #[.val (.int p1), .val (.int (((p1.toUInt32 >>> ((16 : Int32) &&& 31).toUInt32).toInt32) % (3 : Int32))), .unset, .unset]) rfl ?_
        show Steps p.tables e below (s₁.setTop (mkF m 7 #[.val (.int p1), .val (.int (((p1.toUInt32 >>> ((16 : Int32) &&& 31).toUInt32).toInt32) % (3 : Int32))), .unset, .unset] [])) _
        refine XS.iloadN X0.here hx rfl (hb hby d_method_3_code_7) rfl ?_
        show Steps p.tables e below (s₁.setTop (mkF m 8 #[.val (.int p1), .val (.int (((p1.toUInt32 >>> ((16 : Int32) &&& 31).toUInt32).toInt32) % (3 : Int32))), .unset, .unset] [(.int p1)])) _
        refine XS.sipush X0.here hx rfl (hb hby d_method_3_code_8) ?_
        show Steps p.tables e below (s₁.setTop (mkF m 11 #[.val (.int p1), .val (.int (((p1.toUInt32 >>> ((16 : Int32) &&& 31).toUInt32).toInt32) % (3 : Int32))), .unset, .unset] [(.int (255 : Int32)), (.int p1)])) _
        refine XS.iand X0.here hx rfl (hb hby d_method_3_code_11) rfl ?_
        show Steps p.tables e below (s₁.setTop (mkF m 12 #[.val (.int p1), .val (.int (((p1.toUInt32 >>> ((16 : Int32) &&& 31).toUInt32).toInt32) % (3 : Int32))), .unset, .unset] [(.int (p1 &&& (255 : Int32)))])) _
        refine XS.i2c X0.here hx rfl (hb hby d_method_3_code_12) rfl ?_
        show Steps p.tables e below (s₁.setTop (mkF m 13 #[.val (.int p1), .val (.int (((p1.toUInt32 >>> ((16 : Int32) &&& 31).toUInt32).toInt32) % (3 : Int32))), .unset, .unset] [(.int ((p1 &&& (255 : Int32)).toUInt32.toUInt16.toUInt32.toInt32))])) _
        refine XS.istoreN X0.here hx rfl (hb hby d_method_3_code_13) rfl (l' := #[.val (.int p1), .val (.int (((p1.toUInt32 >>> ((16 : Int32) &&& 31).toUInt32).toInt32) % (3 : Int32))), .val (.int ((p1 &&& (255 : Int32)).toUInt32.toUInt16.toUInt32.toInt32)), .unset]) rfl ?_
        show Steps p.tables e below (s₁.setTop (mkF m 14 #[.val (.int p1), .val (.int (((p1.toUInt32 >>> ((16 : Int32) &&& 31).toUInt32).toInt32) % (3 : Int32))), .val (.int ((p1 &&& (255 : Int32)).toUInt32.toUInt16.toUInt32.toInt32)), .unset] [])) _
        refine XS.iloadN X0.here hx rfl (hb hby d_method_3_code_14) rfl ?_
        show Steps p.tables e below (s₁.setTop (mkF m 15 #[.val (.int p1), .val (.int (((p1.toUInt32 >>> ((16 : Int32) &&& 31).toUInt32).toInt32) % (3 : Int32))), .val (.int ((p1 &&& (255 : Int32)).toUInt32.toUInt16.toUInt32.toInt32)), .unset] [(.int p1)])) _
        refine XS.bipush X0.here hx rfl (hb hby d_method_3_code_15) ?_
        show Steps p.tables e below (s₁.setTop (mkF m 17 #[.val (.int p1), .val (.int (((p1.toUInt32 >>> ((16 : Int32) &&& 31).toUInt32).toInt32) % (3 : Int32))), .val (.int ((p1 &&& (255 : Int32)).toUInt32.toUInt16.toUInt32.toInt32)), .unset] [(.int (8 : Int32)), (.int p1)])) _
        refine XS.iushr X0.here hx rfl (hb hby d_method_3_code_17) rfl ?_
        show Steps p.tables e below (s₁.setTop (mkF m 18 #[.val (.int p1), .val (.int (((p1.toUInt32 >>> ((16 : Int32) &&& 31).toUInt32).toInt32) % (3 : Int32))), .val (.int ((p1 &&& (255 : Int32)).toUInt32.toUInt16.toUInt32.toInt32)), .unset] [(.int ((p1.toUInt32 >>> ((8 : Int32) &&& 31).toUInt32).toInt32))])) _
        refine XS.sipush X0.here hx rfl (hb hby d_method_3_code_18) ?_
        show Steps p.tables e below (s₁.setTop (mkF m 21 #[.val (.int p1), .val (.int (((p1.toUInt32 >>> ((16 : Int32) &&& 31).toUInt32).toInt32) % (3 : Int32))), .val (.int ((p1 &&& (255 : Int32)).toUInt32.toUInt16.toUInt32.toInt32)), .unset] [(.int (255 : Int32)), (.int ((p1.toUInt32 >>> ((8 : Int32) &&& 31).toUInt32).toInt32))])) _
        refine XS.iand X0.here hx rfl (hb hby d_method_3_code_21) rfl ?_
        show Steps p.tables e below (s₁.setTop (mkF m 22 #[.val (.int p1), .val (.int (((p1.toUInt32 >>> ((16 : Int32) &&& 31).toUInt32).toInt32) % (3 : Int32))), .val (.int ((p1 &&& (255 : Int32)).toUInt32.toUInt16.toUInt32.toInt32)), .unset] [(.int (((p1.toUInt32 >>> ((8 : Int32) &&& 31).toUInt32).toInt32) &&& (255 : Int32)))])) _
        refine XS.i2c X0.here hx rfl (hb hby d_method_3_code_22) rfl ?_
        show Steps p.tables e below (s₁.setTop (mkF m 23 #[.val (.int p1), .val (.int (((p1.toUInt32 >>> ((16 : Int32) &&& 31).toUInt32).toInt32) % (3 : Int32))), .val (.int ((p1 &&& (255 : Int32)).toUInt32.toUInt16.toUInt32.toInt32)), .unset] [(.int ((((p1.toUInt32 >>> ((8 : Int32) &&& 31).toUInt32).toInt32) &&& (255 : Int32)).toUInt32.toUInt16.toUInt32.toInt32))])) _
        refine XS.istoreN X0.here hx rfl (hb hby d_method_3_code_23) rfl (l' := #[.val (.int p1), .val (.int (((p1.toUInt32 >>> ((16 : Int32) &&& 31).toUInt32).toInt32) % (3 : Int32))), .val (.int ((p1 &&& (255 : Int32)).toUInt32.toUInt16.toUInt32.toInt32)), .val (.int ((((p1.toUInt32 >>> ((8 : Int32) &&& 31).toUInt32).toInt32) &&& (255 : Int32)).toUInt32.toUInt16.toUInt32.toInt32))]) rfl ?_
        show Steps p.tables e below (s₁.setTop (mkF m 24 #[.val (.int p1), .val (.int (((p1.toUInt32 >>> ((16 : Int32) &&& 31).toUInt32).toInt32) % (3 : Int32))), .val (.int ((p1 &&& (255 : Int32)).toUInt32.toUInt16.toUInt32.toInt32)), .val (.int ((((p1.toUInt32 >>> ((8 : Int32) &&& 31).toUInt32).toInt32) &&& (255 : Int32)).toUInt32.toUInt16.toUInt32.toInt32))] [])) _
        refine XS.iloadN X0.here hx rfl (hb hby d_method_3_code_24) rfl ?_
        show Steps p.tables e below (s₁.setTop (mkF m 25 #[.val (.int p1), .val (.int (((p1.toUInt32 >>> ((16 : Int32) &&& 31).toUInt32).toInt32) % (3 : Int32))), .val (.int ((p1 &&& (255 : Int32)).toUInt32.toUInt16.toUInt32.toInt32)), .val (.int ((((p1.toUInt32 >>> ((8 : Int32) &&& 31).toUInt32).toInt32) &&& (255 : Int32)).toUInt32.toUInt16.toUInt32.toInt32))] [(.int (((p1.toUInt32 >>> ((16 : Int32) &&& 31).toUInt32).toInt32) % (3 : Int32)))])) _
        refine XS.ifYes X0.here hx rfl (pc0 := 25) (pc' := 39) rfl (hb hby d_method_3_code_25) rfl ((if0 _ _).trans (feq hl0).2) (by decide) (by decide) ?_
        show Steps p.tables e below (s₁.setTop (mkF m 39 #[.val (.int p1), .val (.int (((p1.toUInt32 >>> ((16 : Int32) &&& 31).toUInt32).toInt32) % (3 : Int32))), .val (.int ((p1 &&& (255 : Int32)).toUInt32.toUInt16.toUInt32.toInt32)), .val (.int ((((p1.toUInt32 >>> ((8 : Int32) &&& 31).toUInt32).toInt32) &&& (255 : Int32)).toUInt32.toUInt16.toUInt32.toInt32))] [])) _
        refine XS.iloadN X0.here hx rfl (hb hby d_method_3_code_39) rfl ?_
        show Steps p.tables e below (s₁.setTop (mkF m 40 #[.val (.int p1), .val (.int (((p1.toUInt32 >>> ((16 : Int32) &&& 31).toUInt32).toInt32) % (3 : Int32))), .val (.int ((p1 &&& (255 : Int32)).toUInt32.toUInt16.toUInt32.toInt32)), .val (.int ((((p1.toUInt32 >>> ((8 : Int32) &&& 31).toUInt32).toInt32) &&& (255 : Int32)).toUInt32.toUInt16.toUInt32.toInt32))] [(.int (((p1.toUInt32 >>> ((16 : Int32) &&& 31).toUInt32).toInt32) % (3 : Int32)))])) _
        refine XS.iconst X0.here hx rfl (hb hby d_method_3_code_40) ?_
        show Steps p.tables e below (s₁.setTop (mkF m 41 #[.val (.int p1), .val (.int (((p1.toUInt32 >>> ((16 : Int32) &&& 31).toUInt32).toInt32) % (3 : Int32))), .val (.int ((p1 &&& (255 : Int32)).toUInt32.toUInt16.toUInt32.toInt32)), .val (.int ((((p1.toUInt32 >>> ((8 : Int32) &&& 31).toUInt32).toInt32) &&& (255 : Int32)).toUInt32.toUInt16.toUInt32.toInt32))] [(.int (1 : Int32)), (.int (((p1.toUInt32 >>> ((16 : Int32) &&& 31).toUInt32).toInt32) % (3 : Int32)))])) _
        refine XS.icmpNo X0.here hx rfl (hb hby d_method_3_code_41) rfl (teq hl1).2 ?_
        show Steps p.tables e below (s₁.setTop (mkF m 44 #[.val (.int p1), .val (.int (((p1.toUInt32 >>> ((16 : Int32) &&& 31).toUInt32).toInt32) % (3 : Int32))), .val (.int ((p1 &&& (255 : Int32)).toUInt32.toUInt16.toUInt32.toInt32)), .val (.int ((((p1.toUInt32 >>> ((8 : Int32) &&& 31).toUInt32).toInt32) &&& (255 : Int32)).toUInt32.toUInt16.toUInt32.toInt32))] [])) _
        exact st18 _ kk
      obtain ⟨fb22, g22⟩ : ∃ z, z = h18.size := ⟨_, rfl⟩
      have ne_fb18_fb22 : fb18 ≠ fb22 := Nat.ne_of_lt (Nat.lt_of_lt_of_le O18.lt (Nat.le_of_eq g22.symm))
      have fc23 := (Nat.le_trans Z0 E18.1)
      have lo_fb22 : n0 ≤ fb22 := Nat.le_trans fc23 (Nat.le_of_eq g22.symm)
      have fc24 := ((Keep.refl h0 []).ext E18)
      have hi_fb22 : h0.size ≤ fb22 := Nat.le_trans fc24.1 (Nat.le_of_eq g22.symm)
      obtain ⟨T22, h22, k22, X22, e22, E22, A22, st22⟩ := newP X18 hx hZ (hw _ (List.mem_of_getElem? (i := 7) rfl)) e18 (g := (mkF m 49 #[.val (.int p1), .val (.int (((p1.toUInt32 >>> ((16 : Int32) &&& 31).toUInt32).toInt32) % (3 : Int32))), .val (.int ((p1 &&& (255 : Int32)).toUInt32.toUInt16.toUInt32.toInt32)), .val (.int ((((p1.toUInt32 >>> ((8 : Int32) &&& 31).toUInt32).toInt32) &&& (255 : Int32)).toUInt32.toUInt16.toUInt32.toInt32))] [(.int (1 : Int32)), (.ref fb18), (.ref fb18)])) rfl (hb hby d_method_3_code_49) rfl (by decide) (cap := 1) (by decide) (by decide) (by decide) (by decide)
      rw [← g22] at A22 st22
      have V22 : Arv Z h22 fb22 k22 .char (1 : Int32) [(.int (0 : Int32))] (.int (0 : Int32)) := (Arv.new A22 (by decide)).pad (pad_rep [] (.int (0 : Int32)) 1)
      have CR25 := CHr.trans CR20 (CHr.ext E22 CR20.1)
      have sf25_fb18 := (Safe.ext E22 CR20.1 sf20_fb18)
      have pre26 : ∀ t, Steps p.tables e below (T22.setTop (mkF m 51 #[.val (.int p1), .val (.int (((p1.toUInt32 >>> ((16 : Int32) &&& 31).toUInt32).toInt32) % (3 : Int32))), .val (.int ((p1 &&& (255 : Int32)).toUInt32.toUInt16.toUInt32.toInt32)), .val (.int ((((p1.toUInt32 >>> ((8 : Int32) &&& 31).toUInt32).toInt32) &&& (255 : Int32)).toUInt32.toUInt16.toUInt32.toInt32))] [(.ref fb22), (.ref fb18), (.ref fb18)])) t → Steps p.tables e below (s₁.setTop (entryFrame m #[(.int p1)] 4)) t := by
        intro t kk
        refine pre21 t ?_
        show Steps p.tables e below (T18.setTop (mkF m 47 #[.val (.int p1), .val (.int (((p1.toUInt32 >>> ((16 : Int32) &&& 31).toUInt32).toInt32) % (3 : Int32))), .val (.int ((p1 &&& (255 : Int32)).toUInt32.toUInt16.toUInt32.toInt32)), .val (.int ((((p1.toUInt32 >>> ((8 : Int32) &&& 31).toUInt32).toInt32) &&& (255 : Int32)).toUInt32.toUInt16.toUInt32.toInt32))] [(.ref fb18)])) _
        refine XS.dup X18.here hx rfl (hb hby d_method_3_code_47) rfl rfl ?_
        show Steps p.tables e below (T18.setTop (mkF m 48 #[.val (.int p1), .val (.int (((p1.toUInt32 >>> ((16 : Int32) &&& 31).toUInt32).toInt32) % (3 : Int32))), .val (.int ((p1 &&& (255 : Int32)).toUInt32.toUInt16.toUInt32.toInt32)), .val (.int ((((p1.toUInt32 >>> ((8 : Int32) &&& 31).toUInt32).toInt32) &&& (255 : Int32)).toUInt32.toUInt16.toUInt32.toInt32))] [(.ref fb18), (.ref fb18)])) _
        refine XS.iconst X18.here hx rfl (hb hby d_method_3_code_48) ?_
        show Steps p.tables e below (T18.setTop (mkF m 49 #[.val (.int p1), .val (.int (((p1.toUInt32 >>> ((16 : Int32) &&& 31).toUInt32).toInt32) % (3 : Int32))), .val (.int ((p1 &&& (255 : Int32)).toUInt32.toUInt16.toUInt32.toInt32)), .val (.int ((((p1.toUInt32 >>> ((8 : Int32) &&& 31).toUInt32).toInt32) &&& (255 : Int32)).toUInt32.toUInt16.toUInt32.toInt32))] [(.int (1 : Int32)), (.ref fb18), (.ref fb18)])) _
        exact st22 _ kk
      obtain ⟨cl27, Ar27, q27, S27, M27, H27, G27⟩ := id V22
      obtain ⟨T27, h27, X27, e27, W27, st27⟩ := stC X22 hx hZ e22 Ar27 (j := (0 : Int32)) (inb_of S27 ⟨(by decide), (by decide)⟩) (g := (mkF m 54 #[.val (.int p1), .val (.int (((p1.toUInt32 >>> ((16 : Int32) &&& 31).toUInt32).toInt32) % (3 : Int32))), .val (.int ((p1 &&& (255 : Int32)).toUInt32.toUInt16.toUInt32.toInt32)), .val (.int ((((p1.toUInt32 >>> ((8 : Int32) &&& 31).toUInt32).toInt32) &&& (255 : Int32)).toUInt32.toUInt16.toUInt32.toInt32))] [(.int ((p1 &&& (255 : Int32)).toUInt32.toUInt16.toUInt32.toInt32)), (.int (0 : Int32)), (.ref fb22), (.ref fb22), (.ref fb18), (.ref fb18)])) rfl rfl (hb hby d_method_3_code_54)
      have V27 : Arv Z h27 fb22 k22 .char (1 : Int32) [(.int (nar .char ((p1 &&& (255 : Int32)).toUInt32.toUInt16.toUInt32.toInt32)))] (.int (0 : Int32)) := Arv.set Ar27 q27 S27 M27 H27 G27 (fits_nar_char _) W27 0 rfl (Nat.le_of_ble_eq_true rfl)
      have SA28 := (Safe.arv (EL := own_EL) hZ.alike V22 (by decide))
      have CR28 := CHr.trans CR25 (CHr.wr W27 SA28 CR25.1)
      have sf28_fb18 := (Safe.wr W27 SA28 CR25.1 sf25_fb18)
      have N27 := Fr.snoc X27 N0 lo_fb22
      have pre29 : ∀ t, Steps p.tables e below (T27.setTop (mkF m 55 #[.val (.int p1), .val (.int (((p1.toUInt32 >>> ((16 : Int32) &&& 31).toUInt32).toInt32) % (3 : Int32))), .val (.int ((p1 &&& (255 : Int32)).toUInt32.toUInt16.toUInt32.toInt32)), .val (.int ((((p1.toUInt32 >>> ((8 : Int32) &&& 31).toUInt32).toInt32) &&& (255 : Int32)).toUInt32.toUInt16.toUInt32.toInt32))] [(.ref fb22), (.ref fb18), (.ref fb18)])) t → Steps p.tables e below (s₁.setTop (entryFrame m #[(.int p1)] 4)) t := by
        intro t kk
        refine pre26 t ?_
        show Steps p.tables e below (T22.setTop (mkF m 51 #[.val (.int p1), .val (.int (((p1.toUInt32 >>> ((16 : Int32) &&& 31).toUInt32).toInt32) % (3 : Int32))), .val (.int ((p1 &&& (255 : Int32)).toUInt32.toUInt16.toUInt32.toInt32)), .val (.int ((((p1.toUInt32 >>> ((8 : Int32) &&& 31).toUInt32).toInt32) &&& (255 : Int32)).toUInt32.toUInt16.toUInt32.toInt32))] [(.ref fb22), (.ref fb18), (.ref fb18)])) _
        refine XS.dup X22.here hx rfl (hb hby d_method_3_code_51) rfl rfl ?_
        show Steps p.tables e below (T22.setTop (mkF m 52 #[.val (.int p1), .val (.int (((p1.toUInt32 >>> ((16 : Int32) &&& 31).toUInt32).toInt32) % (3 : Int32))), .val (.int ((p1 &&& (255 : Int32)).toUInt32.toUInt16.toUInt32.toInt32)), .val (.int ((((p1.toUInt32 >>> ((8 : Int32) &&& 31).toUInt32).toInt32) &&& (255 : Int32)).toUInt32.toUInt16.toUInt32.toInt32))] [(.ref fb22), (.ref fb22), (.ref fb18), (.ref fb18)])) _
        refine XS.iconst X22.here hx rfl (hb hby d_method_3_code_52) ?_
        show Steps p.tables e below (T22.setTop (mkF m 53 #[.val (.int p1), .val (.int (((p1.toUInt32 >>> ((16 : Int32) &&& 31).toUInt32).toInt32) % (3 : Int32))), .val (.int ((p1 &&& (255 : Int32)).toUInt32.toUInt16.toUInt32.toInt32)), .val (.int ((((p1.toUInt32 >>> ((8 : Int32) &&& 31).toUInt32).toInt32) &&& (255 : Int32)).toUInt32.toUInt16.toUInt32.toInt32))] [(.int (0 : Int32)), (.ref fb22), (.ref fb22), (.ref fb18), (.ref fb18)])) _
        refine XS.iloadN X22.here hx rfl (hb hby d_method_3_code_53) rfl ?_
        show Steps p.tables e below (T22.setTop (mkF m 54 #[.val (.int p1), .val (.int (((p1.toUInt32 >>> ((16 : Int32) &&& 31).toUInt32).toInt32) % (3 : Int32))), .val (.int ((p1 &&& (255 : Int32)).toUInt32.toUInt16.toUInt32.toInt32)), .val (.int ((((p1.toUInt32 >>> ((8 : Int32) &&& 31).toUInt32).toInt32) &&& (255 : Int32)).toUInt32.toUInt16.toUInt32.toInt32))] [(.int ((p1 &&& (255 : Int32)).toUInt32.toUInt16.toUInt32.toInt32)), (.int (0 : Int32)), (.ref fb22), (.ref fb22), (.ref fb18), (.ref fb18)])) _
        exact st27 _ kk
      have fc30 := ((O18.ext E22).wr W27)
      have fc31 := ((F18_value.ext E22).other W27 (Or.inl ne_fb18_fb22))
      have fc32 := ((F18_coder.ext E22).other W27 (Or.inl ne_fb18_fb22))
      have fc33 := (((XO.ext E18).ext E22).wr W27 lo_fb22)
      have fc35 := (Nat.le_trans (Nat.le_trans fc23 E22.1) (Keep.of_wr W27).1)
      obtain ⟨_, _, ⟨T34, L34, k34, n34⟩, -, X34, ⟨Lc34, hQ34, l34, y34, z34⟩, st34⟩ := X27.specialBack hx (y := (⟨"java/lang/String", "<init>", "([C)V"⟩ : MethodName)) rfl hown (mvT hZ (hw _ (List.mem_of_getElem? (i := 8) rfl))) (mvT hZ (hw _ (List.mem_of_getElem? (i := 9) rfl))) (mvT hZ (hw _ (List.mem_of_getElem? (i := 10) rfl))) (by decide) (StrChars.Road.backV (W := 1) hZ hws (kI := 4) (hw _ (List.mem_of_getElem? (i := 5) rfl)) (cs := ([(nar .char ((p1 &&& (255 : Int32)).toUInt32.toUInt16.toUInt32.toInt32))] : List Int32)) (bs := ([(nar .char ((p1 &&& (255 : Int32)).toUInt32.toUInt16.toUInt32.toInt32))] : List Int32).map (fun c => c.toInt8.toInt32)) (n := 1) lo_fb18 fc35 fc30.exa fc31 fc32 V27 (O2.ext fc33.2) P5 rfl rfl (by decide) (by decide) (own_pc (own_n8 _) own_p0) rfl (by decide) (by decide)) (g := (mkF m 55 #[.val (.int p1), .val (.int (((p1.toUInt32 >>> ((16 : Int32) &&& 31).toUInt32).toInt32) % (3 : Int32))), .val (.int ((p1 &&& (255 : Int32)).toUInt32.toUInt16.toUInt32.toInt32)), .val (.int ((((p1.toUInt32 >>> ((8 : Int32) &&& 31).toUInt32).toInt32) &&& (255 : Int32)).toUInt32.toUInt16.toUInt32.toInt32))] [(.ref fb22), (.ref fb18), (.ref fb18)])) rfl (by rw [hml]; rfl) (Steps.refl _) (a := fb18) (argsL := [(.ref fb22)]) (rest := [(.ref fb18)]) (lenOf pd___C_V rfl) rfl (by show 2 * 0 + _ ≤ _; exact Nat.le_of_eq rfl) (hb hby d_method_3_code_55) (fun _ _ => ⟨rfl, e27, (by decide : 2 + 1 ≤ _), (by decide : 5 + 1 ≤ _)⟩)
      dsimp only [Pt.U, Pt.locs, Pt.cells, Pt.slots] at X34 l34 y34 z34 st34 hQ34
      subst l34 y34 z34
      obtain ⟨rfl, N34q, K34, Ex34, Fc34, t34, kb34, u34, lo34, ne34, Fv34, Vt34⟩ := hQ34
      have N34 := Fr.app N27 N34q
      have SA36 : ∀ y ∈ [fb18], Safe Z own_EL _ _ y := (sfS sf28_fb18 sf0)
      have CR36 := CHr.trans CR28 (CHr.keep K34 SA36 CR28.1)
      have sf36_fb18 := (Safe.keep K34 SA36 CR28.1 sf28_fb18)
      have pre37 : ∀ t, Steps p.tables e below (T34.setTop (mkF m 58 #[.val (.int p1), .val (.int (((p1.toUInt32 >>> ((16 : Int32) &&& 31).toUInt32).toInt32) % (3 : Int32))), .val (.int ((p1 &&& (255 : Int32)).toUInt32.toUInt16.toUInt32.toInt32)), .val (.int ((((p1.toUInt32 >>> ((8 : Int32) &&& 31).toUInt32).toInt32) &&& (255 : Int32)).toUInt32.toUInt16.toUInt32.toInt32))] [(.ref fb18)])) t → Steps p.tables e below (s₁.setTop (entryFrame m #[(.int p1)] 4)) t := by
        intro t kk
        refine pre29 t ?_
        show Steps p.tables e below (T27.setTop (mkF m 55 #[.val (.int p1), .val (.int (((p1.toUInt32 >>> ((16 : Int32) &&& 31).toUInt32).toInt32) % (3 : Int32))), .val (.int ((p1 &&& (255 : Int32)).toUInt32.toUInt16.toUInt32.toInt32)), .val (.int ((((p1.toUInt32 >>> ((8 : Int32) &&& 31).toUInt32).toInt32) &&& (255 : Int32)).toUInt32.toUInt16.toUInt32.toInt32))] [(.ref fb22), (.ref fb18), (.ref fb18)])) _
        exact st34.trans kk
      have ne_fb22_t34 : fb22 ≠ t34 := Nat.ne_of_lt (Nat.lt_of_lt_of_le V27.lt lo34)
      have fc38 := (((fc24.ext E22).wr W27 (Or.inr hi_fb22)).trans K34 (allS (Or.inr hi_fb18) all0))
      have fc39 := (fc30.keep K34)
      have fc40 := (Nat.le_trans (Nat.le_trans (Nat.le_trans (Nat.le_trans hk0 E18.1) E22.1) (Keep.of_wr W27).1) K34.1)
      obtain ⟨fs, hr, hrun, hended, hRW⟩ := X34.leaveW hS0 fc40 (v := some (.ref fb18)) (fun h => by rw [Bd.returns] at h; cases h)
      have CRe := CHr.trans CR36 (CHv.at X34 hZ hEL CR36.1)
      refine ⟨_, _, pre37 _ ?_, hrun, hended, _, _, rfl, ?_, ?_, hRW.1, hRW.2.1, hRW.2.2.1, hRW.2.2.2.mono (by decide) (by decide)⟩
      · show Steps p.tables e below (T34.setTop (mkF m 58 #[.val (.int p1), .val (.int (((p1.toUInt32 >>> ((16 : Int32) &&& 31).toUInt32).toInt32) % (3 : Int32))), .val (.int ((p1 &&& (255 : Int32)).toUInt32.toUInt16.toUInt32.toInt32)), .val (.int ((((p1.toUInt32 >>> ((8 : Int32) &&& 31).toUInt32).toInt32) &&& (255 : Int32)).toUInt32.toUInt16.toUInt32.toInt32))] [(.ref fb18)])) _
        jvm_step X34.here [X34.here.top, hx, (hb hby d_method_3_code_58), X34.method', Bd.returns, Value.isRef, FieldType.isReference]
        first | (intro acts; rw [hr _ acts rfl rfl rfl]) | rw [hr _ _ rfl rfl rfl]
        exact Steps.refl _
      · show Q_own_mk Z p1 G1 h0 n0 _ T34.heap _
        exact ⟨fb18, t34, kb34, [(nar .char ((p1 &&& (255 : Int32)).toUInt32.toUInt16.toUInt32.toInt32))], rfl, N34, fc38, fc39.exa, Fv34, Fc34, Vt34, Nat.le_of_ble_eq_true rfl, (own_pc (own_n8 _) own_p0)⟩
      · show CHr Z own_EL s.vm s.heap T34.vm T34.heap
        rw [hh]
        exact CRe
    case neg =>
      obtain ⟨fb41, g41⟩ : ∃ z, z = h0.size := ⟨_, rfl⟩
      have lo_fb41 : n0 ≤ fb41 := Nat.le_trans Z0 (Nat.le_of_eq g41.symm)
      have hi_fb41 : h0.size ≤ fb41 := Nat.le_trans (Keep.refl h0 []).1 (Nat.le_of_eq g41.symm)
      have sf42_fb41 : Safe Z own_EL _ _ fb41 := Safe.new (h := h0) (vm := s.vm) (Nat.le_of_eq g41.symm)
      obtain ⟨T41, h41, X41, e41, E41, A41, D41, B41, st41⟩ := newO X0 hx hZ hown (hw _ (List.mem_of_getElem? (i := 4) rfl)) (hw _ (List.mem_of_getElem? (i := 5) rfl)) (hw _ (List.mem_of_getElem? (i := 6) rfl)) e0 (g := (mkF m 59 #[.val (.int p1), .val (.int (((p1.toUInt32 >>> ((16 : Int32) &&& 31).toUInt32).toInt32) % (3 : Int32))), .val (.int ((p1 &&& (255 : Int32)).toUInt32.toUInt16.toUInt32.toInt32)), .val (.int ((((p1.toUInt32 >>> ((8 : Int32) &&& 31).toUInt32).toInt32) &&& (255 : Int32)).toUInt32.toUInt16.toUInt32.toInt32))] [])) rfl (hb hby d_method_3_code_59) (by decide) (by decide)
      rw [← g41] at A41 D41 B41 st41
      have O41 := Obj.of A41 B41
      have CR43 := CHr.trans CR0 (CHr.ext E41 CR0.1)
      have sf43_fb41 := (Safe.ext E41 CR0.1 sf42_fb41)
      have F41_value : Fld Z h41 fb41 "java/lang/String" "value" "[B" .null := D41 (Or.inr (hw _ (List.mem_of_getElem? (i := 20) rfl))) (ty := (.array .byte)) (by decide)
      have F41_coder : Fld Z h41 fb41 "java/lang/String" "coder" "B" (.int (0 : Int32)) := D41 (Or.inr (hw _ (List.mem_of_getElem? (i := 21) rfl))) (ty := .byte) (by decide)
      have pre44 : ∀ t, Steps p.tables e below (T41.setTop (mkF m 62 #[.val (.int p1), .val (.int (((p1.toUInt32 >>> ((16 : Int32) &&& 31).toUInt32).toInt32) % (3 : Int32))), .val (.int ((p1 &&& (255 : Int32)).toUInt32.toUInt16.toUInt32.toInt32)), .val (.int ((((p1.toUInt32 >>> ((8 : Int32) &&& 31).toUInt32).toInt32) &&& (255 : Int32)).toUInt32.toUInt16.toUInt32.toInt32))] [(.ref fb41)])) t → Steps p.tables e below (s₁.setTop (entryFrame m #[(.int p1)] 4)) t := by
        intro t kk
        refine pre0 t ?_
        show Steps p.tables e below (s₁.setTop (mkF m 0 #[.val (.int p1), .unset, .unset, .unset] [])) _
        refine XS.iloadN X0.here hx rfl (hb hby d_method_3_code_0) rfl ?_
        show Steps p.tables e below (s₁.setTop (mkF m 1 #[.val (.int p1), .unset, .unset, .unset] [(.int p1)])) _
        refine XS.bipush X0.here hx rfl (hb hby d_method_3_code_1) ?_
        show Steps p.tables e below (s₁.setTop (mkF m 3 #[.val (.int p1), .unset, .unset, .unset] [(.int (16 : Int32)), (.int p1)])) _
        refine XS.iushr X0.here hx rfl (hb hby d_method_3_code_3) rfl ?_
        show Steps p.tables e below (s₁.setTop (mkF m 4 #[.val (.int p1), .unset, .unset, .unset] [(.int ((p1.toUInt32 >>> ((16 : Int32) &&& 31).toUInt32).toInt32))])) _
        refine XS.iconst X0.here hx rfl (hb hby d_method_3_code_4) ?_
        show Steps p.tables e below (s₁.setTop (mkF m 5 #[.val (.int p1), .unset, .unset, .unset] [(.int (3 : Int32)), (.int ((p1.toUInt32 >>> ((16 : Int32) &&& 31).toUInt32).toInt32))])) _
        refine iremM (g := (mkF m 5 #[.val (.int p1), .unset, .unset, .unset] [(.int (3 : Int32)), (.int ((p1.toUInt32 >>> ((16 : Int32) &&& 31).toUInt32).toInt32))])) X0 hx rfl (hb hby d_method_3_code_5) rfl (by decide) ?_
        show Steps p.tables e below (s₁.setTop (mkF m 6 #[.val (.int p1), .unset, .unset, .unset] [(.int (((p1.toUInt32 >>> ((16 : Int32) &&& 31).toUInt32).toInt32) % (3 : Int32)))])) _
        refine XS.istoreN X0.here hx rfl (hb hby d_method_3_code_6) rfl (l' := #[.val (.int p1), .val (.int (((p1.toUInt32 >>> ((16 : Int32) &&& 31).toUInt32).toInt32) % (3 : Int32))), .unset, .unset]) rfl ?_
        show Steps p.tables e below (s₁.setTop (mkF m 7 #[.val (.int p1), .val (.int (((p1.toUInt32 >>> ((16 : Int32) &&& 31).toUInt32).toInt32) % (3 : Int32))), .unset, .unset] [])) _
        refine XS.iloadN X0.here hx rfl (hb hby d_method_3_code_7) rfl ?_
        show Steps p.tables e below (s₁.setTop (mkF m 8 #[.val (.int p1), .val (.int (((p1.toUInt32 >>> ((16 : Int32) &&& 31).toUInt32).toInt32) % (3 : Int32))), .unset, .unset] [(.int p1)])) _
        refine XS.sipush X0.here hx rfl (hb hby d_method_3_code_8) ?_
        show Steps p.tables e below (s₁.setTop (mkF m 11 #[.val (.int p1), .val (.int (((p1.toUInt32 >>> ((16 : Int32) &&& 31).toUInt32).toInt32) % (3 : Int32))), .unset, .unset] [(.int (255 : Int32)), (.int p1)])) _
        refine XS.iand X0.here hx rfl (hb hby d_method_3_code_11) rfl ?_
        show Steps p.tables e below (s₁.setTop (mkF m 12 #[.val (.int p1), .val (.int (((p1.toUInt32 >>> ((16 : Int32) &&& 31).toUInt32).toInt32) % (3 : Int32))), .unset, .unset] [(.int (p1 &&& (255 : Int32)))])) _
        refine XS.i2c X0.here hx rfl (hb hby d_method_3_code_12) rfl ?_
        show Steps p.tables e below (s₁.setTop (mkF m 13 #[.val (.int p1), .val (.int (((p1.toUInt32 >>> ((16 : Int32) &&& 31).toUInt32).toInt32) % (3 : Int32))), .unset, .unset] [(.int ((p1 &&& (255 : Int32)).toUInt32.toUInt16.toUInt32.toInt32))])) _
        refine XS.istoreN X0.here hx rfl (hb hby d_method_3_code_13) rfl (l' := #[.val (.int p1), .val (.int (((p1.toUInt32 >>> ((16 : Int32) &&& 31).toUInt32).toInt32) % (3 : Int32))), .val (.int ((p1 &&& (255 : Int32)).toUInt32.toUInt16.toUInt32.toInt32)), .unset]) rfl ?_
        show Steps p.tables e below (s₁.setTop (mkF m 14 #[.val (.int p1), .val (.int (((p1.toUInt32 >>> ((16 : Int32) &&& 31).toUInt32).toInt32) % (3 : Int32))), .val (.int ((p1 &&& (255 : Int32)).toUInt32.toUInt16.toUInt32.toInt32)), .unset] [])) _
        refine XS.iloadN X0.here hx rfl (hb hby d_method_3_code_14) rfl ?_
        show Steps p.tables e below (s₁.setTop (mkF m 15 #[.val (.int p1), .val (.int (((p1.toUInt32 >>> ((16 : Int32) &&& 31).toUInt32).toInt32) % (3 : Int32))), .val (.int ((p1 &&& (255 : Int32)).toUInt32.toUInt16.toUInt32.toInt32)), .unset] [(.int p1)])) _
        refine XS.bipush X0.here hx rfl (hb hby d_method_3_code_15) ?_
        show Steps p.tables e below (s₁.setTop (mkF m 17 #[.val (.int p1), .val (.int (((p1.toUInt32 >>> ((16 : Int32) &&& 31).toUInt32).toInt32) % (3 : Int32))), .val (.int ((p1 &&& (255 : Int32)).toUInt32.toUInt16.toUInt32.toInt32)), .unset] [(.int (8 : Int32)), (.int p1)])) _
        refine XS.iushr X0.here hx rfl (hb hby d_method_3_code_17) rfl ?_
        show Steps p.tables e below (s₁.setTop (mkF m 18 #[.val (.int p1), .val (.int (((p1.toUInt32 >>> ((16 : Int32) &&& 31).toUInt32).toInt32) % (3 : Int32))), .val (.int ((p1 &&& (255 : Int32)).toUInt32.toUInt16.toUInt32.toInt32)), .unset] [(.int ((p1.toUInt32 >>> ((8 : Int32) &&& 31).toUInt32).toInt32))])) _
        refine XS.sipush X0.here hx rfl (hb hby d_method_3_code_18) ?_
        show Steps p.tables e below (s₁.setTop (mkF m 21 #[.val (.int p1), .val (.int (((p1.toUInt32 >>> ((16 : Int32) &&& 31).toUInt32).toInt32) % (3 : Int32))), .val (.int ((p1 &&& (255 : Int32)).toUInt32.toUInt16.toUInt32.toInt32)), .unset] [(.int (255 : Int32)), (.int ((p1.toUInt32 >>> ((8 : Int32) &&& 31).toUInt32).toInt32))])) _
        refine XS.iand X0.here hx rfl (hb hby d_method_3_code_21) rfl ?_
        show Steps p.tables e below (s₁.setTop (mkF m 22 #[.val (.int p1), .val (.int (((p1.toUInt32 >>> ((16 : Int32) &&& 31).toUInt32).toInt32) % (3 : Int32))), .val (.int ((p1 &&& (255 : Int32)).toUInt32.toUInt16.toUInt32.toInt32)), .unset] [(.int (((p1.toUInt32 >>> ((8 : Int32) &&& 31).toUInt32).toInt32) &&& (255 : Int32)))])) _
        refine XS.i2c X0.here hx rfl (hb hby d_method_3_code_22) rfl ?_
        show Steps p.tables e below (s₁.setTop (mkF m 23 #[.val (.int p1), .val (.int (((p1.toUInt32 >>> ((16 : Int32) &&& 31).toUInt32).toInt32) % (3 : Int32))), .val (.int ((p1 &&& (255 : Int32)).toUInt32.toUInt16.toUInt32.toInt32)), .unset] [(.int ((((p1.toUInt32 >>> ((8 : Int32) &&& 31).toUInt32).toInt32) &&& (255 : Int32)).toUInt32.toUInt16.toUInt32.toInt32))])) _
        refine XS.istoreN X0.here hx rfl (hb hby d_method_3_code_23) rfl (l' := #[.val (.int p1), .val (.int (((p1.toUInt32 >>> ((16 : Int32) &&& 31).toUInt32).toInt32) % (3 : Int32))), .val (.int ((p1 &&& (255 : Int32)).toUInt32.toUInt16.toUInt32.toInt32)), .val (.int ((((p1.toUInt32 >>> ((8 : Int32) &&& 31).toUInt32).toInt32) &&& (255 : Int32)).toUInt32.toUInt16.toUInt32.toInt32))]) rfl ?_
        show Steps p.tables e below (s₁.setTop (mkF m 24 #[.val (.int p1), .val (.int (((p1.toUInt32 >>> ((16 : Int32) &&& 31).toUInt32).toInt32) % (3 : Int32))), .val (.int ((p1 &&& (255 : Int32)).toUInt32.toUInt16.toUInt32.toInt32)), .val (.int ((((p1.toUInt32 >>> ((8 : Int32) &&& 31).toUInt32).toInt32) &&& (255 : Int32)).toUInt32.toUInt16.toUInt32.toInt32))] [])) _
        refine XS.iloadN X0.here hx rfl (hb hby d_method_3_code_24) rfl ?_
        show Steps p.tables e below (s₁.setTop (mkF m 25 #[.val (.int p1), .val (.int (((p1.toUInt32 >>> ((16 : Int32) &&& 31).toUInt32).toInt32) % (3 : Int32))), .val (.int ((p1 &&& (255 : Int32)).toUInt32.toUInt16.toUInt32.toInt32)), .val (.int ((((p1.toUInt32 >>> ((8 : Int32) &&& 31).toUInt32).toInt32) &&& (255 : Int32)).toUInt32.toUInt16.toUInt32.toInt32))] [(.int (((p1.toUInt32 >>> ((16 : Int32) &&& 31).toUInt32).toInt32) % (3 : Int32)))])) _
        refine XS.ifYes X0.here hx rfl (pc0 := 25) (pc' := 39) rfl (hb hby d_method_3_code_25) rfl ((if0 _ _).trans (feq hl0).2) (by decide) (by decide) ?_
        show Steps p.tables e below (s₁.setTop (mkF m 39 #[.val (.int p1), .val (.int (((p1.toUInt32 >>> ((16 : Int32) &&& 31).toUInt32).toInt32) % (3 : Int32))), .val (.int ((p1 &&& (255 : Int32)).toUInt32.toUInt16.toUInt32.toInt32)), .val (.int ((((p1.toUInt32 >>> ((8 : Int32) &&& 31).toUInt32).toInt32) &&& (255 : Int32)).toUInt32.toUInt16.toUInt32.toInt32))] [])) _
        refine XS.iloadN X0.here hx rfl (hb hby d_method_3_code_39) rfl ?_
        show Steps p.tables e below (s₁.setTop (mkF m 40 #[.val (.int p1), .val (.int (((p1.toUInt32 >>> ((16 : Int32) &&& 31).toUInt32).toInt32) % (3 : Int32))), .val (.int ((p1 &&& (255 : Int32)).toUInt32.toUInt16.toUInt32.toInt32)), .val (.int ((((p1.toUInt32 >>> ((8 : Int32) &&& 31).toUInt32).toInt32) &&& (255 : Int32)).toUInt32.toUInt16.toUInt32.toInt32))] [(.int (((p1.toUInt32 >>> ((16 : Int32) &&& 31).toUInt32).toInt32) % (3 : Int32)))])) _
        refine XS.iconst X0.here hx rfl (hb hby d_method_3_code_40) ?_
        show Steps p.tables e below (s₁.setTop (mkF m 41 #[.val (.int p1), .val (.int (((p1.toUInt32 >>> ((16 : Int32) &&& 31).toUInt32).toInt32) % (3 : Int32))), .val (.int ((p1 &&& (255 : Int32)).toUInt32.toUInt16.toUInt32.toInt32)), .val (.int ((((p1.toUInt32 >>> ((8 : Int32) &&& 31).toUInt32).toInt32) &&& (255 : Int32)).toUInt32.toUInt16.toUInt32.toInt32))] [(.int (1 : Int32)), (.int (((p1.toUInt32 >>> ((16 : Int32) &&& 31).toUInt32).toInt32) % (3 : Int32)))])) _
        refine XS.icmpYes X0.here hx rfl (pc0 := 41) (pc' := 59) rfl (hb hby d_method_3_code_41) rfl (feq hl1).2 (by decide) (by decide) ?_
        show Steps p.tables e below (s₁.setTop (mkF m 59 #[.val (.int p1), .val (.int (((p1.toUInt32 >>> ((16 : Int32) &&& 31).toUInt32).toInt32) % (3 : Int32))), .val (.int ((p1 &&& (255 : Int32)).toUInt32.toUInt16.toUInt32.toInt32)), .val (.int ((((p1.toUInt32 >>> ((8 : Int32) &&& 31).toUInt32).toInt32) &&& (255 : Int32)).toUInt32.toUInt16.toUInt32.toInt32))] [])) _
        exact st41 _ kk
      obtain ⟨fb45, g45⟩ : ∃ z, z = h41.size := ⟨_, rfl⟩
      have ne_fb41_fb45 : fb41 ≠ fb45 := Nat.ne_of_lt (Nat.lt_of_lt_of_le O41.lt (Nat.le_of_eq g45.symm))
      have fc46 := (Nat.le_trans Z0 E41.1)
      have lo_fb45 : n0 ≤ fb45 := Nat.le_trans fc46 (Nat.le_of_eq g45.symm)
      have fc47 := ((Keep.refl h0 []).ext E41)
      have hi_fb45 : h0.size ≤ fb45 := Nat.le_trans fc47.1 (Nat.le_of_eq g45.symm)
      obtain ⟨T45, h45, k45, X45, e45, E45, A45, st45⟩ := newP X41 hx hZ (hw _ (List.mem_of_getElem? (i := 7) rfl)) e41 (g := (mkF m 64 #[.val (.int p1), .val (.int (((p1.toUInt32 >>> ((16 : Int32) &&& 31).toUInt32).toInt32) % (3 : Int32))), .val (.int ((p1 &&& (255 : Int32)).toUInt32.toUInt16.toUInt32.toInt32)), .val (.int ((((p1.toUInt32 >>> ((8 : Int32) &&& 31).toUInt32).toInt32) &&& (255 : Int32)).toUInt32.toUInt16.toUInt32.toInt32))] [(.int (2 : Int32)), (.ref fb41), (.ref fb41)])) rfl (hb hby d_method_3_code_64) rfl (by decide) (cap := 2) (by decide) (by decide) (by decide) (by decide)
      rw [← g45] at A45 st45
      have V45 : Arv Z h45 fb45 k45 .char (2 : Int32) [(.int (0 : Int32)), (.int (0 : Int32))] (.int (0 : Int32)) := (Arv.new A45 (by decide)).pad (pad_rep [] (.int (0 : Int32)) 2)
      have CR48 := CHr.trans CR43 (CHr.ext E45 CR43.1)
      have sf48_fb41 := (Safe.ext E45 CR43.1 sf43_fb41)
      have pre49 : ∀ t, Steps p.tables e below (T45.setTop (mkF m 66 #[.val (.int p1), .val (.int (((p1.toUInt32 >>> ((16 : Int32) &&& 31).toUInt32).toInt32) % (3 : Int32))), .val (.int ((p1 &&& (255 : Int32)).toUInt32.toUInt16.toUInt32.toInt32)), .val (.int ((((p1.toUInt32 >>> ((8 : Int32) &&& 31).toUInt32).toInt32) &&& (255 : Int32)).toUInt32.toUInt16.toUInt32.toInt32))] [(.ref fb45), (.ref fb41), (.ref fb41)])) t → Steps p.tables e below (s₁.setTop (entryFrame m #[(.int p1)] 4)) t := by
        intro t kk
        refine pre44 t ?_
        show Steps p.tables e below (T41.setTop (mkF m 62 #[.val (.int p1), .val (.int (((p1.toUInt32 >>> ((16 : Int32) &&& 31).toUInt32).toInt32) % (3 : Int32))), .val (.int ((p1 &&& (255 : Int32)).toUInt32.toUInt16.toUInt32.toInt32)), .val (.int ((((p1.toUInt32 >>> ((8 : Int32) &&& 31).toUInt32).toInt32) &&& (255 : Int32)).toUInt32.toUInt16.toUInt32.toInt32))] [(.ref fb41)])) _
        refine XS.dup X41.here hx rfl (hb hby d_method_3_code_62) rfl rfl ?_
        show Steps p.tables e below (T41.setTop (mkF m 63 #[.val (.int p1), .val (.int (((p1.toUInt32 >>> ((16 : Int32) &&& 31).toUInt32).toInt32) % (3 : Int32))), .val (.int ((p1 &&& (255 : Int32)).toUInt32.toUInt16.toUInt32.toInt32)), .val (.int ((((p1.toUInt32 >>> ((8 : Int32) &&& 31).toUInt32).toInt32) &&& (255 : Int32)).toUInt32.toUInt16.toUInt32.toInt32))] [(.ref fb41), (.ref fb41)])) _
        refine XS.iconst X41.here hx rfl (hb hby d_method_3_code_63) ?_
        show Steps p.tables e below (T41.setTop (mkF m 64 #[.val (.int p1), .val (.int (((p1.toUInt32 >>> ((16 : Int32) &&& 31).toUInt32).toInt32) % (3 : Int32))), .val (.int ((p1 &&& (255 : Int32)).toUInt32.toUInt16.toUInt32.toInt32)), .val (.int ((((p1.toUInt32 >>> ((8 : Int32) &&& 31).toUInt32).toInt32) &&& (255 : Int32)).toUInt32.toUInt16.toUInt32.toInt32))] [(.int (2 : Int32)), (.ref fb41), (.ref fb41)])) _
        exact st45 _ kk
      obtain ⟨cl50, Ar50, q50, S50, M50, H50, G50⟩ := id V45
      obtain ⟨T50, h50, X50, e50, W50, st50⟩ := stC X45 hx hZ e45 Ar50 (j := (0 : Int32)) (inb_of S50 ⟨(by decide), (by decide)⟩) (g := (mkF m 69 #[.val (.int p1), .val (.int (((p1.toUInt32 >>> ((16 : Int32) &&& 31).toUInt32).toInt32) % (3 : Int32))), .val (.int ((p1 &&& (255 : Int32)).toUInt32.toUInt16.toUInt32.toInt32)), .val (.int ((((p1.toUInt32 >>> ((8 : Int32) &&& 31).toUInt32).toInt32) &&& (255 : Int32)).toUInt32.toUInt16.toUInt32.toInt32))] [(.int ((p1 &&& (255 : Int32)).toUInt32.toUInt16.toUInt32.toInt32)), (.int (0 : Int32)), (.ref fb45), (.ref fb45), (.ref fb41), (.ref fb41)])) rfl rfl (hb hby d_method_3_code_69)
      have V50 : Arv Z h50 fb45 k45 .char (2 : Int32) [(.int (nar .char ((p1 &&& (255 : Int32)).toUInt32.toUInt16.toUInt32.toInt32))), (.int (0 : Int32))] (.int (0 : Int32)) := Arv.set Ar50 q50 S50 M50 H50 G50 (fits_nar_char _) W50 0 rfl (Nat.le_of_ble_eq_true rfl)
      have SA51 := (Safe.arv (EL := own_EL) hZ.alike V45 (by decide))
      have CR51 := CHr.trans CR48 (CHr.wr W50 SA51 CR48.1)
      have sf51_fb41 := (Safe.wr W50 SA51 CR48.1 sf48_fb41)
      have N50 := Fr.snoc X50 N0 lo_fb45
      have pre52 : ∀ t, Steps p.tables e below (T50.setTop (mkF m 70 #[.val (.int p1), .val (.int (((p1.toUInt32 >>> ((16 : Int32) &&& 31).toUInt32).toInt32) % (3 : Int32))), .val (.int ((p1 &&& (255 : Int32)).toUInt32.toUInt16.toUInt32.toInt32)), .val (.int ((((p1.toUInt32 >>> ((8 : Int32) &&& 31).toUInt32).toInt32) &&& (255 : Int32)).toUInt32.toUInt16.toUInt32.toInt32))] [(.ref fb45), (.ref fb41), (.ref fb41)])) t → Steps p.tables e below (s₁.setTop (entryFrame m #[(.int p1)] 4)) t := by
        intro t kk
        refine pre49 t ?_
        show Steps p.tables e below (T45.setTop (mkF m 66 #[.val (.int p1), .val (.int (((p1.toUInt32 >>> ((16 : Int32) &&& 31).toUInt32).toInt32) % (3 : Int32))), .val (.int ((p1 &&& (255 : Int32)).toUInt32.toUInt16.toUInt32.toInt32)), .val (.int ((((p1.toUInt32 >>> ((8 : Int32) &&& 31).toUInt32).toInt32) &&& (255 : Int32)).toUInt32.toUInt16.toUInt32.toInt32))] [(.ref fb45), (.ref fb41), (.ref fb41)])) _
        refine XS.dup X45.here hx rfl (hb hby d_method_3_code_66) rfl rfl ?_
        show Steps p.tables e below (T45.setTop (mkF m 67 #[.val (.int p1), .val (.int (((p1.toUInt32 >>> ((16 : Int32) &&& 31).toUInt32).toInt32) % (3 : Int32))), .val (.int ((p1 &&& (255 : Int32)).toUInt32.toUInt16.toUInt32.toInt32)), .val (.int ((((p1.toUInt32 >>> ((8 : Int32) &&& 31).toUInt32).toInt32) &&& (255 : Int32)).toUInt32.toUInt16.toUInt32.toInt32))] [(.ref fb45), (.ref fb45), (.ref fb41), (.ref fb41)])) _
        refine XS.iconst X45.here hx rfl (hb hby d_method_3_code_67) ?_
        show Steps p.tables e below (T45.setTop (mkF m 68 #[.val (.int p1), .val (.int (((p1.toUInt32 >>> ((16 : Int32) &&& 31).toUInt32).toInt32) % (3 : Int32))), .val (.int ((p1 &&& (255 : Int32)).toUInt32.toUInt16.toUInt32.toInt32)), .val (.int ((((p1.toUInt32 >>> ((8 : Int32) &&& 31).toUInt32).toInt32) &&& (255 : Int32)).toUInt32.toUInt16.toUInt32.toInt32))] [(.int (0 : Int32)), (.ref fb45), (.ref fb45), (.ref fb41), (.ref fb41)])) _
        refine XS.iloadN X45.here hx rfl (hb hby d_method_3_code_68) rfl ?_
        show Steps p.tables e below (T45.setTop (mkF m 69 #[.val (.int p1), .val (.int (((p1.toUInt32 >>> ((16 : Int32) &&& 31).toUInt32).toInt32) % (3 : Int32))), .val (.int ((p1 &&& (255 : Int32)).toUInt32.toUInt16.toUInt32.toInt32)), .val (.int ((((p1.toUInt32 >>> ((8 : Int32) &&& 31).toUInt32).toInt32) &&& (255 : Int32)).toUInt32.toUInt16.toUInt32.toInt32))] [(.int ((p1 &&& (255 : Int32)).toUInt32.toUInt16.toUInt32.toInt32)), (.int (0 : Int32)), (.ref fb45), (.ref fb45), (.ref fb41), (.ref fb41)])) _
        exact st50 _ kk
      obtain ⟨cl53, Ar53, q53, S53, M53, H53, G53⟩ := id V50
      obtain ⟨T53, h53, X53, e53, W53, st53⟩ := stC X50 hx hZ e50 Ar53 (j := (1 : Int32)) (inb_of S53 ⟨(by decide), (by decide)⟩) (g := (mkF m 73 #[.val (.int p1), .val (.int (((p1.toUInt32 >>> ((16 : Int32) &&& 31).toUInt32).toInt32) % (3 : Int32))), .val (.int ((p1 &&& (255 : Int32)).toUInt32.toUInt16.toUInt32.toInt32)), .val (.int ((((p1.toUInt32 >>> ((8 : Int32) &&& 31).toUInt32).toInt32) &&& (255 : Int32)).toUInt32.toUInt16.toUInt32.toInt32))] [(.int ((((p1.toUInt32 >>> ((8 : Int32) &&& 31).toUInt32).toInt32) &&& (255 : Int32)).toUInt32.toUInt16.toUInt32.toInt32)), (.int (1 : Int32)), (.ref fb45), (.ref fb45), (.ref fb41), (.ref fb41)])) rfl rfl (hb hby d_method_3_code_73)
      have V53 : Arv Z h53 fb45 k45 .char (2 : Int32) [(.int (nar .char ((p1 &&& (255 : Int32)).toUInt32.toUInt16.toUInt32.toInt32))), (.int (nar .char ((((p1.toUInt32 >>> ((8 : Int32) &&& 31).toUInt32).toInt32) &&& (255 : Int32)).toUInt32.toUInt16.toUInt32.toInt32)))] (.int (0 : Int32)) := Arv.set Ar53 q53 S53 M53 H53 G53 (fits_nar_char _) W53 1 rfl (Nat.le_of_ble_eq_true rfl)
      have SA54 := (Safe.arv (EL := own_EL) hZ.alike V50 (by decide))
      have CR54 := CHr.trans CR51 (CHr.wr W53 SA54 CR51.1)
      have sf54_fb41 := (Safe.wr W53 SA54 CR51.1 sf51_fb41)
      have N53 := Fr.snoc X53 N50 lo_fb45
      have pre55 : ∀ t, Steps p.tables e below (T53.setTop (mkF m 74 #[.val (.int p1), .val (.int (((p1.toUInt32 >>> ((16 : Int32) &&& 31).toUInt32).toInt32) % (3 : Int32))), .val (.int ((p1 &&& (255 : Int32)).toUInt32.toUInt16.toUInt32.toInt32)), .val (.int ((((p1.toUInt32 >>> ((8 : Int32) &&& 31).toUInt32).toInt32) &&& (255 : Int32)).toUInt32.toUInt16.toUInt32.toInt32))] [(.ref fb45), (.ref fb41), (.ref fb41)])) t → Steps p.tables e below (s₁.setTop (entryFrame m #[(.int p1)] 4)) t := by
        intro t kk
        refine pre52 t ?_
        show Steps p.tables e below (T50.setTop (mkF m 70 #[.val (.int p1), .val (.int (((p1.toUInt32 >>> ((16 : Int32) &&& 31).toUInt32).toInt32) % (3 : Int32))), .val (.int ((p1 &&& (255 : Int32)).toUInt32.toUInt16.toUInt32.toInt32)), .val (.int ((((p1.toUInt32 >>> ((8 : Int32) &&& 31).toUInt32).toInt32) &&& (255 : Int32)).toUInt32.toUInt16.toUInt32.toInt32))] [(.ref fb45), (.ref fb41), (.ref fb41)])) _
        refine XS.dup X50.here hx rfl (hb hby d_method_3_code_70) rfl rfl ?_
        show Steps p.tables e below (T50.setTop (mkF m 71 #[.val (.int p1), .val (.int (((p1.toUInt32 >>> ((16 : Int32) &&& 31).toUInt32).toInt32) % (3 : Int32))), .val (.int ((p1 &&& (255 : Int32)).toUInt32.toUInt16.toUInt32.toInt32)), .val (.int ((((p1.toUInt32 >>> ((8 : Int32) &&& 31).toUInt32).toInt32) &&& (255 : Int32)).toUInt32.toUInt16.toUInt32.toInt32))] [(.ref fb45), (.ref fb45), (.ref fb41), (.ref fb41)])) _
        refine XS.iconst X50.here hx rfl (hb hby d_method_3_code_71) ?_
        show Steps p.tables e below (T50.setTop (mkF m 72 #[.val (.int p1), .val (.int (((p1.toUInt32 >>> ((16 : Int32) &&& 31).toUInt32).toInt32) % (3 : Int32))), .val (.int ((p1 &&& (255 : Int32)).toUInt32.toUInt16.toUInt32.toInt32)), .val (.int ((((p1.toUInt32 >>> ((8 : Int32) &&& 31).toUInt32).toInt32) &&& (255 : Int32)).toUInt32.toUInt16.toUInt32.toInt32))] [(.int (1 : Int32)), (.ref fb45), (.ref fb45), (.ref fb41), (.ref fb41)])) _
        refine XS.iloadN X50.here hx rfl (hb hby d_method_3_code_72) rfl ?_
        show Steps p.tables e below (T50.setTop (mkF m 73 #[.val (.int p1), .val (.int (((p1.toUInt32 >>> ((16 : Int32) &&& 31).toUInt32).toInt32) % (3 : Int32))), .val (.int ((p1 &&& (255 : Int32)).toUInt32.toUInt16.toUInt32.toInt32)), .val (.int ((((p1.toUInt32 >>> ((8 : Int32) &&& 31).toUInt32).toInt32) &&& (255 : Int32)).toUInt32.toUInt16.toUInt32.toInt32))] [(.int ((((p1.toUInt32 >>> ((8 : Int32) &&& 31).toUInt32).toInt32) &&& (255 : Int32)).toUInt32.toUInt16.toUInt32.toInt32)), (.int (1 : Int32)), (.ref fb45), (.ref fb45), (.ref fb41), (.ref fb41)])) _
        exact st53 _ kk
      have fc56 := (((O41.ext E45).wr W50).wr W53)
      have fc57 := (((F41_value.ext E45).other W50 (Or.inl ne_fb41_fb45)).other W53 (Or.inl ne_fb41_fb45))
      have fc58 := (((F41_coder.ext E45).other W50 (Or.inl ne_fb41_fb45)).other W53 (Or.inl ne_fb41_fb45))
      have fc59 := ((((XO.ext E41).ext E45).wr W50 lo_fb45).wr W53 lo_fb45)
      have fc61 := (Nat.le_trans (Nat.le_trans (Nat.le_trans fc46 E45.1) (Keep.of_wr W50).1) (Keep.of_wr W53).1)
      obtain ⟨_, _, ⟨T60, L60, k60, n60⟩, -, X60, ⟨Lc60, hQ60, l60, y60, z60⟩, st60⟩ := X53.specialBack hx (y := (⟨"java/lang/String", "<init>", "([C)V"⟩ : MethodName)) rfl hown (mvT hZ (hw _ (List.mem_of_getElem? (i := 8) rfl))) (mvT hZ (hw _ (List.mem_of_getElem? (i := 9) rfl))) (mvT hZ (hw _ (List.mem_of_getElem? (i := 10) rfl))) (by decide) (StrChars.Road.backV (W := 1) hZ hws (kI := 4) (hw _ (List.mem_of_getElem? (i := 5) rfl)) (cs := ([(nar .char ((p1 &&& (255 : Int32)).toUInt32.toUInt16.toUInt32.toInt32)), (nar .char ((((p1.toUInt32 >>> ((8 : Int32) &&& 31).toUInt32).toInt32) &&& (255 : Int32)).toUInt32.toUInt16.toUInt32.toInt32))] : List Int32)) (bs := ([(nar .char ((p1 &&& (255 : Int32)).toUInt32.toUInt16.toUInt32.toInt32)), (nar .char ((((p1.toUInt32 >>> ((8 : Int32) &&& 31).toUInt32).toInt32) &&& (255 : Int32)).toUInt32.toUInt16.toUInt32.toInt32))] : List Int32).map (fun c => c.toInt8.toInt32)) (n := 2) lo_fb41 fc61 fc56.exa fc57 fc58 V53 (O2.ext fc59.2) P5 rfl rfl (by decide) (by decide) (own_pc (own_n8 _) (own_pc (own_n8 _) own_p0)) rfl (by decide) (by decide)) (g := (mkF m 74 #[.val (.int p1), .val (.int (((p1.toUInt32 >>> ((16 : Int32) &&& 31).toUInt32).toInt32) % (3 : Int32))), .val (.int ((p1 &&& (255 : Int32)).toUInt32.toUInt16.toUInt32.toInt32)), .val (.int ((((p1.toUInt32 >>> ((8 : Int32) &&& 31).toUInt32).toInt32) &&& (255 : Int32)).toUInt32.toUInt16.toUInt32.toInt32))] [(.ref fb45), (.ref fb41), (.ref fb41)])) rfl (by rw [hml]; rfl) (Steps.refl _) (a := fb41) (argsL := [(.ref fb45)]) (rest := [(.ref fb41)]) (lenOf pd___C_V rfl) rfl (by show 2 * 0 + _ ≤ _; exact Nat.le_of_eq rfl) (hb hby d_method_3_code_74) (fun _ _ => ⟨rfl, e53, (by decide : 2 + 1 ≤ _), (by decide : 6 + 2 ≤ _)⟩)
      dsimp only [Pt.U, Pt.locs, Pt.cells, Pt.slots] at X60 l60 y60 z60 st60 hQ60
      subst l60 y60 z60
      obtain ⟨rfl, N60q, K60, Ex60, Fc60, t60, kb60, u60, lo60, ne60, Fv60, Vt60⟩ := hQ60
      have N60 := Fr.app N53 N60q
      have SA62 : ∀ y ∈ [fb41], Safe Z own_EL _ _ y := (sfS sf54_fb41 sf0)
      have CR62 := CHr.trans CR54 (CHr.keep K60 SA62 CR54.1)
      have sf62_fb41 := (Safe.keep K60 SA62 CR54.1 sf54_fb41)
      have pre63 : ∀ t, Steps p.tables e below (T60.setTop (mkF m 77 #[.val (.int p1), .val (.int (((p1.toUInt32 >>> ((16 : Int32) &&& 31).toUInt32).toInt32) % (3 : Int32))), .val (.int ((p1 &&& (255 : Int32)).toUInt32.toUInt16.toUInt32.toInt32)), .val (.int ((((p1.toUInt32 >>> ((8 : Int32) &&& 31).toUInt32).toInt32) &&& (255 : Int32)).toUInt32.toUInt16.toUInt32.toInt32))] [(.ref fb41)])) t → Steps p.tables e below (s₁.setTop (entryFrame m #[(.int p1)] 4)) t := by
        intro t kk
        refine pre55 t ?_
        show Steps p.tables e below (T53.setTop (mkF m 74 #[.val (.int p1), .val (.int (((p1.toUInt32 >>> ((16 : Int32) &&& 31).toUInt32).toInt32) % (3 : Int32))), .val (.int ((p1 &&& (255 : Int32)).toUInt32.toUInt16.toUInt32.toInt32)), .val (.int ((((p1.toUInt32 >>> ((8 : Int32) &&& 31).toUInt32).toInt32) &&& (255 : Int32)).toUInt32.toUInt16.toUInt32.toInt32))] [(.ref fb45), (.ref fb41), (.ref fb41)])) _
        exact st60.trans kk
      have ne_fb45_t60 : fb45 ≠ t60 := Nat.ne_of_lt (Nat.lt_of_lt_of_le V53.lt lo60)
      have fc64 := ((((fc47.ext E45).wr W50 (Or.inr hi_fb45)).wr W53 (Or.inr hi_fb45)).trans K60 (allS (Or.inr hi_fb41) all0))
      have fc65 := (fc56.keep K60)
      have fc66 := (Nat.le_trans (Nat.le_trans (Nat.le_trans (Nat.le_trans (Nat.le_trans hk0 E41.1) E45.1) (Keep.of_wr W50).1) (Keep.of_wr W53).1) K60.1)
      obtain ⟨fs, hr, hrun, hended, hRW⟩ := X60.leaveW hS0 fc66 (v := some (.ref fb41)) (fun h => by rw [Bd.returns] at h; cases h)
      have CRe := CHr.trans CR62 (CHv.at X60 hZ hEL CR62.1)
      refine ⟨_, _, pre63 _ ?_, hrun, hended, _, _, rfl, ?_, ?_, hRW.1, hRW.2.1, hRW.2.2.1, hRW.2.2.2.mono (by decide) (by decide)⟩
      · show Steps p.tables e below (T60.setTop (mkF m 77 #[.val (.int p1), .val (.int (((p1.toUInt32 >>> ((16 : Int32) &&& 31).toUInt32).toInt32) % (3 : Int32))), .val (.int ((p1 &&& (255 : Int32)).toUInt32.toUInt16.toUInt32.toInt32)), .val (.int ((((p1.toUInt32 >>> ((8 : Int32) &&& 31).toUInt32).toInt32) &&& (255 : Int32)).toUInt32.toUInt16.toUInt32.toInt32))] [(.ref fb41)])) _
        jvm_step X60.here [X60.here.top, hx, (hb hby d_method_3_code_77), X60.method', Bd.returns, Value.isRef, FieldType.isReference]
        first | (intro acts; rw [hr _ acts rfl rfl rfl]) | rw [hr _ _ rfl rfl rfl]
        exact Steps.refl _
      · show Q_own_mk Z p1 G1 h0 n0 _ T60.heap _
        exact ⟨fb41, t60, kb60, [(nar .char ((p1 &&& (255 : Int32)).toUInt32.toUInt16.toUInt32.toInt32)), (nar .char ((((p1.toUInt32 >>> ((8 : Int32) &&& 31).toUInt32).toInt32) &&& (255 : Int32)).toUInt32.toUInt16.toUInt32.toInt32))], rfl, N60, fc64, fc65.exa, Fv60, Fc60, Vt60, Nat.le_of_ble_eq_true rfl, (own_pc (own_n8 _) (own_pc (own_n8 _) own_p0))⟩
      · show CHr Z own_EL s.vm s.heap T60.vm T60.heap
        rw [hh]
        exact CRe
theorem pn_java_lang_Record : plainName "java/lang/Record" = true := by first | (simp [plainName, overriddenIn]; done) | decide +kernel
theorem d_jdk_30_method_1_code_0 : decode jdk_30_method_1_code 0 = .ok (.aload_n 0, 1) := by decide +kernel
theorem d_jdk_30_method_1_code_1 : decode jdk_30_method_1_code 1 = .ok (.invokespecial 1, 3) := by decide +kernel
theorem d_jdk_30_method_1_code_4 : decode jdk_30_method_1_code 4 = .ok (.return_, 1) := by decide +kernel
theorem ef_own_rec (m : MethodId) {a1 : Addr} : entryFrame m #[(.ref a1)] 1 = mkF m 0 #[.val (.ref a1)] [] := by first | (simp [entryFrame, mkF, argsToLocals, Value.category]; done) | rfl
def Q_own_rec (Z : State) (a1 : Addr) (h0 : Heap) (n0 : Nat) (v : Option Value) (h : Heap) (L : List Loc) : Prop := v = none ∧ Fr n0 L ∧ h = h0
set_option maxRecDepth 65536 in
set_option maxHeartbeats 40000000 in
theorem own_rec (l : Launch) (Z : State) (a0 : Array Value) (hw : ∀ d ∈ tables_1, d.before a0 Z = true) (ws : List Jvm.Cond) (a1 : Addr) (h0 : Heap) (n0 : Nat) (Z0 : n0 ≤ h0.size)  :
    MetFree l (⟨"java/lang/Record", "<init>", "()V"⟩ : MethodName) (head1 (Jvm.Cond.code (⟨"java/lang/Record", "<init>", "()V"⟩ : MethodName) jdk_30_method_1_code 1 none :: ws) ({ frames := 1, cells := 0, slots := 0, locals := 12 } : Room)) (fun a U => a = #[(.ref a1)] ∧ Z.Warmed39 U.vm ∧ U.heap = h0) (fun _ _ _ _ _ => True) (fun _ U o U' => ∃ v L, o = .returned v ∧ Q_own_rec Z a1 h0 n0 v U'.heap L ∧ FrameEnd U o U' L ({ frames := 1, cells := 0, slots := 0, locals := 12 } : Room).cells ({ frames := 1, cells := 0, slots := 0, locals := 12 } : Room).slots) := by
  refine MetFree.of_bodySF (plainFor_of_name pn_java_lang_Record) hisR ?_
  intro p e s m args below meth c s₁ Bd hml0 hP hK
  obtain ⟨rfl, hZ, hh⟩ := hP
  have hx := Bd.exec
  have hby := Bd.bytes
  have hml : c.maxLocals = 1 := hml0
  have hown : s.vm.findClass "java/lang/Record" = some m.cls := findClass_of_methodNamed Bd.named
  have hnm := (name_of_methodNamed Bd.named Bd.method).1
  have X0 : Stand p l e ({ frames := 1, cells := 0, slots := 0, locals := 12 } : Room) s m #[(.ref a1)] below meth c s₁ [] 0 0 := Stand.of_body Bd
  have e0 : s₁.heap = h0 := by rw [← hh, Bd.state]; rfl
  have N0 := Fr.nil n0
  have pre0 : ∀ t, Steps p.tables e below (s₁.setTop (mkF m 0 #[.val (.ref a1)] [])) t → Steps p.tables e below (s₁.setTop (entryFrame m #[(.ref a1)] 1)) t := fun t k => castTop (ef_own_rec m) k
  obtain ⟨T1, X1, e1, st1⟩ := initO X0 hx hZ hown (hw _ (List.mem_of_getElem? (i := 151) rfl)) (hw _ (List.mem_of_getElem? (i := 16) rfl)) (hw _ (List.mem_of_getElem? (i := 17) rfl)) e0 (g := (mkF m 1 #[.val (.ref a1)] [(.ref a1)])) rfl (by rw [hml]; rfl) rfl (hb hby d_jdk_30_method_1_code_1) (by decide) (W := 0) (by show 2 * 0 + _ ≤ _; exact Nat.le_of_eq rfl) (by decide)
  have pre2 : ∀ t, Steps p.tables e below (T1.setTop (mkF m 4 #[.val (.ref a1)] [])) t → Steps p.tables e below (s₁.setTop (entryFrame m #[(.ref a1)] 1)) t := by
    intro t kk
    refine pre0 t ?_
    show Steps p.tables e below (s₁.setTop (mkF m 0 #[.val (.ref a1)] [])) _
    refine XS.aloadN X0.here hx rfl (hb hby d_jdk_30_method_1_code_0) rfl rfl ?_
    show Steps p.tables e below (s₁.setTop (mkF m 1 #[.val (.ref a1)] [(.ref a1)])) _
    exact st1 _ kk
  obtain ⟨fs, hr, hrun, hended, hW, hsame⟩ := X1.leave (v := none) (fun _ => rfl)
  refine ⟨_, _, pre2 _ ?_, hrun, hended, _, _, rfl, ?_, ⟨_, rfl⟩, hW, hsame.mono (by decide) (by decide)⟩
  · show Steps p.tables e below (T1.setTop (mkF m 4 #[.val (.ref a1)] [])) _
    exact X1.returnOut hx Bd.returns (hb hby d_jdk_30_method_1_code_4) hr
  · show Q_own_rec Z a1 h0 n0 _ T1.heap _
    rw [e1]
    exact ⟨rfl, N0, rfl⟩
theorem pn_com_example_hulse_hulse_failure_Explanation : plainName "com/example/hulse/hulse/failure/Explanation" = true := by first | (simp [plainName, overriddenIn]; done) | decide +kernel
theorem d_prog_86_method_1_code_0 : decode prog_86_method_1_code 0 = .ok (.aload_n 0, 1) := by decide +kernel
theorem pd___V : parseMethodDescriptor "()V" = some ⟨[], none⟩ := by decide +kernel
theorem d_prog_86_method_1_code_1 : decode prog_86_method_1_code 1 = .ok (.invokespecial 1, 3) := by decide +kernel
theorem d_prog_86_method_1_code_4 : decode prog_86_method_1_code 4 = .ok (.aload_n 0, 1) := by decide +kernel
theorem d_prog_86_method_1_code_5 : decode prog_86_method_1_code 5 = .ok (.aload_n 1, 1) := by decide +kernel
theorem d_prog_86_method_1_code_6 : decode prog_86_method_1_code 6 = .ok (.putfield 7, 3) := by decide +kernel
theorem d_prog_86_method_1_code_9 : decode prog_86_method_1_code 9 = .ok (.aload_n 0, 1) := by decide +kernel
theorem d_prog_86_method_1_code_10 : decode prog_86_method_1_code 10 = .ok (.aload_n 2, 1) := by decide +kernel
theorem d_prog_86_method_1_code_11 : decode prog_86_method_1_code 11 = .ok (.putfield 13, 3) := by decide +kernel
theorem d_prog_86_method_1_code_14 : decode prog_86_method_1_code 14 = .ok (.aload_n 0, 1) := by decide +kernel
theorem d_prog_86_method_1_code_15 : decode prog_86_method_1_code 15 = .ok (.aload_n 3, 1) := by decide +kernel
theorem d_prog_86_method_1_code_16 : decode prog_86_method_1_code 16 = .ok (.putfield 16, 3) := by decide +kernel
theorem d_prog_86_method_1_code_19 : decode prog_86_method_1_code 19 = .ok (.return_, 1) := by decide +kernel
theorem ef_own_exi (m : MethodId) {a1 : Addr} {x1 : Addr} {x2 : Addr} {x3 : Addr} : entryFrame m #[(.ref a1), (.ref x1), (.ref x2), (.ref x3)] 4 = mkF m 0 #[.val (.ref a1), .val (.ref x1), .val (.ref x2), .val (.ref x3)] [] := by first | (simp [entryFrame, mkF, argsToLocals, Value.category]; done) | rfl
def Q_own_exi (Z : State) (a1 x1 x2 x3 : Addr) (h0 : Heap) (n0 : Nat) (v : Option Value) (h : Heap) (L : List Loc) : Prop := v = none ∧ Fr n0 L ∧ Keep h0 h [a1] ∧ Fld Z h a1 "com/example/hulse/hulse/failure/Explanation" "message" "Ljava/lang/String;" (.ref x1) ∧ Fld Z h a1 "com/example/hulse/hulse/failure/Explanation" "description" "Ljava/lang/String;" (.ref x2) ∧ Fld Z h a1 "com/example/hulse/hulse/failure/Explanation" "action" "Ljava/lang/String;" (.ref x3)
set_option maxRecDepth 65536 in
set_option maxHeartbeats 40000000 in
theorem own_exi (l : Launch) (Z : State) (a0 : Array Value) (hw : ∀ d ∈ tables_1, d.before a0 Z = true) (ws : List Jvm.Cond) (a1 x1 x2 x3 : Addr) (h0 : Heap) (n0 : Nat) (Z0 : n0 ≤ h0.size) (O1 : Obj Z h0 a1 "com/example/hulse/hulse/failure/Explanation") (g1 : n0 ≤ a1) :
    MetFree l (⟨"com/example/hulse/hulse/failure/Explanation", "<init>", "(Ljava/lang/String;Ljava/lang/String;Ljava/lang/String;)V"⟩ : MethodName) (head1 (Jvm.Cond.code (⟨"com/example/hulse/hulse/failure/Explanation", "<init>", "(Ljava/lang/String;Ljava/lang/String;Ljava/lang/String;)V"⟩ : MethodName) prog_86_method_1_code 4 none :: ws) ({ frames := 2, cells := 0, slots := 0, locals := 24 } : Room)) (fun a U => a = #[(.ref a1), (.ref x1), (.ref x2), (.ref x3)] ∧ Z.Warmed39 U.vm ∧ U.heap = h0) (fun _ _ _ _ _ => True) (fun _ U o U' => ∃ v L, o = .returned v ∧ Q_own_exi Z a1 x1 x2 x3 h0 n0 v U'.heap L ∧ FrameEnd U o U' L ({ frames := 2, cells := 0, slots := 0, locals := 24 } : Room).cells ({ frames := 2, cells := 0, slots := 0, locals := 24 } : Room).slots) := by
  refine MetFree.of_bodySF (plainFor_of_name pn_com_example_hulse_hulse_failure_Explanation) hisR ?_
  intro p e s m args below meth c s₁ Bd hml0 hP hK
  obtain ⟨rfl, hZ, hh⟩ := hP
  have hx := Bd.exec
  have hby := Bd.bytes
  have hml : c.maxLocals = 4 := hml0
  have hown : s.vm.findClass "com/example/hulse/hulse/failure/Explanation" = some m.cls := findClass_of_methodNamed Bd.named
  have hnm := (name_of_methodNamed Bd.named Bd.method).1
  have X0 : Stand p l e ({ frames := 2, cells := 0, slots := 0, locals := 24 } : Room) s m #[(.ref a1), (.ref x1), (.ref x2), (.ref x3)] below meth c s₁ [] 0 0 := Stand.of_body Bd
  have e0 : s₁.heap = h0 := by rw [← hh, Bd.state]; rfl
  have N0 := Fr.nil n0
  have pre0 : ∀ t, Steps p.tables e below (s₁.setTop (mkF m 0 #[.val (.ref a1), .val (.ref x1), .val (.ref x2), .val (.ref x3)] [])) t → Steps p.tables e below (s₁.setTop (entryFrame m #[(.ref a1), (.ref x1), (.ref x2), (.ref x3)] 4)) t := fun t k => castTop (ef_own_exi m) k
  obtain ⟨_, _, ⟨T1, L1, k1, n1⟩, -, X1, ⟨Lc1, hQ1, l1, y1, z1⟩, st1⟩ := X0.specialBack hx (y := (⟨"java/lang/Record", "<init>", "()V"⟩ : MethodName)) rfl hown (mvT hZ (hw _ (List.mem_of_getElem? (i := 146) rfl))) (mvT hZ (hw _ (List.mem_of_getElem? (i := 147) rfl))) (mvT hZ (hw _ (List.mem_of_getElem? (i := 150) rfl))) (by decide) (backOf (W := 0) (own_rec l Z a0 hw [] a1 h0 n0 Z0) hZ (hw _ (List.mem_of_getElem? (i := 150) rfl)) (hw _ (List.mem_of_getElem? (i := 149) rfl)) (by decide) (by decide)) (g := (mkF m 1 #[.val (.ref a1), .val (.ref x1), .val (.ref x2), .val (.ref x3)] [(.ref a1)])) rfl (by rw [hml]; rfl) (Steps.refl _) (a := a1) (argsL := []) (rest := []) (lenOf pd___V rfl) rfl (by show 2 * 0 + _ ≤ _; exact Nat.le_of_eq rfl) (hb hby d_prog_86_method_1_code_1) (fun _ _ => ⟨rfl, e0, (by decide : 0 + 0 ≤ _), (by decide : 0 + 0 ≤ _)⟩)
  dsimp only [Pt.U, Pt.locs, Pt.cells, Pt.slots] at X1 l1 y1 z1 st1 hQ1
  subst l1 y1 z1
  obtain ⟨rfl, N1q, e1q⟩ := hQ1
  have N1 := Fr.app N0 N1q
  have pre2 : ∀ t, Steps p.tables e below (T1.setTop (mkF m 4 #[.val (.ref a1), .val (.ref x1), .val (.ref x2), .val (.ref x3)] [])) t → Steps p.tables e below (s₁.setTop (entryFrame m #[(.ref a1), (.ref x1), (.ref x2), (.ref x3)] 4)) t := by
    intro t kk
    refine pre0 t ?_
    show Steps p.tables e below (s₁.setTop (mkF m 0 #[.val (.ref a1), .val (.ref x1), .val (.ref x2), .val (.ref x3)] [])) _
    refine XS.aloadN X0.here hx rfl (hb hby d_prog_86_method_1_code_0) rfl rfl ?_
    show Steps p.tables e below (s₁.setTop (mkF m 1 #[.val (.ref a1), .val (.ref x1), .val (.ref x2), .val (.ref x3)] [(.ref a1)])) _
    exact st1.trans kk
  obtain ⟨u3, U3⟩ := Obj.fld O1 (Or.inr (hw _ (List.mem_of_getElem? (i := 153) rfl))) (hw _ (List.mem_of_getElem? (i := 31) rfl))
  obtain ⟨T3, h3, X3, e3, W3, st3⟩ := putF X1 hx hZ hown (host := "") (Or.inl (hw _ (List.mem_of_getElem? (i := 152) rfl))) Via.refl e1q U3 O1.exa (Or.inr ⟨(hw _ (List.mem_of_getElem? (i := 153) rfl)), rfl, hnm⟩) (hw _ (List.mem_of_getElem? (i := 31) rfl)) (ty := (.object "java/lang/String")) (by decide) rfl rfl (g := (mkF m 6 #[.val (.ref a1), .val (.ref x1), .val (.ref x2), .val (.ref x3)] [(.ref x1), (.ref a1)])) rfl rfl (hb hby d_prog_86_method_1_code_6)
  have N3 := Fr.snoc X3 N1 g1
  have Fw3 := U3.same W3
  have pre4 : ∀ t, Steps p.tables e below (T3.setTop (mkF m 9 #[.val (.ref a1), .val (.ref x1), .val (.ref x2), .val (.ref x3)] [])) t → Steps p.tables e below (s₁.setTop (entryFrame m #[(.ref a1), (.ref x1), (.ref x2), (.ref x3)] 4)) t := by
    intro t kk
    refine pre2 t ?_
    show Steps p.tables e below (T1.setTop (mkF m 4 #[.val (.ref a1), .val (.ref x1), .val (.ref x2), .val (.ref x3)] [])) _
    refine XS.aloadN X1.here hx rfl (hb hby d_prog_86_method_1_code_4) rfl rfl ?_
    show Steps p.tables e below (T1.setTop (mkF m 5 #[.val (.ref a1), .val (.ref x1), .val (.ref x2), .val (.ref x3)] [(.ref a1)])) _
    refine XS.aloadN X1.here hx rfl (hb hby d_prog_86_method_1_code_5) rfl rfl ?_
    show Steps p.tables e below (T1.setTop (mkF m 6 #[.val (.ref a1), .val (.ref x1), .val (.ref x2), .val (.ref x3)] [(.ref x1), (.ref a1)])) _
    exact st3 _ kk
  have fc5 := (O1.wr W3)
  obtain ⟨u6, U6⟩ := Obj.fld fc5 (Or.inr (hw _ (List.mem_of_getElem? (i := 155) rfl))) (hw _ (List.mem_of_getElem? (i := 31) rfl))
  obtain ⟨T6, h6, X6, e6, W6, st6⟩ := putF X3 hx hZ hown (host := "") (Or.inl (hw _ (List.mem_of_getElem? (i := 154) rfl))) Via.refl e3 U6 fc5.exa (Or.inr ⟨(hw _ (List.mem_of_getElem? (i := 155) rfl)), rfl, hnm⟩) (hw _ (List.mem_of_getElem? (i := 31) rfl)) (ty := (.object "java/lang/String")) (by decide) rfl rfl (g := (mkF m 11 #[.val (.ref a1), .val (.ref x1), .val (.ref x2), .val (.ref x3)] [(.ref x2), (.ref a1)])) rfl rfl (hb hby d_prog_86_method_1_code_11)
  have N6 := Fr.snoc X6 N3 g1
  have Fw6 := U6.same W6
  have pre7 : ∀ t, Steps p.tables e below (T6.setTop (mkF m 14 #[.val (.ref a1), .val (.ref x1), .val (.ref x2), .val (.ref x3)] [])) t → Steps p.tables e below (s₁.setTop (entryFrame m #[(.ref a1), (.ref x1), (.ref x2), (.ref x3)] 4)) t := by
    intro t kk
    refine pre4 t ?_
    show Steps p.tables e below (T3.setTop (mkF m 9 #[.val (.ref a1), .val (.ref x1), .val (.ref x2), .val (.ref x3)] [])) _
    refine XS.aloadN X3.here hx rfl (hb hby d_prog_86_method_1_code_9) rfl rfl ?_
    show Steps p.tables e below (T3.setTop (mkF m 10 #[.val (.ref a1), .val (.ref x1), .val (.ref x2), .val (.ref x3)] [(.ref a1)])) _
    refine XS.aloadN X3.here hx rfl (hb hby d_prog_86_method_1_code_10) rfl rfl ?_
    show Steps p.tables e below (T3.setTop (mkF m 11 #[.val (.ref a1), .val (.ref x1), .val (.ref x2), .val (.ref x3)] [(.ref x2), (.ref a1)])) _
    exact st6 _ kk
  have fc8 := (fc5.wr W6)
  obtain ⟨u9, U9⟩ := Obj.fld fc8 (Or.inr (hw _ (List.mem_of_getElem? (i := 157) rfl))) (hw _ (List.mem_of_getElem? (i := 31) rfl))
  obtain ⟨T9, h9, X9, e9, W9, st9⟩ := putF X6 hx hZ hown (host := "") (Or.inl (hw _ (List.mem_of_getElem? (i := 156) rfl))) Via.refl e6 U9 fc8.exa (Or.inr ⟨(hw _ (List.mem_of_getElem? (i := 157) rfl)), rfl, hnm⟩) (hw _ (List.mem_of_getElem? (i := 31) rfl)) (ty := (.object "java/lang/String")) (by decide) rfl rfl (g := (mkF m 16 #[.val (.ref a1), .val (.ref x1), .val (.ref x2), .val (.ref x3)] [(.ref x3), (.ref a1)])) rfl rfl (hb hby d_prog_86_method_1_code_16)
  have N9 := Fr.snoc X9 N6 g1
  have Fw9 := U9.same W9
  have pre10 : ∀ t, Steps p.tables e below (T9.setTop (mkF m 19 #[.val (.ref a1), .val (.ref x1), .val (.ref x2), .val (.ref x3)] [])) t → Steps p.tables e below (s₁.setTop (entryFrame m #[(.ref a1), (.ref x1), (.ref x2), (.ref x3)] 4)) t := by
    intro t kk
    refine pre7 t ?_
    show Steps p.tables e below (T6.setTop (mkF m 14 #[.val (.ref a1), .val (.ref x1), .val (.ref x2), .val (.ref x3)] [])) _
    refine XS.aloadN X6.here hx rfl (hb hby d_prog_86_method_1_code_14) rfl rfl ?_
    show Steps p.tables e below (T6.setTop (mkF m 15 #[.val (.ref a1), .val (.ref x1), .val (.ref x2), .val (.ref x3)] [(.ref a1)])) _
    refine XS.aloadN X6.here hx rfl (hb hby d_prog_86_method_1_code_15) rfl rfl ?_
    show Steps p.tables e below (T6.setTop (mkF m 16 #[.val (.ref a1), .val (.ref x1), .val (.ref x2), .val (.ref x3)] [(.ref x3), (.ref a1)])) _
    exact st9 _ kk
  have fc11 := ((((Keep.refl h0 [a1]).wr W3 (Or.inl (List.mem_of_getElem? (i := 0) rfl))).wr W6 (Or.inl (List.mem_of_getElem? (i := 0) rfl))).wr W9 (Or.inl (List.mem_of_getElem? (i := 0) rfl)))
  have fc12 := ((Fw3.other W6 (Or.inr (slot_ne (Or.inr (hw _ (List.mem_of_getElem? (i := 153) rfl))) (Or.inr (hw _ (List.mem_of_getElem? (i := 155) rfl))) (by decide) (t := (.object "java/lang/String")) (t' := (.object "java/lang/String")) (by decide) (by decide)))).other W9 (Or.inr (slot_ne (Or.inr (hw _ (List.mem_of_getElem? (i := 153) rfl))) (Or.inr (hw _ (List.mem_of_getElem? (i := 157) rfl))) (by decide) (t := (.object "java/lang/String")) (t' := (.object "java/lang/String")) (by decide) (by decide))))
  have fc13 := (Fw6.other W9 (Or.inr (slot_ne (Or.inr (hw _ (List.mem_of_getElem? (i := 155) rfl))) (Or.inr (hw _ (List.mem_of_getElem? (i := 157) rfl))) (by decide) (t := (.object "java/lang/String")) (t' := (.object "java/lang/String")) (by decide) (by decide))))
  obtain ⟨fs, hr, hrun, hended, hW, hsame⟩ := X9.leave (v := none) (fun _ => rfl)
  refine ⟨_, _, pre10 _ ?_, hrun, hended, _, _, rfl, ?_, ⟨_, rfl⟩, hW, hsame.mono (by decide) (by decide)⟩
  · show Steps p.tables e below (T9.setTop (mkF m 19 #[.val (.ref a1), .val (.ref x1), .val (.ref x2), .val (.ref x3)] [])) _
    exact X9.returnOut hx Bd.returns (hb hby d_prog_86_method_1_code_19) hr
  · show Q_own_exi Z a1 x1 x2 x3 h0 n0 _ T9.heap _
    rw [e9]
    exact ⟨rfl, N9, fc11, fc12, fc13, Fw9⟩
theorem d_prog_86_method_2_code_0 : decode prog_86_method_2_code 0 = .ok (.new 8, 3) := by decide +kernel
theorem d_prog_86_method_2_code_3 : decode prog_86_method_2_code 3 = .ok (.dup, 1) := by decide +kernel
theorem d_prog_86_method_2_code_4 : decode prog_86_method_2_code 4 = .ok (.new 19, 3) := by decide +kernel
theorem d_prog_86_method_2_code_7 : decode prog_86_method_2_code 7 = .ok (.dup, 1) := by decide +kernel
theorem d_prog_86_method_2_code_8 : decode prog_86_method_2_code 8 = .ok (.invokespecial 21, 3) := by decide +kernel
theorem d_prog_86_method_2_code_11 : decode prog_86_method_2_code 11 = .ok (.aload_n 0, 1) := by decide +kernel
theorem pd__Ljava_lang_String__Ljava_lang_StringBuilder_ : parseMethodDescriptor "(Ljava/lang/String;)Ljava/lang/StringBuilder;" = some ⟨[(.object "java/lang/String")], some (.object "java/lang/StringBuilder")⟩ := by decide +kernel
theorem d_prog_86_method_2_code_12 : decode prog_86_method_2_code 12 = .ok (.invokevirtual 22, 3) := by decide +kernel
theorem d_prog_86_method_2_code_15 : decode prog_86_method_2_code 15 = .ok (.aload_n 1, 1) := by decide +kernel
theorem d_prog_86_method_2_code_16 : decode prog_86_method_2_code 16 = .ok (.invokevirtual 22, 3) := by decide +kernel
theorem d_prog_86_method_2_code_19 : decode prog_86_method_2_code 19 = .ok (.aload_n 2, 1) := by decide +kernel
theorem d_prog_86_method_2_code_20 : decode prog_86_method_2_code 20 = .ok (.invokevirtual 22, 3) := by decide +kernel
theorem pd___Ljava_lang_String_ : parseMethodDescriptor "()Ljava/lang/String;" = some ⟨[], some (.object "java/lang/String")⟩ := by decide +kernel
theorem d_prog_86_method_2_code_23 : decode prog_86_method_2_code 23 = .ok (.invokevirtual 26, 3) := by decide +kernel
theorem d_prog_86_method_2_code_26 : decode prog_86_method_2_code 26 = .ok (.aload_n 0, 1) := by decide +kernel
theorem d_prog_86_method_2_code_27 : decode prog_86_method_2_code 27 = .ok (.aload_n 2, 1) := by decide +kernel
theorem pd__Ljava_lang_String_Ljava_lang_String_Ljava_lang_String__V : parseMethodDescriptor "(Ljava/lang/String;Ljava/lang/String;Ljava/lang/String;)V" = some ⟨[(.object "java/lang/String"), (.object "java/lang/String"), (.object "java/lang/String")], none⟩ := by decide +kernel
theorem d_prog_86_method_2_code_28 : decode prog_86_method_2_code 28 = .ok (.invokespecial 30, 3) := by decide +kernel
theorem d_prog_86_method_2_code_31 : decode prog_86_method_2_code 31 = .ok (.areturn, 1) := by decide +kernel
theorem ef_own_of (m : MethodId) {sa1 : Addr} {sa2 : Addr} {sa3 : Addr} : entryFrame m #[(.ref sa1), (.ref sa2), (.ref sa3)] 3 = mkF m 0 #[.val (.ref sa1), .val (.ref sa2), .val (.ref sa3)] [] := by first | (simp [entryFrame, mkF, argsToLocals, Value.category]; done) | rfl
def Q_own_of (Z : State) (sa1 sb1 sa2 sb2 sa3 sb3 : Addr) (ks1 ks2 ks3 : ClassId) (cc1 cc2 cc3 : List Int32) (G1 : Int32) (h0 : Heap) (n0 : Nat) (v : Option Value) (h : Heap) (L : List Loc) : Prop := ∃ (r mm mb : Addr) (km : ClassId), v = some (.ref r) ∧ Fr n0 L ∧ Keep h0 h [] ∧ Exa Z h r "com/example/hulse/hulse/failure/Explanation" ∧ Fld Z h r "com/example/hulse/hulse/failure/Explanation" "message" "Ljava/lang/String;" (.ref mm) ∧ Fld Z h r "com/example/hulse/hulse/failure/Explanation" "description" "Ljava/lang/String;" (.ref sa1) ∧ Fld Z h r "com/example/hulse/hulse/failure/Explanation" "action" "Ljava/lang/String;" (.ref sa3) ∧ Exa Z h mm "java/lang/String" ∧ Fld Z h mm "java/lang/String" "value" "[B" (.ref mb) ∧ Fld Z h mm "java/lang/String" "coder" "B" (.int (0 : Int32)) ∧ Arv Z h mb km .byte (Int32.ofNat (cc1 ++ cc2 ++ cc3).length) (own_B (cc1 ++ cc2 ++ cc3)) (.int (0 : Int32))
set_option maxRecDepth 65536 in
set_option maxHeartbeats 40000000 in
theorem own_of (l : Launch) (Z : State) (a0 : Array Value) (hw : ∀ d ∈ tables_1, d.before a0 Z = true) (ws : List Jvm.Cond) (sa1 sb1 sa2 sb2 sa3 sb3 : Addr) (ks1 ks2 ks3 : ClassId) (cc1 cc2 cc3 : List Int32) (G1 : Int32) (h0 : Heap) (n0 : Nat) (Z0 : n0 ≤ h0.size) (xE1 : Exa Z h0 sa1 "java/lang/String") (xF1 : Fld Z h0 sa1 "java/lang/String" "value" "[B" (.ref sb1)) (xC1 : Fld Z h0 sa1 "java/lang/String" "coder" "B" (.int (0 : Int32))) (xV1 : Arv Z h0 sb1 ks1 .byte (Int32.ofNat cc1.length) (own_B cc1) (.int (0 : Int32))) (xE2 : Exa Z h0 sa2 "java/lang/String") (xF2 : Fld Z h0 sa2 "java/lang/String" "value" "[B" (.ref sb2)) (xC2 : Fld Z h0 sa2 "java/lang/String" "coder" "B" (.int (0 : Int32))) (xV2 : Arv Z h0 sb2 ks2 .byte (Int32.ofNat cc2.length) (own_B cc2) (.int (0 : Int32))) (xE3 : Exa Z h0 sa3 "java/lang/String") (xF3 : Fld Z h0 sa3 "java/lang/String" "value" "[B" (.ref sb3)) (xC3 : Fld Z h0 sa3 "java/lang/String" "coder" "B" (.int (0 : Int32))) (xV3 : Arv Z h0 sb3 ks3 .byte (Int32.ofNat cc3.length) (own_B cc3) (.int (0 : Int32))) (hl1 : cc1.length ≤ 2) (hl2 : cc2.length ≤ 2) (hl3 : cc3.length ≤ 2) (O2 : Sta Z Z.heap "java/lang/String" "COMPACT_STRINGS" "Z" (.int G1)) (P5 : ¬ G1 = (0 : Int32)) (XO : Old Z n0 h0) :
    MetFree l (⟨"com/example/hulse/hulse/failure/Explanation", "of", "(Ljava/lang/String;Ljava/lang/String;Ljava/lang/String;)Lcom/example/hulse/hulse/failure/Explanation;"⟩ : MethodName) (head1 (Jvm.Cond.code (⟨"com/example/hulse/hulse/failure/Explanation", "of", "(Ljava/lang/String;Ljava/lang/String;Ljava/lang/String;)Lcom/example/hulse/hulse/failure/Explanation;"⟩ : MethodName) prog_86_method_2_code 3 (some (.object "com/example/hulse/hulse/failure/Explanation")) :: ws) ({ frames := 6, cells := 5, slots := 42, locals := 93 } : Room)) (fun a U => a = #[(.ref sa1), (.ref sa2), (.ref sa3)] ∧ Z.Warmed39 U.vm ∧ U.heap = h0) (fun _ _ _ _ _ => True) (fun _ U o U' => ∃ v L, o = .returned v ∧ Q_own_of Z sa1 sb1 sa2 sb2 sa3 sb3 ks1 ks2 ks3 cc1 cc2 cc3 G1 h0 n0 v U'.heap L ∧ FrameEnd U o U' L ({ frames := 6, cells := 5, slots := 42, locals := 93 } : Room).cells ({ frames := 6, cells := 5, slots := 42, locals := 93 } : Room).slots) := by
  refine MetFree.of_bodySF (plainFor_of_name pn_com_example_hulse_hulse_failure_Explanation) hisR ?_
  intro p e s m args below meth c s₁ Bd hml0 hP hK
  obtain ⟨rfl, hZ, hh⟩ := hP
  have hx := Bd.exec
  have hby := Bd.bytes
  have hml : c.maxLocals = 3 := hml0
  have hown : s.vm.findClass "com/example/hulse/hulse/failure/Explanation" = some m.cls := findClass_of_methodNamed Bd.named
  have hnm := (name_of_methodNamed Bd.named Bd.method).1
  have X0 : Stand p l e ({ frames := 6, cells := 5, slots := 42, locals := 93 } : Room) s m #[(.ref sa1), (.ref sa2), (.ref sa3)] below meth c s₁ [] 0 0 := Stand.of_body Bd
  have e0 : s₁.heap = h0 := by rw [← hh, Bd.state]; rfl
  have N0 := Fr.nil n0
  have pre0 : ∀ t, Steps p.tables e below (s₁.setTop (mkF m 0 #[.val (.ref sa1), .val (.ref sa2), .val (.ref sa3)] [])) t → Steps p.tables e below (s₁.setTop (entryFrame m #[(.ref sa1), (.ref sa2), (.ref sa3)] 3)) t := fun t k => castTop (ef_own_of m) k
  obtain ⟨fb1, g1⟩ : ∃ z, z = h0.size := ⟨_, rfl⟩
  have ne_sa1_fb1 : sa1 ≠ fb1 := Nat.ne_of_lt (Nat.lt_of_lt_of_le xE1.lt (Nat.le_of_eq g1.symm))
  have ne_sa2_fb1 : sa2 ≠ fb1 := Nat.ne_of_lt (Nat.lt_of_lt_of_le xE2.lt (Nat.le_of_eq g1.symm))
  have ne_sa3_fb1 : sa3 ≠ fb1 := Nat.ne_of_lt (Nat.lt_of_lt_of_le xE3.lt (Nat.le_of_eq g1.symm))
  have ne_sb1_fb1 : sb1 ≠ fb1 := Nat.ne_of_lt (Nat.lt_of_lt_of_le xV1.lt (Nat.le_of_eq g1.symm))
  have ne_sb2_fb1 : sb2 ≠ fb1 := Nat.ne_of_lt (Nat.lt_of_lt_of_le xV2.lt (Nat.le_of_eq g1.symm))
  have ne_sb3_fb1 : sb3 ≠ fb1 := Nat.ne_of_lt (Nat.lt_of_lt_of_le xV3.lt (Nat.le_of_eq g1.symm))
  have lo_fb1 : n0 ≤ fb1 := Nat.le_trans Z0 (Nat.le_of_eq g1.symm)
  have hi_fb1 : h0.size ≤ fb1 := Nat.le_trans (Keep.refl h0 []).1 (Nat.le_of_eq g1.symm)
  obtain ⟨T1, h1, X1, e1, E1, A1, D1, B1, st1⟩ := newO X0 hx hZ hown (hw _ (List.mem_of_getElem? (i := 30) rfl)) (hw _ (List.mem_of_getElem? (i := 31) rfl)) (hw _ (List.mem_of_getElem? (i := 28) rfl)) e0 (g := (mkF m 0 #[.val (.ref sa1), .val (.ref sa2), .val (.ref sa3)] [])) rfl (hb hby d_prog_86_method_2_code_0) (by decide) (by decide)
  rw [← g1] at A1 D1 B1 st1
  have O1 := Obj.of A1 B1
  have pre2 : ∀ t, Steps p.tables e below (T1.setTop (mkF m 3 #[.val (.ref sa1), .val (.ref sa2), .val (.ref sa3)] [(.ref fb1)])) t → Steps p.tables e below (s₁.setTop (entryFrame m #[(.ref sa1), (.ref sa2), (.ref sa3)] 3)) t := by
    intro t kk
    refine pre0 t ?_
    show Steps p.tables e below (s₁.setTop (mkF m 0 #[.val (.ref sa1), .val (.ref sa2), .val (.ref sa3)] [])) _
    exact st1 _ kk
  obtain ⟨fb3, g3⟩ : ∃ z, z = h1.size := ⟨_, rfl⟩
  have ne_fb1_fb3 : fb1 ≠ fb3 := Nat.ne_of_lt (Nat.lt_of_lt_of_le O1.lt (Nat.le_of_eq g3.symm))
  have fc4 := (xE1.ext E1)
  have ne_sa1_fb3 : sa1 ≠ fb3 := Nat.ne_of_lt (Nat.lt_of_lt_of_le fc4.lt (Nat.le_of_eq g3.symm))
  have fc5 := (xE2.ext E1)
  have ne_sa2_fb3 : sa2 ≠ fb3 := Nat.ne_of_lt (Nat.lt_of_lt_of_le fc5.lt (Nat.le_of_eq g3.symm))
  have fc6 := (xE3.ext E1)
  have ne_sa3_fb3 : sa3 ≠ fb3 := Nat.ne_of_lt (Nat.lt_of_lt_of_le fc6.lt (Nat.le_of_eq g3.symm))
  have fc7 := (xV1.ext E1)
  have ne_sb1_fb3 : sb1 ≠ fb3 := Nat.ne_of_lt (Nat.lt_of_lt_of_le fc7.lt (Nat.le_of_eq g3.symm))
  have fc8 := (xV2.ext E1)
  have ne_sb2_fb3 : sb2 ≠ fb3 := Nat.ne_of_lt (Nat.lt_of_lt_of_le fc8.lt (Nat.le_of_eq g3.symm))
  have fc9 := (xV3.ext E1)
  have ne_sb3_fb3 : sb3 ≠ fb3 := Nat.ne_of_lt (Nat.lt_of_lt_of_le fc9.lt (Nat.le_of_eq g3.symm))
  have fc10 := (Nat.le_trans Z0 E1.1)
  have lo_fb3 : n0 ≤ fb3 := Nat.le_trans fc10 (Nat.le_of_eq g3.symm)
  have fc11 := ((Keep.refl h0 []).ext E1)
  have hi_fb3 : h0.size ≤ fb3 := Nat.le_trans fc11.1 (Nat.le_of_eq g3.symm)
  obtain ⟨T3, h3, X3, e3, E3, A3, D3, B3, st3⟩ := newO X1 hx hZ hown (hw _ (List.mem_of_getElem? (i := 32) rfl)) (hw _ (List.mem_of_getElem? (i := 33) rfl)) (hw _ (List.mem_of_getElem? (i := 34) rfl)) e1 (g := (mkF m 4 #[.val (.ref sa1), .val (.ref sa2), .val (.ref sa3)] [(.ref fb1), (.ref fb1)])) rfl (hb hby d_prog_86_method_2_code_4) (by decide) (by decide)
  rw [← g3] at A3 D3 B3 st3
  have O3 := Obj.of A3 B3
  have F3_count : Fld Z h3 fb3 "java/lang/AbstractStringBuilder" "count" "I" (.int (0 : Int32)) := D3 (Or.inl (hw _ (List.mem_of_getElem? (i := 72) rfl))) (ty := .int) (by decide)
  have pre12 : ∀ t, Steps p.tables e below (T3.setTop (mkF m 7 #[.val (.ref sa1), .val (.ref sa2), .val (.ref sa3)] [(.ref fb3), (.ref fb1), (.ref fb1)])) t → Steps p.tables e below (s₁.setTop (entryFrame m #[(.ref sa1), (.ref sa2), (.ref sa3)] 3)) t := by
    intro t kk
    refine pre2 t ?_
    show Steps p.tables e below (T1.setTop (mkF m 3 #[.val (.ref sa1), .val (.ref sa2), .val (.ref sa3)] [(.ref fb1)])) _
    refine XS.dup X1.here hx rfl (hb hby d_prog_86_method_2_code_3) rfl rfl ?_
    show Steps p.tables e below (T1.setTop (mkF m 4 #[.val (.ref sa1), .val (.ref sa2), .val (.ref sa3)] [(.ref fb1), (.ref fb1)])) _
    exact st3 _ kk
  have fc13 := ((XO.ext E1).ext E3)
  have fc15 := (Nat.le_trans fc10 E3.1)
  obtain ⟨_, _, ⟨T14, L14, k14, n14⟩, -, X14, ⟨Lc14, hQ14, l14, y14, z14⟩, st14⟩ := X3.specialBack hx (y := (⟨"java/lang/StringBuilder", "<init>", "()V"⟩ : MethodName)) rfl hown (mvT hZ (hw _ (List.mem_of_getElem? (i := 35) rfl))) (mvT hZ (hw _ (List.mem_of_getElem? (i := 36) rfl))) (mvT hZ (hw _ (List.mem_of_getElem? (i := 37) rfl))) (by decide) (backOf (W := 3) (own_binit l Z a0 hw [] fb3 0 G1 h3 n0 fc15 O3 lo_fb3 F3_count O2 P5 fc13) hZ (hw _ (List.mem_of_getElem? (i := 37) rfl)) (hw _ (List.mem_of_getElem? (i := 34) rfl)) (by decide) (by decide)) (g := (mkF m 8 #[.val (.ref sa1), .val (.ref sa2), .val (.ref sa3)] [(.ref fb3), (.ref fb3), (.ref fb1), (.ref fb1)])) rfl (by rw [hml]; rfl) (Steps.refl _) (a := fb3) (argsL := []) (rest := [(.ref fb3), (.ref fb1), (.ref fb1)]) (lenOf pd___V rfl) rfl (by show 2 * 0 + _ ≤ _; exact Nat.le_of_eq rfl) (hb hby d_prog_86_method_2_code_8) (fun _ _ => ⟨rfl, e3, (by decide : 2 + 1 ≤ _), (by decide : 7 + 16 ≤ _)⟩)
  dsimp only [Pt.U, Pt.locs, Pt.cells, Pt.slots] at X14 l14 y14 z14 st14 hQ14
  subst l14 y14 z14
  obtain ⟨bx14, kb14, rfl, N14q, K14, q14a, q14b, q14c, q14d, q14e⟩ := hQ14
  have N14 := Fr.app N0 N14q
  have pre16 : ∀ t, Steps p.tables e below (T14.setTop (mkF m 11 #[.val (.ref sa1), .val (.ref sa2), .val (.ref sa3)] [(.ref fb3), (.ref fb1), (.ref fb1)])) t → Steps p.tables e below (s₁.setTop (entryFrame m #[(.ref sa1), (.ref sa2), (.ref sa3)] 3)) t := by
    intro t kk
    refine pre12 t ?_
    show Steps p.tables e below (T3.setTop (mkF m 7 #[.val (.ref sa1), .val (.ref sa2), .val (.ref sa3)] [(.ref fb3), (.ref fb1), (.ref fb1)])) _
    refine XS.dup X3.here hx rfl (hb hby d_prog_86_method_2_code_7) rfl rfl ?_
    show Steps p.tables e below (T3.setTop (mkF m 8 #[.val (.ref sa1), .val (.ref sa2), .val (.ref sa3)] [(.ref fb3), (.ref fb3), (.ref fb1), (.ref fb1)])) _
    exact st14.trans kk
  have lo_bx14 : n0 ≤ bx14 := Nat.le_trans fc15 q14a
  have hi_bx14 : h0.size ≤ bx14 := Nat.le_trans (fc11.ext E3).1 q14a
  have V014 : Arv Z T14.heap bx14 kb14 .byte (16 : Int32) (own_W []) (.int (0 : Int32)) := q14e
  have ne_fb1_bx14 : fb1 ≠ bx14 := Nat.ne_of_lt (Nat.lt_of_lt_of_le (O1.ext E3).lt q14a)
  have ne_fb3_bx14 : fb3 ≠ bx14 := Nat.ne_of_lt (Nat.lt_of_lt_of_le O3.lt q14a)
  have ne_sa1_bx14 : sa1 ≠ bx14 := Nat.ne_of_lt (Nat.lt_of_lt_of_le (fc4.ext E3).lt q14a)
  have ne_sa2_bx14 : sa2 ≠ bx14 := Nat.ne_of_lt (Nat.lt_of_lt_of_le (fc5.ext E3).lt q14a)
  have ne_sa3_bx14 : sa3 ≠ bx14 := Nat.ne_of_lt (Nat.lt_of_lt_of_le (fc6.ext E3).lt q14a)
  have ne_sb1_bx14 : sb1 ≠ bx14 := Nat.ne_of_lt (Nat.lt_of_lt_of_le (fc7.ext E3).lt q14a)
  have ne_sb2_bx14 : sb2 ≠ bx14 := Nat.ne_of_lt (Nat.lt_of_lt_of_le (fc8.ext E3).lt q14a)
  have ne_sb3_bx14 : sb3 ≠ bx14 := Nat.ne_of_lt (Nat.lt_of_lt_of_le (fc9.ext E3).lt q14a)
  have F014 : Fld Z T14.heap fb3 "java/lang/AbstractStringBuilder" "count" "I" (.int (Int32.ofNat ([] : List Value).length)) := q14d
  have hb0 : ([] : List Value).length ≤ 0 := Nat.le_refl _
  have fc17 := (O3.keep K14)
  have fc18 := ((fc4.ext E3).keep K14)
  have fc19 := (((xF1.ext E1).ext E3).keep K14 (ninS ne_sa1_fb3 nin0))
  have fc20 := (((xC1.ext E1).ext E3).keep K14 (ninS ne_sa1_fb3 nin0))
  have fc21 := ((fc7.ext E3).keep K14 (ninS ne_sb1_fb3 nin0))
  have m1a := own_on (n := cc1.length) (by omega)
  have m1b := own_on (n := ([] : List Value).length) (by omega)
  have m1c := own_Blen cc1
  have fc22 := (fc13.keep K14 (allS lo_fb3 all0))
  have fc24 := (Nat.le_trans fc15 K14.1)
  obtain ⟨cq23, kq23, q23a, q23b, q23c⟩ := isOf hZ rfl fc17.exa
  obtain ⟨_, _, ⟨T23, L23, k23, n23⟩, -, X23, ⟨Lc23, hQ23, l23, y23, z23⟩, st23⟩ := X14.virtualBack hx (y := (⟨"java/lang/StringBuilder", "append", "(Ljava/lang/String;)Ljava/lang/StringBuilder;"⟩ : MethodName)) (z := (⟨"java/lang/StringBuilder", "append", "(Ljava/lang/String;)Ljava/lang/StringBuilder;"⟩ : MethodName)) hown (mvT hZ (hw _ (List.mem_of_getElem? (i := 50) rfl))) (mvT hZ (hw _ (List.mem_of_getElem? (i := 51) rfl))) (notFace_of_selects (args := #[]) (mvT hZ (hw _ (List.mem_of_getElem? (i := 53) rfl)))) (mvT hZ (hw _ (List.mem_of_getElem? (i := 53) rfl))) (mvT hZ (hw _ (List.mem_of_getElem? (i := 52) rfl))) (by decide) (backOf (W := 2) (own_app l Z a0 hw [] sa1 sb1 ks1 (Int32.ofNat cc1.length) (own_B cc1) fb3 bx14 kb14 (Int32.ofNat ([] : List Value).length) (own_W ([] : List Value)) G1 T14.heap n0 fc24 fc18 fc19 fc20 fc21 fc17 q14b q14c F014 V014 lo_fb3 lo_bx14 O2 P5 fc22 m1a.2.1 m1b.2.1 (by rw [m1a.2.2, m1c]) (by rw [m1a.2.2, m1b.2.2]; omega) (own_Wlen (by omega)) (own_room (by omega))) hZ (hw _ (List.mem_of_getElem? (i := 54) rfl)) (hw _ (List.mem_of_getElem? (i := 34) rfl)) (by decide) (by decide)) q23a q23c (g := (mkF m 12 #[.val (.ref sa1), .val (.ref sa2), .val (.ref sa3)] [(.ref sa1), (.ref fb3), (.ref fb1), (.ref fb1)])) rfl (by rw [hml]; rfl) (Steps.refl _) (argsL := [(.ref sa1)]) (rest := [(.ref fb1), (.ref fb1)]) (lenOf pd__Ljava_lang_String__Ljava_lang_StringBuilder_ rfl) rfl (by show 2 * 0 + _ ≤ _; exact Nat.le_of_eq rfl) (hb hby d_prog_86_method_2_code_12) (fun _ _ => ⟨rfl, rfl, (by decide : 3 + 0 ≤ _), (by decide : 23 + 0 ≤ _)⟩)
  dsimp only [Pt.U, Pt.locs, Pt.cells, Pt.slots] at X23 l23 y23 z23 st23 hQ23
  subst l23 y23 z23
  obtain ⟨rfl, N23q, K23, F123, F223, F323, V23⟩ := hQ23
  have N23 := Fr.app N14 N23q
  have pre25 : ∀ t, Steps p.tables e below (T23.setTop (mkF m 15 #[.val (.ref sa1), .val (.ref sa2), .val (.ref sa3)] [(.ref fb3), (.ref fb1), (.ref fb1)])) t → Steps p.tables e below (s₁.setTop (entryFrame m #[(.ref sa1), (.ref sa2), (.ref sa3)] 3)) t := by
    intro t kk
    refine pre16 t ?_
    show Steps p.tables e below (T14.setTop (mkF m 11 #[.val (.ref sa1), .val (.ref sa2), .val (.ref sa3)] [(.ref fb3), (.ref fb1), (.ref fb1)])) _
    refine XS.aloadN X14.here hx rfl (hb hby d_prog_86_method_2_code_11) rfl rfl ?_
    show Steps p.tables e below (T14.setTop (mkF m 12 #[.val (.ref sa1), .val (.ref sa2), .val (.ref sa3)] [(.ref sa1), (.ref fb3), (.ref fb1), (.ref fb1)])) _
    exact st23.trans kk
  have lb1 : (([] : List Value) ++ (own_B cc1)).length = ([] : List Value).length + cc1.length := by rw [List.length_append, m1c]
  have hb1 : (([] : List Value) ++ (own_B cc1)).length ≤ 2 := by omega
  rw [own_addN (by omega), ← lb1] at F323
  rw [own_WA m1c (by omega)] at V23
  have fc26 := (fc17.keep K23)
  have fc27 := (((fc5.ext E3).keep K14).keep K23)
  have fc28 := ((((xF2.ext E1).ext E3).keep K14 (ninS ne_sa2_fb3 nin0)).keep K23 (ninS ne_sa2_fb3 (ninS ne_sa2_bx14 nin0)))
  have fc29 := ((((xC2.ext E1).ext E3).keep K14 (ninS ne_sa2_fb3 nin0)).keep K23 (ninS ne_sa2_fb3 (ninS ne_sa2_bx14 nin0)))
  have fc30 := (((fc8.ext E3).keep K14 (ninS ne_sb2_fb3 nin0)).keep K23 (ninS ne_sb2_fb3 (ninS ne_sb2_bx14 nin0)))
  have m2a := own_on (n := cc2.length) (by omega)
  have m2b := own_on (n := (([] : List Value) ++ (own_B cc1)).length) (by omega)
  have m2c := own_Blen cc2
  have fc31 := (fc22.keep K23 (allS lo_fb3 (allS lo_bx14 all0)))
  have fc33 := (Nat.le_trans fc24 K23.1)
  obtain ⟨cq32, kq32, q32a, q32b, q32c⟩ := isOf hZ rfl fc26.exa
  obtain ⟨_, _, ⟨T32, L32, k32, n32⟩, -, X32, ⟨Lc32, hQ32, l32, y32, z32⟩, st32⟩ := X23.virtualBack hx (y := (⟨"java/lang/StringBuilder", "append", "(Ljava/lang/String;)Ljava/lang/StringBuilder;"⟩ : MethodName)) (z := (⟨"java/lang/StringBuilder", "append", "(Ljava/lang/String;)Ljava/lang/StringBuilder;"⟩ : MethodName)) hown (mvT hZ (hw _ (List.mem_of_getElem? (i := 50) rfl))) (mvT hZ (hw _ (List.mem_of_getElem? (i := 51) rfl))) (notFace_of_selects (args := #[]) (mvT hZ (hw _ (List.mem_of_getElem? (i := 53) rfl)))) (mvT hZ (hw _ (List.mem_of_getElem? (i := 53) rfl))) (mvT hZ (hw _ (List.mem_of_getElem? (i := 52) rfl))) (by decide) (backOf (W := 2) (own_app l Z a0 hw [] sa2 sb2 ks2 (Int32.ofNat cc2.length) (own_B cc2) fb3 bx14 kb14 (Int32.ofNat (([] : List Value) ++ (own_B cc1)).length) (own_W (([] : List Value) ++ (own_B cc1))) G1 T23.heap n0 fc33 fc27 fc28 fc29 fc30 fc26 F123 F223 F323 V23 lo_fb3 lo_bx14 O2 P5 fc31 m2a.2.1 m2b.2.1 (by rw [m2a.2.2, m2c]) (by rw [m2a.2.2, m2b.2.2]; omega) (own_Wlen (by omega)) (own_room (by omega))) hZ (hw _ (List.mem_of_getElem? (i := 54) rfl)) (hw _ (List.mem_of_getElem? (i := 34) rfl)) (by decide) (by decide)) q32a q32c (g := (mkF m 16 #[.val (.ref sa1), .val (.ref sa2), .val (.ref sa3)] [(.ref sa2), (.ref fb3), (.ref fb1), (.ref fb1)])) rfl (by rw [hml]; rfl) (Steps.refl _) (argsL := [(.ref sa2)]) (rest := [(.ref fb1), (.ref fb1)]) (lenOf pd__Ljava_lang_String__Ljava_lang_StringBuilder_ rfl) rfl (by show 2 * 0 + _ ≤ _; exact Nat.le_of_eq rfl) (hb hby d_prog_86_method_2_code_16) (fun _ _ => ⟨rfl, rfl, (by decide : 3 + 0 ≤ _), (by decide : 23 + 0 ≤ _)⟩)
  dsimp only [Pt.U, Pt.locs, Pt.cells, Pt.slots] at X32 l32 y32 z32 st32 hQ32
  subst l32 y32 z32
  obtain ⟨rfl, N32q, K32, F132, F232, F332, V32⟩ := hQ32
  have N32 := Fr.app N23 N32q
  have pre34 : ∀ t, Steps p.tables e below (T32.setTop (mkF m 19 #[.val (.ref sa1), .val (.ref sa2), .val (.ref sa3)] [(.ref fb3), (.ref fb1), (.ref fb1)])) t → Steps p.tables e below (s₁.setTop (entryFrame m #[(.ref sa1), (.ref sa2), (.ref sa3)] 3)) t := by
    intro t kk
    refine pre25 t ?_
    show Steps p.tables e below (T23.setTop (mkF m 15 #[.val (.ref sa1), .val (.ref sa2), .val (.ref sa3)] [(.ref fb3), (.ref fb1), (.ref fb1)])) _
    refine XS.aloadN X23.here hx rfl (hb hby d_prog_86_method_2_code_15) rfl rfl ?_
    show Steps p.tables e below (T23.setTop (mkF m 16 #[.val (.ref sa1), .val (.ref sa2), .val (.ref sa3)] [(.ref sa2), (.ref fb3), (.ref fb1), (.ref fb1)])) _
    exact st32.trans kk
  have lb2 : ((([] : List Value) ++ (own_B cc1)) ++ (own_B cc2)).length = (([] : List Value) ++ (own_B cc1)).length + cc2.length := by rw [List.length_append, m2c]
  have hb2 : ((([] : List Value) ++ (own_B cc1)) ++ (own_B cc2)).length ≤ 4 := by omega
  rw [own_addN (by omega), ← lb2] at F332
  rw [own_WA m2c (by omega)] at V32
  have fc35 := (fc26.keep K32)
  have fc36 := ((((fc6.ext E3).keep K14).keep K23).keep K32)
  have fc37 := (((((xF3.ext E1).ext E3).keep K14 (ninS ne_sa3_fb3 nin0)).keep K23 (ninS ne_sa3_fb3 (ninS ne_sa3_bx14 nin0))).keep K32 (ninS ne_sa3_fb3 (ninS ne_sa3_bx14 nin0)))
  have fc38 := (((((xC3.ext E1).ext E3).keep K14 (ninS ne_sa3_fb3 nin0)).keep K23 (ninS ne_sa3_fb3 (ninS ne_sa3_bx14 nin0))).keep K32 (ninS ne_sa3_fb3 (ninS ne_sa3_bx14 nin0)))
  have fc39 := ((((fc9.ext E3).keep K14 (ninS ne_sb3_fb3 nin0)).keep K23 (ninS ne_sb3_fb3 (ninS ne_sb3_bx14 nin0))).keep K32 (ninS ne_sb3_fb3 (ninS ne_sb3_bx14 nin0)))
  have m3a := own_on (n := cc3.length) (by omega)
  have m3b := own_on (n := ((([] : List Value) ++ (own_B cc1)) ++ (own_B cc2)).length) (by omega)
  have m3c := own_Blen cc3
  have fc40 := (fc31.keep K32 (allS lo_fb3 (allS lo_bx14 all0)))
  have fc42 := (Nat.le_trans fc33 K32.1)
  obtain ⟨cq41, kq41, q41a, q41b, q41c⟩ := isOf hZ rfl fc35.exa
  obtain ⟨_, _, ⟨T41, L41, k41, n41⟩, -, X41, ⟨Lc41, hQ41, l41, y41, z41⟩, st41⟩ := X32.virtualBack hx (y := (⟨"java/lang/StringBuilder", "append", "(Ljava/lang/String;)Ljava/lang/StringBuilder;"⟩ : MethodName)) (z := (⟨"java/lang/StringBuilder", "append", "(Ljava/lang/String;)Ljava/lang/StringBuilder;"⟩ : MethodName)) hown (mvT hZ (hw _ (List.mem_of_getElem? (i := 50) rfl))) (mvT hZ (hw _ (List.mem_of_getElem? (i := 51) rfl))) (notFace_of_selects (args := #[]) (mvT hZ (hw _ (List.mem_of_getElem? (i := 53) rfl)))) (mvT hZ (hw _ (List.mem_of_getElem? (i := 53) rfl))) (mvT hZ (hw _ (List.mem_of_getElem? (i := 52) rfl))) (by decide) (backOf (W := 2) (own_app l Z a0 hw [] sa3 sb3 ks3 (Int32.ofNat cc3.length) (own_B cc3) fb3 bx14 kb14 (Int32.ofNat ((([] : List Value) ++ (own_B cc1)) ++ (own_B cc2)).length) (own_W ((([] : List Value) ++ (own_B cc1)) ++ (own_B cc2))) G1 T32.heap n0 fc42 fc36 fc37 fc38 fc39 fc35 F132 F232 F332 V32 lo_fb3 lo_bx14 O2 P5 fc40 m3a.2.1 m3b.2.1 (by rw [m3a.2.2, m3c]) (by rw [m3a.2.2, m3b.2.2]; omega) (own_Wlen (by omega)) (own_room (by omega))) hZ (hw _ (List.mem_of_getElem? (i := 54) rfl)) (hw _ (List.mem_of_getElem? (i := 34) rfl)) (by decide) (by decide)) q41a q41c (g := (mkF m 20 #[.val (.ref sa1), .val (.ref sa2), .val (.ref sa3)] [(.ref sa3), (.ref fb3), (.ref fb1), (.ref fb1)])) rfl (by rw [hml]; rfl) (Steps.refl _) (argsL := [(.ref sa3)]) (rest := [(.ref fb1), (.ref fb1)]) (lenOf pd__Ljava_lang_String__Ljava_lang_StringBuilder_ rfl) rfl (by show 2 * 0 + _ ≤ _; exact Nat.le_of_eq rfl) (hb hby d_prog_86_method_2_code_20) (fun _ _ => ⟨rfl, rfl, (by decide : 3 + 0 ≤ _), (by decide : 23 + 0 ≤ _)⟩)
  dsimp only [Pt.U, Pt.locs, Pt.cells, Pt.slots] at X41 l41 y41 z41 st41 hQ41
  subst l41 y41 z41
  obtain ⟨rfl, N41q, K41, F141, F241, F341, V41⟩ := hQ41
  have N41 := Fr.app N32 N41q
  have pre43 : ∀ t, Steps p.tables e below (T41.setTop (mkF m 23 #[.val (.ref sa1), .val (.ref sa2), .val (.ref sa3)] [(.ref fb3), (.ref fb1), (.ref fb1)])) t → Steps p.tables e below (s₁.setTop (entryFrame m #[(.ref sa1), (.ref sa2), (.ref sa3)] 3)) t := by
    intro t kk
    refine pre34 t ?_
    show Steps p.tables e below (T32.setTop (mkF m 19 #[.val (.ref sa1), .val (.ref sa2), .val (.ref sa3)] [(.ref fb3), (.ref fb1), (.ref fb1)])) _
    refine XS.aloadN X32.here hx rfl (hb hby d_prog_86_method_2_code_19) rfl rfl ?_
    show Steps p.tables e below (T32.setTop (mkF m 20 #[.val (.ref sa1), .val (.ref sa2), .val (.ref sa3)] [(.ref sa3), (.ref fb3), (.ref fb1), (.ref fb1)])) _
    exact st41.trans kk
  have lb3 : (((([] : List Value) ++ (own_B cc1)) ++ (own_B cc2)) ++ (own_B cc3)).length = ((([] : List Value) ++ (own_B cc1)) ++ (own_B cc2)).length + cc3.length := by rw [List.length_append, m3c]
  have hb3 : (((([] : List Value) ++ (own_B cc1)) ++ (own_B cc2)) ++ (own_B cc3)).length ≤ 6 := by omega
  rw [own_addN (by omega), ← lb3] at F341
  rw [own_WA m3c (by omega)] at V41
  have fc44 := (fc35.keep K41)
  have m4 := own_on (n := (((([] : List Value) ++ (own_B cc1)) ++ (own_B cc2)) ++ (own_B cc3)).length) (by omega)
  have fc45 := (fc40.keep K41 (allS lo_fb3 (allS lo_bx14 all0)))
  have fc47 := (Nat.le_trans fc42 K41.1)
  obtain ⟨cq46, kq46, q46a, q46b, q46c⟩ := isOf hZ rfl fc44.exa
  obtain ⟨_, _, ⟨T46, L46, k46, n46⟩, -, X46, ⟨Lc46, hQ46, l46, y46, z46⟩, st46⟩ := X41.virtualBack hx (y := (⟨"java/lang/StringBuilder", "toString", "()Ljava/lang/String;"⟩ : MethodName)) (z := (⟨"java/lang/StringBuilder", "toString", "()Ljava/lang/String;"⟩ : MethodName)) hown (mvT hZ (hw _ (List.mem_of_getElem? (i := 98) rfl))) (mvT hZ (hw _ (List.mem_of_getElem? (i := 99) rfl))) (notFace_of_selects (args := #[]) (mvT hZ (hw _ (List.mem_of_getElem? (i := 101) rfl)))) (mvT hZ (hw _ (List.mem_of_getElem? (i := 101) rfl))) (mvT hZ (hw _ (List.mem_of_getElem? (i := 100) rfl))) (by decide) (backOf (W := 2) (own_ts l Z a0 hw [] fb3 bx14 kb14 (Int32.ofNat (((([] : List Value) ++ (own_B cc1)) ++ (own_B cc2)) ++ (own_B cc3)).length) (own_W (((([] : List Value) ++ (own_B cc1)) ++ (own_B cc2)) ++ (own_B cc3))) G1 T41.heap n0 fc47 fc44 F141 F241 F341 V41 O2 P5 fc45 m4.2.1 (by rw [m4.2.2]; omega) (own_Wlen (by omega))) hZ (hw _ (List.mem_of_getElem? (i := 102) rfl)) (hw _ (List.mem_of_getElem? (i := 34) rfl)) (by decide) (by decide)) q46a q46c (g := (mkF m 23 #[.val (.ref sa1), .val (.ref sa2), .val (.ref sa3)] [(.ref fb3), (.ref fb1), (.ref fb1)])) rfl (by rw [hml]; rfl) (Steps.refl _) (argsL := []) (rest := [(.ref fb1), (.ref fb1)]) (lenOf pd___Ljava_lang_String_ rfl) rfl (by show 2 * 0 + _ ≤ _; exact Nat.le_of_eq rfl) (hb hby d_prog_86_method_2_code_23) (fun _ _ => ⟨rfl, rfl, (by decide : 3 + 2 ≤ _), (by decide : 23 + 19 ≤ _)⟩)
  dsimp only [Pt.U, Pt.locs, Pt.cells, Pt.slots] at X46 l46 y46 z46 st46 hQ46
  subst l46 y46 z46
  obtain ⟨rs46, bs46, kb46, rfl, N46q, K46, q46a, q46b, q46c, q46d, q46e, q46f⟩ := hQ46
  have N46 := Fr.app N41 N46q
  have pre48 : ∀ t, Steps p.tables e below (T46.setTop (mkF m 26 #[.val (.ref sa1), .val (.ref sa2), .val (.ref sa3)] [(.ref rs46), (.ref fb1), (.ref fb1)])) t → Steps p.tables e below (s₁.setTop (entryFrame m #[(.ref sa1), (.ref sa2), (.ref sa3)] 3)) t := by
    intro t kk
    refine pre43 t ?_
    show Steps p.tables e below (T41.setTop (mkF m 23 #[.val (.ref sa1), .val (.ref sa2), .val (.ref sa3)] [(.ref fb3), (.ref fb1), (.ref fb1)])) _
    exact st46.trans kk
  have eB : (((([] : List Value) ++ (own_B cc1)) ++ (own_B cc2)) ++ (own_B cc3)) = own_B (cc1 ++ cc2 ++ cc3) := by simp [own_B]
  rw [own_Wtake (by omega), eB, own_Blen] at q46f
  have ne_fb1_rs46 : fb1 ≠ rs46 := Nat.ne_of_lt (Nat.lt_of_lt_of_le (((((O1.ext E3).keep K14).keep K23).keep K32).keep K41).lt q46a)
  have ne_fb1_bs46 : fb1 ≠ bs46 := Nat.ne_of_lt (Nat.lt_of_lt_of_le (((((O1.ext E3).keep K14).keep K23).keep K32).keep K41).lt q46b)
  have fc49 := ((((((O1.ext E3).keep K14).keep K23).keep K32).keep K41).keep K46)
  have fc51 := (Nat.le_trans fc47 K46.1)
  obtain ⟨_, _, ⟨T50, L50, k50, n50⟩, -, X50, ⟨Lc50, hQ50, l50, y50, z50⟩, st50⟩ := X46.specialBack hx (y := (⟨"com/example/hulse/hulse/failure/Explanation", "<init>", "(Ljava/lang/String;Ljava/lang/String;Ljava/lang/String;)V"⟩ : MethodName)) rfl hown (mvT hZ (hw _ (List.mem_of_getElem? (i := 143) rfl))) (mvT hZ (hw _ (List.mem_of_getElem? (i := 144) rfl))) (mvT hZ (hw _ (List.mem_of_getElem? (i := 145) rfl))) (by decide) (backOf (W := 1) (own_exi l Z a0 hw [] fb1 rs46 sa1 sa3 T46.heap n0 fc51 fc49 lo_fb1) hZ (hw _ (List.mem_of_getElem? (i := 145) rfl)) (hw _ (List.mem_of_getElem? (i := 28) rfl)) (by decide) (by decide)) (g := (mkF m 28 #[.val (.ref sa1), .val (.ref sa2), .val (.ref sa3)] [(.ref sa3), (.ref sa1), (.ref rs46), (.ref fb1), (.ref fb1)])) rfl (by rw [hml]; rfl) (Steps.refl _) (a := fb1) (argsL := [(.ref rs46), (.ref sa1), (.ref sa3)]) (rest := [(.ref fb1)]) (lenOf pd__Ljava_lang_String_Ljava_lang_String_Ljava_lang_String__V rfl) rfl (by show 2 * 0 + _ ≤ _; exact Nat.le_of_eq rfl) (hb hby d_prog_86_method_2_code_28) (fun _ _ => ⟨rfl, rfl, (by decide : 5 + 0 ≤ _), (by decide : 42 + 0 ≤ _)⟩)
  dsimp only [Pt.U, Pt.locs, Pt.cells, Pt.slots] at X50 l50 y50 z50 st50 hQ50
  subst l50 y50 z50
  obtain ⟨rfl, N50q, K50, p50a, p50b, p50c⟩ := hQ50
  have N50 := Fr.app N46 N50q
  have pre52 : ∀ t, Steps p.tables e below (T50.setTop (mkF m 31 #[.val (.ref sa1), .val (.ref sa2), .val (.ref sa3)] [(.ref fb1)])) t → Steps p.tables e below (s₁.setTop (entryFrame m #[(.ref sa1), (.ref sa2), (.ref sa3)] 3)) t := by
    intro t kk
    refine pre48 t ?_
    show Steps p.tables e below (T46.setTop (mkF m 26 #[.val (.ref sa1), .val (.ref sa2), .val (.ref sa3)] [(.ref rs46), (.ref fb1), (.ref fb1)])) _
    refine XS.aloadN X46.here hx rfl (hb hby d_prog_86_method_2_code_26) rfl rfl ?_
    show Steps p.tables e below (T46.setTop (mkF m 27 #[.val (.ref sa1), .val (.ref sa2), .val (.ref sa3)] [(.ref sa1), (.ref rs46), (.ref fb1), (.ref fb1)])) _
    refine XS.aloadN X46.here hx rfl (hb hby d_prog_86_method_2_code_27) rfl rfl ?_
    show Steps p.tables e below (T46.setTop (mkF m 28 #[.val (.ref sa1), .val (.ref sa2), .val (.ref sa3)] [(.ref sa3), (.ref sa1), (.ref rs46), (.ref fb1), (.ref fb1)])) _
    exact st50.trans kk
  have fc53 := (((((((fc11.ext E3).trans K14 (allS (Or.inr hi_fb3) all0)).trans K23 (allS (Or.inr hi_fb3) (allS (Or.inr hi_bx14) all0))).trans K32 (allS (Or.inr hi_fb3) (allS (Or.inr hi_bx14) all0))).trans K41 (allS (Or.inr hi_fb3) (allS (Or.inr hi_bx14) all0))).trans K46 all0).trans K50 (allS (Or.inr hi_fb1) all0))
  have fc54 := (fc49.keep K50)
  have fc55 := (q46c.keep K50)
  have fc56 := (q46d.keep K50 (ninS (Ne.symm ne_fb1_rs46) nin0))
  have fc57 := (q46e.keep K50 (ninS (Ne.symm ne_fb1_rs46) nin0))
  have fc58 := (q46f.keep K50 (ninS (Ne.symm ne_fb1_bs46) nin0))
  obtain ⟨fs, hr, hrun, hended, hW, hsame⟩ := X50.leave (v := some (.ref fb1)) (fun h => by rw [Bd.returns] at h; cases h)
  refine ⟨_, _, pre52 _ ?_, hrun, hended, _, _, rfl, ?_, ⟨_, rfl⟩, hW, hsame.mono (by decide) (by decide)⟩
  · show Steps p.tables e below (T50.setTop (mkF m 31 #[.val (.ref sa1), .val (.ref sa2), .val (.ref sa3)] [(.ref fb1)])) _
    jvm_step X50.here [X50.here.top, hx, (hb hby d_prog_86_method_2_code_31), X50.method', Bd.returns, Value.isRef, FieldType.isReference]
    first | (intro acts; rw [hr _ acts rfl rfl rfl]) | rw [hr _ _ rfl rfl rfl]
    exact Steps.refl _
  · show Q_own_of Z sa1 sb1 sa2 sb2 sa3 sb3 ks1 ks2 ks3 cc1 cc2 cc3 G1 h0 n0 _ T50.heap _
    exact ⟨fb1, rs46, bs46, kb46, rfl, N50, fc53, fc54.exa, p50a, p50b, p50c, fc55, fc56, fc57, fc58⟩
theorem d_prog_86_method_18_code_0 : decode prog_86_method_18_code 0 = .ok (.aload_n 0, 1) := by decide +kernel
theorem d_prog_86_method_18_code_1 : decode prog_86_method_18_code 1 = .ok (.getfield 7, 3) := by decide +kernel
theorem d_prog_86_method_18_code_4 : decode prog_86_method_18_code 4 = .ok (.areturn, 1) := by decide +kernel
theorem ef_own_msg (m : MethodId) {a1 : Addr} : entryFrame m #[(.ref a1)] 1 = mkF m 0 #[.val (.ref a1)] [] := by first | (simp [entryFrame, mkF, argsToLocals, Value.category]; done) | rfl
def Q_own_msg (Z : State) (a1 x1 : Addr) (h0 : Heap) (n0 : Nat) (v : Option Value) (h : Heap) (L : List Loc) : Prop := v = some (.ref x1) ∧ Fr n0 L ∧ h = h0
set_option maxRecDepth 65536 in
set_option maxHeartbeats 40000000 in
theorem own_msg (l : Launch) (Z : State) (a0 : Array Value) (hw : ∀ d ∈ tables_1, d.before a0 Z = true) (ws : List Jvm.Cond) (a1 x1 : Addr) (h0 : Heap) (n0 : Nat) (Z0 : n0 ≤ h0.size) (F1 : Fld Z h0 a1 "com/example/hulse/hulse/failure/Explanation" "message" "Ljava/lang/String;" (.ref x1)) :
    MetFree l (⟨"com/example/hulse/hulse/failure/Explanation", "message", "()Ljava/lang/String;"⟩ : MethodName) (head1 (Jvm.Cond.code (⟨"com/example/hulse/hulse/failure/Explanation", "message", "()Ljava/lang/String;"⟩ : MethodName) prog_86_method_18_code 1 (some (.object "java/lang/String")) :: ws) ({ frames := 0, cells := 0, slots := 0, locals := 0 } : Room)) (fun a U => a = #[(.ref a1)] ∧ Z.Warmed39 U.vm ∧ U.heap = h0) (fun _ _ _ _ _ => True) (fun _ U o U' => ∃ v L, o = .returned v ∧ Q_own_msg Z a1 x1 h0 n0 v U'.heap L ∧ FrameEnd U o U' L ({ frames := 0, cells := 0, slots := 0, locals := 0 } : Room).cells ({ frames := 0, cells := 0, slots := 0, locals := 0 } : Room).slots) := by
  refine MetFree.of_bodySF (plainFor_of_name pn_com_example_hulse_hulse_failure_Explanation) hisR ?_
  intro p e s m args below meth c s₁ Bd hml0 hP hK
  obtain ⟨rfl, hZ, hh⟩ := hP
  have hx := Bd.exec
  have hby := Bd.bytes
  have hml : c.maxLocals = 1 := hml0
  have hown : s.vm.findClass "com/example/hulse/hulse/failure/Explanation" = some m.cls := findClass_of_methodNamed Bd.named
  have hnm := (name_of_methodNamed Bd.named Bd.method).1
  have X0 : Stand p l e ({ frames := 0, cells := 0, slots := 0, locals := 0 } : Room) s m #[(.ref a1)] below meth c s₁ [] 0 0 := Stand.of_body Bd
  have e0 : s₁.heap = h0 := by rw [← hh, Bd.state]; rfl
  have N0 := Fr.nil n0
  have pre0 : ∀ t, Steps p.tables e below (s₁.setTop (mkF m 0 #[.val (.ref a1)] [])) t → Steps p.tables e below (s₁.setTop (entryFrame m #[(.ref a1)] 1)) t := fun t k => castTop (ef_own_msg m) k
  obtain ⟨T1, X1, e1, st1⟩ := getF X0 hx hZ hown (host := "") (Or.inl (hw _ (List.mem_of_getElem? (i := 152) rfl))) Via.refl e0 F1 (g := (mkF m 1 #[.val (.ref a1)] [(.ref a1)])) rfl rfl (hb hby d_prog_86_method_18_code_1)
  have pre2 : ∀ t, Steps p.tables e below (T1.setTop (mkF m 4 #[.val (.ref a1)] [(.ref x1)])) t → Steps p.tables e below (s₁.setTop (entryFrame m #[(.ref a1)] 1)) t := by
    intro t kk
    refine pre0 t ?_
    show Steps p.tables e below (s₁.setTop (mkF m 0 #[.val (.ref a1)] [])) _
    refine XS.aloadN X0.here hx rfl (hb hby d_prog_86_method_18_code_0) rfl rfl ?_
    show Steps p.tables e below (s₁.setTop (mkF m 1 #[.val (.ref a1)] [(.ref a1)])) _
    exact st1 _ kk
  obtain ⟨fs, hr, hrun, hended, hW, hsame⟩ := X1.leave (v := some (.ref x1)) (fun h => by rw [Bd.returns] at h; cases h)
  refine ⟨_, _, pre2 _ ?_, hrun, hended, _, _, rfl, ?_, ⟨_, rfl⟩, hW, hsame.mono (by decide) (by decide)⟩
  · show Steps p.tables e below (T1.setTop (mkF m 4 #[.val (.ref a1)] [(.ref x1)])) _
    jvm_step X1.here [X1.here.top, hx, (hb hby d_prog_86_method_18_code_4), X1.method', Bd.returns, Value.isRef, FieldType.isReference]
    first | (intro acts; rw [hr _ acts rfl rfl rfl]) | rw [hr _ _ rfl rfl rfl]
    exact Steps.refl _
  · show Q_own_msg Z a1 x1 h0 n0 _ T1.heap _
    rw [e1]
    exact ⟨rfl, N0, rfl⟩
theorem d_prog_86_method_19_code_0 : decode prog_86_method_19_code 0 = .ok (.aload_n 0, 1) := by decide +kernel
theorem d_prog_86_method_19_code_1 : decode prog_86_method_19_code 1 = .ok (.getfield 13, 3) := by decide +kernel
theorem d_prog_86_method_19_code_4 : decode prog_86_method_19_code 4 = .ok (.areturn, 1) := by decide +kernel
theorem ef_own_dsc (m : MethodId) {a1 : Addr} : entryFrame m #[(.ref a1)] 1 = mkF m 0 #[.val (.ref a1)] [] := by first | (simp [entryFrame, mkF, argsToLocals, Value.category]; done) | rfl
def Q_own_dsc (Z : State) (a1 x1 : Addr) (h0 : Heap) (n0 : Nat) (v : Option Value) (h : Heap) (L : List Loc) : Prop := v = some (.ref x1) ∧ Fr n0 L ∧ h = h0
set_option maxRecDepth 65536 in
set_option maxHeartbeats 40000000 in
theorem own_dsc (l : Launch) (Z : State) (a0 : Array Value) (hw : ∀ d ∈ tables_1, d.before a0 Z = true) (ws : List Jvm.Cond) (a1 x1 : Addr) (h0 : Heap) (n0 : Nat) (Z0 : n0 ≤ h0.size) (F1 : Fld Z h0 a1 "com/example/hulse/hulse/failure/Explanation" "description" "Ljava/lang/String;" (.ref x1)) :
    MetFree l (⟨"com/example/hulse/hulse/failure/Explanation", "description", "()Ljava/lang/String;"⟩ : MethodName) (head1 (Jvm.Cond.code (⟨"com/example/hulse/hulse/failure/Explanation", "description", "()Ljava/lang/String;"⟩ : MethodName) prog_86_method_19_code 1 (some (.object "java/lang/String")) :: ws) ({ frames := 0, cells := 0, slots := 0, locals := 0 } : Room)) (fun a U => a = #[(.ref a1)] ∧ Z.Warmed39 U.vm ∧ U.heap = h0) (fun _ _ _ _ _ => True) (fun _ U o U' => ∃ v L, o = .returned v ∧ Q_own_dsc Z a1 x1 h0 n0 v U'.heap L ∧ FrameEnd U o U' L ({ frames := 0, cells := 0, slots := 0, locals := 0 } : Room).cells ({ frames := 0, cells := 0, slots := 0, locals := 0 } : Room).slots) := by
  refine MetFree.of_bodySF (plainFor_of_name pn_com_example_hulse_hulse_failure_Explanation) hisR ?_
  intro p e s m args below meth c s₁ Bd hml0 hP hK
  obtain ⟨rfl, hZ, hh⟩ := hP
  have hx := Bd.exec
  have hby := Bd.bytes
  have hml : c.maxLocals = 1 := hml0
  have hown : s.vm.findClass "com/example/hulse/hulse/failure/Explanation" = some m.cls := findClass_of_methodNamed Bd.named
  have hnm := (name_of_methodNamed Bd.named Bd.method).1
  have X0 : Stand p l e ({ frames := 0, cells := 0, slots := 0, locals := 0 } : Room) s m #[(.ref a1)] below meth c s₁ [] 0 0 := Stand.of_body Bd
  have e0 : s₁.heap = h0 := by rw [← hh, Bd.state]; rfl
  have N0 := Fr.nil n0
  have pre0 : ∀ t, Steps p.tables e below (s₁.setTop (mkF m 0 #[.val (.ref a1)] [])) t → Steps p.tables e below (s₁.setTop (entryFrame m #[(.ref a1)] 1)) t := fun t k => castTop (ef_own_dsc m) k
  obtain ⟨T1, X1, e1, st1⟩ := getF X0 hx hZ hown (host := "") (Or.inl (hw _ (List.mem_of_getElem? (i := 154) rfl))) Via.refl e0 F1 (g := (mkF m 1 #[.val (.ref a1)] [(.ref a1)])) rfl rfl (hb hby d_prog_86_method_19_code_1)
  have pre2 : ∀ t, Steps p.tables e below (T1.setTop (mkF m 4 #[.val (.ref a1)] [(.ref x1)])) t → Steps p.tables e below (s₁.setTop (entryFrame m #[(.ref a1)] 1)) t := by
    intro t kk
    refine pre0 t ?_
    show Steps p.tables e below (s₁.setTop (mkF m 0 #[.val (.ref a1)] [])) _
    refine XS.aloadN X0.here hx rfl (hb hby d_prog_86_method_19_code_0) rfl rfl ?_
    show Steps p.tables e below (s₁.setTop (mkF m 1 #[.val (.ref a1)] [(.ref a1)])) _
    exact st1 _ kk
  obtain ⟨fs, hr, hrun, hended, hW, hsame⟩ := X1.leave (v := some (.ref x1)) (fun h => by rw [Bd.returns] at h; cases h)
  refine ⟨_, _, pre2 _ ?_, hrun, hended, _, _, rfl, ?_, ⟨_, rfl⟩, hW, hsame.mono (by decide) (by decide)⟩
  · show Steps p.tables e below (T1.setTop (mkF m 4 #[.val (.ref a1)] [(.ref x1)])) _
    jvm_step X1.here [X1.here.top, hx, (hb hby d_prog_86_method_19_code_4), X1.method', Bd.returns, Value.isRef, FieldType.isReference]
    first | (intro acts; rw [hr _ acts rfl rfl rfl]) | rw [hr _ _ rfl rfl rfl]
    exact Steps.refl _
  · show Q_own_dsc Z a1 x1 h0 n0 _ T1.heap _
    rw [e1]
    exact ⟨rfl, N0, rfl⟩
theorem d_prog_86_method_20_code_0 : decode prog_86_method_20_code 0 = .ok (.aload_n 0, 1) := by decide +kernel
theorem d_prog_86_method_20_code_1 : decode prog_86_method_20_code 1 = .ok (.getfield 16, 3) := by decide +kernel
theorem d_prog_86_method_20_code_4 : decode prog_86_method_20_code 4 = .ok (.areturn, 1) := by decide +kernel
theorem ef_own_act (m : MethodId) {a1 : Addr} : entryFrame m #[(.ref a1)] 1 = mkF m 0 #[.val (.ref a1)] [] := by first | (simp [entryFrame, mkF, argsToLocals, Value.category]; done) | rfl
def Q_own_act (Z : State) (a1 x1 : Addr) (h0 : Heap) (n0 : Nat) (v : Option Value) (h : Heap) (L : List Loc) : Prop := v = some (.ref x1) ∧ Fr n0 L ∧ h = h0
set_option maxRecDepth 65536 in
set_option maxHeartbeats 40000000 in
theorem own_act (l : Launch) (Z : State) (a0 : Array Value) (hw : ∀ d ∈ tables_1, d.before a0 Z = true) (ws : List Jvm.Cond) (a1 x1 : Addr) (h0 : Heap) (n0 : Nat) (Z0 : n0 ≤ h0.size) (F1 : Fld Z h0 a1 "com/example/hulse/hulse/failure/Explanation" "action" "Ljava/lang/String;" (.ref x1)) :
    MetFree l (⟨"com/example/hulse/hulse/failure/Explanation", "action", "()Ljava/lang/String;"⟩ : MethodName) (head1 (Jvm.Cond.code (⟨"com/example/hulse/hulse/failure/Explanation", "action", "()Ljava/lang/String;"⟩ : MethodName) prog_86_method_20_code 1 (some (.object "java/lang/String")) :: ws) ({ frames := 0, cells := 0, slots := 0, locals := 0 } : Room)) (fun a U => a = #[(.ref a1)] ∧ Z.Warmed39 U.vm ∧ U.heap = h0) (fun _ _ _ _ _ => True) (fun _ U o U' => ∃ v L, o = .returned v ∧ Q_own_act Z a1 x1 h0 n0 v U'.heap L ∧ FrameEnd U o U' L ({ frames := 0, cells := 0, slots := 0, locals := 0 } : Room).cells ({ frames := 0, cells := 0, slots := 0, locals := 0 } : Room).slots) := by
  refine MetFree.of_bodySF (plainFor_of_name pn_com_example_hulse_hulse_failure_Explanation) hisR ?_
  intro p e s m args below meth c s₁ Bd hml0 hP hK
  obtain ⟨rfl, hZ, hh⟩ := hP
  have hx := Bd.exec
  have hby := Bd.bytes
  have hml : c.maxLocals = 1 := hml0
  have hown : s.vm.findClass "com/example/hulse/hulse/failure/Explanation" = some m.cls := findClass_of_methodNamed Bd.named
  have hnm := (name_of_methodNamed Bd.named Bd.method).1
  have X0 : Stand p l e ({ frames := 0, cells := 0, slots := 0, locals := 0 } : Room) s m #[(.ref a1)] below meth c s₁ [] 0 0 := Stand.of_body Bd
  have e0 : s₁.heap = h0 := by rw [← hh, Bd.state]; rfl
  have N0 := Fr.nil n0
  have pre0 : ∀ t, Steps p.tables e below (s₁.setTop (mkF m 0 #[.val (.ref a1)] [])) t → Steps p.tables e below (s₁.setTop (entryFrame m #[(.ref a1)] 1)) t := fun t k => castTop (ef_own_act m) k
  obtain ⟨T1, X1, e1, st1⟩ := getF X0 hx hZ hown (host := "") (Or.inl (hw _ (List.mem_of_getElem? (i := 156) rfl))) Via.refl e0 F1 (g := (mkF m 1 #[.val (.ref a1)] [(.ref a1)])) rfl rfl (hb hby d_prog_86_method_20_code_1)
  have pre2 : ∀ t, Steps p.tables e below (T1.setTop (mkF m 4 #[.val (.ref a1)] [(.ref x1)])) t → Steps p.tables e below (s₁.setTop (entryFrame m #[(.ref a1)] 1)) t := by
    intro t kk
    refine pre0 t ?_
    show Steps p.tables e below (s₁.setTop (mkF m 0 #[.val (.ref a1)] [])) _
    refine XS.aloadN X0.here hx rfl (hb hby d_prog_86_method_20_code_0) rfl rfl ?_
    show Steps p.tables e below (s₁.setTop (mkF m 1 #[.val (.ref a1)] [(.ref a1)])) _
    exact st1 _ kk
  obtain ⟨fs, hr, hrun, hended, hW, hsame⟩ := X1.leave (v := some (.ref x1)) (fun h => by rw [Bd.returns] at h; cases h)
  refine ⟨_, _, pre2 _ ?_, hrun, hended, _, _, rfl, ?_, ⟨_, rfl⟩, hW, hsame.mono (by decide) (by decide)⟩
  · show Steps p.tables e below (T1.setTop (mkF m 4 #[.val (.ref a1)] [(.ref x1)])) _
    jvm_step X1.here [X1.here.top, hx, (hb hby d_prog_86_method_20_code_4), X1.method', Bd.returns, Value.isRef, FieldType.isReference]
    first | (intro acts; rw [hr _ acts rfl rfl rfl]) | rw [hr _ _ rfl rfl rfl]
    exact Steps.refl _
  · show Q_own_act Z a1 x1 h0 n0 _ T1.heap _
    rw [e1]
    exact ⟨rfl, N0, rfl⟩
theorem d_jdk_42_method_66_code_0 : decode jdk_42_method_66_code 0 = .ok (.aload_n 0, 1) := by decide +kernel
theorem d_jdk_42_method_66_code_1 : decode jdk_42_method_66_code 1 = .ok (.aload_n 1, 1) := by decide +kernel
theorem d_jdk_42_method_66_code_2 : decode jdk_42_method_66_code 2 = .ok (.if_acmp .ne 5, 3) := by decide +kernel
theorem d_jdk_42_method_66_code_5 : decode jdk_42_method_66_code 5 = .ok (.iconst 1, 1) := by decide +kernel
theorem d_jdk_42_method_66_code_6 : decode jdk_42_method_66_code 6 = .ok (.ireturn, 1) := by decide +kernel
theorem ef_own_eqq (m : MethodId) {s1 : Addr} : entryFrame m #[(.ref s1), (.ref s1)] 3 = mkF m 0 #[.val (.ref s1), .val (.ref s1), .unset] [] := by first | (simp [entryFrame, mkF, argsToLocals, Value.category]; done) | rfl
def Q_own_eqq (Z : State) (s1 : Addr) (h0 : Heap) (n0 : Nat) (v : Option Value) (h : Heap) (L : List Loc) : Prop := v = some (.int (1 : Int32)) ∧ Fr n0 L ∧ h = h0
set_option maxRecDepth 65536 in
set_option maxHeartbeats 40000000 in
theorem own_eqq (l : Launch) (Z : State) (a0 : Array Value) (hw : ∀ d ∈ tables_1, d.before a0 Z = true) (ws : List Jvm.Cond) (s1 : Addr) (h0 : Heap) (n0 : Nat) (Z0 : n0 ≤ h0.size)  :
    MetFree l (⟨"java/lang/String", "equals", "(Ljava/lang/Object;)Z"⟩ : MethodName) (head1 (Jvm.Cond.code (⟨"java/lang/String", "equals", "(Ljava/lang/Object;)Z"⟩ : MethodName) jdk_42_method_66_code 3 (some .boolean) :: ws) ({ frames := 0, cells := 0, slots := 0, locals := 0 } : Room)) (fun a U => a = #[(.ref s1), (.ref s1)] ∧ Z.Warmed39 U.vm ∧ U.heap = h0) (fun _ _ _ _ _ => True) (fun _ U o U' => ∃ v L, o = .returned v ∧ Q_own_eqq Z s1 h0 n0 v U'.heap L ∧ FrameEnd U o U' L ({ frames := 0, cells := 0, slots := 0, locals := 0 } : Room).cells ({ frames := 0, cells := 0, slots := 0, locals := 0 } : Room).slots) := by
  refine MetFree.of_bodySF (plainFor_of_name pn_java_lang_String) hisR ?_
  intro p e s m args below meth c s₁ Bd hml0 hP hK
  obtain ⟨rfl, hZ, hh⟩ := hP
  have hx := Bd.exec
  have hby := Bd.bytes
  have hml : c.maxLocals = 3 := hml0
  have hown : s.vm.findClass "java/lang/String" = some m.cls := findClass_of_methodNamed Bd.named
  have hnm := (name_of_methodNamed Bd.named Bd.method).1
  have X0 : Stand p l e ({ frames := 0, cells := 0, slots := 0, locals := 0 } : Room) s m #[(.ref s1), (.ref s1)] below meth c s₁ [] 0 0 := Stand.of_body Bd
  have e0 : s₁.heap = h0 := by rw [← hh, Bd.state]; rfl
  have N0 := Fr.nil n0
  have pre0 : ∀ t, Steps p.tables e below (s₁.setTop (mkF m 0 #[.val (.ref s1), .val (.ref s1), .unset] [])) t → Steps p.tables e below (s₁.setTop (entryFrame m #[(.ref s1), (.ref s1)] 3)) t := fun t k => castTop (ef_own_eqq m) k
  obtain ⟨fs, hr, hrun, hended, hW, hsame⟩ := X0.leave (v := some (.int (1 : Int32))) (fun h => by rw [Bd.returns] at h; cases h)
  refine ⟨_, _, pre0 _ ?_, hrun, hended, _, _, rfl, ?_, ⟨_, rfl⟩, hW, hsame.mono (by decide) (by decide)⟩
  · show Steps p.tables e below (s₁.setTop (mkF m 0 #[.val (.ref s1), .val (.ref s1), .unset] [])) _
    refine XS.aloadN X0.here hx rfl (hb hby d_jdk_42_method_66_code_0) rfl rfl ?_
    show Steps p.tables e below (s₁.setTop (mkF m 1 #[.val (.ref s1), .val (.ref s1), .unset] [(.ref s1)])) _
    refine XS.aloadN X0.here hx rfl (hb hby d_jdk_42_method_66_code_1) rfl rfl ?_
    show Steps p.tables e below (s₁.setTop (mkF m 2 #[.val (.ref s1), .val (.ref s1), .unset] [(.ref s1), (.ref s1)])) _
    refine Jvm.RoadKit.acmp (g := (mkF m 2 #[.val (.ref s1), .val (.ref s1), .unset] [(.ref s1), (.ref s1)])) X0 hx rfl rfl rfl (pc0 := 2) (pc' := 5) (same := true) rfl (hb hby d_jdk_42_method_66_code_2) rfl (decide_eq_true (congrArg Value.ref rfl)) (by decide) (by decide) ?_
    show Steps p.tables e below (s₁.setTop (mkF m 5 #[.val (.ref s1), .val (.ref s1), .unset] [])) _
    refine XS.iconst X0.here hx rfl (hb hby d_jdk_42_method_66_code_5) ?_
    show Steps p.tables e below (s₁.setTop (mkF m 6 #[.val (.ref s1), .val (.ref s1), .unset] [(.int (1 : Int32))])) _
    exact retN X0 hx (t := .boolean) Bd.returns (by simp) (hb hby d_jdk_42_method_66_code_6) hr
  · show Q_own_eqq Z s1 h0 n0 _ s₁.heap _
    rw [e0]
    exact ⟨rfl, N0, rfl⟩
theorem own_cod {cs : List Int32} (h : own_Lt cs) : StrChars.Road.CodA cs 0 (Int32.ofNat cs.length) (own_B cs) := Or.inl ⟨rfl, rfl, by simp only [own_B, List.map_map]; rfl, fun c hc => (h c hc).2⟩
theorem own_iN {i : Int32} (h : ¬ i < 0) : i = Int32.ofNat i.toNatClampNeg := by
  have e := nat_of h
  have r := rng32 i
  apply Int32.toInt_inj.mp
  rw [Int32.toInt_ofNat_of_lt (by omega)]
  exact e
theorem own_subN {i : Int32} {l : Nat} (h : ¬ i < 0) (hl : l ≤ i.toNatClampNeg) (hb : l ≤ 4000) : i - Int32.ofNat l = Int32.ofNat (i.toNatClampNeg - l) := by
  have e := nat_of h
  have r := rng32 i
  have e2 := (own_on hb).1
  have q := c_isub i (Int32.ofNat l)
  have r2 := rng32 (i - Int32.ofNat l)
  apply Int32.toInt_inj.mp
  rw [Int32.toInt_ofNat_of_lt (by omega)]
  omega
theorem own_ltN {i : Int32} {l : Nat} (h : ¬ i < 0) (hb : l ≤ 4000) : i < Int32.ofNat l ↔ i.toNatClampNeg < l := by
  have e := nat_of h
  have e2 := (own_on hb).1
  rw [Int32.lt_iff_toInt_lt]
  omega
theorem own_gA {a b : List Int32} {i : Nat} (h : i < a.length) : (a ++ b).getD i 0 = a.getD i 0 := by
  simp [List.getD_eq_getElem?_getD, List.getElem?_append_left h]
theorem own_gB {a b : List Int32} {i : Nat} (h : a.length ≤ i) : (a ++ b).getD i 0 = b.getD (i - a.length) 0 := by
  simp [List.getD_eq_getElem?_getD, List.getElem?_append_right h]
theorem d_method_4_code_0 : decode method_4_code 0 = .ok (.iload_n 1, 1) := by decide +kernel
theorem d_method_4_code_1 : decode method_4_code 1 = .ok (.aload_n 0, 1) := by decide +kernel
theorem d_method_4_code_2 : decode method_4_code 2 = .ok (.invokevirtual 23, 3) := by decide +kernel
theorem d_method_4_code_5 : decode method_4_code 5 = .ok (.if_icmp .lt 5, 3) := by decide +kernel
theorem d_method_4_code_10 : decode method_4_code 10 = .ok (.aload_n 2, 1) := by decide +kernel
theorem d_method_4_code_11 : decode method_4_code 11 = .ok (.invokevirtual 23, 3) := by decide +kernel
theorem d_method_4_code_14 : decode method_4_code 14 = .ok (.istore 5, 2) := by decide +kernel
theorem d_method_4_code_16 : decode method_4_code 16 = .ok (.aload_n 3, 1) := by decide +kernel
theorem d_method_4_code_17 : decode method_4_code 17 = .ok (.invokevirtual 23, 3) := by decide +kernel
theorem d_method_4_code_20 : decode method_4_code 20 = .ok (.istore 6, 2) := by decide +kernel
theorem d_method_4_code_22 : decode method_4_code 22 = .ok (.iload_n 1, 1) := by decide +kernel
theorem d_method_4_code_23 : decode method_4_code 23 = .ok (.iload 5, 2) := by decide +kernel
theorem d_method_4_code_25 : decode method_4_code 25 = .ok (.if_icmp .ge 13, 3) := by decide +kernel
theorem d_method_4_code_28 : decode method_4_code 28 = .ok (.aload_n 2, 1) := by decide +kernel
theorem d_method_4_code_29 : decode method_4_code 29 = .ok (.iload_n 1, 1) := by decide +kernel
theorem pd__I_C : parseMethodDescriptor "(I)C" = some ⟨[.int], some .char⟩ := by decide +kernel
theorem d_method_4_code_30 : decode method_4_code 30 = .ok (.invokevirtual 46, 3) := by decide +kernel
theorem d_method_4_code_33 : decode method_4_code 33 = .ok (.istore 7, 2) := by decide +kernel
theorem d_method_4_code_35 : decode method_4_code 35 = .ok (.goto 39, 3) := by decide +kernel
theorem d_method_4_code_74 : decode method_4_code 74 = .ok (.aload_n 0, 1) := by decide +kernel
theorem d_method_4_code_75 : decode method_4_code 75 = .ok (.iload_n 1, 1) := by decide +kernel
theorem d_method_4_code_76 : decode method_4_code 76 = .ok (.invokevirtual 46, 3) := by decide +kernel
theorem d_method_4_code_79 : decode method_4_code 79 = .ok (.iload 7, 2) := by decide +kernel
theorem d_method_4_code_81 : decode method_4_code 81 = .ok (.if_icmp .ne 7, 3) := by decide +kernel
theorem d_method_4_code_84 : decode method_4_code 84 = .ok (.iconst 1, 1) := by decide +kernel
theorem d_method_4_code_85 : decode method_4_code 85 = .ok (.goto 4, 3) := by decide +kernel
theorem d_method_4_code_89 : decode method_4_code 89 = .ok (.ireturn, 1) := by decide +kernel
theorem d_method_4_code_38 : decode method_4_code 38 = .ok (.iload_n 1, 1) := by decide +kernel
theorem d_method_4_code_39 : decode method_4_code 39 = .ok (.iload 5, 2) := by decide +kernel
theorem d_method_4_code_41 : decode method_4_code 41 = .ok (.iload 6, 2) := by decide +kernel
theorem d_method_4_code_43 : decode method_4_code 43 = .ok (.iadd, 1) := by decide +kernel
theorem d_method_4_code_44 : decode method_4_code 44 = .ok (.if_icmp .ge 16, 3) := by decide +kernel
theorem d_method_4_code_47 : decode method_4_code 47 = .ok (.aload_n 3, 1) := by decide +kernel
theorem d_method_4_code_48 : decode method_4_code 48 = .ok (.iload_n 1, 1) := by decide +kernel
theorem d_method_4_code_49 : decode method_4_code 49 = .ok (.iload 5, 2) := by decide +kernel
theorem d_method_4_code_51 : decode method_4_code 51 = .ok (.isub, 1) := by decide +kernel
theorem d_method_4_code_52 : decode method_4_code 52 = .ok (.invokevirtual 46, 3) := by decide +kernel
theorem d_method_4_code_55 : decode method_4_code 55 = .ok (.istore 7, 2) := by decide +kernel
theorem d_method_4_code_57 : decode method_4_code 57 = .ok (.goto 17, 3) := by decide +kernel
theorem d_method_4_code_60 : decode method_4_code 60 = .ok (.aload 4, 2) := by decide +kernel
theorem d_method_4_code_62 : decode method_4_code 62 = .ok (.iload_n 1, 1) := by decide +kernel
theorem d_method_4_code_63 : decode method_4_code 63 = .ok (.iload 5, 2) := by decide +kernel
theorem d_method_4_code_65 : decode method_4_code 65 = .ok (.isub, 1) := by decide +kernel
theorem d_method_4_code_66 : decode method_4_code 66 = .ok (.iload 6, 2) := by decide +kernel
theorem d_method_4_code_68 : decode method_4_code 68 = .ok (.isub, 1) := by decide +kernel
theorem d_method_4_code_69 : decode method_4_code 69 = .ok (.invokevirtual 46, 3) := by decide +kernel
theorem d_method_4_code_72 : decode method_4_code 72 = .ok (.istore 7, 2) := by decide +kernel
theorem d_method_4_code_8 : decode method_4_code 8 = .ok (.iconst 1, 1) := by decide +kernel
theorem d_method_4_code_9 : decode method_4_code 9 = .ok (.ireturn, 1) := by decide +kernel
theorem ef_own_at (m : MethodId) {mm : Addr} {ii : Int32} {sa1 : Addr} {sa2 : Addr} {sa3 : Addr} : entryFrame m #[(.ref mm), (.int ii), (.ref sa1), (.ref sa2), (.ref sa3)] 8 = mkF m 0 #[.val (.ref mm), .val (.int ii), .val (.ref sa1), .val (.ref sa2), .val (.ref sa3), .unset, .unset, .unset] [] := by first | (simp [entryFrame, mkF, argsToLocals, Value.category]; done) | rfl
def Q_own_at (Z : State) (mm mb : Addr) (km : ClassId) (sa1 sb1 sa2 sb2 sa3 sb3 : Addr) (ks1 ks2 ks3 : ClassId) (cc1 cc2 cc3 : List Int32) (ii G1 : Int32) (G3 : Value) (h0 : Heap) (n0 : Nat) (v : Option Value) (h : Heap) (L : List Loc) : Prop := v = some (.int (1 : Int32)) ∧ Fr n0 L ∧ h = h0
set_option maxRecDepth 65536 in
set_option maxHeartbeats 40000000 in
theorem own_at (l : Launch) (Z : State) (a0 : Array Value) (hw : ∀ d ∈ tables_1, d.before a0 Z = true) (ws : List Jvm.Cond) (mm mb : Addr) (km : ClassId) (sa1 sb1 sa2 sb2 sa3 sb3 : Addr) (ks1 ks2 ks3 : ClassId) (cc1 cc2 cc3 : List Int32) (ii G1 : Int32) (G3 : Value) (h0 : Heap) (n0 : Nat) (Z0 : n0 ≤ h0.size) (xE0 : Exa Z h0 mm "java/lang/String") (xF0 : Fld Z h0 mm "java/lang/String" "value" "[B" (.ref mb)) (xC0 : Fld Z h0 mm "java/lang/String" "coder" "B" (.int (0 : Int32))) (xV0 : Arv Z h0 mb km .byte (Int32.ofNat (cc1 ++ cc2 ++ cc3).length) (own_B (cc1 ++ cc2 ++ cc3)) (.int (0 : Int32))) (xE1 : Exa Z h0 sa1 "java/lang/String") (xF1 : Fld Z h0 sa1 "java/lang/String" "value" "[B" (.ref sb1)) (xC1 : Fld Z h0 sa1 "java/lang/String" "coder" "B" (.int (0 : Int32))) (xV1 : Arv Z h0 sb1 ks1 .byte (Int32.ofNat cc1.length) (own_B cc1) (.int (0 : Int32))) (xE2 : Exa Z h0 sa2 "java/lang/String") (xF2 : Fld Z h0 sa2 "java/lang/String" "value" "[B" (.ref sb2)) (xC2 : Fld Z h0 sa2 "java/lang/String" "coder" "B" (.int (0 : Int32))) (xV2 : Arv Z h0 sb2 ks2 .byte (Int32.ofNat cc2.length) (own_B cc2) (.int (0 : Int32))) (xE3 : Exa Z h0 sa3 "java/lang/String") (xF3 : Fld Z h0 sa3 "java/lang/String" "value" "[B" (.ref sb3)) (xC3 : Fld Z h0 sa3 "java/lang/String" "coder" "B" (.int (0 : Int32))) (xV3 : Arv Z h0 sb3 ks3 .byte (Int32.ofNat cc3.length) (own_B cc3) (.int (0 : Int32))) (hl1 : cc1.length ≤ 2) (hl2 : cc2.length ≤ 2) (hl3 : cc3.length ≤ 2) (lt1 : own_Lt cc1) (lt2 : own_Lt cc2) (lt3 : own_Lt cc3) (hi0 : ¬ ii < 0) (O2 : Sta Z Z.heap "java/lang/String" "COMPACT_STRINGS" "Z" (.int G1)) (P5 : ¬ G1 = (0 : Int32)) (O4 : Sta Z Z.heap "jdk/internal/util/Preconditions" "SIOOBE_FORMATTER" "Ljava/util/function/BiFunction;" G3) (rG3 : G3.isRef = true) (XO : Old Z n0 h0) :
    MetFree l (⟨"com/example/hulse/hulse/failure/ExplanationOfPinLaw", "at", "(Ljava/lang/String;ILjava/lang/String;Ljava/lang/String;Ljava/lang/String;)Z"⟩ : MethodName) (head1 (Jvm.Cond.code (⟨"com/example/hulse/hulse/failure/ExplanationOfPinLaw", "at", "(Ljava/lang/String;ILjava/lang/String;Ljava/lang/String;Ljava/lang/String;)Z"⟩ : MethodName) method_4_code 8 (some .boolean) :: ws) ({ frames := 4, cells := 0, slots := 0, locals := 53 } : Room)) (fun a U => a = #[(.ref mm), (.int ii), (.ref sa1), (.ref sa2), (.ref sa3)] ∧ Z.Warmed39 U.vm ∧ U.heap = h0) (fun _ _ _ _ _ => True) (fun _ U o U' => ∃ v L, o = .returned v ∧ Q_own_at Z mm mb km sa1 sb1 sa2 sb2 sa3 sb3 ks1 ks2 ks3 cc1 cc2 cc3 ii G1 G3 h0 n0 v U'.heap L ∧ FrameEnd U o U' L ({ frames := 4, cells := 0, slots := 0, locals := 53 } : Room).cells ({ frames := 4, cells := 0, slots := 0, locals := 53 } : Room).slots) := by
  refine MetFree.of_bodySF (plainFor_of_name pn_com_example_hulse_hulse_failure_ExplanationOfPinLaw) hisR ?_
  intro p e s m args below meth c s₁ Bd hml0 hP hK
  obtain ⟨rfl, hZ, hh⟩ := hP
  have hx := Bd.exec
  have hby := Bd.bytes
  have hml : c.maxLocals = 8 := hml0
  have hown : s.vm.findClass "com/example/hulse/hulse/failure/ExplanationOfPinLaw" = some m.cls := findClass_of_methodNamed Bd.named
  have hnm := (name_of_methodNamed Bd.named Bd.method).1
  have X0 : Stand p l e ({ frames := 4, cells := 0, slots := 0, locals := 53 } : Room) s m #[(.ref mm), (.int ii), (.ref sa1), (.ref sa2), (.ref sa3)] below meth c s₁ [] 0 0 := Stand.of_body Bd
  have e0 : s₁.heap = h0 := by rw [← hh, Bd.state]; rfl
  have N0 := Fr.nil n0
  have pre0 : ∀ t, Steps p.tables e below (s₁.setTop (mkF m 0 #[.val (.ref mm), .val (.int ii), .val (.ref sa1), .val (.ref sa2), .val (.ref sa3), .unset, .unset, .unset] [])) t → Steps p.tables e below (s₁.setTop (entryFrame m #[(.ref mm), (.int ii), (.ref sa1), (.ref sa2), (.ref sa3)] 8)) t := fun t k => castTop (ef_own_at m) k
  have hch : ∀ d ∈ StrChars.Road.wordsChN, d.before a0 Z = true := fun d hd => hw d ((by decide +kernel : ∀ d ∈ StrChars.Road.wordsChN, d ∈ tables_1) d hd)
  have lcm : (cc1 ++ cc2 ++ cc3).length = cc1.length + cc2.length + cc3.length := by simp only [List.length_append]
  have ltm : own_Lt (cc1 ++ cc2 ++ cc3) := own_papp (own_papp lt1 lt2) lt3
  obtain ⟨cq1, kq1, q1a, q1b, q1c⟩ := isOf hZ e0 xE0
  obtain ⟨_, _, ⟨T1, L1, k1, n1⟩, -, X1, ⟨Lc1, hQ1, l1, y1, z1⟩, st1⟩ := X0.virtualBack hx (y := (⟨"java/lang/String", "length", "()I"⟩ : MethodName)) (z := (⟨"java/lang/String", "length", "()I"⟩ : MethodName)) hown (mvT hZ (hw _ (List.mem_of_getElem? (i := 163) rfl))) (mvT hZ (hw _ (List.mem_of_getElem? (i := 61) rfl))) (notFace_of_selects (args := #[]) (mvT hZ (hw _ (List.mem_of_getElem? (i := 63) rfl)))) (mvT hZ (hw _ (List.mem_of_getElem? (i := 63) rfl))) (mvT hZ (hw _ (List.mem_of_getElem? (i := 62) rfl))) (by decide) (backOf (W := 1) (own_slen l Z a0 hw [] mm mb km (Int32.ofNat (cc1 ++ cc2 ++ cc3).length) (own_B (cc1 ++ cc2 ++ cc3)) G1 h0 n0 Z0 xE0 xF0 xC0 xV0 O2 P5 XO) hZ (hw _ (List.mem_of_getElem? (i := 64) rfl)) (hw _ (List.mem_of_getElem? (i := 6) rfl)) (by decide) (by decide)) q1a q1c (g := (mkF m 2 #[.val (.ref mm), .val (.int ii), .val (.ref sa1), .val (.ref sa2), .val (.ref sa3), .unset, .unset, .unset] [(.ref mm), (.int ii)])) rfl (by rw [hml]; rfl) (Steps.refl _) (argsL := []) (rest := [(.int ii)]) (lenOf pd___I rfl) rfl (by show 2 * 0 + _ ≤ _; exact Nat.le_of_eq rfl) (hb hby d_method_4_code_2) (fun _ _ => ⟨rfl, e0, (by decide : 0 + 0 ≤ _), (by decide : 0 + 0 ≤ _)⟩)
  dsimp only [Pt.U, Pt.locs, Pt.cells, Pt.slots] at X1 l1 y1 z1 st1 hQ1
  subst l1 y1 z1
  obtain ⟨rfl, N1q, e1q⟩ := hQ1
  have N1 := Fr.app N0 N1q
  have pre2 : ∀ t, Steps p.tables e below (T1.setTop (mkF m 5 #[.val (.ref mm), .val (.int ii), .val (.ref sa1), .val (.ref sa2), .val (.ref sa3), .unset, .unset, .unset] [(.int (Int32.ofNat (cc1 ++ cc2 ++ cc3).length)), (.int ii)])) t → Steps p.tables e below (s₁.setTop (entryFrame m #[(.ref mm), (.int ii), (.ref sa1), (.ref sa2), (.ref sa3)] 8)) t := by
    intro t kk
    refine pre0 t ?_
    show Steps p.tables e below (s₁.setTop (mkF m 0 #[.val (.ref mm), .val (.int ii), .val (.ref sa1), .val (.ref sa2), .val (.ref sa3), .unset, .unset, .unset] [])) _
    refine XS.iloadN X0.here hx rfl (hb hby d_method_4_code_0) rfl ?_
    show Steps p.tables e below (s₁.setTop (mkF m 1 #[.val (.ref mm), .val (.int ii), .val (.ref sa1), .val (.ref sa2), .val (.ref sa3), .unset, .unset, .unset] [(.int ii)])) _
    refine XS.aloadN X0.here hx rfl (hb hby d_method_4_code_1) rfl rfl ?_
    show Steps p.tables e below (s₁.setTop (mkF m 2 #[.val (.ref mm), .val (.int ii), .val (.ref sa1), .val (.ref sa2), .val (.ref sa3), .unset, .unset, .unset] [(.ref mm), (.int ii)])) _
    exact st1.trans kk
  by_cases hm : ii < (Int32.ofNat (cc1 ++ cc2 ++ cc3).length)
  case pos =>
    have hm' := (own_ltN hi0 (by omega)).mp hm
    obtain ⟨cq3, kq3, q3a, q3b, q3c⟩ := isOf hZ e1q xE1
    obtain ⟨_, _, ⟨T3, L3, k3, n3⟩, -, X3, ⟨Lc3, hQ3, l3, y3, z3⟩, st3⟩ := X1.virtualBack hx (y := (⟨"java/lang/String", "length", "()I"⟩ : MethodName)) (z := (⟨"java/lang/String", "length", "()I"⟩ : MethodName)) hown (mvT hZ (hw _ (List.mem_of_getElem? (i := 163) rfl))) (mvT hZ (hw _ (List.mem_of_getElem? (i := 61) rfl))) (notFace_of_selects (args := #[]) (mvT hZ (hw _ (List.mem_of_getElem? (i := 63) rfl)))) (mvT hZ (hw _ (List.mem_of_getElem? (i := 63) rfl))) (mvT hZ (hw _ (List.mem_of_getElem? (i := 62) rfl))) (by decide) (backOf (W := 0) (own_slen l Z a0 hw [] sa1 sb1 ks1 (Int32.ofNat cc1.length) (own_B cc1) G1 h0 n0 Z0 xE1 xF1 xC1 xV1 O2 P5 XO) hZ (hw _ (List.mem_of_getElem? (i := 64) rfl)) (hw _ (List.mem_of_getElem? (i := 6) rfl)) (by decide) (by decide)) q3a q3c (g := (mkF m 11 #[.val (.ref mm), .val (.int ii), .val (.ref sa1), .val (.ref sa2), .val (.ref sa3), .unset, .unset, .unset] [(.ref sa1)])) rfl (by rw [hml]; rfl) (Steps.refl _) (argsL := []) (rest := []) (lenOf pd___I rfl) rfl (by show 2 * 0 + _ ≤ _; exact Nat.le_of_eq rfl) (hb hby d_method_4_code_11) (fun _ _ => ⟨rfl, e1q, (by decide : 0 + 0 ≤ _), (by decide : 0 + 0 ≤ _)⟩)
    dsimp only [Pt.U, Pt.locs, Pt.cells, Pt.slots] at X3 l3 y3 z3 st3 hQ3
    subst l3 y3 z3
    obtain ⟨rfl, N3q, e3q⟩ := hQ3
    have N3 := Fr.app N1 N3q
    have pre4 : ∀ t, Steps p.tables e below (T3.setTop (mkF m 14 #[.val (.ref mm), .val (.int ii), .val (.ref sa1), .val (.ref sa2), .val (.ref sa3), .unset, .unset, .unset] [(.int (Int32.ofNat cc1.length))])) t → Steps p.tables e below (s₁.setTop (entryFrame m #[(.ref mm), (.int ii), (.ref sa1), (.ref sa2), (.ref sa3)] 8)) t := by
      intro t kk
      refine pre2 t ?_
      show Steps p.tables e below (T1.setTop (mkF m 5 #[.val (.ref mm), .val (.int ii), .val (.ref sa1), .val (.ref sa2), .val (.ref sa3), .unset, .unset, .unset] [(.int (Int32.ofNat (cc1 ++ cc2 ++ cc3).length)), (.int ii)])) _
      refine XS.icmpYes X1.here hx rfl (pc0 := 5) (pc' := 10) rfl (hb hby d_method_4_code_5) rfl (tlt hm).1 (by decide) (by decide) ?_
      show Steps p.tables e below (T1.setTop (mkF m 10 #[.val (.ref mm), .val (.int ii), .val (.ref sa1), .val (.ref sa2), .val (.ref sa3), .unset, .unset, .unset] [])) _
      refine XS.aloadN X1.here hx rfl (hb hby d_method_4_code_10) rfl rfl ?_
      show Steps p.tables e below (T1.setTop (mkF m 11 #[.val (.ref mm), .val (.int ii), .val (.ref sa1), .val (.ref sa2), .val (.ref sa3), .unset, .unset, .unset] [(.ref sa1)])) _
      exact st3.trans kk
    obtain ⟨cq5, kq5, q5a, q5b, q5c⟩ := isOf hZ e3q xE2
    obtain ⟨_, _, ⟨T5, L5, k5, n5⟩, -, X5, ⟨Lc5, hQ5, l5, y5, z5⟩, st5⟩ := X3.virtualBack hx (y := (⟨"java/lang/String", "length", "()I"⟩ : MethodName)) (z := (⟨"java/lang/String", "length", "()I"⟩ : MethodName)) hown (mvT hZ (hw _ (List.mem_of_getElem? (i := 163) rfl))) (mvT hZ (hw _ (List.mem_of_getElem? (i := 61) rfl))) (notFace_of_selects (args := #[]) (mvT hZ (hw _ (List.mem_of_getElem? (i := 63) rfl)))) (mvT hZ (hw _ (List.mem_of_getElem? (i := 63) rfl))) (mvT hZ (hw _ (List.mem_of_getElem? (i := 62) rfl))) (by decide) (backOf (W := 0) (own_slen l Z a0 hw [] sa2 sb2 ks2 (Int32.ofNat cc2.length) (own_B cc2) G1 h0 n0 Z0 xE2 xF2 xC2 xV2 O2 P5 XO) hZ (hw _ (List.mem_of_getElem? (i := 64) rfl)) (hw _ (List.mem_of_getElem? (i := 6) rfl)) (by decide) (by decide)) q5a q5c (g := (mkF m 17 #[.val (.ref mm), .val (.int ii), .val (.ref sa1), .val (.ref sa2), .val (.ref sa3), .val (.int (Int32.ofNat cc1.length)), .unset, .unset] [(.ref sa2)])) rfl (by rw [hml]; rfl) (Steps.refl _) (argsL := []) (rest := []) (lenOf pd___I rfl) rfl (by show 2 * 0 + _ ≤ _; exact Nat.le_of_eq rfl) (hb hby d_method_4_code_17) (fun _ _ => ⟨rfl, e3q, (by decide : 0 + 0 ≤ _), (by decide : 0 + 0 ≤ _)⟩)
    dsimp only [Pt.U, Pt.locs, Pt.cells, Pt.slots] at X5 l5 y5 z5 st5 hQ5
    subst l5 y5 z5
    obtain ⟨rfl, N5q, e5q⟩ := hQ5
    have N5 := Fr.app N3 N5q
    have pre6 : ∀ t, Steps p.tables e below (T5.setTop (mkF m 20 #[.val (.ref mm), .val (.int ii), .val (.ref sa1), .val (.ref sa2), .val (.ref sa3), .val (.int (Int32.ofNat cc1.length)), .unset, .unset] [(.int (Int32.ofNat cc2.length))])) t → Steps p.tables e below (s₁.setTop (entryFrame m #[(.ref mm), (.int ii), (.ref sa1), (.ref sa2), (.ref sa3)] 8)) t := by
      intro t kk
      refine pre4 t ?_
      show Steps p.tables e below (T3.setTop (mkF m 14 #[.val (.ref mm), .val (.int ii), .val (.ref sa1), .val (.ref sa2), .val (.ref sa3), .unset, .unset, .unset] [(.int (Int32.ofNat cc1.length))])) _
      refine XS.istore X3.here hx rfl (hb hby d_method_4_code_14) rfl (l' := #[.val (.ref mm), .val (.int ii), .val (.ref sa1), .val (.ref sa2), .val (.ref sa3), .val (.int (Int32.ofNat cc1.length)), .unset, .unset]) rfl ?_
      show Steps p.tables e below (T3.setTop (mkF m 16 #[.val (.ref mm), .val (.int ii), .val (.ref sa1), .val (.ref sa2), .val (.ref sa3), .val (.int (Int32.ofNat cc1.length)), .unset, .unset] [])) _
      refine XS.aloadN X3.here hx rfl (hb hby d_method_4_code_16) rfl rfl ?_
      show Steps p.tables e below (T3.setTop (mkF m 17 #[.val (.ref mm), .val (.int ii), .val (.ref sa1), .val (.ref sa2), .val (.ref sa3), .val (.int (Int32.ofNat cc1.length)), .unset, .unset] [(.ref sa2)])) _
      exact st5.trans kk
    by_cases h1 : ii < (Int32.ofNat cc1.length)
    case pos =>
      have h1' := (own_ltN (i := ii) (l := cc1.length) hi0 (by omega)).mp h1
      obtain ⟨cq7, kq7, q7a, q7b, q7c⟩ := isOf hZ e5q xE1
      obtain ⟨_, _, ⟨T7, L7, k7, n7⟩, -, X7, ⟨Lc7, hQ7, l7, y7, z7⟩, st7⟩ := X5.virtualBack hx (y := (⟨"java/lang/String", "charAt", "(I)C"⟩ : MethodName)) (z := (⟨"java/lang/String", "charAt", "(I)C"⟩ : MethodName)) hown (mvT hZ (hw _ (List.mem_of_getElem? (i := 192) rfl))) (mvT hZ (hw _ (List.mem_of_getElem? (i := 193) rfl))) (notFace_of_selects (args := #[]) (mvT hZ (hw _ (List.mem_of_getElem? (i := 195) rfl)))) (mvT hZ (hw _ (List.mem_of_getElem? (i := 195) rfl))) (mvT hZ (hw _ (List.mem_of_getElem? (i := 194) rfl))) (by decide) (StrChars.Road.chN (W := 0) hZ hch (kI := 4) (hw _ (List.mem_of_getElem? (i := 5) rfl)) xE1 xF1 xC1 xV1 (own_cod lt1) (own_up lt1) (O2.ext XO.2) P5 (O4.ext XO.2) rG3 (by omega) (i := ii.toNatClampNeg) h1' (j := ii) (own_iN hi0) (by decide) (by decide)) q7a q7c (g := (mkF m 30 #[.val (.ref mm), .val (.int ii), .val (.ref sa1), .val (.ref sa2), .val (.ref sa3), .val (.int (Int32.ofNat cc1.length)), .val (.int (Int32.ofNat cc2.length)), .unset] [(.int ii), (.ref sa1)])) rfl (by rw [hml]; rfl) (Steps.refl _) (argsL := [(.int ii)]) (rest := []) (lenOf pd__I_C rfl) rfl (by show 2 * 0 + _ ≤ _; exact Nat.le_of_eq rfl) (hb hby d_method_4_code_30) (fun _ _ => ⟨rfl, e5q, (by decide : 0 + 0 ≤ _), (by decide : 0 + 0 ≤ _)⟩)
      dsimp only [Pt.U, Pt.locs, Pt.cells, Pt.slots] at X7 l7 y7 z7 st7 hQ7
      subst l7 y7 z7
      obtain ⟨rfl, rfl, e7q⟩ := hQ7
      have N7q : Fr n0 ([] : List Loc) := Fr.nil n0
      have N7 := Fr.app N5 N7q
      have pre8 : ∀ t, Steps p.tables e below (T7.setTop (mkF m 33 #[.val (.ref mm), .val (.int ii), .val (.ref sa1), .val (.ref sa2), .val (.ref sa3), .val (.int (Int32.ofNat cc1.length)), .val (.int (Int32.ofNat cc2.length)), .unset] [(.int (cc1.getD ii.toNatClampNeg 0))])) t → Steps p.tables e below (s₁.setTop (entryFrame m #[(.ref mm), (.int ii), (.ref sa1), (.ref sa2), (.ref sa3)] 8)) t := by
        intro t kk
        refine pre6 t ?_
        show Steps p.tables e below (T5.setTop (mkF m 20 #[.val (.ref mm), .val (.int ii), .val (.ref sa1), .val (.ref sa2), .val (.ref sa3), .val (.int (Int32.ofNat cc1.length)), .unset, .unset] [(.int (Int32.ofNat cc2.length))])) _
        refine XS.istore X5.here hx rfl (hb hby d_method_4_code_20) rfl (l' := #[.val (.ref mm), .val (.int ii), .val (.ref sa1), .val (.ref sa2), .val (.ref sa3), .val (.int (Int32.ofNat cc1.length)), .val (.int (Int32.ofNat cc2.length)), .unset]) rfl ?_
        show Steps p.tables e below (T5.setTop (mkF m 22 #[.val (.ref mm), .val (.int ii), .val (.ref sa1), .val (.ref sa2), .val (.ref sa3), .val (.int (Int32.ofNat cc1.length)), .val (.int (Int32.ofNat cc2.length)), .unset] [])) _
        refine XS.iloadN X5.here hx rfl (hb hby d_method_4_code_22) rfl ?_
        show Steps p.tables e below (T5.setTop (mkF m 23 #[.val (.ref mm), .val (.int ii), .val (.ref sa1), .val (.ref sa2), .val (.ref sa3), .val (.int (Int32.ofNat cc1.length)), .val (.int (Int32.ofNat cc2.length)), .unset] [(.int ii)])) _
        refine XS.iload X5.here hx rfl (hb hby d_method_4_code_23) rfl ?_
        show Steps p.tables e below (T5.setTop (mkF m 25 #[.val (.ref mm), .val (.int ii), .val (.ref sa1), .val (.ref sa2), .val (.ref sa3), .val (.int (Int32.ofNat cc1.length)), .val (.int (Int32.ofNat cc2.length)), .unset] [(.int (Int32.ofNat cc1.length)), (.int ii)])) _
        refine XS.icmpNo X5.here hx rfl (hb hby d_method_4_code_25) rfl (tlt h1).2.1 ?_
        show Steps p.tables e below (T5.setTop (mkF m 28 #[.val (.ref mm), .val (.int ii), .val (.ref sa1), .val (.ref sa2), .val (.ref sa3), .val (.int (Int32.ofNat cc1.length)), .val (.int (Int32.ofNat cc2.length)), .unset] [])) _
        refine XS.aloadN X5.here hx rfl (hb hby d_method_4_code_28) rfl rfl ?_
        show Steps p.tables e below (T5.setTop (mkF m 29 #[.val (.ref mm), .val (.int ii), .val (.ref sa1), .val (.ref sa2), .val (.ref sa3), .val (.int (Int32.ofNat cc1.length)), .val (.int (Int32.ofNat cc2.length)), .unset] [(.ref sa1)])) _
        refine XS.iloadN X5.here hx rfl (hb hby d_method_4_code_29) rfl ?_
        show Steps p.tables e below (T5.setTop (mkF m 30 #[.val (.ref mm), .val (.int ii), .val (.ref sa1), .val (.ref sa2), .val (.ref sa3), .val (.int (Int32.ofNat cc1.length)), .val (.int (Int32.ofNat cc2.length)), .unset] [(.int ii), (.ref sa1)])) _
        exact st7.trans kk
      obtain ⟨cq9, kq9, q9a, q9b, q9c⟩ := isOf hZ e7q xE0
      obtain ⟨_, _, ⟨T9, L9, k9, n9⟩, -, X9, ⟨Lc9, hQ9, l9, y9, z9⟩, st9⟩ := X7.virtualBack hx (y := (⟨"java/lang/String", "charAt", "(I)C"⟩ : MethodName)) (z := (⟨"java/lang/String", "charAt", "(I)C"⟩ : MethodName)) hown (mvT hZ (hw _ (List.mem_of_getElem? (i := 192) rfl))) (mvT hZ (hw _ (List.mem_of_getElem? (i := 193) rfl))) (notFace_of_selects (args := #[]) (mvT hZ (hw _ (List.mem_of_getElem? (i := 195) rfl)))) (mvT hZ (hw _ (List.mem_of_getElem? (i := 195) rfl))) (mvT hZ (hw _ (List.mem_of_getElem? (i := 194) rfl))) (by decide) (StrChars.Road.chN (W := 0) hZ hch (kI := 4) (hw _ (List.mem_of_getElem? (i := 5) rfl)) xE0 xF0 xC0 xV0 (own_cod ltm) (own_up ltm) (O2.ext XO.2) P5 (O4.ext XO.2) rG3 (by omega) (i := ii.toNatClampNeg) hm' (j := ii) (own_iN hi0) (by decide) (by decide)) q9a q9c (g := (mkF m 76 #[.val (.ref mm), .val (.int ii), .val (.ref sa1), .val (.ref sa2), .val (.ref sa3), .val (.int (Int32.ofNat cc1.length)), .val (.int (Int32.ofNat cc2.length)), .val (.int (cc1.getD ii.toNatClampNeg 0))] [(.int ii), (.ref mm)])) rfl (by rw [hml]; rfl) (Steps.refl _) (argsL := [(.int ii)]) (rest := []) (lenOf pd__I_C rfl) rfl (by show 2 * 0 + _ ≤ _; exact Nat.le_of_eq rfl) (hb hby d_method_4_code_76) (fun _ _ => ⟨rfl, e7q, (by decide : 0 + 0 ≤ _), (by decide : 0 + 0 ≤ _)⟩)
      dsimp only [Pt.U, Pt.locs, Pt.cells, Pt.slots] at X9 l9 y9 z9 st9 hQ9
      subst l9 y9 z9
      obtain ⟨rfl, rfl, e9q⟩ := hQ9
      have N9q : Fr n0 ([] : List Loc) := Fr.nil n0
      have N9 := Fr.app N7 N9q
      have pre10 : ∀ t, Steps p.tables e below (T9.setTop (mkF m 79 #[.val (.ref mm), .val (.int ii), .val (.ref sa1), .val (.ref sa2), .val (.ref sa3), .val (.int (Int32.ofNat cc1.length)), .val (.int (Int32.ofNat cc2.length)), .val (.int (cc1.getD ii.toNatClampNeg 0))] [(.int ((cc1 ++ cc2 ++ cc3).getD ii.toNatClampNeg 0))])) t → Steps p.tables e below (s₁.setTop (entryFrame m #[(.ref mm), (.int ii), (.ref sa1), (.ref sa2), (.ref sa3)] 8)) t := by
        intro t kk
        refine pre8 t ?_
        show Steps p.tables e below (T7.setTop (mkF m 33 #[.val (.ref mm), .val (.int ii), .val (.ref sa1), .val (.ref sa2), .val (.ref sa3), .val (.int (Int32.ofNat cc1.length)), .val (.int (Int32.ofNat cc2.length)), .unset] [(.int (cc1.getD ii.toNatClampNeg 0))])) _
        refine XS.istore X7.here hx rfl (hb hby d_method_4_code_33) rfl (l' := #[.val (.ref mm), .val (.int ii), .val (.ref sa1), .val (.ref sa2), .val (.ref sa3), .val (.int (Int32.ofNat cc1.length)), .val (.int (Int32.ofNat cc2.length)), .val (.int (cc1.getD ii.toNatClampNeg 0))]) rfl ?_
        show Steps p.tables e below (T7.setTop (mkF m 35 #[.val (.ref mm), .val (.int ii), .val (.ref sa1), .val (.ref sa2), .val (.ref sa3), .val (.int (Int32.ofNat cc1.length)), .val (.int (Int32.ofNat cc2.length)), .val (.int (cc1.getD ii.toNatClampNeg 0))] [])) _
        refine XS.goto X7.here hx rfl (pc0 := 35) (pc' := 74) rfl (hb hby d_method_4_code_35) (by decide) (by decide) ?_
        show Steps p.tables e below (T7.setTop (mkF m 74 #[.val (.ref mm), .val (.int ii), .val (.ref sa1), .val (.ref sa2), .val (.ref sa3), .val (.int (Int32.ofNat cc1.length)), .val (.int (Int32.ofNat cc2.length)), .val (.int (cc1.getD ii.toNatClampNeg 0))] [])) _
        refine XS.aloadN X7.here hx rfl (hb hby d_method_4_code_74) rfl rfl ?_
        show Steps p.tables e below (T7.setTop (mkF m 75 #[.val (.ref mm), .val (.int ii), .val (.ref sa1), .val (.ref sa2), .val (.ref sa3), .val (.int (Int32.ofNat cc1.length)), .val (.int (Int32.ofNat cc2.length)), .val (.int (cc1.getD ii.toNatClampNeg 0))] [(.ref mm)])) _
        refine XS.iloadN X7.here hx rfl (hb hby d_method_4_code_75) rfl ?_
        show Steps p.tables e below (T7.setTop (mkF m 76 #[.val (.ref mm), .val (.int ii), .val (.ref sa1), .val (.ref sa2), .val (.ref sa3), .val (.int (Int32.ofNat cc1.length)), .val (.int (Int32.ofNat cc2.length)), .val (.int (cc1.getD ii.toNatClampNeg 0))] [(.int ii), (.ref mm)])) _
        exact st9.trans kk
      have hd11 : ((cc1 ++ cc2 ++ cc3).getD ii.toNatClampNeg 0) = (cc1.getD ii.toNatClampNeg 0) := by rw [own_gA (by rw [List.length_append]; omega), own_gA h1']
      obtain ⟨fs, hr, hrun, hended, hW, hsame⟩ := X9.leave (v := some (.int (1 : Int32))) (fun h => by rw [Bd.returns] at h; cases h)
      refine ⟨_, _, pre10 _ ?_, hrun, hended, _, _, rfl, ?_, ⟨_, rfl⟩, hW, hsame.mono (by decide) (by decide)⟩
      · show Steps p.tables e below (T9.setTop (mkF m 79 #[.val (.ref mm), .val (.int ii), .val (.ref sa1), .val (.ref sa2), .val (.ref sa3), .val (.int (Int32.ofNat cc1.length)), .val (.int (Int32.ofNat cc2.length)), .val (.int (cc1.getD ii.toNatClampNeg 0))] [(.int ((cc1 ++ cc2 ++ cc3).getD ii.toNatClampNeg 0))])) _
        refine XS.iload X9.here hx rfl (hb hby d_method_4_code_79) rfl ?_
        show Steps p.tables e below (T9.setTop (mkF m 81 #[.val (.ref mm), .val (.int ii), .val (.ref sa1), .val (.ref sa2), .val (.ref sa3), .val (.int (Int32.ofNat cc1.length)), .val (.int (Int32.ofNat cc2.length)), .val (.int (cc1.getD ii.toNatClampNeg 0))] [(.int (cc1.getD ii.toNatClampNeg 0)), (.int ((cc1 ++ cc2 ++ cc3).getD ii.toNatClampNeg 0))])) _
        refine XS.icmpNo X9.here hx rfl (hb hby d_method_4_code_81) rfl (teq hd11).2 ?_
        show Steps p.tables e below (T9.setTop (mkF m 84 #[.val (.ref mm), .val (.int ii), .val (.ref sa1), .val (.ref sa2), .val (.ref sa3), .val (.int (Int32.ofNat cc1.length)), .val (.int (Int32.ofNat cc2.length)), .val (.int (cc1.getD ii.toNatClampNeg 0))] [])) _
        refine XS.iconst X9.here hx rfl (hb hby d_method_4_code_84) ?_
        show Steps p.tables e below (T9.setTop (mkF m 85 #[.val (.ref mm), .val (.int ii), .val (.ref sa1), .val (.ref sa2), .val (.ref sa3), .val (.int (Int32.ofNat cc1.length)), .val (.int (Int32.ofNat cc2.length)), .val (.int (cc1.getD ii.toNatClampNeg 0))] [(.int (1 : Int32))])) _
        refine XS.goto X9.here hx rfl (pc0 := 85) (pc' := 89) rfl (hb hby d_method_4_code_85) (by decide) (by decide) ?_
        show Steps p.tables e below (T9.setTop (mkF m 89 #[.val (.ref mm), .val (.int ii), .val (.ref sa1), .val (.ref sa2), .val (.ref sa3), .val (.int (Int32.ofNat cc1.length)), .val (.int (Int32.ofNat cc2.length)), .val (.int (cc1.getD ii.toNatClampNeg 0))] [(.int (1 : Int32))])) _
        exact retN X9 hx (t := .boolean) Bd.returns (by simp) (hb hby d_method_4_code_89) hr
      · show Q_own_at Z mm mb km sa1 sb1 sa2 sb2 sa3 sb3 ks1 ks2 ks3 cc1 cc2 cc3 ii G1 G3 h0 n0 _ T9.heap _
        rw [e9q]
        exact ⟨rfl, N9, rfl⟩
    case neg =>
      have h1' := (not_congr (own_ltN (i := ii) (l := cc1.length) hi0 (by omega))).mp h1
      by_cases h2 : ii < ((Int32.ofNat cc1.length) + (Int32.ofNat cc2.length))
      case pos =>
        have h2' := h2
        rw [own_addN (by omega), own_ltN hi0 (by omega)] at h2'
        obtain ⟨cq12, kq12, q12a, q12b, q12c⟩ := isOf hZ e5q xE2
        obtain ⟨_, _, ⟨T12, L12, k12, n12⟩, -, X12, ⟨Lc12, hQ12, l12, y12, z12⟩, st12⟩ := X5.virtualBack hx (y := (⟨"java/lang/String", "charAt", "(I)C"⟩ : MethodName)) (z := (⟨"java/lang/String", "charAt", "(I)C"⟩ : MethodName)) hown (mvT hZ (hw _ (List.mem_of_getElem? (i := 192) rfl))) (mvT hZ (hw _ (List.mem_of_getElem? (i := 193) rfl))) (notFace_of_selects (args := #[]) (mvT hZ (hw _ (List.mem_of_getElem? (i := 195) rfl)))) (mvT hZ (hw _ (List.mem_of_getElem? (i := 195) rfl))) (mvT hZ (hw _ (List.mem_of_getElem? (i := 194) rfl))) (by decide) (StrChars.Road.chN (W := 0) hZ hch (kI := 4) (hw _ (List.mem_of_getElem? (i := 5) rfl)) xE2 xF2 xC2 xV2 (own_cod lt2) (own_up lt2) (O2.ext XO.2) P5 (O4.ext XO.2) rG3 (by omega) (i := (ii.toNatClampNeg - cc1.length)) (by omega) (j := (ii - (Int32.ofNat cc1.length))) (own_subN hi0 (by omega) (by omega)) (by decide) (by decide)) q12a q12c (g := (mkF m 52 #[.val (.ref mm), .val (.int ii), .val (.ref sa1), .val (.ref sa2), .val (.ref sa3), .val (.int (Int32.ofNat cc1.length)), .val (.int (Int32.ofNat cc2.length)), .unset] [(.int (ii - (Int32.ofNat cc1.length))), (.ref sa2)])) rfl (by rw [hml]; rfl) (Steps.refl _) (argsL := [(.int (ii - (Int32.ofNat cc1.length)))]) (rest := []) (lenOf pd__I_C rfl) rfl (by show 2 * 0 + _ ≤ _; exact Nat.le_of_eq rfl) (hb hby d_method_4_code_52) (fun _ _ => ⟨rfl, e5q, (by decide : 0 + 0 ≤ _), (by decide : 0 + 0 ≤ _)⟩)
        dsimp only [Pt.U, Pt.locs, Pt.cells, Pt.slots] at X12 l12 y12 z12 st12 hQ12
        subst l12 y12 z12
        obtain ⟨rfl, rfl, e12q⟩ := hQ12
        have N12q : Fr n0 ([] : List Loc) := Fr.nil n0
        have N12 := Fr.app N5 N12q
        have pre13 : ∀ t, Steps p.tables e below (T12.setTop (mkF m 55 #[.val (.ref mm), .val (.int ii), .val (.ref sa1), .val (.ref sa2), .val (.ref sa3), .val (.int (Int32.ofNat cc1.length)), .val (.int (Int32.ofNat cc2.length)), .unset] [(.int (cc2.getD (ii.toNatClampNeg - cc1.length) 0))])) t → Steps p.tables e below (s₁.setTop (entryFrame m #[(.ref mm), (.int ii), (.ref sa1), (.ref sa2), (.ref sa3)] 8)) t := by
          intro t kk
          refine pre6 t ?_
          show Steps p.tables e below (T5.setTop (mkF m 20 #[.val (.ref mm), .val (.int ii), .val (.ref sa1), .val (.ref sa2), .val (.ref sa3), .val (.int (Int32.ofNat cc1.length)), .unset, .unset] [(.int (Int32.ofNat cc2.length))])) _
          refine XS.istore X5.here hx rfl (hb hby d_method_4_code_20) rfl (l' := #[.val (.ref mm), .val (.int ii), .val (.ref sa1), .val (.ref sa2), .val (.ref sa3), .val (.int (Int32.ofNat cc1.length)), .val (.int (Int32.ofNat cc2.length)), .unset]) rfl ?_
          show Steps p.tables e below (T5.setTop (mkF m 22 #[.val (.ref mm), .val (.int ii), .val (.ref sa1), .val (.ref sa2), .val (.ref sa3), .val (.int (Int32.ofNat cc1.length)), .val (.int (Int32.ofNat cc2.length)), .unset] [])) _
          refine XS.iloadN X5.here hx rfl (hb hby d_method_4_code_22) rfl ?_
          show Steps p.tables e below (T5.setTop (mkF m 23 #[.val (.ref mm), .val (.int ii), .val (.ref sa1), .val (.ref sa2), .val (.ref sa3), .val (.int (Int32.ofNat cc1.length)), .val (.int (Int32.ofNat cc2.length)), .unset] [(.int ii)])) _
          refine XS.iload X5.here hx rfl (hb hby d_method_4_code_23) rfl ?_
          show Steps p.tables e below (T5.setTop (mkF m 25 #[.val (.ref mm), .val (.int ii), .val (.ref sa1), .val (.ref sa2), .val (.ref sa3), .val (.int (Int32.ofNat cc1.length)), .val (.int (Int32.ofNat cc2.length)), .unset] [(.int (Int32.ofNat cc1.length)), (.int ii)])) _
          refine XS.icmpYes X5.here hx rfl (pc0 := 25) (pc' := 38) rfl (hb hby d_method_4_code_25) rfl (flt h1).2.1 (by decide) (by decide) ?_
          show Steps p.tables e below (T5.setTop (mkF m 38 #[.val (.ref mm), .val (.int ii), .val (.ref sa1), .val (.ref sa2), .val (.ref sa3), .val (.int (Int32.ofNat cc1.length)), .val (.int (Int32.ofNat cc2.length)), .unset] [])) _
          refine XS.iloadN X5.here hx rfl (hb hby d_method_4_code_38) rfl ?_
          show Steps p.tables e below (T5.setTop (mkF m 39 #[.val (.ref mm), .val (.int ii), .val (.ref sa1), .val (.ref sa2), .val (.ref sa3), .val (.int (Int32.ofNat cc1.length)), .val (.int (Int32.ofNat cc2.length)), .unset] [(.int ii)])) _
          refine XS.iload X5.here hx rfl (hb hby d_method_4_code_39) rfl ?_
          show Steps p.tables e below (T5.setTop (mkF m 41 #[.val (.ref mm), .val (.int ii), .val (.ref sa1), .val (.ref sa2), .val (.ref sa3), .val (.int (Int32.ofNat cc1.length)), .val (.int (Int32.ofNat cc2.length)), .unset] [(.int (Int32.ofNat cc1.length)), (.int ii)])) _
          refine XS.iload X5.here hx rfl (hb hby d_method_4_code_41) rfl ?_
          show Steps p.tables e below (T5.setTop (mkF m 43 #[.val (.ref mm), .val (.int ii), .val (.ref sa1), .val (.ref sa2), .val (.ref sa3), .val (.int (Int32.ofNat cc1.length)), .val (.int (Int32.ofNat cc2.length)), .unset] [(.int (Int32.ofNat cc2.length)), (.int (Int32.ofNat cc1.length)), (.int ii)])) _
          refine XS.iadd X5.here hx rfl (hb hby d_method_4_code_43) rfl ?_
          show Steps p.tables e below (T5.setTop (mkF m 44 #[.val (.ref mm), .val (.int ii), .val (.ref sa1), .val (.ref sa2), .val (.ref sa3), .val (.int (Int32.ofNat cc1.length)), .val (.int (Int32.ofNat cc2.length)), .unset] [(.int ((Int32.ofNat cc1.length) + (Int32.ofNat cc2.length))), (.int ii)])) _
          refine XS.icmpNo X5.here hx rfl (hb hby d_method_4_code_44) rfl (tlt h2).2.1 ?_
          show Steps p.tables e below (T5.setTop (mkF m 47 #[.val (.ref mm), .val (.int ii), .val (.ref sa1), .val (.ref sa2), .val (.ref sa3), .val (.int (Int32.ofNat cc1.length)), .val (.int (Int32.ofNat cc2.length)), .unset] [])) _
          refine XS.aloadN X5.here hx rfl (hb hby d_method_4_code_47) rfl rfl ?_
          show Steps p.tables e below (T5.setTop (mkF m 48 #[.val (.ref mm), .val (.int ii), .val (.ref sa1), .val (.ref sa2), .val (.ref sa3), .val (.int (Int32.ofNat cc1.length)), .val (.int (Int32.ofNat cc2.length)), .unset] [(.ref sa2)])) _
          refine XS.iloadN X5.here hx rfl (hb hby d_method_4_code_48) rfl ?_
          show Steps p.tables e below (T5.setTop (mkF m 49 #[.val (.ref mm), .val (.int ii), .val (.ref sa1), .val (.ref sa2), .val (.ref sa3), .val (.int (Int32.ofNat cc1.length)), .val (.int (Int32.ofNat cc2.length)), .unset] [(.int ii), (.ref sa2)])) _
          refine XS.iload X5.here hx rfl (hb hby d_method_4_code_49) rfl ?_
          show Steps p.tables e below (T5.setTop (mkF m 51 #[.val (.ref mm), .val (.int ii), .val (.ref sa1), .val (.ref sa2), .val (.ref sa3), .val (.int (Int32.ofNat cc1.length)), .val (.int (Int32.ofNat cc2.length)), .unset] [(.int (Int32.ofNat cc1.length)), (.int ii), (.ref sa2)])) _
          refine XS.isub X5.here hx rfl (hb hby d_method_4_code_51) rfl ?_
          show Steps p.tables e below (T5.setTop (mkF m 52 #[.val (.ref mm), .val (.int ii), .val (.ref sa1), .val (.ref sa2), .val (.ref sa3), .val (.int (Int32.ofNat cc1.length)), .val (.int (Int32.ofNat cc2.length)), .unset] [(.int (ii - (Int32.ofNat cc1.length))), (.ref sa2)])) _
          exact st12.trans kk
        obtain ⟨cq14, kq14, q14a, q14b, q14c⟩ := isOf hZ e12q xE0
        obtain ⟨_, _, ⟨T14, L14, k14, n14⟩, -, X14, ⟨Lc14, hQ14, l14, y14, z14⟩, st14⟩ := X12.virtualBack hx (y := (⟨"java/lang/String", "charAt", "(I)C"⟩ : MethodName)) (z := (⟨"java/lang/String", "charAt", "(I)C"⟩ : MethodName)) hown (mvT hZ (hw _ (List.mem_of_getElem? (i := 192) rfl))) (mvT hZ (hw _ (List.mem_of_getElem? (i := 193) rfl))) (notFace_of_selects (args := #[]) (mvT hZ (hw _ (List.mem_of_getElem? (i := 195) rfl)))) (mvT hZ (hw _ (List.mem_of_getElem? (i := 195) rfl))) (mvT hZ (hw _ (List.mem_of_getElem? (i := 194) rfl))) (by decide) (StrChars.Road.chN (W := 0) hZ hch (kI := 4) (hw _ (List.mem_of_getElem? (i := 5) rfl)) xE0 xF0 xC0 xV0 (own_cod ltm) (own_up ltm) (O2.ext XO.2) P5 (O4.ext XO.2) rG3 (by omega) (i := ii.toNatClampNeg) hm' (j := ii) (own_iN hi0) (by decide) (by decide)) q14a q14c (g := (mkF m 76 #[.val (.ref mm), .val (.int ii), .val (.ref sa1), .val (.ref sa2), .val (.ref sa3), .val (.int (Int32.ofNat cc1.length)), .val (.int (Int32.ofNat cc2.length)), .val (.int (cc2.getD (ii.toNatClampNeg - cc1.length) 0))] [(.int ii), (.ref mm)])) rfl (by rw [hml]; rfl) (Steps.refl _) (argsL := [(.int ii)]) (rest := []) (lenOf pd__I_C rfl) rfl (by show 2 * 0 + _ ≤ _; exact Nat.le_of_eq rfl) (hb hby d_method_4_code_76) (fun _ _ => ⟨rfl, e12q, (by decide : 0 + 0 ≤ _), (by decide : 0 + 0 ≤ _)⟩)
        dsimp only [Pt.U, Pt.locs, Pt.cells, Pt.slots] at X14 l14 y14 z14 st14 hQ14
        subst l14 y14 z14
        obtain ⟨rfl, rfl, e14q⟩ := hQ14
        have N14q : Fr n0 ([] : List Loc) := Fr.nil n0
        have N14 := Fr.app N12 N14q
        have pre15 : ∀ t, Steps p.tables e below (T14.setTop (mkF m 79 #[.val (.ref mm), .val (.int ii), .val (.ref sa1), .val (.ref sa2), .val (.ref sa3), .val (.int (Int32.ofNat cc1.length)), .val (.int (Int32.ofNat cc2.length)), .val (.int (cc2.getD (ii.toNatClampNeg - cc1.length) 0))] [(.int ((cc1 ++ cc2 ++ cc3).getD ii.toNatClampNeg 0))])) t → Steps p.tables e below (s₁.setTop (entryFrame m #[(.ref mm), (.int ii), (.ref sa1), (.ref sa2), (.ref sa3)] 8)) t := by
          intro t kk
          refine pre13 t ?_
          show Steps p.tables e below (T12.setTop (mkF m 55 #[.val (.ref mm), .val (.int ii), .val (.ref sa1), .val (.ref sa2), .val (.ref sa3), .val (.int (Int32.ofNat cc1.length)), .val (.int (Int32.ofNat cc2.length)), .unset] [(.int (cc2.getD (ii.toNatClampNeg - cc1.length) 0))])) _
          refine XS.istore X12.here hx rfl (hb hby d_method_4_code_55) rfl (l' := #[.val (.ref mm), .val (.int ii), .val (.ref sa1), .val (.ref sa2), .val (.ref sa3), .val (.int (Int32.ofNat cc1.length)), .val (.int (Int32.ofNat cc2.length)), .val (.int (cc2.getD (ii.toNatClampNeg - cc1.length) 0))]) rfl ?_
          show Steps p.tables e below (T12.setTop (mkF m 57 #[.val (.ref mm), .val (.int ii), .val (.ref sa1), .val (.ref sa2), .val (.ref sa3), .val (.int (Int32.ofNat cc1.length)), .val (.int (Int32.ofNat cc2.length)), .val (.int (cc2.getD (ii.toNatClampNeg - cc1.length) 0))] [])) _
          refine XS.goto X12.here hx rfl (pc0 := 57) (pc' := 74) rfl (hb hby d_method_4_code_57) (by decide) (by decide) ?_
          show Steps p.tables e below (T12.setTop (mkF m 74 #[.val (.ref mm), .val (.int ii), .val (.ref sa1), .val (.ref sa2), .val (.ref sa3), .val (.int (Int32.ofNat cc1.length)), .val (.int (Int32.ofNat cc2.length)), .val (.int (cc2.getD (ii.toNatClampNeg - cc1.length) 0))] [])) _
          refine XS.aloadN X12.here hx rfl (hb hby d_method_4_code_74) rfl rfl ?_
          show Steps p.tables e below (T12.setTop (mkF m 75 #[.val (.ref mm), .val (.int ii), .val (.ref sa1), .val (.ref sa2), .val (.ref sa3), .val (.int (Int32.ofNat cc1.length)), .val (.int (Int32.ofNat cc2.length)), .val (.int (cc2.getD (ii.toNatClampNeg - cc1.length) 0))] [(.ref mm)])) _
          refine XS.iloadN X12.here hx rfl (hb hby d_method_4_code_75) rfl ?_
          show Steps p.tables e below (T12.setTop (mkF m 76 #[.val (.ref mm), .val (.int ii), .val (.ref sa1), .val (.ref sa2), .val (.ref sa3), .val (.int (Int32.ofNat cc1.length)), .val (.int (Int32.ofNat cc2.length)), .val (.int (cc2.getD (ii.toNatClampNeg - cc1.length) 0))] [(.int ii), (.ref mm)])) _
          exact st14.trans kk
        have hd16 : ((cc1 ++ cc2 ++ cc3).getD ii.toNatClampNeg 0) = (cc2.getD (ii.toNatClampNeg - cc1.length) 0) := by rw [own_gA (by rw [List.length_append]; omega), own_gB (by omega)]
        obtain ⟨fs, hr, hrun, hended, hW, hsame⟩ := X14.leave (v := some (.int (1 : Int32))) (fun h => by rw [Bd.returns] at h; cases h)
        refine ⟨_, _, pre15 _ ?_, hrun, hended, _, _, rfl, ?_, ⟨_, rfl⟩, hW, hsame.mono (by decide) (by decide)⟩
        · show Steps p.tables e below (T14.setTop (mkF m 79 #[.val (.ref mm), .val (.int ii), .val (.ref sa1), .val (.ref sa2), .val (.ref sa3), .val (.int (Int32.ofNat cc1.length)), .val (.int (Int32.ofNat cc2.length)), .val (.int (cc2.getD (ii.toNatClampNeg - cc1.length) 0))] [(.int ((cc1 ++ cc2 ++ cc3).getD ii.toNatClampNeg 0))])) _
          refine XS.iload X14.here hx rfl (hb hby d_method_4_code_79) rfl ?_
          show Steps p.tables e below (T14.setTop (mkF m 81 #[.val (.ref mm), .val (.int ii), .val (.ref sa1), .val (.ref sa2), .val (.ref sa3), .val (.int (Int32.ofNat cc1.length)), .val (.int (Int32.ofNat cc2.length)), .val (.int (cc2.getD (ii.toNatClampNeg - cc1.length) 0))] [(.int (cc2.getD (ii.toNatClampNeg - cc1.length) 0)), (.int ((cc1 ++ cc2 ++ cc3).getD ii.toNatClampNeg 0))])) _
          refine XS.icmpNo X14.here hx rfl (hb hby d_method_4_code_81) rfl (teq hd16).2 ?_
          show Steps p.tables e below (T14.setTop (mkF m 84 #[.val (.ref mm), .val (.int ii), .val (.ref sa1), .val (.ref sa2), .val (.ref sa3), .val (.int (Int32.ofNat cc1.length)), .val (.int (Int32.ofNat cc2.length)), .val (.int (cc2.getD (ii.toNatClampNeg - cc1.length) 0))] [])) _
          refine XS.iconst X14.here hx rfl (hb hby d_method_4_code_84) ?_
          show Steps p.tables e below (T14.setTop (mkF m 85 #[.val (.ref mm), .val (.int ii), .val (.ref sa1), .val (.ref sa2), .val (.ref sa3), .val (.int (Int32.ofNat cc1.length)), .val (.int (Int32.ofNat cc2.length)), .val (.int (cc2.getD (ii.toNatClampNeg - cc1.length) 0))] [(.int (1 : Int32))])) _
          refine XS.goto X14.here hx rfl (pc0 := 85) (pc' := 89) rfl (hb hby d_method_4_code_85) (by decide) (by decide) ?_
          show Steps p.tables e below (T14.setTop (mkF m 89 #[.val (.ref mm), .val (.int ii), .val (.ref sa1), .val (.ref sa2), .val (.ref sa3), .val (.int (Int32.ofNat cc1.length)), .val (.int (Int32.ofNat cc2.length)), .val (.int (cc2.getD (ii.toNatClampNeg - cc1.length) 0))] [(.int (1 : Int32))])) _
          exact retN X14 hx (t := .boolean) Bd.returns (by simp) (hb hby d_method_4_code_89) hr
        · show Q_own_at Z mm mb km sa1 sb1 sa2 sb2 sa3 sb3 ks1 ks2 ks3 cc1 cc2 cc3 ii G1 G3 h0 n0 _ T14.heap _
          rw [e14q]
          exact ⟨rfl, N14, rfl⟩
      case neg =>
        have h2' := h2
        rw [own_addN (by omega), own_ltN hi0 (by omega)] at h2'
        have e3 : (ii - (Int32.ofNat cc1.length)) - (Int32.ofNat cc2.length) = Int32.ofNat (ii.toNatClampNeg - cc1.length - cc2.length) := by
          have q1 := own_subN hi0 (l := cc1.length) (by omega) (by omega)
          have r := rng32 ii
          have en := nat_of hi0
          have q2 : ¬ (ii - (Int32.ofNat cc1.length)) < 0 := by
            have z1 := c_isub ii (Int32.ofNat cc1.length)
            have z2 := rng32 (ii - (Int32.ofNat cc1.length))
            have z3 := (own_on (n := cc1.length) (by omega)).1
            have z4 : (0 : Int32).toInt = 0 := by decide
            rw [Int32.lt_iff_toInt_lt]
            omega
          have q3 : (ii - (Int32.ofNat cc1.length)).toNatClampNeg = ii.toNatClampNeg - cc1.length := by
            have y1 := nat_of q2
            have z1 := c_isub ii (Int32.ofNat cc1.length)
            have z2 := rng32 (ii - (Int32.ofNat cc1.length))
            have z3 := (own_on (n := cc1.length) (by omega)).1
            omega
          rw [own_subN q2 (by omega) (by omega), q3]
        obtain ⟨cq17, kq17, q17a, q17b, q17c⟩ := isOf hZ e5q xE3
        obtain ⟨_, _, ⟨T17, L17, k17, n17⟩, -, X17, ⟨Lc17, hQ17, l17, y17, z17⟩, st17⟩ := X5.virtualBack hx (y := (⟨"java/lang/String", "charAt", "(I)C"⟩ : MethodName)) (z := (⟨"java/lang/String", "charAt", "(I)C"⟩ : MethodName)) hown (mvT hZ (hw _ (List.mem_of_getElem? (i := 192) rfl))) (mvT hZ (hw _ (List.mem_of_getElem? (i := 193) rfl))) (notFace_of_selects (args := #[]) (mvT hZ (hw _ (List.mem_of_getElem? (i := 195) rfl)))) (mvT hZ (hw _ (List.mem_of_getElem? (i := 195) rfl))) (mvT hZ (hw _ (List.mem_of_getElem? (i := 194) rfl))) (by decide) (StrChars.Road.chN (W := 0) hZ hch (kI := 4) (hw _ (List.mem_of_getElem? (i := 5) rfl)) xE3 xF3 xC3 xV3 (own_cod lt3) (own_up lt3) (O2.ext XO.2) P5 (O4.ext XO.2) rG3 (by omega) (i := (ii.toNatClampNeg - cc1.length - cc2.length)) (by omega) (j := ((ii - (Int32.ofNat cc1.length)) - (Int32.ofNat cc2.length))) e3 (by decide) (by decide)) q17a q17c (g := (mkF m 69 #[.val (.ref mm), .val (.int ii), .val (.ref sa1), .val (.ref sa2), .val (.ref sa3), .val (.int (Int32.ofNat cc1.length)), .val (.int (Int32.ofNat cc2.length)), .unset] [(.int ((ii - (Int32.ofNat cc1.length)) - (Int32.ofNat cc2.length))), (.ref sa3)])) rfl (by rw [hml]; rfl) (Steps.refl _) (argsL := [(.int ((ii - (Int32.ofNat cc1.length)) - (Int32.ofNat cc2.length)))]) (rest := []) (lenOf pd__I_C rfl) rfl (by show 2 * 0 + _ ≤ _; exact Nat.le_of_eq rfl) (hb hby d_method_4_code_69) (fun _ _ => ⟨rfl, e5q, (by decide : 0 + 0 ≤ _), (by decide : 0 + 0 ≤ _)⟩)
        dsimp only [Pt.U, Pt.locs, Pt.cells, Pt.slots] at X17 l17 y17 z17 st17 hQ17
        subst l17 y17 z17
        obtain ⟨rfl, rfl, e17q⟩ := hQ17
        have N17q : Fr n0 ([] : List Loc) := Fr.nil n0
        have N17 := Fr.app N5 N17q
        have pre18 : ∀ t, Steps p.tables e below (T17.setTop (mkF m 72 #[.val (.ref mm), .val (.int ii), .val (.ref sa1), .val (.ref sa2), .val (.ref sa3), .val (.int (Int32.ofNat cc1.length)), .val (.int (Int32.ofNat cc2.length)), .unset] [(.int (cc3.getD (ii.toNatClampNeg - cc1.length - cc2.length) 0))])) t → Steps p.tables e below (s₁.setTop (entryFrame m #[(.ref mm), (.int ii), (.ref sa1), (.ref sa2), (.ref sa3)] 8)) t := by
          intro t kk
          refine pre6 t ?_
          show Steps p.tables e below (T5.setTop (mkF m 20 #[.val (.ref mm), .val (.int ii), .val (.ref sa1), .val (.ref sa2), .val (.ref sa3), .val (.int (Int32.ofNat cc1.length)), .unset, .unset] [(.int (Int32.ofNat cc2.length))])) _
          refine XS.istore X5.here hx rfl (hb hby d_method_4_code_20) rfl (l' := #[.val (.ref mm), .val (.int ii), .val (.ref sa1), .val (.ref sa2), .val (.ref sa3), .val (.int (Int32.ofNat cc1.length)), .val (.int (Int32.ofNat cc2.length)), .unset]) rfl ?_
          show Steps p.tables e below (T5.setTop (mkF m 22 #[.val (.ref mm), .val (.int ii), .val (.ref sa1), .val (.ref sa2), .val (.ref sa3), .val (.int (Int32.ofNat cc1.length)), .val (.int (Int32.ofNat cc2.length)), .unset] [])) _
          refine XS.iloadN X5.here hx rfl (hb hby d_method_4_code_22) rfl ?_
          show Steps p.tables e below (T5.setTop (mkF m 23 #[.val (.ref mm), .val (.int ii), .val (.ref sa1), .val (.ref sa2), .val (.ref sa3), .val (.int (Int32.ofNat cc1.length)), .val (.int (Int32.ofNat cc2.length)), .unset] [(.int ii)])) _
          refine XS.iload X5.here hx rfl (hb hby d_method_4_code_23) rfl ?_
          show Steps p.tables e below (T5.setTop (mkF m 25 #[.val (.ref mm), .val (.int ii), .val (.ref sa1), .val (.ref sa2), .val (.ref sa3), .val (.int (Int32.ofNat cc1.length)), .val (.int (Int32.ofNat cc2.length)), .unset] [(.int (Int32.ofNat cc1.length)), (.int ii)])) _
          refine XS.icmpYes X5.here hx rfl (pc0 := 25) (pc' := 38) rfl (hb hby d_method_4_code_25) rfl (flt h1).2.1 (by decide) (by decide) ?_
          show Steps p.tables e below (T5.setTop (mkF m 38 #[.val (.ref mm), .val (.int ii), .val (.ref sa1), .val (.ref sa2), .val (.ref sa3), .val (.int (Int32.ofNat cc1.length)), .val (.int (Int32.ofNat cc2.length)), .unset] [])) _
          refine XS.iloadN X5.here hx rfl (hb hby d_method_4_code_38) rfl ?_
          show Steps p.tables e below (T5.setTop (mkF m 39 #[.val (.ref mm), .val (.int ii), .val (.ref sa1), .val (.ref sa2), .val (.ref sa3), .val (.int (Int32.ofNat cc1.length)), .val (.int (Int32.ofNat cc2.length)), .unset] [(.int ii)])) _
          refine XS.iload X5.here hx rfl (hb hby d_method_4_code_39) rfl ?_
          show Steps p.tables e below (T5.setTop (mkF m 41 #[.val (.ref mm), .val (.int ii), .val (.ref sa1), .val (.ref sa2), .val (.ref sa3), .val (.int (Int32.ofNat cc1.length)), .val (.int (Int32.ofNat cc2.length)), .unset] [(.int (Int32.ofNat cc1.length)), (.int ii)])) _
          refine XS.iload X5.here hx rfl (hb hby d_method_4_code_41) rfl ?_
          show Steps p.tables e below (T5.setTop (mkF m 43 #[.val (.ref mm), .val (.int ii), .val (.ref sa1), .val (.ref sa2), .val (.ref sa3), .val (.int (Int32.ofNat cc1.length)), .val (.int (Int32.ofNat cc2.length)), .unset] [(.int (Int32.ofNat cc2.length)), (.int (Int32.ofNat cc1.length)), (.int ii)])) _
          refine XS.iadd X5.here hx rfl (hb hby d_method_4_code_43) rfl ?_
          show Steps p.tables e below (T5.setTop (mkF m 44 #[.val (.ref mm), .val (.int ii), .val (.ref sa1), .val (.ref sa2), .val (.ref sa3), .val (.int (Int32.ofNat cc1.length)), .val (.int (Int32.ofNat cc2.length)), .unset] [(.int ((Int32.ofNat cc1.length) + (Int32.ofNat cc2.length))), (.int ii)])) _
          refine XS.icmpYes X5.here hx rfl (pc0 := 44) (pc' := 60) rfl (hb hby d_method_4_code_44) rfl (flt h2).2.1 (by decide) (by decide) ?_
          show Steps p.tables e below (T5.setTop (mkF m 60 #[.val (.ref mm), .val (.int ii), .val (.ref sa1), .val (.ref sa2), .val (.ref sa3), .val (.int (Int32.ofNat cc1.length)), .val (.int (Int32.ofNat cc2.length)), .unset] [])) _
          refine XS.aload X5.here hx rfl (hb hby d_method_4_code_60) rfl rfl ?_
          show Steps p.tables e below (T5.setTop (mkF m 62 #[.val (.ref mm), .val (.int ii), .val (.ref sa1), .val (.ref sa2), .val (.ref sa3), .val (.int (Int32.ofNat cc1.length)), .val (.int (Int32.ofNat cc2.length)), .unset] [(.ref sa3)])) _
          refine XS.iloadN X5.here hx rfl (hb hby d_method_4_code_62) rfl ?_
          show Steps p.tables e below (T5.setTop (mkF m 63 #[.val (.ref mm), .val (.int ii), .val (.ref sa1), .val (.ref sa2), .val (.ref sa3), .val (.int (Int32.ofNat cc1.length)), .val (.int (Int32.ofNat cc2.length)), .unset] [(.int ii), (.ref sa3)])) _
          refine XS.iload X5.here hx rfl (hb hby d_method_4_code_63) rfl ?_
          show Steps p.tables e below (T5.setTop (mkF m 65 #[.val (.ref mm), .val (.int ii), .val (.ref sa1), .val (.ref sa2), .val (.ref sa3), .val (.int (Int32.ofNat cc1.length)), .val (.int (Int32.ofNat cc2.length)), .unset] [(.int (Int32.ofNat cc1.length)), (.int ii), (.ref sa3)])) _
          refine XS.isub X5.here hx rfl (hb hby d_method_4_code_65) rfl ?_
          show Steps p.tables e below (T5.setTop (mkF m 66 #[.val (.ref mm), .val (.int ii), .val (.ref sa1), .val (.ref sa2), .val (.ref sa3), .val (.int (Int32.ofNat cc1.length)), .val (.int (Int32.ofNat cc2.length)), .unset] [(.int (ii - (Int32.ofNat cc1.length))), (.ref sa3)])) _
          refine XS.iload X5.here hx rfl (hb hby d_method_4_code_66) rfl ?_
          show Steps p.tables e below (T5.setTop (mkF m 68 #[.val (.ref mm), .val (.int ii), .val (.ref sa1), .val (.ref sa2), .val (.ref sa3), .val (.int (Int32.ofNat cc1.length)), .val (.int (Int32.ofNat cc2.length)), .unset] [(.int (Int32.ofNat cc2.length)), (.int (ii - (Int32.ofNat cc1.length))), (.ref sa3)])) _
          refine XS.isub X5.here hx rfl (hb hby d_method_4_code_68) rfl ?_
          show Steps p.tables e below (T5.setTop (mkF m 69 #[.val (.ref mm), .val (.int ii), .val (.ref sa1), .val (.ref sa2), .val (.ref sa3), .val (.int (Int32.ofNat cc1.length)), .val (.int (Int32.ofNat cc2.length)), .unset] [(.int ((ii - (Int32.ofNat cc1.length)) - (Int32.ofNat cc2.length))), (.ref sa3)])) _
          exact st17.trans kk
        obtain ⟨cq19, kq19, q19a, q19b, q19c⟩ := isOf hZ e17q xE0
        obtain ⟨_, _, ⟨T19, L19, k19, n19⟩, -, X19, ⟨Lc19, hQ19, l19, y19, z19⟩, st19⟩ := X17.virtualBack hx (y := (⟨"java/lang/String", "charAt", "(I)C"⟩ : MethodName)) (z := (⟨"java/lang/String", "charAt", "(I)C"⟩ : MethodName)) hown (mvT hZ (hw _ (List.mem_of_getElem? (i := 192) rfl))) (mvT hZ (hw _ (List.mem_of_getElem? (i := 193) rfl))) (notFace_of_selects (args := #[]) (mvT hZ (hw _ (List.mem_of_getElem? (i := 195) rfl)))) (mvT hZ (hw _ (List.mem_of_getElem? (i := 195) rfl))) (mvT hZ (hw _ (List.mem_of_getElem? (i := 194) rfl))) (by decide) (StrChars.Road.chN (W := 0) hZ hch (kI := 4) (hw _ (List.mem_of_getElem? (i := 5) rfl)) xE0 xF0 xC0 xV0 (own_cod ltm) (own_up ltm) (O2.ext XO.2) P5 (O4.ext XO.2) rG3 (by omega) (i := ii.toNatClampNeg) hm' (j := ii) (own_iN hi0) (by decide) (by decide)) q19a q19c (g := (mkF m 76 #[.val (.ref mm), .val (.int ii), .val (.ref sa1), .val (.ref sa2), .val (.ref sa3), .val (.int (Int32.ofNat cc1.length)), .val (.int (Int32.ofNat cc2.length)), .val (.int (cc3.getD (ii.toNatClampNeg - cc1.length - cc2.length) 0))] [(.int ii), (.ref mm)])) rfl (by rw [hml]; rfl) (Steps.refl _) (argsL := [(.int ii)]) (rest := []) (lenOf pd__I_C rfl) rfl (by show 2 * 0 + _ ≤ _; exact Nat.le_of_eq rfl) (hb hby d_method_4_code_76) (fun _ _ => ⟨rfl, e17q, (by decide : 0 + 0 ≤ _), (by decide : 0 + 0 ≤ _)⟩)
        dsimp only [Pt.U, Pt.locs, Pt.cells, Pt.slots] at X19 l19 y19 z19 st19 hQ19
        subst l19 y19 z19
        obtain ⟨rfl, rfl, e19q⟩ := hQ19
        have N19q : Fr n0 ([] : List Loc) := Fr.nil n0
        have N19 := Fr.app N17 N19q
        have pre20 : ∀ t, Steps p.tables e below (T19.setTop (mkF m 79 #[.val (.ref mm), .val (.int ii), .val (.ref sa1), .val (.ref sa2), .val (.ref sa3), .val (.int (Int32.ofNat cc1.length)), .val (.int (Int32.ofNat cc2.length)), .val (.int (cc3.getD (ii.toNatClampNeg - cc1.length - cc2.length) 0))] [(.int ((cc1 ++ cc2 ++ cc3).getD ii.toNatClampNeg 0))])) t → Steps p.tables e below (s₁.setTop (entryFrame m #[(.ref mm), (.int ii), (.ref sa1), (.ref sa2), (.ref sa3)] 8)) t := by
          intro t kk
          refine pre18 t ?_
          show Steps p.tables e below (T17.setTop (mkF m 72 #[.val (.ref mm), .val (.int ii), .val (.ref sa1), .val (.ref sa2), .val (.ref sa3), .val (.int (Int32.ofNat cc1.length)), .val (.int (Int32.ofNat cc2.length)), .unset] [(.int (cc3.getD (ii.toNatClampNeg - cc1.length - cc2.length) 0))])) _
          refine XS.istore X17.here hx rfl (hb hby d_method_4_code_72) rfl (l' := #[.val (.ref mm), .val (.int ii), .val (.ref sa1), .val (.ref sa2), .val (.ref sa3), .val (.int (Int32.ofNat cc1.length)), .val (.int (Int32.ofNat cc2.length)), .val (.int (cc3.getD (ii.toNatClampNeg - cc1.length - cc2.length) 0))]) rfl ?_
          show Steps p.tables e below (T17.setTop (mkF m 74 #[.val (.ref mm), .val (.int ii), .val (.ref sa1), .val (.ref sa2), .val (.ref sa3), .val (.int (Int32.ofNat cc1.length)), .val (.int (Int32.ofNat cc2.length)), .val (.int (cc3.getD (ii.toNatClampNeg - cc1.length - cc2.length) 0))] [])) _
          refine XS.aloadN X17.here hx rfl (hb hby d_method_4_code_74) rfl rfl ?_
          show Steps p.tables e below (T17.setTop (mkF m 75 #[.val (.ref mm), .val (.int ii), .val (.ref sa1), .val (.ref sa2), .val (.ref sa3), .val (.int (Int32.ofNat cc1.length)), .val (.int (Int32.ofNat cc2.length)), .val (.int (cc3.getD (ii.toNatClampNeg - cc1.length - cc2.length) 0))] [(.ref mm)])) _
          refine XS.iloadN X17.here hx rfl (hb hby d_method_4_code_75) rfl ?_
          show Steps p.tables e below (T17.setTop (mkF m 76 #[.val (.ref mm), .val (.int ii), .val (.ref sa1), .val (.ref sa2), .val (.ref sa3), .val (.int (Int32.ofNat cc1.length)), .val (.int (Int32.ofNat cc2.length)), .val (.int (cc3.getD (ii.toNatClampNeg - cc1.length - cc2.length) 0))] [(.int ii), (.ref mm)])) _
          exact st19.trans kk
        have hd21 : ((cc1 ++ cc2 ++ cc3).getD ii.toNatClampNeg 0) = (cc3.getD (ii.toNatClampNeg - cc1.length - cc2.length) 0) := by rw [own_gB (by rw [List.length_append]; omega), List.length_append, Nat.sub_add_eq]
        obtain ⟨fs, hr, hrun, hended, hW, hsame⟩ := X19.leave (v := some (.int (1 : Int32))) (fun h => by rw [Bd.returns] at h; cases h)
        refine ⟨_, _, pre20 _ ?_, hrun, hended, _, _, rfl, ?_, ⟨_, rfl⟩, hW, hsame.mono (by decide) (by decide)⟩
        · show Steps p.tables e below (T19.setTop (mkF m 79 #[.val (.ref mm), .val (.int ii), .val (.ref sa1), .val (.ref sa2), .val (.ref sa3), .val (.int (Int32.ofNat cc1.length)), .val (.int (Int32.ofNat cc2.length)), .val (.int (cc3.getD (ii.toNatClampNeg - cc1.length - cc2.length) 0))] [(.int ((cc1 ++ cc2 ++ cc3).getD ii.toNatClampNeg 0))])) _
          refine XS.iload X19.here hx rfl (hb hby d_method_4_code_79) rfl ?_
          show Steps p.tables e below (T19.setTop (mkF m 81 #[.val (.ref mm), .val (.int ii), .val (.ref sa1), .val (.ref sa2), .val (.ref sa3), .val (.int (Int32.ofNat cc1.length)), .val (.int (Int32.ofNat cc2.length)), .val (.int (cc3.getD (ii.toNatClampNeg - cc1.length - cc2.length) 0))] [(.int (cc3.getD (ii.toNatClampNeg - cc1.length - cc2.length) 0)), (.int ((cc1 ++ cc2 ++ cc3).getD ii.toNatClampNeg 0))])) _
          refine XS.icmpNo X19.here hx rfl (hb hby d_method_4_code_81) rfl (teq hd21).2 ?_
          show Steps p.tables e below (T19.setTop (mkF m 84 #[.val (.ref mm), .val (.int ii), .val (.ref sa1), .val (.ref sa2), .val (.ref sa3), .val (.int (Int32.ofNat cc1.length)), .val (.int (Int32.ofNat cc2.length)), .val (.int (cc3.getD (ii.toNatClampNeg - cc1.length - cc2.length) 0))] [])) _
          refine XS.iconst X19.here hx rfl (hb hby d_method_4_code_84) ?_
          show Steps p.tables e below (T19.setTop (mkF m 85 #[.val (.ref mm), .val (.int ii), .val (.ref sa1), .val (.ref sa2), .val (.ref sa3), .val (.int (Int32.ofNat cc1.length)), .val (.int (Int32.ofNat cc2.length)), .val (.int (cc3.getD (ii.toNatClampNeg - cc1.length - cc2.length) 0))] [(.int (1 : Int32))])) _
          refine XS.goto X19.here hx rfl (pc0 := 85) (pc' := 89) rfl (hb hby d_method_4_code_85) (by decide) (by decide) ?_
          show Steps p.tables e below (T19.setTop (mkF m 89 #[.val (.ref mm), .val (.int ii), .val (.ref sa1), .val (.ref sa2), .val (.ref sa3), .val (.int (Int32.ofNat cc1.length)), .val (.int (Int32.ofNat cc2.length)), .val (.int (cc3.getD (ii.toNatClampNeg - cc1.length - cc2.length) 0))] [(.int (1 : Int32))])) _
          exact retN X19 hx (t := .boolean) Bd.returns (by simp) (hb hby d_method_4_code_89) hr
        · show Q_own_at Z mm mb km sa1 sb1 sa2 sb2 sa3 sb3 ks1 ks2 ks3 cc1 cc2 cc3 ii G1 G3 h0 n0 _ T19.heap _
          rw [e19q]
          exact ⟨rfl, N19, rfl⟩
  case neg =>
    obtain ⟨fs, hr, hrun, hended, hW, hsame⟩ := X1.leave (v := some (.int (1 : Int32))) (fun h => by rw [Bd.returns] at h; cases h)
    refine ⟨_, _, pre2 _ ?_, hrun, hended, _, _, rfl, ?_, ⟨_, rfl⟩, hW, hsame.mono (by decide) (by decide)⟩
    · show Steps p.tables e below (T1.setTop (mkF m 5 #[.val (.ref mm), .val (.int ii), .val (.ref sa1), .val (.ref sa2), .val (.ref sa3), .unset, .unset, .unset] [(.int (Int32.ofNat (cc1 ++ cc2 ++ cc3).length)), (.int ii)])) _
      refine XS.icmpNo X1.here hx rfl (hb hby d_method_4_code_5) rfl (flt hm).1 ?_
      show Steps p.tables e below (T1.setTop (mkF m 8 #[.val (.ref mm), .val (.int ii), .val (.ref sa1), .val (.ref sa2), .val (.ref sa3), .unset, .unset, .unset] [])) _
      refine XS.iconst X1.here hx rfl (hb hby d_method_4_code_8) ?_
      show Steps p.tables e below (T1.setTop (mkF m 9 #[.val (.ref mm), .val (.int ii), .val (.ref sa1), .val (.ref sa2), .val (.ref sa3), .unset, .unset, .unset] [(.int (1 : Int32))])) _
      exact retN X1 hx (t := .boolean) Bd.returns (by simp) (hb hby d_method_4_code_9) hr
    · show Q_own_at Z mm mb km sa1 sb1 sa2 sb2 sa3 sb3 ks1 ks2 ks3 cc1 cc2 cc3 ii G1 G3 h0 n0 _ T1.heap _
      rw [e1q]
      exact ⟨rfl, N1, rfl⟩
theorem pd__I_Ljava_lang_String_ : parseMethodDescriptor "(I)Ljava/lang/String;" = some ⟨[.int], some (.object "java/lang/String")⟩ := by decide +kernel
theorem pd_934047177 : parseMethodDescriptor "(Ljava/lang/String;Ljava/lang/String;Ljava/lang/String;)Lcom/example/hulse/hulse/failure/Explanation;" = some ⟨[(.object "java/lang/String"), (.object "java/lang/String"), (.object "java/lang/String")], some (.object "com/example/hulse/hulse/failure/Explanation")⟩ := by decide +kernel
theorem pd__Ljava_lang_Object__Z : parseMethodDescriptor "(Ljava/lang/Object;)Z" = some ⟨[(.object "java/lang/Object")], some .boolean⟩ := by decide +kernel
theorem pd_595453421 : parseMethodDescriptor "(Ljava/lang/String;ILjava/lang/String;Ljava/lang/String;Ljava/lang/String;)Z" = some ⟨[(.object "java/lang/String"), .int, (.object "java/lang/String"), (.object "java/lang/String"), (.object "java/lang/String")], some .boolean⟩ := by decide +kernel
theorem ef_own_law (m : MethodId) {p0 : Int32} {p1 : Int32} {p2 : Int32} : entryFrame m #[(.int p0), (.int p1), (.int p2)] maxLocals = mkF m 0 #[.val (.int p0), .val (.int p1), .val (.int p2), .unset, .unset, .unset, .unset, .unset, .unset] [] := by first | (simp [entryFrame, mkF, argsToLocals, Value.category, maxLocals]; done) | rfl
def Q_own_law (Z : State) (p0 p1 p2 G1 : Int32) (G3 : Value) (h0 : Heap) (n0 : Nat) (v : Option Value) (h : Heap) (L : List Loc) : Prop := v = some (.int 1) ∧ Fr n0 L
set_option maxRecDepth 65536 in
set_option maxHeartbeats 40000000 in
theorem own_law (l : Launch) (Z : State) (a0 : Array Value) (hw : ∀ d ∈ tables_1, d.before a0 Z = true) (ws : List Jvm.Cond) (p0 p1 p2 G1 : Int32) (G3 : Value) (h0 : Heap) (n0 : Nat) (Z0 : n0 ≤ h0.size) (O2 : Sta Z Z.heap "java/lang/String" "COMPACT_STRINGS" "Z" (.int G1)) (P5 : ¬ G1 = (0 : Int32)) (O4 : Sta Z Z.heap "jdk/internal/util/Preconditions" "SIOOBE_FORMATTER" "Ljava/util/function/BiFunction;" G3) (rG3 : G3.isRef = true) (XO : Old Z n0 h0) :
    MetFree l x (head1 (Jvm.Cond.code x code maxLocals ret :: ws) room_1) (fun a U => a = #[(.int p0), (.int p1), (.int p2)] ∧ Z.Warmed39 U.vm ∧ U.heap = h0 ∧ CHv Z own_EL U.vm h0) (fun _ _ _ _ _ => True) (fun _ U o U' => ∃ v L, o = .returned v ∧ Q_own_law Z p0 p1 p2 G1 G3 h0 n0 v U'.heap L ∧ CHr Z own_EL U.vm U.heap U'.vm U'.heap ∧ ReturnedEndW U o U' L 40 1216) := by
  refine MetFree.of_bodySF (plainFor_of_name pn_com_example_hulse_hulse_failure_ExplanationOfPinLaw) hisR ?_
  intro p e s m args below meth c s₁ Bd hml0 hP hK
  obtain ⟨rfl, hZ, hh, hC0⟩ := hP
  have hx := Bd.exec
  have hby := Bd.bytes
  have hml : c.maxLocals = 9 := hml0
  have hown : s.vm.findClass "com/example/hulse/hulse/failure/ExplanationOfPinLaw" = some m.cls := findClass_of_methodNamed Bd.named
  have hnm := (name_of_methodNamed Bd.named Bd.method).1
  have X0 : Stand p l e room_1 (s.setVm s.vm) m #[(.int p0), (.int p1), (.int p2)] below meth c s₁ [] 0 0 := Stand.of_body Bd
  have e0 : s₁.heap = h0 := by rw [← hh, Bd.state]; rfl
  have N0 := Fr.nil n0
  have pre0 : ∀ t, Steps p.tables e below (s₁.setTop (mkF m 0 #[.val (.int p0), .val (.int p1), .val (.int p2), .unset, .unset, .unset, .unset, .unset, .unset] [])) t → Steps p.tables e below (s₁.setTop (entryFrame m #[(.int p0), (.int p1), (.int p2)] maxLocals)) t := fun t k => castTop (ef_own_law m) k
  have hown : (s.setVm s.vm).vm.findClass "com/example/hulse/hulse/failure/ExplanationOfPinLaw" = some m.cls := hown
  have hZ : Z.Warmed39 (s.setVm s.vm).vm := hZ
  have hS0 : s.Since s.vm 0 := (State.WarmedH.refl s).since 0
  have hk0 : 0 ≤ h0.size := Nat.zero_le _
  have CR0 := CHr.refl hC0
  have wS := own_wS hw
  have hEL := own_hEL hw
  have pre1 : ∀ t, Steps p.tables e below (s₁.setTop (mkF m 1 #[.val (.int p0), .val (.int p1), .val (.int p2), .unset, .unset, .unset, .unset, .unset, .unset] [(.int p0)])) t → Steps p.tables e below (s₁.setTop (entryFrame m #[(.int p0), (.int p1), (.int p2)] maxLocals)) t := by
    intro t kk
    refine pre0 t ?_
    show Steps p.tables e below (s₁.setTop (mkF m 0 #[.val (.int p0), .val (.int p1), .val (.int p2), .unset, .unset, .unset, .unset, .unset, .unset] [])) _
    refine XS.iloadN X0.here hx rfl (hb hby at_0) rfl ?_
    exact kk
  obtain ⟨_, _, ⟨T2, L2, k2, n2⟩, -, X2w, hS2w, gr2, ⟨Lc2, hQ2, l2, y2, z2, CQ2⟩, st2⟩ := callSS X0 hx (y := (⟨"com/example/hulse/hulse/failure/ExplanationOfPinLaw", "mk", "(I)Ljava/lang/String;"⟩ : MethodName)) hown (mvT hZ (hw _ (List.mem_of_getElem? (i := 0) rfl))) (mvT hZ (hw _ (List.mem_of_getElem? (i := 1) rfl))) (mvT hZ (hw _ (List.mem_of_getElem? (i := 2) rfl))) (mvT hZ (hw _ (List.mem_of_getElem? (i := 3) rfl))) (by decide) (backOfSH (W := 0) (own_mk l Z a0 hw [] p0 G1 h0 n0 Z0 O2 P5 XO) hZ (hw _ (List.mem_of_getElem? (i := 3) rfl)) (hw _ (List.mem_of_getElem? (i := 2) rfl)) (by decide) (by decide) hEL CR0.1) (g := (mkF m 1 #[.val (.int p0), .val (.int p1), .val (.int p2), .unset, .unset, .unset, .unset, .unset, .unset] [(.int p0)])) rfl (by rw [hml]; rfl) (argsL := [(.int p0)]) (rest := []) (lenOf pd__I_Ljava_lang_String_ rfl) rfl (by show 2 * 0 + _ ≤ _; exact Nat.le_of_eq rfl) (hb hby at_1) (fun _ _ => ⟨rfl, e0, (by decide : 0 + 6 ≤ _), (by decide : 0 + 12 ≤ _)⟩)
  dsimp only [Pt.U, Pt.locs, Pt.cells, Pt.slots] at X2w hS2w gr2 l2 y2 z2 st2 hQ2 CQ2
  subst l2 y2 z2
  obtain ⟨sa1, sb1, ks1, cc1, rfl, N2q, K2, xE1, xF1, xC1, xV1, hl1, lt1⟩ := hQ2
  have N2 := Fr.app N0 N2q
  obtain ⟨X2, hS2, hZ, hown⟩ := rebS hS0 (by rw [e0]; exact hk0) X2w hS2w gr2 hZ hown
  have hk2 : T2.heap.size ≤ T2.heap.size := Nat.le_refl _
  have CR2 := CHr.trans CR0 CQ2
  have pre3 : ∀ t, Steps p.tables e below (T2.setTop (mkF m 4 #[.val (.int p0), .val (.int p1), .val (.int p2), .unset, .unset, .unset, .unset, .unset, .unset] [(.ref sa1)])) t → Steps p.tables e below (s₁.setTop (entryFrame m #[(.int p0), (.int p1), (.int p2)] maxLocals)) t := by
    intro t kk
    refine pre1 t ?_
    show Steps p.tables e below (s₁.setTop (mkF m 1 #[.val (.int p0), .val (.int p1), .val (.int p2), .unset, .unset, .unset, .unset, .unset, .unset] [(.int p0)])) _
    exact st2.trans kk
  have fc4 := (XO.keep K2 all0)
  have pre5 : ∀ t, Steps p.tables e below (T2.setTop (mkF m 6 #[.val (.int p0), .val (.int p1), .val (.int p2), .val (.ref sa1), .unset, .unset, .unset, .unset, .unset] [(.int p1)])) t → Steps p.tables e below (s₁.setTop (entryFrame m #[(.int p0), (.int p1), (.int p2)] maxLocals)) t := by
    intro t kk
    refine pre3 t ?_
    show Steps p.tables e below (T2.setTop (mkF m 4 #[.val (.int p0), .val (.int p1), .val (.int p2), .unset, .unset, .unset, .unset, .unset, .unset] [(.ref sa1)])) _
    refine XS.astoreN X2.here hx rfl (hb hby at_4) rfl rfl (l' := #[.val (.int p0), .val (.int p1), .val (.int p2), .val (.ref sa1), .unset, .unset, .unset, .unset, .unset]) rfl ?_
    show Steps p.tables e below (T2.setTop (mkF m 5 #[.val (.int p0), .val (.int p1), .val (.int p2), .val (.ref sa1), .unset, .unset, .unset, .unset, .unset] [])) _
    refine XS.iloadN X2.here hx rfl (hb hby at_5) rfl ?_
    exact kk
  have fc7 := (Nat.le_trans Z0 K2.1)
  obtain ⟨_, _, ⟨T6, L6, k6, n6⟩, -, X6w, hS6w, gr6, ⟨Lc6, hQ6, l6, y6, z6, CQ6⟩, st6⟩ := callSS X2 hx (y := (⟨"com/example/hulse/hulse/failure/ExplanationOfPinLaw", "mk", "(I)Ljava/lang/String;"⟩ : MethodName)) hown (mvT hZ (hw _ (List.mem_of_getElem? (i := 0) rfl))) (mvT hZ (hw _ (List.mem_of_getElem? (i := 1) rfl))) (mvT hZ (hw _ (List.mem_of_getElem? (i := 2) rfl))) (mvT hZ (hw _ (List.mem_of_getElem? (i := 3) rfl))) (by decide) (backOfSH (W := 0) (own_mk l Z a0 hw [] p1 G1 T2.heap n0 fc7 O2 P5 fc4) hZ (hw _ (List.mem_of_getElem? (i := 3) rfl)) (hw _ (List.mem_of_getElem? (i := 2) rfl)) (by decide) (by decide) hEL CR2.1) (g := (mkF m 6 #[.val (.int p0), .val (.int p1), .val (.int p2), .val (.ref sa1), .unset, .unset, .unset, .unset, .unset] [(.int p1)])) rfl (by rw [hml]; rfl) (argsL := [(.int p1)]) (rest := []) (lenOf pd__I_Ljava_lang_String_ rfl) rfl (by show 2 * 0 + _ ≤ _; exact Nat.le_of_eq rfl) (hb hby at_6) (fun _ _ => ⟨rfl, rfl, (by decide : 6 + 6 ≤ _), (by decide : 12 + 12 ≤ _)⟩)
  dsimp only [Pt.U, Pt.locs, Pt.cells, Pt.slots] at X6w hS6w gr6 l6 y6 z6 st6 hQ6 CQ6
  subst l6 y6 z6
  obtain ⟨sa2, sb2, ks2, cc2, rfl, N6q, K6, xE2, xF2, xC2, xV2, hl2, lt2⟩ := hQ6
  have N6 := Fr.app N2 N6q
  obtain ⟨X6, hS6, hZ, hown⟩ := rebS hS2 hk2 X6w hS6w gr6 hZ hown
  have hk6 : T6.heap.size ≤ T6.heap.size := Nat.le_refl _
  have CR6 := CHr.trans CR2 CQ6
  have pre8 : ∀ t, Steps p.tables e below (T6.setTop (mkF m 9 #[.val (.int p0), .val (.int p1), .val (.int p2), .val (.ref sa1), .unset, .unset, .unset, .unset, .unset] [(.ref sa2)])) t → Steps p.tables e below (s₁.setTop (entryFrame m #[(.int p0), (.int p1), (.int p2)] maxLocals)) t := by
    intro t kk
    refine pre5 t ?_
    show Steps p.tables e below (T2.setTop (mkF m 6 #[.val (.int p0), .val (.int p1), .val (.int p2), .val (.ref sa1), .unset, .unset, .unset, .unset, .unset] [(.int p1)])) _
    exact st6.trans kk
  have fc9 := (fc4.keep K6 all0)
  have pre10 : ∀ t, Steps p.tables e below (T6.setTop (mkF m 12 #[.val (.int p0), .val (.int p1), .val (.int p2), .val (.ref sa1), .val (.ref sa2), .unset, .unset, .unset, .unset] [(.int p2)])) t → Steps p.tables e below (s₁.setTop (entryFrame m #[(.int p0), (.int p1), (.int p2)] maxLocals)) t := by
    intro t kk
    refine pre8 t ?_
    show Steps p.tables e below (T6.setTop (mkF m 9 #[.val (.int p0), .val (.int p1), .val (.int p2), .val (.ref sa1), .unset, .unset, .unset, .unset, .unset] [(.ref sa2)])) _
    refine XS.astore X6.here hx rfl (hb hby at_9) rfl rfl (l' := #[.val (.int p0), .val (.int p1), .val (.int p2), .val (.ref sa1), .val (.ref sa2), .unset, .unset, .unset, .unset]) rfl ?_
    show Steps p.tables e below (T6.setTop (mkF m 11 #[.val (.int p0), .val (.int p1), .val (.int p2), .val (.ref sa1), .val (.ref sa2), .unset, .unset, .unset, .unset] [])) _
    refine XS.iloadN X6.here hx rfl (hb hby at_11) rfl ?_
    exact kk
  have fc12 := (Nat.le_trans fc7 K6.1)
  obtain ⟨_, _, ⟨T11, L11, k11, n11⟩, -, X11w, hS11w, gr11, ⟨Lc11, hQ11, l11, y11, z11, CQ11⟩, st11⟩ := callSS X6 hx (y := (⟨"com/example/hulse/hulse/failure/ExplanationOfPinLaw", "mk", "(I)Ljava/lang/String;"⟩ : MethodName)) hown (mvT hZ (hw _ (List.mem_of_getElem? (i := 0) rfl))) (mvT hZ (hw _ (List.mem_of_getElem? (i := 1) rfl))) (mvT hZ (hw _ (List.mem_of_getElem? (i := 2) rfl))) (mvT hZ (hw _ (List.mem_of_getElem? (i := 3) rfl))) (by decide) (backOfSH (W := 0) (own_mk l Z a0 hw [] p2 G1 T6.heap n0 fc12 O2 P5 fc9) hZ (hw _ (List.mem_of_getElem? (i := 3) rfl)) (hw _ (List.mem_of_getElem? (i := 2) rfl)) (by decide) (by decide) hEL CR6.1) (g := (mkF m 12 #[.val (.int p0), .val (.int p1), .val (.int p2), .val (.ref sa1), .val (.ref sa2), .unset, .unset, .unset, .unset] [(.int p2)])) rfl (by rw [hml]; rfl) (argsL := [(.int p2)]) (rest := []) (lenOf pd__I_Ljava_lang_String_ rfl) rfl (by show 2 * 0 + _ ≤ _; exact Nat.le_of_eq rfl) (hb hby at_12) (fun _ _ => ⟨rfl, rfl, (by decide : 12 + 6 ≤ _), (by decide : 24 + 12 ≤ _)⟩)
  dsimp only [Pt.U, Pt.locs, Pt.cells, Pt.slots] at X11w hS11w gr11 l11 y11 z11 st11 hQ11 CQ11
  subst l11 y11 z11
  obtain ⟨sa3, sb3, ks3, cc3, rfl, N11q, K11, xE3, xF3, xC3, xV3, hl3, lt3⟩ := hQ11
  have N11 := Fr.app N6 N11q
  obtain ⟨X11, hS11, hZ, hown⟩ := rebS hS6 hk6 X11w hS11w gr11 hZ hown
  have hk11 : T11.heap.size ≤ T11.heap.size := Nat.le_refl _
  have CR11 := CHr.trans CR6 CQ11
  have pre13 : ∀ t, Steps p.tables e below (T11.setTop (mkF m 15 #[.val (.int p0), .val (.int p1), .val (.int p2), .val (.ref sa1), .val (.ref sa2), .unset, .unset, .unset, .unset] [(.ref sa3)])) t → Steps p.tables e below (s₁.setTop (entryFrame m #[(.int p0), (.int p1), (.int p2)] maxLocals)) t := by
    intro t kk
    refine pre10 t ?_
    show Steps p.tables e below (T6.setTop (mkF m 12 #[.val (.int p0), .val (.int p1), .val (.int p2), .val (.ref sa1), .val (.ref sa2), .unset, .unset, .unset, .unset] [(.int p2)])) _
    exact st11.trans kk
  have fc14 := ((xE1.keep K6).keep K11)
  have fc15 := ((xF1.keep K6 nin0).keep K11 nin0)
  have fc16 := ((xC1.keep K6 nin0).keep K11 nin0)
  have fc17 := ((xV1.keep K6 nin0).keep K11 nin0)
  have fc18 := (xE2.keep K11)
  have fc19 := (xF2.keep K11 nin0)
  have fc20 := (xC2.keep K11 nin0)
  have fc21 := (xV2.keep K11 nin0)
  have fc22 := (fc9.keep K11 all0)
  have fc24 := (Nat.le_trans fc12 K11.1)
  obtain ⟨_, _, ⟨T23, L23, k23, n23⟩, -, X23, ⟨Lc23, hQ23, l23, y23, z23⟩, st23⟩ := Jvm.LawKit.callS X11 hx (y := (⟨"com/example/hulse/hulse/failure/Explanation", "of", "(Ljava/lang/String;Ljava/lang/String;Ljava/lang/String;)Lcom/example/hulse/hulse/failure/Explanation;"⟩ : MethodName)) hown (mvT hZ (hw _ (List.mem_of_getElem? (i := 26) rfl))) (mvT hZ (hw _ (List.mem_of_getElem? (i := 27) rfl))) (mvT hZ (hw _ (List.mem_of_getElem? (i := 28) rfl))) (mvT hZ (hw _ (List.mem_of_getElem? (i := 29) rfl))) (by decide) (backOf (W := 0) (own_of l Z a0 hw [] sa1 sb1 sa2 sb2 sa3 sb3 ks1 ks2 ks3 cc1 cc2 cc3 G1 T11.heap n0 fc24 fc14 fc15 fc16 fc17 fc18 fc19 fc20 fc21 xE3 xF3 xC3 xV3 hl1 hl2 hl3 O2 P5 fc22) hZ (hw _ (List.mem_of_getElem? (i := 29) rfl)) (hw _ (List.mem_of_getElem? (i := 28) rfl)) (by decide) (by decide)) (g := (mkF m 22 #[.val (.int p0), .val (.int p1), .val (.int p2), .val (.ref sa1), .val (.ref sa2), .val (.ref sa3), .unset, .unset, .unset] [(.ref sa3), (.ref sa2), (.ref sa1)])) rfl (by rw [hml]; rfl) (argsL := [(.ref sa1), (.ref sa2), (.ref sa3)]) (rest := []) (lenOf pd_934047177 rfl) rfl (by show 2 * 0 + _ ≤ _; exact Nat.le_of_eq rfl) (hb hby at_22) (fun _ _ => ⟨rfl, rfl, (by decide : 18 + 5 ≤ _), (by decide : 36 + 42 ≤ _)⟩)
  dsimp only [Pt.U, Pt.locs, Pt.cells, Pt.slots] at X23 l23 y23 z23 st23 hQ23
  subst l23 y23 z23
  obtain ⟨rr, mm, mb, km, rfl, N23q, K23, xR, xM, xD, xA, xE0, xF0, xC0, xV0⟩ := hQ23
  have N23 := Fr.app N11 N23q
  have CR25 := CHr.trans CR11 (CHr.keep K23 sf0 CR11.1)
  have pre26 : ∀ t, Steps p.tables e below (T23.setTop (mkF m 25 #[.val (.int p0), .val (.int p1), .val (.int p2), .val (.ref sa1), .val (.ref sa2), .val (.ref sa3), .unset, .unset, .unset] [(.ref rr)])) t → Steps p.tables e below (s₁.setTop (entryFrame m #[(.int p0), (.int p1), (.int p2)] maxLocals)) t := by
    intro t kk
    refine pre13 t ?_
    show Steps p.tables e below (T11.setTop (mkF m 15 #[.val (.int p0), .val (.int p1), .val (.int p2), .val (.ref sa1), .val (.ref sa2), .unset, .unset, .unset, .unset] [(.ref sa3)])) _
    refine XS.astore X11.here hx rfl (hb hby at_15) rfl rfl (l' := #[.val (.int p0), .val (.int p1), .val (.int p2), .val (.ref sa1), .val (.ref sa2), .val (.ref sa3), .unset, .unset, .unset]) rfl ?_
    show Steps p.tables e below (T11.setTop (mkF m 17 #[.val (.int p0), .val (.int p1), .val (.int p2), .val (.ref sa1), .val (.ref sa2), .val (.ref sa3), .unset, .unset, .unset] [])) _
    refine XS.aloadN X11.here hx rfl (hb hby at_17) rfl rfl ?_
    show Steps p.tables e below (T11.setTop (mkF m 18 #[.val (.int p0), .val (.int p1), .val (.int p2), .val (.ref sa1), .val (.ref sa2), .val (.ref sa3), .unset, .unset, .unset] [(.ref sa1)])) _
    refine XS.aload X11.here hx rfl (hb hby at_18) rfl rfl ?_
    show Steps p.tables e below (T11.setTop (mkF m 20 #[.val (.int p0), .val (.int p1), .val (.int p2), .val (.ref sa1), .val (.ref sa2), .val (.ref sa3), .unset, .unset, .unset] [(.ref sa2), (.ref sa1)])) _
    refine XS.aload X11.here hx rfl (hb hby at_20) rfl rfl ?_
    show Steps p.tables e below (T11.setTop (mkF m 22 #[.val (.int p0), .val (.int p1), .val (.int p2), .val (.ref sa1), .val (.ref sa2), .val (.ref sa3), .unset, .unset, .unset] [(.ref sa3), (.ref sa2), (.ref sa1)])) _
    exact st23 _ kk
  have lcm : (cc1 ++ cc2 ++ cc3).length = cc1.length + cc2.length + cc3.length := by simp only [List.length_append]
  have fc28 := (Nat.le_trans fc24 K23.1)
  obtain ⟨cq27, kq27, q27a, q27b, q27c⟩ := isOf hZ rfl xR
  obtain ⟨_, _, ⟨T27, L27, k27, n27⟩, -, X27, ⟨Lc27, hQ27, l27, y27, z27⟩, st27⟩ := X23.virtualBack hx (y := (⟨"com/example/hulse/hulse/failure/Explanation", "message", "()Ljava/lang/String;"⟩ : MethodName)) (z := (⟨"com/example/hulse/hulse/failure/Explanation", "message", "()Ljava/lang/String;"⟩ : MethodName)) hown (mvT hZ (hw _ (List.mem_of_getElem? (i := 158) rfl))) (mvT hZ (hw _ (List.mem_of_getElem? (i := 159) rfl))) (notFace_of_selects (args := #[]) (mvT hZ (hw _ (List.mem_of_getElem? (i := 161) rfl)))) (mvT hZ (hw _ (List.mem_of_getElem? (i := 161) rfl))) (mvT hZ (hw _ (List.mem_of_getElem? (i := 160) rfl))) (by decide) (backOf (W := 0) (own_msg l Z a0 hw [] rr mm T23.heap n0 fc28 xM) hZ (hw _ (List.mem_of_getElem? (i := 162) rfl)) (hw _ (List.mem_of_getElem? (i := 28) rfl)) (by decide) (by decide)) q27a q27c (g := (mkF m 29 #[.val (.int p0), .val (.int p1), .val (.int p2), .val (.ref sa1), .val (.ref sa2), .val (.ref sa3), .val (.ref rr), .unset, .unset] [(.ref rr)])) rfl (by rw [hml]; rfl) (Steps.refl _) (argsL := []) (rest := []) (lenOf pd___Ljava_lang_String_ rfl) rfl (by show 2 * 0 + _ ≤ _; exact Nat.le_of_eq rfl) (hb hby at_29) (fun _ _ => ⟨rfl, rfl, (by decide : 23 + 0 ≤ _), (by decide : 78 + 0 ≤ _)⟩)
  dsimp only [Pt.U, Pt.locs, Pt.cells, Pt.slots] at X27 l27 y27 z27 st27 hQ27
  subst l27 y27 z27
  obtain ⟨rfl, N27q, e27q⟩ := hQ27
  have N27 := Fr.app N23 N27q
  have pre29 : ∀ t, Steps p.tables e below (T27.setTop (mkF m 32 #[.val (.int p0), .val (.int p1), .val (.int p2), .val (.ref sa1), .val (.ref sa2), .val (.ref sa3), .val (.ref rr), .unset, .unset] [(.ref mm)])) t → Steps p.tables e below (s₁.setTop (entryFrame m #[(.int p0), (.int p1), (.int p2)] maxLocals)) t := by
    intro t kk
    refine pre26 t ?_
    show Steps p.tables e below (T23.setTop (mkF m 25 #[.val (.int p0), .val (.int p1), .val (.int p2), .val (.ref sa1), .val (.ref sa2), .val (.ref sa3), .unset, .unset, .unset] [(.ref rr)])) _
    refine XS.astore X23.here hx rfl (hb hby at_25) rfl rfl (l' := #[.val (.int p0), .val (.int p1), .val (.int p2), .val (.ref sa1), .val (.ref sa2), .val (.ref sa3), .val (.ref rr), .unset, .unset]) rfl ?_
    show Steps p.tables e below (T23.setTop (mkF m 27 #[.val (.int p0), .val (.int p1), .val (.int p2), .val (.ref sa1), .val (.ref sa2), .val (.ref sa3), .val (.ref rr), .unset, .unset] [])) _
    refine XS.aload X23.here hx rfl (hb hby at_27) rfl rfl ?_
    show Steps p.tables e below (T23.setTop (mkF m 29 #[.val (.int p0), .val (.int p1), .val (.int p2), .val (.ref sa1), .val (.ref sa2), .val (.ref sa3), .val (.ref rr), .unset, .unset] [(.ref rr)])) _
    exact st27.trans kk
  have fc30 := (fc14.keep K23)
  have fc31 := (fc15.keep K23 nin0)
  have fc32 := (fc16.keep K23 nin0)
  have fc33 := (fc17.keep K23 nin0)
  have fc34 := (fc22.keep K23 all0)
  obtain ⟨cq35, kq35, q35a, q35b, q35c⟩ := isOf hZ e27q fc30
  obtain ⟨_, _, ⟨T35, L35, k35, n35⟩, -, X35, ⟨Lc35, hQ35, l35, y35, z35⟩, st35⟩ := X27.virtualBack hx (y := (⟨"java/lang/String", "length", "()I"⟩ : MethodName)) (z := (⟨"java/lang/String", "length", "()I"⟩ : MethodName)) hown (mvT hZ (hw _ (List.mem_of_getElem? (i := 163) rfl))) (mvT hZ (hw _ (List.mem_of_getElem? (i := 61) rfl))) (notFace_of_selects (args := #[]) (mvT hZ (hw _ (List.mem_of_getElem? (i := 63) rfl)))) (mvT hZ (hw _ (List.mem_of_getElem? (i := 63) rfl))) (mvT hZ (hw _ (List.mem_of_getElem? (i := 62) rfl))) (by decide) (backOf (W := 0) (own_slen l Z a0 hw [] sa1 sb1 ks1 (Int32.ofNat cc1.length) (own_B cc1) G1 T23.heap n0 fc28 fc30 fc31 fc32 fc33 O2 P5 fc34) hZ (hw _ (List.mem_of_getElem? (i := 64) rfl)) (hw _ (List.mem_of_getElem? (i := 6) rfl)) (by decide) (by decide)) q35a q35c (g := (mkF m 35 #[.val (.int p0), .val (.int p1), .val (.int p2), .val (.ref sa1), .val (.ref sa2), .val (.ref sa3), .val (.ref rr), .val (.ref mm), .unset] [(.ref sa1)])) rfl (by rw [hml]; rfl) (Steps.refl _) (argsL := []) (rest := []) (lenOf pd___I rfl) rfl (by show 2 * 0 + _ ≤ _; exact Nat.le_of_eq rfl) (hb hby at_35) (fun _ _ => ⟨rfl, e27q, (by decide : 23 + 0 ≤ _), (by decide : 78 + 0 ≤ _)⟩)
  dsimp only [Pt.U, Pt.locs, Pt.cells, Pt.slots] at X35 l35 y35 z35 st35 hQ35
  subst l35 y35 z35
  obtain ⟨rfl, N35q, e35q⟩ := hQ35
  have N35 := Fr.app N27 N35q
  have pre36 : ∀ t, Steps p.tables e below (T35.setTop (mkF m 38 #[.val (.int p0), .val (.int p1), .val (.int p2), .val (.ref sa1), .val (.ref sa2), .val (.ref sa3), .val (.ref rr), .val (.ref mm), .unset] [(.int (Int32.ofNat cc1.length))])) t → Steps p.tables e below (s₁.setTop (entryFrame m #[(.int p0), (.int p1), (.int p2)] maxLocals)) t := by
    intro t kk
    refine pre29 t ?_
    show Steps p.tables e below (T27.setTop (mkF m 32 #[.val (.int p0), .val (.int p1), .val (.int p2), .val (.ref sa1), .val (.ref sa2), .val (.ref sa3), .val (.ref rr), .unset, .unset] [(.ref mm)])) _
    refine XS.astore X27.here hx rfl (hb hby at_32) rfl rfl (l' := #[.val (.int p0), .val (.int p1), .val (.int p2), .val (.ref sa1), .val (.ref sa2), .val (.ref sa3), .val (.ref rr), .val (.ref mm), .unset]) rfl ?_
    show Steps p.tables e below (T27.setTop (mkF m 34 #[.val (.int p0), .val (.int p1), .val (.int p2), .val (.ref sa1), .val (.ref sa2), .val (.ref sa3), .val (.ref rr), .val (.ref mm), .unset] [])) _
    refine XS.aloadN X27.here hx rfl (hb hby at_34) rfl rfl ?_
    show Steps p.tables e below (T27.setTop (mkF m 35 #[.val (.int p0), .val (.int p1), .val (.int p2), .val (.ref sa1), .val (.ref sa2), .val (.ref sa3), .val (.ref rr), .val (.ref mm), .unset] [(.ref sa1)])) _
    exact st35.trans kk
  have fc37 := (fc18.keep K23)
  have fc38 := (fc19.keep K23 nin0)
  have fc39 := (fc20.keep K23 nin0)
  have fc40 := (fc21.keep K23 nin0)
  obtain ⟨cq41, kq41, q41a, q41b, q41c⟩ := isOf hZ e35q fc37
  obtain ⟨_, _, ⟨T41, L41, k41, n41⟩, -, X41, ⟨Lc41, hQ41, l41, y41, z41⟩, st41⟩ := X35.virtualBack hx (y := (⟨"java/lang/String", "length", "()I"⟩ : MethodName)) (z := (⟨"java/lang/String", "length", "()I"⟩ : MethodName)) hown (mvT hZ (hw _ (List.mem_of_getElem? (i := 163) rfl))) (mvT hZ (hw _ (List.mem_of_getElem? (i := 61) rfl))) (notFace_of_selects (args := #[]) (mvT hZ (hw _ (List.mem_of_getElem? (i := 63) rfl)))) (mvT hZ (hw _ (List.mem_of_getElem? (i := 63) rfl))) (mvT hZ (hw _ (List.mem_of_getElem? (i := 62) rfl))) (by decide) (backOf (W := 1) (own_slen l Z a0 hw [] sa2 sb2 ks2 (Int32.ofNat cc2.length) (own_B cc2) G1 T23.heap n0 fc28 fc37 fc38 fc39 fc40 O2 P5 fc34) hZ (hw _ (List.mem_of_getElem? (i := 64) rfl)) (hw _ (List.mem_of_getElem? (i := 6) rfl)) (by decide) (by decide)) q41a q41c (g := (mkF m 40 #[.val (.int p0), .val (.int p1), .val (.int p2), .val (.ref sa1), .val (.ref sa2), .val (.ref sa3), .val (.ref rr), .val (.ref mm), .unset] [(.ref sa2), (.int (Int32.ofNat cc1.length))])) rfl (by rw [hml]; rfl) (Steps.refl _) (argsL := []) (rest := [(.int (Int32.ofNat cc1.length))]) (lenOf pd___I rfl) rfl (by show 2 * 0 + _ ≤ _; exact Nat.le_of_eq rfl) (hb hby at_40) (fun _ _ => ⟨rfl, e35q, (by decide : 23 + 0 ≤ _), (by decide : 78 + 0 ≤ _)⟩)
  dsimp only [Pt.U, Pt.locs, Pt.cells, Pt.slots] at X41 l41 y41 z41 st41 hQ41
  subst l41 y41 z41
  obtain ⟨rfl, N41q, e41q⟩ := hQ41
  have N41 := Fr.app N35 N41q
  have pre42 : ∀ t, Steps p.tables e below (T41.setTop (mkF m 43 #[.val (.int p0), .val (.int p1), .val (.int p2), .val (.ref sa1), .val (.ref sa2), .val (.ref sa3), .val (.ref rr), .val (.ref mm), .unset] [(.int (Int32.ofNat cc2.length)), (.int (Int32.ofNat cc1.length))])) t → Steps p.tables e below (s₁.setTop (entryFrame m #[(.int p0), (.int p1), (.int p2)] maxLocals)) t := by
    intro t kk
    refine pre36 t ?_
    show Steps p.tables e below (T35.setTop (mkF m 38 #[.val (.int p0), .val (.int p1), .val (.int p2), .val (.ref sa1), .val (.ref sa2), .val (.ref sa3), .val (.ref rr), .val (.ref mm), .unset] [(.int (Int32.ofNat cc1.length))])) _
    refine XS.aload X35.here hx rfl (hb hby at_38) rfl rfl ?_
    show Steps p.tables e below (T35.setTop (mkF m 40 #[.val (.int p0), .val (.int p1), .val (.int p2), .val (.ref sa1), .val (.ref sa2), .val (.ref sa3), .val (.ref rr), .val (.ref mm), .unset] [(.ref sa2), (.int (Int32.ofNat cc1.length))])) _
    exact st41.trans kk
  have fc43 := (xE3.keep K23)
  have fc44 := (xF3.keep K23 nin0)
  have fc45 := (xC3.keep K23 nin0)
  have fc46 := (xV3.keep K23 nin0)
  obtain ⟨cq47, kq47, q47a, q47b, q47c⟩ := isOf hZ e41q fc43
  obtain ⟨_, _, ⟨T47, L47, k47, n47⟩, -, X47, ⟨Lc47, hQ47, l47, y47, z47⟩, st47⟩ := X41.virtualBack hx (y := (⟨"java/lang/String", "length", "()I"⟩ : MethodName)) (z := (⟨"java/lang/String", "length", "()I"⟩ : MethodName)) hown (mvT hZ (hw _ (List.mem_of_getElem? (i := 163) rfl))) (mvT hZ (hw _ (List.mem_of_getElem? (i := 61) rfl))) (notFace_of_selects (args := #[]) (mvT hZ (hw _ (List.mem_of_getElem? (i := 63) rfl)))) (mvT hZ (hw _ (List.mem_of_getElem? (i := 63) rfl))) (mvT hZ (hw _ (List.mem_of_getElem? (i := 62) rfl))) (by decide) (backOf (W := 1) (own_slen l Z a0 hw [] sa3 sb3 ks3 (Int32.ofNat cc3.length) (own_B cc3) G1 T23.heap n0 fc28 fc43 fc44 fc45 fc46 O2 P5 fc34) hZ (hw _ (List.mem_of_getElem? (i := 64) rfl)) (hw _ (List.mem_of_getElem? (i := 6) rfl)) (by decide) (by decide)) q47a q47c (g := (mkF m 46 #[.val (.int p0), .val (.int p1), .val (.int p2), .val (.ref sa1), .val (.ref sa2), .val (.ref sa3), .val (.ref rr), .val (.ref mm), .unset] [(.ref sa3), (.int ((Int32.ofNat cc1.length) + (Int32.ofNat cc2.length)))])) rfl (by rw [hml]; rfl) (Steps.refl _) (argsL := []) (rest := [(.int ((Int32.ofNat cc1.length) + (Int32.ofNat cc2.length)))]) (lenOf pd___I rfl) rfl (by show 2 * 0 + _ ≤ _; exact Nat.le_of_eq rfl) (hb hby at_46) (fun _ _ => ⟨rfl, e41q, (by decide : 23 + 0 ≤ _), (by decide : 78 + 0 ≤ _)⟩)
  dsimp only [Pt.U, Pt.locs, Pt.cells, Pt.slots] at X47 l47 y47 z47 st47 hQ47
  subst l47 y47 z47
  obtain ⟨rfl, N47q, e47q⟩ := hQ47
  have N47 := Fr.app N41 N47q
  have pre48 : ∀ t, Steps p.tables e below (T47.setTop (mkF m 49 #[.val (.int p0), .val (.int p1), .val (.int p2), .val (.ref sa1), .val (.ref sa2), .val (.ref sa3), .val (.ref rr), .val (.ref mm), .unset] [(.int (Int32.ofNat cc3.length)), (.int ((Int32.ofNat cc1.length) + (Int32.ofNat cc2.length)))])) t → Steps p.tables e below (s₁.setTop (entryFrame m #[(.int p0), (.int p1), (.int p2)] maxLocals)) t := by
    intro t kk
    refine pre42 t ?_
    show Steps p.tables e below (T41.setTop (mkF m 43 #[.val (.int p0), .val (.int p1), .val (.int p2), .val (.ref sa1), .val (.ref sa2), .val (.ref sa3), .val (.ref rr), .val (.ref mm), .unset] [(.int (Int32.ofNat cc2.length)), (.int (Int32.ofNat cc1.length))])) _
    refine XS.iadd X41.here hx rfl (hb hby at_43) rfl ?_
    show Steps p.tables e below (T41.setTop (mkF m 44 #[.val (.int p0), .val (.int p1), .val (.int p2), .val (.ref sa1), .val (.ref sa2), .val (.ref sa3), .val (.ref rr), .val (.ref mm), .unset] [(.int ((Int32.ofNat cc1.length) + (Int32.ofNat cc2.length)))])) _
    refine XS.aload X41.here hx rfl (hb hby at_44) rfl rfl ?_
    show Steps p.tables e below (T41.setTop (mkF m 46 #[.val (.int p0), .val (.int p1), .val (.int p2), .val (.ref sa1), .val (.ref sa2), .val (.ref sa3), .val (.ref rr), .val (.ref mm), .unset] [(.ref sa3), (.int ((Int32.ofNat cc1.length) + (Int32.ofNat cc2.length)))])) _
    exact st47.trans kk
  obtain ⟨cq49, kq49, q49a, q49b, q49c⟩ := isOf hZ e47q xR
  obtain ⟨_, _, ⟨T49, L49, k49, n49⟩, -, X49, ⟨Lc49, hQ49, l49, y49, z49⟩, st49⟩ := X47.virtualBack hx (y := (⟨"com/example/hulse/hulse/failure/Explanation", "description", "()Ljava/lang/String;"⟩ : MethodName)) (z := (⟨"com/example/hulse/hulse/failure/Explanation", "description", "()Ljava/lang/String;"⟩ : MethodName)) hown (mvT hZ (hw _ (List.mem_of_getElem? (i := 164) rfl))) (mvT hZ (hw _ (List.mem_of_getElem? (i := 165) rfl))) (notFace_of_selects (args := #[]) (mvT hZ (hw _ (List.mem_of_getElem? (i := 167) rfl)))) (mvT hZ (hw _ (List.mem_of_getElem? (i := 167) rfl))) (mvT hZ (hw _ (List.mem_of_getElem? (i := 166) rfl))) (by decide) (backOf (W := 1) (own_dsc l Z a0 hw [] rr sa1 T23.heap n0 fc28 xD) hZ (hw _ (List.mem_of_getElem? (i := 168) rfl)) (hw _ (List.mem_of_getElem? (i := 28) rfl)) (by decide) (by decide)) q49a q49c (g := (mkF m 60 #[.val (.int p0), .val (.int p1), .val (.int p2), .val (.ref sa1), .val (.ref sa2), .val (.ref sa3), .val (.ref rr), .val (.ref mm), .val (.int (((Int32.ofNat cc1.length) + (Int32.ofNat cc2.length)) + (Int32.ofNat cc3.length)))] [(.ref rr), (.ref sa1)])) rfl (by rw [hml]; rfl) (Steps.refl _) (argsL := []) (rest := [(.ref sa1)]) (lenOf pd___Ljava_lang_String_ rfl) rfl (by show 2 * 0 + _ ≤ _; exact Nat.le_of_eq rfl) (hb hby at_60) (fun _ _ => ⟨rfl, e47q, (by decide : 23 + 0 ≤ _), (by decide : 78 + 0 ≤ _)⟩)
  dsimp only [Pt.U, Pt.locs, Pt.cells, Pt.slots] at X49 l49 y49 z49 st49 hQ49
  subst l49 y49 z49
  obtain ⟨rfl, N49q, e49q⟩ := hQ49
  have N49 := Fr.app N47 N49q
  have pre50 : ∀ t, Steps p.tables e below (T49.setTop (mkF m 63 #[.val (.int p0), .val (.int p1), .val (.int p2), .val (.ref sa1), .val (.ref sa2), .val (.ref sa3), .val (.ref rr), .val (.ref mm), .val (.int (((Int32.ofNat cc1.length) + (Int32.ofNat cc2.length)) + (Int32.ofNat cc3.length)))] [(.ref sa1), (.ref sa1)])) t → Steps p.tables e below (s₁.setTop (entryFrame m #[(.int p0), (.int p1), (.int p2)] maxLocals)) t := by
    intro t kk
    refine pre48 t ?_
    show Steps p.tables e below (T47.setTop (mkF m 49 #[.val (.int p0), .val (.int p1), .val (.int p2), .val (.ref sa1), .val (.ref sa2), .val (.ref sa3), .val (.ref rr), .val (.ref mm), .unset] [(.int (Int32.ofNat cc3.length)), (.int ((Int32.ofNat cc1.length) + (Int32.ofNat cc2.length)))])) _
    refine XS.iadd X47.here hx rfl (hb hby at_49) rfl ?_
    show Steps p.tables e below (T47.setTop (mkF m 50 #[.val (.int p0), .val (.int p1), .val (.int p2), .val (.ref sa1), .val (.ref sa2), .val (.ref sa3), .val (.ref rr), .val (.ref mm), .unset] [(.int (((Int32.ofNat cc1.length) + (Int32.ofNat cc2.length)) + (Int32.ofNat cc3.length)))])) _
    refine XS.istore X47.here hx rfl (hb hby at_50) rfl (l' := #[.val (.int p0), .val (.int p1), .val (.int p2), .val (.ref sa1), .val (.ref sa2), .val (.ref sa3), .val (.ref rr), .val (.ref mm), .val (.int (((Int32.ofNat cc1.length) + (Int32.ofNat cc2.length)) + (Int32.ofNat cc3.length)))]) rfl ?_
    show Steps p.tables e below (T47.setTop (mkF m 52 #[.val (.int p0), .val (.int p1), .val (.int p2), .val (.ref sa1), .val (.ref sa2), .val (.ref sa3), .val (.ref rr), .val (.ref mm), .val (.int (((Int32.ofNat cc1.length) + (Int32.ofNat cc2.length)) + (Int32.ofNat cc3.length)))] [])) _
    refine XS.aload X47.here hx rfl (hb hby at_52) rfl rfl ?_
    show Steps p.tables e below (T47.setTop (mkF m 54 #[.val (.int p0), .val (.int p1), .val (.int p2), .val (.ref sa1), .val (.ref sa2), .val (.ref sa3), .val (.ref rr), .val (.ref mm), .val (.int (((Int32.ofNat cc1.length) + (Int32.ofNat cc2.length)) + (Int32.ofNat cc3.length)))] [(.ref mm)])) _
    refine XS.ifnullNo X47.here hx rfl (hb hby at_54) rfl ?_
    show Steps p.tables e below (T47.setTop (mkF m 57 #[.val (.int p0), .val (.int p1), .val (.int p2), .val (.ref sa1), .val (.ref sa2), .val (.ref sa3), .val (.ref rr), .val (.ref mm), .val (.int (((Int32.ofNat cc1.length) + (Int32.ofNat cc2.length)) + (Int32.ofNat cc3.length)))] [])) _
    refine XS.aloadN X47.here hx rfl (hb hby at_57) rfl rfl ?_
    show Steps p.tables e below (T47.setTop (mkF m 58 #[.val (.int p0), .val (.int p1), .val (.int p2), .val (.ref sa1), .val (.ref sa2), .val (.ref sa3), .val (.ref rr), .val (.ref mm), .val (.int (((Int32.ofNat cc1.length) + (Int32.ofNat cc2.length)) + (Int32.ofNat cc3.length)))] [(.ref sa1)])) _
    refine XS.aload X47.here hx rfl (hb hby at_58) rfl rfl ?_
    show Steps p.tables e below (T47.setTop (mkF m 60 #[.val (.int p0), .val (.int p1), .val (.int p2), .val (.ref sa1), .val (.ref sa2), .val (.ref sa3), .val (.ref rr), .val (.ref mm), .val (.int (((Int32.ofNat cc1.length) + (Int32.ofNat cc2.length)) + (Int32.ofNat cc3.length)))] [(.ref rr), (.ref sa1)])) _
    exact st49.trans kk
  obtain ⟨cq51, kq51, q51a, q51b, q51c⟩ := isOf hZ e49q fc30
  obtain ⟨_, _, ⟨T51, L51, k51, n51⟩, -, X51, ⟨Lc51, hQ51, l51, y51, z51⟩, st51⟩ := X49.virtualBack hx (y := (⟨"java/lang/String", "equals", "(Ljava/lang/Object;)Z"⟩ : MethodName)) (z := (⟨"java/lang/String", "equals", "(Ljava/lang/Object;)Z"⟩ : MethodName)) hown (mvT hZ (hw _ (List.mem_of_getElem? (i := 169) rfl))) (mvT hZ (hw _ (List.mem_of_getElem? (i := 170) rfl))) (notFace_of_selects (args := #[]) (mvT hZ (hw _ (List.mem_of_getElem? (i := 172) rfl)))) (mvT hZ (hw _ (List.mem_of_getElem? (i := 172) rfl))) (mvT hZ (hw _ (List.mem_of_getElem? (i := 171) rfl))) (by decide) (backOf (W := 0) (own_eqq l Z a0 hw [] sa1 T23.heap n0 fc28) hZ (hw _ (List.mem_of_getElem? (i := 173) rfl)) (hw _ (List.mem_of_getElem? (i := 6) rfl)) (by decide) (by decide)) q51a q51c (g := (mkF m 63 #[.val (.int p0), .val (.int p1), .val (.int p2), .val (.ref sa1), .val (.ref sa2), .val (.ref sa3), .val (.ref rr), .val (.ref mm), .val (.int (((Int32.ofNat cc1.length) + (Int32.ofNat cc2.length)) + (Int32.ofNat cc3.length)))] [(.ref sa1), (.ref sa1)])) rfl (by rw [hml]; rfl) (Steps.refl _) (argsL := [(.ref sa1)]) (rest := []) (lenOf pd__Ljava_lang_Object__Z rfl) rfl (by show 2 * 0 + _ ≤ _; exact Nat.le_of_eq rfl) (hb hby at_63) (fun _ _ => ⟨rfl, e49q, (by decide : 23 + 0 ≤ _), (by decide : 78 + 0 ≤ _)⟩)
  dsimp only [Pt.U, Pt.locs, Pt.cells, Pt.slots] at X51 l51 y51 z51 st51 hQ51
  subst l51 y51 z51
  obtain ⟨rfl, N51q, e51q⟩ := hQ51
  have N51 := Fr.app N49 N51q
  have pre52 : ∀ t, Steps p.tables e below (T51.setTop (mkF m 66 #[.val (.int p0), .val (.int p1), .val (.int p2), .val (.ref sa1), .val (.ref sa2), .val (.ref sa3), .val (.ref rr), .val (.ref mm), .val (.int (((Int32.ofNat cc1.length) + (Int32.ofNat cc2.length)) + (Int32.ofNat cc3.length)))] [(.int (1 : Int32))])) t → Steps p.tables e below (s₁.setTop (entryFrame m #[(.int p0), (.int p1), (.int p2)] maxLocals)) t := by
    intro t kk
    refine pre50 t ?_
    show Steps p.tables e below (T49.setTop (mkF m 63 #[.val (.int p0), .val (.int p1), .val (.int p2), .val (.ref sa1), .val (.ref sa2), .val (.ref sa3), .val (.ref rr), .val (.ref mm), .val (.int (((Int32.ofNat cc1.length) + (Int32.ofNat cc2.length)) + (Int32.ofNat cc3.length)))] [(.ref sa1), (.ref sa1)])) _
    exact st51.trans kk
  have hd53 : ¬ ((1 : Int32) = (0 : Int32)) := by decide
  obtain ⟨cq54, kq54, q54a, q54b, q54c⟩ := isOf hZ e51q xR
  obtain ⟨_, _, ⟨T54, L54, k54, n54⟩, -, X54, ⟨Lc54, hQ54, l54, y54, z54⟩, st54⟩ := X51.virtualBack hx (y := (⟨"com/example/hulse/hulse/failure/Explanation", "action", "()Ljava/lang/String;"⟩ : MethodName)) (z := (⟨"com/example/hulse/hulse/failure/Explanation", "action", "()Ljava/lang/String;"⟩ : MethodName)) hown (mvT hZ (hw _ (List.mem_of_getElem? (i := 174) rfl))) (mvT hZ (hw _ (List.mem_of_getElem? (i := 175) rfl))) (notFace_of_selects (args := #[]) (mvT hZ (hw _ (List.mem_of_getElem? (i := 177) rfl)))) (mvT hZ (hw _ (List.mem_of_getElem? (i := 177) rfl))) (mvT hZ (hw _ (List.mem_of_getElem? (i := 176) rfl))) (by decide) (backOf (W := 1) (own_act l Z a0 hw [] rr sa3 T23.heap n0 fc28 xA) hZ (hw _ (List.mem_of_getElem? (i := 178) rfl)) (hw _ (List.mem_of_getElem? (i := 28) rfl)) (by decide) (by decide)) q54a q54c (g := (mkF m 73 #[.val (.int p0), .val (.int p1), .val (.int p2), .val (.ref sa1), .val (.ref sa2), .val (.ref sa3), .val (.ref rr), .val (.ref mm), .val (.int (((Int32.ofNat cc1.length) + (Int32.ofNat cc2.length)) + (Int32.ofNat cc3.length)))] [(.ref rr), (.ref sa3)])) rfl (by rw [hml]; rfl) (Steps.refl _) (argsL := []) (rest := [(.ref sa3)]) (lenOf pd___Ljava_lang_String_ rfl) rfl (by show 2 * 0 + _ ≤ _; exact Nat.le_of_eq rfl) (hb hby at_73) (fun _ _ => ⟨rfl, e51q, (by decide : 23 + 0 ≤ _), (by decide : 78 + 0 ≤ _)⟩)
  dsimp only [Pt.U, Pt.locs, Pt.cells, Pt.slots] at X54 l54 y54 z54 st54 hQ54
  subst l54 y54 z54
  obtain ⟨rfl, N54q, e54q⟩ := hQ54
  have N54 := Fr.app N51 N54q
  have pre55 : ∀ t, Steps p.tables e below (T54.setTop (mkF m 76 #[.val (.int p0), .val (.int p1), .val (.int p2), .val (.ref sa1), .val (.ref sa2), .val (.ref sa3), .val (.ref rr), .val (.ref mm), .val (.int (((Int32.ofNat cc1.length) + (Int32.ofNat cc2.length)) + (Int32.ofNat cc3.length)))] [(.ref sa3), (.ref sa3)])) t → Steps p.tables e below (s₁.setTop (entryFrame m #[(.int p0), (.int p1), (.int p2)] maxLocals)) t := by
    intro t kk
    refine pre52 t ?_
    show Steps p.tables e below (T51.setTop (mkF m 66 #[.val (.int p0), .val (.int p1), .val (.int p2), .val (.ref sa1), .val (.ref sa2), .val (.ref sa3), .val (.ref rr), .val (.ref mm), .val (.int (((Int32.ofNat cc1.length) + (Int32.ofNat cc2.length)) + (Int32.ofNat cc3.length)))] [(.int (1 : Int32))])) _
    refine XS.ifNo X51.here hx rfl (hb hby at_66) rfl ((if0 _ _).trans (feq hd53).1) ?_
    show Steps p.tables e below (T51.setTop (mkF m 69 #[.val (.int p0), .val (.int p1), .val (.int p2), .val (.ref sa1), .val (.ref sa2), .val (.ref sa3), .val (.ref rr), .val (.ref mm), .val (.int (((Int32.ofNat cc1.length) + (Int32.ofNat cc2.length)) + (Int32.ofNat cc3.length)))] [])) _
    refine XS.aload X51.here hx rfl (hb hby at_69) rfl rfl ?_
    show Steps p.tables e below (T51.setTop (mkF m 71 #[.val (.int p0), .val (.int p1), .val (.int p2), .val (.ref sa1), .val (.ref sa2), .val (.ref sa3), .val (.ref rr), .val (.ref mm), .val (.int (((Int32.ofNat cc1.length) + (Int32.ofNat cc2.length)) + (Int32.ofNat cc3.length)))] [(.ref sa3)])) _
    refine XS.aload X51.here hx rfl (hb hby at_71) rfl rfl ?_
    show Steps p.tables e below (T51.setTop (mkF m 73 #[.val (.int p0), .val (.int p1), .val (.int p2), .val (.ref sa1), .val (.ref sa2), .val (.ref sa3), .val (.ref rr), .val (.ref mm), .val (.int (((Int32.ofNat cc1.length) + (Int32.ofNat cc2.length)) + (Int32.ofNat cc3.length)))] [(.ref rr), (.ref sa3)])) _
    exact st54.trans kk
  obtain ⟨cq56, kq56, q56a, q56b, q56c⟩ := isOf hZ e54q fc43
  obtain ⟨_, _, ⟨T56, L56, k56, n56⟩, -, X56, ⟨Lc56, hQ56, l56, y56, z56⟩, st56⟩ := X54.virtualBack hx (y := (⟨"java/lang/String", "equals", "(Ljava/lang/Object;)Z"⟩ : MethodName)) (z := (⟨"java/lang/String", "equals", "(Ljava/lang/Object;)Z"⟩ : MethodName)) hown (mvT hZ (hw _ (List.mem_of_getElem? (i := 169) rfl))) (mvT hZ (hw _ (List.mem_of_getElem? (i := 170) rfl))) (notFace_of_selects (args := #[]) (mvT hZ (hw _ (List.mem_of_getElem? (i := 172) rfl)))) (mvT hZ (hw _ (List.mem_of_getElem? (i := 172) rfl))) (mvT hZ (hw _ (List.mem_of_getElem? (i := 171) rfl))) (by decide) (backOf (W := 0) (own_eqq l Z a0 hw [] sa3 T23.heap n0 fc28) hZ (hw _ (List.mem_of_getElem? (i := 173) rfl)) (hw _ (List.mem_of_getElem? (i := 6) rfl)) (by decide) (by decide)) q56a q56c (g := (mkF m 76 #[.val (.int p0), .val (.int p1), .val (.int p2), .val (.ref sa1), .val (.ref sa2), .val (.ref sa3), .val (.ref rr), .val (.ref mm), .val (.int (((Int32.ofNat cc1.length) + (Int32.ofNat cc2.length)) + (Int32.ofNat cc3.length)))] [(.ref sa3), (.ref sa3)])) rfl (by rw [hml]; rfl) (Steps.refl _) (argsL := [(.ref sa3)]) (rest := []) (lenOf pd__Ljava_lang_Object__Z rfl) rfl (by show 2 * 0 + _ ≤ _; exact Nat.le_of_eq rfl) (hb hby at_76) (fun _ _ => ⟨rfl, e54q, (by decide : 23 + 0 ≤ _), (by decide : 78 + 0 ≤ _)⟩)
  dsimp only [Pt.U, Pt.locs, Pt.cells, Pt.slots] at X56 l56 y56 z56 st56 hQ56
  subst l56 y56 z56
  obtain ⟨rfl, N56q, e56q⟩ := hQ56
  have N56 := Fr.app N54 N56q
  have pre57 : ∀ t, Steps p.tables e below (T56.setTop (mkF m 79 #[.val (.int p0), .val (.int p1), .val (.int p2), .val (.ref sa1), .val (.ref sa2), .val (.ref sa3), .val (.ref rr), .val (.ref mm), .val (.int (((Int32.ofNat cc1.length) + (Int32.ofNat cc2.length)) + (Int32.ofNat cc3.length)))] [(.int (1 : Int32))])) t → Steps p.tables e below (s₁.setTop (entryFrame m #[(.int p0), (.int p1), (.int p2)] maxLocals)) t := by
    intro t kk
    refine pre55 t ?_
    show Steps p.tables e below (T54.setTop (mkF m 76 #[.val (.int p0), .val (.int p1), .val (.int p2), .val (.ref sa1), .val (.ref sa2), .val (.ref sa3), .val (.ref rr), .val (.ref mm), .val (.int (((Int32.ofNat cc1.length) + (Int32.ofNat cc2.length)) + (Int32.ofNat cc3.length)))] [(.ref sa3), (.ref sa3)])) _
    exact st56.trans kk
  have hd58 : ¬ ((1 : Int32) = (0 : Int32)) := by decide
  obtain ⟨cq59, kq59, q59a, q59b, q59c⟩ := isOf hZ e56q xE0
  obtain ⟨_, _, ⟨T59, L59, k59, n59⟩, -, X59, ⟨Lc59, hQ59, l59, y59, z59⟩, st59⟩ := X56.virtualBack hx (y := (⟨"java/lang/String", "length", "()I"⟩ : MethodName)) (z := (⟨"java/lang/String", "length", "()I"⟩ : MethodName)) hown (mvT hZ (hw _ (List.mem_of_getElem? (i := 163) rfl))) (mvT hZ (hw _ (List.mem_of_getElem? (i := 61) rfl))) (notFace_of_selects (args := #[]) (mvT hZ (hw _ (List.mem_of_getElem? (i := 63) rfl)))) (mvT hZ (hw _ (List.mem_of_getElem? (i := 63) rfl))) (mvT hZ (hw _ (List.mem_of_getElem? (i := 62) rfl))) (by decide) (backOf (W := 0) (own_slen l Z a0 hw [] mm mb km (Int32.ofNat (cc1 ++ cc2 ++ cc3).length) (own_B (cc1 ++ cc2 ++ cc3)) G1 T23.heap n0 fc28 xE0 xF0 xC0 xV0 O2 P5 fc34) hZ (hw _ (List.mem_of_getElem? (i := 64) rfl)) (hw _ (List.mem_of_getElem? (i := 6) rfl)) (by decide) (by decide)) q59a q59c (g := (mkF m 84 #[.val (.int p0), .val (.int p1), .val (.int p2), .val (.ref sa1), .val (.ref sa2), .val (.ref sa3), .val (.ref rr), .val (.ref mm), .val (.int (((Int32.ofNat cc1.length) + (Int32.ofNat cc2.length)) + (Int32.ofNat cc3.length)))] [(.ref mm)])) rfl (by rw [hml]; rfl) (Steps.refl _) (argsL := []) (rest := []) (lenOf pd___I rfl) rfl (by show 2 * 0 + _ ≤ _; exact Nat.le_of_eq rfl) (hb hby at_84) (fun _ _ => ⟨rfl, e56q, (by decide : 23 + 0 ≤ _), (by decide : 78 + 0 ≤ _)⟩)
  dsimp only [Pt.U, Pt.locs, Pt.cells, Pt.slots] at X59 l59 y59 z59 st59 hQ59
  subst l59 y59 z59
  obtain ⟨rfl, N59q, e59q⟩ := hQ59
  have N59 := Fr.app N56 N59q
  have pre60 : ∀ t, Steps p.tables e below (T59.setTop (mkF m 87 #[.val (.int p0), .val (.int p1), .val (.int p2), .val (.ref sa1), .val (.ref sa2), .val (.ref sa3), .val (.ref rr), .val (.ref mm), .val (.int (((Int32.ofNat cc1.length) + (Int32.ofNat cc2.length)) + (Int32.ofNat cc3.length)))] [(.int (Int32.ofNat (cc1 ++ cc2 ++ cc3).length))])) t → Steps p.tables e below (s₁.setTop (entryFrame m #[(.int p0), (.int p1), (.int p2)] maxLocals)) t := by
    intro t kk
    refine pre57 t ?_
    show Steps p.tables e below (T56.setTop (mkF m 79 #[.val (.int p0), .val (.int p1), .val (.int p2), .val (.ref sa1), .val (.ref sa2), .val (.ref sa3), .val (.ref rr), .val (.ref mm), .val (.int (((Int32.ofNat cc1.length) + (Int32.ofNat cc2.length)) + (Int32.ofNat cc3.length)))] [(.int (1 : Int32))])) _
    refine XS.ifNo X56.here hx rfl (hb hby at_79) rfl ((if0 _ _).trans (feq hd58).1) ?_
    show Steps p.tables e below (T56.setTop (mkF m 82 #[.val (.int p0), .val (.int p1), .val (.int p2), .val (.ref sa1), .val (.ref sa2), .val (.ref sa3), .val (.ref rr), .val (.ref mm), .val (.int (((Int32.ofNat cc1.length) + (Int32.ofNat cc2.length)) + (Int32.ofNat cc3.length)))] [])) _
    refine XS.aload X56.here hx rfl (hb hby at_82) rfl rfl ?_
    show Steps p.tables e below (T56.setTop (mkF m 84 #[.val (.int p0), .val (.int p1), .val (.int p2), .val (.ref sa1), .val (.ref sa2), .val (.ref sa3), .val (.ref rr), .val (.ref mm), .val (.int (((Int32.ofNat cc1.length) + (Int32.ofNat cc2.length)) + (Int32.ofNat cc3.length)))] [(.ref mm)])) _
    exact st59.trans kk
  have hd61 : (Int32.ofNat (cc1 ++ cc2 ++ cc3).length) = (((Int32.ofNat cc1.length) + (Int32.ofNat cc2.length)) + (Int32.ofNat cc3.length)) := by rw [own_addN (by omega), own_addN (by omega), lcm]
  obtain ⟨_, _, ⟨T62, L62, k62, n62⟩, -, X62, ⟨Lc62, hQ62, l62, y62, z62⟩, st62⟩ := Jvm.LawKit.callS X59 hx (y := (⟨"com/example/hulse/hulse/failure/ExplanationOfPinLaw", "at", "(Ljava/lang/String;ILjava/lang/String;Ljava/lang/String;Ljava/lang/String;)Z"⟩ : MethodName)) hown (mvT hZ (hw _ (List.mem_of_getElem? (i := 179) rfl))) (mvT hZ (hw _ (List.mem_of_getElem? (i := 180) rfl))) (mvT hZ (hw _ (List.mem_of_getElem? (i := 2) rfl))) (mvT hZ (hw _ (List.mem_of_getElem? (i := 181) rfl))) (by decide) (backOf (W := 0) (own_at l Z a0 hw [] mm mb km sa1 sb1 sa2 sb2 sa3 sb3 ks1 ks2 ks3 cc1 cc2 cc3 (0 : Int32) G1 G3 T23.heap n0 fc28 xE0 xF0 xC0 xV0 fc30 fc31 fc32 fc33 fc37 fc38 fc39 fc40 fc43 fc44 fc45 fc46 hl1 hl2 hl3 lt1 lt2 lt3 (by decide) O2 P5 O4 rG3 fc34) hZ (hw _ (List.mem_of_getElem? (i := 181) rfl)) (hw _ (List.mem_of_getElem? (i := 2) rfl)) (by decide) (by decide)) (g := (mkF m 100 #[.val (.int p0), .val (.int p1), .val (.int p2), .val (.ref sa1), .val (.ref sa2), .val (.ref sa3), .val (.ref rr), .val (.ref mm), .val (.int (((Int32.ofNat cc1.length) + (Int32.ofNat cc2.length)) + (Int32.ofNat cc3.length)))] [(.ref sa3), (.ref sa2), (.ref sa1), (.int (0 : Int32)), (.ref mm)])) rfl (by rw [hml]; rfl) (argsL := [(.ref mm), (.int (0 : Int32)), (.ref sa1), (.ref sa2), (.ref sa3)]) (rest := []) (lenOf pd_595453421 rfl) rfl (by show 2 * 0 + _ ≤ _; exact Nat.le_of_eq rfl) (hb hby at_100) (fun _ _ => ⟨rfl, e59q, (by decide : 23 + 0 ≤ _), (by decide : 78 + 0 ≤ _)⟩)
  dsimp only [Pt.U, Pt.locs, Pt.cells, Pt.slots] at X62 l62 y62 z62 st62 hQ62
  subst l62 y62 z62
  obtain ⟨rfl, N62q, e62q⟩ := hQ62
  have N62 := Fr.app N59 N62q
  have pre63 : ∀ t, Steps p.tables e below (T62.setTop (mkF m 103 #[.val (.int p0), .val (.int p1), .val (.int p2), .val (.ref sa1), .val (.ref sa2), .val (.ref sa3), .val (.ref rr), .val (.ref mm), .val (.int (((Int32.ofNat cc1.length) + (Int32.ofNat cc2.length)) + (Int32.ofNat cc3.length)))] [(.int (1 : Int32))])) t → Steps p.tables e below (s₁.setTop (entryFrame m #[(.int p0), (.int p1), (.int p2)] maxLocals)) t := by
    intro t kk
    refine pre60 t ?_
    show Steps p.tables e below (T59.setTop (mkF m 87 #[.val (.int p0), .val (.int p1), .val (.int p2), .val (.ref sa1), .val (.ref sa2), .val (.ref sa3), .val (.ref rr), .val (.ref mm), .val (.int (((Int32.ofNat cc1.length) + (Int32.ofNat cc2.length)) + (Int32.ofNat cc3.length)))] [(.int (Int32.ofNat (cc1 ++ cc2 ++ cc3).length))])) _
    refine XS.iload X59.here hx rfl (hb hby at_87) rfl ?_
    show Steps p.tables e below (T59.setTop (mkF m 89 #[.val (.int p0), .val (.int p1), .val (.int p2), .val (.ref sa1), .val (.ref sa2), .val (.ref sa3), .val (.ref rr), .val (.ref mm), .val (.int (((Int32.ofNat cc1.length) + (Int32.ofNat cc2.length)) + (Int32.ofNat cc3.length)))] [(.int (((Int32.ofNat cc1.length) + (Int32.ofNat cc2.length)) + (Int32.ofNat cc3.length))), (.int (Int32.ofNat (cc1 ++ cc2 ++ cc3).length))])) _
    refine XS.icmpNo X59.here hx rfl (hb hby at_89) rfl (teq hd61).2 ?_
    show Steps p.tables e below (T59.setTop (mkF m 92 #[.val (.int p0), .val (.int p1), .val (.int p2), .val (.ref sa1), .val (.ref sa2), .val (.ref sa3), .val (.ref rr), .val (.ref mm), .val (.int (((Int32.ofNat cc1.length) + (Int32.ofNat cc2.length)) + (Int32.ofNat cc3.length)))] [])) _
    refine XS.aload X59.here hx rfl (hb hby at_92) rfl rfl ?_
    show Steps p.tables e below (T59.setTop (mkF m 94 #[.val (.int p0), .val (.int p1), .val (.int p2), .val (.ref sa1), .val (.ref sa2), .val (.ref sa3), .val (.ref rr), .val (.ref mm), .val (.int (((Int32.ofNat cc1.length) + (Int32.ofNat cc2.length)) + (Int32.ofNat cc3.length)))] [(.ref mm)])) _
    refine XS.iconst X59.here hx rfl (hb hby at_94) ?_
    show Steps p.tables e below (T59.setTop (mkF m 95 #[.val (.int p0), .val (.int p1), .val (.int p2), .val (.ref sa1), .val (.ref sa2), .val (.ref sa3), .val (.ref rr), .val (.ref mm), .val (.int (((Int32.ofNat cc1.length) + (Int32.ofNat cc2.length)) + (Int32.ofNat cc3.length)))] [(.int (0 : Int32)), (.ref mm)])) _
    refine XS.aloadN X59.here hx rfl (hb hby at_95) rfl rfl ?_
    show Steps p.tables e below (T59.setTop (mkF m 96 #[.val (.int p0), .val (.int p1), .val (.int p2), .val (.ref sa1), .val (.ref sa2), .val (.ref sa3), .val (.ref rr), .val (.ref mm), .val (.int (((Int32.ofNat cc1.length) + (Int32.ofNat cc2.length)) + (Int32.ofNat cc3.length)))] [(.ref sa1), (.int (0 : Int32)), (.ref mm)])) _
    refine XS.aload X59.here hx rfl (hb hby at_96) rfl rfl ?_
    show Steps p.tables e below (T59.setTop (mkF m 98 #[.val (.int p0), .val (.int p1), .val (.int p2), .val (.ref sa1), .val (.ref sa2), .val (.ref sa3), .val (.ref rr), .val (.ref mm), .val (.int (((Int32.ofNat cc1.length) + (Int32.ofNat cc2.length)) + (Int32.ofNat cc3.length)))] [(.ref sa2), (.ref sa1), (.int (0 : Int32)), (.ref mm)])) _
    refine XS.aload X59.here hx rfl (hb hby at_98) rfl rfl ?_
    show Steps p.tables e below (T59.setTop (mkF m 100 #[.val (.int p0), .val (.int p1), .val (.int p2), .val (.ref sa1), .val (.ref sa2), .val (.ref sa3), .val (.ref rr), .val (.ref mm), .val (.int (((Int32.ofNat cc1.length) + (Int32.ofNat cc2.length)) + (Int32.ofNat cc3.length)))] [(.ref sa3), (.ref sa2), (.ref sa1), (.int (0 : Int32)), (.ref mm)])) _
    exact st62 _ kk
  have hd64 : ¬ ((1 : Int32) = (0 : Int32)) := by decide
  obtain ⟨_, _, ⟨T65, L65, k65, n65⟩, -, X65, ⟨Lc65, hQ65, l65, y65, z65⟩, st65⟩ := Jvm.LawKit.callS X62 hx (y := (⟨"com/example/hulse/hulse/failure/ExplanationOfPinLaw", "at", "(Ljava/lang/String;ILjava/lang/String;Ljava/lang/String;Ljava/lang/String;)Z"⟩ : MethodName)) hown (mvT hZ (hw _ (List.mem_of_getElem? (i := 179) rfl))) (mvT hZ (hw _ (List.mem_of_getElem? (i := 180) rfl))) (mvT hZ (hw _ (List.mem_of_getElem? (i := 2) rfl))) (mvT hZ (hw _ (List.mem_of_getElem? (i := 181) rfl))) (by decide) (backOf (W := 0) (own_at l Z a0 hw [] mm mb km sa1 sb1 sa2 sb2 sa3 sb3 ks1 ks2 ks3 cc1 cc2 cc3 (1 : Int32) G1 G3 T23.heap n0 fc28 xE0 xF0 xC0 xV0 fc30 fc31 fc32 fc33 fc37 fc38 fc39 fc40 fc43 fc44 fc45 fc46 hl1 hl2 hl3 lt1 lt2 lt3 (by decide) O2 P5 O4 rG3 fc34) hZ (hw _ (List.mem_of_getElem? (i := 181) rfl)) (hw _ (List.mem_of_getElem? (i := 2) rfl)) (by decide) (by decide)) (g := (mkF m 114 #[.val (.int p0), .val (.int p1), .val (.int p2), .val (.ref sa1), .val (.ref sa2), .val (.ref sa3), .val (.ref rr), .val (.ref mm), .val (.int (((Int32.ofNat cc1.length) + (Int32.ofNat cc2.length)) + (Int32.ofNat cc3.length)))] [(.ref sa3), (.ref sa2), (.ref sa1), (.int (1 : Int32)), (.ref mm)])) rfl (by rw [hml]; rfl) (argsL := [(.ref mm), (.int (1 : Int32)), (.ref sa1), (.ref sa2), (.ref sa3)]) (rest := []) (lenOf pd_595453421 rfl) rfl (by show 2 * 0 + _ ≤ _; exact Nat.le_of_eq rfl) (hb hby at_114) (fun _ _ => ⟨rfl, e62q, (by decide : 23 + 0 ≤ _), (by decide : 78 + 0 ≤ _)⟩)
  dsimp only [Pt.U, Pt.locs, Pt.cells, Pt.slots] at X65 l65 y65 z65 st65 hQ65
  subst l65 y65 z65
  obtain ⟨rfl, N65q, e65q⟩ := hQ65
  have N65 := Fr.app N62 N65q
  have pre66 : ∀ t, Steps p.tables e below (T65.setTop (mkF m 117 #[.val (.int p0), .val (.int p1), .val (.int p2), .val (.ref sa1), .val (.ref sa2), .val (.ref sa3), .val (.ref rr), .val (.ref mm), .val (.int (((Int32.ofNat cc1.length) + (Int32.ofNat cc2.length)) + (Int32.ofNat cc3.length)))] [(.int (1 : Int32))])) t → Steps p.tables e below (s₁.setTop (entryFrame m #[(.int p0), (.int p1), (.int p2)] maxLocals)) t := by
    intro t kk
    refine pre63 t ?_
    show Steps p.tables e below (T62.setTop (mkF m 103 #[.val (.int p0), .val (.int p1), .val (.int p2), .val (.ref sa1), .val (.ref sa2), .val (.ref sa3), .val (.ref rr), .val (.ref mm), .val (.int (((Int32.ofNat cc1.length) + (Int32.ofNat cc2.length)) + (Int32.ofNat cc3.length)))] [(.int (1 : Int32))])) _
    refine XS.ifNo X62.here hx rfl (hb hby at_103) rfl ((if0 _ _).trans (feq hd64).1) ?_
    show Steps p.tables e below (T62.setTop (mkF m 106 #[.val (.int p0), .val (.int p1), .val (.int p2), .val (.ref sa1), .val (.ref sa2), .val (.ref sa3), .val (.ref rr), .val (.ref mm), .val (.int (((Int32.ofNat cc1.length) + (Int32.ofNat cc2.length)) + (Int32.ofNat cc3.length)))] [])) _
    refine XS.aload X62.here hx rfl (hb hby at_106) rfl rfl ?_
    show Steps p.tables e below (T62.setTop (mkF m 108 #[.val (.int p0), .val (.int p1), .val (.int p2), .val (.ref sa1), .val (.ref sa2), .val (.ref sa3), .val (.ref rr), .val (.ref mm), .val (.int (((Int32.ofNat cc1.length) + (Int32.ofNat cc2.length)) + (Int32.ofNat cc3.length)))] [(.ref mm)])) _
    refine XS.iconst X62.here hx rfl (hb hby at_108) ?_
    show Steps p.tables e below (T62.setTop (mkF m 109 #[.val (.int p0), .val (.int p1), .val (.int p2), .val (.ref sa1), .val (.ref sa2), .val (.ref sa3), .val (.ref rr), .val (.ref mm), .val (.int (((Int32.ofNat cc1.length) + (Int32.ofNat cc2.length)) + (Int32.ofNat cc3.length)))] [(.int (1 : Int32)), (.ref mm)])) _
    refine XS.aloadN X62.here hx rfl (hb hby at_109) rfl rfl ?_
    show Steps p.tables e below (T62.setTop (mkF m 110 #[.val (.int p0), .val (.int p1), .val (.int p2), .val (.ref sa1), .val (.ref sa2), .val (.ref sa3), .val (.ref rr), .val (.ref mm), .val (.int (((Int32.ofNat cc1.length) + (Int32.ofNat cc2.length)) + (Int32.ofNat cc3.length)))] [(.ref sa1), (.int (1 : Int32)), (.ref mm)])) _
    refine XS.aload X62.here hx rfl (hb hby at_110) rfl rfl ?_
    show Steps p.tables e below (T62.setTop (mkF m 112 #[.val (.int p0), .val (.int p1), .val (.int p2), .val (.ref sa1), .val (.ref sa2), .val (.ref sa3), .val (.ref rr), .val (.ref mm), .val (.int (((Int32.ofNat cc1.length) + (Int32.ofNat cc2.length)) + (Int32.ofNat cc3.length)))] [(.ref sa2), (.ref sa1), (.int (1 : Int32)), (.ref mm)])) _
    refine XS.aload X62.here hx rfl (hb hby at_112) rfl rfl ?_
    show Steps p.tables e below (T62.setTop (mkF m 114 #[.val (.int p0), .val (.int p1), .val (.int p2), .val (.ref sa1), .val (.ref sa2), .val (.ref sa3), .val (.ref rr), .val (.ref mm), .val (.int (((Int32.ofNat cc1.length) + (Int32.ofNat cc2.length)) + (Int32.ofNat cc3.length)))] [(.ref sa3), (.ref sa2), (.ref sa1), (.int (1 : Int32)), (.ref mm)])) _
    exact st65 _ kk
  have hd67 : ¬ ((1 : Int32) = (0 : Int32)) := by decide
  obtain ⟨_, _, ⟨T68, L68, k68, n68⟩, -, X68, ⟨Lc68, hQ68, l68, y68, z68⟩, st68⟩ := Jvm.LawKit.callS X65 hx (y := (⟨"com/example/hulse/hulse/failure/ExplanationOfPinLaw", "at", "(Ljava/lang/String;ILjava/lang/String;Ljava/lang/String;Ljava/lang/String;)Z"⟩ : MethodName)) hown (mvT hZ (hw _ (List.mem_of_getElem? (i := 179) rfl))) (mvT hZ (hw _ (List.mem_of_getElem? (i := 180) rfl))) (mvT hZ (hw _ (List.mem_of_getElem? (i := 2) rfl))) (mvT hZ (hw _ (List.mem_of_getElem? (i := 181) rfl))) (by decide) (backOf (W := 0) (own_at l Z a0 hw [] mm mb km sa1 sb1 sa2 sb2 sa3 sb3 ks1 ks2 ks3 cc1 cc2 cc3 (2 : Int32) G1 G3 T23.heap n0 fc28 xE0 xF0 xC0 xV0 fc30 fc31 fc32 fc33 fc37 fc38 fc39 fc40 fc43 fc44 fc45 fc46 hl1 hl2 hl3 lt1 lt2 lt3 (by decide) O2 P5 O4 rG3 fc34) hZ (hw _ (List.mem_of_getElem? (i := 181) rfl)) (hw _ (List.mem_of_getElem? (i := 2) rfl)) (by decide) (by decide)) (g := (mkF m 128 #[.val (.int p0), .val (.int p1), .val (.int p2), .val (.ref sa1), .val (.ref sa2), .val (.ref sa3), .val (.ref rr), .val (.ref mm), .val (.int (((Int32.ofNat cc1.length) + (Int32.ofNat cc2.length)) + (Int32.ofNat cc3.length)))] [(.ref sa3), (.ref sa2), (.ref sa1), (.int (2 : Int32)), (.ref mm)])) rfl (by rw [hml]; rfl) (argsL := [(.ref mm), (.int (2 : Int32)), (.ref sa1), (.ref sa2), (.ref sa3)]) (rest := []) (lenOf pd_595453421 rfl) rfl (by show 2 * 0 + _ ≤ _; exact Nat.le_of_eq rfl) (hb hby at_128) (fun _ _ => ⟨rfl, e65q, (by decide : 23 + 0 ≤ _), (by decide : 78 + 0 ≤ _)⟩)
  dsimp only [Pt.U, Pt.locs, Pt.cells, Pt.slots] at X68 l68 y68 z68 st68 hQ68
  subst l68 y68 z68
  obtain ⟨rfl, N68q, e68q⟩ := hQ68
  have N68 := Fr.app N65 N68q
  have pre69 : ∀ t, Steps p.tables e below (T68.setTop (mkF m 131 #[.val (.int p0), .val (.int p1), .val (.int p2), .val (.ref sa1), .val (.ref sa2), .val (.ref sa3), .val (.ref rr), .val (.ref mm), .val (.int (((Int32.ofNat cc1.length) + (Int32.ofNat cc2.length)) + (Int32.ofNat cc3.length)))] [(.int (1 : Int32))])) t → Steps p.tables e below (s₁.setTop (entryFrame m #[(.int p0), (.int p1), (.int p2)] maxLocals)) t := by
    intro t kk
    refine pre66 t ?_
    show Steps p.tables e below (T65.setTop (mkF m 117 #[.val (.int p0), .val (.int p1), .val (.int p2), .val (.ref sa1), .val (.ref sa2), .val (.ref sa3), .val (.ref rr), .val (.ref mm), .val (.int (((Int32.ofNat cc1.length) + (Int32.ofNat cc2.length)) + (Int32.ofNat cc3.length)))] [(.int (1 : Int32))])) _
    refine XS.ifNo X65.here hx rfl (hb hby at_117) rfl ((if0 _ _).trans (feq hd67).1) ?_
    show Steps p.tables e below (T65.setTop (mkF m 120 #[.val (.int p0), .val (.int p1), .val (.int p2), .val (.ref sa1), .val (.ref sa2), .val (.ref sa3), .val (.ref rr), .val (.ref mm), .val (.int (((Int32.ofNat cc1.length) + (Int32.ofNat cc2.length)) + (Int32.ofNat cc3.length)))] [])) _
    refine XS.aload X65.here hx rfl (hb hby at_120) rfl rfl ?_
    show Steps p.tables e below (T65.setTop (mkF m 122 #[.val (.int p0), .val (.int p1), .val (.int p2), .val (.ref sa1), .val (.ref sa2), .val (.ref sa3), .val (.ref rr), .val (.ref mm), .val (.int (((Int32.ofNat cc1.length) + (Int32.ofNat cc2.length)) + (Int32.ofNat cc3.length)))] [(.ref mm)])) _
    refine XS.iconst X65.here hx rfl (hb hby at_122) ?_
    show Steps p.tables e below (T65.setTop (mkF m 123 #[.val (.int p0), .val (.int p1), .val (.int p2), .val (.ref sa1), .val (.ref sa2), .val (.ref sa3), .val (.ref rr), .val (.ref mm), .val (.int (((Int32.ofNat cc1.length) + (Int32.ofNat cc2.length)) + (Int32.ofNat cc3.length)))] [(.int (2 : Int32)), (.ref mm)])) _
    refine XS.aloadN X65.here hx rfl (hb hby at_123) rfl rfl ?_
    show Steps p.tables e below (T65.setTop (mkF m 124 #[.val (.int p0), .val (.int p1), .val (.int p2), .val (.ref sa1), .val (.ref sa2), .val (.ref sa3), .val (.ref rr), .val (.ref mm), .val (.int (((Int32.ofNat cc1.length) + (Int32.ofNat cc2.length)) + (Int32.ofNat cc3.length)))] [(.ref sa1), (.int (2 : Int32)), (.ref mm)])) _
    refine XS.aload X65.here hx rfl (hb hby at_124) rfl rfl ?_
    show Steps p.tables e below (T65.setTop (mkF m 126 #[.val (.int p0), .val (.int p1), .val (.int p2), .val (.ref sa1), .val (.ref sa2), .val (.ref sa3), .val (.ref rr), .val (.ref mm), .val (.int (((Int32.ofNat cc1.length) + (Int32.ofNat cc2.length)) + (Int32.ofNat cc3.length)))] [(.ref sa2), (.ref sa1), (.int (2 : Int32)), (.ref mm)])) _
    refine XS.aload X65.here hx rfl (hb hby at_126) rfl rfl ?_
    show Steps p.tables e below (T65.setTop (mkF m 128 #[.val (.int p0), .val (.int p1), .val (.int p2), .val (.ref sa1), .val (.ref sa2), .val (.ref sa3), .val (.ref rr), .val (.ref mm), .val (.int (((Int32.ofNat cc1.length) + (Int32.ofNat cc2.length)) + (Int32.ofNat cc3.length)))] [(.ref sa3), (.ref sa2), (.ref sa1), (.int (2 : Int32)), (.ref mm)])) _
    exact st68 _ kk
  have hd70 : ¬ ((1 : Int32) = (0 : Int32)) := by decide
  obtain ⟨_, _, ⟨T71, L71, k71, n71⟩, -, X71, ⟨Lc71, hQ71, l71, y71, z71⟩, st71⟩ := Jvm.LawKit.callS X68 hx (y := (⟨"com/example/hulse/hulse/failure/ExplanationOfPinLaw", "at", "(Ljava/lang/String;ILjava/lang/String;Ljava/lang/String;Ljava/lang/String;)Z"⟩ : MethodName)) hown (mvT hZ (hw _ (List.mem_of_getElem? (i := 179) rfl))) (mvT hZ (hw _ (List.mem_of_getElem? (i := 180) rfl))) (mvT hZ (hw _ (List.mem_of_getElem? (i := 2) rfl))) (mvT hZ (hw _ (List.mem_of_getElem? (i := 181) rfl))) (by decide) (backOf (W := 0) (own_at l Z a0 hw [] mm mb km sa1 sb1 sa2 sb2 sa3 sb3 ks1 ks2 ks3 cc1 cc2 cc3 (3 : Int32) G1 G3 T23.heap n0 fc28 xE0 xF0 xC0 xV0 fc30 fc31 fc32 fc33 fc37 fc38 fc39 fc40 fc43 fc44 fc45 fc46 hl1 hl2 hl3 lt1 lt2 lt3 (by decide) O2 P5 O4 rG3 fc34) hZ (hw _ (List.mem_of_getElem? (i := 181) rfl)) (hw _ (List.mem_of_getElem? (i := 2) rfl)) (by decide) (by decide)) (g := (mkF m 142 #[.val (.int p0), .val (.int p1), .val (.int p2), .val (.ref sa1), .val (.ref sa2), .val (.ref sa3), .val (.ref rr), .val (.ref mm), .val (.int (((Int32.ofNat cc1.length) + (Int32.ofNat cc2.length)) + (Int32.ofNat cc3.length)))] [(.ref sa3), (.ref sa2), (.ref sa1), (.int (3 : Int32)), (.ref mm)])) rfl (by rw [hml]; rfl) (argsL := [(.ref mm), (.int (3 : Int32)), (.ref sa1), (.ref sa2), (.ref sa3)]) (rest := []) (lenOf pd_595453421 rfl) rfl (by show 2 * 0 + _ ≤ _; exact Nat.le_of_eq rfl) (hb hby at_142) (fun _ _ => ⟨rfl, e68q, (by decide : 23 + 0 ≤ _), (by decide : 78 + 0 ≤ _)⟩)
  dsimp only [Pt.U, Pt.locs, Pt.cells, Pt.slots] at X71 l71 y71 z71 st71 hQ71
  subst l71 y71 z71
  obtain ⟨rfl, N71q, e71q⟩ := hQ71
  have N71 := Fr.app N68 N71q
  have pre72 : ∀ t, Steps p.tables e below (T71.setTop (mkF m 145 #[.val (.int p0), .val (.int p1), .val (.int p2), .val (.ref sa1), .val (.ref sa2), .val (.ref sa3), .val (.ref rr), .val (.ref mm), .val (.int (((Int32.ofNat cc1.length) + (Int32.ofNat cc2.length)) + (Int32.ofNat cc3.length)))] [(.int (1 : Int32))])) t → Steps p.tables e below (s₁.setTop (entryFrame m #[(.int p0), (.int p1), (.int p2)] maxLocals)) t := by
    intro t kk
    refine pre69 t ?_
    show Steps p.tables e below (T68.setTop (mkF m 131 #[.val (.int p0), .val (.int p1), .val (.int p2), .val (.ref sa1), .val (.ref sa2), .val (.ref sa3), .val (.ref rr), .val (.ref mm), .val (.int (((Int32.ofNat cc1.length) + (Int32.ofNat cc2.length)) + (Int32.ofNat cc3.length)))] [(.int (1 : Int32))])) _
    refine XS.ifNo X68.here hx rfl (hb hby at_131) rfl ((if0 _ _).trans (feq hd70).1) ?_
    show Steps p.tables e below (T68.setTop (mkF m 134 #[.val (.int p0), .val (.int p1), .val (.int p2), .val (.ref sa1), .val (.ref sa2), .val (.ref sa3), .val (.ref rr), .val (.ref mm), .val (.int (((Int32.ofNat cc1.length) + (Int32.ofNat cc2.length)) + (Int32.ofNat cc3.length)))] [])) _
    refine XS.aload X68.here hx rfl (hb hby at_134) rfl rfl ?_
    show Steps p.tables e below (T68.setTop (mkF m 136 #[.val (.int p0), .val (.int p1), .val (.int p2), .val (.ref sa1), .val (.ref sa2), .val (.ref sa3), .val (.ref rr), .val (.ref mm), .val (.int (((Int32.ofNat cc1.length) + (Int32.ofNat cc2.length)) + (Int32.ofNat cc3.length)))] [(.ref mm)])) _
    refine XS.iconst X68.here hx rfl (hb hby at_136) ?_
    show Steps p.tables e below (T68.setTop (mkF m 137 #[.val (.int p0), .val (.int p1), .val (.int p2), .val (.ref sa1), .val (.ref sa2), .val (.ref sa3), .val (.ref rr), .val (.ref mm), .val (.int (((Int32.ofNat cc1.length) + (Int32.ofNat cc2.length)) + (Int32.ofNat cc3.length)))] [(.int (3 : Int32)), (.ref mm)])) _
    refine XS.aloadN X68.here hx rfl (hb hby at_137) rfl rfl ?_
    show Steps p.tables e below (T68.setTop (mkF m 138 #[.val (.int p0), .val (.int p1), .val (.int p2), .val (.ref sa1), .val (.ref sa2), .val (.ref sa3), .val (.ref rr), .val (.ref mm), .val (.int (((Int32.ofNat cc1.length) + (Int32.ofNat cc2.length)) + (Int32.ofNat cc3.length)))] [(.ref sa1), (.int (3 : Int32)), (.ref mm)])) _
    refine XS.aload X68.here hx rfl (hb hby at_138) rfl rfl ?_
    show Steps p.tables e below (T68.setTop (mkF m 140 #[.val (.int p0), .val (.int p1), .val (.int p2), .val (.ref sa1), .val (.ref sa2), .val (.ref sa3), .val (.ref rr), .val (.ref mm), .val (.int (((Int32.ofNat cc1.length) + (Int32.ofNat cc2.length)) + (Int32.ofNat cc3.length)))] [(.ref sa2), (.ref sa1), (.int (3 : Int32)), (.ref mm)])) _
    refine XS.aload X68.here hx rfl (hb hby at_140) rfl rfl ?_
    show Steps p.tables e below (T68.setTop (mkF m 142 #[.val (.int p0), .val (.int p1), .val (.int p2), .val (.ref sa1), .val (.ref sa2), .val (.ref sa3), .val (.ref rr), .val (.ref mm), .val (.int (((Int32.ofNat cc1.length) + (Int32.ofNat cc2.length)) + (Int32.ofNat cc3.length)))] [(.ref sa3), (.ref sa2), (.ref sa1), (.int (3 : Int32)), (.ref mm)])) _
    exact st71 _ kk
  have hd73 : ¬ ((1 : Int32) = (0 : Int32)) := by decide
  obtain ⟨_, _, ⟨T74, L74, k74, n74⟩, -, X74, ⟨Lc74, hQ74, l74, y74, z74⟩, st74⟩ := Jvm.LawKit.callS X71 hx (y := (⟨"com/example/hulse/hulse/failure/ExplanationOfPinLaw", "at", "(Ljava/lang/String;ILjava/lang/String;Ljava/lang/String;Ljava/lang/String;)Z"⟩ : MethodName)) hown (mvT hZ (hw _ (List.mem_of_getElem? (i := 179) rfl))) (mvT hZ (hw _ (List.mem_of_getElem? (i := 180) rfl))) (mvT hZ (hw _ (List.mem_of_getElem? (i := 2) rfl))) (mvT hZ (hw _ (List.mem_of_getElem? (i := 181) rfl))) (by decide) (backOf (W := 0) (own_at l Z a0 hw [] mm mb km sa1 sb1 sa2 sb2 sa3 sb3 ks1 ks2 ks3 cc1 cc2 cc3 (4 : Int32) G1 G3 T23.heap n0 fc28 xE0 xF0 xC0 xV0 fc30 fc31 fc32 fc33 fc37 fc38 fc39 fc40 fc43 fc44 fc45 fc46 hl1 hl2 hl3 lt1 lt2 lt3 (by decide) O2 P5 O4 rG3 fc34) hZ (hw _ (List.mem_of_getElem? (i := 181) rfl)) (hw _ (List.mem_of_getElem? (i := 2) rfl)) (by decide) (by decide)) (g := (mkF m 156 #[.val (.int p0), .val (.int p1), .val (.int p2), .val (.ref sa1), .val (.ref sa2), .val (.ref sa3), .val (.ref rr), .val (.ref mm), .val (.int (((Int32.ofNat cc1.length) + (Int32.ofNat cc2.length)) + (Int32.ofNat cc3.length)))] [(.ref sa3), (.ref sa2), (.ref sa1), (.int (4 : Int32)), (.ref mm)])) rfl (by rw [hml]; rfl) (argsL := [(.ref mm), (.int (4 : Int32)), (.ref sa1), (.ref sa2), (.ref sa3)]) (rest := []) (lenOf pd_595453421 rfl) rfl (by show 2 * 0 + _ ≤ _; exact Nat.le_of_eq rfl) (hb hby at_156) (fun _ _ => ⟨rfl, e71q, (by decide : 23 + 0 ≤ _), (by decide : 78 + 0 ≤ _)⟩)
  dsimp only [Pt.U, Pt.locs, Pt.cells, Pt.slots] at X74 l74 y74 z74 st74 hQ74
  subst l74 y74 z74
  obtain ⟨rfl, N74q, e74q⟩ := hQ74
  have N74 := Fr.app N71 N74q
  have pre75 : ∀ t, Steps p.tables e below (T74.setTop (mkF m 159 #[.val (.int p0), .val (.int p1), .val (.int p2), .val (.ref sa1), .val (.ref sa2), .val (.ref sa3), .val (.ref rr), .val (.ref mm), .val (.int (((Int32.ofNat cc1.length) + (Int32.ofNat cc2.length)) + (Int32.ofNat cc3.length)))] [(.int (1 : Int32))])) t → Steps p.tables e below (s₁.setTop (entryFrame m #[(.int p0), (.int p1), (.int p2)] maxLocals)) t := by
    intro t kk
    refine pre72 t ?_
    show Steps p.tables e below (T71.setTop (mkF m 145 #[.val (.int p0), .val (.int p1), .val (.int p2), .val (.ref sa1), .val (.ref sa2), .val (.ref sa3), .val (.ref rr), .val (.ref mm), .val (.int (((Int32.ofNat cc1.length) + (Int32.ofNat cc2.length)) + (Int32.ofNat cc3.length)))] [(.int (1 : Int32))])) _
    refine XS.ifNo X71.here hx rfl (hb hby at_145) rfl ((if0 _ _).trans (feq hd73).1) ?_
    show Steps p.tables e below (T71.setTop (mkF m 148 #[.val (.int p0), .val (.int p1), .val (.int p2), .val (.ref sa1), .val (.ref sa2), .val (.ref sa3), .val (.ref rr), .val (.ref mm), .val (.int (((Int32.ofNat cc1.length) + (Int32.ofNat cc2.length)) + (Int32.ofNat cc3.length)))] [])) _
    refine XS.aload X71.here hx rfl (hb hby at_148) rfl rfl ?_
    show Steps p.tables e below (T71.setTop (mkF m 150 #[.val (.int p0), .val (.int p1), .val (.int p2), .val (.ref sa1), .val (.ref sa2), .val (.ref sa3), .val (.ref rr), .val (.ref mm), .val (.int (((Int32.ofNat cc1.length) + (Int32.ofNat cc2.length)) + (Int32.ofNat cc3.length)))] [(.ref mm)])) _
    refine XS.iconst X71.here hx rfl (hb hby at_150) ?_
    show Steps p.tables e below (T71.setTop (mkF m 151 #[.val (.int p0), .val (.int p1), .val (.int p2), .val (.ref sa1), .val (.ref sa2), .val (.ref sa3), .val (.ref rr), .val (.ref mm), .val (.int (((Int32.ofNat cc1.length) + (Int32.ofNat cc2.length)) + (Int32.ofNat cc3.length)))] [(.int (4 : Int32)), (.ref mm)])) _
    refine XS.aloadN X71.here hx rfl (hb hby at_151) rfl rfl ?_
    show Steps p.tables e below (T71.setTop (mkF m 152 #[.val (.int p0), .val (.int p1), .val (.int p2), .val (.ref sa1), .val (.ref sa2), .val (.ref sa3), .val (.ref rr), .val (.ref mm), .val (.int (((Int32.ofNat cc1.length) + (Int32.ofNat cc2.length)) + (Int32.ofNat cc3.length)))] [(.ref sa1), (.int (4 : Int32)), (.ref mm)])) _
    refine XS.aload X71.here hx rfl (hb hby at_152) rfl rfl ?_
    show Steps p.tables e below (T71.setTop (mkF m 154 #[.val (.int p0), .val (.int p1), .val (.int p2), .val (.ref sa1), .val (.ref sa2), .val (.ref sa3), .val (.ref rr), .val (.ref mm), .val (.int (((Int32.ofNat cc1.length) + (Int32.ofNat cc2.length)) + (Int32.ofNat cc3.length)))] [(.ref sa2), (.ref sa1), (.int (4 : Int32)), (.ref mm)])) _
    refine XS.aload X71.here hx rfl (hb hby at_154) rfl rfl ?_
    show Steps p.tables e below (T71.setTop (mkF m 156 #[.val (.int p0), .val (.int p1), .val (.int p2), .val (.ref sa1), .val (.ref sa2), .val (.ref sa3), .val (.ref rr), .val (.ref mm), .val (.int (((Int32.ofNat cc1.length) + (Int32.ofNat cc2.length)) + (Int32.ofNat cc3.length)))] [(.ref sa3), (.ref sa2), (.ref sa1), (.int (4 : Int32)), (.ref mm)])) _
    exact st74 _ kk
  have hd76 : ¬ ((1 : Int32) = (0 : Int32)) := by decide
  obtain ⟨_, _, ⟨T77, L77, k77, n77⟩, -, X77, ⟨Lc77, hQ77, l77, y77, z77⟩, st77⟩ := Jvm.LawKit.callS X74 hx (y := (⟨"com/example/hulse/hulse/failure/ExplanationOfPinLaw", "at", "(Ljava/lang/String;ILjava/lang/String;Ljava/lang/String;Ljava/lang/String;)Z"⟩ : MethodName)) hown (mvT hZ (hw _ (List.mem_of_getElem? (i := 179) rfl))) (mvT hZ (hw _ (List.mem_of_getElem? (i := 180) rfl))) (mvT hZ (hw _ (List.mem_of_getElem? (i := 2) rfl))) (mvT hZ (hw _ (List.mem_of_getElem? (i := 181) rfl))) (by decide) (backOf (W := 0) (own_at l Z a0 hw [] mm mb km sa1 sb1 sa2 sb2 sa3 sb3 ks1 ks2 ks3 cc1 cc2 cc3 (5 : Int32) G1 G3 T23.heap n0 fc28 xE0 xF0 xC0 xV0 fc30 fc31 fc32 fc33 fc37 fc38 fc39 fc40 fc43 fc44 fc45 fc46 hl1 hl2 hl3 lt1 lt2 lt3 (by decide) O2 P5 O4 rG3 fc34) hZ (hw _ (List.mem_of_getElem? (i := 181) rfl)) (hw _ (List.mem_of_getElem? (i := 2) rfl)) (by decide) (by decide)) (g := (mkF m 170 #[.val (.int p0), .val (.int p1), .val (.int p2), .val (.ref sa1), .val (.ref sa2), .val (.ref sa3), .val (.ref rr), .val (.ref mm), .val (.int (((Int32.ofNat cc1.length) + (Int32.ofNat cc2.length)) + (Int32.ofNat cc3.length)))] [(.ref sa3), (.ref sa2), (.ref sa1), (.int (5 : Int32)), (.ref mm)])) rfl (by rw [hml]; rfl) (argsL := [(.ref mm), (.int (5 : Int32)), (.ref sa1), (.ref sa2), (.ref sa3)]) (rest := []) (lenOf pd_595453421 rfl) rfl (by show 2 * 0 + _ ≤ _; exact Nat.le_of_eq rfl) (hb hby at_170) (fun _ _ => ⟨rfl, e74q, (by decide : 23 + 0 ≤ _), (by decide : 78 + 0 ≤ _)⟩)
  dsimp only [Pt.U, Pt.locs, Pt.cells, Pt.slots] at X77 l77 y77 z77 st77 hQ77
  subst l77 y77 z77
  obtain ⟨rfl, N77q, e77q⟩ := hQ77
  have N77 := Fr.app N74 N77q
  have pre78 : ∀ t, Steps p.tables e below (T77.setTop (mkF m 173 #[.val (.int p0), .val (.int p1), .val (.int p2), .val (.ref sa1), .val (.ref sa2), .val (.ref sa3), .val (.ref rr), .val (.ref mm), .val (.int (((Int32.ofNat cc1.length) + (Int32.ofNat cc2.length)) + (Int32.ofNat cc3.length)))] [(.int (1 : Int32))])) t → Steps p.tables e below (s₁.setTop (entryFrame m #[(.int p0), (.int p1), (.int p2)] maxLocals)) t := by
    intro t kk
    refine pre75 t ?_
    show Steps p.tables e below (T74.setTop (mkF m 159 #[.val (.int p0), .val (.int p1), .val (.int p2), .val (.ref sa1), .val (.ref sa2), .val (.ref sa3), .val (.ref rr), .val (.ref mm), .val (.int (((Int32.ofNat cc1.length) + (Int32.ofNat cc2.length)) + (Int32.ofNat cc3.length)))] [(.int (1 : Int32))])) _
    refine XS.ifNo X74.here hx rfl (hb hby at_159) rfl ((if0 _ _).trans (feq hd76).1) ?_
    show Steps p.tables e below (T74.setTop (mkF m 162 #[.val (.int p0), .val (.int p1), .val (.int p2), .val (.ref sa1), .val (.ref sa2), .val (.ref sa3), .val (.ref rr), .val (.ref mm), .val (.int (((Int32.ofNat cc1.length) + (Int32.ofNat cc2.length)) + (Int32.ofNat cc3.length)))] [])) _
    refine XS.aload X74.here hx rfl (hb hby at_162) rfl rfl ?_
    show Steps p.tables e below (T74.setTop (mkF m 164 #[.val (.int p0), .val (.int p1), .val (.int p2), .val (.ref sa1), .val (.ref sa2), .val (.ref sa3), .val (.ref rr), .val (.ref mm), .val (.int (((Int32.ofNat cc1.length) + (Int32.ofNat cc2.length)) + (Int32.ofNat cc3.length)))] [(.ref mm)])) _
    refine XS.iconst X74.here hx rfl (hb hby at_164) ?_
    show Steps p.tables e below (T74.setTop (mkF m 165 #[.val (.int p0), .val (.int p1), .val (.int p2), .val (.ref sa1), .val (.ref sa2), .val (.ref sa3), .val (.ref rr), .val (.ref mm), .val (.int (((Int32.ofNat cc1.length) + (Int32.ofNat cc2.length)) + (Int32.ofNat cc3.length)))] [(.int (5 : Int32)), (.ref mm)])) _
    refine XS.aloadN X74.here hx rfl (hb hby at_165) rfl rfl ?_
    show Steps p.tables e below (T74.setTop (mkF m 166 #[.val (.int p0), .val (.int p1), .val (.int p2), .val (.ref sa1), .val (.ref sa2), .val (.ref sa3), .val (.ref rr), .val (.ref mm), .val (.int (((Int32.ofNat cc1.length) + (Int32.ofNat cc2.length)) + (Int32.ofNat cc3.length)))] [(.ref sa1), (.int (5 : Int32)), (.ref mm)])) _
    refine XS.aload X74.here hx rfl (hb hby at_166) rfl rfl ?_
    show Steps p.tables e below (T74.setTop (mkF m 168 #[.val (.int p0), .val (.int p1), .val (.int p2), .val (.ref sa1), .val (.ref sa2), .val (.ref sa3), .val (.ref rr), .val (.ref mm), .val (.int (((Int32.ofNat cc1.length) + (Int32.ofNat cc2.length)) + (Int32.ofNat cc3.length)))] [(.ref sa2), (.ref sa1), (.int (5 : Int32)), (.ref mm)])) _
    refine XS.aload X74.here hx rfl (hb hby at_168) rfl rfl ?_
    show Steps p.tables e below (T74.setTop (mkF m 170 #[.val (.int p0), .val (.int p1), .val (.int p2), .val (.ref sa1), .val (.ref sa2), .val (.ref sa3), .val (.ref rr), .val (.ref mm), .val (.int (((Int32.ofNat cc1.length) + (Int32.ofNat cc2.length)) + (Int32.ofNat cc3.length)))] [(.ref sa3), (.ref sa2), (.ref sa1), (.int (5 : Int32)), (.ref mm)])) _
    exact st77 _ kk
  have hd79 : ¬ ((1 : Int32) = (0 : Int32)) := by decide
  have fc80 := (Nat.le_trans hk11 K23.1)
  obtain ⟨fs, hr, hrun, hended, hRW⟩ := X77.leaveW hS11 (by rw [e77q]; exact fc80) (v := some (.int (1 : Int32))) (fun h => by rw [Bd.returns] at h; cases h)
  have CRe := CHr.trans CR25 (CHv.at X77 hZ hEL CR25.1)
  refine ⟨_, _, pre78 _ ?_, hrun, hended, _, _, rfl, ?_, ?_, hRW.1, hRW.2.1, hRW.2.2.1, hRW.2.2.2.mono (by decide) (by decide)⟩
  · show Steps p.tables e below (T77.setTop (mkF m 173 #[.val (.int p0), .val (.int p1), .val (.int p2), .val (.ref sa1), .val (.ref sa2), .val (.ref sa3), .val (.ref rr), .val (.ref mm), .val (.int (((Int32.ofNat cc1.length) + (Int32.ofNat cc2.length)) + (Int32.ofNat cc3.length)))] [(.int (1 : Int32))])) _
    refine XS.ifNo X77.here hx rfl (hb hby at_173) rfl ((if0 _ _).trans (feq hd79).1) ?_
    show Steps p.tables e below (T77.setTop (mkF m 176 #[.val (.int p0), .val (.int p1), .val (.int p2), .val (.ref sa1), .val (.ref sa2), .val (.ref sa3), .val (.ref rr), .val (.ref mm), .val (.int (((Int32.ofNat cc1.length) + (Int32.ofNat cc2.length)) + (Int32.ofNat cc3.length)))] [])) _
    refine XS.iconst X77.here hx rfl (hb hby at_176) ?_
    show Steps p.tables e below (T77.setTop (mkF m 177 #[.val (.int p0), .val (.int p1), .val (.int p2), .val (.ref sa1), .val (.ref sa2), .val (.ref sa3), .val (.ref rr), .val (.ref mm), .val (.int (((Int32.ofNat cc1.length) + (Int32.ofNat cc2.length)) + (Int32.ofNat cc3.length)))] [(.int (1 : Int32))])) _
    refine XS.goto X77.here hx rfl (pc0 := 177) (pc' := 181) rfl (hb hby at_177) (by decide) (by decide) ?_
    show Steps p.tables e below (T77.setTop (mkF m 181 #[.val (.int p0), .val (.int p1), .val (.int p2), .val (.ref sa1), .val (.ref sa2), .val (.ref sa3), .val (.ref rr), .val (.ref mm), .val (.int (((Int32.ofNat cc1.length) + (Int32.ofNat cc2.length)) + (Int32.ofNat cc3.length)))] [(.int (1 : Int32))])) _
    exact retN X77 hx (t := .boolean) Bd.returns (by simp) (hb hby at_181) hr
  · show Q_own_law Z p0 p1 p2 G1 G3 h0 n0 _ T77.heap _
    rw [e77q]
    exact ⟨rfl, N77⟩
  · show CHr Z own_EL s.vm s.heap T77.vm T77.heap
    rw [hh]
    rw [e77q]
    exact CRe
set_option maxRecDepth 65536 in
set_option maxHeartbeats 40000000 in
theorem comes_1 {Post : Tables → Env → Array Value → State → Outcome → State → Prop} (hpost : ∀ tb e args s v u, (limb_1_1.after args s (.returned v) u = true ∧ limb_1_2.after args s (.returned v) u = true ∧ True) → ReturnedEndW s (.returned v) u (Jvm.fieldLocs frame_1_writes args s ++ Jvm.arrayLocs frame_1_arrays args s ++ Jvm.staticLocs frame_1_statics s) 40 1216 → Post tb e args s (.returned v) u) :
    ArmFor flags0 classFile x code maxLocals ret World_1 tables_1 room_1 Calls_1 rest_1 Pre_1 Post := by
  intro l hfl _ _ p e ha hc hk s m args below hf hA hF happ hP
  obtain ⟨hcalls, hrest, hpre⟩ := hP
  obtain ⟨-, -, -, hnamed, -, -, -, hat⟩ := (Spec.applies_iff hf).mp happ
  obtain ⟨hg, hn⟩ := and_e (Cond.before_iff.mp (show (Jvm.Cond.and given_1 narrow_1).before args s = true from hpre))
  obtain ⟨h1, u0⟩ := and_e hg
  obtain ⟨v0, u1⟩ := and_e u0
  obtain ⟨v1, u2⟩ := and_e u1
  obtain ⟨w0, w1, w2, rfl⟩ : ∃ w0 w1 w2 : Value, args = #[w0, w1, w2] := by
    have hs : args.size = 3 := by simpa [Cond.value, given_1] using h1
    obtain ⟨L⟩ := args
    match L, hs with
    | [w0, w1, w2], _ => exact ⟨w0, w1, w2, rfl⟩
  have hw := fun d (hd : d ∈ tables_1) => atoms_spec (ws := Jvm.Cond.code x code maxLocals ret :: tables_1) hat d (List.mem_cons_of_mem _ hd)
  obtain ⟨hsets, hown0⟩ := atoms_of _ (rest_1_c_eq ▸ (show rest_1_c.before _ s = true from hrest))
  have hfit : Fit s := fun {y c} hc i hi => by
    obtain ⟨ha, rfl⟩ := Array.getElem?_eq_some_iff.mp hc
    have q := List.all_eq_true.mp ((Array.all_eq_true_iff_forall_mem.mp hF) _ (Array.getElem_mem ha)) i (List.mem_range.mpr hi)
    simpa [Array.getElem?_eq_getElem hi] using q
  obtain ⟨i0, ei0⟩ := is_v v0
  obtain rfl : w0 = (.int i0) := Option.some.inj ei0
  obtain ⟨i1, ei1⟩ := is_v v1
  obtain rfl : w1 = (.int i1) := Option.some.inj ei1
  obtain ⟨i2, ei2⟩ := is_v u2
  obtain rfl : w2 = (.int i2) := Option.some.inj ei2
  have n5 := not_v (Cond.before_iff.mp (hsets _ (List.mem_of_getElem? (i := 2) rfl)))
  obtain ⟨iG, eG⟩ := is_v (Cond.before_iff.mp (hsets _ (List.mem_of_getElem? (i := 1) rfl)))
  have SG : Sta s s.heap "java/lang/String" "COMPACT_STRINGS" "Z" (.int iG) := Sta.start eG (Or.inl (hsets _ (List.mem_of_getElem? (i := 0) rfl)))
  have cG : ¬ (iG = (0 : Int32)) := gotF (Cond.eq_ints eG (Term.int_eval (0))) n5
  obtain ⟨vF, eF, rF⟩ := isR_v (Cond.before_iff.mp (hsets _ (List.mem_of_getElem? (i := 8) rfl)))
  have SF : Sta s s.heap "jdk/internal/util/Preconditions" "SIOOBE_FORMATTER" "Ljava/util/function/BiFunction;" vF := Sta.start eF (Or.inl (hsets _ (List.mem_of_getElem? (i := 7) rfl)))
  have hC : CHv s own_EL s.vm s.heap := CHv.start (own_hEL hw) (fun p hp => hcalls.1 p hp) (hsets _ (List.mem_of_getElem? (i := 2) rfl)) (own_wS hw _ (by simp [Bundle.stringAtoms])) (own_wS hw _ (by simp [Bundle.stringAtoms, Bundle.sN]))
  obtain ⟨n, o, h1, h2, h3, _, L, rfl, ⟨rfl, N⟩, -, hq⟩ := own_law l s _ hw tables_1 i0 i1 i2 iG vF s.heap s.heap.size (Nat.le_refl _) SG cG SF rF (Old.start s) p e ha hc hk s m _ below hf ((Spec.applies_iff_loose hf).mp happ).1 ⟨rfl, State.Warmed39.refl s, rfl, hC⟩ trivial
  refine ⟨n, _, h1, h2, h3, hpost _ _ _ _ _ _ ⟨Cond.after_iff.mpr rfl, Cond.after_iff.mpr (eq_i res_at (Term.int_eval (1)) rfl), trivial⟩ ⟨hq.1, hq.2.1, hq.2.2.1, (hq.2.2.2.sift fun y hy => Or.inr (N y hy)).mono (by decide) (by decide)⟩⟩
theorem main_1_1 : Claimed_1_1 := comes_1 fun _ _ _ _ _ _ h hF => ⟨h.1, hF⟩
theorem main_1_2 : Claimed_1_2 := comes_1 fun _ _ _ _ _ _ h hF => ⟨h.2.1, hF⟩
end Jvm.Pilot.@@N@@
namespace Jvm.Pilot.@@N@@
open Jvm Jvm.ClassFile Sem Op Lib Jvm.Free Jvm.Stand Jvm.Pilot.@@N@@.Jvm.D
/-! MADE BY PROGRAM (witnessworld.py) out of the Statement's table words and the real class files: 27 classes; the members and pool entries that the words name. The judged class is class 1, her method 1. -/
namespace start1
open Jvm.ClassFile
def u (s : String) : CpInfo := .utf8 (stringToUtf16 s)
/-- a pool by its gaps: so many unusable entries, then the entry; so many at the end -/
def gap : Nat → List CpInfo → List CpInfo
  | 0, r => r
  | n + 1, r => .unusable :: gap n r
def poolList (es : List (Nat × CpInfo)) (last : Nat) : List CpInfo := es.foldr (fun e r => gap e.1 (e.2 :: r)) (gap last [])
def pool (es : List (Nat × CpInfo)) (last : Nat) : Array CpInfo := ⟨poolList es last⟩
def fileOf (pool : Array CpInfo) (this : Nat) (attrs : Array Attribute := #[]) (ms : Array MethodInfo := #[]) (fl : Nat := 33) (sup : Nat := 0) (ifs : Array Nat := #[]) (fds : Array FieldInfo := #[]) : ClassFile where
  minorVersion := 0
  majorVersion := 65
  constantPool := pool
  accessFlags := fl
  thisClass := this
  superClass := sup
  interfaces := ifs
  fields := fds
  methods := ms
  attributes := attrs
def plain (name : String) (sup : Option ClassId) : Class where
  name := name
  kind := .ordinary
  loader := none
  accessFlags := 33
  super := sup
  interfaces := #[]
  cf := none
  fields := #[]
  methods := #[]
  instanceTypes := #[]
  staticTypes := #[]
  resolved := #[]
  callSites := []
  init := .initialized
  statics := none
  mirror := none

def pool0 : Array CpInfo := pool [(5, u "<init>"), (0, u "()V"), (1, .class_ 10), (1, u "java/lang/Object")] 113

def k0c0 : Code := { maxStack := 0, maxLocals := 1, code := object_method_1_code, exceptionTable := #[], attributes := #[] }
def k0m0 : Method := { name := "<init>", desc := "()V", sig := { parameters := [], returnType := none }, accessFlags := 1, code := some k0c0 }
/-- java/lang/Object -/
def k0 : Class := { plain "java/lang/Object" none with
  accessFlags := 33
  interfaces := #[]
  cf := some (fileOf pool0 8 #[] #[{ accessFlags := 1, nameIndex := 5, descriptorIndex := 6, attributes := #[] }] 33 0 #[] #[])
  fields := #[]
  methods := #[k0m0]
  instanceTypes := #[]
  staticTypes := #[]
  resolved := Array.replicate 124 none
  statics := none }

def pool1 : Array CpInfo := pool [(2, .class_ 4), (1, u "java/lang/Object"), (0, u "<init>"), (0, u "()V"), (0, .methodref 8 9), (0, .class_ 10), (0, .nameAndType 11 12), (0, u "com/example/hulse/hulse/failure/ExplanationOfPinLaw"), (0, u "mk"), (0, u "(I)Ljava/lang/String;"), (0, .methodref 14 15), (0, .class_ 16), (0, .nameAndType 17 18), (0, u "com/example/hulse/hulse/failure/Explanation"), (0, u "of"), (0, u "(Ljava/lang/String;Ljava/lang/String;Ljava/lang/String;)Lcom/example/hulse/hulse/failure/Explanation;"), (0, .methodref 14 20), (0, .nameAndType 21 22), (0, u "message"), (0, u "()Ljava/lang/String;"), (0, .methodref 24 25), (0, .class_ 26), (0, .nameAndType 27 28), (0, u "java/lang/String"), (0, u "length"), (0, u "()I"), (0, .methodref 14 30), (0, .nameAndType 31 22), (0, u "description"), (0, .methodref 24 33), (0, .nameAndType 34 35), (0, u "equals"), (0, u "(Ljava/lang/Object;)Z"), (0, .methodref 14 37), (0, .nameAndType 38 22), (0, u "action"), (0, .methodref 8 40), (0, .nameAndType 41 42), (0, u "at"), (0, u "(Ljava/lang/String;ILjava/lang/String;Ljava/lang/String;Ljava/lang/String;)Z"), (0, .methodref 24 44), (0, .nameAndType 5 45), (0, u "([C)V"), (0, .methodref 24 47), (0, .nameAndType 48 49), (0, u "charAt"), (0, u "(I)C"), (2, u "law"), (0, u "(III)Z")] 3

def k1m0 : Method := { name := "<init>", desc := "()V", sig := { parameters := [], returnType := none }, accessFlags := 1, code := none }
def k1c1 : Code := { maxStack := 5, maxLocals := 9, code := code, exceptionTable := #[], attributes := #[] }
def k1m1 : Method := { name := "law", desc := "(III)Z", sig := { parameters := [.int, .int, .int], returnType := some .boolean }, accessFlags := 9, code := some k1c1 }
def k1c2 : Code := { maxStack := 6, maxLocals := 4, code := method_3_code, exceptionTable := #[], attributes := #[] }
def k1m2 : Method := { name := "mk", desc := "(I)Ljava/lang/String;", sig := { parameters := [.int], returnType := some (.object "java/lang/String") }, accessFlags := 10, code := some k1c2 }
def k1c3 : Code := { maxStack := 3, maxLocals := 8, code := method_4_code, exceptionTable := #[], attributes := #[] }
def k1m3 : Method := { name := "at", desc := "(Ljava/lang/String;ILjava/lang/String;Ljava/lang/String;Ljava/lang/String;)Z", sig := { parameters := [(.object "java/lang/String"), .int, (.object "java/lang/String"), (.object "java/lang/String"), (.object "java/lang/String")], returnType := some .boolean }, accessFlags := 10, code := some k1c3 }
/-- com/example/hulse/hulse/failure/ExplanationOfPinLaw -/
def k1 : Class := { plain "com/example/hulse/hulse/failure/ExplanationOfPinLaw" (some 0) with
  accessFlags := 49
  interfaces := #[]
  cf := some (fileOf pool1 8 #[] #[{ accessFlags := 1, nameIndex := 5, descriptorIndex := 6, attributes := #[] }, { accessFlags := 9, nameIndex := 52, descriptorIndex := 53, attributes := #[] }, { accessFlags := 10, nameIndex := 11, descriptorIndex := 12, attributes := #[] }, { accessFlags := 10, nameIndex := 41, descriptorIndex := 42, attributes := #[] }] 49 2 #[] #[])
  fields := #[]
  methods := #[k1m0, k1m1, k1m2, k1m3]
  instanceTypes := #[]
  staticTypes := #[]
  resolved := Array.replicate 57 none
  statics := none }

def pool2 : Array CpInfo := pool [(1, .class_ 2), (0, u "java/io/Serializable"), (0, .class_ 4), (0, u "java/lang/Object")] 2

/-- java/io/Serializable -/
def k2 : Class := { plain "java/io/Serializable" (some 0) with
  accessFlags := 1537
  interfaces := #[]
  cf := some (fileOf pool2 1 #[] #[] 1537 3 #[] #[])
  fields := #[]
  methods := #[]
  instanceTypes := #[]
  staticTypes := #[]
  resolved := Array.replicate 7 none
  statics := none }

def pool3 : Array CpInfo := pool [(1, .class_ 2), (0, u "java/lang/Comparable"), (0, .class_ 4), (0, u "java/lang/Object")] 7

/-- java/lang/Comparable -/
def k3 : Class := { plain "java/lang/Comparable" (some 0) with
  accessFlags := 1537
  interfaces := #[]
  cf := some (fileOf pool3 1 #[] #[] 1537 3 #[] #[])
  fields := #[]
  methods := #[]
  instanceTypes := #[]
  staticTypes := #[]
  resolved := Array.replicate 12 none
  statics := none }

def pool4 : Array CpInfo := pool [(2, .class_ 4), (1, u "java/lang/CharSequence"), (42, .class_ 48), (0, u "java/lang/CharSequence$1CodePointIterator"), (10, .class_ 60), (0, u "java/lang/CharSequence$1CharIterator"), (5, .class_ 67), (0, u "java/lang/Object")] 63

/-- java/lang/CharSequence -/
def k4 : Class := { plain "java/lang/CharSequence" (some 0) with
  accessFlags := 1537
  interfaces := #[]
  cf := some (fileOf pool4 2 #[.nestMembers #[47, 59]] #[] 1537 66 #[] #[])
  fields := #[]
  methods := #[]
  instanceTypes := #[]
  staticTypes := #[]
  resolved := Array.replicate 131 none
  statics := none }

def pool5 : Array CpInfo := pool [(1, .class_ 2), (0, u "java/lang/constant/Constable"), (0, .class_ 4), (0, u "java/lang/Object")] 6

/-- java/lang/constant/Constable -/
def k5 : Class := { plain "java/lang/constant/Constable" (some 0) with
  accessFlags := 1537
  interfaces := #[]
  cf := some (fileOf pool5 1 #[] #[] 1537 3 #[] #[])
  fields := #[]
  methods := #[]
  instanceTypes := #[]
  staticTypes := #[]
  resolved := Array.replicate 11 none
  statics := none }

def pool6 : Array CpInfo := pool [(1, .class_ 2), (0, u "java/lang/constant/ConstantDesc"), (0, .class_ 4), (0, u "java/lang/Object")] 32

/-- java/lang/constant/ConstantDesc -/
def k6 : Class := { plain "java/lang/constant/ConstantDesc" (some 0) with
  accessFlags := 1537
  interfaces := #[]
  cf := some (fileOf pool6 1 #[] #[] 1537 3 #[] #[])
  fields := #[]
  methods := #[]
  instanceTypes := #[]
  staticTypes := #[]
  resolved := Array.replicate 37 none
  statics := none }

def pool7 : Array CpInfo := pool [(1, .methodref 2 3), (0, .class_ 4), (0, .nameAndType 5 6), (0, u "java/lang/Object"), (0, u "<init>"), (0, u "()V"), (0, .string 8), (0, u ""), (0, .fieldref 10 11), (0, .class_ 12), (0, .nameAndType 13 14), (0, u "java/lang/String"), (0, u "value"), (0, u "[B"), (0, .fieldref 10 16), (0, .nameAndType 17 18), (0, u "coder"), (0, u "B"), (2, u "hash"), (0, u "I"), (2, u "hashIsZero"), (0, u "Z"), (0, .methodref 10 28), (0, .nameAndType 5 29), (0, u "([CIILjava/lang/Void;)V"), (8, .fieldref 10 39), (0, .nameAndType 40 26), (0, u "COMPACT_STRINGS"), (1, .class_ 44), (1, u "java/lang/StringUTF16"), (0, u "compress"), (1, .methodref 42 48), (0, .nameAndType 49 50), (0, u "coderFromArrayLen"), (0, u "([BI)B"), (3, .methodref 55 56), (0, .class_ 57), (0, .nameAndType 58 59), (0, u "java/util/Arrays"), (0, u "copyOfRange"), (0, u "([BII)[B"), (47, .class_ 109), (1, u "java/lang/StringLatin1"), (32, u "()Z"), (34, .methodref 42 178), (0, .nameAndType 45 179), (0, u "([CII)[B"), (13, .class_ 195), (1, u "java/lang/System"), (16, .methodref 193 213), (0, .nameAndType 214 215), (0, u "arraycopy"), (0, u "(Ljava/lang/Object;ILjava/lang/Object;II)V"), (118, u "()I"), (0, .methodref 10 336), (0, .nameAndType 17 337), (0, u "()B"), (2, u "()[B"), (22, u "([BI)C"), (27, u "(II)V"), (35, u "(I)C"), (61, .methodref 10 490), (0, .nameAndType 5 491), (0, u "(Ljava/lang/AbstractStringBuilder;Ljava/lang/Void;)V"), (0, .methodref 10 493), (0, .nameAndType 494 142), (0, u "isLatin1"), (0, .methodref 107 496), (0, .nameAndType 497 363), (0, u "charAt"), (3, u "checkIndex"), (4, .nameAndType 507 334), (0, u "length"), (24, u "getBytes"), (10, u "equals"), (5, .methodref 550 506), (0, .class_ 551), (0, u "java/lang/AbstractStringBuilder"), (0, .methodref 550 553), (0, .nameAndType 554 340), (0, u "getValue"), (18, u "(Ljava/lang/Object;)Z"), (1, .class_ 576), (0, u "java/lang/CharSequence"), (22, u "CASE_INSENSITIVE_ORDER"), (0, u "Ljava/util/Comparator;"), (220, u "([BIB)V"), (188, u "([C)V"), (36, .methodref 550 493), (5, .fieldref 1054 1055), (0, .class_ 1056), (0, .nameAndType 1057 1058), (0, u "jdk/internal/util/Preconditions"), (0, u "SIOOBE_FORMATTER"), (0, u "Ljava/util/function/BiFunction;"), (0, .methodref 1054 1060), (0, .nameAndType 501 1061), (0, u "(IILjava/util/function/BiFunction;)I"), (39, u "serialPersistentFields"), (0, u "[Ljava/io/ObjectStreamField;"), (0, .class_ 1104), (0, u "java/lang/String$CaseInsensitiveComparator"), (1, .class_ 1107), (0, u "java/io/Serializable"), (0, .class_ 1109), (0, u "java/lang/Comparable"), (0, .class_ 1111), (0, u "java/lang/constant/Constable"), (0, .class_ 1113), (0, u "java/lang/constant/ConstantDesc"), (2, u "serialVersionUID"), (0, u "J"), (3, u "REPL"), (0, u "C"), (2, u "LATIN1"), (1, u "UTF16"), (105, u "(Ljava/lang/StringBuilder;)V")] 217

def k7m0 : Method := { name := "<init>", desc := "()V", sig := { parameters := [], returnType := none }, accessFlags := 1, code := none }
def k7c1 : Code := { maxStack := 5, maxLocals := 2, code := jdk_42_method_3_code, exceptionTable := #[], attributes := #[] }
def k7m1 : Method := { name := "<init>", desc := "([C)V", sig := { parameters := [(.array .char)], returnType := none }, accessFlags := 1, code := some k7c1 }
def k7c2 : Code := { maxStack := 3, maxLocals := 2, code := jdk_42_method_53_code, exceptionTable := #[], attributes := #[] }
def k7m2 : Method := { name := "<init>", desc := "(Ljava/lang/StringBuilder;)V", sig := { parameters := [(.object "java/lang/StringBuilder")], returnType := none }, accessFlags := 1, code := some k7c2 }
def k7c3 : Code := { maxStack := 2, maxLocals := 1, code := jdk_42_method_54_code, exceptionTable := #[], attributes := #[] }
def k7m3 : Method := { name := "length", desc := "()I", sig := { parameters := [], returnType := some .int }, accessFlags := 1, code := some k7c3 }
def k7c4 : Code := { maxStack := 2, maxLocals := 2, code := jdk_42_method_56_code, exceptionTable := #[], attributes := #[] }
def k7m4 : Method := { name := "charAt", desc := "(I)C", sig := { parameters := [.int], returnType := some .char }, accessFlags := 1, code := some k7c4 }
def k7c5 : Code := { maxStack := 2, maxLocals := 3, code := jdk_42_method_66_code, exceptionTable := #[], attributes := #[] }
def k7m5 : Method := { name := "equals", desc := "(Ljava/lang/Object;)Z", sig := { parameters := [(.object "java/lang/Object")], returnType := some .boolean }, accessFlags := 1, code := some k7c5 }
def k7c6 : Code := { maxStack := 5, maxLocals := 4, code := jdk_42_method_147_code, exceptionTable := #[], attributes := #[] }
def k7m6 : Method := { name := "getBytes", desc := "([BIB)V", sig := { parameters := [(.array .byte), .int, .byte], returnType := none }, accessFlags := 0, code := some k7c6 }
def k7c7 : Code := { maxStack := 4, maxLocals := 6, code := jdk_42_method_149_code, exceptionTable := #[], attributes := #[] }
def k7m7 : Method := { name := "<init>", desc := "([CIILjava/lang/Void;)V", sig := { parameters := [(.array .char), .int, .int, (.object "java/lang/Void")], returnType := none }, accessFlags := 2, code := some k7c7 }
def k7c8 : Code := { maxStack := 5, maxLocals := 5, code := jdk_42_method_150_code, exceptionTable := #[], attributes := #[] }
def k7m8 : Method := { name := "<init>", desc := "(Ljava/lang/AbstractStringBuilder;Ljava/lang/Void;)V", sig := { parameters := [(.object "java/lang/AbstractStringBuilder"), (.object "java/lang/Void")], returnType := none }, accessFlags := 0, code := some k7c8 }
def k7c9 : Code := { maxStack := 1, maxLocals := 1, code := jdk_42_method_152_code, exceptionTable := #[], attributes := #[] }
def k7m9 : Method := { name := "coder", desc := "()B", sig := { parameters := [], returnType := some .byte }, accessFlags := 0, code := some k7c9 }
def k7c10 : Code := { maxStack := 1, maxLocals := 1, code := jdk_42_method_154_code, exceptionTable := #[], attributes := #[] }
def k7m10 : Method := { name := "isLatin1", desc := "()Z", sig := { parameters := [], returnType := some .boolean }, accessFlags := 0, code := some k7c10 }
def k7c11 : Code := { maxStack := 3, maxLocals := 2, code := jdk_42_method_155_code, exceptionTable := #[], attributes := #[] }
def k7m11 : Method := { name := "checkIndex", desc := "(II)V", sig := { parameters := [.int, .int], returnType := none }, accessFlags := 8, code := some k7c11 }
/-- java/lang/String -/
def k7 : Class := { plain "java/lang/String" (some 0) with
  accessFlags := 49
  interfaces := #[2, 3, 4, 5, 6]
  cf := some (fileOf pool7 10 #[.nestMembers #[1103]] #[{ accessFlags := 1, nameIndex := 5, descriptorIndex := 6, attributes := #[] }, { accessFlags := 1, nameIndex := 5, descriptorIndex := 1010, attributes := #[] }, { accessFlags := 1, nameIndex := 5, descriptorIndex := 1233, attributes := #[] }, { accessFlags := 1, nameIndex := 507, descriptorIndex := 334, attributes := #[] }, { accessFlags := 1, nameIndex := 497, descriptorIndex := 427, attributes := #[] }, { accessFlags := 1, nameIndex := 543, descriptorIndex := 573, attributes := #[] }, { accessFlags := 0, nameIndex := 532, descriptorIndex := 821, attributes := #[] }, { accessFlags := 2, nameIndex := 5, descriptorIndex := 29, attributes := #[] }, { accessFlags := 0, nameIndex := 5, descriptorIndex := 491, attributes := #[] }, { accessFlags := 0, nameIndex := 17, descriptorIndex := 337, attributes := #[] }, { accessFlags := 0, nameIndex := 494, descriptorIndex := 142, attributes := #[] }, { accessFlags := 8, nameIndex := 501, descriptorIndex := 391, attributes := #[] }] 49 2 #[1106, 1108, 575, 1110, 1112] #[{ accessFlags := 18, nameIndex := 13, descriptorIndex := 14, attributes := #[] }, { accessFlags := 18, nameIndex := 17, descriptorIndex := 18, attributes := #[] }, { accessFlags := 2, nameIndex := 21, descriptorIndex := 22, attributes := #[] }, { accessFlags := 2, nameIndex := 25, descriptorIndex := 26, attributes := #[] }, { accessFlags := 26, nameIndex := 1116, descriptorIndex := 1117, attributes := #[] }, { accessFlags := 24, nameIndex := 40, descriptorIndex := 26, attributes := #[] }, { accessFlags := 26, nameIndex := 1101, descriptorIndex := 1102, attributes := #[] }, { accessFlags := 26, nameIndex := 1121, descriptorIndex := 1122, attributes := #[] }, { accessFlags := 25, nameIndex := 599, descriptorIndex := 600, attributes := #[] }, { accessFlags := 24, nameIndex := 1125, descriptorIndex := 18, attributes := #[] }, { accessFlags := 24, nameIndex := 1127, descriptorIndex := 18, attributes := #[] }])
  fields := #[{ name := "value", type := (.array .byte), accessFlags := 18, slot := 0, constantValue := 0 }, { name := "coder", type := .byte, accessFlags := 18, slot := 1, constantValue := 0 }, { name := "hash", type := .int, accessFlags := 2, slot := 2, constantValue := 0 }, { name := "hashIsZero", type := .boolean, accessFlags := 2, slot := 3, constantValue := 0 }, { name := "serialVersionUID", type := .long, accessFlags := 26, slot := 0, constantValue := 0 }, { name := "COMPACT_STRINGS", type := .boolean, accessFlags := 24, slot := 1, constantValue := 0 }, { name := "serialPersistentFields", type := (.array (.object "java/io/ObjectStreamField")), accessFlags := 26, slot := 2, constantValue := 0 }, { name := "REPL", type := .char, accessFlags := 26, slot := 3, constantValue := 0 }, { name := "CASE_INSENSITIVE_ORDER", type := (.object "java/util/Comparator"), accessFlags := 25, slot := 4, constantValue := 0 }, { name := "LATIN1", type := .byte, accessFlags := 24, slot := 5, constantValue := 0 }, { name := "UTF16", type := .byte, accessFlags := 24, slot := 6, constantValue := 0 }]
  methods := #[k7m0, k7m1, k7m2, k7m3, k7m4, k7m5, k7m6, k7m7, k7m8, k7m9, k7m10, k7m11]
  instanceTypes := #[(.array .byte), .byte, .int, .boolean]
  staticTypes := #[.long, .boolean, (.array (.object "java/io/ObjectStreamField")), .char, (.object "java/util/Comparator"), .byte, .byte]
  resolved := Array.replicate 1451 none
  statics := some 0 }

def pool8 : Array CpInfo := pool [(1, .methodref 2 3), (0, .class_ 4), (0, .nameAndType 5 6), (0, u "java/lang/Object"), (0, u "<init>"), (0, u "()V"), (0, .class_ 8), (0, u "java/lang/Record")] 13

def k8c0 : Code := { maxStack := 1, maxLocals := 1, code := jdk_30_method_1_code, exceptionTable := #[], attributes := #[] }
def k8m0 : Method := { name := "<init>", desc := "()V", sig := { parameters := [], returnType := none }, accessFlags := 4, code := some k8c0 }
/-- java/lang/Record -/
def k8 : Class := { plain "java/lang/Record" (some 0) with
  accessFlags := 1057
  interfaces := #[]
  cf := some (fileOf pool8 7 #[] #[{ accessFlags := 4, nameIndex := 5, descriptorIndex := 6, attributes := #[] }] 1057 2 #[] #[])
  fields := #[]
  methods := #[k8m0]
  instanceTypes := #[]
  staticTypes := #[]
  resolved := Array.replicate 22 none
  statics := none }

def pool9 : Array CpInfo := pool [(1, .methodref 2 3), (0, .class_ 4), (0, .nameAndType 5 6), (0, u "java/lang/Record"), (0, u "<init>"), (0, u "()V"), (0, .fieldref 8 9), (0, .class_ 10), (0, .nameAndType 11 12), (0, u "com/example/hulse/hulse/failure/Explanation"), (0, u "message"), (0, u "Ljava/lang/String;"), (0, .fieldref 8 14), (0, .nameAndType 15 12), (0, u "description"), (0, .fieldref 8 17), (0, .nameAndType 18 12), (0, u "action"), (0, .class_ 20), (0, u "java/lang/StringBuilder"), (0, .methodref 19 3), (0, .methodref 19 23), (0, .nameAndType 24 25), (0, u "append"), (0, u "(Ljava/lang/String;)Ljava/lang/StringBuilder;"), (0, .methodref 19 27), (0, .nameAndType 28 29), (0, u "toString"), (0, u "()Ljava/lang/String;"), (0, .methodref 8 31), (0, .nameAndType 5 32), (0, u "(Ljava/lang/String;Ljava/lang/String;Ljava/lang/String;)V"), (17, u "of"), (0, u "(Ljava/lang/String;Ljava/lang/String;Ljava/lang/String;)Lcom/example/hulse/hulse/failure/Explanation;"), (120, u "FAILED_BEFORE"), (1, u "INITIALISER")] 37

def k9c0 : Code := { maxStack := 2, maxLocals := 4, code := prog_86_method_1_code, exceptionTable := #[], attributes := #[] }
def k9m0 : Method := { name := "<init>", desc := "(Ljava/lang/String;Ljava/lang/String;Ljava/lang/String;)V", sig := { parameters := [(.object "java/lang/String"), (.object "java/lang/String"), (.object "java/lang/String")], returnType := none }, accessFlags := 0, code := some k9c0 }
def k9c1 : Code := { maxStack := 5, maxLocals := 3, code := prog_86_method_2_code, exceptionTable := #[], attributes := #[] }
def k9m1 : Method := { name := "of", desc := "(Ljava/lang/String;Ljava/lang/String;Ljava/lang/String;)Lcom/example/hulse/hulse/failure/Explanation;", sig := { parameters := [(.object "java/lang/String"), (.object "java/lang/String"), (.object "java/lang/String")], returnType := some (.object "com/example/hulse/hulse/failure/Explanation") }, accessFlags := 8, code := some k9c1 }
def k9c2 : Code := { maxStack := 1, maxLocals := 1, code := prog_86_method_18_code, exceptionTable := #[], attributes := #[] }
def k9m2 : Method := { name := "message", desc := "()Ljava/lang/String;", sig := { parameters := [], returnType := some (.object "java/lang/String") }, accessFlags := 1, code := some k9c2 }
def k9c3 : Code := { maxStack := 1, maxLocals := 1, code := prog_86_method_19_code, exceptionTable := #[], attributes := #[] }
def k9m3 : Method := { name := "description", desc := "()Ljava/lang/String;", sig := { parameters := [], returnType := some (.object "java/lang/String") }, accessFlags := 1, code := some k9c3 }
def k9c4 : Code := { maxStack := 1, maxLocals := 1, code := prog_86_method_20_code, exceptionTable := #[], attributes := #[] }
def k9m4 : Method := { name := "action", desc := "()Ljava/lang/String;", sig := { parameters := [], returnType := some (.object "java/lang/String") }, accessFlags := 1, code := some k9c4 }
/-- com/example/hulse/hulse/failure/Explanation -/
def k9 : Class := { plain "com/example/hulse/hulse/failure/Explanation" (some 8) with
  accessFlags := 48
  interfaces := #[]
  cf := some (fileOf pool9 8 #[] #[{ accessFlags := 0, nameIndex := 5, descriptorIndex := 32, attributes := #[] }, { accessFlags := 8, nameIndex := 50, descriptorIndex := 51, attributes := #[] }, { accessFlags := 1, nameIndex := 11, descriptorIndex := 29, attributes := #[] }, { accessFlags := 1, nameIndex := 15, descriptorIndex := 29, attributes := #[] }, { accessFlags := 1, nameIndex := 18, descriptorIndex := 29, attributes := #[] }] 48 2 #[] #[{ accessFlags := 18, nameIndex := 11, descriptorIndex := 12, attributes := #[] }, { accessFlags := 18, nameIndex := 15, descriptorIndex := 12, attributes := #[] }, { accessFlags := 18, nameIndex := 18, descriptorIndex := 12, attributes := #[] }, { accessFlags := 26, nameIndex := 172, descriptorIndex := 12, attributes := #[] }, { accessFlags := 26, nameIndex := 174, descriptorIndex := 12, attributes := #[] }])
  fields := #[{ name := "message", type := (.object "java/lang/String"), accessFlags := 18, slot := 0, constantValue := 0 }, { name := "description", type := (.object "java/lang/String"), accessFlags := 18, slot := 1, constantValue := 0 }, { name := "action", type := (.object "java/lang/String"), accessFlags := 18, slot := 2, constantValue := 0 }, { name := "FAILED_BEFORE", type := (.object "java/lang/String"), accessFlags := 26, slot := 0, constantValue := 0 }, { name := "INITIALISER", type := (.object "java/lang/String"), accessFlags := 26, slot := 1, constantValue := 0 }]
  methods := #[k9m0, k9m1, k9m2, k9m3, k9m4]
  instanceTypes := #[(.object "java/lang/String"), (.object "java/lang/String"), (.object "java/lang/String")]
  staticTypes := #[(.object "java/lang/String"), (.object "java/lang/String")]
  resolved := Array.replicate 212 none
  statics := none }

def pool10 : Array CpInfo := pool [(1, .class_ 2), (0, u "java/lang/Appendable"), (0, .class_ 4), (0, u "java/lang/Object")] 9

/-- java/lang/Appendable -/
def k10 : Class := { plain "java/lang/Appendable" (some 0) with
  accessFlags := 1537
  interfaces := #[]
  cf := some (fileOf pool10 1 #[] #[] 1537 3 #[] #[])
  fields := #[]
  methods := #[]
  instanceTypes := #[]
  staticTypes := #[]
  resolved := Array.replicate 14 none
  statics := none }

def pool11 : Array CpInfo := pool [(1, .class_ 2), (0, u "java/lang/String"), (0, .methodref 4 5), (0, .class_ 6), (0, .nameAndType 7 8), (0, u "java/lang/Object"), (0, u "<init>"), (0, u "()V"), (1, .class_ 12), (1, u "java/lang/AbstractStringBuilder"), (0, u "EMPTYVALUE"), (0, u "[B"), (0, .fieldref 10 16), (0, .nameAndType 17 14), (0, u "value"), (0, .fieldref 1 19), (0, .nameAndType 20 21), (0, u "COMPACT_STRINGS"), (0, u "Z"), (0, .fieldref 10 23), (0, .nameAndType 24 25), (0, u "coder"), (0, u "B"), (6, .methodref 1 33), (0, .nameAndType 34 35), (0, u "length"), (0, u "()I"), (4, .methodref 1 41), (0, .nameAndType 24 42), (0, u "()B"), (2, u "append"), (0, u "(Ljava/lang/String;)Ljava/lang/AbstractStringBuilder;"), (1, .class_ 49), (0, u "java/lang/CharSequence"), (19, u "(Ljava/lang/String;)V"), (5, u "maybeLatin1"), (3, .fieldref 10 80), (0, .nameAndType 81 82), (0, u "count"), (0, u "I"), (2, u "isLatin1"), (0, u "()Z"), (13, .methodref 10 101), (0, .nameAndType 102 103), (0, u "ensureCapacityInternal"), (0, u "(I)V"), (104, .methodref 10 209), (0, .nameAndType 210 211), (0, u "putStringAt"), (0, u "(ILjava/lang/String;)V"), (5, u "inflateIfNeededFor"), (2, .nameAndType 221 222), (0, u "getBytes"), (0, u "([BIB)V"), (174, .methodref 10 398), (0, .nameAndType 217 69), (0, .methodref 1 220), (3, u "()[B"), (40, .class_ 445), (0, u "java/lang/Appendable"), (106, u "getValue")] 56

def k11m0 : Method := { name := "<init>", desc := "()V", sig := { parameters := [], returnType := none }, accessFlags := 0, code := none }
def k11c1 : Code := { maxStack := 2, maxLocals := 2, code := jdk_68_method_2_code, exceptionTable := #[], attributes := #[] }
def k11m1 : Method := { name := "<init>", desc := "(I)V", sig := { parameters := [.int], returnType := none }, accessFlags := 0, code := some k11c1 }
def k11c2 : Code := { maxStack := 1, maxLocals := 1, code := jdk_68_method_6_code, exceptionTable := #[], attributes := #[] }
def k11m2 : Method := { name := "length", desc := "()I", sig := { parameters := [], returnType := some .int }, accessFlags := 1, code := some k11c2 }
def k11c3 : Code := { maxStack := 4, maxLocals := 3, code := jdk_68_method_9_code, exceptionTable := #[], attributes := #[] }
def k11m3 : Method := { name := "ensureCapacityInternal", desc := "(I)V", sig := { parameters := [.int], returnType := none }, accessFlags := 2, code := some k11c3 }
def k11c4 : Code := { maxStack := 3, maxLocals := 3, code := jdk_68_method_22_code, exceptionTable := #[], attributes := #[] }
def k11m4 : Method := { name := "append", desc := "(Ljava/lang/String;)Ljava/lang/AbstractStringBuilder;", sig := { parameters := [(.object "java/lang/String")], returnType := some (.object "java/lang/AbstractStringBuilder") }, accessFlags := 1, code := some k11c4 }
def k11c5 : Code := { maxStack := 1, maxLocals := 1, code := jdk_68_method_64_code, exceptionTable := #[], attributes := #[] }
def k11m5 : Method := { name := "getValue", desc := "()[B", sig := { parameters := [], returnType := some (.array .byte) }, accessFlags := 16, code := some k11c5 }
def k11c6 : Code := { maxStack := 1, maxLocals := 1, code := jdk_68_method_68_code, exceptionTable := #[], attributes := #[] }
def k11m6 : Method := { name := "isLatin1", desc := "()Z", sig := { parameters := [], returnType := some .boolean }, accessFlags := 16, code := some k11c6 }
def k11c7 : Code := { maxStack := 2, maxLocals := 2, code := jdk_68_method_71_code, exceptionTable := #[], attributes := #[] }
def k11m7 : Method := { name := "inflateIfNeededFor", desc := "(Ljava/lang/String;)V", sig := { parameters := [(.object "java/lang/String")], returnType := none }, accessFlags := 2, code := some k11c7 }
def k11c8 : Code := { maxStack := 4, maxLocals := 3, code := jdk_68_method_73_code, exceptionTable := #[], attributes := #[] }
def k11m8 : Method := { name := "putStringAt", desc := "(ILjava/lang/String;)V", sig := { parameters := [.int, (.object "java/lang/String")], returnType := none }, accessFlags := 2, code := some k11c8 }
/-- java/lang/AbstractStringBuilder -/
def k11 : Class := { plain "java/lang/AbstractStringBuilder" (some 0) with
  accessFlags := 1056
  interfaces := #[10, 4]
  cf := some (fileOf pool11 10 #[] #[{ accessFlags := 0, nameIndex := 7, descriptorIndex := 8, attributes := #[] }, { accessFlags := 0, nameIndex := 7, descriptorIndex := 103, attributes := #[] }, { accessFlags := 1, nameIndex := 34, descriptorIndex := 35, attributes := #[] }, { accessFlags := 2, nameIndex := 102, descriptorIndex := 103, attributes := #[] }, { accessFlags := 1, nameIndex := 45, descriptorIndex := 46, attributes := #[] }, { accessFlags := 16, nameIndex := 552, descriptorIndex := 403, attributes := #[] }, { accessFlags := 16, nameIndex := 85, descriptorIndex := 86, attributes := #[] }, { accessFlags := 2, nameIndex := 217, descriptorIndex := 69, attributes := #[] }, { accessFlags := 2, nameIndex := 210, descriptorIndex := 211, attributes := #[] }] 1056 4 #[444, 48] #[{ accessFlags := 0, nameIndex := 17, descriptorIndex := 14, attributes := #[] }, { accessFlags := 0, nameIndex := 24, descriptorIndex := 25, attributes := #[] }, { accessFlags := 0, nameIndex := 75, descriptorIndex := 21, attributes := #[] }, { accessFlags := 0, nameIndex := 81, descriptorIndex := 82, attributes := #[] }, { accessFlags := 26, nameIndex := 13, descriptorIndex := 14, attributes := #[] }])
  fields := #[{ name := "value", type := (.array .byte), accessFlags := 0, slot := 0, constantValue := 0 }, { name := "coder", type := .byte, accessFlags := 0, slot := 1, constantValue := 0 }, { name := "maybeLatin1", type := .boolean, accessFlags := 0, slot := 2, constantValue := 0 }, { name := "count", type := .int, accessFlags := 0, slot := 3, constantValue := 0 }, { name := "EMPTYVALUE", type := (.array .byte), accessFlags := 26, slot := 0, constantValue := 0 }]
  methods := #[k11m0, k11m1, k11m2, k11m3, k11m4, k11m5, k11m6, k11m7, k11m8]
  instanceTypes := #[(.array .byte), .byte, .boolean, .int]
  staticTypes := #[(.array .byte)]
  resolved := Array.replicate 609 none
  statics := none }

def pool12 : Array CpInfo := pool [(1, .methodref 2 3), (0, .class_ 4), (0, .nameAndType 5 6), (0, u "java/lang/AbstractStringBuilder"), (0, u "<init>"), (0, u "(I)V"), (11, .class_ 20), (1, u "java/lang/String"), (3, .class_ 26), (1, u "java/lang/StringBuilder"), (0, u "append"), (0, u "(Ljava/lang/String;)Ljava/lang/StringBuilder;"), (0, .methodref 2 30), (0, .nameAndType 27 31), (0, u "(Ljava/lang/String;)Ljava/lang/AbstractStringBuilder;"), (105, .methodref 18 138), (0, .nameAndType 5 139), (0, u "(Ljava/lang/StringBuilder;)V"), (5, u "()V"), (10, u "()I"), (186, .methodref 2 344), (0, .nameAndType 345 156), (0, u "length"), (3, .class_ 350), (0, u "java/lang/Appendable"), (0, .class_ 352), (0, u "java/io/Serializable"), (0, .class_ 354), (0, u "java/lang/Comparable"), (0, .class_ 356), (0, u "java/lang/CharSequence"), (0, u "serialVersionUID"), (0, u "J"), (40, u "toString"), (0, u "()Ljava/lang/String;")] 21

def k12c0 : Code := { maxStack := 2, maxLocals := 1, code := jdk_67_method_1_code, exceptionTable := #[], attributes := #[] }
def k12m0 : Method := { name := "<init>", desc := "()V", sig := { parameters := [], returnType := none }, accessFlags := 1, code := some k12c0 }
def k12c1 : Code := { maxStack := 2, maxLocals := 2, code := jdk_67_method_7_code, exceptionTable := #[], attributes := #[] }
def k12m1 : Method := { name := "append", desc := "(Ljava/lang/String;)Ljava/lang/StringBuilder;", sig := { parameters := [(.object "java/lang/String")], returnType := some (.object "java/lang/StringBuilder") }, accessFlags := 1, code := some k12c1 }
def k12c2 : Code := { maxStack := 3, maxLocals := 1, code := jdk_67_method_42_code, exceptionTable := #[], attributes := #[] }
def k12m2 : Method := { name := "toString", desc := "()Ljava/lang/String;", sig := { parameters := [], returnType := some (.object "java/lang/String") }, accessFlags := 1, code := some k12c2 }
def k12c3 : Code := { maxStack := 1, maxLocals := 1, code := jdk_67_method_93_code, exceptionTable := #[], attributes := #[] }
def k12m3 : Method := { name := "length", desc := "()I", sig := { parameters := [], returnType := some .int }, accessFlags := 4161, code := some k12c3 }
/-- java/lang/StringBuilder -/
def k12 : Class := { plain "java/lang/StringBuilder" (some 11) with
  accessFlags := 49
  interfaces := #[10, 2, 3, 4]
  cf := some (fileOf pool12 24 #[] #[{ accessFlags := 1, nameIndex := 5, descriptorIndex := 145, attributes := #[] }, { accessFlags := 1, nameIndex := 27, descriptorIndex := 28, attributes := #[] }, { accessFlags := 1, nameIndex := 399, descriptorIndex := 400, attributes := #[] }, { accessFlags := 4161, nameIndex := 345, descriptorIndex := 156, attributes := #[] }] 49 2 #[349, 351, 353, 355] #[{ accessFlags := 24, nameIndex := 357, descriptorIndex := 358, attributes := #[] }])
  fields := #[{ name := "serialVersionUID", type := .long, accessFlags := 24, slot := 0, constantValue := 0 }]
  methods := #[k12m0, k12m1, k12m2, k12m3]
  instanceTypes := #[(.array .byte), .byte, .boolean, .int]
  staticTypes := #[.long]
  resolved := Array.replicate 422 none
  statics := none }

def pool13 : Array CpInfo := pool [(2, .class_ 4), (1, u "java/lang/Object"), (0, u "<init>"), (0, u "()V"), (1, .class_ 10), (1, u "java/lang/System"), (0, u "allowSecurityManager"), (0, u "I"), (16, u "cons"), (0, u "Ljava/io/Console;"), (77, .class_ 110), (1, u "java/lang/System$CallersHolder"), (43, u "initialErrStream"), (0, u "Ljava/io/PrintStream;"), (19, u "security"), (0, u "Ljava/lang/SecurityManager;"), (31, .class_ 209), (0, u "java/lang/System$1"), (7, u "props"), (0, u "Ljava/util/Properties;"), (2, u "lineSeparator"), (0, u "Ljava/lang/String;"), (96, .class_ 321), (1, u "java/lang/System$LoggerFinder"), (5, .class_ 328), (0, u "java/lang/System$Logger"), (67, u "err"), (2, u "out"), (91, u "notSupportedJnuEncoding"), (15, u "in"), (17, u "initialIn"), (0, u "Ljava/io/InputStream;"), (35, u "bootLayer"), (0, u "Ljava/lang/ModuleLayer;"), (99, .class_ 664), (0, u "java/lang/System$2"), (9, u "NEVER"), (2, u "MAYBE"), (49, u "arraycopy"), (0, u "(Ljava/lang/Object;ILjava/lang/Object;II)V"), (72, .class_ 802), (0, u "java/lang/System$Logger$Level")] 31

def k13m0 : Method := { name := "<init>", desc := "()V", sig := { parameters := [], returnType := none }, accessFlags := 2, code := none }
def k13m1 : Method := { name := "arraycopy", desc := "(Ljava/lang/Object;ILjava/lang/Object;II)V", sig := { parameters := [(.object "java/lang/Object"), .int, (.object "java/lang/Object"), .int, .int], returnType := none }, accessFlags := 265, code := none }
/-- java/lang/System -/
def k13 : Class := { plain "java/lang/System" (some 0) with
  accessFlags := 49
  interfaces := #[]
  cf := some (fileOf pool13 8 #[.nestMembers #[319, 327, 801, 108, 663, 208]] #[{ accessFlags := 2, nameIndex := 5, descriptorIndex := 6, attributes := #[] }, { accessFlags := 265, nameIndex := 727, descriptorIndex := 728, attributes := #[] }] 49 2 #[] #[{ accessFlags := 25, nameIndex := 507, descriptorIndex := 526, attributes := #[] }, { accessFlags := 25, nameIndex := 399, descriptorIndex := 155, attributes := #[] }, { accessFlags := 25, nameIndex := 396, descriptorIndex := 155, attributes := #[] }, { accessFlags := 10, nameIndex := 525, descriptorIndex := 526, attributes := #[] }, { accessFlags := 26, nameIndex := 674, descriptorIndex := 12, attributes := #[] }, { accessFlags := 26, nameIndex := 677, descriptorIndex := 12, attributes := #[] }, { accessFlags := 10, nameIndex := 11, descriptorIndex := 12, attributes := #[] }, { accessFlags := 74, nameIndex := 175, descriptorIndex := 176, attributes := #[] }, { accessFlags := 10, nameIndex := 491, descriptorIndex := 222, attributes := #[] }, { accessFlags := 74, nameIndex := 29, descriptorIndex := 30, attributes := #[] }, { accessFlags := 74, nameIndex := 154, descriptorIndex := 155, attributes := #[] }, { accessFlags := 10, nameIndex := 217, descriptorIndex := 218, attributes := #[] }, { accessFlags := 10, nameIndex := 221, descriptorIndex := 222, attributes := #[] }, { accessFlags := 8, nameIndex := 562, descriptorIndex := 563, attributes := #[] }])
  fields := #[{ name := "in", type := (.object "java/io/InputStream"), accessFlags := 25, slot := 0, constantValue := 0 }, { name := "out", type := (.object "java/io/PrintStream"), accessFlags := 25, slot := 1, constantValue := 0 }, { name := "err", type := (.object "java/io/PrintStream"), accessFlags := 25, slot := 2, constantValue := 0 }, { name := "initialIn", type := (.object "java/io/InputStream"), accessFlags := 10, slot := 3, constantValue := 0 }, { name := "NEVER", type := .int, accessFlags := 26, slot := 4, constantValue := 0 }, { name := "MAYBE", type := .int, accessFlags := 26, slot := 5, constantValue := 0 }, { name := "allowSecurityManager", type := .int, accessFlags := 10, slot := 6, constantValue := 0 }, { name := "security", type := (.object "java/lang/SecurityManager"), accessFlags := 74, slot := 7, constantValue := 0 }, { name := "notSupportedJnuEncoding", type := (.object "java/lang/String"), accessFlags := 10, slot := 8, constantValue := 0 }, { name := "cons", type := (.object "java/io/Console"), accessFlags := 74, slot := 9, constantValue := 0 }, { name := "initialErrStream", type := (.object "java/io/PrintStream"), accessFlags := 74, slot := 10, constantValue := 0 }, { name := "props", type := (.object "java/util/Properties"), accessFlags := 10, slot := 11, constantValue := 0 }, { name := "lineSeparator", type := (.object "java/lang/String"), accessFlags := 10, slot := 12, constantValue := 0 }, { name := "bootLayer", type := (.object "java/lang/ModuleLayer"), accessFlags := 8, slot := 13, constantValue := 0 }]
  methods := #[k13m0, k13m1]
  instanceTypes := #[]
  staticTypes := #[(.object "java/io/InputStream"), (.object "java/io/PrintStream"), (.object "java/io/PrintStream"), (.object "java/io/InputStream"), .int, .int, .int, (.object "java/lang/SecurityManager"), (.object "java/lang/String"), (.object "java/io/Console"), (.object "java/io/PrintStream"), (.object "java/util/Properties"), (.object "java/lang/String"), (.object "java/lang/ModuleLayer")]
  resolved := Array.replicate 834 none
  statics := none }

def pool14 : Array CpInfo := pool [(2, .class_ 4), (1, u "java/lang/Object"), (0, u "<init>"), (0, u "()V"), (7, .class_ 16), (1, u "java/util/Arrays"), (57, .class_ 76), (1, u "java/util/Arrays$NaturalOrder"), (36, .class_ 115), (1, u "java/util/Arrays$LegacyMergeSort"), (1, u "Z"), (21, u "copyOfRange"), (10, .methodref 151 152), (0, .class_ 153), (0, .nameAndType 154 155), (0, u "java/lang/System"), (0, u "arraycopy"), (0, u "(Ljava/lang/Object;ILjava/lang/Object;II)V"), (148, .methodref 305 306), (0, .class_ 307), (0, .nameAndType 308 309), (0, u "java/lang/Math"), (0, u "min"), (0, u "(II)I"), (29, .methodref 14 340), (0, .nameAndType 341 342), (0, u "copyOfRangeByte"), (0, u "([BII)[B"), (0, .methodref 14 344), (0, .nameAndType 345 346), (0, u "checkLength"), (0, u "(II)V"), (28, .class_ 376), (0, u "java/util/Arrays$ArrayList"), (68, u "$assertionsDisabled"), (269, u "MIN_ARRAY_SORT_GRAN"), (0, u "I"), (2, u "INSERTIONSORT_THRESHOLD"), (255, .class_ 976), (0, u "java/util/Arrays$ArrayItr")] 52

def k14m0 : Method := { name := "<init>", desc := "()V", sig := { parameters := [], returnType := none }, accessFlags := 2, code := none }
def k14c1 : Code := { maxStack := 4, maxLocals := 2, code := jdk_65_method_131_code, exceptionTable := #[], attributes := #[] }
def k14m1 : Method := { name := "checkLength", desc := "(II)V", sig := { parameters := [.int, .int], returnType := none }, accessFlags := 10, code := some k14c1 }
def k14c2 : Code := { maxStack := 3, maxLocals := 3, code := jdk_65_method_132_code, exceptionTable := #[], attributes := #[] }
def k14m2 : Method := { name := "copyOfRange", desc := "([BII)[B", sig := { parameters := [(.array .byte), .int, .int], returnType := some (.array .byte) }, accessFlags := 9, code := some k14c2 }
def k14c3 : Code := { maxStack := 6, maxLocals := 5, code := jdk_65_method_133_code, exceptionTable := #[], attributes := #[] }
def k14m3 : Method := { name := "copyOfRangeByte", desc := "([BII)[B", sig := { parameters := [(.array .byte), .int, .int], returnType := some (.array .byte) }, accessFlags := 10, code := some k14c3 }
/-- java/util/Arrays -/
def k14 : Class := { plain "java/util/Arrays" (some 0) with
  accessFlags := 49
  interfaces := #[]
  cf := some (fileOf pool14 14 #[.nestMembers #[975, 375, 113, 74]] #[{ accessFlags := 2, nameIndex := 5, descriptorIndex := 6, attributes := #[] }, { accessFlags := 10, nameIndex := 345, descriptorIndex := 346, attributes := #[] }, { accessFlags := 9, nameIndex := 139, descriptorIndex := 342, attributes := #[] }, { accessFlags := 10, nameIndex := 341, descriptorIndex := 342, attributes := #[] }] 49 2 #[] #[{ accessFlags := 26, nameIndex := 715, descriptorIndex := 716, attributes := #[] }, { accessFlags := 26, nameIndex := 719, descriptorIndex := 716, attributes := #[] }, { accessFlags := 4120, nameIndex := 445, descriptorIndex := 117, attributes := #[] }])
  fields := #[{ name := "MIN_ARRAY_SORT_GRAN", type := .int, accessFlags := 26, slot := 0, constantValue := 0 }, { name := "INSERTIONSORT_THRESHOLD", type := .int, accessFlags := 26, slot := 1, constantValue := 0 }, { name := "$assertionsDisabled", type := .boolean, accessFlags := 4120, slot := 2, constantValue := 0 }]
  methods := #[k14m0, k14m1, k14m2, k14m3]
  instanceTypes := #[]
  staticTypes := #[.int, .int, .boolean]
  resolved := Array.replicate 1029 none
  statics := none }

def pool15 : Array CpInfo := pool [(1, .class_ 2), (0, u "java/lang/Math"), (1, .class_ 6), (1, u "java/lang/Object"), (0, u "<init>"), (0, u "()V"), (89, .class_ 100), (1, u "java/lang/Math$RandomNumberGeneratorHolder"), (71, u "negativeZeroFloatBits"), (0, u "J"), (2, u "negativeZeroDoubleBits"), (24, u "min"), (43, u "$assertionsDisabled"), (0, u "Z"), (88, u "(II)I"), (2, u "twoToTheDoubleScaleDown"), (0, u "D"), (4, u "twoToTheDoubleScaleUp"), (9, u "E"), (3, u "PI"), (2, u "TAU"), (2, u "DEGREES_TO_RADIANS"), (0, u "RADIANS_TO_DEGREES")] 94

def k15m0 : Method := { name := "<init>", desc := "()V", sig := { parameters := [], returnType := none }, accessFlags := 2, code := none }
def k15c1 : Code := { maxStack := 2, maxLocals := 2, code := jdk_29_method_69_code, exceptionTable := #[], attributes := #[] }
def k15m1 : Method := { name := "min", desc := "(II)I", sig := { parameters := [.int, .int], returnType := some .int }, accessFlags := 9, code := some k15c1 }
/-- java/lang/Math -/
def k15 : Class := { plain "java/lang/Math" (some 0) with
  accessFlags := 49
  interfaces := #[]
  cf := some (fileOf pool15 1 #[.nestMembers #[98]] #[{ accessFlags := 2, nameIndex := 7, descriptorIndex := 8, attributes := #[] }, { accessFlags := 9, nameIndex := 201, descriptorIndex := 335, attributes := #[] }] 49 4 #[] #[{ accessFlags := 25, nameIndex := 354, descriptorIndex := 339, attributes := #[] }, { accessFlags := 25, nameIndex := 358, descriptorIndex := 339, attributes := #[] }, { accessFlags := 25, nameIndex := 361, descriptorIndex := 339, attributes := #[] }, { accessFlags := 26, nameIndex := 364, descriptorIndex := 339, attributes := #[] }, { accessFlags := 26, nameIndex := 365, descriptorIndex := 339, attributes := #[] }, { accessFlags := 26, nameIndex := 172, descriptorIndex := 173, attributes := #[] }, { accessFlags := 26, nameIndex := 176, descriptorIndex := 173, attributes := #[] }, { accessFlags := 8, nameIndex := 344, descriptorIndex := 339, attributes := #[] }, { accessFlags := 8, nameIndex := 338, descriptorIndex := 339, attributes := #[] }, { accessFlags := 4120, nameIndex := 245, descriptorIndex := 246, attributes := #[] }])
  fields := #[{ name := "E", type := .double, accessFlags := 25, slot := 0, constantValue := 0 }, { name := "PI", type := .double, accessFlags := 25, slot := 1, constantValue := 0 }, { name := "TAU", type := .double, accessFlags := 25, slot := 2, constantValue := 0 }, { name := "DEGREES_TO_RADIANS", type := .double, accessFlags := 26, slot := 3, constantValue := 0 }, { name := "RADIANS_TO_DEGREES", type := .double, accessFlags := 26, slot := 4, constantValue := 0 }, { name := "negativeZeroFloatBits", type := .long, accessFlags := 26, slot := 5, constantValue := 0 }, { name := "negativeZeroDoubleBits", type := .long, accessFlags := 26, slot := 6, constantValue := 0 }, { name := "twoToTheDoubleScaleUp", type := .double, accessFlags := 8, slot := 7, constantValue := 0 }, { name := "twoToTheDoubleScaleDown", type := .double, accessFlags := 8, slot := 8, constantValue := 0 }, { name := "$assertionsDisabled", type := .boolean, accessFlags := 4120, slot := 9, constantValue := 0 }]
  methods := #[k15m0, k15m1]
  instanceTypes := #[]
  staticTypes := #[.double, .double, .double, .double, .double, .long, .long, .double, .double, .boolean]
  resolved := Array.replicate 460 none
  statics := none }

def pool16 : Array CpInfo := pool [(6, .class_ 8), (1, u "java/lang/Object"), (0, u "<init>"), (0, u "()V"), (1, .class_ 14), (1, u "java/lang/StringUTF16"), (31, u "$assertionsDisabled"), (0, u "Z"), (13, u "HI_BYTE_SHIFT"), (0, u "I"), (2, u "LO_BYTE_SHIFT"), (49, .methodref 12 116), (0, .nameAndType 117 118), (0, u "compress"), (0, u "([CI[BII)I"), (3, u "([CII)[B"), (138, u "coderFromArrayLen"), (0, u "([BI)B"), (106, .class_ 371), (1, u "java/lang/StringUTF16$LinesSpliterator"), (58, u "MAX_LENGTH"), (196, .class_ 628), (0, u "java/lang/StringUTF16$CodePointsSpliterator"), (0, .class_ 630), (0, u "java/lang/StringUTF16$CharsSpliterator")] 4

def k16m0 : Method := { name := "<init>", desc := "()V", sig := { parameters := [], returnType := none }, accessFlags := 0, code := none }
def k16c1 : Code := { maxStack := 2, maxLocals := 2, code := jdk_52_method_15_code, exceptionTable := #[], attributes := #[] }
def k16m1 : Method := { name := "coderFromArrayLen", desc := "([BI)B", sig := { parameters := [(.array .byte), .int], returnType := some .byte }, accessFlags := 8, code := some k16c1 }
def k16c2 : Code := { maxStack := 5, maxLocals := 6, code := jdk_52_method_16_code, exceptionTable := #[], attributes := #[] }
def k16m2 : Method := { name := "compress", desc := "([CII)[B", sig := { parameters := [(.array .char), .int, .int], returnType := some (.array .byte) }, accessFlags := 9, code := some k16c2 }
def k16c3 : Code := { maxStack := 3, maxLocals := 7, code := jdk_52_method_21_code, exceptionTable := #[], attributes := #[] }
def k16m3 : Method := { name := "compress", desc := "([CI[BII)I", sig := { parameters := [(.array .char), .int, (.array .byte), .int, .int], returnType := some .int }, accessFlags := 9, code := some k16c3 }
/-- java/lang/StringUTF16 -/
def k16 : Class := { plain "java/lang/StringUTF16" (some 0) with
  accessFlags := 48
  interfaces := #[]
  cf := some (fileOf pool16 12 #[.nestMembers #[627, 629, 369]] #[{ accessFlags := 0, nameIndex := 9, descriptorIndex := 10, attributes := #[] }, { accessFlags := 8, nameIndex := 261, descriptorIndex := 262, attributes := #[] }, { accessFlags := 9, nameIndex := 117, descriptorIndex := 122, attributes := #[] }, { accessFlags := 9, nameIndex := 117, descriptorIndex := 118, attributes := #[] }] 48 6 #[] #[{ accessFlags := 26, nameIndex := 61, descriptorIndex := 62, attributes := #[] }, { accessFlags := 26, nameIndex := 65, descriptorIndex := 62, attributes := #[] }, { accessFlags := 24, nameIndex := 430, descriptorIndex := 62, attributes := #[] }, { accessFlags := 4120, nameIndex := 46, descriptorIndex := 47, attributes := #[] }])
  fields := #[{ name := "HI_BYTE_SHIFT", type := .int, accessFlags := 26, slot := 0, constantValue := 0 }, { name := "LO_BYTE_SHIFT", type := .int, accessFlags := 26, slot := 1, constantValue := 0 }, { name := "MAX_LENGTH", type := .int, accessFlags := 24, slot := 2, constantValue := 0 }, { name := "$assertionsDisabled", type := .boolean, accessFlags := 4120, slot := 3, constantValue := 0 }]
  methods := #[k16m0, k16m1, k16m2, k16m3]
  instanceTypes := #[]
  staticTypes := #[.int, .int, .int, .boolean]
  resolved := Array.replicate 635 none
  statics := none }

def pool17 : Array CpInfo := pool [(1, .class_ 2), (0, u "java/lang/String"), (1, .class_ 6), (1, u "java/lang/Object"), (0, u "<init>"), (0, u "()V"), (0, .methodref 1 10), (0, .nameAndType 11 12), (0, u "checkIndex"), (0, u "(II)V"), (1, .class_ 16), (1, u "java/lang/StringLatin1"), (36, u "([BI)C"), (67, u "$assertionsDisabled"), (0, u "Z"), (98, .class_ 223), (1, u "java/lang/StringLatin1$LinesSpliterator"), (28, u "charAt"), (137, .class_ 391), (0, u "java/lang/StringLatin1$CharsSpliterator")] 3

def k17m0 : Method := { name := "<init>", desc := "()V", sig := { parameters := [], returnType := none }, accessFlags := 0, code := none }
def k17c1 : Code := { maxStack := 2, maxLocals := 2, code := jdk_43_method_2_code, exceptionTable := #[], attributes := #[] }
def k17m1 : Method := { name := "charAt", desc := "([BI)C", sig := { parameters := [(.array .byte), .int], returnType := some .char }, accessFlags := 9, code := some k17c1 }
/-- java/lang/StringLatin1 -/
def k17 : Class := { plain "java/lang/StringLatin1" (some 0) with
  accessFlags := 48
  interfaces := #[]
  cf := some (fileOf pool17 14 #[.nestMembers #[390, 221]] #[{ accessFlags := 0, nameIndex := 7, descriptorIndex := 8, attributes := #[] }, { accessFlags := 9, nameIndex := 252, descriptorIndex := 53, attributes := #[] }] 48 4 #[] #[{ accessFlags := 4120, nameIndex := 121, descriptorIndex := 122, attributes := #[] }])
  fields := #[{ name := "$assertionsDisabled", type := .boolean, accessFlags := 4120, slot := 0, constantValue := 0 }]
  methods := #[k17m0, k17m1]
  instanceTypes := #[]
  staticTypes := #[.boolean]
  resolved := Array.replicate 395 none
  statics := none }

def pool18 : Array CpInfo := pool [(2, .class_ 4), (1, u "java/lang/Object"), (0, u "<init>"), (0, u "()V"), (17, .class_ 26), (1, u "jdk/internal/util/Preconditions"), (6, u "checkIndex"), (21, .class_ 56), (0, u "jdk/internal/util/Preconditions$4"), (57, .class_ 115), (0, u "jdk/internal/util/Preconditions$1"), (7, u "SIOOBE_FORMATTER"), (0, u "Ljava/util/function/BiFunction;"), (0, .class_ 126), (0, u "jdk/internal/util/Preconditions$2"), (3, u "AIOOBE_FORMATTER"), (0, .class_ 132), (0, u "jdk/internal/util/Preconditions$3"), (3, u "IOOBE_FORMATTER"), (41, u "(IILjava/util/function/BiFunction;)I")] 15

def k18m0 : Method := { name := "<init>", desc := "()V", sig := { parameters := [], returnType := none }, accessFlags := 1, code := none }
def k18c1 : Code := { maxStack := 3, maxLocals := 3, code := jdk_41_method_11_code, exceptionTable := #[], attributes := #[] }
def k18m1 : Method := { name := "checkIndex", desc := "(IILjava/util/function/BiFunction;)I", sig := { parameters := [.int, .int, (.object "java/util/function/BiFunction")], returnType := some .int }, accessFlags := 9, code := some k18c1 }
/-- jdk/internal/util/Preconditions -/
def k18 : Class := { plain "jdk/internal/util/Preconditions" (some 0) with
  accessFlags := 33
  interfaces := #[]
  cf := some (fileOf pool18 24 #[.nestMembers #[55, 131, 125, 114]] #[{ accessFlags := 1, nameIndex := 5, descriptorIndex := 6, attributes := #[] }, { accessFlags := 9, nameIndex := 33, descriptorIndex := 178, attributes := #[] }] 33 2 #[] #[{ accessFlags := 25, nameIndex := 123, descriptorIndex := 124, attributes := #[] }, { accessFlags := 25, nameIndex := 130, descriptorIndex := 124, attributes := #[] }, { accessFlags := 25, nameIndex := 136, descriptorIndex := 124, attributes := #[] }])
  fields := #[{ name := "SIOOBE_FORMATTER", type := (.object "java/util/function/BiFunction"), accessFlags := 25, slot := 0, constantValue := 0 }, { name := "AIOOBE_FORMATTER", type := (.object "java/util/function/BiFunction"), accessFlags := 25, slot := 1, constantValue := 0 }, { name := "IOOBE_FORMATTER", type := (.object "java/util/function/BiFunction"), accessFlags := 25, slot := 2, constantValue := 0 }]
  methods := #[k18m0, k18m1]
  instanceTypes := #[]
  staticTypes := #[(.object "java/util/function/BiFunction"), (.object "java/util/function/BiFunction"), (.object "java/util/function/BiFunction")]
  resolved := Array.replicate 194 none
  statics := some 1 }

def pool19 : Array CpInfo := pool [(9, u "<init>"), (6, .class_ 18), (1, u "java/lang/Object"), (0, u "()V"), (1, .class_ 23), (1, u "jdk/internal/util/ArraysSupport"), (0, u "LOG2_ARRAY_LONG_INDEX_SCALE"), (0, u "I"), (2, u "U"), (0, u "Ljdk/internal/misc/Unsafe;"), (8, u "BIG_ENDIAN"), (0, u "Z"), (8, u "LOG2_BYTE_BIT_SIZE"), (4, u "LOG2_ARRAY_INT_INDEX_SCALE"), (54, u "JLA"), (0, u "Ljdk/internal/access/JavaLangAccess;"), (11, u "LOG2_ARRAY_BOOLEAN_INDEX_SCALE"), (9, u "LOG2_ARRAY_BYTE_INDEX_SCALE"), (5, u "LOG2_ARRAY_CHAR_INDEX_SCALE"), (5, u "LOG2_ARRAY_SHORT_INDEX_SCALE"), (18, u "LOG2_ARRAY_FLOAT_INDEX_SCALE"), (24, u "LOG2_ARRAY_DOUBLE_INDEX_SCALE"), (89, u "T_BOOLEAN"), (2, u "T_CHAR"), (1, u "T_FLOAT"), (1, u "T_DOUBLE"), (1, u "T_BYTE"), (1, u "T_SHORT"), (1, u "T_INT"), (1, u "T_LONG"), (1, u "SOFT_MAX_ARRAY_LENGTH")] 83

def k19m0 : Method := { name := "<init>", desc := "()V", sig := { parameters := [], returnType := none }, accessFlags := 2, code := none }
/-- jdk/internal/util/ArraysSupport -/
def k19 : Class := { plain "jdk/internal/util/ArraysSupport" (some 0) with
  accessFlags := 33
  interfaces := #[]
  cf := some (fileOf pool19 21 #[] #[{ accessFlags := 2, nameIndex := 9, descriptorIndex := 19, attributes := #[] }] 33 16 #[] #[{ accessFlags := 24, nameIndex := 28, descriptorIndex := 29, attributes := #[] }, { accessFlags := 26, nameIndex := 38, descriptorIndex := 39, attributes := #[] }, { accessFlags := 25, nameIndex := 121, descriptorIndex := 25, attributes := #[] }, { accessFlags := 25, nameIndex := 131, descriptorIndex := 25, attributes := #[] }, { accessFlags := 25, nameIndex := 137, descriptorIndex := 25, attributes := #[] }, { accessFlags := 25, nameIndex := 143, descriptorIndex := 25, attributes := #[] }, { accessFlags := 25, nameIndex := 53, descriptorIndex := 25, attributes := #[] }, { accessFlags := 25, nameIndex := 24, descriptorIndex := 25, attributes := #[] }, { accessFlags := 25, nameIndex := 162, descriptorIndex := 25, attributes := #[] }, { accessFlags := 25, nameIndex := 187, descriptorIndex := 25, attributes := #[] }, { accessFlags := 26, nameIndex := 48, descriptorIndex := 25, attributes := #[] }, { accessFlags := 25, nameIndex := 277, descriptorIndex := 25, attributes := #[] }, { accessFlags := 25, nameIndex := 280, descriptorIndex := 25, attributes := #[] }, { accessFlags := 25, nameIndex := 282, descriptorIndex := 25, attributes := #[] }, { accessFlags := 25, nameIndex := 284, descriptorIndex := 25, attributes := #[] }, { accessFlags := 25, nameIndex := 286, descriptorIndex := 25, attributes := #[] }, { accessFlags := 25, nameIndex := 288, descriptorIndex := 25, attributes := #[] }, { accessFlags := 25, nameIndex := 290, descriptorIndex := 25, attributes := #[] }, { accessFlags := 25, nameIndex := 292, descriptorIndex := 25, attributes := #[] }, { accessFlags := 26, nameIndex := 108, descriptorIndex := 109, attributes := #[] }, { accessFlags := 25, nameIndex := 294, descriptorIndex := 25, attributes := #[] }])
  fields := #[{ name := "U", type := (.object "jdk/internal/misc/Unsafe"), accessFlags := 24, slot := 0, constantValue := 0 }, { name := "BIG_ENDIAN", type := .boolean, accessFlags := 26, slot := 1, constantValue := 0 }, { name := "LOG2_ARRAY_BOOLEAN_INDEX_SCALE", type := .int, accessFlags := 25, slot := 2, constantValue := 0 }, { name := "LOG2_ARRAY_BYTE_INDEX_SCALE", type := .int, accessFlags := 25, slot := 3, constantValue := 0 }, { name := "LOG2_ARRAY_CHAR_INDEX_SCALE", type := .int, accessFlags := 25, slot := 4, constantValue := 0 }, { name := "LOG2_ARRAY_SHORT_INDEX_SCALE", type := .int, accessFlags := 25, slot := 5, constantValue := 0 }, { name := "LOG2_ARRAY_INT_INDEX_SCALE", type := .int, accessFlags := 25, slot := 6, constantValue := 0 }, { name := "LOG2_ARRAY_LONG_INDEX_SCALE", type := .int, accessFlags := 25, slot := 7, constantValue := 0 }, { name := "LOG2_ARRAY_FLOAT_INDEX_SCALE", type := .int, accessFlags := 25, slot := 8, constantValue := 0 }, { name := "LOG2_ARRAY_DOUBLE_INDEX_SCALE", type := .int, accessFlags := 25, slot := 9, constantValue := 0 }, { name := "LOG2_BYTE_BIT_SIZE", type := .int, accessFlags := 26, slot := 10, constantValue := 0 }, { name := "T_BOOLEAN", type := .int, accessFlags := 25, slot := 11, constantValue := 0 }, { name := "T_CHAR", type := .int, accessFlags := 25, slot := 12, constantValue := 0 }, { name := "T_FLOAT", type := .int, accessFlags := 25, slot := 13, constantValue := 0 }, { name := "T_DOUBLE", type := .int, accessFlags := 25, slot := 14, constantValue := 0 }, { name := "T_BYTE", type := .int, accessFlags := 25, slot := 15, constantValue := 0 }, { name := "T_SHORT", type := .int, accessFlags := 25, slot := 16, constantValue := 0 }, { name := "T_INT", type := .int, accessFlags := 25, slot := 17, constantValue := 0 }, { name := "T_LONG", type := .int, accessFlags := 25, slot := 18, constantValue := 0 }, { name := "JLA", type := (.object "jdk/internal/access/JavaLangAccess"), accessFlags := 26, slot := 19, constantValue := 0 }, { name := "SOFT_MAX_ARRAY_LENGTH", type := .int, accessFlags := 25, slot := 20, constantValue := 0 }]
  methods := #[k19m0]
  instanceTypes := #[]
  staticTypes := #[(.object "jdk/internal/misc/Unsafe"), .boolean, .int, .int, .int, .int, .int, .int, .int, .int, .int, .int, .int, .int, .int, .int, .int, .int, .int, (.object "jdk/internal/access/JavaLangAccess"), .int]
  resolved := Array.replicate 378 none
  statics := none }

def pool20 : Array CpInfo := pool [(1, u "java/lang/Cloneable"), (0, .class_ 1), (0, u "java/lang/Object"), (0, .class_ 3)] 3

/-- java/lang/Cloneable -/
def k20 : Class := { plain "java/lang/Cloneable" (some 0) with
  accessFlags := 1537
  interfaces := #[]
  cf := some (fileOf pool20 2 #[] #[] 1537 4 #[] #[])
  fields := #[]
  methods := #[]
  instanceTypes := #[]
  staticTypes := #[]
  resolved := Array.replicate 8 none
  statics := none }

/-- the primitive byte -/
def k21 : Class := { plain "byte" none with kind := .primitive 'B', accessFlags := 0x411 }
/-- [B -/
def k22 : Class := { plain "[B" (some 0) with kind := .array 21 .byte, interfaces := #[20, 2], accessFlags := 1041 }

/-- the primitive char -/
def k23 : Class := { plain "char" none with kind := .primitive 'C', accessFlags := 0x411 }
/-- [C -/
def k24 : Class := { plain "[C" (some 0) with kind := .array 23 .char, interfaces := #[20, 2], accessFlags := 1041 }

/-- the primitive int -/
def k25 : Class := { plain "int" none with kind := .primitive 'I', accessFlags := 0x411 }
/-- [I -/
def k26 : Class := { plain "[I" (some 0) with kind := .array 25 .int, interfaces := #[20, 2], accessFlags := 1041 }

def heap : Heap := #[{ cls := 7, slots := #[.long 0, .int 1, .null, .int 0, .null, .int 0, .int 0], vm := .statics 7 },
  { cls := 18, slots := #[.null, .null, .null], vm := .statics 18 }]
def classes : Array Class := #[k0, k1, k2, k3, k4, k5, k6, k7, k8, k9, k10, k11, k12, k13, k14, k15, k16, k17, k18, k19, k20, k21, k22, k23, k24, k25, k26]
def interned : List (Array UInt16 × Addr) := []
def slotsUsed : Nat := 10
def theMethod : MethodId := ⟨1, 1⟩
def args0 : Array Value := #[.int 91489, .int 91490, .int 65]
def aboutOver (below : List Frame) : State where
  vm := { classes := classes, interned := interned.toArray }
  heap := heap
  slotsUsed := slotsUsed
  threads := #[{ frames := .invoking theMethod args0 :: below }]
def below0 : List Frame := [.native { method := ⟨0, 0⟩, args := #[] }]
def about1 : State := aboutOver below0
def p0 : Program := .bare "" "" ""
def e0 : Env := launch0.env 0 0 0
theorem w_frames : about1.frames = Frame.invoking theMethod args0 :: below0 := rfl
set_option maxRecDepth 65536 in
theorem w_args : argsFit about1.vm theMethod args0 = true := by decide +kernel
set_option maxRecDepth 65536 in
theorem w_heap : heapFits about1 = true := by decide +kernel
set_option maxRecDepth 65536 in
theorem w_runnable : about1.curStatus? = some .runnable := by decide +kernel
set_option maxRecDepth 65536 in
theorem w_alone : about1.alone = true := by decide +kernel
set_option maxRecDepth 65536 in
theorem w_named : about1.methodNamed? x = some theMethod := by decide +kernel
set_option maxRecDepth 65536 in
theorem w_hears : about1.hears theMethod below0 = true := by decide +kernel
set_option maxRecDepth 65536 in
theorem w_ripe : about1.ripe theMethod args0 below0 = true := by decide +kernel
theorem w_running : about1.status = .running := rfl
set_option maxRecDepth 65536 in
theorem w_room : about1.hasRoom e0.platform room_1 = true :=
  launch0.hasRoom_least _ room_1 (by decide +kernel) (by decide +kernel) (by decide +kernel) (by decide +kernel) (by decide +kernel) (by decide +kernel)
theorem allAtoms_all (ts : List Jvm.Cond) (a : Array Jvm.Value) (st : Jvm.State) : (allAtoms ts).before a st = ts.all (fun c => c.before a st) := by
  induction ts with
  | nil => rfl
  | cons c t ih =>
    show (Jvm.Cond.and c (allAtoms t)).before a st = _
    rw [Jvm.Cond.before_and, ih, List.all_cons]
def words1 : List Jvm.Cond := Jvm.Cond.code x code maxLocals ret :: tables_1
/-- a 'code' word, met by the world's own term for the bytes: nothing is compared byte by byte -/
theorem code_word {y : MethodName} {bytes : ByteArray} {mx : Nat} {rt : Option FieldType} {a : Array Value} {s : State} {m : MethodId} {meth : Method} {c : Code} (h1 : s.methodNamed? y = some m) (h2 : s.vm.method? m = some meth) (h3 : meth.code = some c) (h4 : c.code = bytes)
    (h5 : (c.maxLocals == mx && c.exceptionTable.isEmpty && decide (c.maxStack ≤ mostOperands) && decide (meth.sig.returnType = rt) && !meth.locks && decide (parseMethodDescriptor y.desc = some meth.sig)) = true) : (Jvm.Cond.code y bytes mx rt).before a s = true := by
  simp only [Bool.and_eq_true, beq_iff_eq, Bool.not_eq_true', decide_eq_true_eq] at h5
  obtain ⟨⟨⟨⟨⟨g1, g2⟩, g3⟩, g4⟩, g5⟩, g6⟩ := h5
  simp [Cond.before, Cond.holds, Cond.value, h1, h2, h3, h4, g1, g2, g3, g4, g5, g6]
def isCode : Jvm.Cond → Bool
  | .code _ _ _ _ => true
  | _ => false
theorem all_split {L : List Jvm.Cond} {P : Jvm.Cond → Bool} (h1 : L.all (fun c => isCode c || P c) = true) (h2 : ∀ c ∈ L.filter isCode, P c = true) : L.all P = true := by
  refine List.all_eq_true.mpr fun c hc => ?_
  have h := List.all_eq_true.mp h1 c hc
  rcases Bool.eq_false_or_eq_true (isCode c) with hi | hi
  · exact h2 c (List.mem_filter.mpr ⟨hc, hi⟩)
  · simpa [hi] using h
set_option maxRecDepth 65536 in
theorem w_c0 : (Jvm.Cond.code x code maxLocals ret).before args0 about1 = true := code_word (m := ⟨1, 1⟩) (meth := k1m1) (c := k1c1) (by decide +kernel) rfl rfl rfl (by decide +kernel)
set_option maxRecDepth 65536 in
theorem w_c1 : (Jvm.Cond.code ({ cls := "com/example/hulse/hulse/failure/ExplanationOfPinLaw", name := "mk", desc := "(I)Ljava/lang/String;" } : Jvm.MethodName) method_3_code (4 : Nat) (Option.some (Jvm.ClassFile.FieldType.object "java/lang/String"))).before args0 about1 = true := code_word (m := ⟨1, 2⟩) (meth := k1m2) (c := k1c2) (by decide +kernel) rfl rfl rfl (by decide +kernel)
set_option maxRecDepth 65536 in
theorem w_c2 : (Jvm.Cond.code ({ cls := "java/lang/String", name := "<init>", desc := "([C)V" } : Jvm.MethodName) jdk_42_method_3_code (2 : Nat) (Option.none : Option Jvm.ClassFile.FieldType)).before args0 about1 = true := code_word (m := ⟨7, 1⟩) (meth := k7m1) (c := k7c1) (by decide +kernel) rfl rfl rfl (by decide +kernel)
set_option maxRecDepth 65536 in
theorem w_c3 : (Jvm.Cond.code ({ cls := "java/lang/String", name := "<init>", desc := "([CIILjava/lang/Void;)V" } : Jvm.MethodName) jdk_42_method_149_code (6 : Nat) (Option.none : Option Jvm.ClassFile.FieldType)).before args0 about1 = true := code_word (m := ⟨7, 7⟩) (meth := k7m7) (c := k7c7) (by decide +kernel) rfl rfl rfl (by decide +kernel)
set_option maxRecDepth 65536 in
theorem w_c4 : (Jvm.Cond.code ({ cls := "java/lang/Object", name := "<init>", desc := "()V" } : Jvm.MethodName) object_method_1_code (1 : Nat) (Option.none : Option Jvm.ClassFile.FieldType)).before args0 about1 = true := code_word (m := ⟨0, 0⟩) (meth := k0m0) (c := k0c0) (by decide +kernel) rfl rfl rfl (by decide +kernel)
set_option maxRecDepth 65536 in
theorem w_c5 : (Jvm.Cond.code ({ cls := "com/example/hulse/hulse/failure/Explanation", name := "of", desc := "(Ljava/lang/String;Ljava/lang/String;Ljava/lang/String;)Lcom/example/hulse/hulse/failure/Explanation;" } : Jvm.MethodName) prog_86_method_2_code (3 : Nat) (Option.some (Jvm.ClassFile.FieldType.object "com/example/hulse/hulse/failure/Explanation"))).before args0 about1 = true := code_word (m := ⟨9, 1⟩) (meth := k9m1) (c := k9c1) (by decide +kernel) rfl rfl rfl (by decide +kernel)
set_option maxRecDepth 65536 in
theorem w_c6 : (Jvm.Cond.code ({ cls := "java/lang/StringBuilder", name := "<init>", desc := "()V" } : Jvm.MethodName) jdk_67_method_1_code (1 : Nat) (Option.none : Option Jvm.ClassFile.FieldType)).before args0 about1 = true := code_word (m := ⟨12, 0⟩) (meth := k12m0) (c := k12c0) (by decide +kernel) rfl rfl rfl (by decide +kernel)
set_option maxRecDepth 65536 in
theorem w_c7 : (Jvm.Cond.code ({ cls := "java/lang/AbstractStringBuilder", name := "<init>", desc := "(I)V" } : Jvm.MethodName) jdk_68_method_2_code (2 : Nat) (Option.none : Option Jvm.ClassFile.FieldType)).before args0 about1 = true := code_word (m := ⟨11, 1⟩) (meth := k11m1) (c := k11c1) (by decide +kernel) rfl rfl rfl (by decide +kernel)
set_option maxRecDepth 65536 in
theorem w_c8 : (Jvm.Cond.code ({ cls := "java/lang/StringBuilder", name := "append", desc := "(Ljava/lang/String;)Ljava/lang/StringBuilder;" } : Jvm.MethodName) jdk_67_method_7_code (2 : Nat) (Option.some (Jvm.ClassFile.FieldType.object "java/lang/StringBuilder"))).before args0 about1 = true := code_word (m := ⟨12, 1⟩) (meth := k12m1) (c := k12c1) (by decide +kernel) rfl rfl rfl (by decide +kernel)
set_option maxRecDepth 65536 in
theorem w_c9 : (Jvm.Cond.code ({ cls := "java/lang/AbstractStringBuilder", name := "append", desc := "(Ljava/lang/String;)Ljava/lang/AbstractStringBuilder;" } : Jvm.MethodName) jdk_68_method_22_code (3 : Nat) (Option.some (Jvm.ClassFile.FieldType.object "java/lang/AbstractStringBuilder"))).before args0 about1 = true := code_word (m := ⟨11, 4⟩) (meth := k11m4) (c := k11c4) (by decide +kernel) rfl rfl rfl (by decide +kernel)
set_option maxRecDepth 65536 in
theorem w_c10 : (Jvm.Cond.code ({ cls := "java/lang/String", name := "length", desc := "()I" } : Jvm.MethodName) jdk_42_method_54_code (1 : Nat) (Option.some Jvm.ClassFile.FieldType.int)).before args0 about1 = true := code_word (m := ⟨7, 3⟩) (meth := k7m3) (c := k7c3) (by decide +kernel) rfl rfl rfl (by decide +kernel)
set_option maxRecDepth 65536 in
theorem w_c11 : (Jvm.Cond.code ({ cls := "java/lang/String", name := "coder", desc := "()B" } : Jvm.MethodName) jdk_42_method_152_code (1 : Nat) (Option.some Jvm.ClassFile.FieldType.byte)).before args0 about1 = true := code_word (m := ⟨7, 9⟩) (meth := k7m9) (c := k7c9) (by decide +kernel) rfl rfl rfl (by decide +kernel)
set_option maxRecDepth 65536 in
theorem w_c12 : (Jvm.Cond.code ({ cls := "java/lang/AbstractStringBuilder", name := "ensureCapacityInternal", desc := "(I)V" } : Jvm.MethodName) jdk_68_method_9_code (3 : Nat) (Option.none : Option Jvm.ClassFile.FieldType)).before args0 about1 = true := code_word (m := ⟨11, 3⟩) (meth := k11m3) (c := k11c3) (by decide +kernel) rfl rfl rfl (by decide +kernel)
set_option maxRecDepth 65536 in
theorem w_c13 : (Jvm.Cond.code ({ cls := "java/lang/AbstractStringBuilder", name := "putStringAt", desc := "(ILjava/lang/String;)V" } : Jvm.MethodName) jdk_68_method_73_code (3 : Nat) (Option.none : Option Jvm.ClassFile.FieldType)).before args0 about1 = true := code_word (m := ⟨11, 8⟩) (meth := k11m8) (c := k11c8) (by decide +kernel) rfl rfl rfl (by decide +kernel)
set_option maxRecDepth 65536 in
theorem w_c14 : (Jvm.Cond.code ({ cls := "java/lang/AbstractStringBuilder", name := "inflateIfNeededFor", desc := "(Ljava/lang/String;)V" } : Jvm.MethodName) jdk_68_method_71_code (2 : Nat) (Option.none : Option Jvm.ClassFile.FieldType)).before args0 about1 = true := code_word (m := ⟨11, 7⟩) (meth := k11m7) (c := k11c7) (by decide +kernel) rfl rfl rfl (by decide +kernel)
set_option maxRecDepth 65536 in
theorem w_c15 : (Jvm.Cond.code ({ cls := "java/lang/String", name := "getBytes", desc := "([BIB)V" } : Jvm.MethodName) jdk_42_method_147_code (4 : Nat) (Option.none : Option Jvm.ClassFile.FieldType)).before args0 about1 = true := code_word (m := ⟨7, 6⟩) (meth := k7m6) (c := k7c6) (by decide +kernel) rfl rfl rfl (by decide +kernel)
set_option maxRecDepth 65536 in
theorem w_c16 : (Jvm.Cond.code ({ cls := "java/lang/StringBuilder", name := "toString", desc := "()Ljava/lang/String;" } : Jvm.MethodName) jdk_67_method_42_code (1 : Nat) (Option.some (Jvm.ClassFile.FieldType.object "java/lang/String"))).before args0 about1 = true := code_word (m := ⟨12, 2⟩) (meth := k12m2) (c := k12c2) (by decide +kernel) rfl rfl rfl (by decide +kernel)
set_option maxRecDepth 65536 in
theorem w_c17 : (Jvm.Cond.code ({ cls := "java/lang/String", name := "<init>", desc := "(Ljava/lang/StringBuilder;)V" } : Jvm.MethodName) jdk_42_method_53_code (2 : Nat) (Option.none : Option Jvm.ClassFile.FieldType)).before args0 about1 = true := code_word (m := ⟨7, 2⟩) (meth := k7m2) (c := k7c2) (by decide +kernel) rfl rfl rfl (by decide +kernel)
set_option maxRecDepth 65536 in
theorem w_c18 : (Jvm.Cond.code ({ cls := "java/lang/String", name := "<init>", desc := "(Ljava/lang/AbstractStringBuilder;Ljava/lang/Void;)V" } : Jvm.MethodName) jdk_42_method_150_code (5 : Nat) (Option.none : Option Jvm.ClassFile.FieldType)).before args0 about1 = true := code_word (m := ⟨7, 8⟩) (meth := k7m8) (c := k7c8) (by decide +kernel) rfl rfl rfl (by decide +kernel)
set_option maxRecDepth 65536 in
theorem w_c19 : (Jvm.Cond.code ({ cls := "java/lang/AbstractStringBuilder", name := "getValue", desc := "()[B" } : Jvm.MethodName) jdk_68_method_64_code (1 : Nat) (Option.some (Jvm.ClassFile.FieldType.array Jvm.ClassFile.FieldType.byte))).before args0 about1 = true := code_word (m := ⟨11, 5⟩) (meth := k11m5) (c := k11c5) (by decide +kernel) rfl rfl rfl (by decide +kernel)
set_option maxRecDepth 65536 in
theorem w_c20 : (Jvm.Cond.code ({ cls := "java/lang/StringBuilder", name := "length", desc := "()I" } : Jvm.MethodName) jdk_67_method_93_code (1 : Nat) (Option.some Jvm.ClassFile.FieldType.int)).before args0 about1 = true := code_word (m := ⟨12, 3⟩) (meth := k12m3) (c := k12c3) (by decide +kernel) rfl rfl rfl (by decide +kernel)
set_option maxRecDepth 65536 in
theorem w_c21 : (Jvm.Cond.code ({ cls := "java/lang/AbstractStringBuilder", name := "length", desc := "()I" } : Jvm.MethodName) jdk_68_method_6_code (1 : Nat) (Option.some Jvm.ClassFile.FieldType.int)).before args0 about1 = true := code_word (m := ⟨11, 2⟩) (meth := k11m2) (c := k11c2) (by decide +kernel) rfl rfl rfl (by decide +kernel)
set_option maxRecDepth 65536 in
theorem w_c22 : (Jvm.Cond.code ({ cls := "java/lang/AbstractStringBuilder", name := "isLatin1", desc := "()Z" } : Jvm.MethodName) jdk_68_method_68_code (1 : Nat) (Option.some Jvm.ClassFile.FieldType.boolean)).before args0 about1 = true := code_word (m := ⟨11, 6⟩) (meth := k11m6) (c := k11c6) (by decide +kernel) rfl rfl rfl (by decide +kernel)
set_option maxRecDepth 65536 in
theorem w_c23 : (Jvm.Cond.code ({ cls := "java/util/Arrays", name := "copyOfRange", desc := "([BII)[B" } : Jvm.MethodName) jdk_65_method_132_code (3 : Nat) (Option.some (Jvm.ClassFile.FieldType.array Jvm.ClassFile.FieldType.byte))).before args0 about1 = true := code_word (m := ⟨14, 2⟩) (meth := k14m2) (c := k14c2) (by decide +kernel) rfl rfl rfl (by decide +kernel)
set_option maxRecDepth 65536 in
theorem w_c24 : (Jvm.Cond.code ({ cls := "java/util/Arrays", name := "copyOfRangeByte", desc := "([BII)[B" } : Jvm.MethodName) jdk_65_method_133_code (5 : Nat) (Option.some (Jvm.ClassFile.FieldType.array Jvm.ClassFile.FieldType.byte))).before args0 about1 = true := code_word (m := ⟨14, 3⟩) (meth := k14m3) (c := k14c3) (by decide +kernel) rfl rfl rfl (by decide +kernel)
set_option maxRecDepth 65536 in
theorem w_c25 : (Jvm.Cond.code ({ cls := "java/util/Arrays", name := "checkLength", desc := "(II)V" } : Jvm.MethodName) jdk_65_method_131_code (2 : Nat) (Option.none : Option Jvm.ClassFile.FieldType)).before args0 about1 = true := code_word (m := ⟨14, 1⟩) (meth := k14m1) (c := k14c1) (by decide +kernel) rfl rfl rfl (by decide +kernel)
set_option maxRecDepth 65536 in
theorem w_c26 : (Jvm.Cond.code ({ cls := "java/lang/Math", name := "min", desc := "(II)I" } : Jvm.MethodName) jdk_29_method_69_code (2 : Nat) (Option.some Jvm.ClassFile.FieldType.int)).before args0 about1 = true := code_word (m := ⟨15, 1⟩) (meth := k15m1) (c := k15c1) (by decide +kernel) rfl rfl rfl (by decide +kernel)
set_option maxRecDepth 65536 in
theorem w_c27 : (Jvm.Cond.code ({ cls := "com/example/hulse/hulse/failure/Explanation", name := "<init>", desc := "(Ljava/lang/String;Ljava/lang/String;Ljava/lang/String;)V" } : Jvm.MethodName) prog_86_method_1_code (4 : Nat) (Option.none : Option Jvm.ClassFile.FieldType)).before args0 about1 = true := code_word (m := ⟨9, 0⟩) (meth := k9m0) (c := k9c0) (by decide +kernel) rfl rfl rfl (by decide +kernel)
set_option maxRecDepth 65536 in
theorem w_c28 : (Jvm.Cond.code ({ cls := "java/lang/Record", name := "<init>", desc := "()V" } : Jvm.MethodName) jdk_30_method_1_code (1 : Nat) (Option.none : Option Jvm.ClassFile.FieldType)).before args0 about1 = true := code_word (m := ⟨8, 0⟩) (meth := k8m0) (c := k8c0) (by decide +kernel) rfl rfl rfl (by decide +kernel)
set_option maxRecDepth 65536 in
theorem w_c29 : (Jvm.Cond.code ({ cls := "com/example/hulse/hulse/failure/Explanation", name := "message", desc := "()Ljava/lang/String;" } : Jvm.MethodName) prog_86_method_18_code (1 : Nat) (Option.some (Jvm.ClassFile.FieldType.object "java/lang/String"))).before args0 about1 = true := code_word (m := ⟨9, 2⟩) (meth := k9m2) (c := k9c2) (by decide +kernel) rfl rfl rfl (by decide +kernel)
set_option maxRecDepth 65536 in
theorem w_c30 : (Jvm.Cond.code ({ cls := "com/example/hulse/hulse/failure/Explanation", name := "description", desc := "()Ljava/lang/String;" } : Jvm.MethodName) prog_86_method_19_code (1 : Nat) (Option.some (Jvm.ClassFile.FieldType.object "java/lang/String"))).before args0 about1 = true := code_word (m := ⟨9, 3⟩) (meth := k9m3) (c := k9c3) (by decide +kernel) rfl rfl rfl (by decide +kernel)
set_option maxRecDepth 65536 in
theorem w_c31 : (Jvm.Cond.code ({ cls := "java/lang/String", name := "equals", desc := "(Ljava/lang/Object;)Z" } : Jvm.MethodName) jdk_42_method_66_code (3 : Nat) (Option.some Jvm.ClassFile.FieldType.boolean)).before args0 about1 = true := code_word (m := ⟨7, 5⟩) (meth := k7m5) (c := k7c5) (by decide +kernel) rfl rfl rfl (by decide +kernel)
set_option maxRecDepth 65536 in
theorem w_c32 : (Jvm.Cond.code ({ cls := "com/example/hulse/hulse/failure/Explanation", name := "action", desc := "()Ljava/lang/String;" } : Jvm.MethodName) prog_86_method_20_code (1 : Nat) (Option.some (Jvm.ClassFile.FieldType.object "java/lang/String"))).before args0 about1 = true := code_word (m := ⟨9, 4⟩) (meth := k9m4) (c := k9c4) (by decide +kernel) rfl rfl rfl (by decide +kernel)
set_option maxRecDepth 65536 in
theorem w_c33 : (Jvm.Cond.code ({ cls := "com/example/hulse/hulse/failure/ExplanationOfPinLaw", name := "at", desc := "(Ljava/lang/String;ILjava/lang/String;Ljava/lang/String;Ljava/lang/String;)Z" } : Jvm.MethodName) method_4_code (8 : Nat) (Option.some Jvm.ClassFile.FieldType.boolean)).before args0 about1 = true := code_word (m := ⟨1, 3⟩) (meth := k1m3) (c := k1c3) (by decide +kernel) rfl rfl rfl (by decide +kernel)
set_option maxRecDepth 65536 in
theorem w_c34 : (Jvm.Cond.code ({ cls := "java/lang/StringUTF16", name := "compress", desc := "([CII)[B" } : Jvm.MethodName) jdk_52_method_16_code (6 : Nat) (Option.some (Jvm.ClassFile.FieldType.array Jvm.ClassFile.FieldType.byte))).before args0 about1 = true := code_word (m := ⟨16, 2⟩) (meth := k16m2) (c := k16c2) (by decide +kernel) rfl rfl rfl (by decide +kernel)
set_option maxRecDepth 65536 in
theorem w_c35 : (Jvm.Cond.code ({ cls := "java/lang/StringUTF16", name := "compress", desc := "([CI[BII)I" } : Jvm.MethodName) jdk_52_method_21_code (7 : Nat) (Option.some Jvm.ClassFile.FieldType.int)).before args0 about1 = true := code_word (m := ⟨16, 3⟩) (meth := k16m3) (c := k16c3) (by decide +kernel) rfl rfl rfl (by decide +kernel)
set_option maxRecDepth 65536 in
theorem w_c36 : (Jvm.Cond.code ({ cls := "java/lang/StringUTF16", name := "coderFromArrayLen", desc := "([BI)B" } : Jvm.MethodName) jdk_52_method_15_code (2 : Nat) (Option.some Jvm.ClassFile.FieldType.byte)).before args0 about1 = true := code_word (m := ⟨16, 1⟩) (meth := k16m1) (c := k16c1) (by decide +kernel) rfl rfl rfl (by decide +kernel)
set_option maxRecDepth 65536 in
theorem w_c37 : (Jvm.Cond.code ({ cls := "java/lang/String", name := "charAt", desc := "(I)C" } : Jvm.MethodName) jdk_42_method_56_code (2 : Nat) (Option.some Jvm.ClassFile.FieldType.char)).before args0 about1 = true := code_word (m := ⟨7, 4⟩) (meth := k7m4) (c := k7c4) (by decide +kernel) rfl rfl rfl (by decide +kernel)
set_option maxRecDepth 65536 in
theorem w_c38 : (Jvm.Cond.code ({ cls := "java/lang/String", name := "isLatin1", desc := "()Z" } : Jvm.MethodName) jdk_42_method_154_code (1 : Nat) (Option.some Jvm.ClassFile.FieldType.boolean)).before args0 about1 = true := code_word (m := ⟨7, 10⟩) (meth := k7m10) (c := k7c10) (by decide +kernel) rfl rfl rfl (by decide +kernel)
set_option maxRecDepth 65536 in
theorem w_c39 : (Jvm.Cond.code ({ cls := "java/lang/StringLatin1", name := "charAt", desc := "([BI)C" } : Jvm.MethodName) jdk_43_method_2_code (2 : Nat) (Option.some Jvm.ClassFile.FieldType.char)).before args0 about1 = true := code_word (m := ⟨17, 1⟩) (meth := k17m1) (c := k17c1) (by decide +kernel) rfl rfl rfl (by decide +kernel)
set_option maxRecDepth 65536 in
theorem w_c40 : (Jvm.Cond.code ({ cls := "java/lang/String", name := "checkIndex", desc := "(II)V" } : Jvm.MethodName) jdk_42_method_155_code (2 : Nat) (Option.none : Option Jvm.ClassFile.FieldType)).before args0 about1 = true := code_word (m := ⟨7, 11⟩) (meth := k7m11) (c := k7c11) (by decide +kernel) rfl rfl rfl (by decide +kernel)
set_option maxRecDepth 65536 in
theorem w_c41 : (Jvm.Cond.code ({ cls := "jdk/internal/util/Preconditions", name := "checkIndex", desc := "(IILjava/util/function/BiFunction;)I" } : Jvm.MethodName) jdk_41_method_11_code (3 : Nat) (Option.some Jvm.ClassFile.FieldType.int)).before args0 about1 = true := code_word (m := ⟨18, 1⟩) (meth := k18m1) (c := k18c1) (by decide +kernel) rfl rfl rfl (by decide +kernel)
def codes1 : List Jvm.Cond := [Jvm.Cond.code x code maxLocals ret, Jvm.Cond.code ({ cls := "com/example/hulse/hulse/failure/ExplanationOfPinLaw", name := "mk", desc := "(I)Ljava/lang/String;" } : Jvm.MethodName) method_3_code (4 : Nat) (Option.some (Jvm.ClassFile.FieldType.object "java/lang/String")), Jvm.Cond.code ({ cls := "java/lang/String", name := "<init>", desc := "([C)V" } : Jvm.MethodName) jdk_42_method_3_code (2 : Nat) (Option.none : Option Jvm.ClassFile.FieldType), Jvm.Cond.code ({ cls := "java/lang/String", name := "<init>", desc := "([CIILjava/lang/Void;)V" } : Jvm.MethodName) jdk_42_method_149_code (6 : Nat) (Option.none : Option Jvm.ClassFile.FieldType), Jvm.Cond.code ({ cls := "java/lang/Object", name := "<init>", desc := "()V" } : Jvm.MethodName) object_method_1_code (1 : Nat) (Option.none : Option Jvm.ClassFile.FieldType), Jvm.Cond.code ({ cls := "com/example/hulse/hulse/failure/Explanation", name := "of", desc := "(Ljava/lang/String;Ljava/lang/String;Ljava/lang/String;)Lcom/example/hulse/hulse/failure/Explanation;" } : Jvm.MethodName) prog_86_method_2_code (3 : Nat) (Option.some (Jvm.ClassFile.FieldType.object "com/example/hulse/hulse/failure/Explanation")), Jvm.Cond.code ({ cls := "java/lang/StringBuilder", name := "<init>", desc := "()V" } : Jvm.MethodName) jdk_67_method_1_code (1 : Nat) (Option.none : Option Jvm.ClassFile.FieldType), Jvm.Cond.code ({ cls := "java/lang/AbstractStringBuilder", name := "<init>", desc := "(I)V" } : Jvm.MethodName) jdk_68_method_2_code (2 : Nat) (Option.none : Option Jvm.ClassFile.FieldType), Jvm.Cond.code ({ cls := "java/lang/StringBuilder", name := "append", desc := "(Ljava/lang/String;)Ljava/lang/StringBuilder;" } : Jvm.MethodName) jdk_67_method_7_code (2 : Nat) (Option.some (Jvm.ClassFile.FieldType.object "java/lang/StringBuilder")), Jvm.Cond.code ({ cls := "java/lang/AbstractStringBuilder", name := "append", desc := "(Ljava/lang/String;)Ljava/lang/AbstractStringBuilder;" } : Jvm.MethodName) jdk_68_method_22_code (3 : Nat) (Option.some (Jvm.ClassFile.FieldType.object "java/lang/AbstractStringBuilder")), Jvm.Cond.code ({ cls := "java/lang/String", name := "length", desc := "()I" } : Jvm.MethodName) jdk_42_method_54_code (1 : Nat) (Option.some Jvm.ClassFile.FieldType.int), Jvm.Cond.code ({ cls := "java/lang/String", name := "coder", desc := "()B" } : Jvm.MethodName) jdk_42_method_152_code (1 : Nat) (Option.some Jvm.ClassFile.FieldType.byte), Jvm.Cond.code ({ cls := "java/lang/AbstractStringBuilder", name := "ensureCapacityInternal", desc := "(I)V" } : Jvm.MethodName) jdk_68_method_9_code (3 : Nat) (Option.none : Option Jvm.ClassFile.FieldType), Jvm.Cond.code ({ cls := "java/lang/AbstractStringBuilder", name := "putStringAt", desc := "(ILjava/lang/String;)V" } : Jvm.MethodName) jdk_68_method_73_code (3 : Nat) (Option.none : Option Jvm.ClassFile.FieldType), Jvm.Cond.code ({ cls := "java/lang/AbstractStringBuilder", name := "inflateIfNeededFor", desc := "(Ljava/lang/String;)V" } : Jvm.MethodName) jdk_68_method_71_code (2 : Nat) (Option.none : Option Jvm.ClassFile.FieldType), Jvm.Cond.code ({ cls := "java/lang/String", name := "getBytes", desc := "([BIB)V" } : Jvm.MethodName) jdk_42_method_147_code (4 : Nat) (Option.none : Option Jvm.ClassFile.FieldType), Jvm.Cond.code ({ cls := "java/lang/StringBuilder", name := "toString", desc := "()Ljava/lang/String;" } : Jvm.MethodName) jdk_67_method_42_code (1 : Nat) (Option.some (Jvm.ClassFile.FieldType.object "java/lang/String")), Jvm.Cond.code ({ cls := "java/lang/String", name := "<init>", desc := "(Ljava/lang/StringBuilder;)V" } : Jvm.MethodName) jdk_42_method_53_code (2 : Nat) (Option.none : Option Jvm.ClassFile.FieldType), Jvm.Cond.code ({ cls := "java/lang/String", name := "<init>", desc := "(Ljava/lang/AbstractStringBuilder;Ljava/lang/Void;)V" } : Jvm.MethodName) jdk_42_method_150_code (5 : Nat) (Option.none : Option Jvm.ClassFile.FieldType), Jvm.Cond.code ({ cls := "java/lang/AbstractStringBuilder", name := "getValue", desc := "()[B" } : Jvm.MethodName) jdk_68_method_64_code (1 : Nat) (Option.some (Jvm.ClassFile.FieldType.array Jvm.ClassFile.FieldType.byte)), Jvm.Cond.code ({ cls := "java/lang/StringBuilder", name := "length", desc := "()I" } : Jvm.MethodName) jdk_67_method_93_code (1 : Nat) (Option.some Jvm.ClassFile.FieldType.int), Jvm.Cond.code ({ cls := "java/lang/AbstractStringBuilder", name := "length", desc := "()I" } : Jvm.MethodName) jdk_68_method_6_code (1 : Nat) (Option.some Jvm.ClassFile.FieldType.int), Jvm.Cond.code ({ cls := "java/lang/AbstractStringBuilder", name := "isLatin1", desc := "()Z" } : Jvm.MethodName) jdk_68_method_68_code (1 : Nat) (Option.some Jvm.ClassFile.FieldType.boolean), Jvm.Cond.code ({ cls := "java/util/Arrays", name := "copyOfRange", desc := "([BII)[B" } : Jvm.MethodName) jdk_65_method_132_code (3 : Nat) (Option.some (Jvm.ClassFile.FieldType.array Jvm.ClassFile.FieldType.byte)), Jvm.Cond.code ({ cls := "java/util/Arrays", name := "copyOfRangeByte", desc := "([BII)[B" } : Jvm.MethodName) jdk_65_method_133_code (5 : Nat) (Option.some (Jvm.ClassFile.FieldType.array Jvm.ClassFile.FieldType.byte)), Jvm.Cond.code ({ cls := "java/util/Arrays", name := "checkLength", desc := "(II)V" } : Jvm.MethodName) jdk_65_method_131_code (2 : Nat) (Option.none : Option Jvm.ClassFile.FieldType), Jvm.Cond.code ({ cls := "java/lang/Math", name := "min", desc := "(II)I" } : Jvm.MethodName) jdk_29_method_69_code (2 : Nat) (Option.some Jvm.ClassFile.FieldType.int), Jvm.Cond.code ({ cls := "com/example/hulse/hulse/failure/Explanation", name := "<init>", desc := "(Ljava/lang/String;Ljava/lang/String;Ljava/lang/String;)V" } : Jvm.MethodName) prog_86_method_1_code (4 : Nat) (Option.none : Option Jvm.ClassFile.FieldType), Jvm.Cond.code ({ cls := "java/lang/Record", name := "<init>", desc := "()V" } : Jvm.MethodName) jdk_30_method_1_code (1 : Nat) (Option.none : Option Jvm.ClassFile.FieldType), Jvm.Cond.code ({ cls := "com/example/hulse/hulse/failure/Explanation", name := "message", desc := "()Ljava/lang/String;" } : Jvm.MethodName) prog_86_method_18_code (1 : Nat) (Option.some (Jvm.ClassFile.FieldType.object "java/lang/String")), Jvm.Cond.code ({ cls := "com/example/hulse/hulse/failure/Explanation", name := "description", desc := "()Ljava/lang/String;" } : Jvm.MethodName) prog_86_method_19_code (1 : Nat) (Option.some (Jvm.ClassFile.FieldType.object "java/lang/String")), Jvm.Cond.code ({ cls := "java/lang/String", name := "equals", desc := "(Ljava/lang/Object;)Z" } : Jvm.MethodName) jdk_42_method_66_code (3 : Nat) (Option.some Jvm.ClassFile.FieldType.boolean), Jvm.Cond.code ({ cls := "com/example/hulse/hulse/failure/Explanation", name := "action", desc := "()Ljava/lang/String;" } : Jvm.MethodName) prog_86_method_20_code (1 : Nat) (Option.some (Jvm.ClassFile.FieldType.object "java/lang/String")), Jvm.Cond.code ({ cls := "com/example/hulse/hulse/failure/ExplanationOfPinLaw", name := "at", desc := "(Ljava/lang/String;ILjava/lang/String;Ljava/lang/String;Ljava/lang/String;)Z" } : Jvm.MethodName) method_4_code (8 : Nat) (Option.some Jvm.ClassFile.FieldType.boolean), Jvm.Cond.code ({ cls := "java/lang/StringUTF16", name := "compress", desc := "([CII)[B" } : Jvm.MethodName) jdk_52_method_16_code (6 : Nat) (Option.some (Jvm.ClassFile.FieldType.array Jvm.ClassFile.FieldType.byte)), Jvm.Cond.code ({ cls := "java/lang/StringUTF16", name := "compress", desc := "([CI[BII)I" } : Jvm.MethodName) jdk_52_method_21_code (7 : Nat) (Option.some Jvm.ClassFile.FieldType.int), Jvm.Cond.code ({ cls := "java/lang/StringUTF16", name := "coderFromArrayLen", desc := "([BI)B" } : Jvm.MethodName) jdk_52_method_15_code (2 : Nat) (Option.some Jvm.ClassFile.FieldType.byte), Jvm.Cond.code ({ cls := "java/lang/String", name := "charAt", desc := "(I)C" } : Jvm.MethodName) jdk_42_method_56_code (2 : Nat) (Option.some Jvm.ClassFile.FieldType.char), Jvm.Cond.code ({ cls := "java/lang/String", name := "isLatin1", desc := "()Z" } : Jvm.MethodName) jdk_42_method_154_code (1 : Nat) (Option.some Jvm.ClassFile.FieldType.boolean), Jvm.Cond.code ({ cls := "java/lang/StringLatin1", name := "charAt", desc := "([BI)C" } : Jvm.MethodName) jdk_43_method_2_code (2 : Nat) (Option.some Jvm.ClassFile.FieldType.char), Jvm.Cond.code ({ cls := "java/lang/String", name := "checkIndex", desc := "(II)V" } : Jvm.MethodName) jdk_42_method_155_code (2 : Nat) (Option.none : Option Jvm.ClassFile.FieldType), Jvm.Cond.code ({ cls := "jdk/internal/util/Preconditions", name := "checkIndex", desc := "(IILjava/util/function/BiFunction;)I" } : Jvm.MethodName) jdk_41_method_11_code (3 : Nat) (Option.some Jvm.ClassFile.FieldType.int)]
set_option maxRecDepth 65536 in
theorem codes_eq : words1.filter isCode = codes1 := rfl
theorem w_codes : ∀ c ∈ words1.filter isCode, c.before args0 about1 = true := by
  rw [codes_eq]
  intro c hc
  simp only [codes1, List.mem_cons, List.not_mem_nil, or_false] at hc
  rcases hc with rfl | rfl | rfl | rfl | rfl | rfl | rfl | rfl | rfl | rfl | rfl | rfl | rfl | rfl | rfl | rfl | rfl | rfl | rfl | rfl | rfl | rfl | rfl | rfl | rfl | rfl | rfl | rfl | rfl | rfl | rfl | rfl | rfl | rfl | rfl | rfl | rfl | rfl | rfl | rfl | rfl | rfl
  · exact w_c0
  · exact w_c1
  · exact w_c2
  · exact w_c3
  · exact w_c4
  · exact w_c5
  · exact w_c6
  · exact w_c7
  · exact w_c8
  · exact w_c9
  · exact w_c10
  · exact w_c11
  · exact w_c12
  · exact w_c13
  · exact w_c14
  · exact w_c15
  · exact w_c16
  · exact w_c17
  · exact w_c18
  · exact w_c19
  · exact w_c20
  · exact w_c21
  · exact w_c22
  · exact w_c23
  · exact w_c24
  · exact w_c25
  · exact w_c26
  · exact w_c27
  · exact w_c28
  · exact w_c29
  · exact w_c30
  · exact w_c31
  · exact w_c32
  · exact w_c33
  · exact w_c34
  · exact w_c35
  · exact w_c36
  · exact w_c37
  · exact w_c38
  · exact w_c39
  · exact w_c40
  · exact w_c41
set_option maxRecDepth 65536 in
theorem w_t1 : (words1.take 24).all (fun c => isCode c || c.before args0 about1) = true := by decide +kernel
set_option maxRecDepth 65536 in
theorem w_t2 : ((words1.drop 24).take 24).all (fun c => isCode c || c.before args0 about1) = true := by decide +kernel
set_option maxRecDepth 65536 in
theorem w_t3 : (((words1.drop 24).drop 24).take 24).all (fun c => isCode c || c.before args0 about1) = true := by decide +kernel
set_option maxRecDepth 65536 in
theorem w_t4 : ((((words1.drop 24).drop 24).drop 24).take 24).all (fun c => isCode c || c.before args0 about1) = true := by decide +kernel
set_option maxRecDepth 65536 in
theorem w_t5 : (((((words1.drop 24).drop 24).drop 24).drop 24).take 24).all (fun c => isCode c || c.before args0 about1) = true := by decide +kernel
set_option maxRecDepth 65536 in
theorem w_t6 : ((((((words1.drop 24).drop 24).drop 24).drop 24).drop 24).take 24).all (fun c => isCode c || c.before args0 about1) = true := by decide +kernel
set_option maxRecDepth 65536 in
theorem w_t7 : (((((((words1.drop 24).drop 24).drop 24).drop 24).drop 24).drop 24).take 24).all (fun c => isCode c || c.before args0 about1) = true := by decide +kernel
set_option maxRecDepth 65536 in
theorem w_t8 : ((((((((words1.drop 24).drop 24).drop 24).drop 24).drop 24).drop 24).drop 24).take 24).all (fun c => isCode c || c.before args0 about1) = true := by decide +kernel
set_option maxRecDepth 65536 in
theorem w_t9 : ((((((((words1.drop 24).drop 24).drop 24).drop 24).drop 24).drop 24).drop 24).drop 24).all (fun c => isCode c || c.before args0 about1) = true := by decide +kernel
theorem w_tables : (allAtoms (Jvm.Cond.code x code maxLocals ret :: tables_1)).before args0 about1 = true := by
  rw [allAtoms_all]
  show words1.all (fun c => c.before args0 about1) = true
  refine all_split ?_ w_codes
  rw [← List.take_append_drop 24 words1, List.all_append, w_t1, ← List.take_append_drop 24 (words1.drop 24), List.all_append, w_t2, ← List.take_append_drop 24 ((words1.drop 24).drop 24), List.all_append, w_t3, ← List.take_append_drop 24 (((words1.drop 24).drop 24).drop 24), List.all_append, w_t4, ← List.take_append_drop 24 ((((words1.drop 24).drop 24).drop 24).drop 24), List.all_append, w_t5, ← List.take_append_drop 24 (((((words1.drop 24).drop 24).drop 24).drop 24).drop 24), List.all_append, w_t6, ← List.take_append_drop 24 ((((((words1.drop 24).drop 24).drop 24).drop 24).drop 24).drop 24), List.all_append, w_t7, ← List.take_append_drop 24 (((((((words1.drop 24).drop 24).drop 24).drop 24).drop 24).drop 24).drop 24), List.all_append, w_t8, w_t9]
  rfl
set_option maxRecDepth 65536 in
theorem w_rest : rest_1_c.before args0 about1 = true := by decide +kernel
set_option maxRecDepth 65536 in
theorem w_case : (Jvm.Cond.and given_1 narrow_1).before args0 about1 = true := by decide +kernel
set_option maxRecDepth 65536 in
theorem w_consts : constsHeld consts_1 about1 := Jvm.Lit.constsHeldB_iff.mp (by decide +kernel)
theorem w_applies : (headSpec (Jvm.Cond.code x code maxLocals ret :: tables_1) room_1).applies x e0.platform about1 = true :=
  (Spec.applies_iff w_frames).mpr ⟨w_running, w_runnable, w_alone, w_named, w_hears, w_ripe, w_room, w_tables⟩
theorem atStart : AtStart classFile x code maxLocals ret World_1 tables_1 room_1 Calls_1 rest_1 Pre_1 launch0 p0 e0 about1 theMethod args0 below0 :=
  ⟨lists_1, trivial, launch0.admits_env _ _ _, launch0.least_env, fairChoices_fair.cas, fairChoices_fair.clock, w_frames, w_args, w_heap, w_applies, ⟨w_consts, trivial⟩, w_rest, w_case⟩
end start1
theorem witness_1 : WitnessClaimed_1 := ⟨start1.p0, start1.e0, start1.about1, start1.theMethod, start1.args0, start1.below0, start1.atStart⟩
end Jvm.Pilot.@@N@@
