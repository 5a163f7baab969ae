import JvmDerived
import JvmDerived.Pilot.@@N@@Statement
import JvmDerived.Pilot.@@N@@Code
set_option linter.unusedVariables false
set_option linter.unusedSimpArgs false
namespace Jvm.RoadKit
open Sem ClassFile Op Lib Jvm.Stand Jvm.Free Jvm.LawKit
section New
variable {p : Program} {l : Launch} {e : Env} {R : Room} {s : State} {m : MethodId} {args : Array Value} {below : List Frame} {meth : Method} {c : Code} {T : State} {locs : List Loc} {cells slots : Nat}
theorem retI (X : Stand p l e R s m args below meth c T locs cells slots) (hx : p.tables.exec = Jvm.exec) {pc : Nat} {Ls : Array Slot} {z : Int32} {rest : List Value} (hret : meth.sig.returnType = some .int) (hd : decode c.code pc = .ok (.ireturn, 1)) {fs : List Frame}
    (hl : ∀ (f : JFrame) (acts : List Action), f.method = m → f.locked = none → f.entered = [] → (doReturn e (T.setTop f) acts (some (.int z))).1 = T.setFrames fs) : Steps p.tables e below (T.setTop (mkF m pc Ls (.int z :: rest))) (T.setFrames fs) := by
  have hm' : T.vm.method? m = some meth := X.method'
  have hn : narrow .int (.int z) = .int z := rfl
  show Steps p.tables e below (T.setTop { method := m, pc := pc, locals := Ls, stack := _ :: rest, locked := none }) _
  jvm_step X.here [X.here.top, hx, hd, hm', hret, hn]
  first | (intro acts; rw [hl _ acts rfl rfl rfl]) | rw [hl _ _ rfl rfl rfl]
  exact Steps.refl _
end New
end Jvm.RoadKit
/- laws to paste: Road.backV, Road.chN (cut by pick.py; bodies as the Statement names them) -/
namespace Jvm.Pilot.@@N@@
namespace StrChars
open Jvm Sem ClassFile Op Lib Jvm.Stand Jvm.Free.XT Jvm.Free.ALB Jvm.Free.JM Jvm.Free
open Jvm.Lib.Cold (StaticIs)
/-- a char array whose places are chars -/
def Ch (a : Addr) (A : Cell) (U : State) : Prop := Arr .char a A U ∧ Typed .char A
theorem Ch.mv {a : Addr} {A : Cell} {U U' : State} (h : Ch a A U) (hal : U.vm.Alike U'.vm) (hh : U'.heap = U.heap) : Ch a A U' := ⟨h.1.mv hal hh, h.2⟩
theorem Ch.keep {a : Addr} {A : Cell} {U U' : State} (h : Ch a A U) (hal : U.vm.Alike U'.vm) (hk : U'.heap[a]? = some A) : Ch a A U' := ⟨h.1.keep hal hk, h.2⟩
/-- what place i of a char[]'s cell holds -/
def cv (A : Cell) (i : Nat) : Int32 := match A.slots[i]? with | some (.int x) => x | _ => 0
theorem Ch.get {a : Addr} {A : Cell} {U : State} (h : Ch a A U) {i : Nat} (hi : i < A.slots.size) : A.slots[i]? = some (.int (cv A i)) := by
  have e := Array.getElem?_eq_getElem hi
  have f := h.2 i _ e
  unfold cv; rw [e]
  generalize A.slots[i] = v at f
  cases v <;> simp [fits] at f ⊢
/-- the byte that i2b leaves of a char -/
def lo8 (x : Int32) : Int32 := x.toInt8.toInt32
theorem fits_lo8 (y : Int32) : fits .byte (.int (lo8 y)) = true := by
  have h1 := y.toInt8.le_toInt
  have h2 := y.toInt8.toInt_lt
  simp only [lo8, fits, Bool.and_eq_true, decide_eq_true_eq, Int32.le_iff_toInt_le, Int8.toInt_toInt32, show (-128 : Int32).toInt = -128 from by decide, show (127 : Int32).toInt = 127 from by decide]
  omega
/-- A' is A but that each place j of lo .. hi - 1 holds f j -/
def Laid (A A' : Cell) (lo hi : Nat) (f : Nat → Value) : Prop := A'.cls = A.cls ∧ A'.vm = A.vm ∧ A'.slots.size = A.slots.size ∧ ∀ i, A'.slots[i]? = if lo ≤ i ∧ i < hi then some (f i) else A.slots[i]?
theorem Laid.zero (A : Cell) (lo : Nat) (f : Nat → Value) : Laid A A lo (lo + 0) f := ⟨rfl, rfl, rfl, fun i => by rw [if_neg (by omega)]⟩
theorem Laid.step {A Ak : Cell} {lo k : Nat} {f : Nat → Value} {v : Value} (h : Laid A Ak lo k f) (hlo : lo ≤ k) (hk : k < Ak.slots.size) (hv : v = f k) : Laid A (Ak.setSlot k v) lo (k + 1) f := by
  refine ⟨h.1, h.2.1, by simpa [Cell.setSlot] using h.2.2.1, fun i => ?_⟩
  by_cases e : k = i
  · subst e; rw [Cell.slots_setSlot_self v hk, if_pos (by omega), hv]
  · rw [Cell.slots_setSlot_ne v e, h.2.2.2 i]
    by_cases q : lo ≤ i ∧ i < k
    · rw [if_pos q, if_pos (by omega)]
    · rw [if_neg q, if_neg (by omega)]
def U16 : String := "java/lang/StringUTF16"
namespace Cmp5
def yN : MethodName := ⟨"java/lang/StringUTF16", "compress", "([CI[BII)I"⟩
abbrev yB : ByteArray := jdk_52_method_21_code
theorem d0 : decode yB 0 = .ok (.iconst 0, 1) := by decide +kernel
theorem d1 : decode yB 1 = .ok (.istore 5, 2) := by decide +kernel
theorem d3 : decode yB 3 = .ok (.iload 5, 2) := by decide +kernel
theorem d5 : decode yB 5 = .ok (.iload 4, 2) := by decide +kernel
theorem d7 : decode yB 7 = .ok (.if_icmp (.ge) 37, 3) := by decide +kernel
theorem d10 : decode yB 10 = .ok (.aload_n 0, 1) := by decide +kernel
theorem d11 : decode yB 11 = .ok (.iload_n 1, 1) := by decide +kernel
theorem d12 : decode yB 12 = .ok (.caload, 1) := by decide +kernel
theorem d13 : decode yB 13 = .ok (.istore 6, 2) := by decide +kernel
theorem d15 : decode yB 15 = .ok (.iload 6, 2) := by decide +kernel
theorem d17 : decode yB 17 = .ok (.sipush 255, 3) := by decide +kernel
theorem d20 : decode yB 20 = .ok (.if_icmp (.le) 6, 3) := by decide +kernel
theorem d26 : decode yB 26 = .ok (.aload_n 2, 1) := by decide +kernel
theorem d27 : decode yB 27 = .ok (.iload_n 3, 1) := by decide +kernel
theorem d28 : decode yB 28 = .ok (.iload 6, 2) := by decide +kernel
theorem d30 : decode yB 30 = .ok (.i2b, 1) := by decide +kernel
theorem d31 : decode yB 31 = .ok (.bastore, 1) := by decide +kernel
theorem d32 : decode yB 32 = .ok (.iinc 1 1, 3) := by decide +kernel
theorem d35 : decode yB 35 = .ok (.iinc 3 1, 3) := by decide +kernel
theorem d38 : decode yB 38 = .ok (.iinc 5 1, 3) := by decide +kernel
theorem d41 : decode yB 41 = .ok (.goto (-38), 3) := by decide +kernel
theorem d44 : decode yB 44 = .ok (.iload 4, 2) := by decide +kernel
theorem d46 : decode yB 46 = .ok (.ireturn, 1) := by decide +kernel
def site : List Cond := []
def tab : Cond := tabOf yN yB 7 (some .int) site
def P (b : Addr) (A : Cell) (d : Addr) (B : Cell) (o q len : Nat) (args : Array Value) (s : State) : Prop := args = #[.ref b, .int (Int32.ofNat o), .ref d, .int (Int32.ofNat q), .int (Int32.ofNat len)] ∧ Ch b A s ∧ Arr .byte d B s ∧ b ≠ d ∧ o + len ≤ A.slots.size ∧ q + len ≤ B.slots.size ∧ ∀ i, i < len → ¬ 255 < cv A (o + i)
def E (b : Addr) (A : Cell) (d : Addr) (B : Cell) (o q len : Nat) (r : Option Value) (s u : State) : Prop := r = some (.int (Int32.ofNat len)) ∧ ∃ B', Put d B' s u ∧ Laid B B' q (q + len) (fun j => Value.int (lo8 (cv A (o + (j - q)))))
/-- no char of the range above 255: len; the places written hold each char's low byte -/
theorem law (l : Launch) (b : Addr) (A : Cell) (d : Addr) (B : Cell) (o q len : Nat) : Law l yN 5 5 0 0 yB 7 (some .int) site (P b A d B o q len) (E b A d B o q len) (copyLocs d q len) 0 0 := by
  refine Law.of_walk (plainFor_of_name (by decide +kernel)) (by decide +kernel) (by decide +kernel) (by decide) (fun _ _ h => by rw [h.1]; rfl) (fun _ U U' hal hh h => ⟨h.1, h.2.1.mv hal hh, h.2.2.1.mv hal hh, h.2.2.2⟩) (fun r U U' V V' h1 hal h2 h => ⟨h.1, h.2.elim fun B' q => ⟨B', q.1.mv h1 h2, q.2⟩⟩) ?_
  intro p e s m args below meth c s₁ X0 hexec hbytes hml hret hlk hnm hown hh0 W hP
  obtain ⟨rfl, hA, hB, hne, l1, l2, hp⟩ := hP
  have c1 : Steps p.tables e below (s₁.setTop (entryFrame m #[.ref b, .int (Int32.ofNat o), .ref d, .int (Int32.ofNat q), .int (Int32.ofNat len)] 7)) (s₁.setTop (mkF m 0 #[.val (.ref b), .val (.int (Int32.ofNat o)), .val (.ref d), .val (.int (Int32.ofNat q)), .val (.int (Int32.ofNat len)), .unset, .unset] [])) := entry rfl
  have hA0 := hA.1.mv X0.warmed.alike hh0
  have hB0 := hB.mv X0.warmed.alike hh0
  have a31 := hA.1.2.2.2
  have c2 : Steps p.tables e below (s₁.setTop (entryFrame m #[.ref b, .int (Int32.ofNat o), .ref d, .int (Int32.ofNat q), .int (Int32.ofNat len)] 7)) (s₁.setTop (mkF m 3 #[.val (.ref b), .val (.int (Int32.ofNat o)), .val (.ref d), .val (.int (Int32.ofNat q)), .val (.int (Int32.ofNat len)), .val (.int 0), .unset] [])) := c1.trans (by
    refine iconstV X0.here hexec rfl 0 (hb hbytes d0) (by decide) ?_
    refine XS.istore X0.here hexec rfl (hb hbytes d1) rfl rfl ?_
    exact Steps.refl _)
  have loop : ∀ (r i : Nat), i + r = len → ∀ (z : Slot), (z = .unset ∨ ∃ w, z = .val w ∧ w.category = 1) → ∀ (Tl : State) (Bk : Cell), Stand p l e { frames := 0, locals := 0, cells := 0, slots := 0 } s m #[.ref b, .int (Int32.ofNat o), .ref d, .int (Int32.ofNat q), .int (Int32.ofNat len)] below meth c Tl ([] ++ copyLocs d q i) 0 0 → Put d Bk s₁ Tl → Laid B Bk q (q + i) (fun j => Value.int (lo8 (cv A (o + (j - q))))) →
      Steps p.tables e below (s₁.setTop (entryFrame m #[.ref b, .int (Int32.ofNat o), .ref d, .int (Int32.ofNat q), .int (Int32.ofNat len)] 7)) (Tl.setTop (mkF m 3 #[.val (.ref b), .val (.int (Int32.ofNat (o + i))), .val (.ref d), .val (.int (Int32.ofNat (q + i))), .val (.int (Int32.ofNat len)), .val (.int (Int32.ofNat i)), z] [])) → ∃ (T' : State) (B' : Cell) (z' : Slot), Stand p l e { frames := 0, locals := 0, cells := 0, slots := 0 } s m #[.ref b, .int (Int32.ofNat o), .ref d, .int (Int32.ofNat q), .int (Int32.ofNat len)] below meth c T' ([] ++ copyLocs d q len) 0 0 ∧ Put d B' s₁ T' ∧ Laid B B' q (q + len) (fun j => Value.int (lo8 (cv A (o + (j - q))))) ∧
      Steps p.tables e below (s₁.setTop (entryFrame m #[.ref b, .int (Int32.ofNat o), .ref d, .int (Int32.ofNat q), .int (Int32.ofNat len)] 7)) (T'.setTop (mkF m 3 #[.val (.ref b), .val (.int (Int32.ofNat (o + len))), .val (.ref d), .val (.int (Int32.ofNat (q + len))), .val (.int (Int32.ofNat len)), .val (.int (Int32.ofNat len)), z'] [])) := by
    intro r
    induction r with
    | zero =>
      intro i hi z hz Tl Bk Xl pl fl cl
      have hil : i = len := by omega
      rw [hil] at Xl fl cl
      exact ⟨Tl, Bk, z, Xl, pl, fl, cl⟩
    | succ r ih =>
      intro i hi z hz Tl Bk Xl pl fl cl
      have all := X0.warmed.alike.symm.trans Xl.warmed.alike
      have hAl := hA0.keep all (pl.other hne hA0.1)
      have hBk := hB0.like all pl.1 fl.1 fl.2.1 fl.2.2.1
      have hlt : q + i < Bk.slots.size := by rw [fl.2.2.1]; omega
      have c3 : Steps p.tables e below (s₁.setTop (entryFrame m #[.ref b, .int (Int32.ofNat o), .ref d, .int (Int32.ofNat q), .int (Int32.ofNat len)] 7)) (Tl.setTop (mkF m 12 #[.val (.ref b), .val (.int (Int32.ofNat (o + i))), .val (.ref d), .val (.int (Int32.ofNat (q + i))), .val (.int (Int32.ofNat len)), .val (.int (Int32.ofNat i)), z] [.int (Int32.ofNat (o + i)), .ref b])) := cl.trans (by
        refine XS.iload Xl.here hexec rfl (hb hbytes d3) rfl ?_
        refine XS.iload Xl.here hexec rfl (hb hbytes d5) rfl ?_
        refine XS.icmpNo Xl.here hexec rfl (hb hbytes d7) rfl (ii_ge_f (lt32 (by omega) (by omega))) ?_
        refine XS.aloadN Xl.here hexec rfl (hb hbytes d10) rfl rfl ?_
        refine XS.iloadN Xl.here hexec rfl (hb hbytes d11) rfl ?_
        exact Steps.refl _)
      have c4 : Steps p.tables e below (s₁.setTop (entryFrame m #[.ref b, .int (Int32.ofNat o), .ref d, .int (Int32.ofNat q), .int (Int32.ofNat len)] 7)) (Tl.setTop (mkF m 13 #[.val (.ref b), .val (.int (Int32.ofNat (o + i))), .val (.ref d), .val (.int (Int32.ofNat (q + i))), .val (.int (Int32.ofNat len)), .val (.int (Int32.ofNat i)), z] [.int (cv A (o + i))])) := c3.trans (by
        refine Xl.aget hexec hAl rfl (hA.get (i := o + i) (by omega)) rfl rfl (hb hbytes d12) ?_
        exact Steps.refl _)
      have c5 : Steps p.tables e below (s₁.setTop (entryFrame m #[.ref b, .int (Int32.ofNat o), .ref d, .int (Int32.ofNat q), .int (Int32.ofNat len)] 7)) (Tl.setTop (mkF m 15 #[.val (.ref b), .val (.int (Int32.ofNat (o + i))), .val (.ref d), .val (.int (Int32.ofNat (q + i))), .val (.int (Int32.ofNat len)), .val (.int (Int32.ofNat i)), .val (.int (cv A (o + i)))] [])) := c4.trans (by
        refine XS.istoreS Xl.here hexec rfl (hb hbytes d13) rfl rfl hz ?_
        exact Steps.refl _)
      have c6 : Steps p.tables e below (s₁.setTop (entryFrame m #[.ref b, .int (Int32.ofNat o), .ref d, .int (Int32.ofNat q), .int (Int32.ofNat len)] 7)) (Tl.setTop (mkF m 31 #[.val (.ref b), .val (.int (Int32.ofNat (o + i))), .val (.ref d), .val (.int (Int32.ofNat (q + i))), .val (.int (Int32.ofNat len)), .val (.int (Int32.ofNat i)), .val (.int (cv A (o + i)))] [.int (lo8 (cv A (o + i))), .int (Int32.ofNat (q + i)), .ref d])) := c5.trans (by
        refine XS.iload Xl.here hexec rfl (hb hbytes d15) rfl ?_
        refine sipushV Xl.here hexec rfl 255 (hb hbytes d17) (by decide) ?_
        refine XS.icmpYes Xl.here hexec rfl (pc0 := 20) rfl (hb hbytes d20) rfl (ii_le_t (hp i (by omega))) (by decide) rfl ?_
        refine XS.aloadN Xl.here hexec rfl (hb hbytes d26) rfl rfl ?_
        refine XS.iloadN Xl.here hexec rfl (hb hbytes d27) rfl ?_
        refine XS.iload Xl.here hexec rfl (hb hbytes d28) rfl ?_
        refine i2b Xl.here hexec rfl (hb hbytes d30) rfl ?_
        exact Steps.refl _)
      obtain ⟨T7, X7, p7, st7⟩ := Xl.aput hexec hBk rfl hlt rfl (fits_lo8 (cv A (o + i))) (g := (mkF m 31 #[.val (.ref b), .val (.int (Int32.ofNat (o + i))), .val (.ref d), .val (.int (Int32.ofNat (q + i))), .val (.int (Int32.ofNat len)), .val (.int (Int32.ofNat i)), .val (.int (cv A (o + i)))] [.int (lo8 (cv A (o + i))), .int (Int32.ofNat (q + i)), .ref d])) rfl (rest := []) rfl (hb hbytes d31)
      have c8 : Steps p.tables e below (s₁.setTop (entryFrame m #[.ref b, .int (Int32.ofNat o), .ref d, .int (Int32.ofNat q), .int (Int32.ofNat len)] 7)) (T7.setTop (mkF m 32 #[.val (.ref b), .val (.int (Int32.ofNat (o + i))), .val (.ref d), .val (.int (Int32.ofNat (q + i))), .val (.int (Int32.ofNat len)), .val (.int (Int32.ofNat i)), .val (.int (cv A (o + i)))] [])) := c6.trans (st7 _ (Steps.refl _))
      have c9 : Steps p.tables e below (s₁.setTop (entryFrame m #[.ref b, .int (Int32.ofNat o), .ref d, .int (Int32.ofNat q), .int (Int32.ofNat len)] 7)) (T7.setTop (mkF m 3 #[.val (.ref b), .val (.int (Int32.ofNat (o + i) + 1)), .val (.ref d), .val (.int (Int32.ofNat (q + i) + 1)), .val (.int (Int32.ofNat len)), .val (.int (Int32.ofNat i + 1)), .val (.int (cv A (o + i)))] [])) := c8.trans (by
        refine iincV X7.here hexec rfl 1 (hb hbytes d32) (by decide) rfl rfl ?_
        refine iincV X7.here hexec rfl 1 (hb hbytes d35) (by decide) rfl rfl ?_
        refine iincV X7.here hexec rfl 1 (hb hbytes d38) (by decide) rfl rfl ?_
        refine XS.goto X7.here hexec rfl (pc0 := 41) rfl (hb hbytes d41) (by decide) rfl ?_
        exact Steps.refl _)
      have c10 : Steps p.tables e below (s₁.setTop (entryFrame m #[.ref b, .int (Int32.ofNat o), .ref d, .int (Int32.ofNat q), .int (Int32.ofNat len)] 7)) (T7.setTop (mkF m 3 #[.val (.ref b), .val (.int (Int32.ofNat (o + (i + 1)))), .val (.ref d), .val (.int (Int32.ofNat (q + (i + 1)))), .val (.int (Int32.ofNat len)), .val (.int (Int32.ofNat (i + 1))), .val (.int (cv A (o + i)))] [])) := by
        have := c9
        rw [succ32, succ32, succ32] at this
        exact this
      exact ih (i + 1) (by omega) _ (Or.inr ⟨_, rfl, rfl⟩) T7 _ (by rw [copyLocs_step, ← List.append_assoc]; exact X7) (pl.trans p7) (fl.step (by omega) hlt (by simp)) c10
  obtain ⟨T9, B9, z9, X9, p9, f9, g9⟩ := loop len 0 (by omega) .unset (Or.inl rfl) s₁ B (by simpa [copyLocs] using X0) ⟨hB0.1, fun _ _ => rfl, rfl⟩ (Laid.zero _ _ _) c2
  have c11 : Steps p.tables e below (s₁.setTop (entryFrame m #[.ref b, .int (Int32.ofNat o), .ref d, .int (Int32.ofNat q), .int (Int32.ofNat len)] 7)) (T9.setTop (mkF m 46 #[.val (.ref b), .val (.int (Int32.ofNat (o + len))), .val (.ref d), .val (.int (Int32.ofNat (q + len))), .val (.int (Int32.ofNat len)), .val (.int (Int32.ofNat len)), z9] [.int (Int32.ofNat len)])) := g9.trans (by
    refine XS.iload X9.here hexec rfl (hb hbytes d3) rfl ?_
    refine XS.iload X9.here hexec rfl (hb hbytes d5) rfl ?_
    refine XS.icmpYes X9.here hexec rfl (pc0 := 7) rfl (hb hbytes d7) rfl (ii_ge_t (nlt32 (by omega) (Nat.le_refl _))) (by decide) rfl ?_
    refine XS.iload X9.here hexec rfl (hb hbytes d44) rfl ?_
    exact Steps.refl _)
  exact ⟨T9, some (.int (Int32.ofNat len)), _, _, _, X9, by simp, rfl, rfl, (fun h => by cases h), ⟨rfl, B9, p9.from hh0, f9⟩, fun fs hl => c11.trans (X9.ireturnOut hexec hret rfl (Or.inl rfl) (hb hbytes d46) hl)⟩
end Cmp5
namespace Cmp3
def yN : MethodName := ⟨"java/lang/StringUTF16", "compress", "([CII)[B"⟩
abbrev yB : ByteArray := jdk_52_method_16_code
theorem d0 : decode yB 0 = .ok (.iload_n 2, 1) := by decide +kernel
theorem d1 : decode yB 1 = .ok (.newarray .byte, 2) := by decide +kernel
theorem d3 : decode yB 3 = .ok (.astore_n 3, 1) := by decide +kernel
theorem d4 : decode yB 4 = .ok (.aload_n 0, 1) := by decide +kernel
theorem d5 : decode yB 5 = .ok (.iload_n 1, 1) := by decide +kernel
theorem d6 : decode yB 6 = .ok (.aload_n 3, 1) := by decide +kernel
theorem d7 : decode yB 7 = .ok (.iconst 0, 1) := by decide +kernel
theorem d8 : decode yB 8 = .ok (.iload_n 2, 1) := by decide +kernel
theorem d9 : decode yB 9 = .ok (.invokestatic 115, 3) := by decide +kernel
theorem d12 : decode yB 12 = .ok (.istore 4, 2) := by decide +kernel
theorem d14 : decode yB 14 = .ok (.iload 4, 2) := by decide +kernel
theorem d16 : decode yB 16 = .ok (.iload_n 2, 1) := by decide +kernel
theorem d17 : decode yB 17 = .ok (.if_icmp (.eq) 40, 3) := by decide +kernel
theorem d57 : decode yB 57 = .ok (.aload_n 3, 1) := by decide +kernel
theorem d58 : decode yB 58 = .ok (.areturn, 1) := by decide +kernel
def site : List Cond := [.arrayClass .byte, Cmp5.tab] ++ staticW U16 115 Cmp5.yN
def tab : Cond := tabOf yN yB 6 (some (.array .byte)) site
def P (b : Addr) (A : Cell) (o len : Nat) (args : Array Value) (s : State) : Prop := args = #[.ref b, .int (Int32.ofNat o), .int (Int32.ofNat len)] ∧ Ch b A s ∧ o + len ≤ A.slots.size ∧ len ≤ 536870912 ∧ ∀ i, i < len → ¬ 255 < cv A (o + i)
def E (b : Addr) (A : Cell) (o len : Nat) (r : Option Value) (s u : State) : Prop := NewArr .byte "[B" len (fun j => .int (lo8 (cv A (o + j)))) r s u ∧ u.heap.size = s.heap.size + 1
/-- no char of the range above 255: a new byte[] of their low bytes -/
theorem law (l : Launch) (b : Addr) (A : Cell) (o len : Nat) : Law l yN 3 3 1 18 yB 6 (some (.array .byte)) site (P b A o len) (E b A o len) [] 1 len := by
  refine Law.of_walk (plainFor_of_name (by decide +kernel)) (by decide +kernel) (by decide +kernel) (by decide) (fun _ _ h => by rw [h.1]; rfl) (fun _ U U' hal hh h => ⟨h.1, h.2.1.mv hal hh, h.2.2⟩) (fun r U U' V V' h1 hal h2 h => ⟨NewArr.mv r U U' V V' h1 hal h2 h.1, by rw [h1, h2]; exact h.2⟩) ?_
  intro p e s m args below meth c s₁ X0 hexec hbytes hml hret hlk hnm hown hh0 W hP
  obtain ⟨rfl, hA, l1, l2, hp⟩ := hP
  have a31 := hA.1.2.2.2
  have c1 : Steps p.tables e below (s₁.setTop (entryFrame m #[.ref b, .int (Int32.ofNat o), .int (Int32.ofNat len)] 6)) (s₁.setTop (mkF m 0 #[.val (.ref b), .val (.int (Int32.ofNat o)), .val (.int (Int32.ofNat len)), .unset, .unset, .unset] [])) := entry rfl
  have c2 : Steps p.tables e below (s₁.setTop (entryFrame m #[.ref b, .int (Int32.ofNat o), .int (Int32.ofNat len)] 6)) (s₁.setTop (mkF m 1 #[.val (.ref b), .val (.int (Int32.ofNat o)), .val (.int (Int32.ofNat len)), .unset, .unset, .unset] [.int (Int32.ofNat len)])) := c1.trans (by
    refine XS.iloadN X0.here hexec rfl (hb hbytes d0) rfl ?_
    exact Steps.refl _)
  obtain ⟨T3, B3, X3, ba3, bs3, bv3, bh3, bf3, st3⟩ := X0.anew hexec (atype := .byte) (wk W (.arrayClass .byte)) rfl (by show len * 1 ≤ _; omega) (by omega) (g := (mkF m 1 #[.val (.ref b), .val (.int (Int32.ofNat o)), .val (.int (Int32.ofNat len)), .unset, .unset, .unset] [.int (Int32.ofNat len)])) rfl (hb hbytes d1) (rest := []) rfl (Nat.le_refl _) (by show 0 + len ≤ len; omega)
  rw [hh0] at ba3 st3
  have kp3 : XT.Kept s T3 := (XT.Kept.of_eq hh0).push bh3
  have hA3 := hA.keep X3.warmed.alike (kp3 _ _ hA.1.1)
  have hne : b ≠ s.heap.size := hA.1.ne
  have c4 : Steps p.tables e below (s₁.setTop (entryFrame m #[.ref b, .int (Int32.ofNat o), .int (Int32.ofNat len)] 6)) (T3.setTop (mkF m 3 #[.val (.ref b), .val (.int (Int32.ofNat o)), .val (.int (Int32.ofNat len)), .unset, .unset, .unset] [.ref s.heap.size])) := c2.trans (st3 _ (Steps.refl _))
  have c5 : Steps p.tables e below (s₁.setTop (entryFrame m #[.ref b, .int (Int32.ofNat o), .int (Int32.ofNat len)] 6)) (T3.setTop (mkF m 9 #[.val (.ref b), .val (.int (Int32.ofNat o)), .val (.int (Int32.ofNat len)), .val (.ref s.heap.size), .unset, .unset] [.int (Int32.ofNat len), .int 0, .ref s.heap.size, .int (Int32.ofNat o), .ref b])) := c4.trans (by
    refine XS.astoreN X3.here hexec rfl (hb hbytes d3) rfl rfl rfl ?_
    refine XS.aloadN X3.here hexec rfl (hb hbytes d4) rfl rfl ?_
    refine XS.iloadN X3.here hexec rfl (hb hbytes d5) rfl ?_
    refine XS.aloadN X3.here hexec rfl (hb hbytes d6) rfl rfl ?_
    refine iconstV X3.here hexec rfl 0 (hb hbytes d7) (by decide) ?_
    refine XS.iloadN X3.here hexec rfl (hb hbytes d8) rfl ?_
    exact Steps.refl _)
  obtain ⟨v6, T6, X6, E6, g6⟩ := X3.callS hexec (Cmp5.law l b A s.heap.size B3 o 0 len) hown (wks W (staticW U16 115 Cmp5.yN)) (wk W Cmp5.tab) (W := 0) (Nat.le_of_ble_eq_true rfl) (Nat.le_of_ble_eq_true rfl) (Nat.le_refl _) (by show 0 + len + 0 ≤ len; omega) (g := (mkF m 9 #[.val (.ref b), .val (.int (Int32.ofNat o)), .val (.int (Int32.ofNat len)), .val (.ref s.heap.size), .unset, .unset] [.int (Int32.ofNat len), .int (Int32.ofNat 0), .ref s.heap.size, .int (Int32.ofNat o), .ref b])) rfl (by rw [hml]; rfl) c5 (argsL := [.ref b, .int (Int32.ofNat o), .ref s.heap.size, .int (Int32.ofNat 0), .int (Int32.ofNat len)]) (rest := []) rfl rfl (by show 2 * 0 + 0 ≤ _; decide) (hb hbytes d9) (⟨rfl, hA3, ba3, hne, l1, by rw [bs3]; simp, hp⟩)
  obtain ⟨rfl, B6, p6, f6⟩ := E6
  have c7 : Steps p.tables e below (s₁.setTop (entryFrame m #[.ref b, .int (Int32.ofNat o), .int (Int32.ofNat len)] 6)) (T6.setTop (mkF m 12 #[.val (.ref b), .val (.int (Int32.ofNat o)), .val (.int (Int32.ofNat len)), .val (.ref s.heap.size), .unset, .unset] [.int (Int32.ofNat len)])) := g6
  have c8 : Steps p.tables e below (s₁.setTop (entryFrame m #[.ref b, .int (Int32.ofNat o), .int (Int32.ofNat len)] 6)) (T6.setTop (mkF m 58 #[.val (.ref b), .val (.int (Int32.ofNat o)), .val (.int (Int32.ofNat len)), .val (.ref s.heap.size), .val (.int (Int32.ofNat len)), .unset] [.ref s.heap.size])) := c7.trans (by
    refine XS.istore X6.here hexec rfl (hb hbytes d12) rfl rfl ?_
    refine XS.iload X6.here hexec rfl (hb hbytes d14) rfl ?_
    refine XS.iloadN X6.here hexec rfl (hb hbytes d16) rfl ?_
    refine XS.icmpYes X6.here hexec rfl (pc0 := 17) rfl (hb hbytes d17) rfl (ii_eq_t rfl) (by decide) rfl ?_
    refine XS.aloadN X6.here hexec rfl (hb hbytes d57) rfl rfl ?_
    exact Steps.refl _)
  have X8 := X6.wide (L' := []) (cells' := 1) (slots' := len) (fun x hx hlt => by
    simp only [List.nil_append, copyLocs, List.mem_map, List.mem_range] at hx
    obtain ⟨i, -, rfl⟩ := hx
    exact absurd hlt (Nat.lt_irrefl _)) (Nat.le_refl _) (by omega)
  exact ⟨T6, some (.ref s.heap.size), _, _, _, X8, rfl, rfl, rfl, (fun h => by cases h), ⟨⟨rfl, B6, ba3.like (X3.warmed.alike.symm.trans X6.warmed.alike) p6.1 f6.1 f6.2.1 f6.2.2.1, f6.2.1.trans bv3, by rw [X6.warmed.alike.findClass, f6.1]; exact bf3, by rw [f6.2.2.1, bs3]; simp, fun j hj => by rw [f6.2.2.2 j, if_pos (by omega)]; rfl, kp3.put p6 (Nat.le_refl _)⟩, by rw [p6.2.2, bh3, hh0]; simp⟩, fun fs hl => c8.trans (X8.areturnOut hexec rfl hret rfl (hb hbytes d58) hl)⟩
end Cmp3
namespace CodL
def yN : MethodName := ⟨"java/lang/StringUTF16", "coderFromArrayLen", "([BI)B"⟩
abbrev yB : ByteArray := jdk_52_method_15_code
theorem d0 : decode yB 0 = .ok (.iload_n 1, 1) := by decide +kernel
theorem d1 : decode yB 1 = .ok (.aload_n 0, 1) := by decide +kernel
theorem d2 : decode yB 2 = .ok (.arraylength, 1) := by decide +kernel
theorem d3 : decode yB 3 = .ok (.isub, 1) := by decide +kernel
theorem d4 : decode yB 4 = .ok (.bipush 31, 2) := by decide +kernel
theorem d6 : decode yB 6 = .ok (.iushr, 1) := by decide +kernel
theorem d7 : decode yB 7 = .ok (.i2b, 1) := by decide +kernel
theorem d8 : decode yB 8 = .ok (.ireturn, 1) := by decide +kernel
def site : List Cond := []
def tab : Cond := tabOf yN yB 2 (some .byte) site
def P (d : Addr) (B : Cell) (args : Array Value) (s : State) : Prop := args = #[.ref d, .int (Int32.ofNat B.slots.size)] ∧ Arr .byte d B s
def E (r : Option Value) (s u : State) : Prop := XT.PureE (some (.int 0)) r s u
/-- an array as long as the number of chars: LATIN1 -/
theorem law (l : Launch) (d : Addr) (B : Cell) : Law l yN 2 2 0 0 yB 2 (some .byte) site (P d B) E [] 0 0 := by
  refine Law.of_walk (plainFor_of_name (by decide +kernel)) (by decide +kernel) (by decide +kernel) (by decide) (fun _ _ h => by rw [h.1]; rfl) (fun _ U U' hal hh h => ⟨h.1, h.2.mv hal hh⟩) (fun r U U' V V' h1 hal h2 h => XT.PureE.mv r U U' V V' h1 hal h2 h) ?_
  intro p e s m args below meth c s₁ X0 hexec hbytes hml hret hlk hnm hown hh0 W hP
  obtain ⟨rfl, hB⟩ := hP
  have hB0 := hB.mv X0.warmed.alike hh0
  have c1 : Steps p.tables e below (s₁.setTop (entryFrame m #[.ref d, .int (Int32.ofNat B.slots.size)] 2)) (s₁.setTop (mkF m 0 #[.val (.ref d), .val (.int (Int32.ofNat B.slots.size))] [])) := entry rfl
  have c2 : Steps p.tables e below (s₁.setTop (entryFrame m #[.ref d, .int (Int32.ofNat B.slots.size)] 2)) (s₁.setTop (mkF m 2 #[.val (.ref d), .val (.int (Int32.ofNat B.slots.size))] [.ref d, .int (Int32.ofNat B.slots.size)])) := c1.trans (by
    refine XS.iloadN X0.here hexec rfl (hb hbytes d0) rfl ?_
    refine XS.aloadN X0.here hexec rfl (hb hbytes d1) rfl rfl ?_
    exact Steps.refl _)
  have c3 : Steps p.tables e below (s₁.setTop (entryFrame m #[.ref d, .int (Int32.ofNat B.slots.size)] 2)) (s₁.setTop (mkF m 8 #[.val (.ref d), .val (.int (Int32.ofNat B.slots.size))] [.int (lo8 (ushr (Int32.ofNat B.slots.size - Int32.ofNat B.slots.size) 31))])) := c2.trans (by
    refine X0.alen hexec hB0 rfl rfl (hb hbytes d2) ?_
    refine XS.isub X0.here hexec rfl (hb hbytes d3) rfl ?_
    refine bipushV X0.here hexec rfl 31 (hb hbytes d4) (by decide) ?_
    refine iushr X0.here hexec rfl (hb hbytes d6) rfl ?_
    refine i2b X0.here hexec rfl (hb hbytes d7) rfl ?_
    exact Steps.refl _)
  have e0 : lo8 (ushr (Int32.ofNat B.slots.size - Int32.ofNat B.slots.size) 31) = 0 := by rw [Int32.sub_self]; decide
  rw [e0] at c3
  exact ⟨s₁, some (.int 0), _, _, _, X0, rfl, rfl, rfl, (fun h => by cases h), ⟨rfl, hh0⟩, fun fs hl => c3.trans (X0.ireturnOut hexec hret rfl (Or.inr (Or.inr (Or.inl rfl))) (hb hbytes d8) hl)⟩
end CodL
/-- the String at a is Latin-1 over a new byte[] (the heap's one new cell): the low bytes of the len chars of A from o on; every cell but a is kept -/
def Got (a : Addr) (D : Cell) (fV fC : Field) (A : Cell) (o len : Nat) (r : Option Value) (s u : State) : Prop := r = none ∧ ∃ D' V : Cell, Blank "java/lang/String" a D' u ∧ Same D D' [fV.slot, fC.slot] ∧ D'.slots[fV.slot]? = some (.ref s.heap.size) ∧ D'.slots[fC.slot]? = some (.int 0) ∧ Arr .byte s.heap.size V u ∧ V.vm = .none ∧ u.vm.findClass "[B" = some V.cls ∧ V.slots.size = len ∧ (∀ j, j < len → V.slots[j]? = some (.int (lo8 (cv A (o + j))))) ∧ (∀ (y : Addr) (c : Cell), y ≠ a → s.heap[y]? = some c → u.heap[y]? = some c) ∧ u.heap.size = s.heap.size + 1
theorem Got.mv {a : Addr} {D A : Cell} {fV fC : Field} {o len : Nat} : ∀ r (U U' V V' : State), U'.heap = U.heap → V.vm.Alike V'.vm → V'.heap = V.heap → Got a D fV fC A o len r U V → Got a D fV fC A o len r U' V' :=
  fun r U U' V V' h1 hal h2 ⟨e0, D', X, a1, a2, a3, a4, a5, a6, a7, a8, a9, a10, a11⟩ => ⟨e0, D', X, a1.mv hal h2, a2, by rw [h1]; exact a3, a4, by rw [h1]; exact a5.mv hal h2, a6, by rw [hal.findClass]; exact a7, a8, a9, by rw [h1, h2]; exact a10, by rw [h1, h2]; exact a11⟩
namespace New4
def yN : MethodName := ⟨"java/lang/String", "<init>", "([CIILjava/lang/Void;)V"⟩
abbrev yB : ByteArray := jdk_42_method_149_code
theorem d0 : decode yB 0 = .ok (.aload_n 0, 1) := by decide +kernel
theorem d1 : decode yB 1 = .ok (.invokespecial 1, 3) := by decide +kernel
theorem d4 : decode yB 4 = .ok (.iload_n 3, 1) := by decide +kernel
theorem d5 : decode yB 5 = .ok (.ifCond (.ne) 22, 3) := by decide +kernel
theorem d27 : decode yB 27 = .ok (.getstatic 38, 3) := by decide +kernel
theorem d30 : decode yB 30 = .ok (.ifCond (.eq) 28, 3) := by decide +kernel
theorem d33 : decode yB 33 = .ok (.aload_n 1, 1) := by decide +kernel
theorem d34 : decode yB 34 = .ok (.iload_n 2, 1) := by decide +kernel
theorem d35 : decode yB 35 = .ok (.iload_n 3, 1) := by decide +kernel
theorem d36 : decode yB 36 = .ok (.invokestatic 177, 3) := by decide +kernel
theorem d39 : decode yB 39 = .ok (.astore 5, 2) := by decide +kernel
theorem d41 : decode yB 41 = .ok (.aload_n 0, 1) := by decide +kernel
theorem d42 : decode yB 42 = .ok (.aload 5, 2) := by decide +kernel
theorem d44 : decode yB 44 = .ok (.iload_n 3, 1) := by decide +kernel
theorem d45 : decode yB 45 = .ok (.invokestatic 47, 3) := by decide +kernel
theorem d48 : decode yB 48 = .ok (.putfield 15, 3) := by decide +kernel
theorem d51 : decode yB 51 = .ok (.aload_n 0, 1) := by decide +kernel
theorem d52 : decode yB 52 = .ok (.aload 5, 2) := by decide +kernel
theorem d54 : decode yB 54 = .ok (.putfield 9, 3) := by decide +kernel
theorem d57 : decode yB 57 = .ok (.return_, 1) := by decide +kernel
def site : List Cond := [.fieldLink "java/lang/String" 38 "java/lang/String" "COMPACT_STRINGS" "Z", Cmp3.tab, CodL.tab, .laysFinal "java/lang/String" "java/lang/String" "value" "[B", .fieldLink "java/lang/String" 9 "java/lang/String" "value" "[B", .laysFinal "java/lang/String" "java/lang/String" "coder" "B", .fieldLink "java/lang/String" 15 "java/lang/String" "coder" "B"] ++ objW "java/lang/String" 1 ++ staticW "java/lang/String" 177 Cmp3.yN ++ staticW "java/lang/String" 47 CodL.yN
def tab : Cond := tabOf yN yB 6 none site
def P (a : Addr) (D : Cell) (fV fC : Field) (b : Addr) (A : Cell) (z : Int32) (o len : Nat) (args : Array Value) (s : State) : Prop := args = #[.ref a, .ref b, .int (Int32.ofNat o), .int (Int32.ofNat len), .null] ∧ Blank "java/lang/String" a D s ∧ Found "java/lang/String" "value" "[B" fV s ∧ Found "java/lang/String" "coder" "B" fC s ∧ Ch b A s ∧ StaticIs s "java/lang/String" "COMPACT_STRINGS" "Z" (.int z) ∧ ¬ z = 0 ∧ 0 < len ∧ o + len ≤ A.slots.size ∧ len ≤ 536870912 ∧ ∀ i, i < len → ¬ 255 < cv A (o + i)
def E (a : Addr) (D : Cell) (fV fC : Field) (A : Cell) (o len : Nat) (r : Option Value) (s u : State) : Prop := Got a D fV fC A o len r s u
/-- len > 0, no char of the range above 255: a Latin-1 String of their low bytes -/
theorem law (l : Launch) (a : Addr) (D : Cell) (fV fC : Field) (b : Addr) (A : Cell) (z : Int32) (o len : Nat) : Law l yN 5 4 2 35 yB 6 none site (P a D fV fC b A z o len) (E a D fV fC A o len) [⟨a, fC.slot⟩, ⟨a, fV.slot⟩] 1 len := by
  refine Law.of_walk (plainFor_of_name (by decide +kernel)) (by decide +kernel) (by decide +kernel) (by decide) (fun _ _ h => by rw [h.1]; rfl) (fun _ U U' hal hh h => ⟨h.1, h.2.1.mv hal hh, h.2.2.1.al hal, h.2.2.2.1.al hal, h.2.2.2.2.1.mv hal hh, h.2.2.2.2.2.1.there hal hh, h.2.2.2.2.2.2⟩) (fun r U U' V V' h1 hal h2 h => Got.mv r U U' V V' h1 hal h2 h) ?_
  intro p e s m args below meth c s₁ X0 hexec hbytes hml hret hlk hnm hown hh0 W hP
  obtain ⟨rfl, hB, f1, f2, hA, s1, hz, l0, l1, l2, hp⟩ := hP
  have a31 := hA.1.2.2.2
  have c1 : Steps p.tables e below (s₁.setTop (entryFrame m #[.ref a, .ref b, .int (Int32.ofNat o), .int (Int32.ofNat len), .null] 6)) (s₁.setTop (mkF m 0 #[.val (.ref a), .val (.ref b), .val (.int (Int32.ofNat o)), .val (.int (Int32.ofNat len)), .val .null, .unset] [])) := entry rfl
  have c2 : Steps p.tables e below (s₁.setTop (entryFrame m #[.ref a, .ref b, .int (Int32.ofNat o), .int (Int32.ofNat len), .null] 6)) (s₁.setTop (mkF m 1 #[.val (.ref a), .val (.ref b), .val (.int (Int32.ofNat o)), .val (.int (Int32.ofNat len)), .val .null, .unset] [.ref a])) := c1.trans (by
    refine XS.aloadN X0.here hexec rfl (hb hbytes d0) rfl rfl ?_
    exact Steps.refl _)
  obtain ⟨T3, X3, q3, st3⟩ := X0.oinit hexec hown (wks W (objW "java/lang/String" 1)) (g := (mkF m 1 #[.val (.ref a), .val (.ref b), .val (.int (Int32.ofNat o)), .val (.int (Int32.ofNat len)), .val .null, .unset] [.ref a])) rfl (by rw [hml]; rfl) (rest := []) rfl (hb hbytes d1) (W := 0) (by show 2 * 0 + 0 ≤ _; decide) (Nat.le_of_ble_eq_true rfl) (Nat.le_of_ble_eq_true rfl)
  have hh3 := q3.trans hh0
  have c4 : Steps p.tables e below (s₁.setTop (entryFrame m #[.ref a, .ref b, .int (Int32.ofNat o), .int (Int32.ofNat len), .null] 6)) (T3.setTop (mkF m 27 #[.val (.ref a), .val (.ref b), .val (.int (Int32.ofNat o)), .val (.int (Int32.ofNat len)), .val .null, .unset] [])) := (c2.trans (st3 _ (Steps.refl _))).trans (by
    refine XS.iloadN X3.here hexec rfl (hb hbytes d4) rfl ?_
    refine XS.ifYes X3.here hexec rfl (pc0 := 5) rfl (hb hbytes d5) rfl (i0_ne_t (nz32 (by omega) l0)) (by decide) rfl ?_
    exact Steps.refl _)
  obtain ⟨T5, X5, q5, st5⟩ := X3.sget hexec hown (wk W (.fieldLink "java/lang/String" 38 "java/lang/String" "COMPACT_STRINGS" "Z")) s1 (fun _ _ h => by rw [hh3]; exact h) (g := (mkF m 27 #[.val (.ref a), .val (.ref b), .val (.int (Int32.ofNat o)), .val (.int (Int32.ofNat len)), .val .null, .unset] [])) rfl (hb hbytes d27)
  have hh5 := q5.trans hh3
  have c6 : Steps p.tables e below (s₁.setTop (entryFrame m #[.ref a, .ref b, .int (Int32.ofNat o), .int (Int32.ofNat len), .null] 6)) (T5.setTop (mkF m 30 #[.val (.ref a), .val (.ref b), .val (.int (Int32.ofNat o)), .val (.int (Int32.ofNat len)), .val .null, .unset] [.int z])) := c4.trans (st5 _ (Steps.refl _))
  have c7 : Steps p.tables e below (s₁.setTop (entryFrame m #[.ref a, .ref b, .int (Int32.ofNat o), .int (Int32.ofNat len), .null] 6)) (T5.setTop (mkF m 36 #[.val (.ref a), .val (.ref b), .val (.int (Int32.ofNat o)), .val (.int (Int32.ofNat len)), .val .null, .unset] [.int (Int32.ofNat len), .int (Int32.ofNat o), .ref b])) := c6.trans (by
    refine XS.ifNo X5.here hexec rfl (hb hbytes d30) rfl (i0_eq_f hz) ?_
    refine XS.aloadN X5.here hexec rfl (hb hbytes d33) rfl rfl ?_
    refine XS.iloadN X5.here hexec rfl (hb hbytes d34) rfl ?_
    refine XS.iloadN X5.here hexec rfl (hb hbytes d35) rfl ?_
    exact Steps.refl _)
  obtain ⟨v8, T8, X8, E8, g8⟩ := X5.callS hexec (Cmp3.law l b A o len) hown (wks W (staticW "java/lang/String" 177 Cmp3.yN)) (wk W Cmp3.tab) (W := 0) (Nat.le_of_ble_eq_true rfl) (Nat.le_of_ble_eq_true rfl) (Nat.le_refl _) (by show 0 + len ≤ len; omega) (g := (mkF m 36 #[.val (.ref a), .val (.ref b), .val (.int (Int32.ofNat o)), .val (.int (Int32.ofNat len)), .val .null, .unset] [.int (Int32.ofNat len), .int (Int32.ofNat o), .ref b])) rfl (by rw [hml]; rfl) c7 (argsL := [.ref b, .int (Int32.ofNat o), .int (Int32.ofNat len)]) (rest := []) rfl rfl (by show 2 * 0 + 0 ≤ _; decide) (hb hbytes d36) (⟨rfl, hA.mv X5.warmed.alike hh5, l1, l2, hp⟩)
  obtain ⟨e8, z8⟩ := E8
  obtain ⟨rfl, N, n1, n2, n3, n4, n5, n6⟩ := NewArr.mv _ T5 s _ _ hh5.symm (Vm.Alike.refl _) rfl e8
  rw [hh5] at z8
  have hB1 := hB.keep X8.warmed.alike (n6 _ _ hB.1)
  have hne : s.heap.size ≠ a := (Nat.ne_of_lt (Array.getElem?_eq_some_iff.mp hB.1).1).symm
  have c9 : Steps p.tables e below (s₁.setTop (entryFrame m #[.ref a, .ref b, .int (Int32.ofNat o), .int (Int32.ofNat len), .null] 6)) (T8.setTop (mkF m 39 #[.val (.ref a), .val (.ref b), .val (.int (Int32.ofNat o)), .val (.int (Int32.ofNat len)), .val .null, .unset] [.ref s.heap.size])) := g8
  have c10 : Steps p.tables e below (s₁.setTop (entryFrame m #[.ref a, .ref b, .int (Int32.ofNat o), .int (Int32.ofNat len), .null] 6)) (T8.setTop (mkF m 45 #[.val (.ref a), .val (.ref b), .val (.int (Int32.ofNat o)), .val (.int (Int32.ofNat len)), .val .null, .val (.ref s.heap.size)] [.int (Int32.ofNat N.slots.size), .ref s.heap.size, .ref a])) := by
    have hc : Steps p.tables e below (s₁.setTop (entryFrame m #[.ref a, .ref b, .int (Int32.ofNat o), .int (Int32.ofNat len), .null] 6)) (T8.setTop (mkF m 45 #[.val (.ref a), .val (.ref b), .val (.int (Int32.ofNat o)), .val (.int (Int32.ofNat len)), .val .null, .val (.ref s.heap.size)] [.int (Int32.ofNat len), .ref s.heap.size, .ref a])) := c9.trans (by
      refine XS.astore X8.here hexec rfl (hb hbytes d39) rfl rfl rfl ?_
      refine XS.aloadN X8.here hexec rfl (hb hbytes d41) rfl rfl ?_
      refine XS.aload X8.here hexec rfl (hb hbytes d42) rfl rfl ?_
      refine XS.iloadN X8.here hexec rfl (hb hbytes d44) rfl ?_
      exact Steps.refl _)
    rw [n4]; exact hc
  obtain ⟨v11, T11, X11, E11, g11⟩ := X8.callS hexec (CodL.law l s.heap.size N) hown (wks W (staticW "java/lang/String" 47 CodL.yN)) (wk W CodL.tab) (W := 1) (Nat.le_of_ble_eq_true rfl) (Nat.le_of_ble_eq_true rfl) (Nat.le_refl _) (by show 0 + len + 0 ≤ len; omega) (g := (mkF m 45 #[.val (.ref a), .val (.ref b), .val (.int (Int32.ofNat o)), .val (.int (Int32.ofNat len)), .val .null, .val (.ref s.heap.size)] [.int (Int32.ofNat N.slots.size), .ref s.heap.size, .ref a])) rfl (by rw [hml]; rfl) c10 (argsL := [.ref s.heap.size, .int (Int32.ofNat N.slots.size)]) (rest := [.ref a]) rfl rfl (by show 2 * 0 + (1 + 0) ≤ _; decide) (hb hbytes d45) (⟨rfl, n1⟩)
  obtain ⟨rfl, q11⟩ := E11
  have hB11 := hB1.mv (X8.warmed.alike.symm.trans X11.warmed.alike) q11
  have c12 : Steps p.tables e below (s₁.setTop (entryFrame m #[.ref a, .ref b, .int (Int32.ofNat o), .int (Int32.ofNat len), .null] 6)) (T11.setTop (mkF m 48 #[.val (.ref a), .val (.ref b), .val (.int (Int32.ofNat o)), .val (.int (Int32.ofNat len)), .val .null, .val (.ref s.heap.size)] [.int 0, .ref a])) := g11
  obtain ⟨T13, X13, p13, bl13, sl13, st13⟩ := X11.finit hexec hown (wk W (.fieldLink "java/lang/String" 15 "java/lang/String" "coder" "B")) (Or.inr ⟨_, (wk W (.laysFinal "java/lang/String" "java/lang/String" "coder" "B"))⟩) (Or.inl ⟨rfl, hnm⟩) f2 (Or.inl rfl) hB11 (t := .byte) (by decide +kernel) rfl (g := (mkF m 48 #[.val (.ref a), .val (.ref b), .val (.int (Int32.ofNat o)), .val (.int (Int32.ofNat len)), .val .null, .val (.ref s.heap.size)] [.int 0, .ref a])) rfl (rest := []) rfl (hb hbytes d48)
  have c14 : Steps p.tables e below (s₁.setTop (entryFrame m #[.ref a, .ref b, .int (Int32.ofNat o), .int (Int32.ofNat len), .null] 6)) (T13.setTop (mkF m 54 #[.val (.ref a), .val (.ref b), .val (.int (Int32.ofNat o)), .val (.int (Int32.ofNat len)), .val .null, .val (.ref s.heap.size)] [.ref s.heap.size, .ref a])) := (c12.trans (st13 _ (Steps.refl _))).trans (by
    refine XS.aloadN X13.here hexec rfl (hb hbytes d51) rfl rfl ?_
    refine XS.aload X13.here hexec rfl (hb hbytes d52) rfl rfl ?_
    exact Steps.refl _)
  obtain ⟨T15, X15, p15, bl15, sl15, st15⟩ := X13.finit hexec hown (wk W (.fieldLink "java/lang/String" 9 "java/lang/String" "value" "[B")) (Or.inr ⟨_, (wk W (.laysFinal "java/lang/String" "java/lang/String" "value" "[B"))⟩) (Or.inl ⟨rfl, hnm⟩) f1 (Or.inl rfl) bl13 (t := (.array .byte)) (by decide +kernel) rfl (g := (mkF m 54 #[.val (.ref a), .val (.ref b), .val (.int (Int32.ofNat o)), .val (.int (Int32.ofNat len)), .val .null, .val (.ref s.heap.size)] [.ref s.heap.size, .ref a])) rfl (rest := []) rfl (hb hbytes d54)
  have c16 : Steps p.tables e below (s₁.setTop (entryFrame m #[.ref a, .ref b, .int (Int32.ofNat o), .int (Int32.ofNat len), .null] 6)) (T15.setTop (mkF m 57 #[.val (.ref a), .val (.ref b), .val (.int (Int32.ofNat o)), .val (.int (Int32.ofNat len)), .val .null, .val (.ref s.heap.size)] [])) := c14.trans (st15 _ (Steps.refl _))
  have ap := apart (Or.inr ⟨_, (wk W (.laysFinal "java/lang/String" "java/lang/String" "value" "[B"))⟩) (Or.inr ⟨_, (wk W (.laysFinal "java/lang/String" "java/lang/String" "coder" "B"))⟩) f1 f2 (t₁ := .array .byte) (t₂ := .byte) (by decide +kernel) (by decide +kernel) (by decide)
  have al := X8.warmed.alike.symm.trans X15.warmed.alike
  have n7 : T11.heap[s.heap.size]? = some N := by rw [q11]; exact n1.1
  exact ⟨T15, none, _, _, _, X15, by simp, rfl, by omega, (fun _ => rfl), ⟨rfl, _, N, bl15, ((Same.refl D _).set _ (by simp)).set _ (by simp), sl15, (Cell.slots_setSlot_ne _ ap).trans sl13, n1.keep al (p15.other hne (p13.other hne n7)), n2, by rw [al.findClass]; exact n3, n4, n5, fun y c h1 h2 => p15.other h1 (p13.other h1 (by rw [q11]; exact n6 y c h2)), by rw [p15.2.2, p13.2.2, q11]; exact z8⟩, fun fs hl => c16.trans (X15.returnOut hexec hret (hb hbytes d57) hl)⟩
end New4
namespace New1
def yN : MethodName := ⟨"java/lang/String", "<init>", "([C)V"⟩
abbrev yB : ByteArray := jdk_42_method_3_code
theorem d0 : decode yB 0 = .ok (.aload_n 0, 1) := by decide +kernel
theorem d1 : decode yB 1 = .ok (.aload_n 1, 1) := by decide +kernel
theorem d2 : decode yB 2 = .ok (.iconst 0, 1) := by decide +kernel
theorem d3 : decode yB 3 = .ok (.aload_n 1, 1) := by decide +kernel
theorem d4 : decode yB 4 = .ok (.arraylength, 1) := by decide +kernel
theorem d5 : decode yB 5 = .ok (.aconst_null, 1) := by decide +kernel
theorem d6 : decode yB 6 = .ok (.invokespecial 27, 3) := by decide +kernel
theorem d9 : decode yB 9 = .ok (.return_, 1) := by decide +kernel
def site : List Cond := [New4.tab] ++ initW "java/lang/String" 27 New4.yN
def tab : Cond := tabOf yN yB 2 none site
def P (a : Addr) (D : Cell) (fV fC : Field) (b : Addr) (A : Cell) (z : Int32) (args : Array Value) (s : State) : Prop := args = #[.ref a, .ref b] ∧ Blank "java/lang/String" a D s ∧ Found "java/lang/String" "value" "[B" fV s ∧ Found "java/lang/String" "coder" "B" fC s ∧ Ch b A s ∧ StaticIs s "java/lang/String" "COMPACT_STRINGS" "Z" (.int z) ∧ ¬ z = 0 ∧ 0 < A.slots.size ∧ A.slots.size ≤ 536870912 ∧ ∀ i, i < A.slots.size → ¬ 255 < cv A i
def E (a : Addr) (D : Cell) (fV fC : Field) (A : Cell) (r : Option Value) (s u : State) : Prop := Got a D fV fC A 0 A.slots.size r s u
/-- new String(chars), not empty, no char above 255: a Latin-1 String of their low bytes -/
theorem law (l : Launch) (a : Addr) (D : Cell) (fV fC : Field) (b : Addr) (A : Cell) (z : Int32) : Law l yN 2 1 3 52 yB 2 none site (P a D fV fC b A z) (E a D fV fC A) [⟨a, fC.slot⟩, ⟨a, fV.slot⟩] 1 A.slots.size := by
  refine Law.of_walk (plainFor_of_name (by decide +kernel)) (by decide +kernel) (by decide +kernel) (by decide) (fun _ _ h => by rw [h.1]; rfl) (fun _ U U' hal hh h => ⟨h.1, h.2.1.mv hal hh, h.2.2.1.al hal, h.2.2.2.1.al hal, h.2.2.2.2.1.mv hal hh, h.2.2.2.2.2.1.there hal hh, h.2.2.2.2.2.2⟩) (fun r U U' V V' h1 hal h2 h => Got.mv r U U' V V' h1 hal h2 h) ?_
  intro p e s m args below meth c s₁ X0 hexec hbytes hml hret hlk hnm hown hh0 W hP
  obtain ⟨rfl, hB, f1, f2, hA, s1, hz, l0, l2, hp⟩ := hP
  have c1 : Steps p.tables e below (s₁.setTop (entryFrame m #[.ref a, .ref b] 2)) (s₁.setTop (mkF m 0 #[.val (.ref a), .val (.ref b)] [])) := entry rfl
  have c2 : Steps p.tables e below (s₁.setTop (entryFrame m #[.ref a, .ref b] 2)) (s₁.setTop (mkF m 6 #[.val (.ref a), .val (.ref b)] [.null, .int (Int32.ofNat A.slots.size), .int 0, .ref b, .ref a])) := c1.trans (by
    refine XS.aloadN X0.here hexec rfl (hb hbytes d0) rfl rfl ?_
    refine XS.aloadN X0.here hexec rfl (hb hbytes d1) rfl rfl ?_
    refine iconstV X0.here hexec rfl 0 (hb hbytes d2) (by decide) ?_
    refine XS.aloadN X0.here hexec rfl (hb hbytes d3) rfl rfl ?_
    refine X0.alen hexec (hA.1.mv X0.warmed.alike hh0) rfl rfl (hb hbytes d4) ?_
    refine XS.aconstNull X0.here hexec rfl (hb hbytes d5) ?_
    exact Steps.refl _)
  obtain ⟨v3, T3, X3, E3, g3⟩ := X0.callN hexec (New4.law l a D fV fC b A z 0 A.slots.size) rfl hown (wks W (initW "java/lang/String" 27 New4.yN)) (W New4.tab (by simp only [site, List.mem_cons, List.mem_append, true_or, or_true])) (W := 0) (Nat.le_of_ble_eq_true rfl) (Nat.le_of_ble_eq_true rfl) (Nat.le_refl _) (by show 0 + A.slots.size ≤ A.slots.size; omega) (g := (mkF m 6 #[.val (.ref a), .val (.ref b)] [.null, .int (Int32.ofNat A.slots.size), .int (Int32.ofNat 0), .ref b, .ref a])) rfl (by rw [hml]; rfl) c2 (argsL := [.ref b, .int (Int32.ofNat 0), .int (Int32.ofNat A.slots.size), .null]) (rest := []) rfl rfl (by show 2 * 0 + 0 ≤ _; decide) (hb hbytes d6) (⟨rfl, hB.mv X0.warmed.alike hh0, f1.al X0.warmed.alike, f2.al X0.warmed.alike, hA.mv X0.warmed.alike hh0, s1.there X0.warmed.alike hh0, hz, l0, by omega, l2, fun i hi => by rw [Nat.zero_add]; exact hp i hi⟩)
  have e0 := Got.mv _ s₁ s _ _ hh0.symm (Vm.Alike.refl _) rfl E3
  obtain rfl := e0.1
  have c4 : Steps p.tables e below (s₁.setTop (entryFrame m #[.ref a, .ref b] 2)) (T3.setTop (mkF m 9 #[.val (.ref a), .val (.ref b)] [])) := g3
  exact ⟨T3, none, _, _, _, X3, by simp, rfl, by omega, (fun _ => rfl), e0, fun fs hl => c4.trans (X3.returnOut hexec hret (hb hbytes d9) hl)⟩
theorem pays {l : Launch} {R : Room} {p : Program} {e : Env} {below : List Frame} {s : State} {sargs : Array Value} {len W : Nat} (a : Addr) (D : Cell) (fV fC : Field) (b : Addr) (A : Cell) (z : Int32) (htab : tab.before sargs s = true) (hfr : 4 ≤ R.frames) (hlo : W + 65 ≤ R.locals) :
    Back l R p e below s sargs yN len W (fun A₁ a₁ => A₁.cells + 1 ≤ R.cells ∧ A₁.slots + A.slots.size ≤ R.slots ∧ P a D fV fC b A z a₁ A₁.U) (fun A₁ _ v₁ B₁ => E a D fV fC A v₁ A₁.U B₁.U ∧ B₁.locs = A₁.locs ++ [⟨a, fC.slot⟩, ⟨a, fV.slot⟩] ∧ B₁.cells = A₁.cells + 1 ∧ B₁.slots = A₁.slots + A.slots.size) :=
  (law l a D fV fC b A z).pays htab hfr (by omega)
end New1
/-- the byte, read back as charAt reads it, is the char -/
theorem lo8_mask {x : Int32} (h0 : ¬ x < 0) (h1 : ¬ 255 < x) : lo8 x &&& 255 = x := by
  have t : ∀ k : Fin 256, lo8 (Int32.ofNat k.val) &&& 255 = Int32.ofNat k.val := by decide +kernel
  rw [Int32.lt_iff_toInt_lt] at h0 h1
  have e0 : (0 : Int32).toInt = 0 := rfl
  have e1 : (255 : Int32).toInt = 255 := rfl
  obtain ⟨k, hk⟩ : ∃ k : Nat, x.toInt = k := ⟨x.toInt.toNat, by omega⟩
  have hx : x = Int32.ofNat k := Int32.toInt_inj.mp (by rw [hk, Int32.toInt_ofNat_small (by omega)])
  rw [hx]
  exact t ⟨k, by omega⟩
end StrChars
namespace StrChars.Road
open Jvm Sem ClassFile Op Lib Jvm.Stand Jvm.Free Jvm.Free.XT
open Jvm.Lib.Cold (StaticIs)
abbrev ST : String := "java/lang/String"
/-- every table word that New1's law asks, flat -/
abbrev words : List Jvm.Cond := [.code New1.yN New1.yB 2 none, .initialized ST, .methodLink ST 27 New4.yN, .instanceMethod New4.yN,
  .code New4.yN New4.yB 6 none, .fieldLink ST 38 ST "COMPACT_STRINGS" "Z", .laysFinal ST ST "value" "[B", .fieldLink ST 9 ST "value" "[B", .laysFinal ST ST "coder" "B", .fieldLink ST 15 ST "coder" "B",
  .methodLink ST 1 Lib.objectInit, .instanceMethod Lib.objectInit, .code Lib.objectInit ⟨#[0xb1]⟩ 1 none, .methodLink ST 177 Cmp3.yN, .static Cmp3.yN, .methodLink ST 47 CodL.yN, .static CodL.yN,
  .code Cmp3.yN Cmp3.yB 6 (some (.array .byte)), .initialized U16, .arrayClass .byte, .methodLink U16 115 Cmp5.yN, .static Cmp5.yN, .code Cmp5.yN Cmp5.yB 7 (some .int), .code CodL.yN CodL.yB 2 (some .byte)]
theorem tab_of {a : Array Value} {s : State} (h : ∀ w ∈ words, w.before a s = true) : New1.tab.before a s = true := by
  have h5 : Cmp5.tab.before a s = true := unparts (wk h (.code Cmp5.yN Cmp5.yB 7 (some .int))) (wks h (.initialized Cmp5.yN.cls :: Cmp5.site))
  have hc : CodL.tab.before a s = true := unparts (wk h (.code CodL.yN CodL.yB 2 (some .byte))) (wks h (.initialized CodL.yN.cls :: CodL.site))
  have q5 : ∀ w ∈ Cmp5.tab :: words, w.before a s = true := fun w hw => (List.mem_cons.mp hw).elim (fun e => e ▸ h5) (h w)
  have h3 : Cmp3.tab.before a s = true := unparts (wk q5 (.code Cmp3.yN Cmp3.yB 6 (some (.array .byte)))) (wks q5 (.initialized Cmp3.yN.cls :: Cmp3.site))
  have q3 : ∀ w ∈ Cmp3.tab :: CodL.tab :: words, w.before a s = true := fun w hw => (List.mem_cons.mp hw).elim (fun e => e ▸ h3) fun hw => (List.mem_cons.mp hw).elim (fun e => e ▸ hc) (h w)
  have h4 : New4.tab.before a s = true := unparts (wk q3 (.code New4.yN New4.yB 6 none)) (wks q3 (.initialized New4.yN.cls :: New4.site))
  have q4 : ∀ w ∈ New4.tab :: words, w.before a s = true := fun w hw => (List.mem_cons.mp hw).elim (fun e => e ▸ h4) (h w)
  exact unparts (wk q4 (.code New1.yN New1.yB 2 none)) (wks q4 (.initialized New1.yN.cls :: New1.site))
/-- the words ride from the start Z to the walk's own state -/
theorem moved {Z s : State} {a0 args : Array Value} (hZ : Z.Warmed39 s.vm) (hw : ∀ d ∈ words, d.before a0 Z = true) : ∀ d ∈ words, d.before args s = true := fun d hd => by
  have q := hw d hd
  have t : ∀ d ∈ words, d = .arrayClass .byte ∨ (d.onTables && d.keepsFace) = true := by decide +kernel
  rcases t d hd with rfl | t
  · exact RoadKit.mvA hZ q
  · exact RoadKit.mv hZ q t
/-- WHAT COMES BACK, over the tables of the start Z: h the heap at the call, h' behind it -/
def Q (Z : State) (x : Addr) (A : Cell) (h : Heap) (v : Option Value) (h' : Heap) (L : List Loc) : Prop := v = none ∧ (∀ y ∈ L, y.base = x) ∧ RoadKit.Keep h h' [x] ∧ h'.size = h.size + 1 ∧ RoadKit.Exa Z h' x ST ∧ RoadKit.Fld Z h' x ST "value" "[B" (.ref h.size) ∧ RoadKit.Fld Z h' x ST "coder" "B" (.int 0) ∧
  (∃ V : Cell, RoadKit.Arr Z h' h.size V .byte ∧ V.vm = .none ∧ Z.vm.findClass "[B" = some V.cls ∧ V.slots.size = A.slots.size ∧ ∀ j, j < A.slots.size → V.slots[j]? = some (.int (lo8 (cv A j)))) ∧
  ∀ (O n d : String) (w : Value), RoadKit.Fld Z h x O n d w → RoadKit.slotOf Z O n d ≠ RoadKit.slotOf Z ST "value" "[B" → RoadKit.slotOf Z O n d ≠ RoadKit.slotOf Z ST "coder" "B" → RoadKit.Fld Z h' x O n d w
/-- **new String(chars) AT A CALL, IN THE ROAD'S FORM**: for specialBack behind newO: x the fresh String, b the char[] with the cell A -/
theorem back {p : Program} {l : Launch} {e : Env} {R : Room} {s : State} {args : Array Value} {below : List Frame} {len W : Nat} {Z : State} {a0 : Array Value} {h : Heap} (hZ : Z.Warmed39 s.vm) (hw : ∀ d ∈ words, d.before a0 Z = true) {kI : Nat} (wi : (Jvm.Cond.instantiable ST kI).before a0 Z = true)
    {x b : Addr} {A : Cell} {z : Int32} {v0 c0 : Value} (E : RoadKit.Exa Z h x ST) (V : RoadKit.Fld Z h x ST "value" "[B" v0) (C : RoadKit.Fld Z h x ST "coder" "B" c0) (K : RoadKit.Arr Z h b A .char) (hty : Typed .char A) (S : RoadKit.Sta Z h ST "COMPACT_STRINGS" "Z" (.int z)) (hz : ¬ z = 0)
    (l0 : 0 < A.slots.size) (l2 : A.slots.size ≤ 536870912) (hp : ∀ i, i < A.slots.size → ¬ 255 < cv A i) (hfr : 4 ≤ R.frames) (hlo : W + 65 ≤ R.locals) :
    Back l R p e below s args New1.yN len W (fun P a => a = #[.ref x, .ref b] ∧ P.U.heap = h ∧ P.cells + 1 ≤ R.cells ∧ P.slots + A.slots.size ≤ R.slots)
      (fun P _ v B => ∃ L, Q Z x A h v B.U.heap L ∧ B.locs = P.locs ++ L ∧ B.cells = P.cells + 1 ∧ B.slots = P.slots + A.slots.size) := by
  intro m meth c P g ig mk a X hg hsize hdg hW hn hp'
  obtain ⟨rfl, rfl, r1, r2⟩ := hp'
  have al : Z.vm.Alike P.U.vm := hZ.alike.trans X.warmed.alike
  obtain ⟨D, cfV, kV, iV, fV, hD, gV, stV, knV, obV, asV, slV⟩ := id V
  obtain ⟨D', cfC, kC, iC, fC, hD', gC, stC, -, -, asC, slC⟩ := id C
  cases hD.symm.trans hD'
  obtain ⟨D2, kD, e1, e2, e3, e4, e5⟩ := id E
  cases hD.symm.trans e1
  obtain ⟨c2, k2, i1, i2, i3, -⟩ := Cond.instantiable_spec wi
  cases e2.symm.trans i1
  cases e3.symm.trans i2
  obtain ⟨kU, u1, u2⟩ := al.2.2 _ _ e3
  have hB : Blank ST x D P.U := ⟨hD, ⟨knV, fun q hq => by rw [hq] at obV; cases obV⟩, by rw [al.findClass]; exact e2, kU, u1, by rw [u2]; exact i3, by rw [u2]; exact e5 i3⟩
  have F1 : Found ST "value" "[B" fV P.U := ⟨SBG.found_only al ⟨cfV, kV, iV, gV⟩, stV⟩
  have F2 : Found ST "coder" "B" fC P.U := ⟨SBG.found_only al ⟨cfC, kC, iC, gC⟩, stC⟩
  have hA : Ch b A P.U := ⟨⟨K.1, State.isArrayOf_alike al K.2.1, K.2.2, by omega⟩, hty⟩
  have hS : StaticIs P.U ST "COMPACT_STRINGS" "Z" (.int z) := by
    obtain ⟨cfS, iS, kS, fS, st, cS, t1, t2, t3, t4, t5, t6, t7⟩ := S
    exact StaticIs.there (s := { Z with heap := P.U.heap }) ⟨cfS, iS, kS, fS, st, cS, t1, t2, t3, t4, t5, (fun q => by rw [q] at t6; cases t6), t7⟩ al rfl
  obtain ⟨v, B, X', ⟨⟨hv, E', V', q1, q2, q3, q4, q5, q6, q7, q8, q9, q10, q11⟩, hl, hc, hs⟩, st⟩ := New1.pays x D fV fC b A z (tab_of (moved hZ hw)) hfr hlo m meth c P g ig mk _ X hg hsize hdg hW hn ⟨r1, r2, rfl, hB, F1, F2, hA, hS, hz, l0, l2, hp⟩
  have al' : Z.vm.Alike B.U.vm := hZ.alike.trans X'.warmed.alike
  have hsz : E'.slots.size = D.slots.size := by
    obtain ⟨-, -, -, kB, w1, w2, w3⟩ := q1
    obtain ⟨kB', y1, y2⟩ := al'.2.2 _ _ e3
    rw [q2.2.1] at w1
    cases w1.symm.trans y1
    rw [w3, e5 i3, y2]
  refine ⟨v, B, X', ⟨_, ⟨hv, ?_, ⟨by omega, fun y cy hy hn' => q10 y cy (by simpa using hn') hy, fun y cy hy => ?_⟩, q11, ⟨E', _, q1.1, by rw [q2.2.1]; exact e2, by rw [q2.2.1]; exact e3, by rw [q2.1]; exact obV, fun _ => by rw [hsz]; exact e5 i3⟩,
    ⟨E', cfV, kV, iV, fV, q1.1, gV, stV, by rw [q2.1]; exact knV, by rw [q2.1]; exact obV, by rw [q2.2.1]; exact asV, q3⟩, ⟨E', cfC, kC, iC, fC, q1.1, gC, stC, by rw [q2.1]; exact knV, by rw [q2.1]; exact obV, by rw [q2.2.1]; exact asC, q4⟩,
    ⟨V', ⟨q5.1, State.isArrayOf_alike al'.symm q5.2.1, q5.2.2.1⟩, q6, by rw [← al'.findClass]; exact q7, q8, fun j hj => by have := q9 j hj; rwa [Nat.zero_add] at this⟩, fun O n d w F n1 n2 => ?_⟩, hl, hc, hs⟩, st⟩
  · intro y hy
    simp only [List.mem_cons, List.not_mem_nil, or_false] at hy
    rcases hy with rfl | rfl <;> rfl
  · by_cases q : y = x
    · subst q
      cases hD.symm.trans hy
      exact ⟨E', q1.1, q2.2.1, q2.1, hsz⟩
    · exact ⟨cy, q10 y cy q hy, rfl, rfl, rfl⟩
  · obtain ⟨D3, cf, k, i, f, g1, g2, g3, g4, g5, g6, g7⟩ := F
    cases hD.symm.trans g1
    simp only [RoadKit.slotOf, g2, gV, gC, Option.map_some, Option.getD_some] at n1 n2
    exact ⟨E', cf, k, i, f, q1.1, g2, g3, by rw [q2.1]; exact g4, by rw [q2.1]; exact g5, by rw [q2.2.1]; exact g6, by rw [q2.2.2 f.slot (by simp [n1, n2])]; exact g7⟩
end StrChars.Road
namespace StrChars.Road
open Jvm Sem ClassFile Op Lib Jvm.Stand Jvm.Free Jvm.Free.XT
/-- WHAT COMES BACK, the byte[] as a list of values -/
def QA (Z : State) (x : Addr) (zn : Int32) (cs : List Int32) (h : Heap) (v : Option Value) (h' : Heap) (L : List Loc) : Prop := v = none ∧ (∀ y ∈ L, y.base = x) ∧ RoadKit.Keep h h' [x] ∧ h'.size = h.size + 1 ∧ RoadKit.Exa Z h' x ST ∧ RoadKit.Fld Z h' x ST "value" "[B" (.ref h.size) ∧ RoadKit.Fld Z h' x ST "coder" "B" (.int 0) ∧
  (∃ kb, Z.vm.findClass "[B" = some kb ∧ RoadKit.Arv Z h' h.size kb .byte zn (cs.map fun c => .int (lo8 c)) (.int 0)) ∧
  ∀ (O n d : String) (w : Value), RoadKit.Fld Z h x O n d w → RoadKit.slotOf Z O n d ≠ RoadKit.slotOf Z ST "value" "[B" → RoadKit.slotOf Z O n d ≠ RoadKit.slotOf Z ST "coder" "B" → RoadKit.Fld Z h' x O n d w
/-- **new String(chars) AT A CALL, THE ARRAYS AS LISTS**: the char[] at b holds cs, not empty, no char above 255 -/
theorem backArv {p : Program} {l : Launch} {e : Env} {R : Room} {s : State} {args : Array Value} {below : List Frame} {len W : Nat} {Z : State} {a0 : Array Value} {h : Heap} (hZ : Z.Warmed39 s.vm) (hw : ∀ d ∈ words, d.before a0 Z = true) {kI : Nat} (wi : (Jvm.Cond.instantiable ST kI).before a0 Z = true)
    {x b : Addr} {k : ClassId} {zn z : Int32} {cs : List Int32} {dv v0 c0 : Value} (E : RoadKit.Exa Z h x ST) (V : RoadKit.Fld Z h x ST "value" "[B" v0) (C : RoadKit.Fld Z h x ST "coder" "B" c0) (K : RoadKit.Arv Z h b k .char zn (cs.map Value.int) dv) (S : RoadKit.Sta Z h ST "COMPACT_STRINGS" "Z" (.int z)) (hz : ¬ z = 0)
    (hlen : zn.toNatClampNeg = cs.length) (h0 : 0 < cs.length) (hbig : cs.length ≤ 536870912) (hall : ∀ c ∈ cs, ¬ 255 < c) (hfr : 4 ≤ R.frames) (hlo : W + 65 ≤ R.locals) :
    Back l R p e below s args New1.yN len W (fun P a => a = #[.ref x, .ref b] ∧ P.U.heap = h ∧ P.cells + 1 ≤ R.cells ∧ P.slots + cs.length ≤ R.slots)
      (fun P _ v B => ∃ L, QA Z x zn cs h v B.U.heap L ∧ B.locs = P.locs ++ L ∧ B.cells = P.cells + 1 ∧ B.slots = P.slots + cs.length) := by
  obtain ⟨A, K1, K2, K3, K4, K5, K6⟩ := K
  have e : A.slots.size = cs.length := K3.trans hlen
  have hat : ∀ (i : Nat) (hi : i < cs.length), A.slots[i]? = some (.int cs[i]) := fun i hi => by rw [K5 i (by omega)]; simp [List.getD_eq_getElem?_getD, hi]
  have hcv : ∀ (i : Nat) (hi : i < cs.length), cv A i = cs[i] := fun i hi => by unfold cv; rw [hat i hi]
  have hty : Typed .char A := fun i v hv => by
    have hi : i < A.slots.size := (Array.getElem?_eq_some_iff.mp hv).1
    have q := K5 i hi
    rw [hv] at q
    rw [Option.some.inj q]
    exact K6 i hi
  refine Back.mono (back hZ hw wi E V C K1 hty S hz (by omega) (by omega) (fun i hi => by rw [hcv i (by omega)]; exact hall _ (List.getElem_mem _)) hfr hlo) (fun P a hp => ⟨hp.1, hp.2.1, hp.2.2.1, by rw [e]; exact hp.2.2.2⟩) (fun P a v B hp hq => ?_)
  obtain ⟨L, ⟨q1, q2, q3, q4, q5, q6, q7, ⟨V', v1, v2, v3, v4, v5⟩, q9⟩, hl, hc, hs⟩ := hq
  refine ⟨L, ⟨q1, q2, q3, q4, q5, q6, q7, ⟨V'.cls, v3, V', v1, rfl, by rw [v4, e, hlen], K4, fun i hi => ?_, fun i hi => ?_⟩, q9⟩, hl, hc, by rw [hs, e]⟩
  · have hi' : i < cs.length := by omega
    rw [v5 i (by omega), hcv i hi']; simp [List.getD_eq_getElem?_getD, hi']
  · have hi' : i < cs.length := by omega
    simp only [List.getD_eq_getElem?_getD, List.getElem?_map, List.getElem?_eq_getElem hi', Option.map_some, Option.getD_some]
    exact fits_lo8 _
end StrChars.Road
namespace StrChars.Road
open Jvm Sem ClassFile Op Lib Jvm.Stand Jvm.Free Jvm.Free.XT
/-- WHAT COMES BACK, in the writer's own shape -/
def QV (Z : State) (x : Addr) (N : Int32) (bs : List Int32) (h : Heap) (n0 : Nat) (v : Option Value) (h' : Heap) (L : List Loc) : Prop := v = none ∧ RoadKit.Fr n0 L ∧ RoadKit.Keep h h' [x] ∧ RoadKit.Exa Z h' x ST ∧ RoadKit.Fld Z h' x ST "coder" "B" (.int 0) ∧
  ∃ (t : Addr) (kb : ClassId), n0 ≤ t ∧ h.size ≤ t ∧ ¬ t = x ∧ RoadKit.Fld Z h' x ST "value" "[B" (.ref t) ∧ RoadKit.Arv Z h' t kb .byte N (bs.map Value.int) (.int 0)
/-- **new String(chars) AT A CALL, FOR THE WRITER**: a char[] of n known ints, each 0 to 255 -/
theorem backV {p : Program} {l : Launch} {e : Env} {R : Room} {s : State} {args : Array Value} {below : List Frame} {len W : Nat} {Z : State} {a0 : Array Value} {h : Heap} (hZ : Z.Warmed39 s.vm) (hw : ∀ d ∈ words, d.before a0 Z = true) {kI : Nat} (wi : (Jvm.Cond.instantiable ST kI).before a0 Z = true)
    {x b : Addr} {kC : ClassId} {cs bs : List Int32} {d v0 c0 : Value} {z N : Int32} {n n0 : Nat} (hx0 : n0 ≤ x) (hh0 : n0 ≤ h.size) (E : RoadKit.Exa Z h x ST) (V : RoadKit.Fld Z h x ST "value" "[B" v0) (C : RoadKit.Fld Z h x ST "coder" "B" c0) (K : RoadKit.Arv Z h b kC .char N (cs.map Value.int) d) (S : RoadKit.Sta Z h ST "COMPACT_STRINGS" "Z" (.int z)) (hz : ¬ z = 0)
    (hn : cs.length = n) (hN : N = Int32.ofNat n) (l0 : 0 < n) (l2 : n ≤ 4000) (hp : ∀ c ∈ cs, ¬ c < 0 ∧ ¬ (255 : Int32) < c) (hb : bs = cs.map (fun c => c.toInt8.toInt32)) (hfr : 4 ≤ R.frames) (hlo : W + 65 ≤ R.locals) :
    Back l R p e below s args (⟨"java/lang/String", "<init>", "([C)V"⟩ : MethodName) len W (fun P a => a = #[.ref x, .ref b] ∧ P.U.heap = h ∧ P.cells + 1 ≤ R.cells ∧ P.slots + n ≤ R.slots)
      (fun P _ v B => ∃ L, QV Z x N bs h n0 v B.U.heap L ∧ B.locs = P.locs ++ L ∧ B.cells = P.cells + 1 ∧ B.slots = P.slots + n) := by
  subst hn hN hb
  refine Back.mono (backArv hZ hw wi E V C K S hz (n32 (by omega)) l0 (by omega) (fun c hc => (hp c hc).2) hfr hlo) (fun P a hp => hp) (fun P a v B hp hq => ?_)
  obtain ⟨L, ⟨q1, q2, q3, q4, q5, q6, q7, ⟨kb, v1, v2⟩, q9⟩, hl, hc, hs⟩ := hq
  exact ⟨L, ⟨q1, fun y hy => by rw [q2 y hy]; exact hx0, q3, q5, q7, h.size, kb, hh0, Nat.le_refl _, Nat.ne_of_gt E.lt, q6, by rw [List.map_map]; exact v2⟩, hl, hc, hs⟩
end StrChars.Road
namespace StrChars
open Jvm Sem ClassFile Op Lib Jvm.Stand Jvm.Free.XT Jvm.Free.ALB Jvm.Free.JM Jvm.Free
open Jvm.Lib.Cold (StaticIs)
def hi8 (x : Int32) : Int32 := lo8 (x >>> ((8 : Int32) &&& 31))
/-- what StringUTF16.getChar makes of two bytes -/
def pairCh (u v : Int32) : Int32 := (((u &&& 255) <<< ((0 : Int32) &&& 31)) ||| ((v &&& 255) <<< ((8 : Int32) &&& 31))).toUInt32.toUInt16.toUInt32.toInt32
theorem lo8_and (x : Int32) : (lo8 x &&& 255).toBitVec.toNat = x.toBitVec.toNat % 256 := by
  have h : (lo8 x).toBitVec = (x.toBitVec.signExtend 8).signExtend 32 := by rw [lo8, Int8.toBitVec_toInt32, Int32.toBitVec_toInt8]
  rw [Int32.toBitVec_and, BitVec.toNat_and, h]
  have e : ((x.toBitVec.signExtend 8).signExtend 32).toNat % 256 = x.toBitVec.toNat % 256 := by
    rw [BitVec.toNat_signExtend]
    have hlt := x.toBitVec.isLt
    simp only [BitVec.toNat_setWidth, BitVec.toNat_signExtend]
    split <;> split <;> omega
  rw [← e]
  exact Nat.and_two_pow_sub_one_eq_mod _ 8
theorem pair_says {c : Int32} (h0 : ¬ c < 0) (h1 : ¬ 65535 < c) : pairCh (lo8 c) (hi8 c) = c := by
  rw [Int32.lt_iff_toInt_lt] at h0 h1
  have e0 : (0 : Int32).toInt = 0 := rfl
  have e1 : (65535 : Int32).toInt = 65535 := rfl
  have hc : c.toInt = c.toBitVec.toNat := by
    have := c.toBitVec.isLt
    have e : c.toInt = c.toBitVec.toInt := rfl
    rw [e] at h0 h1
    rw [e]
    rw [BitVec.toInt_eq_toNat_cond] at h0 h1 ⊢
    split at h0 <;> split <;> omega
  have hn : c.toBitVec.toNat < 65536 := by omega
  have a1 := lo8_and c
  have a2 : (hi8 c &&& 255).toBitVec.toNat = c.toBitVec.toNat / 256 := by
    rw [hi8, lo8_and]
    have e : ((8 : Int32) &&& 31) = 8 := by decide
    rw [e, Int32.toBitVec_shiftRight]
    have e2 : ((8 : Int32).toBitVec.smod 32) = 8#32 := by decide
    rw [e2, BitVec.sshiftRight_eq', BitVec.toNat_sshiftRight_of_msb_false (by rw [BitVec.msb_eq_false_iff_two_mul_lt]; omega)]
    show c.toBitVec.toNat >>> 8 % 256 = _
    rw [Nat.shiftRight_eq_div_pow]
    omega
  unfold pairCh
  apply Int32.toBitVec_inj.mp
  apply BitVec.eq_of_toNat_eq
  have f0 : ((0 : Int32) &&& 31) = 0 := by decide
  have f8 : ((8 : Int32) &&& 31) = 8 := by decide
  rw [f0, f8]
  have g : (((lo8 c &&& 255) <<< (0 : Int32)) ||| ((hi8 c &&& 255) <<< (8 : Int32))).toBitVec.toNat = c.toBitVec.toNat := by
    rw [Int32.toBitVec_or, Int32.toBitVec_shiftLeft, Int32.toBitVec_shiftLeft]
    have s0 : ((0 : Int32).toBitVec.smod 32) = 0#32 := by decide
    have s8 : ((8 : Int32).toBitVec.smod 32) = 8#32 := by decide
    rw [s0, s8, BitVec.toNat_or]
    simp only [BitVec.shiftLeft_eq', BitVec.toNat_shiftLeft, a1, a2]
    show (c.toBitVec.toNat % 256) <<< 0 % 2 ^ 32 ||| (c.toBitVec.toNat / 256) <<< 8 % 2 ^ 32 = _
    rw [Nat.shiftLeft_zero, Nat.mod_eq_of_lt (show c.toBitVec.toNat % 256 < 2 ^ 32 by omega), Nat.mod_eq_of_lt (show (c.toBitVec.toNat / 256) <<< 8 < 2 ^ 32 by rw [Nat.shiftLeft_eq]; omega), Nat.or_comm, ← Nat.shiftLeft_add_eq_or_of_lt (by omega), Nat.shiftLeft_eq]
    omega
  show BitVec.toNat (((((lo8 c &&& 255) <<< (0 : Int32)) ||| ((hi8 c &&& 255) <<< (8 : Int32))).toBitVec.setWidth 16).setWidth 32) = _
  rw [BitVec.toNat_setWidth, BitVec.toNat_setWidth, g]
  omega
end StrChars
namespace StrChars
open Jvm Sem ClassFile Op Lib Jvm.Stand Jvm.Free.XT Jvm.Free.ALB Jvm.Free.JM Jvm.Free
open Jvm.Lib.Cold (StaticIs)
/-- charAt's cast of a byte read back -/
def chr8 (u : Int32) : Int32 := (u &&& 255).toUInt32.toUInt16.toUInt32.toInt32
theorem chr8_lo8 {c : Int32} (h0 : ¬ c < 0) (h1 : ¬ 255 < c) : chr8 (lo8 c) = c := by
  have t : ∀ k : Fin 256, (Int32.ofNat k.val).toUInt32.toUInt16.toUInt32.toInt32 = Int32.ofNat k.val := by decide +kernel
  unfold chr8
  rw [lo8_mask h0 h1]
  rw [Int32.lt_iff_toInt_lt] at h0 h1
  have e0 : (0 : Int32).toInt = 0 := rfl
  have e1 : (255 : Int32).toInt = 255 := rfl
  obtain ⟨k, hk⟩ : ∃ k : Nat, c.toInt = k := ⟨c.toInt.toNat, by omega⟩
  have hx : c = Int32.ofNat k := Int32.toInt_inj.mp (by rw [hk, Int32.toInt_ofNat_small (by omega)])
  rw [hx]
  exact t ⟨k, by omega⟩
theorem narrow_ch {c : Int32} (h0 : ¬ c < 0) (h1 : ¬ 65535 < c) : narrow .char (.int c) = .int c := by
  have q : narrow .char (.int (pairCh (lo8 c) (hi8 c))) = .int (pairCh (lo8 c) (hi8 c)) := narrow_c _
  rwa [pair_says h0 h1] at q
/-- the array's cell V codes the n chars f 0 .. f (n - 1) by the coder cd, as the JDK does: coder 1 just where some char is above 255 -/
def Cod (cd : Int32) (n : Nat) (f : Nat → Int32) (V : Cell) : Prop := (cd = 0 ∧ V.slots.size = n ∧ ∀ j, j < n → V.slots[j]? = some (.int (lo8 (f j))) ∧ ¬ 255 < f j) ∨ (cd = 1 ∧ V.slots.size = 2 * n ∧ (∀ j, j < n → V.slots[2 * j]? = some (.int (lo8 (f j))) ∧ V.slots[2 * j + 1]? = some (.int (hi8 (f j)))) ∧ ∃ j, j < n ∧ 255 < f j)
theorem Cod.cd {cd : Int32} {n : Nat} {f : Nat → Int32} {V : Cell} (h : Cod cd n f V) : cd = 0 ∨ cd = 1 := h.imp (fun q => q.1) fun q => q.1
/-- **x is a String of the n chars f 0 .. f (n - 1)**, Latin-1 or UTF-16; its array at t has the cell V -/
def Txt (x t : Addr) (V : Cell) (cd : Int32) (n : Nat) (f : Nat → Int32) (U : State) : Prop := Exact "java/lang/String" x U ∧ Has x "java/lang/String" "value" "[B" (.ref t) U ∧ Has x "java/lang/String" "coder" "B" (.int cd) U ∧ XT.Arr .byte t V U ∧ Cod cd n f V ∧ ∀ j, j < n → ¬ f j < 0 ∧ ¬ 65535 < f j
theorem Txt.mv {x t : Addr} {V : Cell} {cd : Int32} {n : Nat} {f : Nat → Int32} {U U' : State} (h : Txt x t V cd n f U) (hal : U.vm.Alike U'.vm) (hh : U'.heap = U.heap) : Txt x t V cd n f U' := ⟨h.1.mv hal hh, h.2.1.mv hal hh, h.2.2.1.mv hal hh, h.2.2.2.1.mv hal hh, h.2.2.2.2⟩
namespace IsL
def yN : MethodName := ⟨"java/lang/String", "isLatin1", "()Z"⟩
abbrev yB : ByteArray := jdk_42_method_154_code
theorem d0 : decode yB 0 = .ok (.getstatic 38, 3) := by decide +kernel
theorem d3 : decode yB 3 = .ok (.ifCond (.eq) 14, 3) := by decide +kernel
theorem d6 : decode yB 6 = .ok (.aload_n 0, 1) := by decide +kernel
theorem d7 : decode yB 7 = .ok (.getfield 15, 3) := by decide +kernel
theorem d10 : decode yB 10 = .ok (.ifCond (.ne) 7, 3) := by decide +kernel
theorem d13 : decode yB 13 = .ok (.iconst 1, 1) := by decide +kernel
theorem d14 : decode yB 14 = .ok (.goto 4, 3) := by decide +kernel
theorem d17 : decode yB 17 = .ok (.iconst 0, 1) := by decide +kernel
theorem d18 : decode yB 18 = .ok (.ireturn, 1) := by decide +kernel
def site : List Cond := [.fieldLink "java/lang/String" 38 "java/lang/String" "COMPACT_STRINGS" "Z", .fieldLink "java/lang/String" 15 "java/lang/String" "coder" "B"]
def tab : Cond := tabOf yN yB 1 (some .boolean) site
def P (x : Addr) (cd z : Int32) (args : Array Value) (s : State) : Prop := args = #[.ref x] ∧ Has x "java/lang/String" "coder" "B" (.int cd) s ∧ (cd = 0 ∨ cd = 1) ∧ StaticIs s "java/lang/String" "COMPACT_STRINGS" "Z" (.int z) ∧ ¬ z = 0
def E (cd : Int32) (r : Option Value) (s u : State) : Prop := XT.PureE (some (.int (1 - cd))) r s u
theorem law (l : Launch) (x : Addr) (cd z : Int32) : Law l yN 1 0 0 0 yB 1 (some .boolean) site (P x cd z) (E cd) [] 0 0 := by
  refine Law.of_walk (plainFor_of_name (by decide +kernel)) (by decide +kernel) (by decide +kernel) (by decide) (fun _ _ h => by rw [h.1]; rfl) (fun _ U U' hal hh h => ⟨h.1, h.2.1.mv hal hh, h.2.2.1, h.2.2.2.1.there hal hh, h.2.2.2.2⟩) (fun r U U' V V' h1 hal h2 h => XT.PureE.mv r U U' V V' h1 hal h2 h) ?_
  intro p e s m args below meth c s₁ X0 hexec hbytes hml hret hlk hnm hown hh0 W hP
  obtain ⟨rfl, hx, hc, s1, hz⟩ := hP
  have c1 : Steps p.tables e below (s₁.setTop (entryFrame m #[.ref x] 1)) (s₁.setTop (mkF m 0 #[.val (.ref x)] [])) := entry rfl
  obtain ⟨T2, X2, q2, st2⟩ := X0.sget hexec hown (wk W (.fieldLink "java/lang/String" 38 "java/lang/String" "COMPACT_STRINGS" "Z")) s1 (fun _ _ h => by rw [hh0]; exact h) (g := (mkF m 0 #[.val (.ref x)] [])) rfl (hb hbytes d0)
  have hh2 := q2.trans hh0
  have c3 : Steps p.tables e below (s₁.setTop (entryFrame m #[.ref x] 1)) (T2.setTop (mkF m 7 #[.val (.ref x)] [.ref x])) := (c1.trans (st2 _ (Steps.refl _))).trans (by
    refine XS.ifNo X2.here hexec rfl (hb hbytes d3) rfl (i0_eq_f hz) ?_
    refine XS.aloadN X2.here hexec rfl (hb hbytes d6) rfl rfl ?_
    exact Steps.refl _)
  obtain ⟨T4, X4, q4, st4⟩ := X2.hget hexec hown (wk W (.fieldLink "java/lang/String" 15 "java/lang/String" "coder" "B")) (hx.mv X2.warmed.alike hh2) (g := (mkF m 7 #[.val (.ref x)] [.ref x])) rfl (rest := []) rfl (hb hbytes d7)
  have c5 : Steps p.tables e below (s₁.setTop (entryFrame m #[.ref x] 1)) (T4.setTop (mkF m 10 #[.val (.ref x)] [.int cd])) := c3.trans (st4 _ (Steps.refl _))
  have c6 : Steps p.tables e below (s₁.setTop (entryFrame m #[.ref x] 1)) (T4.setTop (mkF m 18 #[.val (.ref x)] [.int (1 - cd)])) := by
    rcases hc with rfl | rfl
    · exact c5.trans (by
        refine XS.ifNo X4.here hexec rfl (hb hbytes d10) rfl (i0_ne_f rfl) ?_
        refine iconstV X4.here hexec rfl 1 (hb hbytes d13) (by decide) ?_
        refine XS.goto X4.here hexec rfl (pc0 := 14) rfl (hb hbytes d14) (by decide) rfl ?_
        exact Steps.refl _)
    · exact c5.trans (by
        refine XS.ifYes X4.here hexec rfl (pc0 := 10) rfl (hb hbytes d10) rfl (i0_ne_t (by decide)) (by decide) rfl ?_
        refine iconstV X4.here hexec rfl 0 (hb hbytes d17) (by decide) ?_
        exact Steps.refl _)
  exact ⟨T4, some (.int (1 - cd)), _, _, _, X4, rfl, rfl, rfl, (fun h => by cases h), ⟨rfl, q4.trans hh2⟩, fun fs hl => c6.trans (X4.ireturnOut hexec hret (by rcases hc with rfl | rfl <;> rfl) (Or.inr (Or.inl rfl)) (hb hbytes d18) hl)⟩
end IsL
namespace LChA
def yN : MethodName := ⟨"java/lang/StringLatin1", "charAt", "([BI)C"⟩
abbrev yB : ByteArray := jdk_43_method_2_code
theorem d0 : decode yB 0 = .ok (.iload_n 1, 1) := by decide +kernel
theorem d1 : decode yB 1 = .ok (.aload_n 0, 1) := by decide +kernel
theorem d2 : decode yB 2 = .ok (.arraylength, 1) := by decide +kernel
theorem d3 : decode yB 3 = .ok (.invokestatic 9, 3) := by decide +kernel
theorem d6 : decode yB 6 = .ok (.aload_n 0, 1) := by decide +kernel
theorem d7 : decode yB 7 = .ok (.iload_n 1, 1) := by decide +kernel
theorem d8 : decode yB 8 = .ok (.baload, 1) := by decide +kernel
theorem d9 : decode yB 9 = .ok (.sipush 255, 3) := by decide +kernel
theorem d12 : decode yB 12 = .ok (.iand, 1) := by decide +kernel
theorem d13 : decode yB 13 = .ok (.i2c, 1) := by decide +kernel
theorem d14 : decode yB 14 = .ok (.ireturn, 1) := by decide +kernel
def site : List Cond := [JO.Str_checkIndex.tab] ++ staticW "java/lang/StringLatin1" 9 JO.Str_checkIndex.yN
def tab : Cond := tabOf yN yB 2 (some .char) site
def P (t : Addr) (V : Cell) (i : Nat) (u : Int32) (fm : Value) (args : Array Value) (s : State) : Prop := args = #[.ref t, .int (Int32.ofNat i)] ∧ XT.Arr .byte t V s ∧ V.slots[i]? = some (.int u) ∧ (StaticIs s "jdk/internal/util/Preconditions" "SIOOBE_FORMATTER" "Ljava/util/function/BiFunction;" fm ∧ fm.isRef = true)
def E (u : Int32) (r : Option Value) (s w : State) : Prop := XT.PureE (some (.int (chr8 u))) r s w
theorem law (l : Launch) (t : Addr) (V : Cell) (i : Nat) (u : Int32) (fm : Value) : Law l yN 2 2 2 27 yB 2 (some .char) site (P t V i u fm) (E u) [] 0 0 := by
  refine Law.of_walk (plainFor_of_name (by decide +kernel)) (by decide +kernel) (by decide +kernel) (by decide) (fun _ _ h => by rw [h.1]; rfl) (fun _ U U' hal hh h => ⟨h.1, h.2.1.mv hal hh, h.2.2.1, h.2.2.2.1.there hal hh, h.2.2.2.2⟩) (fun r U U' V V' h1 hal h2 h => XT.PureE.mv r U U' V V' h1 hal h2 h) ?_
  intro p e s m args below meth c s₁ X0 hexec hbytes hml hret hlk hnm hown hh0 W hP
  obtain ⟨rfl, hV, hu, s1, rf⟩ := hP
  have v31 := hV.2.2.2
  have hi : i < V.slots.size := (Array.getElem?_eq_some_iff.mp hu).1
  have c1 : Steps p.tables e below (s₁.setTop (entryFrame m #[.ref t, .int (Int32.ofNat i)] 2)) (s₁.setTop (mkF m 0 #[.val (.ref t), .val (.int (Int32.ofNat i))] [])) := entry rfl
  have c2 : Steps p.tables e below (s₁.setTop (entryFrame m #[.ref t, .int (Int32.ofNat i)] 2)) (s₁.setTop (mkF m 3 #[.val (.ref t), .val (.int (Int32.ofNat i))] [.int (Int32.ofNat V.slots.size), .int (Int32.ofNat i)])) := c1.trans (by
    refine XS.iloadN X0.here hexec rfl (hb hbytes d0) rfl ?_
    refine XS.aloadN X0.here hexec rfl (hb hbytes d1) rfl rfl ?_
    refine X0.alen hexec (hV.mv X0.warmed.alike hh0) rfl rfl (hb hbytes d2) ?_
    exact Steps.refl _)
  obtain ⟨v3, T3, X3, E3, g3⟩ := X0.callS hexec (JO.Str_checkIndex.law l (Int32.ofNat i) (Int32.ofNat V.slots.size) fm) hown (wks W (staticW "java/lang/StringLatin1" 9 JO.Str_checkIndex.yN)) (wk W JO.Str_checkIndex.tab) (W := 0) (Nat.le_of_ble_eq_true rfl) (Nat.le_of_ble_eq_true rfl) (Nat.le_refl _) (Nat.le_refl _) (g := (mkF m 3 #[.val (.ref t), .val (.int (Int32.ofNat i))] [.int (Int32.ofNat V.slots.size), .int (Int32.ofNat i)])) rfl (by rw [hml]; rfl) c2 (argsL := [.int (Int32.ofNat i), .int (Int32.ofNat V.slots.size)]) (rest := []) rfl rfl (by show 2 * 0 + 0 ≤ _; decide) (hb hbytes d3) (⟨rfl, rf, s1.there X0.warmed.alike hh0, Int32.ofNat_not_neg (by omega), lt32 v31 hi⟩)
  obtain ⟨rfl, q3⟩ := E3
  have hh3 := q3.trans hh0
  have c4 : Steps p.tables e below (s₁.setTop (entryFrame m #[.ref t, .int (Int32.ofNat i)] 2)) (T3.setTop (mkF m 14 #[.val (.ref t), .val (.int (Int32.ofNat i))] [.int (chr8 u)])) := Steps.trans g3 (by
    refine XS.aloadN X3.here hexec rfl (hb hbytes d6) rfl rfl ?_
    refine XS.iloadN X3.here hexec rfl (hb hbytes d7) rfl ?_
    refine X3.aget hexec (hV.mv X3.warmed.alike hh3) rfl hu rfl rfl (hb hbytes d8) ?_
    refine sipushV X3.here hexec rfl 255 (hb hbytes d9) (by decide) ?_
    refine XS.iand X3.here hexec rfl (hb hbytes d12) rfl ?_
    refine i2c X3.here hexec rfl (hb hbytes d13) rfl ?_
    exact Steps.refl _)
  exact ⟨T3, some (.int (chr8 u)), _, _, _, X3, rfl, rfl, rfl, (fun h => by cases h), ⟨rfl, hh3⟩, fun fs hl => c4.trans (X3.ireturnOut hexec hret (narrow_c _) (Or.inr (Or.inr (Or.inr (Or.inl rfl)))) (hb hbytes d14) hl)⟩
end LChA
end StrChars
namespace StrChars.Road
open Jvm Sem ClassFile Op Lib Jvm.Stand Jvm.Free Jvm.Free.XT
open Jvm.Lib.Cold (StaticIs)
theorem consq {a : Array Value} {s : State} {c : Jvm.Cond} {L : List Jvm.Cond} (h0 : c.before a s = true) (h : ∀ w ∈ L, w.before a s = true) : ∀ w ∈ c :: L, w.before a s = true := fun w hw => (List.mem_cons.mp hw).elim (fun e => e ▸ h0) (h w)
/-- the bytes of the chars cs, low before high -/
def wideBytes : List Int32 → List Value
  | [] => []
  | c :: cs => .int (lo8 c) :: .int (hi8 c) :: wideBytes cs
theorem wide_lo (d : Value) : ∀ (cs : List Int32) (j : Nat), j < cs.length → (wideBytes cs).getD (2 * j) d = .int (lo8 (cs.getD j 0))
  | [], j, h => absurd h (Nat.not_lt_zero j)
  | c :: cs, 0, _ => rfl
  | c :: cs, j + 1, h => by
    have q := wide_lo d cs j (by simpa using h)
    rw [show 2 * (j + 1) = 2 * j + 1 + 1 from by omega]
    simpa [wideBytes] using q
theorem wide_hi (d : Value) : ∀ (cs : List Int32) (j : Nat), j < cs.length → (wideBytes cs).getD (2 * j + 1) d = .int (hi8 (cs.getD j 0))
  | [], j, h => absurd h (Nat.not_lt_zero j)
  | c :: cs, 0, _ => rfl
  | c :: cs, j + 1, h => by
    have q := wide_hi d cs j (by simpa using h)
    rw [show 2 * (j + 1) + 1 = 2 * j + 1 + 1 + 1 from by omega]
    simpa [wideBytes] using q
theorem low_at (d : Value) (cs : List Int32) (j : Nat) (h : j < cs.length) : (cs.map fun c => Value.int (lo8 c)).getD j d = .int (lo8 (cs.getD j 0)) := by
  simp [List.getD_eq_getElem?_getD, h]
/-- an array of N2 bytes vs codes the chars cs by the coder cd -/
def CodA (cs : List Int32) (cd N2 : Int32) (vs : List Value) : Prop := (cd = 0 ∧ N2 = Int32.ofNat cs.length ∧ vs = (cs.map fun c => Value.int (lo8 c)) ∧ ∀ c ∈ cs, ¬ 255 < c) ∨ (cd = 1 ∧ N2 = Int32.ofNat (2 * cs.length) ∧ vs = wideBytes cs ∧ ∃ c ∈ cs, 255 < c)
theorem CodA.cod {cs : List Int32} {cd N2 : Int32} {vs : List Value} {V : Cell} (h : CodA cs cd N2 vs) (hn : 2 * cs.length < 2 ^ 31) (hs : V.slots.size = N2.toNatClampNeg) (hv : RoadKit.Has V vs (.int 0)) : Cod cd cs.length (fun j => cs.getD j 0) V := by
  rcases h with ⟨rfl, rfl, rfl, h⟩ | ⟨rfl, rfl, rfl, c, hc, hw⟩
  · rw [n32 (by omega)] at hs
    exact Or.inl ⟨rfl, hs, fun j hj => ⟨by rw [hv j (by omega), low_at _ _ _ hj], by
      have e : cs.getD j 0 = cs[j] := by simp [List.getD_eq_getElem?_getD, hj]
      show ¬ 255 < cs.getD j 0
      rw [e]; exact h _ (List.getElem_mem _)⟩⟩
  · rw [n32 (by omega)] at hs
    obtain ⟨j, hj, rfl⟩ := List.getElem_of_mem hc
    exact Or.inr ⟨rfl, hs, fun j hj => ⟨by rw [hv _ (by omega), wide_lo _ _ _ hj], by rw [hv _ (by omega), wide_hi _ _ _ hj]⟩, j, hj, by
      have e : cs.getD j 0 = cs[j] := by simp [List.getD_eq_getElem?_getD, hj]
      show 255 < cs.getD j 0
      rw [e]; exact hw⟩
/-- an object of exactly java/lang/String, its two fields found: as the laws ask it -/
theorem strObj {Z U : State} {a0 : Array Value} {kI : Nat} (wi : (Jvm.Cond.instantiable ST kI).before a0 Z = true) (al : Z.vm.Alike U.vm) {x : Addr} {v0 c0 : Value} (E : RoadKit.Exa Z U.heap x ST) (V : RoadKit.Fld Z U.heap x ST "value" "[B" v0) (C : RoadKit.Fld Z U.heap x ST "coder" "B" c0) :
    ∃ (D : Cell) (fV fC : Field), Blank ST x D U ∧ Found ST "value" "[B" fV U ∧ Found ST "coder" "B" fC U ∧ D.slots[fV.slot]? = some v0 ∧ D.slots[fC.slot]? = some c0 ∧ RoadKit.slotOf Z ST "value" "[B" = fV.slot ∧ RoadKit.slotOf Z ST "coder" "B" = fC.slot := by
  obtain ⟨D, cfV, kV, iV, fV, hD, gV, stV, knV, obV, asV, slV⟩ := V
  obtain ⟨D', cfC, kC, iC, fC, hD', gC, stC, -, -, asC, slC⟩ := C
  cases hD.symm.trans hD'
  obtain ⟨D2, kD, e1, e2, e3, e4, e5⟩ := E
  cases hD.symm.trans e1
  obtain ⟨c2, k2, i1, i2, i3, -⟩ := Cond.instantiable_spec wi
  cases e2.symm.trans i1
  cases e3.symm.trans i2
  obtain ⟨kU, u1, u2⟩ := al.2.2 _ _ e3
  exact ⟨D, fV, fC, ⟨hD, ⟨knV, fun q hq => by rw [hq] at obV; cases obV⟩, by rw [al.findClass]; exact e2, kU, u1, by rw [u2]; exact i3, by rw [u2]; exact e5 i3⟩, ⟨SBG.found_only al ⟨cfV, kV, iV, gV⟩, stV⟩, ⟨SBG.found_only al ⟨cfC, kC, iC, gC⟩, stC⟩, slV, slC, by simp [RoadKit.slotOf, gV], by simp [RoadKit.slotOf, gC]⟩
theorem sta_is {Z U : State} (al : Z.vm.Alike U.vm) {C n d : String} {v : Value} (S : RoadKit.Sta Z U.heap C n d v) : StaticIs U C n d v := by
  obtain ⟨cfS, iS, kS, fS, st, cS, t1, t2, t3, t4, t5, t6, t7⟩ := S
  exact StaticIs.there (s := { Z with heap := U.heap }) ⟨cfS, iS, kS, fS, st, cS, t1, t2, t3, t4, t5, (fun q => by rw [q] at t6; cases t6), t7⟩ al rfl
end StrChars.Road
namespace StrChars.Road
open Jvm Sem ClassFile Op Lib Jvm.Stand Jvm.Free Jvm.Free.XT
open Jvm.Lib.Cold (StaticIs)
/-- the road's facts of a String, as the laws ask it -/
theorem txt_of {Z U : State} {a0 : Array Value} {kI : Nat} (wi : (Jvm.Cond.instantiable ST kI).before a0 Z = true) (al : Z.vm.Alike U.vm) {x t : Addr} {kb : ClassId} {cs : List Int32} {cd N2 : Int32} {vs : List Value} (E : RoadKit.Exa Z U.heap x ST) (V : RoadKit.Fld Z U.heap x ST "value" "[B" (.ref t)) (C : RoadKit.Fld Z U.heap x ST "coder" "B" (.int cd)) (K : RoadKit.Arv Z U.heap t kb .byte N2 vs (.int 0)) (hc : CodA cs cd N2 vs) (hb : ∀ c ∈ cs, ¬ c < 0 ∧ ¬ (65535 : Int32) < c) (l2 : cs.length ≤ 4000) :
    ∃ A, Txt x t A cd cs.length (fun j => cs.getD j 0) U := by
  obtain ⟨A, K1, K2, K3, K4, K5, K6⟩ := K
  have hcod := hc.cod (by omega) K3 K5
  obtain ⟨D, fV, fC, hB, F1, F2, g1, g2, -, -⟩ := strObj wi al E V C
  exact ⟨A, ⟨_, hB.2.2.1, D, hB.1, rfl, by cases q : D.vm <;> first | rfl | exact absurd q (hB.2.1.2 _)⟩, Has.of hB F1 g1, Has.of hB F2 g2, ⟨K1.1, State.isArrayOf_alike al K1.2.1, K1.2.2, by rcases hcod with ⟨-, q, -⟩ | ⟨-, q, -⟩ <;> omega⟩, hcod, fun j hj => by
    have e : cs.getD j 0 = cs[j] := by simp [List.getD_eq_getElem?_getD, hj]
    show ¬ cs.getD j 0 < 0 ∧ ¬ 65535 < cs.getD j 0
    rw [e]; exact hb _ (List.getElem_mem _)⟩
end StrChars.Road
namespace StrChars
open Jvm Sem ClassFile Op Lib Jvm.Stand Jvm.Free.XT Jvm.Free.ALB Jvm.Free.JM Jvm.Free
open Jvm.Lib.Cold (StaticIs)
namespace ChN
def yN : MethodName := ⟨"java/lang/String", "charAt", "(I)C"⟩
abbrev yB : ByteArray := jdk_42_method_56_code
theorem d0 : decode yB 0 = .ok (.aload_n 0, 1) := by decide +kernel
theorem d1 : decode yB 1 = .ok (.invokevirtual 492, 3) := by decide +kernel
theorem d4 : decode yB 4 = .ok (.ifCond (.eq) 12, 3) := by decide +kernel
theorem d7 : decode yB 7 = .ok (.aload_n 0, 1) := by decide +kernel
theorem d8 : decode yB 8 = .ok (.getfield 9, 3) := by decide +kernel
theorem d11 : decode yB 11 = .ok (.iload_n 1, 1) := by decide +kernel
theorem d12 : decode yB 12 = .ok (.invokestatic 495, 3) := by decide +kernel
theorem d15 : decode yB 15 = .ok (.ireturn, 1) := by decide +kernel
def site : List Cond := [.fieldLink "java/lang/String" 9 "java/lang/String" "value" "[B", IsL.tab, LChA.tab] ++ virtW "java/lang/String" 492 "java/lang/String" IsL.yN IsL.yN ++ staticW "java/lang/String" 495 LChA.yN
def tab : Cond := tabOf yN yB 2 (some .char) site
def P (x t : Addr) (V : Cell) (n : Nat) (f : Nat → Int32) (z : Int32) (fm : Value) (i : Nat) (args : Array Value) (s : State) : Prop := args = #[.ref x, .int (Int32.ofNat i)] ∧ Txt x t V 0 n f s ∧ i < n ∧ StaticIs s "java/lang/String" "COMPACT_STRINGS" "Z" (.int z) ∧ ¬ z = 0 ∧ StaticIs s "jdk/internal/util/Preconditions" "SIOOBE_FORMATTER" "Ljava/util/function/BiFunction;" fm ∧ fm.isRef = true
def E (f : Nat → Int32) (i : Nat) (r : Option Value) (s u : State) : Prop := XT.PureE (some (.int (f i))) r s u
/-- charAt(i) of a Latin-1 String of n chars, i < n: f i -/
theorem law (l : Launch) (x t : Addr) (V : Cell) (n : Nat) (f : Nat → Int32) (z : Int32) (fm : Value) (i : Nat) : Law l yN 2 1 3 40 yB 2 (some .char) site (P x t V n f z fm i) (E f i) [] 0 0 := by
  refine Law.of_walk (plainFor_of_name (by decide +kernel)) (by decide +kernel) (by decide +kernel) (by decide) (fun _ _ h => by rw [h.1]; rfl) (fun _ U U' hal hh h => ⟨h.1, h.2.1.mv hal hh, h.2.2.1, h.2.2.2.1.there hal hh, h.2.2.2.2.1, h.2.2.2.2.2.1.there hal hh, h.2.2.2.2.2.2⟩) (fun r U U' V V' h1 hal h2 h => XT.PureE.mv r U U' V V' h1 hal h2 h) ?_
  intro p e s m args below meth c s₁ X0 hexec hbytes hml hret hlk hnm hown hh0 W hP
  obtain ⟨rfl, hx, hi, s1, hz, s3, rf⟩ := hP
  have v31 := hx.2.2.2.1.2.2.2
  have hr := hx.2.2.2.2.2 i hi
  have hx0 := hx.mv X0.warmed.alike hh0
  have c1 : Steps p.tables e below (s₁.setTop (entryFrame m #[.ref x, .int (Int32.ofNat i)] 2)) (s₁.setTop (mkF m 1 #[.val (.ref x), .val (.int (Int32.ofNat i))] [.ref x])) := Steps.trans (entry rfl) (by
    show Steps p.tables e below (s₁.setTop (mkF m 0 #[.val (.ref x), .val (.int (Int32.ofNat i))] [])) _
    refine XS.aloadN X0.here hexec rfl (hb hbytes d0) rfl rfl ?_
    exact Steps.refl _)
  obtain ⟨v2, T2, X2, E2, g2⟩ := X0.callV hexec (IsL.law l x 0 z) hown (wks W (virtW "java/lang/String" 492 "java/lang/String" IsL.yN IsL.yN)) rfl (by decide) (wk W IsL.tab) (W := 0) (Nat.le_of_ble_eq_true rfl) (Nat.le_of_ble_eq_true rfl) (Nat.le_refl _) (Nat.le_refl _) (hx0.1.fc X0.warmed.alike) hx0.1.is (g := (mkF m 1 #[.val (.ref x), .val (.int (Int32.ofNat i))] [.ref x])) rfl (by rw [hml]; rfl) c1 (argsL := []) (rest := []) rfl rfl (by show 2 * 0 + 0 ≤ _; decide) (hb hbytes d1) (⟨rfl, hx0.2.2.1, hx.2.2.2.2.1.cd, s1.there X0.warmed.alike hh0, hz⟩)
  obtain ⟨rfl, q2⟩ := E2
  have hh2 := q2.trans hh0
  have hx2 := hx.mv X2.warmed.alike hh2
  obtain ⟨-, k1, k2⟩ | ⟨k0, -⟩ := hx.2.2.2.2.1
  · have c3 : Steps p.tables e below (s₁.setTop (entryFrame m #[.ref x, .int (Int32.ofNat i)] 2)) (T2.setTop (mkF m 8 #[.val (.ref x), .val (.int (Int32.ofNat i))] [.ref x])) := Steps.trans g2 (by
      refine XS.ifNo X2.here hexec rfl (hb hbytes d4) rfl (i0_eq_f (by decide)) ?_
      refine XS.aloadN X2.here hexec rfl (hb hbytes d7) rfl rfl ?_
      exact Steps.refl _)
    obtain ⟨T4, X4, q4, st4⟩ := X2.hget hexec hown (wk W (.fieldLink "java/lang/String" 9 "java/lang/String" "value" "[B")) hx2.2.1 (g := (mkF m 8 #[.val (.ref x), .val (.int (Int32.ofNat i))] [.ref x])) rfl (rest := []) rfl (hb hbytes d8)
    have hh4 := q4.trans hh2
    have c5 : Steps p.tables e below (s₁.setTop (entryFrame m #[.ref x, .int (Int32.ofNat i)] 2)) (T4.setTop (mkF m 12 #[.val (.ref x), .val (.int (Int32.ofNat i))] [.int (Int32.ofNat i), .ref t])) := (c3.trans (st4 _ (Steps.refl _))).trans (by
      refine XS.iloadN X4.here hexec rfl (hb hbytes d11) rfl ?_
      exact Steps.refl _)
    obtain ⟨v6, T6, X6, E6, g6⟩ := X4.callS hexec (LChA.law l t V i (lo8 (f i)) fm) hown (wks W (staticW "java/lang/String" 495 LChA.yN)) (wk W LChA.tab) (W := 0) (Nat.le_of_ble_eq_true rfl) (Nat.le_of_ble_eq_true rfl) (Nat.le_refl _) (Nat.le_refl _) (g := (mkF m 12 #[.val (.ref x), .val (.int (Int32.ofNat i))] [.int (Int32.ofNat i), .ref t])) rfl (by rw [hml]; rfl) c5 (argsL := [.ref t, .int (Int32.ofNat i)]) (rest := []) rfl rfl (by show 2 * 0 + 0 ≤ _; decide) (hb hbytes d12) (⟨rfl, hx.2.2.2.1.mv X4.warmed.alike hh4, (k2 i hi).1, s3.there X4.warmed.alike hh4, rf⟩)
    obtain ⟨rfl, q6⟩ := E6
    rw [chr8_lo8 hr.1 (k2 i hi).2] at g6
    exact ⟨T6, some (.int (f i)), _, _, _, X6, rfl, rfl, rfl, (fun h => by cases h), ⟨rfl, q6.trans hh4⟩, fun fs hl => Steps.trans g6 (X6.ireturnOut hexec hret (narrow_ch hr.1 hr.2) (Or.inr (Or.inr (Or.inr (Or.inl rfl)))) (hb hbytes d15) hl)⟩
  · exact absurd k0 (by decide)
theorem pays {l : Launch} {R : Room} {p : Program} {e : Env} {below : List Frame} {s : State} {sargs : Array Value} {len W : Nat} (x t : Addr) (V : Cell) (n : Nat) (f : Nat → Int32) (z : Int32) (fm : Value) (i : Nat) (htab : tab.before sargs s = true) (hfr : 4 ≤ R.frames) (hlo : W + 53 ≤ R.locals) :
    Back l R p e below s sargs yN len W (fun A₁ a₁ => A₁.cells + 0 ≤ R.cells ∧ A₁.slots + 0 ≤ R.slots ∧ P x t V n f z fm i a₁ A₁.U) (fun A₁ _ v₁ B₁ => E f i v₁ A₁.U B₁.U ∧ B₁.locs = A₁.locs ++ [] ∧ B₁.cells = A₁.cells + 0 ∧ B₁.slots = A₁.slots + 0) :=
  (law l x t V n f z fm i).pays htab hfr (by omega)
end ChN
end StrChars
namespace StrChars.Road
open Jvm Sem ClassFile Op Lib Jvm.Stand Jvm.Free Jvm.Free.XT
open Jvm.Lib.Cold (StaticIs)
/-- the words of String.charAt(int), the Latin-1 road alone -/
abbrev wordsChN : List Jvm.Cond := [.code ChN.yN ChN.yB 2 (some .char), .initialized ST, .fieldLink ST 9 ST "value" "[B", .fieldLink ST 38 ST "COMPACT_STRINGS" "Z", .fieldLink ST 15 ST "coder" "B", .code IsL.yN IsL.yB 1 (some .boolean), .methodLink ST 492 IsL.yN, .declares IsL.yN, .selects ST IsL.yN IsL.yN, .instanceMethod IsL.yN,
  .methodLink ST 495 LChA.yN, .static LChA.yN, .code LChA.yN LChA.yB 2 (some .char), .initialized "java/lang/StringLatin1", .methodLink "java/lang/StringLatin1" 9 JO.Str_checkIndex.yN, .static JO.Str_checkIndex.yN, .code JO.Str_checkIndex.yN JO.Str_checkIndex.yB 2 none,
  .fieldLink ST 1053 "jdk/internal/util/Preconditions" "SIOOBE_FORMATTER" "Ljava/util/function/BiFunction;", .methodLink ST 1059 JC.PreCheck.yN, .static JC.PreCheck.yN, .code JC.PreCheck.yN JC.PreCheck.yB 3 (some .int), .initialized "jdk/internal/util/Preconditions"]
theorem tabChN_of {a : Array Value} {s : State} (h : ∀ w ∈ wordsChN, w.before a s = true) : ChN.tab.before a s = true := by
  have hp : JC.PreCheck.tab.before a s = true := unparts (wk h (.code JC.PreCheck.yN JC.PreCheck.yB 3 (some .int))) (wks h (.initialized JC.PreCheck.yN.cls :: JC.PreCheck.site))
  have qk := consq hp h
  have hk : JO.Str_checkIndex.tab.before a s = true := unparts (wk qk (.code JO.Str_checkIndex.yN JO.Str_checkIndex.yB 2 none)) (wks qk (.initialized JO.Str_checkIndex.yN.cls :: JO.Str_checkIndex.site))
  have ql := consq hk h
  have hl : LChA.tab.before a s = true := unparts (wk ql (.code LChA.yN LChA.yB 2 (some .char))) (wks ql (.initialized LChA.yN.cls :: LChA.site))
  have hi : IsL.tab.before a s = true := unparts (wk h (.code IsL.yN IsL.yB 1 (some .boolean))) (wks h (.initialized IsL.yN.cls :: IsL.site))
  have q := consq hi (consq hl h)
  exact unparts (wk q (.code ChN.yN ChN.yB 2 (some .char))) (wks q (.initialized ChN.yN.cls :: ChN.site))
theorem movedChN {Z s : State} {a0 args : Array Value} (hZ : Z.Warmed39 s.vm) (hw : ∀ d ∈ wordsChN, d.before a0 Z = true) : ∀ d ∈ wordsChN, d.before args s = true := fun d hd => by
  have t : ∀ d ∈ wordsChN, (d.onTables && d.keepsFace) = true := by decide +kernel
  exact RoadKit.mv hZ (hw d hd) (t d hd)
/-- **charAt(i) OF A LATIN-1 STRING**, i < n: the char -/
theorem chN {p : Program} {l : Launch} {e : Env} {R : Room} {s : State} {args : Array Value} {below : List Frame} {len W : Nat} {Z : State} {a0 : Array Value} {h : Heap} (hZ : Z.Warmed39 s.vm) (hw : ∀ d ∈ wordsChN, d.before a0 Z = true) {kI : Nat} (wi : (Jvm.Cond.instantiable ST kI).before a0 Z = true)
    {x t : Addr} {kb : ClassId} {cs : List Int32} {N2 z : Int32} {vs : List Value} {fm : Value} {i : Nat} {j : Int32} (E : RoadKit.Exa Z h x ST) (V : RoadKit.Fld Z h x ST "value" "[B" (.ref t)) (C : RoadKit.Fld Z h x ST "coder" "B" (.int 0)) (K : RoadKit.Arv Z h t kb .byte N2 vs (.int 0)) (hc : CodA cs 0 N2 vs) (hb : ∀ c ∈ cs, ¬ c < 0 ∧ ¬ (65535 : Int32) < c)
    (S : RoadKit.Sta Z h ST "COMPACT_STRINGS" "Z" (.int z)) (hz : ¬ z = 0) (F : RoadKit.Sta Z h "jdk/internal/util/Preconditions" "SIOOBE_FORMATTER" "Ljava/util/function/BiFunction;" fm) (rf : fm.isRef = true) (l2 : cs.length ≤ 4000) (hi : i < cs.length) (hj : j = Int32.ofNat i) (hfr : 4 ≤ R.frames) (hlo : W + 53 ≤ R.locals) :
    Back l R p e below s args (⟨"java/lang/String", "charAt", "(I)C"⟩ : MethodName) len W (fun P a => a = #[.ref x, .int j] ∧ P.U.heap = h ∧ P.cells + 0 ≤ R.cells ∧ P.slots + 0 ≤ R.slots)
      (fun P _ v B => ∃ L, (v = some (.int (cs.getD i 0)) ∧ L = [] ∧ B.U.heap = h) ∧ B.locs = P.locs ++ L ∧ B.cells = P.cells + 0 ∧ B.slots = P.slots + 0) := by
  subst hj
  intro m meth c P g ig mk a X hg hsize hdg hW hn hp'
  obtain ⟨rfl, rfl, r1, r2⟩ := hp'
  have al : Z.vm.Alike P.U.vm := hZ.alike.trans X.warmed.alike
  obtain ⟨A, hx⟩ := txt_of wi al E V C K hc hb l2
  obtain ⟨v, B, X', ⟨⟨hv, hh⟩, hl, hk, hs⟩, st⟩ := ChN.pays x t A cs.length (fun j => cs.getD j 0) z fm i (tabChN_of (movedChN hZ hw)) hfr hlo m meth c P g ig mk _ X hg hsize hdg hW hn ⟨r1, r2, rfl, hx, hi, sta_is al S, hz, sta_is al F, rf⟩
  exact ⟨v, B, X', ⟨[], ⟨hv, rfl, hh⟩, hl, hk, hs⟩, st⟩
end StrChars.Road
end Jvm.Pilot.@@N@@
namespace Jvm.Pilot.@@N@@
open Jvm Jvm.ClassFile Sem Op Lib Jvm.Free Jvm.Stand Jvm.LawKit Jvm.RoadKit Bundle Jvm.Pilot.@@N@@.Jvm.D
/-- an object of exactly this class that the program made (no cell of the machine's own) -/
def Obj (Z : State) (h : Heap) (a : Addr) (C : String) : Prop := ∃ (cell : Cell) (k : Class), h[a]? = some cell ∧ Z.vm.findClass C = some cell.cls ∧ Z.vm.classes[cell.cls]? = some k ∧ cell.vm = .none ∧ (k.kind = .ordinary → cell.slots.size = k.instanceTypes.size)
section ObjS
variable {Z : State} {h h' h0 : Heap} {a b : Addr} {C O n d : String} {sl kk : Nat} {v : Value} {ws : List Addr} {a0 : Array Value}
theorem Obj.of (E : Exa Z h a C) (q : ∃ cell : Cell, h[a]? = some cell ∧ cell.vm = .none ∧ cell.monitor = {}) : Obj Z h a C := by
  obtain ⟨cell, k, h1, h2, h3, h4, h5⟩ := E
  obtain ⟨cell', g1, g2, -⟩ := q
  cases h1.symm.trans g1
  exact ⟨cell, k, h1, h2, h3, g2, h5⟩
theorem Obj.exa (F : Obj Z h a C) : Exa Z h a C := by
  obtain ⟨cell, k, h1, h2, h3, h4, h5⟩ := F
  exact ⟨cell, k, h1, h2, h3, by rw [h4]; rfl, h5⟩
theorem Obj.lt (F : Obj Z h a C) : a < h.size := F.exa.lt
theorem Obj.ext (F : Obj Z h b C) (E : Ext h h') : Obj Z h' b C := by obtain ⟨cell, k, h1, r⟩ := F; exact ⟨cell, k, E.2 _ _ h1, r⟩
theorem Obj.keep (F : Obj Z h a C) (K : Keep h h' ws) : Obj Z h' a C := by
  obtain ⟨cell, k, h1, h2, h3, h4, h5⟩ := F
  obtain ⟨c', q1, q2, q3, q4⟩ := K.2.2 _ _ h1
  exact ⟨c', k, q1, by rw [q2]; exact h2, by rw [q2]; exact h3, by rw [q3]; exact h4, fun q => by rw [q4]; exact h5 q⟩
theorem Obj.wr (F : Obj Z h b C) (W : Wr h h' a sl v) : Obj Z h' b C := F.keep (Keep.of_wr W)
/-- each field that is laid in such an object holds something -/
theorem Obj.fld (F : Obj Z h a C) (L : Laid Z a0 C O n d) (wi : (Cond.instantiable C kk).before a0 Z = true) : ∃ v, Fld Z h a O n d v := by
  obtain ⟨cell, k, h1, h2, h3, h4, h5⟩ := F
  obtain ⟨c1, k1, cf, kf, i, f, a1, a2, a3, a4, a5, a6, -⟩ := L.spec
  obtain ⟨c2, k2, i1, i2, i3, -⟩ := Cond.instantiable_spec wi
  cases h2.symm.trans a1
  cases h2.symm.trans i1
  cases a2.symm.trans i2
  cases h3.symm.trans a2
  have hs := h5 i3
  have hlt : f.slot < cell.slots.size := by rw [hs]; exact (Array.getElem?_eq_some_iff.mp a6).1
  exact ⟨cell.slots[f.slot], cell, cf, kf, i, f, h1, a3, a4, by rw [h4]; simp, by rw [h4]; rfl, a5, Array.getElem?_eq_getElem hlt⟩
end ObjS
section OwnWords
variable {args : Array Value} {s : State} {t u : Term} {a b : Addr} {n : Int32} {cl : Cell} {ty : FieldType} {v : Value}
theorem own_wI (h : (Cond.eq t (Term.int n)).value args s none s [] = some true) : t.eval args s none [] s = some (.int n) := by
  cases hx : t.eval args s none [] s with
  | none => simp [Cond.value, hx] at h
  | some x => cases x <;> simp [Cond.value, hx, Term.eval] at h ⊢ <;> exact h
theorem own_wR (h : (Cond.eq t u).value args s none s [] = some true) (hu : u.eval args s none [] s = some (.ref b)) : t.eval args s none [] s = some (.ref b) := by
  cases hx : t.eval args s none [] s with
  | none => simp [Cond.value, hx] at h
  | some x => cases x <;> simp [Cond.value, hx, hu] at h ⊢ <;> exact h
theorem own_wL (h : (Term.length t).eval args s none [] s = some (.int n)) (ht : t.eval args s none [] s = some (.ref a)) (A : Arr s s.heap a cl ty) : cl.slots.size < 2 ^ 31 ∧ cl.slots.size.toInt32 = n := by
  have ha : s.arrayAt? a = some cl := Arr.fin (Z := s) (U := s) (Vm.Alike.refl _) A
  simp only [Term.eval, ht, ha, Option.bind_eq_bind, Option.bind_some] at h
  by_cases q : cl.slots.size < 2 ^ 31
  · rw [if_pos q] at h; exact ⟨q, Value.int.inj (Option.some.inj h)⟩
  · rw [if_neg q] at h; cases h
theorem own_wE {j : Int32} (h : (Term.elem t (Term.int j)).eval args s none [] s = some v) (ht : t.eval args s none [] s = some (.ref a)) (A : Arr s s.heap a cl ty) : cl.slots[j.toNatClampNeg]? = some v := (elem_in h ht rfl A.1).2
theorem own_wF {C f d : String} (h : (Term.field t C f d).eval args s none [] s = some v) (ht : t.eval args s none [] s = some (.ref a)) : Fld s s.heap a C f d v := Fld.start (by rw [← h]; exact (fld_at ht).symm)
end OwnWords
/-! lists of bytes in a builder's array of 16, and small numbers as ints -/
section OwnW
def own_B (cs : List Int32) : List Value := (cs.map fun c => c.toInt8.toInt32).map Value.int
theorem own_Blen (cs : List Int32) : (own_B cs).length = cs.length := by simp [own_B]
theorem own_Bapp (a b : List Int32) : own_B (a ++ b) = own_B a ++ own_B b := by simp [own_B]
def own_W (B : List Value) : List Value := B ++ List.replicate (16 - B.length) (.int (0 : Int32))
theorem own_Wlen {B : List Value} (h : B.length ≤ 16) : (own_W B).length = 16 := by simp [own_W]; omega
theorem own_on {n : Nat} (h : n ≤ 4000) : (Int32.ofNat n).toInt = n ∧ ¬ Int32.ofNat n < 0 ∧ (Int32.ofNat n).toNatClampNeg = n := by
  have e : (Int32.ofNat n).toInt = n := Int32.toInt_ofNat_of_lt (by omega)
  have hn : ¬ Int32.ofNat n < 0 := by
    rw [Int32.lt_iff_toInt_lt, e]
    have : (0 : Int32).toInt = 0 := by decide
    omega
  refine ⟨e, hn, ?_⟩
  have := nat_of hn
  omega
theorem own_addN {a b : Nat} (h : a + b ≤ 4000) : Int32.ofNat a + Int32.ofNat b = Int32.ofNat (a + b) := by
  apply Int32.toInt_inj.mp
  have e1 := (own_on (n := a) (by omega)).1
  have e2 := (own_on (n := b) (by omega)).1
  have e3 := (own_on h).1
  have q := c_iadd (Int32.ofNat a) (Int32.ofNat b)
  have r := rng32 (Int32.ofNat a + Int32.ofNat b)
  omega
theorem own_WA {B U : List Value} {n : Nat} (hn : U.length = n) (h : B.length + n ≤ 16) : (own_W B).take (Int32.ofNat B.length).toNatClampNeg ++ U ++ (own_W B).drop ((Int32.ofNat B.length).toNatClampNeg + (Int32.ofNat n).toNatClampNeg) = own_W (B ++ U) := by
  subst hn
  rw [(own_on (n := B.length) (by omega)).2.2, (own_on (n := U.length) (by omega)).2.2]
  simp only [own_W, List.take_left', List.length_append]
  rw [List.drop_append, List.drop_eq_nil_of_le (by omega : B.length ≤ B.length + U.length), List.nil_append, List.drop_replicate]
  congr 2
  omega
theorem own_Wtake {B : List Value} (h : B.length ≤ 16) : (own_W B).take (Int32.ofNat B.length).toNatClampNeg = B := by
  rw [(own_on (n := B.length) (by omega)).2.2]
  simp only [own_W]
  rw [List.take_append_of_le_length (Nat.le_refl _), List.take_length]
theorem own_room {a b : Nat} (h : a + b ≤ 16) : ¬ (0 : Int32) < Int32.ofNat a + Int32.ofNat b - (16 : Int32) := by
  rw [own_addN (by omega)]
  have e3 := (own_on (n := a + b) (by omega)).1
  have q := c_isub (Int32.ofNat (a + b)) 16
  have r := rng32 (Int32.ofNat (a + b) - 16)
  have k : (16 : Int32).toInt = 16 := by decide
  have k0 : (0 : Int32).toInt = 0 := by decide
  rw [Int32.lt_iff_toInt_lt]
  omega
end OwnW
def own_EL : List (String × Nat) := [("com/example/deadline/deadline/Timer", 237), ("com/example/deadline/deadline/Timer", 246), ("com/example/deadline/deadline/TimerCheckIdPinLaw", 14)]
theorem own_wS {Z : State} {a0 : Array Value} (hw : ∀ d ∈ tables_1, d.before a0 Z = true) : ∀ a ∈ Bundle.stringAtoms, a.before a0 Z = true := fun d hd => hw d ((by decide +kernel : ∀ d ∈ Bundle.stringAtoms, d ∈ tables_1) d hd)
theorem own_hEL {Z : State} {a0 : Array Value} (hw : ∀ d ∈ tables_1, d.before a0 Z = true) : EW Z a0 own_EL := (EW.cons (hw _ (List.mem_of_getElem? (i := 39) rfl)) (by decide) (EW.cons (hw _ (List.mem_of_getElem? (i := 84) rfl)) (by decide) (EW.cons (hw _ (List.mem_of_getElem? (i := 83) rfl)) (by decide +kernel) EW.nil)))
theorem own_shr0 (x : Int32) : x >>> ((0 : Int32) &&& 31) = x := by
  apply Int32.toInt_inj.mp
  rw [c_ishr x 0 0 (by decide)]; simp
theorem own_shl0 (x : Int32) : x <<< ((0 : Int32) &&& 31) = x := by
  apply Int32.toInt_inj.mp
  have h := c_ishl x 0 0 (by decide)
  have r1 := rng32 x
  have r2 := rng32 (x <<< ((0 : Int32) &&& 31))
  simp only [Nat.pow_zero, Int.natCast_one, Int.mul_one, Int.cast_ofNat_Int] at h
  omega
theorem own_rng (us : List Value) (d : Value) : us = (List.range us.length).map fun i => us.getD ((0 : Int32).toNatClampNeg + i) d := by
  apply List.ext_getElem
  · simp
  · intro i h1 h2
    have e : (0 : Int32).toNatClampNeg = 0 := by decide
    simp [e, List.getD_eq_getElem?_getD, h1]
theorem own_decl {s : State} {a : Array Value} {y : MethodName} {bytes : ByteArray} {maxL : Nat} {ret : Option FieldType} (w1 : (Cond.instanceMethod y).before a s = true) (w2 : (Cond.code y bytes maxL ret).before a s = true) : (Cond.declares y).before a s = true := by
  obtain ⟨mk, methM, hnamed, hmethM, hst, -⟩ := Cond.instanceMethod_spec w1
  obtain ⟨m2, cM, q1, -, -, -, -, -, -, hsig⟩ := Cond.code_spec hnamed w2
  cases hmethM.symm.trans q1
  simp [Cond.before, Cond.holds, Cond.value, hnamed, hmethM, hst, hsig]
theorem own_nf {s : State} {a : Array Value} {y y' : MethodName} (hc : y.cls = y'.cls) (N : NotFace s y') (w : (Cond.instanceMethod y').before a s = true) : NotFace s y := fun r0 h0 => by
  obtain ⟨mk, methM, hnamed, -⟩ := Cond.instanceMethod_spec w
  obtain ⟨kr, h1, h2⟩ := N mk hnamed
  have e1 := findClass_of_methodNamed h0
  have e2 := findClass_of_methodNamed hnamed
  rw [hc, e2] at e1
  rw [← Option.some.inj e1]
  exact ⟨kr, h1, h2⟩
theorem own_same {s : State} {a : Array Value} {y : MethodName} (w : (Cond.instanceMethod y).before a s = true) (N : NotFace s y) (hy : y.cls ≠ "java/lang/invoke/MethodHandle" ∧ y.cls ≠ "java/lang/invoke/VarHandle") : (Cond.sameMethod y.cls y.cls y.name y.desc).before a s = true := by
  obtain ⟨mk, methM, hnamed, -⟩ := Cond.instanceMethod_spec w
  obtain ⟨kr, h1, h2⟩ := N mk hnamed
  have e1 := findClass_of_methodNamed hnamed
  have e2 := State.methodFound?_of_named hnamed hy
  obtain ⟨c1, n1, d1⟩ := y
  simp only at e1 e2
  simp [Cond.before, Cond.holds, Cond.value, e1, e2, hnamed, h1, h2]
theorem pn_java_lang_String : plainName "java/lang/String" = true := by first | (simp [plainName, overriddenIn]; done) | decide +kernel
theorem d_jdk_42_method_152_code_0 : decode jdk_42_method_152_code 0 = .ok (.getstatic 38, 3) := by decide +kernel
theorem d_jdk_42_method_152_code_3 : decode jdk_42_method_152_code 3 = .ok (.ifCond .eq 10, 3) := by decide +kernel
theorem d_jdk_42_method_152_code_6 : decode jdk_42_method_152_code 6 = .ok (.aload_n 0, 1) := by decide +kernel
theorem d_jdk_42_method_152_code_7 : decode jdk_42_method_152_code 7 = .ok (.getfield 15, 3) := by decide +kernel
theorem d_jdk_42_method_152_code_10 : decode jdk_42_method_152_code 10 = .ok (.goto 4, 3) := by decide +kernel
theorem d_jdk_42_method_152_code_14 : decode jdk_42_method_152_code 14 = .ok (.ireturn, 1) := by decide +kernel
theorem ef_own_coder (m : MethodId) {sa : Addr} : entryFrame m #[(.ref sa)] 1 = mkF m 0 #[.val (.ref sa)] [] := by first | (simp [entryFrame, mkF, argsToLocals, Value.category]; done) | rfl
def Q_own_coder (Z : State) (sa : Addr) (G1 : Int32) (h0 : Heap) (n0 : Nat) (v : Option Value) (h : Heap) (L : List Loc) : Prop := v = some (.int (0 : Int32)) ∧ Fr n0 L ∧ h = h0
set_option maxRecDepth 65536 in
set_option maxHeartbeats 40000000 in
theorem own_coder (l : Launch) (Z : State) (a0 : Array Value) (hw : ∀ d ∈ tables_1, d.before a0 Z = true) (ws : List Jvm.Cond) (sa : Addr) (G1 : Int32) (h0 : Heap) (n0 : Nat) (Z0 : n0 ≤ h0.size) (CS : Fld Z h0 sa "java/lang/String" "coder" "B" (.int (0 : Int32))) (O2 : Sta Z Z.heap "java/lang/String" "COMPACT_STRINGS" "Z" (.int G1)) (P5 : ¬ G1 = (0 : Int32)) (XO : Old Z n0 h0) :
    MetFree l (⟨"java/lang/String", "coder", "()B"⟩ : MethodName) (head1 (Jvm.Cond.code (⟨"java/lang/String", "coder", "()B"⟩ : MethodName) jdk_42_method_152_code 1 (some .byte) :: ws) ({ frames := 0, cells := 0, slots := 0, locals := 0 } : Room)) (fun a U => a = #[(.ref sa)] ∧ Z.Warmed39 U.vm ∧ U.heap = h0) (fun _ _ _ _ _ => True) (fun _ U o U' => ∃ v L, o = .returned v ∧ Q_own_coder Z sa G1 h0 n0 v U'.heap L ∧ FrameEnd U o U' L ({ frames := 0, cells := 0, slots := 0, locals := 0 } : Room).cells ({ frames := 0, cells := 0, slots := 0, locals := 0 } : Room).slots) := by
  refine MetFree.of_bodySF (plainFor_of_name pn_java_lang_String) hisR ?_
  intro p e s m args below meth c s₁ Bd hml0 hP hK
  obtain ⟨rfl, hZ, hh⟩ := hP
  have hx := Bd.exec
  have hby := Bd.bytes
  have hml : c.maxLocals = 1 := hml0
  have hown : s.vm.findClass "java/lang/String" = some m.cls := findClass_of_methodNamed Bd.named
  have hnm := (name_of_methodNamed Bd.named Bd.method).1
  have X0 : Stand p l e ({ frames := 0, cells := 0, slots := 0, locals := 0 } : Room) s m #[(.ref sa)] below meth c s₁ [] 0 0 := Stand.of_body Bd
  have e0 : s₁.heap = h0 := by rw [← hh, Bd.state]; rfl
  have N0 := Fr.nil n0
  have pre0 : ∀ t, Steps p.tables e below (s₁.setTop (mkF m 0 #[.val (.ref sa)] [])) t → Steps p.tables e below (s₁.setTop (entryFrame m #[(.ref sa)] 1)) t := fun t k => castTop (ef_own_coder m) k
  obtain ⟨T1, X1, e1, st1⟩ := getS2 X0 hx hZ hown (host := "") (Or.inl (hw _ (List.mem_of_getElem? (i := 19) rfl))) Via.refl e0 (O2.ext XO.2) (g := (mkF m 0 #[.val (.ref sa)] [])) rfl (hb hby d_jdk_42_method_152_code_0)
  have pre2 : ∀ t, Steps p.tables e below (T1.setTop (mkF m 3 #[.val (.ref sa)] [(.int G1)])) t → Steps p.tables e below (s₁.setTop (entryFrame m #[(.ref sa)] 1)) t := by
    intro t kk
    refine pre0 t ?_
    show Steps p.tables e below (s₁.setTop (mkF m 0 #[.val (.ref sa)] [])) _
    exact st1 _ kk
  obtain ⟨T3, X3, e3, st3⟩ := getF X1 hx hZ hown (host := "") (Or.inl (hw _ (List.mem_of_getElem? (i := 31) rfl))) Via.refl e1 CS (g := (mkF m 7 #[.val (.ref sa)] [(.ref sa)])) rfl rfl (hb hby d_jdk_42_method_152_code_7)
  have pre4 : ∀ t, Steps p.tables e below (T3.setTop (mkF m 10 #[.val (.ref sa)] [(.int (0 : Int32))])) t → Steps p.tables e below (s₁.setTop (entryFrame m #[(.ref sa)] 1)) t := by
    intro t kk
    refine pre2 t ?_
    show Steps p.tables e below (T1.setTop (mkF m 3 #[.val (.ref sa)] [(.int G1)])) _
    refine XS.ifNo X1.here hx rfl (hb hby d_jdk_42_method_152_code_3) rfl ((if0 _ _).trans (feq P5).1) ?_
    show Steps p.tables e below (T1.setTop (mkF m 6 #[.val (.ref sa)] [])) _
    refine XS.aloadN X1.here hx rfl (hb hby d_jdk_42_method_152_code_6) rfl rfl ?_
    show Steps p.tables e below (T1.setTop (mkF m 7 #[.val (.ref sa)] [(.ref sa)])) _
    exact st3 _ kk
  obtain ⟨fs, hr, hrun, hended, hW, hsame⟩ := X3.leave (v := some (.int (0 : Int32))) (fun h => by rw [Bd.returns] at h; cases h)
  refine ⟨_, _, pre4 _ ?_, hrun, hended, _, _, rfl, ?_, ⟨_, rfl⟩, hW, hsame.mono (by decide) (by decide)⟩
  · show Steps p.tables e below (T3.setTop (mkF m 10 #[.val (.ref sa)] [(.int (0 : Int32))])) _
    refine XS.goto X3.here hx rfl (pc0 := 10) (pc' := 14) rfl (hb hby d_jdk_42_method_152_code_10) (by decide) (by decide) ?_
    show Steps p.tables e below (T3.setTop (mkF m 14 #[.val (.ref sa)] [(.int (0 : Int32))])) _
    exact retN X3 hx (t := .byte) Bd.returns (by simp) (hb hby d_jdk_42_method_152_code_14) hr
  · show Q_own_coder Z sa G1 h0 n0 _ T3.heap _
    rw [e3]
    exact ⟨rfl, N0, rfl⟩
theorem d_jdk_42_method_54_code_0 : decode jdk_42_method_54_code 0 = .ok (.aload_n 0, 1) := by decide +kernel
theorem d_jdk_42_method_54_code_1 : decode jdk_42_method_54_code 1 = .ok (.getfield 9, 3) := by decide +kernel
theorem d_jdk_42_method_54_code_4 : decode jdk_42_method_54_code 4 = .ok (.arraylength, 1) := by decide +kernel
theorem d_jdk_42_method_54_code_5 : decode jdk_42_method_54_code 5 = .ok (.aload_n 0, 1) := by decide +kernel
theorem pd___B : parseMethodDescriptor "()B" = some ⟨[], some .byte⟩ := by decide +kernel
theorem d_jdk_42_method_54_code_6 : decode jdk_42_method_54_code 6 = .ok (.invokevirtual 335, 3) := by decide +kernel
theorem d_jdk_42_method_54_code_9 : decode jdk_42_method_54_code 9 = .ok (.ishr, 1) := by decide +kernel
theorem d_jdk_42_method_54_code_10 : decode jdk_42_method_54_code 10 = .ok (.ireturn, 1) := by decide +kernel
theorem ef_own_slen (m : MethodId) {sa : Addr} : entryFrame m #[(.ref sa)] 1 = mkF m 0 #[.val (.ref sa)] [] := by first | (simp [entryFrame, mkF, argsToLocals, Value.category]; done) | rfl
def Q_own_slen (Z : State) (sa sb : Addr) (kS : ClassId) (z : Int32) (us : List Value) (G1 : Int32) (h0 : Heap) (n0 : Nat) (v : Option Value) (h : Heap) (L : List Loc) : Prop := v = some (.int z) ∧ Fr n0 L ∧ h = h0
set_option maxRecDepth 65536 in
set_option maxHeartbeats 40000000 in
theorem own_slen (l : Launch) (Z : State) (a0 : Array Value) (hw : ∀ d ∈ tables_1, d.before a0 Z = true) (ws : List Jvm.Cond) (sa sb : Addr) (kS : ClassId) (z : Int32) (us : List Value) (G1 : Int32) (h0 : Heap) (n0 : Nat) (Z0 : n0 ≤ h0.size) (ES : Exa Z h0 sa "java/lang/String") (VS : Fld Z h0 sa "java/lang/String" "value" "[B" (.ref sb)) (CS : Fld Z h0 sa "java/lang/String" "coder" "B" (.int (0 : Int32))) (KS : Arv Z h0 sb kS .byte z us (.int (0 : Int32))) (O2 : Sta Z Z.heap "java/lang/String" "COMPACT_STRINGS" "Z" (.int G1)) (P5 : ¬ G1 = (0 : Int32)) (XO : Old Z n0 h0) :
    MetFree l (⟨"java/lang/String", "length", "()I"⟩ : MethodName) (head1 (Jvm.Cond.code (⟨"java/lang/String", "length", "()I"⟩ : MethodName) jdk_42_method_54_code 1 (some .int) :: ws) ({ frames := 1, cells := 0, slots := 0, locals := 13 } : Room)) (fun a U => a = #[(.ref sa)] ∧ Z.Warmed39 U.vm ∧ U.heap = h0) (fun _ _ _ _ _ => True) (fun _ U o U' => ∃ v L, o = .returned v ∧ Q_own_slen Z sa sb kS z us G1 h0 n0 v U'.heap L ∧ FrameEnd U o U' L ({ frames := 1, cells := 0, slots := 0, locals := 13 } : Room).cells ({ frames := 1, cells := 0, slots := 0, locals := 13 } : Room).slots) := by
  refine MetFree.of_bodySF (plainFor_of_name pn_java_lang_String) hisR ?_
  intro p e s m args below meth c s₁ Bd hml0 hP hK
  obtain ⟨rfl, hZ, hh⟩ := hP
  have hx := Bd.exec
  have hby := Bd.bytes
  have hml : c.maxLocals = 1 := hml0
  have hown : s.vm.findClass "java/lang/String" = some m.cls := findClass_of_methodNamed Bd.named
  have hnm := (name_of_methodNamed Bd.named Bd.method).1
  have X0 : Stand p l e ({ frames := 1, cells := 0, slots := 0, locals := 13 } : Room) s m #[(.ref sa)] below meth c s₁ [] 0 0 := Stand.of_body Bd
  have e0 : s₁.heap = h0 := by rw [← hh, Bd.state]; rfl
  have N0 := Fr.nil n0
  have pre0 : ∀ t, Steps p.tables e below (s₁.setTop (mkF m 0 #[.val (.ref sa)] [])) t → Steps p.tables e below (s₁.setTop (entryFrame m #[(.ref sa)] 1)) t := fun t k => castTop (ef_own_slen m) k
  obtain ⟨T1, X1, e1, st1⟩ := getF X0 hx hZ hown (host := "") (Or.inl (hw _ (List.mem_of_getElem? (i := 33) rfl))) Via.refl e0 VS (g := (mkF m 1 #[.val (.ref sa)] [(.ref sa)])) rfl rfl (hb hby d_jdk_42_method_54_code_1)
  have pre2 : ∀ t, Steps p.tables e below (T1.setTop (mkF m 4 #[.val (.ref sa)] [(.ref sb)])) t → Steps p.tables e below (s₁.setTop (entryFrame m #[(.ref sa)] 1)) t := by
    intro t kk
    refine pre0 t ?_
    show Steps p.tables e below (s₁.setTop (mkF m 0 #[.val (.ref sa)] [])) _
    refine XS.aloadN X0.here hx rfl (hb hby d_jdk_42_method_54_code_0) rfl rfl ?_
    show Steps p.tables e below (s₁.setTop (mkF m 1 #[.val (.ref sa)] [(.ref sa)])) _
    exact st1 _ kk
  obtain ⟨cl3, Ar3, q3, S3, M3, H3, G3⟩ := id KS
  obtain ⟨cq4, kq4, q4a, q4b, q4c⟩ := isOf hZ e1 ES
  obtain ⟨_, _, ⟨T4, L4, k4, n4⟩, -, X4, ⟨Lc4, hQ4, l4, y4, z4⟩, st4⟩ := X1.virtualBack hx (y := (⟨"java/lang/String", "coder", "()B"⟩ : MethodName)) (z := (⟨"java/lang/String", "coder", "()B"⟩ : MethodName)) hown (mvT hZ (hw _ (List.mem_of_getElem? (i := 56) rfl))) (mvT hZ (hw _ (List.mem_of_getElem? (i := 57) rfl))) (notFace_of_selects (args := #[]) (mvT hZ (hw _ (List.mem_of_getElem? (i := 59) rfl)))) (mvT hZ (hw _ (List.mem_of_getElem? (i := 59) rfl))) (mvT hZ (hw _ (List.mem_of_getElem? (i := 58) rfl))) (by decide) (backOf (W := 1) (own_coder l Z a0 hw [] sa G1 h0 n0 Z0 CS O2 P5 XO) hZ (hw _ (List.mem_of_getElem? (i := 60) rfl)) (hw _ (List.mem_of_getElem? (i := 7) rfl)) (by decide) (by decide)) q4a q4c (g := (mkF m 6 #[.val (.ref sa)] [(.ref sa), (.int z)])) rfl (by rw [hml]; rfl) (Steps.refl _) (argsL := []) (rest := [(.int z)]) (lenOf pd___B rfl) rfl (by show 2 * 0 + _ ≤ _; exact Nat.le_of_eq rfl) (hb hby d_jdk_42_method_54_code_6) (fun _ _ => ⟨rfl, e1, (by decide : 0 + 0 ≤ _), (by decide : 0 + 0 ≤ _)⟩)
  dsimp only [Pt.U, Pt.locs, Pt.cells, Pt.slots] at X4 l4 y4 z4 st4 hQ4
  subst l4 y4 z4
  obtain ⟨rfl, N4q, e4q⟩ := hQ4
  have N4 := Fr.app N0 N4q
  have pre5 : ∀ t, Steps p.tables e below (T4.setTop (mkF m 9 #[.val (.ref sa)] [(.int (0 : Int32)), (.int z)])) t → Steps p.tables e below (s₁.setTop (entryFrame m #[(.ref sa)] 1)) t := by
    intro t kk
    refine pre2 t ?_
    show Steps p.tables e below (T1.setTop (mkF m 4 #[.val (.ref sa)] [(.ref sb)])) _
    refine X1.arraylength hx (by rw [e1]; exact Ar3.1) (State.isArrayOf_alike hZ.alike Ar3.2.1) (g := (mkF m 4 #[.val (.ref sa)] [(.ref sb)])) rfl rfl (hb hby d_jdk_42_method_54_code_4) _ ?_
    rw [len_of S3 M3]
    show Steps p.tables e below (T1.setTop (mkF m 5 #[.val (.ref sa)] [(.int z)])) _
    refine XS.aloadN X1.here hx rfl (hb hby d_jdk_42_method_54_code_5) rfl rfl ?_
    show Steps p.tables e below (T1.setTop (mkF m 6 #[.val (.ref sa)] [(.ref sa), (.int z)])) _
    exact st4.trans kk
  have pre6 : ∀ t, Steps p.tables e below (T4.setTop (mkF m 10 #[.val (.ref sa)] [(.int (z >>> ((0 : Int32) &&& 31)))])) t → Steps p.tables e below (s₁.setTop (entryFrame m #[(.ref sa)] 1)) t := by
    intro t kk
    refine pre5 t ?_
    show Steps p.tables e below (T4.setTop (mkF m 9 #[.val (.ref sa)] [(.int (0 : Int32)), (.int z)])) _
    refine XS.ishr X4.here hx rfl (hb hby d_jdk_42_method_54_code_9) rfl ?_
    exact kk
  rw [own_shr0] at pre6
  obtain ⟨fs, hr, hrun, hended, hW, hsame⟩ := X4.leave (v := some (.int z)) (fun h => by rw [Bd.returns] at h; cases h)
  refine ⟨_, _, pre6 _ ?_, hrun, hended, _, _, rfl, ?_, ⟨_, rfl⟩, hW, hsame.mono (by decide) (by decide)⟩
  · show Steps p.tables e below (T4.setTop (mkF m 10 #[.val (.ref sa)] [(.int z)])) _
    exact retI X4 hx Bd.returns (hb hby d_jdk_42_method_54_code_10) hr
  · show Q_own_slen Z sa sb kS z us G1 h0 n0 _ T4.heap _
    rw [e4q]
    exact ⟨rfl, N4, rfl⟩
theorem own_c8 (x : Int32) : ¬ (x &&& (255 : Int32)).toUInt32.toUInt16.toUInt32.toInt32 < 0 ∧ ¬ (255 : Int32) < (x &&& (255 : Int32)).toUInt32.toUInt16.toUInt32.toInt32 := by
  have h1 := c_and x 255 (by decide)
  have h2 := c_i2c (x &&& 255)
  have h3 : (255 : Int32).toInt = 255 := by decide
  have h4 : (0 : Int32).toInt = 0 := by decide
  rw [Int32.lt_iff_toInt_lt, Int32.lt_iff_toInt_lt]
  omega
theorem own_n8 (x : Int32) : ¬ nar .char ((x &&& (255 : Int32)).toUInt32.toUInt16.toUInt32.toInt32) < 0 ∧ ¬ (255 : Int32) < nar .char ((x &&& (255 : Int32)).toUInt32.toUInt16.toUInt32.toInt32) := by
  have e : nar .char ((x &&& (255 : Int32)).toUInt32.toUInt16.toUInt32.toInt32) = (x &&& (255 : Int32)).toUInt32.toUInt16.toUInt32.toInt32 := by simp only [nar, UInt32.toUInt32_toInt32, UInt16.toUInt16_toUInt32]
  rw [e]; exact own_c8 x
def own_Lt (cs : List Int32) : Prop := ∀ c ∈ cs, ¬ c < 0 ∧ ¬ (255 : Int32) < c
theorem own_p0 : own_Lt [] := fun c hc => by cases hc
theorem own_pc {a : Int32} {cs : List Int32} (ha : ¬ a < 0 ∧ ¬ (255 : Int32) < a) (h : own_Lt cs) : own_Lt (a :: cs) := by
  intro c hc
  rcases List.mem_cons.mp hc with rfl | hc
  · exact ha
  · exact h c hc
theorem own_papp {a b : List Int32} (ha : own_Lt a) (hb : own_Lt b) : own_Lt (a ++ b) := by
  intro c hc
  rcases List.mem_append.mp hc with h | h
  · exact ha c h
  · exact hb c h
theorem own_up {cs : List Int32} (h : own_Lt cs) : ∀ c ∈ cs, ¬ c < 0 ∧ ¬ (65535 : Int32) < c := fun c hc => ⟨(h c hc).1, fun q => (h c hc).2 (by rw [Int32.lt_iff_toInt_lt] at q ⊢; have e1 : (65535 : Int32).toInt = 65535 := rfl; have e2 : (255 : Int32).toInt = 255 := rfl; omega)⟩
theorem own_cod {cs : List Int32} (h : own_Lt cs) : StrChars.Road.CodA cs 0 (Int32.ofNat cs.length) (own_B cs) := Or.inl ⟨rfl, rfl, by simp only [own_B, List.map_map]; rfl, fun c hc => (h c hc).2⟩
theorem own_iN {i : Int32} (h : ¬ i < 0) : i = Int32.ofNat i.toNatClampNeg := by
  have e := nat_of h
  have r := rng32 i
  apply Int32.toInt_inj.mp
  rw [Int32.toInt_ofNat_of_lt (by omega)]
  exact e
theorem own_subN {i : Int32} {l : Nat} (h : ¬ i < 0) (hl : l ≤ i.toNatClampNeg) (hb : l ≤ 4000) : i - Int32.ofNat l = Int32.ofNat (i.toNatClampNeg - l) := by
  have e := nat_of h
  have r := rng32 i
  have e2 := (own_on hb).1
  have q := c_isub i (Int32.ofNat l)
  have r2 := rng32 (i - Int32.ofNat l)
  apply Int32.toInt_inj.mp
  rw [Int32.toInt_ofNat_of_lt (by omega)]
  omega
theorem own_ltN {i : Int32} {l : Nat} (h : ¬ i < 0) (hb : l ≤ 4000) : i < Int32.ofNat l ↔ i.toNatClampNeg < l := by
  have e := nat_of h
  have e2 := (own_on hb).1
  rw [Int32.lt_iff_toInt_lt]
  omega
theorem own_gA {a b : List Int32} {i : Nat} (h : i < a.length) : (a ++ b).getD i 0 = a.getD i 0 := by
  simp [List.getD_eq_getElem?_getD, List.getElem?_append_left h]
theorem own_gB {a b : List Int32} {i : Nat} (h : a.length ≤ i) : (a ++ b).getD i 0 = b.getD (i - a.length) 0 := by
  simp [List.getD_eq_getElem?_getD, List.getElem?_append_right h]
def own_sp (c : Int32) : Prop := c = 46 ∨ c = 95 ∨ c = 126 ∨ c = 45
def own_an (c : Int32) : Prop := (¬ c < (65 : Int32) ∧ ¬ (90 : Int32) < c) ∨ (¬ c < (97 : Int32) ∧ ¬ (122 : Int32) < c) ∨ (¬ c < (48 : Int32) ∧ ¬ (57 : Int32) < c)
def own_ok (c : Int32) : Prop := own_an c ∨ own_sp c
theorem own_i {n : Int} {k : Int32} (h : k.toInt = n := by decide) : k.toInt = n := h
theorem own_rng66 (x : Int32) : 0 ≤ ((x &&& (2147483647 : Int32)) % (66 : Int32)).toInt ∧ ((x &&& (2147483647 : Int32)) % (66 : Int32)).toInt < 66 := by
  have h1 := c_and x 2147483647 (by decide)
  have h2 := (c_iremV (x &&& 2147483647) 66).1 h1.1 (by decide)
  have k : (66 : Int32).toInt = 66 := by decide
  omega
theorem own_idn (k : Int32) (base off : Int32) (lo hi : Int) (h : lo ≤ base.toInt + (k.toInt - off.toInt) ∧ base.toInt + (k.toInt - off.toInt) ≤ hi) (h0 : 0 ≤ lo) (h1 : hi ≤ 255) (hb : 0 ≤ base.toInt ∧ base.toInt ≤ 255) (hk : 0 ≤ k.toInt ∧ k.toInt < 66) (ho : 0 ≤ off.toInt ∧ off.toInt < 66) :
    lo ≤ (nar .char ((base + (k - off)).toUInt32.toUInt16.toUInt32.toInt32)).toInt ∧ (nar .char ((base + (k - off)).toUInt32.toUInt16.toUInt32.toInt32)).toInt ≤ hi := by
  have e : nar .char ((base + (k - off)).toUInt32.toUInt16.toUInt32.toInt32) = (base + (k - off)).toUInt32.toUInt16.toUInt32.toInt32 := by simp only [nar, UInt32.toUInt32_toInt32, UInt16.toUInt16_toUInt32]
  rw [e]
  have q1 := c_isub k off
  have q2 := rng32 (k - off)
  have q3 := c_iadd base (k - off)
  have q4 := rng32 (base + (k - off))
  have q5 := c_i2c (base + (k - off))
  omega
theorem own_idn0 (k : Int32) (base : Int32) (lo hi : Int) (h : lo ≤ base.toInt + k.toInt ∧ base.toInt + k.toInt ≤ hi) (h0 : 0 ≤ lo) (h1 : hi ≤ 255) (hb : 0 ≤ base.toInt ∧ base.toInt ≤ 255) (hk : 0 ≤ k.toInt ∧ k.toInt < 66) :
    lo ≤ (nar .char ((base + k).toUInt32.toUInt16.toUInt32.toInt32)).toInt ∧ (nar .char ((base + k).toUInt32.toUInt16.toUInt32.toInt32)).toInt ≤ hi := by
  have e : nar .char ((base + k).toUInt32.toUInt16.toUInt32.toInt32) = (base + k).toUInt32.toUInt16.toUInt32.toInt32 := by simp only [nar, UInt32.toUInt32_toInt32, UInt16.toUInt16_toUInt32]
  rw [e]
  have q3 := c_iadd base k
  have q4 := rng32 (base + k)
  have q5 := c_i2c (base + k)
  omega
theorem own_btw {c a b : Int32} {lo hi : Int} (ha : a.toInt = lo) (hb : b.toInt = hi) (h : lo ≤ c.toInt ∧ c.toInt ≤ hi) : ¬ c < a ∧ ¬ b < c := by
  rw [Int32.lt_iff_toInt_lt, Int32.lt_iff_toInt_lt]; omega
theorem own_ok8 {c : Int32} (h : own_ok c) : ¬ c < 0 ∧ ¬ (255 : Int32) < c := by
  have k0 : (0 : Int32).toInt = 0 := by decide
  have k1 : (255 : Int32).toInt = 255 := by decide
  have a1 : (65 : Int32).toInt = 65 := by decide
  have a2 : (90 : Int32).toInt = 90 := by decide
  have a3 : (97 : Int32).toInt = 97 := by decide
  have a4 : (122 : Int32).toInt = 122 := by decide
  have a5 : (48 : Int32).toInt = 48 := by decide
  have a6 : (57 : Int32).toInt = 57 := by decide
  rcases h with (h | h | h) | (rfl | rfl | rfl | rfl)
  · simp only [Int32.lt_iff_toInt_lt] at h ⊢; omega
  · simp only [Int32.lt_iff_toInt_lt] at h ⊢; omega
  · simp only [Int32.lt_iff_toInt_lt] at h ⊢; omega
  · decide
  · decide
  · decide
  · decide
theorem own_nok {c : Int32} (h : own_ok c) : nar .char c = c := by
  have q := c_i2c c
  have h8 := own_ok8 h
  have k0 : (0 : Int32).toInt = 0 := by decide
  have k1 : (255 : Int32).toInt = 255 := by decide
  simp only [Int32.lt_iff_toInt_lt] at h8
  apply Int32.toInt_inj.mp
  show (c.toUInt32.toUInt16.toUInt32.toInt32).toInt = _
  omega
theorem pn_com_example_deadline_deadline_TimerCheckIdPinLaw : plainName "com/example/deadline/deadline/TimerCheckIdPinLaw" = true := by first | (simp [plainName, overriddenIn]; done) | decide +kernel
theorem d_method_2_code_0 : decode method_2_code 0 = .ok (.iload_n 0, 1) := by decide +kernel
theorem d_method_2_code_1 : decode method_2_code 1 = .ok (.ldc 7, 2) := by decide +kernel
theorem d_method_2_code_3 : decode method_2_code 3 = .ok (.iand, 1) := by decide +kernel
theorem d_method_2_code_4 : decode method_2_code 4 = .ok (.bipush 66, 2) := by decide +kernel
theorem d_method_2_code_6 : decode method_2_code 6 = .ok (.irem, 1) := by decide +kernel
theorem d_method_2_code_7 : decode method_2_code 7 = .ok (.istore_n 1, 1) := by decide +kernel
theorem d_method_2_code_8 : decode method_2_code 8 = .ok (.iload_n 1, 1) := by decide +kernel
theorem d_method_2_code_9 : decode method_2_code 9 = .ok (.bipush 26, 2) := by decide +kernel
theorem d_method_2_code_11 : decode method_2_code 11 = .ok (.if_icmp .ge 12, 3) := by decide +kernel
theorem d_method_2_code_14 : decode method_2_code 14 = .ok (.bipush 65, 2) := by decide +kernel
theorem d_method_2_code_16 : decode method_2_code 16 = .ok (.iload_n 1, 1) := by decide +kernel
theorem d_method_2_code_17 : decode method_2_code 17 = .ok (.iadd, 1) := by decide +kernel
theorem d_method_2_code_18 : decode method_2_code 18 = .ok (.i2c, 1) := by decide +kernel
theorem d_method_2_code_19 : decode method_2_code 19 = .ok (.istore_n 2, 1) := by decide +kernel
theorem d_method_2_code_20 : decode method_2_code 20 = .ok (.goto 78, 3) := by decide +kernel
theorem d_method_2_code_98 : decode method_2_code 98 = .ok (.iload_n 2, 1) := by decide +kernel
theorem d_method_2_code_99 : decode method_2_code 99 = .ok (.ireturn, 1) := by decide +kernel
theorem d_method_2_code_23 : decode method_2_code 23 = .ok (.iload_n 1, 1) := by decide +kernel
theorem d_method_2_code_24 : decode method_2_code 24 = .ok (.bipush 52, 2) := by decide +kernel
theorem d_method_2_code_26 : decode method_2_code 26 = .ok (.if_icmp .ge 15, 3) := by decide +kernel
theorem d_method_2_code_29 : decode method_2_code 29 = .ok (.bipush 97, 2) := by decide +kernel
theorem d_method_2_code_31 : decode method_2_code 31 = .ok (.iload_n 1, 1) := by decide +kernel
theorem d_method_2_code_32 : decode method_2_code 32 = .ok (.bipush 26, 2) := by decide +kernel
theorem d_method_2_code_34 : decode method_2_code 34 = .ok (.isub, 1) := by decide +kernel
theorem d_method_2_code_35 : decode method_2_code 35 = .ok (.iadd, 1) := by decide +kernel
theorem d_method_2_code_36 : decode method_2_code 36 = .ok (.i2c, 1) := by decide +kernel
theorem d_method_2_code_37 : decode method_2_code 37 = .ok (.istore_n 2, 1) := by decide +kernel
theorem d_method_2_code_38 : decode method_2_code 38 = .ok (.goto 60, 3) := by decide +kernel
theorem d_method_2_code_41 : decode method_2_code 41 = .ok (.iload_n 1, 1) := by decide +kernel
theorem d_method_2_code_42 : decode method_2_code 42 = .ok (.bipush 62, 2) := by decide +kernel
theorem d_method_2_code_44 : decode method_2_code 44 = .ok (.if_icmp .ge 15, 3) := by decide +kernel
theorem d_method_2_code_47 : decode method_2_code 47 = .ok (.bipush 48, 2) := by decide +kernel
theorem d_method_2_code_49 : decode method_2_code 49 = .ok (.iload_n 1, 1) := by decide +kernel
theorem d_method_2_code_50 : decode method_2_code 50 = .ok (.bipush 52, 2) := by decide +kernel
theorem d_method_2_code_52 : decode method_2_code 52 = .ok (.isub, 1) := by decide +kernel
theorem d_method_2_code_53 : decode method_2_code 53 = .ok (.iadd, 1) := by decide +kernel
theorem d_method_2_code_54 : decode method_2_code 54 = .ok (.i2c, 1) := by decide +kernel
theorem d_method_2_code_55 : decode method_2_code 55 = .ok (.istore_n 2, 1) := by decide +kernel
theorem d_method_2_code_56 : decode method_2_code 56 = .ok (.goto 42, 3) := by decide +kernel
theorem d_method_2_code_59 : decode method_2_code 59 = .ok (.iload_n 1, 1) := by decide +kernel
theorem d_method_2_code_60 : decode method_2_code 60 = .ok (.bipush 62, 2) := by decide +kernel
theorem d_method_2_code_62 : decode method_2_code 62 = .ok (.if_icmp .ne 9, 3) := by decide +kernel
theorem d_method_2_code_65 : decode method_2_code 65 = .ok (.bipush 46, 2) := by decide +kernel
theorem d_method_2_code_67 : decode method_2_code 67 = .ok (.istore_n 2, 1) := by decide +kernel
theorem d_method_2_code_68 : decode method_2_code 68 = .ok (.goto 30, 3) := by decide +kernel
theorem d_method_2_code_71 : decode method_2_code 71 = .ok (.iload_n 1, 1) := by decide +kernel
theorem d_method_2_code_72 : decode method_2_code 72 = .ok (.bipush 63, 2) := by decide +kernel
theorem d_method_2_code_74 : decode method_2_code 74 = .ok (.if_icmp .ne 9, 3) := by decide +kernel
theorem d_method_2_code_77 : decode method_2_code 77 = .ok (.bipush 95, 2) := by decide +kernel
theorem d_method_2_code_79 : decode method_2_code 79 = .ok (.istore_n 2, 1) := by decide +kernel
theorem d_method_2_code_80 : decode method_2_code 80 = .ok (.goto 18, 3) := by decide +kernel
theorem d_method_2_code_83 : decode method_2_code 83 = .ok (.iload_n 1, 1) := by decide +kernel
theorem d_method_2_code_84 : decode method_2_code 84 = .ok (.bipush 64, 2) := by decide +kernel
theorem d_method_2_code_86 : decode method_2_code 86 = .ok (.if_icmp .ne 9, 3) := by decide +kernel
theorem d_method_2_code_89 : decode method_2_code 89 = .ok (.bipush 126, 2) := by decide +kernel
theorem d_method_2_code_91 : decode method_2_code 91 = .ok (.istore_n 2, 1) := by decide +kernel
theorem d_method_2_code_92 : decode method_2_code 92 = .ok (.goto 6, 3) := by decide +kernel
theorem d_method_2_code_95 : decode method_2_code 95 = .ok (.bipush 45, 2) := by decide +kernel
theorem d_method_2_code_97 : decode method_2_code 97 = .ok (.istore_n 2, 1) := by decide +kernel
theorem ef_own_idc (m : MethodId) {xx : Int32} : entryFrame m #[(.int xx)] 3 = mkF m 0 #[.val (.int xx), .unset, .unset] [] := by first | (simp [entryFrame, mkF, argsToLocals, Value.category]; done) | rfl
def Q_own_idc (Z : State) (xx : Int32) (h0 : Heap) (n0 : Nat) (v : Option Value) (h : Heap) (L : List Loc) : Prop := ∃ r : Int32, v = some (.int r) ∧ Fr n0 L ∧ h = h0 ∧ own_ok r
set_option maxRecDepth 65536 in
set_option maxHeartbeats 40000000 in
theorem own_idc (l : Launch) (Z : State) (a0 : Array Value) (hw : ∀ d ∈ tables_1, d.before a0 Z = true) (ws : List Jvm.Cond) (xx : Int32) (h0 : Heap) (n0 : Nat) (Z0 : n0 ≤ h0.size)  :
    MetFree l (⟨"com/example/deadline/deadline/TimerCheckIdPinLaw", "idChar", "(I)C"⟩ : MethodName) (head1 (Jvm.Cond.code (⟨"com/example/deadline/deadline/TimerCheckIdPinLaw", "idChar", "(I)C"⟩ : MethodName) method_2_code 3 (some .char) :: ws) ({ frames := 0, cells := 0, slots := 0, locals := 0 } : Room)) (fun a U => a = #[(.int xx)] ∧ Z.Warmed39 U.vm ∧ U.heap = h0) (fun _ _ _ _ _ => True) (fun _ U o U' => ∃ v L, o = .returned v ∧ Q_own_idc Z xx h0 n0 v U'.heap L ∧ FrameEnd U o U' L ({ frames := 0, cells := 0, slots := 0, locals := 0 } : Room).cells ({ frames := 0, cells := 0, slots := 0, locals := 0 } : Room).slots) := by
  refine MetFree.of_bodySF (plainFor_of_name pn_com_example_deadline_deadline_TimerCheckIdPinLaw) hisR ?_
  intro p e s m args below meth c s₁ Bd hml0 hP hK
  obtain ⟨rfl, hZ, hh⟩ := hP
  have hx := Bd.exec
  have hby := Bd.bytes
  have hml : c.maxLocals = 3 := hml0
  have hown : s.vm.findClass "com/example/deadline/deadline/TimerCheckIdPinLaw" = some m.cls := findClass_of_methodNamed Bd.named
  have hnm := (name_of_methodNamed Bd.named Bd.method).1
  have X0 : Stand p l e ({ frames := 0, cells := 0, slots := 0, locals := 0 } : Room) s m #[(.int xx)] below meth c s₁ [] 0 0 := Stand.of_body Bd
  have e0 : s₁.heap = h0 := by rw [← hh, Bd.state]; rfl
  have N0 := Fr.nil n0
  have pre0 : ∀ t, Steps p.tables e below (s₁.setTop (mkF m 0 #[.val (.int xx), .unset, .unset] [])) t → Steps p.tables e below (s₁.setTop (entryFrame m #[(.int xx)] 3)) t := fun t k => castTop (ef_own_idc m) k
  have kr := own_rng66 xx
  have pre1 : ∀ t, Steps p.tables e below (s₁.setTop (mkF m 7 #[.val (.int xx), .unset, .unset] [(.int ((xx &&& (2147483647 : Int32)) % (66 : Int32)))])) t → Steps p.tables e below (s₁.setTop (entryFrame m #[(.int xx)] 3)) t := by
    intro t kk
    refine pre0 t ?_
    show Steps p.tables e below (s₁.setTop (mkF m 0 #[.val (.int xx), .unset, .unset] [])) _
    refine XS.iloadN X0.here hx rfl (hb hby d_method_2_code_0) rfl ?_
    show Steps p.tables e below (s₁.setTop (mkF m 1 #[.val (.int xx), .unset, .unset] [(.int xx)])) _
    refine X0.ldcI hx hown (mvT hZ (hw _ (List.mem_of_getElem? (i := 4) rfl))) (g := (mkF m 1 #[.val (.int xx), .unset, .unset] [(.int xx)])) rfl (hb hby d_method_2_code_1) ?_
    show Steps p.tables e below (s₁.setTop (mkF m 3 #[.val (.int xx), .unset, .unset] [(.int (2147483647 : Int32)), (.int xx)])) _
    refine XS.iand X0.here hx rfl (hb hby d_method_2_code_3) rfl ?_
    show Steps p.tables e below (s₁.setTop (mkF m 4 #[.val (.int xx), .unset, .unset] [(.int (xx &&& (2147483647 : Int32)))])) _
    refine XS.bipush X0.here hx rfl (hb hby d_method_2_code_4) ?_
    show Steps p.tables e below (s₁.setTop (mkF m 6 #[.val (.int xx), .unset, .unset] [(.int (66 : Int32)), (.int (xx &&& (2147483647 : Int32)))])) _
    refine iremM (g := (mkF m 6 #[.val (.int xx), .unset, .unset] [(.int (66 : Int32)), (.int (xx &&& (2147483647 : Int32)))])) X0 hx rfl (hb hby d_method_2_code_6) rfl (by decide) ?_
    exact kk
  obtain ⟨kk, hkk⟩ : ∃ z, z = ((xx &&& (2147483647 : Int32)) % (66 : Int32)) := ⟨_, rfl⟩
  rw [← hkk] at kr pre1
  have n26 : (26 : Int32).toInt = 26 := by decide
  have n52 : (52 : Int32).toInt = 52 := by decide
  have n62 : (62 : Int32).toInt = 62 := by decide
  have n65 : (65 : Int32).toInt = 65 := by decide
  have n97 : (97 : Int32).toInt = 97 := by decide
  have n48 : (48 : Int32).toInt = 48 := by decide
  by_cases h1 : kk < (26 : Int32)
  case pos =>
    have h1' := h1
    rw [Int32.lt_iff_toInt_lt] at h1'
    obtain ⟨fs, hr, hrun, hended, hW, hsame⟩ := X0.leave (v := some (.int (nar .char (((65 : Int32) + kk).toUInt32.toUInt16.toUInt32.toInt32)))) (fun h => by rw [Bd.returns] at h; cases h)
    refine ⟨_, _, pre1 _ ?_, hrun, hended, _, _, rfl, ?_, ⟨_, rfl⟩, hW, hsame.mono (by decide) (by decide)⟩
    · show Steps p.tables e below (s₁.setTop (mkF m 7 #[.val (.int xx), .unset, .unset] [(.int kk)])) _
      refine XS.istoreN X0.here hx rfl (hb hby d_method_2_code_7) rfl (l' := #[.val (.int xx), .val (.int kk), .unset]) rfl ?_
      show Steps p.tables e below (s₁.setTop (mkF m 8 #[.val (.int xx), .val (.int kk), .unset] [])) _
      refine XS.iloadN X0.here hx rfl (hb hby d_method_2_code_8) rfl ?_
      show Steps p.tables e below (s₁.setTop (mkF m 9 #[.val (.int xx), .val (.int kk), .unset] [(.int kk)])) _
      refine XS.bipush X0.here hx rfl (hb hby d_method_2_code_9) ?_
      show Steps p.tables e below (s₁.setTop (mkF m 11 #[.val (.int xx), .val (.int kk), .unset] [(.int (26 : Int32)), (.int kk)])) _
      refine XS.icmpNo X0.here hx rfl (hb hby d_method_2_code_11) rfl (tlt h1).2.1 ?_
      show Steps p.tables e below (s₁.setTop (mkF m 14 #[.val (.int xx), .val (.int kk), .unset] [])) _
      refine XS.bipush X0.here hx rfl (hb hby d_method_2_code_14) ?_
      show Steps p.tables e below (s₁.setTop (mkF m 16 #[.val (.int xx), .val (.int kk), .unset] [(.int (65 : Int32))])) _
      refine XS.iloadN X0.here hx rfl (hb hby d_method_2_code_16) rfl ?_
      show Steps p.tables e below (s₁.setTop (mkF m 17 #[.val (.int xx), .val (.int kk), .unset] [(.int kk), (.int (65 : Int32))])) _
      refine XS.iadd X0.here hx rfl (hb hby d_method_2_code_17) rfl ?_
      show Steps p.tables e below (s₁.setTop (mkF m 18 #[.val (.int xx), .val (.int kk), .unset] [(.int ((65 : Int32) + kk))])) _
      refine XS.i2c X0.here hx rfl (hb hby d_method_2_code_18) rfl ?_
      show Steps p.tables e below (s₁.setTop (mkF m 19 #[.val (.int xx), .val (.int kk), .unset] [(.int (((65 : Int32) + kk).toUInt32.toUInt16.toUInt32.toInt32))])) _
      refine XS.istoreN X0.here hx rfl (hb hby d_method_2_code_19) rfl (l' := #[.val (.int xx), .val (.int kk), .val (.int (((65 : Int32) + kk).toUInt32.toUInt16.toUInt32.toInt32))]) rfl ?_
      show Steps p.tables e below (s₁.setTop (mkF m 20 #[.val (.int xx), .val (.int kk), .val (.int (((65 : Int32) + kk).toUInt32.toUInt16.toUInt32.toInt32))] [])) _
      refine XS.goto X0.here hx rfl (pc0 := 20) (pc' := 98) rfl (hb hby d_method_2_code_20) (by decide) (by decide) ?_
      show Steps p.tables e below (s₁.setTop (mkF m 98 #[.val (.int xx), .val (.int kk), .val (.int (((65 : Int32) + kk).toUInt32.toUInt16.toUInt32.toInt32))] [])) _
      refine XS.iloadN X0.here hx rfl (hb hby d_method_2_code_98) rfl ?_
      show Steps p.tables e below (s₁.setTop (mkF m 99 #[.val (.int xx), .val (.int kk), .val (.int (((65 : Int32) + kk).toUInt32.toUInt16.toUInt32.toInt32))] [(.int (((65 : Int32) + kk).toUInt32.toUInt16.toUInt32.toInt32))])) _
      exact retN X0 hx (t := .char) Bd.returns (by simp) (hb hby d_method_2_code_99) hr
    · show Q_own_idc Z xx h0 n0 _ s₁.heap _
      rw [e0]
      exact ⟨_, rfl, N0, rfl, Or.inl (Or.inl (own_btw (lo := 65) (hi := 90) (by decide) (by decide) (own_idn0 kk 65 65 90 (by omega) (by omega) (by omega) (by omega) kr)))⟩
  case neg =>
    have h1' := h1
    rw [Int32.lt_iff_toInt_lt] at h1'
    by_cases h2 : kk < (52 : Int32)
    case pos =>
      have h2' := h2
      rw [Int32.lt_iff_toInt_lt] at h2'
      obtain ⟨fs, hr, hrun, hended, hW, hsame⟩ := X0.leave (v := some (.int (nar .char (((97 : Int32) + (kk - (26 : Int32))).toUInt32.toUInt16.toUInt32.toInt32)))) (fun h => by rw [Bd.returns] at h; cases h)
      refine ⟨_, _, pre1 _ ?_, hrun, hended, _, _, rfl, ?_, ⟨_, rfl⟩, hW, hsame.mono (by decide) (by decide)⟩
      · show Steps p.tables e below (s₁.setTop (mkF m 7 #[.val (.int xx), .unset, .unset] [(.int kk)])) _
        refine XS.istoreN X0.here hx rfl (hb hby d_method_2_code_7) rfl (l' := #[.val (.int xx), .val (.int kk), .unset]) rfl ?_
        show Steps p.tables e below (s₁.setTop (mkF m 8 #[.val (.int xx), .val (.int kk), .unset] [])) _
        refine XS.iloadN X0.here hx rfl (hb hby d_method_2_code_8) rfl ?_
        show Steps p.tables e below (s₁.setTop (mkF m 9 #[.val (.int xx), .val (.int kk), .unset] [(.int kk)])) _
        refine XS.bipush X0.here hx rfl (hb hby d_method_2_code_9) ?_
        show Steps p.tables e below (s₁.setTop (mkF m 11 #[.val (.int xx), .val (.int kk), .unset] [(.int (26 : Int32)), (.int kk)])) _
        refine XS.icmpYes X0.here hx rfl (pc0 := 11) (pc' := 23) rfl (hb hby d_method_2_code_11) rfl (flt h1).2.1 (by decide) (by decide) ?_
        show Steps p.tables e below (s₁.setTop (mkF m 23 #[.val (.int xx), .val (.int kk), .unset] [])) _
        refine XS.iloadN X0.here hx rfl (hb hby d_method_2_code_23) rfl ?_
        show Steps p.tables e below (s₁.setTop (mkF m 24 #[.val (.int xx), .val (.int kk), .unset] [(.int kk)])) _
        refine XS.bipush X0.here hx rfl (hb hby d_method_2_code_24) ?_
        show Steps p.tables e below (s₁.setTop (mkF m 26 #[.val (.int xx), .val (.int kk), .unset] [(.int (52 : Int32)), (.int kk)])) _
        refine XS.icmpNo X0.here hx rfl (hb hby d_method_2_code_26) rfl (tlt h2).2.1 ?_
        show Steps p.tables e below (s₁.setTop (mkF m 29 #[.val (.int xx), .val (.int kk), .unset] [])) _
        refine XS.bipush X0.here hx rfl (hb hby d_method_2_code_29) ?_
        show Steps p.tables e below (s₁.setTop (mkF m 31 #[.val (.int xx), .val (.int kk), .unset] [(.int (97 : Int32))])) _
        refine XS.iloadN X0.here hx rfl (hb hby d_method_2_code_31) rfl ?_
        show Steps p.tables e below (s₁.setTop (mkF m 32 #[.val (.int xx), .val (.int kk), .unset] [(.int kk), (.int (97 : Int32))])) _
        refine XS.bipush X0.here hx rfl (hb hby d_method_2_code_32) ?_
        show Steps p.tables e below (s₁.setTop (mkF m 34 #[.val (.int xx), .val (.int kk), .unset] [(.int (26 : Int32)), (.int kk), (.int (97 : Int32))])) _
        refine XS.isub X0.here hx rfl (hb hby d_method_2_code_34) rfl ?_
        show Steps p.tables e below (s₁.setTop (mkF m 35 #[.val (.int xx), .val (.int kk), .unset] [(.int (kk - (26 : Int32))), (.int (97 : Int32))])) _
        refine XS.iadd X0.here hx rfl (hb hby d_method_2_code_35) rfl ?_
        show Steps p.tables e below (s₁.setTop (mkF m 36 #[.val (.int xx), .val (.int kk), .unset] [(.int ((97 : Int32) + (kk - (26 : Int32))))])) _
        refine XS.i2c X0.here hx rfl (hb hby d_method_2_code_36) rfl ?_
        show Steps p.tables e below (s₁.setTop (mkF m 37 #[.val (.int xx), .val (.int kk), .unset] [(.int (((97 : Int32) + (kk - (26 : Int32))).toUInt32.toUInt16.toUInt32.toInt32))])) _
        refine XS.istoreN X0.here hx rfl (hb hby d_method_2_code_37) rfl (l' := #[.val (.int xx), .val (.int kk), .val (.int (((97 : Int32) + (kk - (26 : Int32))).toUInt32.toUInt16.toUInt32.toInt32))]) rfl ?_
        show Steps p.tables e below (s₁.setTop (mkF m 38 #[.val (.int xx), .val (.int kk), .val (.int (((97 : Int32) + (kk - (26 : Int32))).toUInt32.toUInt16.toUInt32.toInt32))] [])) _
        refine XS.goto X0.here hx rfl (pc0 := 38) (pc' := 98) rfl (hb hby d_method_2_code_38) (by decide) (by decide) ?_
        show Steps p.tables e below (s₁.setTop (mkF m 98 #[.val (.int xx), .val (.int kk), .val (.int (((97 : Int32) + (kk - (26 : Int32))).toUInt32.toUInt16.toUInt32.toInt32))] [])) _
        refine XS.iloadN X0.here hx rfl (hb hby d_method_2_code_98) rfl ?_
        show Steps p.tables e below (s₁.setTop (mkF m 99 #[.val (.int xx), .val (.int kk), .val (.int (((97 : Int32) + (kk - (26 : Int32))).toUInt32.toUInt16.toUInt32.toInt32))] [(.int (((97 : Int32) + (kk - (26 : Int32))).toUInt32.toUInt16.toUInt32.toInt32))])) _
        exact retN X0 hx (t := .char) Bd.returns (by simp) (hb hby d_method_2_code_99) hr
      · show Q_own_idc Z xx h0 n0 _ s₁.heap _
        rw [e0]
        exact ⟨_, rfl, N0, rfl, Or.inl (Or.inr (Or.inl (own_btw (lo := 97) (hi := 122) (by decide) (by decide) (own_idn kk 97 26 97 122 (by omega) (by omega) (by omega) (by omega) kr (by omega)))))⟩
    case neg =>
      have h2' := h2
      rw [Int32.lt_iff_toInt_lt] at h2'
      by_cases h3 : kk < (62 : Int32)
      case pos =>
        have h3' := h3
        rw [Int32.lt_iff_toInt_lt] at h3'
        obtain ⟨fs, hr, hrun, hended, hW, hsame⟩ := X0.leave (v := some (.int (nar .char (((48 : Int32) + (kk - (52 : Int32))).toUInt32.toUInt16.toUInt32.toInt32)))) (fun h => by rw [Bd.returns] at h; cases h)
        refine ⟨_, _, pre1 _ ?_, hrun, hended, _, _, rfl, ?_, ⟨_, rfl⟩, hW, hsame.mono (by decide) (by decide)⟩
        · show Steps p.tables e below (s₁.setTop (mkF m 7 #[.val (.int xx), .unset, .unset] [(.int kk)])) _
          refine XS.istoreN X0.here hx rfl (hb hby d_method_2_code_7) rfl (l' := #[.val (.int xx), .val (.int kk), .unset]) rfl ?_
          show Steps p.tables e below (s₁.setTop (mkF m 8 #[.val (.int xx), .val (.int kk), .unset] [])) _
          refine XS.iloadN X0.here hx rfl (hb hby d_method_2_code_8) rfl ?_
          show Steps p.tables e below (s₁.setTop (mkF m 9 #[.val (.int xx), .val (.int kk), .unset] [(.int kk)])) _
          refine XS.bipush X0.here hx rfl (hb hby d_method_2_code_9) ?_
          show Steps p.tables e below (s₁.setTop (mkF m 11 #[.val (.int xx), .val (.int kk), .unset] [(.int (26 : Int32)), (.int kk)])) _
          refine XS.icmpYes X0.here hx rfl (pc0 := 11) (pc' := 23) rfl (hb hby d_method_2_code_11) rfl (flt h1).2.1 (by decide) (by decide) ?_
          show Steps p.tables e below (s₁.setTop (mkF m 23 #[.val (.int xx), .val (.int kk), .unset] [])) _
          refine XS.iloadN X0.here hx rfl (hb hby d_method_2_code_23) rfl ?_
          show Steps p.tables e below (s₁.setTop (mkF m 24 #[.val (.int xx), .val (.int kk), .unset] [(.int kk)])) _
          refine XS.bipush X0.here hx rfl (hb hby d_method_2_code_24) ?_
          show Steps p.tables e below (s₁.setTop (mkF m 26 #[.val (.int xx), .val (.int kk), .unset] [(.int (52 : Int32)), (.int kk)])) _
          refine XS.icmpYes X0.here hx rfl (pc0 := 26) (pc' := 41) rfl (hb hby d_method_2_code_26) rfl (flt h2).2.1 (by decide) (by decide) ?_
          show Steps p.tables e below (s₁.setTop (mkF m 41 #[.val (.int xx), .val (.int kk), .unset] [])) _
          refine XS.iloadN X0.here hx rfl (hb hby d_method_2_code_41) rfl ?_
          show Steps p.tables e below (s₁.setTop (mkF m 42 #[.val (.int xx), .val (.int kk), .unset] [(.int kk)])) _
          refine XS.bipush X0.here hx rfl (hb hby d_method_2_code_42) ?_
          show Steps p.tables e below (s₁.setTop (mkF m 44 #[.val (.int xx), .val (.int kk), .unset] [(.int (62 : Int32)), (.int kk)])) _
          refine XS.icmpNo X0.here hx rfl (hb hby d_method_2_code_44) rfl (tlt h3).2.1 ?_
          show Steps p.tables e below (s₁.setTop (mkF m 47 #[.val (.int xx), .val (.int kk), .unset] [])) _
          refine XS.bipush X0.here hx rfl (hb hby d_method_2_code_47) ?_
          show Steps p.tables e below (s₁.setTop (mkF m 49 #[.val (.int xx), .val (.int kk), .unset] [(.int (48 : Int32))])) _
          refine XS.iloadN X0.here hx rfl (hb hby d_method_2_code_49) rfl ?_
          show Steps p.tables e below (s₁.setTop (mkF m 50 #[.val (.int xx), .val (.int kk), .unset] [(.int kk), (.int (48 : Int32))])) _
          refine XS.bipush X0.here hx rfl (hb hby d_method_2_code_50) ?_
          show Steps p.tables e below (s₁.setTop (mkF m 52 #[.val (.int xx), .val (.int kk), .unset] [(.int (52 : Int32)), (.int kk), (.int (48 : Int32))])) _
          refine XS.isub X0.here hx rfl (hb hby d_method_2_code_52) rfl ?_
          show Steps p.tables e below (s₁.setTop (mkF m 53 #[.val (.int xx), .val (.int kk), .unset] [(.int (kk - (52 : Int32))), (.int (48 : Int32))])) _
          refine XS.iadd X0.here hx rfl (hb hby d_method_2_code_53) rfl ?_
          show Steps p.tables e below (s₁.setTop (mkF m 54 #[.val (.int xx), .val (.int kk), .unset] [(.int ((48 : Int32) + (kk - (52 : Int32))))])) _
          refine XS.i2c X0.here hx rfl (hb hby d_method_2_code_54) rfl ?_
          show Steps p.tables e below (s₁.setTop (mkF m 55 #[.val (.int xx), .val (.int kk), .unset] [(.int (((48 : Int32) + (kk - (52 : Int32))).toUInt32.toUInt16.toUInt32.toInt32))])) _
          refine XS.istoreN X0.here hx rfl (hb hby d_method_2_code_55) rfl (l' := #[.val (.int xx), .val (.int kk), .val (.int (((48 : Int32) + (kk - (52 : Int32))).toUInt32.toUInt16.toUInt32.toInt32))]) rfl ?_
          show Steps p.tables e below (s₁.setTop (mkF m 56 #[.val (.int xx), .val (.int kk), .val (.int (((48 : Int32) + (kk - (52 : Int32))).toUInt32.toUInt16.toUInt32.toInt32))] [])) _
          refine XS.goto X0.here hx rfl (pc0 := 56) (pc' := 98) rfl (hb hby d_method_2_code_56) (by decide) (by decide) ?_
          show Steps p.tables e below (s₁.setTop (mkF m 98 #[.val (.int xx), .val (.int kk), .val (.int (((48 : Int32) + (kk - (52 : Int32))).toUInt32.toUInt16.toUInt32.toInt32))] [])) _
          refine XS.iloadN X0.here hx rfl (hb hby d_method_2_code_98) rfl ?_
          show Steps p.tables e below (s₁.setTop (mkF m 99 #[.val (.int xx), .val (.int kk), .val (.int (((48 : Int32) + (kk - (52 : Int32))).toUInt32.toUInt16.toUInt32.toInt32))] [(.int (((48 : Int32) + (kk - (52 : Int32))).toUInt32.toUInt16.toUInt32.toInt32))])) _
          exact retN X0 hx (t := .char) Bd.returns (by simp) (hb hby d_method_2_code_99) hr
        · show Q_own_idc Z xx h0 n0 _ s₁.heap _
          rw [e0]
          exact ⟨_, rfl, N0, rfl, Or.inl (Or.inr (Or.inr (own_btw (lo := 48) (hi := 57) (by decide) (by decide) (own_idn kk 48 52 48 57 (by omega) (by omega) (by omega) (by omega) kr (by omega)))))⟩
      case neg =>
        have h3' := h3
        rw [Int32.lt_iff_toInt_lt] at h3'
        by_cases h4 : kk = (62 : Int32)
        case pos =>
          obtain ⟨fs, hr, hrun, hended, hW, hsame⟩ := X0.leave (v := some (.int (46 : Int32))) (fun h => by rw [Bd.returns] at h; cases h)
          refine ⟨_, _, pre1 _ ?_, hrun, hended, _, _, rfl, ?_, ⟨_, rfl⟩, hW, hsame.mono (by decide) (by decide)⟩
          · show Steps p.tables e below (s₁.setTop (mkF m 7 #[.val (.int xx), .unset, .unset] [(.int kk)])) _
            refine XS.istoreN X0.here hx rfl (hb hby d_method_2_code_7) rfl (l' := #[.val (.int xx), .val (.int kk), .unset]) rfl ?_
            show Steps p.tables e below (s₁.setTop (mkF m 8 #[.val (.int xx), .val (.int kk), .unset] [])) _
            refine XS.iloadN X0.here hx rfl (hb hby d_method_2_code_8) rfl ?_
            show Steps p.tables e below (s₁.setTop (mkF m 9 #[.val (.int xx), .val (.int kk), .unset] [(.int kk)])) _
            refine XS.bipush X0.here hx rfl (hb hby d_method_2_code_9) ?_
            show Steps p.tables e below (s₁.setTop (mkF m 11 #[.val (.int xx), .val (.int kk), .unset] [(.int (26 : Int32)), (.int kk)])) _
            refine XS.icmpYes X0.here hx rfl (pc0 := 11) (pc' := 23) rfl (hb hby d_method_2_code_11) rfl (flt h1).2.1 (by decide) (by decide) ?_
            show Steps p.tables e below (s₁.setTop (mkF m 23 #[.val (.int xx), .val (.int kk), .unset] [])) _
            refine XS.iloadN X0.here hx rfl (hb hby d_method_2_code_23) rfl ?_
            show Steps p.tables e below (s₁.setTop (mkF m 24 #[.val (.int xx), .val (.int kk), .unset] [(.int kk)])) _
            refine XS.bipush X0.here hx rfl (hb hby d_method_2_code_24) ?_
            show Steps p.tables e below (s₁.setTop (mkF m 26 #[.val (.int xx), .val (.int kk), .unset] [(.int (52 : Int32)), (.int kk)])) _
            refine XS.icmpYes X0.here hx rfl (pc0 := 26) (pc' := 41) rfl (hb hby d_method_2_code_26) rfl (flt h2).2.1 (by decide) (by decide) ?_
            show Steps p.tables e below (s₁.setTop (mkF m 41 #[.val (.int xx), .val (.int kk), .unset] [])) _
            refine XS.iloadN X0.here hx rfl (hb hby d_method_2_code_41) rfl ?_
            show Steps p.tables e below (s₁.setTop (mkF m 42 #[.val (.int xx), .val (.int kk), .unset] [(.int kk)])) _
            refine XS.bipush X0.here hx rfl (hb hby d_method_2_code_42) ?_
            show Steps p.tables e below (s₁.setTop (mkF m 44 #[.val (.int xx), .val (.int kk), .unset] [(.int (62 : Int32)), (.int kk)])) _
            refine XS.icmpYes X0.here hx rfl (pc0 := 44) (pc' := 59) rfl (hb hby d_method_2_code_44) rfl (flt h3).2.1 (by decide) (by decide) ?_
            show Steps p.tables e below (s₁.setTop (mkF m 59 #[.val (.int xx), .val (.int kk), .unset] [])) _
            refine XS.iloadN X0.here hx rfl (hb hby d_method_2_code_59) rfl ?_
            show Steps p.tables e below (s₁.setTop (mkF m 60 #[.val (.int xx), .val (.int kk), .unset] [(.int kk)])) _
            refine XS.bipush X0.here hx rfl (hb hby d_method_2_code_60) ?_
            show Steps p.tables e below (s₁.setTop (mkF m 62 #[.val (.int xx), .val (.int kk), .unset] [(.int (62 : Int32)), (.int kk)])) _
            refine XS.icmpNo X0.here hx rfl (hb hby d_method_2_code_62) rfl (teq h4).2 ?_
            show Steps p.tables e below (s₁.setTop (mkF m 65 #[.val (.int xx), .val (.int kk), .unset] [])) _
            refine XS.bipush X0.here hx rfl (hb hby d_method_2_code_65) ?_
            show Steps p.tables e below (s₁.setTop (mkF m 67 #[.val (.int xx), .val (.int kk), .unset] [(.int (46 : Int32))])) _
            refine XS.istoreN X0.here hx rfl (hb hby d_method_2_code_67) rfl (l' := #[.val (.int xx), .val (.int kk), .val (.int (46 : Int32))]) rfl ?_
            show Steps p.tables e below (s₁.setTop (mkF m 68 #[.val (.int xx), .val (.int kk), .val (.int (46 : Int32))] [])) _
            refine XS.goto X0.here hx rfl (pc0 := 68) (pc' := 98) rfl (hb hby d_method_2_code_68) (by decide) (by decide) ?_
            show Steps p.tables e below (s₁.setTop (mkF m 98 #[.val (.int xx), .val (.int kk), .val (.int (46 : Int32))] [])) _
            refine XS.iloadN X0.here hx rfl (hb hby d_method_2_code_98) rfl ?_
            show Steps p.tables e below (s₁.setTop (mkF m 99 #[.val (.int xx), .val (.int kk), .val (.int (46 : Int32))] [(.int (46 : Int32))])) _
            exact retN X0 hx (t := .char) Bd.returns (by simp) (hb hby d_method_2_code_99) hr
          · show Q_own_idc Z xx h0 n0 _ s₁.heap _
            rw [e0]
            exact ⟨46, rfl, N0, rfl, Or.inr (Or.inl rfl)⟩
        case neg =>
          by_cases h5 : kk = (63 : Int32)
          case pos =>
            obtain ⟨fs, hr, hrun, hended, hW, hsame⟩ := X0.leave (v := some (.int (95 : Int32))) (fun h => by rw [Bd.returns] at h; cases h)
            refine ⟨_, _, pre1 _ ?_, hrun, hended, _, _, rfl, ?_, ⟨_, rfl⟩, hW, hsame.mono (by decide) (by decide)⟩
            · show Steps p.tables e below (s₁.setTop (mkF m 7 #[.val (.int xx), .unset, .unset] [(.int kk)])) _
              refine XS.istoreN X0.here hx rfl (hb hby d_method_2_code_7) rfl (l' := #[.val (.int xx), .val (.int kk), .unset]) rfl ?_
              show Steps p.tables e below (s₁.setTop (mkF m 8 #[.val (.int xx), .val (.int kk), .unset] [])) _
              refine XS.iloadN X0.here hx rfl (hb hby d_method_2_code_8) rfl ?_
              show Steps p.tables e below (s₁.setTop (mkF m 9 #[.val (.int xx), .val (.int kk), .unset] [(.int kk)])) _
              refine XS.bipush X0.here hx rfl (hb hby d_method_2_code_9) ?_
              show Steps p.tables e below (s₁.setTop (mkF m 11 #[.val (.int xx), .val (.int kk), .unset] [(.int (26 : Int32)), (.int kk)])) _
              refine XS.icmpYes X0.here hx rfl (pc0 := 11) (pc' := 23) rfl (hb hby d_method_2_code_11) rfl (flt h1).2.1 (by decide) (by decide) ?_
              show Steps p.tables e below (s₁.setTop (mkF m 23 #[.val (.int xx), .val (.int kk), .unset] [])) _
              refine XS.iloadN X0.here hx rfl (hb hby d_method_2_code_23) rfl ?_
              show Steps p.tables e below (s₁.setTop (mkF m 24 #[.val (.int xx), .val (.int kk), .unset] [(.int kk)])) _
              refine XS.bipush X0.here hx rfl (hb hby d_method_2_code_24) ?_
              show Steps p.tables e below (s₁.setTop (mkF m 26 #[.val (.int xx), .val (.int kk), .unset] [(.int (52 : Int32)), (.int kk)])) _
              refine XS.icmpYes X0.here hx rfl (pc0 := 26) (pc' := 41) rfl (hb hby d_method_2_code_26) rfl (flt h2).2.1 (by decide) (by decide) ?_
              show Steps p.tables e below (s₁.setTop (mkF m 41 #[.val (.int xx), .val (.int kk), .unset] [])) _
              refine XS.iloadN X0.here hx rfl (hb hby d_method_2_code_41) rfl ?_
              show Steps p.tables e below (s₁.setTop (mkF m 42 #[.val (.int xx), .val (.int kk), .unset] [(.int kk)])) _
              refine XS.bipush X0.here hx rfl (hb hby d_method_2_code_42) ?_
              show Steps p.tables e below (s₁.setTop (mkF m 44 #[.val (.int xx), .val (.int kk), .unset] [(.int (62 : Int32)), (.int kk)])) _
              refine XS.icmpYes X0.here hx rfl (pc0 := 44) (pc' := 59) rfl (hb hby d_method_2_code_44) rfl (flt h3).2.1 (by decide) (by decide) ?_
              show Steps p.tables e below (s₁.setTop (mkF m 59 #[.val (.int xx), .val (.int kk), .unset] [])) _
              refine XS.iloadN X0.here hx rfl (hb hby d_method_2_code_59) rfl ?_
              show Steps p.tables e below (s₁.setTop (mkF m 60 #[.val (.int xx), .val (.int kk), .unset] [(.int kk)])) _
              refine XS.bipush X0.here hx rfl (hb hby d_method_2_code_60) ?_
              show Steps p.tables e below (s₁.setTop (mkF m 62 #[.val (.int xx), .val (.int kk), .unset] [(.int (62 : Int32)), (.int kk)])) _
              refine XS.icmpYes X0.here hx rfl (pc0 := 62) (pc' := 71) rfl (hb hby d_method_2_code_62) rfl (feq h4).2 (by decide) (by decide) ?_
              show Steps p.tables e below (s₁.setTop (mkF m 71 #[.val (.int xx), .val (.int kk), .unset] [])) _
              refine XS.iloadN X0.here hx rfl (hb hby d_method_2_code_71) rfl ?_
              show Steps p.tables e below (s₁.setTop (mkF m 72 #[.val (.int xx), .val (.int kk), .unset] [(.int kk)])) _
              refine XS.bipush X0.here hx rfl (hb hby d_method_2_code_72) ?_
              show Steps p.tables e below (s₁.setTop (mkF m 74 #[.val (.int xx), .val (.int kk), .unset] [(.int (63 : Int32)), (.int kk)])) _
              refine XS.icmpNo X0.here hx rfl (hb hby d_method_2_code_74) rfl (teq h5).2 ?_
              show Steps p.tables e below (s₁.setTop (mkF m 77 #[.val (.int xx), .val (.int kk), .unset] [])) _
              refine XS.bipush X0.here hx rfl (hb hby d_method_2_code_77) ?_
              show Steps p.tables e below (s₁.setTop (mkF m 79 #[.val (.int xx), .val (.int kk), .unset] [(.int (95 : Int32))])) _
              refine XS.istoreN X0.here hx rfl (hb hby d_method_2_code_79) rfl (l' := #[.val (.int xx), .val (.int kk), .val (.int (95 : Int32))]) rfl ?_
              show Steps p.tables e below (s₁.setTop (mkF m 80 #[.val (.int xx), .val (.int kk), .val (.int (95 : Int32))] [])) _
              refine XS.goto X0.here hx rfl (pc0 := 80) (pc' := 98) rfl (hb hby d_method_2_code_80) (by decide) (by decide) ?_
              show Steps p.tables e below (s₁.setTop (mkF m 98 #[.val (.int xx), .val (.int kk), .val (.int (95 : Int32))] [])) _
              refine XS.iloadN X0.here hx rfl (hb hby d_method_2_code_98) rfl ?_
              show Steps p.tables e below (s₁.setTop (mkF m 99 #[.val (.int xx), .val (.int kk), .val (.int (95 : Int32))] [(.int (95 : Int32))])) _
              exact retN X0 hx (t := .char) Bd.returns (by simp) (hb hby d_method_2_code_99) hr
            · show Q_own_idc Z xx h0 n0 _ s₁.heap _
              rw [e0]
              exact ⟨95, rfl, N0, rfl, Or.inr (Or.inr (Or.inl rfl))⟩
          case neg =>
            by_cases h6 : kk = (64 : Int32)
            case pos =>
              obtain ⟨fs, hr, hrun, hended, hW, hsame⟩ := X0.leave (v := some (.int (126 : Int32))) (fun h => by rw [Bd.returns] at h; cases h)
              refine ⟨_, _, pre1 _ ?_, hrun, hended, _, _, rfl, ?_, ⟨_, rfl⟩, hW, hsame.mono (by decide) (by decide)⟩
              · show Steps p.tables e below (s₁.setTop (mkF m 7 #[.val (.int xx), .unset, .unset] [(.int kk)])) _
                refine XS.istoreN X0.here hx rfl (hb hby d_method_2_code_7) rfl (l' := #[.val (.int xx), .val (.int kk), .unset]) rfl ?_
                show Steps p.tables e below (s₁.setTop (mkF m 8 #[.val (.int xx), .val (.int kk), .unset] [])) _
                refine XS.iloadN X0.here hx rfl (hb hby d_method_2_code_8) rfl ?_
                show Steps p.tables e below (s₁.setTop (mkF m 9 #[.val (.int xx), .val (.int kk), .unset] [(.int kk)])) _
                refine XS.bipush X0.here hx rfl (hb hby d_method_2_code_9) ?_
                show Steps p.tables e below (s₁.setTop (mkF m 11 #[.val (.int xx), .val (.int kk), .unset] [(.int (26 : Int32)), (.int kk)])) _
                refine XS.icmpYes X0.here hx rfl (pc0 := 11) (pc' := 23) rfl (hb hby d_method_2_code_11) rfl (flt h1).2.1 (by decide) (by decide) ?_
                show Steps p.tables e below (s₁.setTop (mkF m 23 #[.val (.int xx), .val (.int kk), .unset] [])) _
                refine XS.iloadN X0.here hx rfl (hb hby d_method_2_code_23) rfl ?_
                show Steps p.tables e below (s₁.setTop (mkF m 24 #[.val (.int xx), .val (.int kk), .unset] [(.int kk)])) _
                refine XS.bipush X0.here hx rfl (hb hby d_method_2_code_24) ?_
                show Steps p.tables e below (s₁.setTop (mkF m 26 #[.val (.int xx), .val (.int kk), .unset] [(.int (52 : Int32)), (.int kk)])) _
                refine XS.icmpYes X0.here hx rfl (pc0 := 26) (pc' := 41) rfl (hb hby d_method_2_code_26) rfl (flt h2).2.1 (by decide) (by decide) ?_
                show Steps p.tables e below (s₁.setTop (mkF m 41 #[.val (.int xx), .val (.int kk), .unset] [])) _
                refine XS.iloadN X0.here hx rfl (hb hby d_method_2_code_41) rfl ?_
                show Steps p.tables e below (s₁.setTop (mkF m 42 #[.val (.int xx), .val (.int kk), .unset] [(.int kk)])) _
                refine XS.bipush X0.here hx rfl (hb hby d_method_2_code_42) ?_
                show Steps p.tables e below (s₁.setTop (mkF m 44 #[.val (.int xx), .val (.int kk), .unset] [(.int (62 : Int32)), (.int kk)])) _
                refine XS.icmpYes X0.here hx rfl (pc0 := 44) (pc' := 59) rfl (hb hby d_method_2_code_44) rfl (flt h3).2.1 (by decide) (by decide) ?_
                show Steps p.tables e below (s₁.setTop (mkF m 59 #[.val (.int xx), .val (.int kk), .unset] [])) _
                refine XS.iloadN X0.here hx rfl (hb hby d_method_2_code_59) rfl ?_
                show Steps p.tables e below (s₁.setTop (mkF m 60 #[.val (.int xx), .val (.int kk), .unset] [(.int kk)])) _
                refine XS.bipush X0.here hx rfl (hb hby d_method_2_code_60) ?_
                show Steps p.tables e below (s₁.setTop (mkF m 62 #[.val (.int xx), .val (.int kk), .unset] [(.int (62 : Int32)), (.int kk)])) _
                refine XS.icmpYes X0.here hx rfl (pc0 := 62) (pc' := 71) rfl (hb hby d_method_2_code_62) rfl (feq h4).2 (by decide) (by decide) ?_
                show Steps p.tables e below (s₁.setTop (mkF m 71 #[.val (.int xx), .val (.int kk), .unset] [])) _
                refine XS.iloadN X0.here hx rfl (hb hby d_method_2_code_71) rfl ?_
                show Steps p.tables e below (s₁.setTop (mkF m 72 #[.val (.int xx), .val (.int kk), .unset] [(.int kk)])) _
                refine XS.bipush X0.here hx rfl (hb hby d_method_2_code_72) ?_
                show Steps p.tables e below (s₁.setTop (mkF m 74 #[.val (.int xx), .val (.int kk), .unset] [(.int (63 : Int32)), (.int kk)])) _
                refine XS.icmpYes X0.here hx rfl (pc0 := 74) (pc' := 83) rfl (hb hby d_method_2_code_74) rfl (feq h5).2 (by decide) (by decide) ?_
                show Steps p.tables e below (s₁.setTop (mkF m 83 #[.val (.int xx), .val (.int kk), .unset] [])) _
                refine XS.iloadN X0.here hx rfl (hb hby d_method_2_code_83) rfl ?_
                show Steps p.tables e below (s₁.setTop (mkF m 84 #[.val (.int xx), .val (.int kk), .unset] [(.int kk)])) _
                refine XS.bipush X0.here hx rfl (hb hby d_method_2_code_84) ?_
                show Steps p.tables e below (s₁.setTop (mkF m 86 #[.val (.int xx), .val (.int kk), .unset] [(.int (64 : Int32)), (.int kk)])) _
                refine XS.icmpNo X0.here hx rfl (hb hby d_method_2_code_86) rfl (teq h6).2 ?_
                show Steps p.tables e below (s₁.setTop (mkF m 89 #[.val (.int xx), .val (.int kk), .unset] [])) _
                refine XS.bipush X0.here hx rfl (hb hby d_method_2_code_89) ?_
                show Steps p.tables e below (s₁.setTop (mkF m 91 #[.val (.int xx), .val (.int kk), .unset] [(.int (126 : Int32))])) _
                refine XS.istoreN X0.here hx rfl (hb hby d_method_2_code_91) rfl (l' := #[.val (.int xx), .val (.int kk), .val (.int (126 : Int32))]) rfl ?_
                show Steps p.tables e below (s₁.setTop (mkF m 92 #[.val (.int xx), .val (.int kk), .val (.int (126 : Int32))] [])) _
                refine XS.goto X0.here hx rfl (pc0 := 92) (pc' := 98) rfl (hb hby d_method_2_code_92) (by decide) (by decide) ?_
                show Steps p.tables e below (s₁.setTop (mkF m 98 #[.val (.int xx), .val (.int kk), .val (.int (126 : Int32))] [])) _
                refine XS.iloadN X0.here hx rfl (hb hby d_method_2_code_98) rfl ?_
                show Steps p.tables e below (s₁.setTop (mkF m 99 #[.val (.int xx), .val (.int kk), .val (.int (126 : Int32))] [(.int (126 : Int32))])) _
                exact retN X0 hx (t := .char) Bd.returns (by simp) (hb hby d_method_2_code_99) hr
              · show Q_own_idc Z xx h0 n0 _ s₁.heap _
                rw [e0]
                exact ⟨126, rfl, N0, rfl, Or.inr (Or.inr (Or.inr (Or.inl rfl)))⟩
            case neg =>
              obtain ⟨fs, hr, hrun, hended, hW, hsame⟩ := X0.leave (v := some (.int (45 : Int32))) (fun h => by rw [Bd.returns] at h; cases h)
              refine ⟨_, _, pre1 _ ?_, hrun, hended, _, _, rfl, ?_, ⟨_, rfl⟩, hW, hsame.mono (by decide) (by decide)⟩
              · show Steps p.tables e below (s₁.setTop (mkF m 7 #[.val (.int xx), .unset, .unset] [(.int kk)])) _
                refine XS.istoreN X0.here hx rfl (hb hby d_method_2_code_7) rfl (l' := #[.val (.int xx), .val (.int kk), .unset]) rfl ?_
                show Steps p.tables e below (s₁.setTop (mkF m 8 #[.val (.int xx), .val (.int kk), .unset] [])) _
                refine XS.iloadN X0.here hx rfl (hb hby d_method_2_code_8) rfl ?_
                show Steps p.tables e below (s₁.setTop (mkF m 9 #[.val (.int xx), .val (.int kk), .unset] [(.int kk)])) _
                refine XS.bipush X0.here hx rfl (hb hby d_method_2_code_9) ?_
                show Steps p.tables e below (s₁.setTop (mkF m 11 #[.val (.int xx), .val (.int kk), .unset] [(.int (26 : Int32)), (.int kk)])) _
                refine XS.icmpYes X0.here hx rfl (pc0 := 11) (pc' := 23) rfl (hb hby d_method_2_code_11) rfl (flt h1).2.1 (by decide) (by decide) ?_
                show Steps p.tables e below (s₁.setTop (mkF m 23 #[.val (.int xx), .val (.int kk), .unset] [])) _
                refine XS.iloadN X0.here hx rfl (hb hby d_method_2_code_23) rfl ?_
                show Steps p.tables e below (s₁.setTop (mkF m 24 #[.val (.int xx), .val (.int kk), .unset] [(.int kk)])) _
                refine XS.bipush X0.here hx rfl (hb hby d_method_2_code_24) ?_
                show Steps p.tables e below (s₁.setTop (mkF m 26 #[.val (.int xx), .val (.int kk), .unset] [(.int (52 : Int32)), (.int kk)])) _
                refine XS.icmpYes X0.here hx rfl (pc0 := 26) (pc' := 41) rfl (hb hby d_method_2_code_26) rfl (flt h2).2.1 (by decide) (by decide) ?_
                show Steps p.tables e below (s₁.setTop (mkF m 41 #[.val (.int xx), .val (.int kk), .unset] [])) _
                refine XS.iloadN X0.here hx rfl (hb hby d_method_2_code_41) rfl ?_
                show Steps p.tables e below (s₁.setTop (mkF m 42 #[.val (.int xx), .val (.int kk), .unset] [(.int kk)])) _
                refine XS.bipush X0.here hx rfl (hb hby d_method_2_code_42) ?_
                show Steps p.tables e below (s₁.setTop (mkF m 44 #[.val (.int xx), .val (.int kk), .unset] [(.int (62 : Int32)), (.int kk)])) _
                refine XS.icmpYes X0.here hx rfl (pc0 := 44) (pc' := 59) rfl (hb hby d_method_2_code_44) rfl (flt h3).2.1 (by decide) (by decide) ?_
                show Steps p.tables e below (s₁.setTop (mkF m 59 #[.val (.int xx), .val (.int kk), .unset] [])) _
                refine XS.iloadN X0.here hx rfl (hb hby d_method_2_code_59) rfl ?_
                show Steps p.tables e below (s₁.setTop (mkF m 60 #[.val (.int xx), .val (.int kk), .unset] [(.int kk)])) _
                refine XS.bipush X0.here hx rfl (hb hby d_method_2_code_60) ?_
                show Steps p.tables e below (s₁.setTop (mkF m 62 #[.val (.int xx), .val (.int kk), .unset] [(.int (62 : Int32)), (.int kk)])) _
                refine XS.icmpYes X0.here hx rfl (pc0 := 62) (pc' := 71) rfl (hb hby d_method_2_code_62) rfl (feq h4).2 (by decide) (by decide) ?_
                show Steps p.tables e below (s₁.setTop (mkF m 71 #[.val (.int xx), .val (.int kk), .unset] [])) _
                refine XS.iloadN X0.here hx rfl (hb hby d_method_2_code_71) rfl ?_
                show Steps p.tables e below (s₁.setTop (mkF m 72 #[.val (.int xx), .val (.int kk), .unset] [(.int kk)])) _
                refine XS.bipush X0.here hx rfl (hb hby d_method_2_code_72) ?_
                show Steps p.tables e below (s₁.setTop (mkF m 74 #[.val (.int xx), .val (.int kk), .unset] [(.int (63 : Int32)), (.int kk)])) _
                refine XS.icmpYes X0.here hx rfl (pc0 := 74) (pc' := 83) rfl (hb hby d_method_2_code_74) rfl (feq h5).2 (by decide) (by decide) ?_
                show Steps p.tables e below (s₁.setTop (mkF m 83 #[.val (.int xx), .val (.int kk), .unset] [])) _
                refine XS.iloadN X0.here hx rfl (hb hby d_method_2_code_83) rfl ?_
                show Steps p.tables e below (s₁.setTop (mkF m 84 #[.val (.int xx), .val (.int kk), .unset] [(.int kk)])) _
                refine XS.bipush X0.here hx rfl (hb hby d_method_2_code_84) ?_
                show Steps p.tables e below (s₁.setTop (mkF m 86 #[.val (.int xx), .val (.int kk), .unset] [(.int (64 : Int32)), (.int kk)])) _
                refine XS.icmpYes X0.here hx rfl (pc0 := 86) (pc' := 95) rfl (hb hby d_method_2_code_86) rfl (feq h6).2 (by decide) (by decide) ?_
                show Steps p.tables e below (s₁.setTop (mkF m 95 #[.val (.int xx), .val (.int kk), .unset] [])) _
                refine XS.bipush X0.here hx rfl (hb hby d_method_2_code_95) ?_
                show Steps p.tables e below (s₁.setTop (mkF m 97 #[.val (.int xx), .val (.int kk), .unset] [(.int (45 : Int32))])) _
                refine XS.istoreN X0.here hx rfl (hb hby d_method_2_code_97) rfl (l' := #[.val (.int xx), .val (.int kk), .val (.int (45 : Int32))]) rfl ?_
                show Steps p.tables e below (s₁.setTop (mkF m 98 #[.val (.int xx), .val (.int kk), .val (.int (45 : Int32))] [])) _
                refine XS.iloadN X0.here hx rfl (hb hby d_method_2_code_98) rfl ?_
                show Steps p.tables e below (s₁.setTop (mkF m 99 #[.val (.int xx), .val (.int kk), .val (.int (45 : Int32))] [(.int (45 : Int32))])) _
                exact retN X0 hx (t := .char) Bd.returns (by simp) (hb hby d_method_2_code_99) hr
              · show Q_own_idc Z xx h0 n0 _ s₁.heap _
                rw [e0]
                exact ⟨45, rfl, N0, rfl, Or.inr (Or.inr (Or.inr (Or.inr rfl)))⟩
theorem pn_java_util_Objects : plainName "java/util/Objects" = true := by first | (simp [plainName, overriddenIn]; done) | decide +kernel
theorem d_jdk_31_method_11_code_0 : decode jdk_31_method_11_code 0 = .ok (.aload_n 0, 1) := by decide +kernel
theorem d_jdk_31_method_11_code_1 : decode jdk_31_method_11_code 1 = .ok (.ifnonnull 12, 3) := by decide +kernel
theorem d_jdk_31_method_11_code_13 : decode jdk_31_method_11_code 13 = .ok (.aload_n 0, 1) := by decide +kernel
theorem d_jdk_31_method_11_code_14 : decode jdk_31_method_11_code 14 = .ok (.areturn, 1) := by decide +kernel
theorem ef_own_rnn (m : MethodId) {x1 : Addr} {x2 : Addr} : entryFrame m #[(.ref x1), (.ref x2)] 2 = mkF m 0 #[.val (.ref x1), .val (.ref x2)] [] := by first | (simp [entryFrame, mkF, argsToLocals, Value.category]; done) | rfl
def Q_own_rnn (Z : State) (x1 x2 : Addr) (h0 : Heap) (n0 : Nat) (v : Option Value) (h : Heap) (L : List Loc) : Prop := v = some (.ref x1) ∧ Fr n0 L ∧ h = h0
set_option maxRecDepth 65536 in
set_option maxHeartbeats 40000000 in
theorem own_rnn (l : Launch) (Z : State) (a0 : Array Value) (hw : ∀ d ∈ tables_1, d.before a0 Z = true) (ws : List Jvm.Cond) (x1 x2 : Addr) (h0 : Heap) (n0 : Nat) (Z0 : n0 ≤ h0.size)  :
    MetFree l (⟨"java/util/Objects", "requireNonNull", "(Ljava/lang/Object;Ljava/lang/String;)Ljava/lang/Object;"⟩ : MethodName) (head1 (Jvm.Cond.code (⟨"java/util/Objects", "requireNonNull", "(Ljava/lang/Object;Ljava/lang/String;)Ljava/lang/Object;"⟩ : MethodName) jdk_31_method_11_code 2 (some (.object "java/lang/Object")) :: ws) ({ frames := 0, cells := 0, slots := 0, locals := 0 } : Room)) (fun a U => a = #[(.ref x1), (.ref x2)] ∧ Z.Warmed39 U.vm ∧ U.heap = h0) (fun _ _ _ _ _ => True) (fun _ U o U' => ∃ v L, o = .returned v ∧ Q_own_rnn Z x1 x2 h0 n0 v U'.heap L ∧ FrameEnd U o U' L ({ frames := 0, cells := 0, slots := 0, locals := 0 } : Room).cells ({ frames := 0, cells := 0, slots := 0, locals := 0 } : Room).slots) := by
  refine MetFree.of_bodySF (plainFor_of_name pn_java_util_Objects) hisR ?_
  intro p e s m args below meth c s₁ Bd hml0 hP hK
  obtain ⟨rfl, hZ, hh⟩ := hP
  have hx := Bd.exec
  have hby := Bd.bytes
  have hml : c.maxLocals = 2 := hml0
  have hown : s.vm.findClass "java/util/Objects" = some m.cls := findClass_of_methodNamed Bd.named
  have hnm := (name_of_methodNamed Bd.named Bd.method).1
  have X0 : Stand p l e ({ frames := 0, cells := 0, slots := 0, locals := 0 } : Room) s m #[(.ref x1), (.ref x2)] below meth c s₁ [] 0 0 := Stand.of_body Bd
  have e0 : s₁.heap = h0 := by rw [← hh, Bd.state]; rfl
  have N0 := Fr.nil n0
  have pre0 : ∀ t, Steps p.tables e below (s₁.setTop (mkF m 0 #[.val (.ref x1), .val (.ref x2)] [])) t → Steps p.tables e below (s₁.setTop (entryFrame m #[(.ref x1), (.ref x2)] 2)) t := fun t k => castTop (ef_own_rnn m) k
  obtain ⟨fs, hr, hrun, hended, hW, hsame⟩ := X0.leave (v := some (.ref x1)) (fun h => by rw [Bd.returns] at h; cases h)
  refine ⟨_, _, pre0 _ ?_, hrun, hended, _, _, rfl, ?_, ⟨_, rfl⟩, hW, hsame.mono (by decide) (by decide)⟩
  · show Steps p.tables e below (s₁.setTop (mkF m 0 #[.val (.ref x1), .val (.ref x2)] [])) _
    refine XS.aloadN X0.here hx rfl (hb hby d_jdk_31_method_11_code_0) rfl rfl ?_
    show Steps p.tables e below (s₁.setTop (mkF m 1 #[.val (.ref x1), .val (.ref x2)] [(.ref x1)])) _
    refine XS.ifnonnullYes X0.here hx rfl (pc0 := 1) (pc' := 13) rfl (hb hby d_jdk_31_method_11_code_1) rfl (by decide) (by decide) ?_
    show Steps p.tables e below (s₁.setTop (mkF m 13 #[.val (.ref x1), .val (.ref x2)] [])) _
    refine XS.aloadN X0.here hx rfl (hb hby d_jdk_31_method_11_code_13) rfl rfl ?_
    show Steps p.tables e below (s₁.setTop (mkF m 14 #[.val (.ref x1), .val (.ref x2)] [(.ref x1)])) _
    jvm_step X0.here [X0.here.top, hx, (hb hby d_jdk_31_method_11_code_14), X0.method', Bd.returns, Value.isRef, FieldType.isReference]
    first | (intro acts; rw [hr _ acts rfl rfl rfl]) | rw [hr _ _ rfl rfl rfl]
    exact Steps.refl _
  · show Q_own_rnn Z x1 x2 h0 n0 _ s₁.heap _
    rw [e0]
    exact ⟨rfl, N0, rfl⟩
theorem d_jdk_42_method_55_code_0 : decode jdk_42_method_55_code 0 = .ok (.aload_n 0, 1) := by decide +kernel
theorem d_jdk_42_method_55_code_1 : decode jdk_42_method_55_code 1 = .ok (.getfield 9, 3) := by decide +kernel
theorem d_jdk_42_method_55_code_4 : decode jdk_42_method_55_code 4 = .ok (.arraylength, 1) := by decide +kernel
theorem d_jdk_42_method_55_code_5 : decode jdk_42_method_55_code 5 = .ok (.ifCond .ne 7, 3) := by decide +kernel
theorem d_jdk_42_method_55_code_12 : decode jdk_42_method_55_code 12 = .ok (.iconst 0, 1) := by decide +kernel
theorem d_jdk_42_method_55_code_13 : decode jdk_42_method_55_code 13 = .ok (.ireturn, 1) := by decide +kernel
theorem ef_own_emp (m : MethodId) {sa : Addr} : entryFrame m #[(.ref sa)] 1 = mkF m 0 #[.val (.ref sa)] [] := by first | (simp [entryFrame, mkF, argsToLocals, Value.category]; done) | rfl
def Q_own_emp (Z : State) (sa sb : Addr) (kS : ClassId) (z : Int32) (us : List Value) (h0 : Heap) (n0 : Nat) (v : Option Value) (h : Heap) (L : List Loc) : Prop := v = some (.int (0 : Int32)) ∧ Fr n0 L ∧ h = h0
set_option maxRecDepth 65536 in
set_option maxHeartbeats 40000000 in
theorem own_emp (l : Launch) (Z : State) (a0 : Array Value) (hw : ∀ d ∈ tables_1, d.before a0 Z = true) (ws : List Jvm.Cond) (sa sb : Addr) (kS : ClassId) (z : Int32) (us : List Value) (h0 : Heap) (n0 : Nat) (Z0 : n0 ≤ h0.size) (ES : Exa Z h0 sa "java/lang/String") (VS : Fld Z h0 sa "java/lang/String" "value" "[B" (.ref sb)) (CS : Fld Z h0 sa "java/lang/String" "coder" "B" (.int (0 : Int32))) (KS : Arv Z h0 sb kS .byte z us (.int (0 : Int32))) (hz : ¬ z = (0 : Int32)) :
    MetFree l (⟨"java/lang/String", "isEmpty", "()Z"⟩ : MethodName) (head1 (Jvm.Cond.code (⟨"java/lang/String", "isEmpty", "()Z"⟩ : MethodName) jdk_42_method_55_code 1 (some .boolean) :: ws) ({ frames := 0, cells := 0, slots := 0, locals := 0 } : Room)) (fun a U => a = #[(.ref sa)] ∧ Z.Warmed39 U.vm ∧ U.heap = h0) (fun _ _ _ _ _ => True) (fun _ U o U' => ∃ v L, o = .returned v ∧ Q_own_emp Z sa sb kS z us h0 n0 v U'.heap L ∧ FrameEnd U o U' L ({ frames := 0, cells := 0, slots := 0, locals := 0 } : Room).cells ({ frames := 0, cells := 0, slots := 0, locals := 0 } : Room).slots) := by
  refine MetFree.of_bodySF (plainFor_of_name pn_java_lang_String) hisR ?_
  intro p e s m args below meth c s₁ Bd hml0 hP hK
  obtain ⟨rfl, hZ, hh⟩ := hP
  have hx := Bd.exec
  have hby := Bd.bytes
  have hml : c.maxLocals = 1 := hml0
  have hown : s.vm.findClass "java/lang/String" = some m.cls := findClass_of_methodNamed Bd.named
  have hnm := (name_of_methodNamed Bd.named Bd.method).1
  have X0 : Stand p l e ({ frames := 0, cells := 0, slots := 0, locals := 0 } : Room) s m #[(.ref sa)] below meth c s₁ [] 0 0 := Stand.of_body Bd
  have e0 : s₁.heap = h0 := by rw [← hh, Bd.state]; rfl
  have N0 := Fr.nil n0
  have pre0 : ∀ t, Steps p.tables e below (s₁.setTop (mkF m 0 #[.val (.ref sa)] [])) t → Steps p.tables e below (s₁.setTop (entryFrame m #[(.ref sa)] 1)) t := fun t k => castTop (ef_own_emp m) k
  obtain ⟨T1, X1, e1, st1⟩ := getF X0 hx hZ hown (host := "") (Or.inl (hw _ (List.mem_of_getElem? (i := 33) rfl))) Via.refl e0 VS (g := (mkF m 1 #[.val (.ref sa)] [(.ref sa)])) rfl rfl (hb hby d_jdk_42_method_55_code_1)
  have pre2 : ∀ t, Steps p.tables e below (T1.setTop (mkF m 4 #[.val (.ref sa)] [(.ref sb)])) t → Steps p.tables e below (s₁.setTop (entryFrame m #[(.ref sa)] 1)) t := by
    intro t kk
    refine pre0 t ?_
    show Steps p.tables e below (s₁.setTop (mkF m 0 #[.val (.ref sa)] [])) _
    refine XS.aloadN X0.here hx rfl (hb hby d_jdk_42_method_55_code_0) rfl rfl ?_
    show Steps p.tables e below (s₁.setTop (mkF m 1 #[.val (.ref sa)] [(.ref sa)])) _
    exact st1 _ kk
  obtain ⟨cl3, Ar3, q3, S3, M3, H3, G3⟩ := id KS
  obtain ⟨fs, hr, hrun, hended, hW, hsame⟩ := X1.leave (v := some (.int (0 : Int32))) (fun h => by rw [Bd.returns] at h; cases h)
  refine ⟨_, _, pre2 _ ?_, hrun, hended, _, _, rfl, ?_, ⟨_, rfl⟩, hW, hsame.mono (by decide) (by decide)⟩
  · show Steps p.tables e below (T1.setTop (mkF m 4 #[.val (.ref sa)] [(.ref sb)])) _
    refine X1.arraylength hx (by rw [e1]; exact Ar3.1) (State.isArrayOf_alike hZ.alike Ar3.2.1) (g := (mkF m 4 #[.val (.ref sa)] [(.ref sb)])) rfl rfl (hb hby d_jdk_42_method_55_code_4) _ ?_
    rw [len_of S3 M3]
    show Steps p.tables e below (T1.setTop (mkF m 5 #[.val (.ref sa)] [(.int z)])) _
    refine XS.ifYes X1.here hx rfl (pc0 := 5) (pc' := 12) rfl (hb hby d_jdk_42_method_55_code_5) rfl ((if0 _ _).trans (feq hz).2) (by decide) (by decide) ?_
    show Steps p.tables e below (T1.setTop (mkF m 12 #[.val (.ref sa)] [])) _
    refine XS.iconst X1.here hx rfl (hb hby d_jdk_42_method_55_code_12) ?_
    show Steps p.tables e below (T1.setTop (mkF m 13 #[.val (.ref sa)] [(.int (0 : Int32))])) _
    exact retN X1 hx (t := .boolean) Bd.returns (by simp) (hb hby d_jdk_42_method_55_code_13) hr
  · show Q_own_emp Z sa sb kS z us h0 n0 _ T1.heap _
    rw [e1]
    exact ⟨rfl, N0, rfl⟩
theorem pf_22 : plainFor (⟨"java/lang/Math", "max", "(II)I"⟩ : MethodName) = true := by decide +kernel
theorem d_jdk_29_method_65_code_0 : decode jdk_29_method_65_code 0 = .ok (.iload_n 0, 1) := by decide +kernel
theorem d_jdk_29_method_65_code_1 : decode jdk_29_method_65_code 1 = .ok (.iload_n 1, 1) := by decide +kernel
theorem d_jdk_29_method_65_code_2 : decode jdk_29_method_65_code 2 = .ok (.if_icmp .lt 7, 3) := by decide +kernel
theorem d_jdk_29_method_65_code_5 : decode jdk_29_method_65_code 5 = .ok (.iload_n 0, 1) := by decide +kernel
theorem d_jdk_29_method_65_code_6 : decode jdk_29_method_65_code 6 = .ok (.goto 4, 3) := by decide +kernel
theorem d_jdk_29_method_65_code_10 : decode jdk_29_method_65_code 10 = .ok (.ireturn, 1) := by decide +kernel
theorem ef_own_max (m : MethodId)  : entryFrame m #[(.int (0 : Int32)), (.int (0 : Int32))] 2 = mkF m 0 #[.val (.int (0 : Int32)), .val (.int (0 : Int32))] [] := by first | (simp [entryFrame, mkF, argsToLocals, Value.category]; done) | rfl
def Q_own_max (Z : State)  (h0 : Heap) (n0 : Nat) (v : Option Value) (h : Heap) (L : List Loc) : Prop := v = some (.int (0 : Int32)) ∧ Fr n0 L ∧ h = h0
set_option maxRecDepth 65536 in
set_option maxHeartbeats 40000000 in
theorem own_max (l : Launch) (Z : State) (a0 : Array Value) (hw : ∀ d ∈ tables_1, d.before a0 Z = true) (ws : List Jvm.Cond)  (h0 : Heap) (n0 : Nat) (Z0 : n0 ≤ h0.size)  :
    MetFree l (⟨"java/lang/Math", "max", "(II)I"⟩ : MethodName) (head1 (Jvm.Cond.code (⟨"java/lang/Math", "max", "(II)I"⟩ : MethodName) jdk_29_method_65_code 2 (some .int) :: ws) ({ frames := 0, cells := 0, slots := 0, locals := 0 } : Room)) (fun a U => a = #[(.int (0 : Int32)), (.int (0 : Int32))] ∧ Z.Warmed39 U.vm ∧ U.heap = h0) (fun _ _ _ _ _ => True) (fun _ U o U' => ∃ v L, o = .returned v ∧ Q_own_max Z  h0 n0 v U'.heap L ∧ FrameEnd U o U' L ({ frames := 0, cells := 0, slots := 0, locals := 0 } : Room).cells ({ frames := 0, cells := 0, slots := 0, locals := 0 } : Room).slots) := by
  refine MetFree.of_bodySF pf_22 hisR ?_
  intro p e s m args below meth c s₁ Bd hml0 hP hK
  obtain ⟨rfl, hZ, hh⟩ := hP
  have hx := Bd.exec
  have hby := Bd.bytes
  have hml : c.maxLocals = 2 := hml0
  have hown : s.vm.findClass "java/lang/Math" = some m.cls := findClass_of_methodNamed Bd.named
  have hnm := (name_of_methodNamed Bd.named Bd.method).1
  have X0 : Stand p l e ({ frames := 0, cells := 0, slots := 0, locals := 0 } : Room) s m #[(.int (0 : Int32)), (.int (0 : Int32))] below meth c s₁ [] 0 0 := Stand.of_body Bd
  have e0 : s₁.heap = h0 := by rw [← hh, Bd.state]; rfl
  have N0 := Fr.nil n0
  have pre0 : ∀ t, Steps p.tables e below (s₁.setTop (mkF m 0 #[.val (.int (0 : Int32)), .val (.int (0 : Int32))] [])) t → Steps p.tables e below (s₁.setTop (entryFrame m #[(.int (0 : Int32)), (.int (0 : Int32))] 2)) t := fun t k => castTop (ef_own_max m) k
  have hd1 : ¬ ((0 : Int32) < (0 : Int32)) := by decide
  obtain ⟨fs, hr, hrun, hended, hW, hsame⟩ := X0.leave (v := some (.int (0 : Int32))) (fun h => by rw [Bd.returns] at h; cases h)
  refine ⟨_, _, pre0 _ ?_, hrun, hended, _, _, rfl, ?_, ⟨_, rfl⟩, hW, hsame.mono (by decide) (by decide)⟩
  · show Steps p.tables e below (s₁.setTop (mkF m 0 #[.val (.int (0 : Int32)), .val (.int (0 : Int32))] [])) _
    refine XS.iloadN X0.here hx rfl (hb hby d_jdk_29_method_65_code_0) rfl ?_
    show Steps p.tables e below (s₁.setTop (mkF m 1 #[.val (.int (0 : Int32)), .val (.int (0 : Int32))] [(.int (0 : Int32))])) _
    refine XS.iloadN X0.here hx rfl (hb hby d_jdk_29_method_65_code_1) rfl ?_
    show Steps p.tables e below (s₁.setTop (mkF m 2 #[.val (.int (0 : Int32)), .val (.int (0 : Int32))] [(.int (0 : Int32)), (.int (0 : Int32))])) _
    refine XS.icmpNo X0.here hx rfl (hb hby d_jdk_29_method_65_code_2) rfl (flt hd1).1 ?_
    show Steps p.tables e below (s₁.setTop (mkF m 5 #[.val (.int (0 : Int32)), .val (.int (0 : Int32))] [])) _
    refine XS.iloadN X0.here hx rfl (hb hby d_jdk_29_method_65_code_5) rfl ?_
    show Steps p.tables e below (s₁.setTop (mkF m 6 #[.val (.int (0 : Int32)), .val (.int (0 : Int32))] [(.int (0 : Int32))])) _
    refine XS.goto X0.here hx rfl (pc0 := 6) (pc' := 10) rfl (hb hby d_jdk_29_method_65_code_6) (by decide) (by decide) ?_
    show Steps p.tables e below (s₁.setTop (mkF m 10 #[.val (.int (0 : Int32)), .val (.int (0 : Int32))] [(.int (0 : Int32))])) _
    exact retI X0 hx Bd.returns (hb hby d_jdk_29_method_65_code_10) hr
  · show Q_own_max Z  h0 n0 _ s₁.heap _
    rw [e0]
    exact ⟨rfl, N0, rfl⟩
theorem pf_23 : plainFor (⟨"java/lang/Math", "min", "(II)I"⟩ : MethodName) = true := by decide +kernel
theorem d_jdk_29_method_69_code_0 : decode jdk_29_method_69_code 0 = .ok (.iload_n 0, 1) := by decide +kernel
theorem d_jdk_29_method_69_code_1 : decode jdk_29_method_69_code 1 = .ok (.iload_n 1, 1) := by decide +kernel
theorem d_jdk_29_method_69_code_2 : decode jdk_29_method_69_code 2 = .ok (.if_icmp .gt 7, 3) := by decide +kernel
theorem d_jdk_29_method_69_code_5 : decode jdk_29_method_69_code 5 = .ok (.iload_n 0, 1) := by decide +kernel
theorem d_jdk_29_method_69_code_6 : decode jdk_29_method_69_code 6 = .ok (.goto 4, 3) := by decide +kernel
theorem d_jdk_29_method_69_code_10 : decode jdk_29_method_69_code 10 = .ok (.ireturn, 1) := by decide +kernel
theorem ef_own_min4 (m : MethodId)  : entryFrame m #[(.int (4 : Int32)), (.int (4 : Int32))] 2 = mkF m 0 #[.val (.int (4 : Int32)), .val (.int (4 : Int32))] [] := by first | (simp [entryFrame, mkF, argsToLocals, Value.category]; done) | rfl
def Q_own_min4 (Z : State)  (h0 : Heap) (n0 : Nat) (v : Option Value) (h : Heap) (L : List Loc) : Prop := v = some (.int (4 : Int32)) ∧ Fr n0 L ∧ h = h0
set_option maxRecDepth 65536 in
set_option maxHeartbeats 40000000 in
theorem own_min4 (l : Launch) (Z : State) (a0 : Array Value) (hw : ∀ d ∈ tables_1, d.before a0 Z = true) (ws : List Jvm.Cond)  (h0 : Heap) (n0 : Nat) (Z0 : n0 ≤ h0.size)  :
    MetFree l (⟨"java/lang/Math", "min", "(II)I"⟩ : MethodName) (head1 (Jvm.Cond.code (⟨"java/lang/Math", "min", "(II)I"⟩ : MethodName) jdk_29_method_69_code 2 (some .int) :: ws) ({ frames := 0, cells := 0, slots := 0, locals := 0 } : Room)) (fun a U => a = #[(.int (4 : Int32)), (.int (4 : Int32))] ∧ Z.Warmed39 U.vm ∧ U.heap = h0) (fun _ _ _ _ _ => True) (fun _ U o U' => ∃ v L, o = .returned v ∧ Q_own_min4 Z  h0 n0 v U'.heap L ∧ FrameEnd U o U' L ({ frames := 0, cells := 0, slots := 0, locals := 0 } : Room).cells ({ frames := 0, cells := 0, slots := 0, locals := 0 } : Room).slots) := by
  refine MetFree.of_bodySF pf_23 hisR ?_
  intro p e s m args below meth c s₁ Bd hml0 hP hK
  obtain ⟨rfl, hZ, hh⟩ := hP
  have hx := Bd.exec
  have hby := Bd.bytes
  have hml : c.maxLocals = 2 := hml0
  have hown : s.vm.findClass "java/lang/Math" = some m.cls := findClass_of_methodNamed Bd.named
  have hnm := (name_of_methodNamed Bd.named Bd.method).1
  have X0 : Stand p l e ({ frames := 0, cells := 0, slots := 0, locals := 0 } : Room) s m #[(.int (4 : Int32)), (.int (4 : Int32))] below meth c s₁ [] 0 0 := Stand.of_body Bd
  have e0 : s₁.heap = h0 := by rw [← hh, Bd.state]; rfl
  have N0 := Fr.nil n0
  have pre0 : ∀ t, Steps p.tables e below (s₁.setTop (mkF m 0 #[.val (.int (4 : Int32)), .val (.int (4 : Int32))] [])) t → Steps p.tables e below (s₁.setTop (entryFrame m #[(.int (4 : Int32)), (.int (4 : Int32))] 2)) t := fun t k => castTop (ef_own_min4 m) k
  have hd1 : ¬ ((4 : Int32) < (4 : Int32)) := by decide
  obtain ⟨fs, hr, hrun, hended, hW, hsame⟩ := X0.leave (v := some (.int (4 : Int32))) (fun h => by rw [Bd.returns] at h; cases h)
  refine ⟨_, _, pre0 _ ?_, hrun, hended, _, _, rfl, ?_, ⟨_, rfl⟩, hW, hsame.mono (by decide) (by decide)⟩
  · show Steps p.tables e below (s₁.setTop (mkF m 0 #[.val (.int (4 : Int32)), .val (.int (4 : Int32))] [])) _
    refine XS.iloadN X0.here hx rfl (hb hby d_jdk_29_method_69_code_0) rfl ?_
    show Steps p.tables e below (s₁.setTop (mkF m 1 #[.val (.int (4 : Int32)), .val (.int (4 : Int32))] [(.int (4 : Int32))])) _
    refine XS.iloadN X0.here hx rfl (hb hby d_jdk_29_method_69_code_1) rfl ?_
    show Steps p.tables e below (s₁.setTop (mkF m 2 #[.val (.int (4 : Int32)), .val (.int (4 : Int32))] [(.int (4 : Int32)), (.int (4 : Int32))])) _
    refine XS.icmpNo X0.here hx rfl (hb hby d_jdk_29_method_69_code_2) rfl (flt hd1).2.2.1 ?_
    show Steps p.tables e below (s₁.setTop (mkF m 5 #[.val (.int (4 : Int32)), .val (.int (4 : Int32))] [])) _
    refine XS.iloadN X0.here hx rfl (hb hby d_jdk_29_method_69_code_5) rfl ?_
    show Steps p.tables e below (s₁.setTop (mkF m 6 #[.val (.int (4 : Int32)), .val (.int (4 : Int32))] [(.int (4 : Int32))])) _
    refine XS.goto X0.here hx rfl (pc0 := 6) (pc' := 10) rfl (hb hby d_jdk_29_method_69_code_6) (by decide) (by decide) ?_
    show Steps p.tables e below (s₁.setTop (mkF m 10 #[.val (.int (4 : Int32)), .val (.int (4 : Int32))] [(.int (4 : Int32))])) _
    exact retI X0 hx Bd.returns (hb hby d_jdk_29_method_69_code_10) hr
  · show Q_own_min4 Z  h0 n0 _ s₁.heap _
    rw [e0]
    exact ⟨rfl, N0, rfl⟩
theorem pn_java_lang_StringLatin1 : plainName "java/lang/StringLatin1" = true := by first | (simp [plainName, overriddenIn]; done) | decide +kernel
theorem d_jdk_43_method_4_code_0 : decode jdk_43_method_4_code 0 = .ok (.iload_n 0, 1) := by decide +kernel
theorem d_jdk_43_method_4_code_1 : decode jdk_43_method_4_code 1 = .ok (.ifCond .lt 14, 3) := by decide +kernel
theorem d_jdk_43_method_4_code_4 : decode jdk_43_method_4_code 4 = .ok (.iload_n 0, 1) := by decide +kernel
theorem d_jdk_43_method_4_code_5 : decode jdk_43_method_4_code 5 = .ok (.sipush 255, 3) := by decide +kernel
theorem d_jdk_43_method_4_code_8 : decode jdk_43_method_4_code 8 = .ok (.if_icmp .gt 7, 3) := by decide +kernel
theorem d_jdk_43_method_4_code_11 : decode jdk_43_method_4_code 11 = .ok (.iconst 1, 1) := by decide +kernel
theorem d_jdk_43_method_4_code_12 : decode jdk_43_method_4_code 12 = .ok (.goto 4, 3) := by decide +kernel
theorem d_jdk_43_method_4_code_16 : decode jdk_43_method_4_code 16 = .ok (.ireturn, 1) := by decide +kernel
theorem ef_own_ce2 (m : MethodId) {ch : Int32} : entryFrame m #[(.int ch)] 1 = mkF m 0 #[.val (.int ch)] [] := by first | (simp [entryFrame, mkF, argsToLocals, Value.category]; done) | rfl
def Q_own_ce2 (Z : State) (ch : Int32) (h0 : Heap) (n0 : Nat) (v : Option Value) (h : Heap) (L : List Loc) : Prop := v = some (.int (1 : Int32)) ∧ Fr n0 L ∧ h = h0
set_option maxRecDepth 65536 in
set_option maxHeartbeats 40000000 in
theorem own_ce2 (l : Launch) (Z : State) (a0 : Array Value) (hw : ∀ d ∈ tables_1, d.before a0 Z = true) (ws : List Jvm.Cond) (ch : Int32) (h0 : Heap) (n0 : Nat) (Z0 : n0 ≤ h0.size) (h8 : ¬ ch < 0 ∧ ¬ (255 : Int32) < ch) :
    MetFree l (⟨"java/lang/StringLatin1", "canEncode", "(I)Z"⟩ : MethodName) (head1 (Jvm.Cond.code (⟨"java/lang/StringLatin1", "canEncode", "(I)Z"⟩ : MethodName) jdk_43_method_4_code 1 (some .boolean) :: ws) ({ frames := 0, cells := 0, slots := 0, locals := 0 } : Room)) (fun a U => a = #[(.int ch)] ∧ Z.Warmed39 U.vm ∧ U.heap = h0) (fun _ _ _ _ _ => True) (fun _ U o U' => ∃ v L, o = .returned v ∧ Q_own_ce2 Z ch h0 n0 v U'.heap L ∧ FrameEnd U o U' L ({ frames := 0, cells := 0, slots := 0, locals := 0 } : Room).cells ({ frames := 0, cells := 0, slots := 0, locals := 0 } : Room).slots) := by
  refine MetFree.of_bodySF (plainFor_of_name pn_java_lang_StringLatin1) hisR ?_
  intro p e s m args below meth c s₁ Bd hml0 hP hK
  obtain ⟨rfl, hZ, hh⟩ := hP
  have hx := Bd.exec
  have hby := Bd.bytes
  have hml : c.maxLocals = 1 := hml0
  have hown : s.vm.findClass "java/lang/StringLatin1" = some m.cls := findClass_of_methodNamed Bd.named
  have hnm := (name_of_methodNamed Bd.named Bd.method).1
  have X0 : Stand p l e ({ frames := 0, cells := 0, slots := 0, locals := 0 } : Room) s m #[(.int ch)] below meth c s₁ [] 0 0 := Stand.of_body Bd
  have e0 : s₁.heap = h0 := by rw [← hh, Bd.state]; rfl
  have N0 := Fr.nil n0
  have pre0 : ∀ t, Steps p.tables e below (s₁.setTop (mkF m 0 #[.val (.int ch)] [])) t → Steps p.tables e below (s₁.setTop (entryFrame m #[(.int ch)] 1)) t := fun t k => castTop (ef_own_ce2 m) k
  obtain ⟨fs, hr, hrun, hended, hW, hsame⟩ := X0.leave (v := some (.int (1 : Int32))) (fun h => by rw [Bd.returns] at h; cases h)
  refine ⟨_, _, pre0 _ ?_, hrun, hended, _, _, rfl, ?_, ⟨_, rfl⟩, hW, hsame.mono (by decide) (by decide)⟩
  · show Steps p.tables e below (s₁.setTop (mkF m 0 #[.val (.int ch)] [])) _
    refine XS.iloadN X0.here hx rfl (hb hby d_jdk_43_method_4_code_0) rfl ?_
    show Steps p.tables e below (s₁.setTop (mkF m 1 #[.val (.int ch)] [(.int ch)])) _
    refine XS.ifNo X0.here hx rfl (hb hby d_jdk_43_method_4_code_1) rfl ((if0 _ _).trans (flt h8.1).1) ?_
    show Steps p.tables e below (s₁.setTop (mkF m 4 #[.val (.int ch)] [])) _
    refine XS.iloadN X0.here hx rfl (hb hby d_jdk_43_method_4_code_4) rfl ?_
    show Steps p.tables e below (s₁.setTop (mkF m 5 #[.val (.int ch)] [(.int ch)])) _
    refine XS.sipush X0.here hx rfl (hb hby d_jdk_43_method_4_code_5) ?_
    show Steps p.tables e below (s₁.setTop (mkF m 8 #[.val (.int ch)] [(.int (255 : Int32)), (.int ch)])) _
    refine XS.icmpNo X0.here hx rfl (hb hby d_jdk_43_method_4_code_8) rfl (flt h8.2).2.2.1 ?_
    show Steps p.tables e below (s₁.setTop (mkF m 11 #[.val (.int ch)] [])) _
    refine XS.iconst X0.here hx rfl (hb hby d_jdk_43_method_4_code_11) ?_
    show Steps p.tables e below (s₁.setTop (mkF m 12 #[.val (.int ch)] [(.int (1 : Int32))])) _
    refine XS.goto X0.here hx rfl (pc0 := 12) (pc' := 16) rfl (hb hby d_jdk_43_method_4_code_12) (by decide) (by decide) ?_
    show Steps p.tables e below (s₁.setTop (mkF m 16 #[.val (.int ch)] [(.int (1 : Int32))])) _
    exact retN X0 hx (t := .boolean) Bd.returns (by simp) (hb hby d_jdk_43_method_4_code_16) hr
  · show Q_own_ce2 Z ch h0 n0 _ s₁.heap _
    rw [e0]
    exact ⟨rfl, N0, rfl⟩
theorem d_jdk_43_method_23_code_0 : decode jdk_43_method_23_code 0 = .ok (.iload_n 1, 1) := by decide +kernel
theorem d_jdk_43_method_23_code_1 : decode jdk_43_method_23_code 1 = .ok (.i2b, 1) := by decide +kernel
theorem d_jdk_43_method_23_code_2 : decode jdk_43_method_23_code 2 = .ok (.istore 4, 2) := by decide +kernel
theorem d_jdk_43_method_23_code_4 : decode jdk_43_method_23_code 4 = .ok (.iload_n 2, 1) := by decide +kernel
theorem d_jdk_43_method_23_code_5 : decode jdk_43_method_23_code 5 = .ok (.istore 5, 2) := by decide +kernel
theorem d_jdk_43_method_23_code_7 : decode jdk_43_method_23_code 7 = .ok (.iload 5, 2) := by decide +kernel
theorem d_jdk_43_method_23_code_9 : decode jdk_43_method_23_code 9 = .ok (.iload_n 3, 1) := by decide +kernel
theorem d_jdk_43_method_23_code_10 : decode jdk_43_method_23_code 10 = .ok (.if_icmp .ge 21, 3) := by decide +kernel
theorem d_jdk_43_method_23_code_13 : decode jdk_43_method_23_code 13 = .ok (.aload_n 0, 1) := by decide +kernel
theorem d_jdk_43_method_23_code_14 : decode jdk_43_method_23_code 14 = .ok (.iload 5, 2) := by decide +kernel
theorem d_jdk_43_method_23_code_16 : decode jdk_43_method_23_code 16 = .ok (.baload, 1) := by decide +kernel
theorem d_jdk_43_method_23_code_17 : decode jdk_43_method_23_code 17 = .ok (.iload 4, 2) := by decide +kernel
theorem d_jdk_43_method_23_code_19 : decode jdk_43_method_23_code 19 = .ok (.if_icmp .ne 6, 3) := by decide +kernel
theorem d_jdk_43_method_23_code_22 : decode jdk_43_method_23_code 22 = .ok (.iload 5, 2) := by decide +kernel
theorem d_jdk_43_method_23_code_24 : decode jdk_43_method_23_code 24 = .ok (.ireturn, 1) := by decide +kernel
theorem d_jdk_43_method_23_code_25 : decode jdk_43_method_23_code 25 = .ok (.iinc 5 1, 3) := by decide +kernel
theorem d_jdk_43_method_23_code_28 : decode jdk_43_method_23_code 28 = .ok (.goto (-21), 3) := by decide +kernel
theorem ef_own_ioc (m : MethodId) {sb : Addr} {ch : Int32} : entryFrame m #[(.ref sb), (.int ch), (.int (0 : Int32)), (.int (4 : Int32))] 6 = mkF m 0 #[.val (.ref sb), .val (.int ch), .val (.int (0 : Int32)), .val (.int (4 : Int32)), .unset, .unset] [] := by first | (simp [entryFrame, mkF, argsToLocals, Value.category]; done) | rfl
def Q_own_ioc (Z : State) (sb : Addr) (kS : ClassId) (ch : Int32) (h0 : Heap) (n0 : Nat) (v : Option Value) (h : Heap) (L : List Loc) : Prop := ∃ r : Int32, v = some (.int r) ∧ Fr n0 L ∧ h = h0 ∧ ¬ r < 0
set_option maxRecDepth 65536 in
set_option maxHeartbeats 40000000 in
theorem own_ioc (l : Launch) (Z : State) (a0 : Array Value) (hw : ∀ d ∈ tables_1, d.before a0 Z = true) (ws : List Jvm.Cond) (sb : Addr) (kS : ClassId) (ch : Int32) (h0 : Heap) (n0 : Nat) (Z0 : n0 ≤ h0.size) (KS : Arv Z h0 sb kS .byte (4 : Int32) [(.int (46 : Int32)), (.int (95 : Int32)), (.int (126 : Int32)), (.int (45 : Int32))] (.int (0 : Int32))) (hsp : own_sp ch) :
    MetFree l (⟨"java/lang/StringLatin1", "indexOfChar", "([BIII)I"⟩ : MethodName) (head1 (Jvm.Cond.code (⟨"java/lang/StringLatin1", "indexOfChar", "([BIII)I"⟩ : MethodName) jdk_43_method_23_code 6 (some .int) :: ws) ({ frames := 0, cells := 0, slots := 0, locals := 0 } : Room)) (fun a U => a = #[(.ref sb), (.int ch), (.int (0 : Int32)), (.int (4 : Int32))] ∧ Z.Warmed39 U.vm ∧ U.heap = h0) (fun _ _ _ _ _ => True) (fun _ U o U' => ∃ v L, o = .returned v ∧ Q_own_ioc Z sb kS ch h0 n0 v U'.heap L ∧ FrameEnd U o U' L ({ frames := 0, cells := 0, slots := 0, locals := 0 } : Room).cells ({ frames := 0, cells := 0, slots := 0, locals := 0 } : Room).slots) := by
  refine MetFree.of_bodySF (plainFor_of_name pn_java_lang_StringLatin1) hisR ?_
  intro p e s m args below meth c s₁ Bd hml0 hP hK
  obtain ⟨rfl, hZ, hh⟩ := hP
  have hx := Bd.exec
  have hby := Bd.bytes
  have hml : c.maxLocals = 6 := hml0
  have hown : s.vm.findClass "java/lang/StringLatin1" = some m.cls := findClass_of_methodNamed Bd.named
  have hnm := (name_of_methodNamed Bd.named Bd.method).1
  have X0 : Stand p l e ({ frames := 0, cells := 0, slots := 0, locals := 0 } : Room) s m #[(.ref sb), (.int ch), (.int (0 : Int32)), (.int (4 : Int32))] below meth c s₁ [] 0 0 := Stand.of_body Bd
  have e0 : s₁.heap = h0 := by rw [← hh, Bd.state]; rfl
  have N0 := Fr.nil n0
  have pre0 : ∀ t, Steps p.tables e below (s₁.setTop (mkF m 0 #[.val (.ref sb), .val (.int ch), .val (.int (0 : Int32)), .val (.int (4 : Int32)), .unset, .unset] [])) t → Steps p.tables e below (s₁.setTop (entryFrame m #[(.ref sb), (.int ch), (.int (0 : Int32)), (.int (4 : Int32))] 6)) t := fun t k => castTop (ef_own_ioc m) k
  have pre1 : ∀ t, Steps p.tables e below (s₁.setTop (mkF m 2 #[.val (.ref sb), .val (.int ch), .val (.int (0 : Int32)), .val (.int (4 : Int32)), .unset, .unset] [(.int (ch.toInt8.toInt32))])) t → Steps p.tables e below (s₁.setTop (entryFrame m #[(.ref sb), (.int ch), (.int (0 : Int32)), (.int (4 : Int32))] 6)) t := by
    intro t kk
    refine pre0 t ?_
    show Steps p.tables e below (s₁.setTop (mkF m 0 #[.val (.ref sb), .val (.int ch), .val (.int (0 : Int32)), .val (.int (4 : Int32)), .unset, .unset] [])) _
    refine XS.iloadN X0.here hx rfl (hb hby d_jdk_43_method_23_code_0) rfl ?_
    show Steps p.tables e below (s₁.setTop (mkF m 1 #[.val (.ref sb), .val (.int ch), .val (.int (0 : Int32)), .val (.int (4 : Int32)), .unset, .unset] [(.int ch)])) _
    refine XS.i2b X0.here hx rfl (hb hby d_jdk_43_method_23_code_1) rfl ?_
    exact kk
  rcases hsp with rfl | rfl | rfl | rfl
  · skip
    have hd2 : (0 : Int32) < (4 : Int32) := by decide
    obtain ⟨cl3, Ar3, q3, S3, M3, H3, G3⟩ := id KS
    have hin4 : ¬ ((0 : Int32) < 0 ∨ cl3.slots.size ≤ ((0 : Int32)).toNatClampNeg) := inb_of S3 ⟨by decide, by decide⟩
    have hat4 : cl3.slots[((0 : Int32)).toNatClampNeg]? = some (.int (46 : Int32)) := Has.at H3 (inb_of S3 ⟨by decide, by decide⟩) rfl
    have hd5 : (46 : Int32) = ((46 : Int32).toInt8.toInt32) := by decide
    obtain ⟨fs, hr, hrun, hended, hW, hsame⟩ := X0.leave (v := some (.int (0 : Int32))) (fun h => by rw [Bd.returns] at h; cases h)
    refine ⟨_, _, pre1 _ ?_, hrun, hended, _, _, rfl, ?_, ⟨_, rfl⟩, hW, hsame.mono (by decide) (by decide)⟩
    · show Steps p.tables e below (s₁.setTop (mkF m 2 #[.val (.ref sb), .val (.int (46 : Int32)), .val (.int (0 : Int32)), .val (.int (4 : Int32)), .unset, .unset] [(.int ((46 : Int32).toInt8.toInt32))])) _
      refine XS.istore X0.here hx rfl (hb hby d_jdk_43_method_23_code_2) rfl (l' := #[.val (.ref sb), .val (.int (46 : Int32)), .val (.int (0 : Int32)), .val (.int (4 : Int32)), .val (.int ((46 : Int32).toInt8.toInt32)), .unset]) rfl ?_
      show Steps p.tables e below (s₁.setTop (mkF m 4 #[.val (.ref sb), .val (.int (46 : Int32)), .val (.int (0 : Int32)), .val (.int (4 : Int32)), .val (.int ((46 : Int32).toInt8.toInt32)), .unset] [])) _
      refine XS.iloadN X0.here hx rfl (hb hby d_jdk_43_method_23_code_4) rfl ?_
      show Steps p.tables e below (s₁.setTop (mkF m 5 #[.val (.ref sb), .val (.int (46 : Int32)), .val (.int (0 : Int32)), .val (.int (4 : Int32)), .val (.int ((46 : Int32).toInt8.toInt32)), .unset] [(.int (0 : Int32))])) _
      refine XS.istore X0.here hx rfl (hb hby d_jdk_43_method_23_code_5) rfl (l' := #[.val (.ref sb), .val (.int (46 : Int32)), .val (.int (0 : Int32)), .val (.int (4 : Int32)), .val (.int ((46 : Int32).toInt8.toInt32)), .val (.int (0 : Int32))]) rfl ?_
      show Steps p.tables e below (s₁.setTop (mkF m 7 #[.val (.ref sb), .val (.int (46 : Int32)), .val (.int (0 : Int32)), .val (.int (4 : Int32)), .val (.int ((46 : Int32).toInt8.toInt32)), .val (.int (0 : Int32))] [])) _
      refine XS.iload X0.here hx rfl (hb hby d_jdk_43_method_23_code_7) rfl ?_
      show Steps p.tables e below (s₁.setTop (mkF m 9 #[.val (.ref sb), .val (.int (46 : Int32)), .val (.int (0 : Int32)), .val (.int (4 : Int32)), .val (.int ((46 : Int32).toInt8.toInt32)), .val (.int (0 : Int32))] [(.int (0 : Int32))])) _
      refine XS.iloadN X0.here hx rfl (hb hby d_jdk_43_method_23_code_9) rfl ?_
      show Steps p.tables e below (s₁.setTop (mkF m 10 #[.val (.ref sb), .val (.int (46 : Int32)), .val (.int (0 : Int32)), .val (.int (4 : Int32)), .val (.int ((46 : Int32).toInt8.toInt32)), .val (.int (0 : Int32))] [(.int (4 : Int32)), (.int (0 : Int32))])) _
      refine XS.icmpNo X0.here hx rfl (hb hby d_jdk_43_method_23_code_10) rfl (tlt hd2).2.1 ?_
      show Steps p.tables e below (s₁.setTop (mkF m 13 #[.val (.ref sb), .val (.int (46 : Int32)), .val (.int (0 : Int32)), .val (.int (4 : Int32)), .val (.int ((46 : Int32).toInt8.toInt32)), .val (.int (0 : Int32))] [])) _
      refine XS.aloadN X0.here hx rfl (hb hby d_jdk_43_method_23_code_13) rfl rfl ?_
      show Steps p.tables e below (s₁.setTop (mkF m 14 #[.val (.ref sb), .val (.int (46 : Int32)), .val (.int (0 : Int32)), .val (.int (4 : Int32)), .val (.int ((46 : Int32).toInt8.toInt32)), .val (.int (0 : Int32))] [(.ref sb)])) _
      refine XS.iload X0.here hx rfl (hb hby d_jdk_43_method_23_code_14) rfl ?_
      show Steps p.tables e below (s₁.setTop (mkF m 16 #[.val (.ref sb), .val (.int (46 : Int32)), .val (.int (0 : Int32)), .val (.int (4 : Int32)), .val (.int ((46 : Int32).toInt8.toInt32)), .val (.int (0 : Int32))] [(.int (0 : Int32)), (.ref sb)])) _
      refine X0.baloadBytes hx (j := (0 : Int32)) (v := (.int (46 : Int32))) (by rw [e0]; exact Ar3.1) (State.isArrayOf_alike hZ.alike Ar3.2.1) Ar3.2.2 hin4 hat4 (g := (mkF m 16 #[.val (.ref sb), .val (.int (46 : Int32)), .val (.int (0 : Int32)), .val (.int (4 : Int32)), .val (.int ((46 : Int32).toInt8.toInt32)), .val (.int (0 : Int32))] [(.int (0 : Int32)), (.ref sb)])) rfl rfl (hb hby d_jdk_43_method_23_code_16) _ ?_
      show Steps p.tables e below (s₁.setTop (mkF m 17 #[.val (.ref sb), .val (.int (46 : Int32)), .val (.int (0 : Int32)), .val (.int (4 : Int32)), .val (.int ((46 : Int32).toInt8.toInt32)), .val (.int (0 : Int32))] [(.int (46 : Int32))])) _
      refine XS.iload X0.here hx rfl (hb hby d_jdk_43_method_23_code_17) rfl ?_
      show Steps p.tables e below (s₁.setTop (mkF m 19 #[.val (.ref sb), .val (.int (46 : Int32)), .val (.int (0 : Int32)), .val (.int (4 : Int32)), .val (.int ((46 : Int32).toInt8.toInt32)), .val (.int (0 : Int32))] [(.int ((46 : Int32).toInt8.toInt32)), (.int (46 : Int32))])) _
      refine XS.icmpNo X0.here hx rfl (hb hby d_jdk_43_method_23_code_19) rfl (teq hd5).2 ?_
      show Steps p.tables e below (s₁.setTop (mkF m 22 #[.val (.ref sb), .val (.int (46 : Int32)), .val (.int (0 : Int32)), .val (.int (4 : Int32)), .val (.int ((46 : Int32).toInt8.toInt32)), .val (.int (0 : Int32))] [])) _
      refine XS.iload X0.here hx rfl (hb hby d_jdk_43_method_23_code_22) rfl ?_
      show Steps p.tables e below (s₁.setTop (mkF m 24 #[.val (.ref sb), .val (.int (46 : Int32)), .val (.int (0 : Int32)), .val (.int (4 : Int32)), .val (.int ((46 : Int32).toInt8.toInt32)), .val (.int (0 : Int32))] [(.int (0 : Int32))])) _
      exact retI X0 hx Bd.returns (hb hby d_jdk_43_method_23_code_24) hr
    · show Q_own_ioc Z sb kS (46 : Int32) h0 n0 _ s₁.heap _
      rw [e0]
      exact ⟨_, rfl, N0, rfl, by decide⟩
  · skip
    have hd6 : (0 : Int32) < (4 : Int32) := by decide
    obtain ⟨cl7, Ar7, q7, S7, M7, H7, G7⟩ := id KS
    have hin8 : ¬ ((0 : Int32) < 0 ∨ cl7.slots.size ≤ ((0 : Int32)).toNatClampNeg) := inb_of S7 ⟨by decide, by decide⟩
    have hat8 : cl7.slots[((0 : Int32)).toNatClampNeg]? = some (.int (46 : Int32)) := Has.at H7 (inb_of S7 ⟨by decide, by decide⟩) rfl
    have hd9 : ¬ ((46 : Int32) = ((95 : Int32).toInt8.toInt32)) := by decide
    have hd10 : ((0 : Int32) + (1 : Int32)) < (4 : Int32) := by decide
    obtain ⟨cl11, Ar11, q11, S11, M11, H11, G11⟩ := id KS
    have hin12 : ¬ (((0 : Int32) + (1 : Int32)) < 0 ∨ cl11.slots.size ≤ (((0 : Int32) + (1 : Int32))).toNatClampNeg) := inb_of S11 ⟨by decide, by decide⟩
    have hat12 : cl11.slots[(((0 : Int32) + (1 : Int32))).toNatClampNeg]? = some (.int (95 : Int32)) := Has.at H11 (inb_of S11 ⟨by decide, by decide⟩) rfl
    have hd13 : (95 : Int32) = ((95 : Int32).toInt8.toInt32) := by decide
    obtain ⟨fs, hr, hrun, hended, hW, hsame⟩ := X0.leave (v := some (.int ((0 : Int32) + (1 : Int32)))) (fun h => by rw [Bd.returns] at h; cases h)
    refine ⟨_, _, pre1 _ ?_, hrun, hended, _, _, rfl, ?_, ⟨_, rfl⟩, hW, hsame.mono (by decide) (by decide)⟩
    · show Steps p.tables e below (s₁.setTop (mkF m 2 #[.val (.ref sb), .val (.int (95 : Int32)), .val (.int (0 : Int32)), .val (.int (4 : Int32)), .unset, .unset] [(.int ((95 : Int32).toInt8.toInt32))])) _
      refine XS.istore X0.here hx rfl (hb hby d_jdk_43_method_23_code_2) rfl (l' := #[.val (.ref sb), .val (.int (95 : Int32)), .val (.int (0 : Int32)), .val (.int (4 : Int32)), .val (.int ((95 : Int32).toInt8.toInt32)), .unset]) rfl ?_
      show Steps p.tables e below (s₁.setTop (mkF m 4 #[.val (.ref sb), .val (.int (95 : Int32)), .val (.int (0 : Int32)), .val (.int (4 : Int32)), .val (.int ((95 : Int32).toInt8.toInt32)), .unset] [])) _
      refine XS.iloadN X0.here hx rfl (hb hby d_jdk_43_method_23_code_4) rfl ?_
      show Steps p.tables e below (s₁.setTop (mkF m 5 #[.val (.ref sb), .val (.int (95 : Int32)), .val (.int (0 : Int32)), .val (.int (4 : Int32)), .val (.int ((95 : Int32).toInt8.toInt32)), .unset] [(.int (0 : Int32))])) _
      refine XS.istore X0.here hx rfl (hb hby d_jdk_43_method_23_code_5) rfl (l' := #[.val (.ref sb), .val (.int (95 : Int32)), .val (.int (0 : Int32)), .val (.int (4 : Int32)), .val (.int ((95 : Int32).toInt8.toInt32)), .val (.int (0 : Int32))]) rfl ?_
      show Steps p.tables e below (s₁.setTop (mkF m 7 #[.val (.ref sb), .val (.int (95 : Int32)), .val (.int (0 : Int32)), .val (.int (4 : Int32)), .val (.int ((95 : Int32).toInt8.toInt32)), .val (.int (0 : Int32))] [])) _
      refine XS.iload X0.here hx rfl (hb hby d_jdk_43_method_23_code_7) rfl ?_
      show Steps p.tables e below (s₁.setTop (mkF m 9 #[.val (.ref sb), .val (.int (95 : Int32)), .val (.int (0 : Int32)), .val (.int (4 : Int32)), .val (.int ((95 : Int32).toInt8.toInt32)), .val (.int (0 : Int32))] [(.int (0 : Int32))])) _
      refine XS.iloadN X0.here hx rfl (hb hby d_jdk_43_method_23_code_9) rfl ?_
      show Steps p.tables e below (s₁.setTop (mkF m 10 #[.val (.ref sb), .val (.int (95 : Int32)), .val (.int (0 : Int32)), .val (.int (4 : Int32)), .val (.int ((95 : Int32).toInt8.toInt32)), .val (.int (0 : Int32))] [(.int (4 : Int32)), (.int (0 : Int32))])) _
      refine XS.icmpNo X0.here hx rfl (hb hby d_jdk_43_method_23_code_10) rfl (tlt hd6).2.1 ?_
      show Steps p.tables e below (s₁.setTop (mkF m 13 #[.val (.ref sb), .val (.int (95 : Int32)), .val (.int (0 : Int32)), .val (.int (4 : Int32)), .val (.int ((95 : Int32).toInt8.toInt32)), .val (.int (0 : Int32))] [])) _
      refine XS.aloadN X0.here hx rfl (hb hby d_jdk_43_method_23_code_13) rfl rfl ?_
      show Steps p.tables e below (s₁.setTop (mkF m 14 #[.val (.ref sb), .val (.int (95 : Int32)), .val (.int (0 : Int32)), .val (.int (4 : Int32)), .val (.int ((95 : Int32).toInt8.toInt32)), .val (.int (0 : Int32))] [(.ref sb)])) _
      refine XS.iload X0.here hx rfl (hb hby d_jdk_43_method_23_code_14) rfl ?_
      show Steps p.tables e below (s₁.setTop (mkF m 16 #[.val (.ref sb), .val (.int (95 : Int32)), .val (.int (0 : Int32)), .val (.int (4 : Int32)), .val (.int ((95 : Int32).toInt8.toInt32)), .val (.int (0 : Int32))] [(.int (0 : Int32)), (.ref sb)])) _
      refine X0.baloadBytes hx (j := (0 : Int32)) (v := (.int (46 : Int32))) (by rw [e0]; exact Ar7.1) (State.isArrayOf_alike hZ.alike Ar7.2.1) Ar7.2.2 hin8 hat8 (g := (mkF m 16 #[.val (.ref sb), .val (.int (95 : Int32)), .val (.int (0 : Int32)), .val (.int (4 : Int32)), .val (.int ((95 : Int32).toInt8.toInt32)), .val (.int (0 : Int32))] [(.int (0 : Int32)), (.ref sb)])) rfl rfl (hb hby d_jdk_43_method_23_code_16) _ ?_
      show Steps p.tables e below (s₁.setTop (mkF m 17 #[.val (.ref sb), .val (.int (95 : Int32)), .val (.int (0 : Int32)), .val (.int (4 : Int32)), .val (.int ((95 : Int32).toInt8.toInt32)), .val (.int (0 : Int32))] [(.int (46 : Int32))])) _
      refine XS.iload X0.here hx rfl (hb hby d_jdk_43_method_23_code_17) rfl ?_
      show Steps p.tables e below (s₁.setTop (mkF m 19 #[.val (.ref sb), .val (.int (95 : Int32)), .val (.int (0 : Int32)), .val (.int (4 : Int32)), .val (.int ((95 : Int32).toInt8.toInt32)), .val (.int (0 : Int32))] [(.int ((95 : Int32).toInt8.toInt32)), (.int (46 : Int32))])) _
      refine XS.icmpYes X0.here hx rfl (pc0 := 19) (pc' := 25) rfl (hb hby d_jdk_43_method_23_code_19) rfl (feq hd9).2 (by decide) (by decide) ?_
      show Steps p.tables e below (s₁.setTop (mkF m 25 #[.val (.ref sb), .val (.int (95 : Int32)), .val (.int (0 : Int32)), .val (.int (4 : Int32)), .val (.int ((95 : Int32).toInt8.toInt32)), .val (.int (0 : Int32))] [])) _
      refine XS.iinc X0.here hx rfl (hb hby d_jdk_43_method_23_code_25) rfl (l' := #[.val (.ref sb), .val (.int (95 : Int32)), .val (.int (0 : Int32)), .val (.int (4 : Int32)), .val (.int ((95 : Int32).toInt8.toInt32)), .val (.int ((0 : Int32) + (1 : Int32)))]) rfl ?_
      show Steps p.tables e below (s₁.setTop (mkF m 28 #[.val (.ref sb), .val (.int (95 : Int32)), .val (.int (0 : Int32)), .val (.int (4 : Int32)), .val (.int ((95 : Int32).toInt8.toInt32)), .val (.int ((0 : Int32) + (1 : Int32)))] [])) _
      refine XS.goto X0.here hx rfl (pc0 := 28) (pc' := 7) rfl (hb hby d_jdk_43_method_23_code_28) (by decide) (by decide) ?_
      show Steps p.tables e below (s₁.setTop (mkF m 7 #[.val (.ref sb), .val (.int (95 : Int32)), .val (.int (0 : Int32)), .val (.int (4 : Int32)), .val (.int ((95 : Int32).toInt8.toInt32)), .val (.int ((0 : Int32) + (1 : Int32)))] [])) _
      refine XS.iload X0.here hx rfl (hb hby d_jdk_43_method_23_code_7) rfl ?_
      show Steps p.tables e below (s₁.setTop (mkF m 9 #[.val (.ref sb), .val (.int (95 : Int32)), .val (.int (0 : Int32)), .val (.int (4 : Int32)), .val (.int ((95 : Int32).toInt8.toInt32)), .val (.int ((0 : Int32) + (1 : Int32)))] [(.int ((0 : Int32) + (1 : Int32)))])) _
      refine XS.iloadN X0.here hx rfl (hb hby d_jdk_43_method_23_code_9) rfl ?_
      show Steps p.tables e below (s₁.setTop (mkF m 10 #[.val (.ref sb), .val (.int (95 : Int32)), .val (.int (0 : Int32)), .val (.int (4 : Int32)), .val (.int ((95 : Int32).toInt8.toInt32)), .val (.int ((0 : Int32) + (1 : Int32)))] [(.int (4 : Int32)), (.int ((0 : Int32) + (1 : Int32)))])) _
      refine XS.icmpNo X0.here hx rfl (hb hby d_jdk_43_method_23_code_10) rfl (tlt hd10).2.1 ?_
      show Steps p.tables e below (s₁.setTop (mkF m 13 #[.val (.ref sb), .val (.int (95 : Int32)), .val (.int (0 : Int32)), .val (.int (4 : Int32)), .val (.int ((95 : Int32).toInt8.toInt32)), .val (.int ((0 : Int32) + (1 : Int32)))] [])) _
      refine XS.aloadN X0.here hx rfl (hb hby d_jdk_43_method_23_code_13) rfl rfl ?_
      show Steps p.tables e below (s₁.setTop (mkF m 14 #[.val (.ref sb), .val (.int (95 : Int32)), .val (.int (0 : Int32)), .val (.int (4 : Int32)), .val (.int ((95 : Int32).toInt8.toInt32)), .val (.int ((0 : Int32) + (1 : Int32)))] [(.ref sb)])) _
      refine XS.iload X0.here hx rfl (hb hby d_jdk_43_method_23_code_14) rfl ?_
      show Steps p.tables e below (s₁.setTop (mkF m 16 #[.val (.ref sb), .val (.int (95 : Int32)), .val (.int (0 : Int32)), .val (.int (4 : Int32)), .val (.int ((95 : Int32).toInt8.toInt32)), .val (.int ((0 : Int32) + (1 : Int32)))] [(.int ((0 : Int32) + (1 : Int32))), (.ref sb)])) _
      refine X0.baloadBytes hx (j := ((0 : Int32) + (1 : Int32))) (v := (.int (95 : Int32))) (by rw [e0]; exact Ar11.1) (State.isArrayOf_alike hZ.alike Ar11.2.1) Ar11.2.2 hin12 hat12 (g := (mkF m 16 #[.val (.ref sb), .val (.int (95 : Int32)), .val (.int (0 : Int32)), .val (.int (4 : Int32)), .val (.int ((95 : Int32).toInt8.toInt32)), .val (.int ((0 : Int32) + (1 : Int32)))] [(.int ((0 : Int32) + (1 : Int32))), (.ref sb)])) rfl rfl (hb hby d_jdk_43_method_23_code_16) _ ?_
      show Steps p.tables e below (s₁.setTop (mkF m 17 #[.val (.ref sb), .val (.int (95 : Int32)), .val (.int (0 : Int32)), .val (.int (4 : Int32)), .val (.int ((95 : Int32).toInt8.toInt32)), .val (.int ((0 : Int32) + (1 : Int32)))] [(.int (95 : Int32))])) _
      refine XS.iload X0.here hx rfl (hb hby d_jdk_43_method_23_code_17) rfl ?_
      show Steps p.tables e below (s₁.setTop (mkF m 19 #[.val (.ref sb), .val (.int (95 : Int32)), .val (.int (0 : Int32)), .val (.int (4 : Int32)), .val (.int ((95 : Int32).toInt8.toInt32)), .val (.int ((0 : Int32) + (1 : Int32)))] [(.int ((95 : Int32).toInt8.toInt32)), (.int (95 : Int32))])) _
      refine XS.icmpNo X0.here hx rfl (hb hby d_jdk_43_method_23_code_19) rfl (teq hd13).2 ?_
      show Steps p.tables e below (s₁.setTop (mkF m 22 #[.val (.ref sb), .val (.int (95 : Int32)), .val (.int (0 : Int32)), .val (.int (4 : Int32)), .val (.int ((95 : Int32).toInt8.toInt32)), .val (.int ((0 : Int32) + (1 : Int32)))] [])) _
      refine XS.iload X0.here hx rfl (hb hby d_jdk_43_method_23_code_22) rfl ?_
      show Steps p.tables e below (s₁.setTop (mkF m 24 #[.val (.ref sb), .val (.int (95 : Int32)), .val (.int (0 : Int32)), .val (.int (4 : Int32)), .val (.int ((95 : Int32).toInt8.toInt32)), .val (.int ((0 : Int32) + (1 : Int32)))] [(.int ((0 : Int32) + (1 : Int32)))])) _
      exact retI X0 hx Bd.returns (hb hby d_jdk_43_method_23_code_24) hr
    · show Q_own_ioc Z sb kS (95 : Int32) h0 n0 _ s₁.heap _
      rw [e0]
      exact ⟨_, rfl, N0, rfl, by decide⟩
  · skip
    have hd14 : (0 : Int32) < (4 : Int32) := by decide
    obtain ⟨cl15, Ar15, q15, S15, M15, H15, G15⟩ := id KS
    have hin16 : ¬ ((0 : Int32) < 0 ∨ cl15.slots.size ≤ ((0 : Int32)).toNatClampNeg) := inb_of S15 ⟨by decide, by decide⟩
    have hat16 : cl15.slots[((0 : Int32)).toNatClampNeg]? = some (.int (46 : Int32)) := Has.at H15 (inb_of S15 ⟨by decide, by decide⟩) rfl
    have hd17 : ¬ ((46 : Int32) = ((126 : Int32).toInt8.toInt32)) := by decide
    have hd18 : ((0 : Int32) + (1 : Int32)) < (4 : Int32) := by decide
    obtain ⟨cl19, Ar19, q19, S19, M19, H19, G19⟩ := id KS
    have hin20 : ¬ (((0 : Int32) + (1 : Int32)) < 0 ∨ cl19.slots.size ≤ (((0 : Int32) + (1 : Int32))).toNatClampNeg) := inb_of S19 ⟨by decide, by decide⟩
    have hat20 : cl19.slots[(((0 : Int32) + (1 : Int32))).toNatClampNeg]? = some (.int (95 : Int32)) := Has.at H19 (inb_of S19 ⟨by decide, by decide⟩) rfl
    have hd21 : ¬ ((95 : Int32) = ((126 : Int32).toInt8.toInt32)) := by decide
    have hd22 : (((0 : Int32) + (1 : Int32)) + (1 : Int32)) < (4 : Int32) := by decide
    obtain ⟨cl23, Ar23, q23, S23, M23, H23, G23⟩ := id KS
    have hin24 : ¬ ((((0 : Int32) + (1 : Int32)) + (1 : Int32)) < 0 ∨ cl23.slots.size ≤ ((((0 : Int32) + (1 : Int32)) + (1 : Int32))).toNatClampNeg) := inb_of S23 ⟨by decide, by decide⟩
    have hat24 : cl23.slots[((((0 : Int32) + (1 : Int32)) + (1 : Int32))).toNatClampNeg]? = some (.int (126 : Int32)) := Has.at H23 (inb_of S23 ⟨by decide, by decide⟩) rfl
    have hd25 : (126 : Int32) = ((126 : Int32).toInt8.toInt32) := by decide
    obtain ⟨fs, hr, hrun, hended, hW, hsame⟩ := X0.leave (v := some (.int (((0 : Int32) + (1 : Int32)) + (1 : Int32)))) (fun h => by rw [Bd.returns] at h; cases h)
    refine ⟨_, _, pre1 _ ?_, hrun, hended, _, _, rfl, ?_, ⟨_, rfl⟩, hW, hsame.mono (by decide) (by decide)⟩
    · show Steps p.tables e below (s₁.setTop (mkF m 2 #[.val (.ref sb), .val (.int (126 : Int32)), .val (.int (0 : Int32)), .val (.int (4 : Int32)), .unset, .unset] [(.int ((126 : Int32).toInt8.toInt32))])) _
      refine XS.istore X0.here hx rfl (hb hby d_jdk_43_method_23_code_2) rfl (l' := #[.val (.ref sb), .val (.int (126 : Int32)), .val (.int (0 : Int32)), .val (.int (4 : Int32)), .val (.int ((126 : Int32).toInt8.toInt32)), .unset]) rfl ?_
      show Steps p.tables e below (s₁.setTop (mkF m 4 #[.val (.ref sb), .val (.int (126 : Int32)), .val (.int (0 : Int32)), .val (.int (4 : Int32)), .val (.int ((126 : Int32).toInt8.toInt32)), .unset] [])) _
      refine XS.iloadN X0.here hx rfl (hb hby d_jdk_43_method_23_code_4) rfl ?_
      show Steps p.tables e below (s₁.setTop (mkF m 5 #[.val (.ref sb), .val (.int (126 : Int32)), .val (.int (0 : Int32)), .val (.int (4 : Int32)), .val (.int ((126 : Int32).toInt8.toInt32)), .unset] [(.int (0 : Int32))])) _
      refine XS.istore X0.here hx rfl (hb hby d_jdk_43_method_23_code_5) rfl (l' := #[.val (.ref sb), .val (.int (126 : Int32)), .val (.int (0 : Int32)), .val (.int (4 : Int32)), .val (.int ((126 : Int32).toInt8.toInt32)), .val (.int (0 : Int32))]) rfl ?_
      show Steps p.tables e below (s₁.setTop (mkF m 7 #[.val (.ref sb), .val (.int (126 : Int32)), .val (.int (0 : Int32)), .val (.int (4 : Int32)), .val (.int ((126 : Int32).toInt8.toInt32)), .val (.int (0 : Int32))] [])) _
      refine XS.iload X0.here hx rfl (hb hby d_jdk_43_method_23_code_7) rfl ?_
      show Steps p.tables e below (s₁.setTop (mkF m 9 #[.val (.ref sb), .val (.int (126 : Int32)), .val (.int (0 : Int32)), .val (.int (4 : Int32)), .val (.int ((126 : Int32).toInt8.toInt32)), .val (.int (0 : Int32))] [(.int (0 : Int32))])) _
      refine XS.iloadN X0.here hx rfl (hb hby d_jdk_43_method_23_code_9) rfl ?_
      show Steps p.tables e below (s₁.setTop (mkF m 10 #[.val (.ref sb), .val (.int (126 : Int32)), .val (.int (0 : Int32)), .val (.int (4 : Int32)), .val (.int ((126 : Int32).toInt8.toInt32)), .val (.int (0 : Int32))] [(.int (4 : Int32)), (.int (0 : Int32))])) _
      refine XS.icmpNo X0.here hx rfl (hb hby d_jdk_43_method_23_code_10) rfl (tlt hd14).2.1 ?_
      show Steps p.tables e below (s₁.setTop (mkF m 13 #[.val (.ref sb), .val (.int (126 : Int32)), .val (.int (0 : Int32)), .val (.int (4 : Int32)), .val (.int ((126 : Int32).toInt8.toInt32)), .val (.int (0 : Int32))] [])) _
      refine XS.aloadN X0.here hx rfl (hb hby d_jdk_43_method_23_code_13) rfl rfl ?_
      show Steps p.tables e below (s₁.setTop (mkF m 14 #[.val (.ref sb), .val (.int (126 : Int32)), .val (.int (0 : Int32)), .val (.int (4 : Int32)), .val (.int ((126 : Int32).toInt8.toInt32)), .val (.int (0 : Int32))] [(.ref sb)])) _
      refine XS.iload X0.here hx rfl (hb hby d_jdk_43_method_23_code_14) rfl ?_
      show Steps p.tables e below (s₁.setTop (mkF m 16 #[.val (.ref sb), .val (.int (126 : Int32)), .val (.int (0 : Int32)), .val (.int (4 : Int32)), .val (.int ((126 : Int32).toInt8.toInt32)), .val (.int (0 : Int32))] [(.int (0 : Int32)), (.ref sb)])) _
      refine X0.baloadBytes hx (j := (0 : Int32)) (v := (.int (46 : Int32))) (by rw [e0]; exact Ar15.1) (State.isArrayOf_alike hZ.alike Ar15.2.1) Ar15.2.2 hin16 hat16 (g := (mkF m 16 #[.val (.ref sb), .val (.int (126 : Int32)), .val (.int (0 : Int32)), .val (.int (4 : Int32)), .val (.int ((126 : Int32).toInt8.toInt32)), .val (.int (0 : Int32))] [(.int (0 : Int32)), (.ref sb)])) rfl rfl (hb hby d_jdk_43_method_23_code_16) _ ?_
      show Steps p.tables e below (s₁.setTop (mkF m 17 #[.val (.ref sb), .val (.int (126 : Int32)), .val (.int (0 : Int32)), .val (.int (4 : Int32)), .val (.int ((126 : Int32).toInt8.toInt32)), .val (.int (0 : Int32))] [(.int (46 : Int32))])) _
      refine XS.iload X0.here hx rfl (hb hby d_jdk_43_method_23_code_17) rfl ?_
      show Steps p.tables e below (s₁.setTop (mkF m 19 #[.val (.ref sb), .val (.int (126 : Int32)), .val (.int (0 : Int32)), .val (.int (4 : Int32)), .val (.int ((126 : Int32).toInt8.toInt32)), .val (.int (0 : Int32))] [(.int ((126 : Int32).toInt8.toInt32)), (.int (46 : Int32))])) _
      refine XS.icmpYes X0.here hx rfl (pc0 := 19) (pc' := 25) rfl (hb hby d_jdk_43_method_23_code_19) rfl (feq hd17).2 (by decide) (by decide) ?_
      show Steps p.tables e below (s₁.setTop (mkF m 25 #[.val (.ref sb), .val (.int (126 : Int32)), .val (.int (0 : Int32)), .val (.int (4 : Int32)), .val (.int ((126 : Int32).toInt8.toInt32)), .val (.int (0 : Int32))] [])) _
      refine XS.iinc X0.here hx rfl (hb hby d_jdk_43_method_23_code_25) rfl (l' := #[.val (.ref sb), .val (.int (126 : Int32)), .val (.int (0 : Int32)), .val (.int (4 : Int32)), .val (.int ((126 : Int32).toInt8.toInt32)), .val (.int ((0 : Int32) + (1 : Int32)))]) rfl ?_
      show Steps p.tables e below (s₁.setTop (mkF m 28 #[.val (.ref sb), .val (.int (126 : Int32)), .val (.int (0 : Int32)), .val (.int (4 : Int32)), .val (.int ((126 : Int32).toInt8.toInt32)), .val (.int ((0 : Int32) + (1 : Int32)))] [])) _
      refine XS.goto X0.here hx rfl (pc0 := 28) (pc' := 7) rfl (hb hby d_jdk_43_method_23_code_28) (by decide) (by decide) ?_
      show Steps p.tables e below (s₁.setTop (mkF m 7 #[.val (.ref sb), .val (.int (126 : Int32)), .val (.int (0 : Int32)), .val (.int (4 : Int32)), .val (.int ((126 : Int32).toInt8.toInt32)), .val (.int ((0 : Int32) + (1 : Int32)))] [])) _
      refine XS.iload X0.here hx rfl (hb hby d_jdk_43_method_23_code_7) rfl ?_
      show Steps p.tables e below (s₁.setTop (mkF m 9 #[.val (.ref sb), .val (.int (126 : Int32)), .val (.int (0 : Int32)), .val (.int (4 : Int32)), .val (.int ((126 : Int32).toInt8.toInt32)), .val (.int ((0 : Int32) + (1 : Int32)))] [(.int ((0 : Int32) + (1 : Int32)))])) _
      refine XS.iloadN X0.here hx rfl (hb hby d_jdk_43_method_23_code_9) rfl ?_
      show Steps p.tables e below (s₁.setTop (mkF m 10 #[.val (.ref sb), .val (.int (126 : Int32)), .val (.int (0 : Int32)), .val (.int (4 : Int32)), .val (.int ((126 : Int32).toInt8.toInt32)), .val (.int ((0 : Int32) + (1 : Int32)))] [(.int (4 : Int32)), (.int ((0 : Int32) + (1 : Int32)))])) _
      refine XS.icmpNo X0.here hx rfl (hb hby d_jdk_43_method_23_code_10) rfl (tlt hd18).2.1 ?_
      show Steps p.tables e below (s₁.setTop (mkF m 13 #[.val (.ref sb), .val (.int (126 : Int32)), .val (.int (0 : Int32)), .val (.int (4 : Int32)), .val (.int ((126 : Int32).toInt8.toInt32)), .val (.int ((0 : Int32) + (1 : Int32)))] [])) _
      refine XS.aloadN X0.here hx rfl (hb hby d_jdk_43_method_23_code_13) rfl rfl ?_
      show Steps p.tables e below (s₁.setTop (mkF m 14 #[.val (.ref sb), .val (.int (126 : Int32)), .val (.int (0 : Int32)), .val (.int (4 : Int32)), .val (.int ((126 : Int32).toInt8.toInt32)), .val (.int ((0 : Int32) + (1 : Int32)))] [(.ref sb)])) _
      refine XS.iload X0.here hx rfl (hb hby d_jdk_43_method_23_code_14) rfl ?_
      show Steps p.tables e below (s₁.setTop (mkF m 16 #[.val (.ref sb), .val (.int (126 : Int32)), .val (.int (0 : Int32)), .val (.int (4 : Int32)), .val (.int ((126 : Int32).toInt8.toInt32)), .val (.int ((0 : Int32) + (1 : Int32)))] [(.int ((0 : Int32) + (1 : Int32))), (.ref sb)])) _
      refine X0.baloadBytes hx (j := ((0 : Int32) + (1 : Int32))) (v := (.int (95 : Int32))) (by rw [e0]; exact Ar19.1) (State.isArrayOf_alike hZ.alike Ar19.2.1) Ar19.2.2 hin20 hat20 (g := (mkF m 16 #[.val (.ref sb), .val (.int (126 : Int32)), .val (.int (0 : Int32)), .val (.int (4 : Int32)), .val (.int ((126 : Int32).toInt8.toInt32)), .val (.int ((0 : Int32) + (1 : Int32)))] [(.int ((0 : Int32) + (1 : Int32))), (.ref sb)])) rfl rfl (hb hby d_jdk_43_method_23_code_16) _ ?_
      show Steps p.tables e below (s₁.setTop (mkF m 17 #[.val (.ref sb), .val (.int (126 : Int32)), .val (.int (0 : Int32)), .val (.int (4 : Int32)), .val (.int ((126 : Int32).toInt8.toInt32)), .val (.int ((0 : Int32) + (1 : Int32)))] [(.int (95 : Int32))])) _
      refine XS.iload X0.here hx rfl (hb hby d_jdk_43_method_23_code_17) rfl ?_
      show Steps p.tables e below (s₁.setTop (mkF m 19 #[.val (.ref sb), .val (.int (126 : Int32)), .val (.int (0 : Int32)), .val (.int (4 : Int32)), .val (.int ((126 : Int32).toInt8.toInt32)), .val (.int ((0 : Int32) + (1 : Int32)))] [(.int ((126 : Int32).toInt8.toInt32)), (.int (95 : Int32))])) _
      refine XS.icmpYes X0.here hx rfl (pc0 := 19) (pc' := 25) rfl (hb hby d_jdk_43_method_23_code_19) rfl (feq hd21).2 (by decide) (by decide) ?_
      show Steps p.tables e below (s₁.setTop (mkF m 25 #[.val (.ref sb), .val (.int (126 : Int32)), .val (.int (0 : Int32)), .val (.int (4 : Int32)), .val (.int ((126 : Int32).toInt8.toInt32)), .val (.int ((0 : Int32) + (1 : Int32)))] [])) _
      refine XS.iinc X0.here hx rfl (hb hby d_jdk_43_method_23_code_25) rfl (l' := #[.val (.ref sb), .val (.int (126 : Int32)), .val (.int (0 : Int32)), .val (.int (4 : Int32)), .val (.int ((126 : Int32).toInt8.toInt32)), .val (.int (((0 : Int32) + (1 : Int32)) + (1 : Int32)))]) rfl ?_
      show Steps p.tables e below (s₁.setTop (mkF m 28 #[.val (.ref sb), .val (.int (126 : Int32)), .val (.int (0 : Int32)), .val (.int (4 : Int32)), .val (.int ((126 : Int32).toInt8.toInt32)), .val (.int (((0 : Int32) + (1 : Int32)) + (1 : Int32)))] [])) _
      refine XS.goto X0.here hx rfl (pc0 := 28) (pc' := 7) rfl (hb hby d_jdk_43_method_23_code_28) (by decide) (by decide) ?_
      show Steps p.tables e below (s₁.setTop (mkF m 7 #[.val (.ref sb), .val (.int (126 : Int32)), .val (.int (0 : Int32)), .val (.int (4 : Int32)), .val (.int ((126 : Int32).toInt8.toInt32)), .val (.int (((0 : Int32) + (1 : Int32)) + (1 : Int32)))] [])) _
      refine XS.iload X0.here hx rfl (hb hby d_jdk_43_method_23_code_7) rfl ?_
      show Steps p.tables e below (s₁.setTop (mkF m 9 #[.val (.ref sb), .val (.int (126 : Int32)), .val (.int (0 : Int32)), .val (.int (4 : Int32)), .val (.int ((126 : Int32).toInt8.toInt32)), .val (.int (((0 : Int32) + (1 : Int32)) + (1 : Int32)))] [(.int (((0 : Int32) + (1 : Int32)) + (1 : Int32)))])) _
      refine XS.iloadN X0.here hx rfl (hb hby d_jdk_43_method_23_code_9) rfl ?_
      show Steps p.tables e below (s₁.setTop (mkF m 10 #[.val (.ref sb), .val (.int (126 : Int32)), .val (.int (0 : Int32)), .val (.int (4 : Int32)), .val (.int ((126 : Int32).toInt8.toInt32)), .val (.int (((0 : Int32) + (1 : Int32)) + (1 : Int32)))] [(.int (4 : Int32)), (.int (((0 : Int32) + (1 : Int32)) + (1 : Int32)))])) _
      refine XS.icmpNo X0.here hx rfl (hb hby d_jdk_43_method_23_code_10) rfl (tlt hd22).2.1 ?_
      show Steps p.tables e below (s₁.setTop (mkF m 13 #[.val (.ref sb), .val (.int (126 : Int32)), .val (.int (0 : Int32)), .val (.int (4 : Int32)), .val (.int ((126 : Int32).toInt8.toInt32)), .val (.int (((0 : Int32) + (1 : Int32)) + (1 : Int32)))] [])) _
      refine XS.aloadN X0.here hx rfl (hb hby d_jdk_43_method_23_code_13) rfl rfl ?_
      show Steps p.tables e below (s₁.setTop (mkF m 14 #[.val (.ref sb), .val (.int (126 : Int32)), .val (.int (0 : Int32)), .val (.int (4 : Int32)), .val (.int ((126 : Int32).toInt8.toInt32)), .val (.int (((0 : Int32) + (1 : Int32)) + (1 : Int32)))] [(.ref sb)])) _
      refine XS.iload X0.here hx rfl (hb hby d_jdk_43_method_23_code_14) rfl ?_
      show Steps p.tables e below (s₁.setTop (mkF m 16 #[.val (.ref sb), .val (.int (126 : Int32)), .val (.int (0 : Int32)), .val (.int (4 : Int32)), .val (.int ((126 : Int32).toInt8.toInt32)), .val (.int (((0 : Int32) + (1 : Int32)) + (1 : Int32)))] [(.int (((0 : Int32) + (1 : Int32)) + (1 : Int32))), (.ref sb)])) _
      refine X0.baloadBytes hx (j := (((0 : Int32) + (1 : Int32)) + (1 : Int32))) (v := (.int (126 : Int32))) (by rw [e0]; exact Ar23.1) (State.isArrayOf_alike hZ.alike Ar23.2.1) Ar23.2.2 hin24 hat24 (g := (mkF m 16 #[.val (.ref sb), .val (.int (126 : Int32)), .val (.int (0 : Int32)), .val (.int (4 : Int32)), .val (.int ((126 : Int32).toInt8.toInt32)), .val (.int (((0 : Int32) + (1 : Int32)) + (1 : Int32)))] [(.int (((0 : Int32) + (1 : Int32)) + (1 : Int32))), (.ref sb)])) rfl rfl (hb hby d_jdk_43_method_23_code_16) _ ?_
      show Steps p.tables e below (s₁.setTop (mkF m 17 #[.val (.ref sb), .val (.int (126 : Int32)), .val (.int (0 : Int32)), .val (.int (4 : Int32)), .val (.int ((126 : Int32).toInt8.toInt32)), .val (.int (((0 : Int32) + (1 : Int32)) + (1 : Int32)))] [(.int (126 : Int32))])) _
      refine XS.iload X0.here hx rfl (hb hby d_jdk_43_method_23_code_17) rfl ?_
      show Steps p.tables e below (s₁.setTop (mkF m 19 #[.val (.ref sb), .val (.int (126 : Int32)), .val (.int (0 : Int32)), .val (.int (4 : Int32)), .val (.int ((126 : Int32).toInt8.toInt32)), .val (.int (((0 : Int32) + (1 : Int32)) + (1 : Int32)))] [(.int ((126 : Int32).toInt8.toInt32)), (.int (126 : Int32))])) _
      refine XS.icmpNo X0.here hx rfl (hb hby d_jdk_43_method_23_code_19) rfl (teq hd25).2 ?_
      show Steps p.tables e below (s₁.setTop (mkF m 22 #[.val (.ref sb), .val (.int (126 : Int32)), .val (.int (0 : Int32)), .val (.int (4 : Int32)), .val (.int ((126 : Int32).toInt8.toInt32)), .val (.int (((0 : Int32) + (1 : Int32)) + (1 : Int32)))] [])) _
      refine XS.iload X0.here hx rfl (hb hby d_jdk_43_method_23_code_22) rfl ?_
      show Steps p.tables e below (s₁.setTop (mkF m 24 #[.val (.ref sb), .val (.int (126 : Int32)), .val (.int (0 : Int32)), .val (.int (4 : Int32)), .val (.int ((126 : Int32).toInt8.toInt32)), .val (.int (((0 : Int32) + (1 : Int32)) + (1 : Int32)))] [(.int (((0 : Int32) + (1 : Int32)) + (1 : Int32)))])) _
      exact retI X0 hx Bd.returns (hb hby d_jdk_43_method_23_code_24) hr
    · show Q_own_ioc Z sb kS (126 : Int32) h0 n0 _ s₁.heap _
      rw [e0]
      exact ⟨_, rfl, N0, rfl, by decide⟩
  · skip
    have hd26 : (0 : Int32) < (4 : Int32) := by decide
    obtain ⟨cl27, Ar27, q27, S27, M27, H27, G27⟩ := id KS
    have hin28 : ¬ ((0 : Int32) < 0 ∨ cl27.slots.size ≤ ((0 : Int32)).toNatClampNeg) := inb_of S27 ⟨by decide, by decide⟩
    have hat28 : cl27.slots[((0 : Int32)).toNatClampNeg]? = some (.int (46 : Int32)) := Has.at H27 (inb_of S27 ⟨by decide, by decide⟩) rfl
    have hd29 : ¬ ((46 : Int32) = ((45 : Int32).toInt8.toInt32)) := by decide
    have hd30 : ((0 : Int32) + (1 : Int32)) < (4 : Int32) := by decide
    obtain ⟨cl31, Ar31, q31, S31, M31, H31, G31⟩ := id KS
    have hin32 : ¬ (((0 : Int32) + (1 : Int32)) < 0 ∨ cl31.slots.size ≤ (((0 : Int32) + (1 : Int32))).toNatClampNeg) := inb_of S31 ⟨by decide, by decide⟩
    have hat32 : cl31.slots[(((0 : Int32) + (1 : Int32))).toNatClampNeg]? = some (.int (95 : Int32)) := Has.at H31 (inb_of S31 ⟨by decide, by decide⟩) rfl
    have hd33 : ¬ ((95 : Int32) = ((45 : Int32).toInt8.toInt32)) := by decide
    have hd34 : (((0 : Int32) + (1 : Int32)) + (1 : Int32)) < (4 : Int32) := by decide
    obtain ⟨cl35, Ar35, q35, S35, M35, H35, G35⟩ := id KS
    have hin36 : ¬ ((((0 : Int32) + (1 : Int32)) + (1 : Int32)) < 0 ∨ cl35.slots.size ≤ ((((0 : Int32) + (1 : Int32)) + (1 : Int32))).toNatClampNeg) := inb_of S35 ⟨by decide, by decide⟩
    have hat36 : cl35.slots[((((0 : Int32) + (1 : Int32)) + (1 : Int32))).toNatClampNeg]? = some (.int (126 : Int32)) := Has.at H35 (inb_of S35 ⟨by decide, by decide⟩) rfl
    have hd37 : ¬ ((126 : Int32) = ((45 : Int32).toInt8.toInt32)) := by decide
    have hd38 : ((((0 : Int32) + (1 : Int32)) + (1 : Int32)) + (1 : Int32)) < (4 : Int32) := by decide
    obtain ⟨cl39, Ar39, q39, S39, M39, H39, G39⟩ := id KS
    have hin40 : ¬ (((((0 : Int32) + (1 : Int32)) + (1 : Int32)) + (1 : Int32)) < 0 ∨ cl39.slots.size ≤ (((((0 : Int32) + (1 : Int32)) + (1 : Int32)) + (1 : Int32))).toNatClampNeg) := inb_of S39 ⟨by decide, by decide⟩
    have hat40 : cl39.slots[(((((0 : Int32) + (1 : Int32)) + (1 : Int32)) + (1 : Int32))).toNatClampNeg]? = some (.int (45 : Int32)) := Has.at H39 (inb_of S39 ⟨by decide, by decide⟩) rfl
    have hd41 : (45 : Int32) = ((45 : Int32).toInt8.toInt32) := by decide
    obtain ⟨fs, hr, hrun, hended, hW, hsame⟩ := X0.leave (v := some (.int ((((0 : Int32) + (1 : Int32)) + (1 : Int32)) + (1 : Int32)))) (fun h => by rw [Bd.returns] at h; cases h)
    refine ⟨_, _, pre1 _ ?_, hrun, hended, _, _, rfl, ?_, ⟨_, rfl⟩, hW, hsame.mono (by decide) (by decide)⟩
    · show Steps p.tables e below (s₁.setTop (mkF m 2 #[.val (.ref sb), .val (.int (45 : Int32)), .val (.int (0 : Int32)), .val (.int (4 : Int32)), .unset, .unset] [(.int ((45 : Int32).toInt8.toInt32))])) _
      refine XS.istore X0.here hx rfl (hb hby d_jdk_43_method_23_code_2) rfl (l' := #[.val (.ref sb), .val (.int (45 : Int32)), .val (.int (0 : Int32)), .val (.int (4 : Int32)), .val (.int ((45 : Int32).toInt8.toInt32)), .unset]) rfl ?_
      show Steps p.tables e below (s₁.setTop (mkF m 4 #[.val (.ref sb), .val (.int (45 : Int32)), .val (.int (0 : Int32)), .val (.int (4 : Int32)), .val (.int ((45 : Int32).toInt8.toInt32)), .unset] [])) _
      refine XS.iloadN X0.here hx rfl (hb hby d_jdk_43_method_23_code_4) rfl ?_
      show Steps p.tables e below (s₁.setTop (mkF m 5 #[.val (.ref sb), .val (.int (45 : Int32)), .val (.int (0 : Int32)), .val (.int (4 : Int32)), .val (.int ((45 : Int32).toInt8.toInt32)), .unset] [(.int (0 : Int32))])) _
      refine XS.istore X0.here hx rfl (hb hby d_jdk_43_method_23_code_5) rfl (l' := #[.val (.ref sb), .val (.int (45 : Int32)), .val (.int (0 : Int32)), .val (.int (4 : Int32)), .val (.int ((45 : Int32).toInt8.toInt32)), .val (.int (0 : Int32))]) rfl ?_
      show Steps p.tables e below (s₁.setTop (mkF m 7 #[.val (.ref sb), .val (.int (45 : Int32)), .val (.int (0 : Int32)), .val (.int (4 : Int32)), .val (.int ((45 : Int32).toInt8.toInt32)), .val (.int (0 : Int32))] [])) _
      refine XS.iload X0.here hx rfl (hb hby d_jdk_43_method_23_code_7) rfl ?_
      show Steps p.tables e below (s₁.setTop (mkF m 9 #[.val (.ref sb), .val (.int (45 : Int32)), .val (.int (0 : Int32)), .val (.int (4 : Int32)), .val (.int ((45 : Int32).toInt8.toInt32)), .val (.int (0 : Int32))] [(.int (0 : Int32))])) _
      refine XS.iloadN X0.here hx rfl (hb hby d_jdk_43_method_23_code_9) rfl ?_
      show Steps p.tables e below (s₁.setTop (mkF m 10 #[.val (.ref sb), .val (.int (45 : Int32)), .val (.int (0 : Int32)), .val (.int (4 : Int32)), .val (.int ((45 : Int32).toInt8.toInt32)), .val (.int (0 : Int32))] [(.int (4 : Int32)), (.int (0 : Int32))])) _
      refine XS.icmpNo X0.here hx rfl (hb hby d_jdk_43_method_23_code_10) rfl (tlt hd26).2.1 ?_
      show Steps p.tables e below (s₁.setTop (mkF m 13 #[.val (.ref sb), .val (.int (45 : Int32)), .val (.int (0 : Int32)), .val (.int (4 : Int32)), .val (.int ((45 : Int32).toInt8.toInt32)), .val (.int (0 : Int32))] [])) _
      refine XS.aloadN X0.here hx rfl (hb hby d_jdk_43_method_23_code_13) rfl rfl ?_
      show Steps p.tables e below (s₁.setTop (mkF m 14 #[.val (.ref sb), .val (.int (45 : Int32)), .val (.int (0 : Int32)), .val (.int (4 : Int32)), .val (.int ((45 : Int32).toInt8.toInt32)), .val (.int (0 : Int32))] [(.ref sb)])) _
      refine XS.iload X0.here hx rfl (hb hby d_jdk_43_method_23_code_14) rfl ?_
      show Steps p.tables e below (s₁.setTop (mkF m 16 #[.val (.ref sb), .val (.int (45 : Int32)), .val (.int (0 : Int32)), .val (.int (4 : Int32)), .val (.int ((45 : Int32).toInt8.toInt32)), .val (.int (0 : Int32))] [(.int (0 : Int32)), (.ref sb)])) _
      refine X0.baloadBytes hx (j := (0 : Int32)) (v := (.int (46 : Int32))) (by rw [e0]; exact Ar27.1) (State.isArrayOf_alike hZ.alike Ar27.2.1) Ar27.2.2 hin28 hat28 (g := (mkF m 16 #[.val (.ref sb), .val (.int (45 : Int32)), .val (.int (0 : Int32)), .val (.int (4 : Int32)), .val (.int ((45 : Int32).toInt8.toInt32)), .val (.int (0 : Int32))] [(.int (0 : Int32)), (.ref sb)])) rfl rfl (hb hby d_jdk_43_method_23_code_16) _ ?_
      show Steps p.tables e below (s₁.setTop (mkF m 17 #[.val (.ref sb), .val (.int (45 : Int32)), .val (.int (0 : Int32)), .val (.int (4 : Int32)), .val (.int ((45 : Int32).toInt8.toInt32)), .val (.int (0 : Int32))] [(.int (46 : Int32))])) _
      refine XS.iload X0.here hx rfl (hb hby d_jdk_43_method_23_code_17) rfl ?_
      show Steps p.tables e below (s₁.setTop (mkF m 19 #[.val (.ref sb), .val (.int (45 : Int32)), .val (.int (0 : Int32)), .val (.int (4 : Int32)), .val (.int ((45 : Int32).toInt8.toInt32)), .val (.int (0 : Int32))] [(.int ((45 : Int32).toInt8.toInt32)), (.int (46 : Int32))])) _
      refine XS.icmpYes X0.here hx rfl (pc0 := 19) (pc' := 25) rfl (hb hby d_jdk_43_method_23_code_19) rfl (feq hd29).2 (by decide) (by decide) ?_
      show Steps p.tables e below (s₁.setTop (mkF m 25 #[.val (.ref sb), .val (.int (45 : Int32)), .val (.int (0 : Int32)), .val (.int (4 : Int32)), .val (.int ((45 : Int32).toInt8.toInt32)), .val (.int (0 : Int32))] [])) _
      refine XS.iinc X0.here hx rfl (hb hby d_jdk_43_method_23_code_25) rfl (l' := #[.val (.ref sb), .val (.int (45 : Int32)), .val (.int (0 : Int32)), .val (.int (4 : Int32)), .val (.int ((45 : Int32).toInt8.toInt32)), .val (.int ((0 : Int32) + (1 : Int32)))]) rfl ?_
      show Steps p.tables e below (s₁.setTop (mkF m 28 #[.val (.ref sb), .val (.int (45 : Int32)), .val (.int (0 : Int32)), .val (.int (4 : Int32)), .val (.int ((45 : Int32).toInt8.toInt32)), .val (.int ((0 : Int32) + (1 : Int32)))] [])) _
      refine XS.goto X0.here hx rfl (pc0 := 28) (pc' := 7) rfl (hb hby d_jdk_43_method_23_code_28) (by decide) (by decide) ?_
      show Steps p.tables e below (s₁.setTop (mkF m 7 #[.val (.ref sb), .val (.int (45 : Int32)), .val (.int (0 : Int32)), .val (.int (4 : Int32)), .val (.int ((45 : Int32).toInt8.toInt32)), .val (.int ((0 : Int32) + (1 : Int32)))] [])) _
      refine XS.iload X0.here hx rfl (hb hby d_jdk_43_method_23_code_7) rfl ?_
      show Steps p.tables e below (s₁.setTop (mkF m 9 #[.val (.ref sb), .val (.int (45 : Int32)), .val (.int (0 : Int32)), .val (.int (4 : Int32)), .val (.int ((45 : Int32).toInt8.toInt32)), .val (.int ((0 : Int32) + (1 : Int32)))] [(.int ((0 : Int32) + (1 : Int32)))])) _
      refine XS.iloadN X0.here hx rfl (hb hby d_jdk_43_method_23_code_9) rfl ?_
      show Steps p.tables e below (s₁.setTop (mkF m 10 #[.val (.ref sb), .val (.int (45 : Int32)), .val (.int (0 : Int32)), .val (.int (4 : Int32)), .val (.int ((45 : Int32).toInt8.toInt32)), .val (.int ((0 : Int32) + (1 : Int32)))] [(.int (4 : Int32)), (.int ((0 : Int32) + (1 : Int32)))])) _
      refine XS.icmpNo X0.here hx rfl (hb hby d_jdk_43_method_23_code_10) rfl (tlt hd30).2.1 ?_
      show Steps p.tables e below (s₁.setTop (mkF m 13 #[.val (.ref sb), .val (.int (45 : Int32)), .val (.int (0 : Int32)), .val (.int (4 : Int32)), .val (.int ((45 : Int32).toInt8.toInt32)), .val (.int ((0 : Int32) + (1 : Int32)))] [])) _
      refine XS.aloadN X0.here hx rfl (hb hby d_jdk_43_method_23_code_13) rfl rfl ?_
      show Steps p.tables e below (s₁.setTop (mkF m 14 #[.val (.ref sb), .val (.int (45 : Int32)), .val (.int (0 : Int32)), .val (.int (4 : Int32)), .val (.int ((45 : Int32).toInt8.toInt32)), .val (.int ((0 : Int32) + (1 : Int32)))] [(.ref sb)])) _
      refine XS.iload X0.here hx rfl (hb hby d_jdk_43_method_23_code_14) rfl ?_
      show Steps p.tables e below (s₁.setTop (mkF m 16 #[.val (.ref sb), .val (.int (45 : Int32)), .val (.int (0 : Int32)), .val (.int (4 : Int32)), .val (.int ((45 : Int32).toInt8.toInt32)), .val (.int ((0 : Int32) + (1 : Int32)))] [(.int ((0 : Int32) + (1 : Int32))), (.ref sb)])) _
      refine X0.baloadBytes hx (j := ((0 : Int32) + (1 : Int32))) (v := (.int (95 : Int32))) (by rw [e0]; exact Ar31.1) (State.isArrayOf_alike hZ.alike Ar31.2.1) Ar31.2.2 hin32 hat32 (g := (mkF m 16 #[.val (.ref sb), .val (.int (45 : Int32)), .val (.int (0 : Int32)), .val (.int (4 : Int32)), .val (.int ((45 : Int32).toInt8.toInt32)), .val (.int ((0 : Int32) + (1 : Int32)))] [(.int ((0 : Int32) + (1 : Int32))), (.ref sb)])) rfl rfl (hb hby d_jdk_43_method_23_code_16) _ ?_
      show Steps p.tables e below (s₁.setTop (mkF m 17 #[.val (.ref sb), .val (.int (45 : Int32)), .val (.int (0 : Int32)), .val (.int (4 : Int32)), .val (.int ((45 : Int32).toInt8.toInt32)), .val (.int ((0 : Int32) + (1 : Int32)))] [(.int (95 : Int32))])) _
      refine XS.iload X0.here hx rfl (hb hby d_jdk_43_method_23_code_17) rfl ?_
      show Steps p.tables e below (s₁.setTop (mkF m 19 #[.val (.ref sb), .val (.int (45 : Int32)), .val (.int (0 : Int32)), .val (.int (4 : Int32)), .val (.int ((45 : Int32).toInt8.toInt32)), .val (.int ((0 : Int32) + (1 : Int32)))] [(.int ((45 : Int32).toInt8.toInt32)), (.int (95 : Int32))])) _
      refine XS.icmpYes X0.here hx rfl (pc0 := 19) (pc' := 25) rfl (hb hby d_jdk_43_method_23_code_19) rfl (feq hd33).2 (by decide) (by decide) ?_
      show Steps p.tables e below (s₁.setTop (mkF m 25 #[.val (.ref sb), .val (.int (45 : Int32)), .val (.int (0 : Int32)), .val (.int (4 : Int32)), .val (.int ((45 : Int32).toInt8.toInt32)), .val (.int ((0 : Int32) + (1 : Int32)))] [])) _
      refine XS.iinc X0.here hx rfl (hb hby d_jdk_43_method_23_code_25) rfl (l' := #[.val (.ref sb), .val (.int (45 : Int32)), .val (.int (0 : Int32)), .val (.int (4 : Int32)), .val (.int ((45 : Int32).toInt8.toInt32)), .val (.int (((0 : Int32) + (1 : Int32)) + (1 : Int32)))]) rfl ?_
      show Steps p.tables e below (s₁.setTop (mkF m 28 #[.val (.ref sb), .val (.int (45 : Int32)), .val (.int (0 : Int32)), .val (.int (4 : Int32)), .val (.int ((45 : Int32).toInt8.toInt32)), .val (.int (((0 : Int32) + (1 : Int32)) + (1 : Int32)))] [])) _
      refine XS.goto X0.here hx rfl (pc0 := 28) (pc' := 7) rfl (hb hby d_jdk_43_method_23_code_28) (by decide) (by decide) ?_
      show Steps p.tables e below (s₁.setTop (mkF m 7 #[.val (.ref sb), .val (.int (45 : Int32)), .val (.int (0 : Int32)), .val (.int (4 : Int32)), .val (.int ((45 : Int32).toInt8.toInt32)), .val (.int (((0 : Int32) + (1 : Int32)) + (1 : Int32)))] [])) _
      refine XS.iload X0.here hx rfl (hb hby d_jdk_43_method_23_code_7) rfl ?_
      show Steps p.tables e below (s₁.setTop (mkF m 9 #[.val (.ref sb), .val (.int (45 : Int32)), .val (.int (0 : Int32)), .val (.int (4 : Int32)), .val (.int ((45 : Int32).toInt8.toInt32)), .val (.int (((0 : Int32) + (1 : Int32)) + (1 : Int32)))] [(.int (((0 : Int32) + (1 : Int32)) + (1 : Int32)))])) _
      refine XS.iloadN X0.here hx rfl (hb hby d_jdk_43_method_23_code_9) rfl ?_
      show Steps p.tables e below (s₁.setTop (mkF m 10 #[.val (.ref sb), .val (.int (45 : Int32)), .val (.int (0 : Int32)), .val (.int (4 : Int32)), .val (.int ((45 : Int32).toInt8.toInt32)), .val (.int (((0 : Int32) + (1 : Int32)) + (1 : Int32)))] [(.int (4 : Int32)), (.int (((0 : Int32) + (1 : Int32)) + (1 : Int32)))])) _
      refine XS.icmpNo X0.here hx rfl (hb hby d_jdk_43_method_23_code_10) rfl (tlt hd34).2.1 ?_
      show Steps p.tables e below (s₁.setTop (mkF m 13 #[.val (.ref sb), .val (.int (45 : Int32)), .val (.int (0 : Int32)), .val (.int (4 : Int32)), .val (.int ((45 : Int32).toInt8.toInt32)), .val (.int (((0 : Int32) + (1 : Int32)) + (1 : Int32)))] [])) _
      refine XS.aloadN X0.here hx rfl (hb hby d_jdk_43_method_23_code_13) rfl rfl ?_
      show Steps p.tables e below (s₁.setTop (mkF m 14 #[.val (.ref sb), .val (.int (45 : Int32)), .val (.int (0 : Int32)), .val (.int (4 : Int32)), .val (.int ((45 : Int32).toInt8.toInt32)), .val (.int (((0 : Int32) + (1 : Int32)) + (1 : Int32)))] [(.ref sb)])) _
      refine XS.iload X0.here hx rfl (hb hby d_jdk_43_method_23_code_14) rfl ?_
      show Steps p.tables e below (s₁.setTop (mkF m 16 #[.val (.ref sb), .val (.int (45 : Int32)), .val (.int (0 : Int32)), .val (.int (4 : Int32)), .val (.int ((45 : Int32).toInt8.toInt32)), .val (.int (((0 : Int32) + (1 : Int32)) + (1 : Int32)))] [(.int (((0 : Int32) + (1 : Int32)) + (1 : Int32))), (.ref sb)])) _
      refine X0.baloadBytes hx (j := (((0 : Int32) + (1 : Int32)) + (1 : Int32))) (v := (.int (126 : Int32))) (by rw [e0]; exact Ar35.1) (State.isArrayOf_alike hZ.alike Ar35.2.1) Ar35.2.2 hin36 hat36 (g := (mkF m 16 #[.val (.ref sb), .val (.int (45 : Int32)), .val (.int (0 : Int32)), .val (.int (4 : Int32)), .val (.int ((45 : Int32).toInt8.toInt32)), .val (.int (((0 : Int32) + (1 : Int32)) + (1 : Int32)))] [(.int (((0 : Int32) + (1 : Int32)) + (1 : Int32))), (.ref sb)])) rfl rfl (hb hby d_jdk_43_method_23_code_16) _ ?_
      show Steps p.tables e below (s₁.setTop (mkF m 17 #[.val (.ref sb), .val (.int (45 : Int32)), .val (.int (0 : Int32)), .val (.int (4 : Int32)), .val (.int ((45 : Int32).toInt8.toInt32)), .val (.int (((0 : Int32) + (1 : Int32)) + (1 : Int32)))] [(.int (126 : Int32))])) _
      refine XS.iload X0.here hx rfl (hb hby d_jdk_43_method_23_code_17) rfl ?_
      show Steps p.tables e below (s₁.setTop (mkF m 19 #[.val (.ref sb), .val (.int (45 : Int32)), .val (.int (0 : Int32)), .val (.int (4 : Int32)), .val (.int ((45 : Int32).toInt8.toInt32)), .val (.int (((0 : Int32) + (1 : Int32)) + (1 : Int32)))] [(.int ((45 : Int32).toInt8.toInt32)), (.int (126 : Int32))])) _
      refine XS.icmpYes X0.here hx rfl (pc0 := 19) (pc' := 25) rfl (hb hby d_jdk_43_method_23_code_19) rfl (feq hd37).2 (by decide) (by decide) ?_
      show Steps p.tables e below (s₁.setTop (mkF m 25 #[.val (.ref sb), .val (.int (45 : Int32)), .val (.int (0 : Int32)), .val (.int (4 : Int32)), .val (.int ((45 : Int32).toInt8.toInt32)), .val (.int (((0 : Int32) + (1 : Int32)) + (1 : Int32)))] [])) _
      refine XS.iinc X0.here hx rfl (hb hby d_jdk_43_method_23_code_25) rfl (l' := #[.val (.ref sb), .val (.int (45 : Int32)), .val (.int (0 : Int32)), .val (.int (4 : Int32)), .val (.int ((45 : Int32).toInt8.toInt32)), .val (.int ((((0 : Int32) + (1 : Int32)) + (1 : Int32)) + (1 : Int32)))]) rfl ?_
      show Steps p.tables e below (s₁.setTop (mkF m 28 #[.val (.ref sb), .val (.int (45 : Int32)), .val (.int (0 : Int32)), .val (.int (4 : Int32)), .val (.int ((45 : Int32).toInt8.toInt32)), .val (.int ((((0 : Int32) + (1 : Int32)) + (1 : Int32)) + (1 : Int32)))] [])) _
      refine XS.goto X0.here hx rfl (pc0 := 28) (pc' := 7) rfl (hb hby d_jdk_43_method_23_code_28) (by decide) (by decide) ?_
      show Steps p.tables e below (s₁.setTop (mkF m 7 #[.val (.ref sb), .val (.int (45 : Int32)), .val (.int (0 : Int32)), .val (.int (4 : Int32)), .val (.int ((45 : Int32).toInt8.toInt32)), .val (.int ((((0 : Int32) + (1 : Int32)) + (1 : Int32)) + (1 : Int32)))] [])) _
      refine XS.iload X0.here hx rfl (hb hby d_jdk_43_method_23_code_7) rfl ?_
      show Steps p.tables e below (s₁.setTop (mkF m 9 #[.val (.ref sb), .val (.int (45 : Int32)), .val (.int (0 : Int32)), .val (.int (4 : Int32)), .val (.int ((45 : Int32).toInt8.toInt32)), .val (.int ((((0 : Int32) + (1 : Int32)) + (1 : Int32)) + (1 : Int32)))] [(.int ((((0 : Int32) + (1 : Int32)) + (1 : Int32)) + (1 : Int32)))])) _
      refine XS.iloadN X0.here hx rfl (hb hby d_jdk_43_method_23_code_9) rfl ?_
      show Steps p.tables e below (s₁.setTop (mkF m 10 #[.val (.ref sb), .val (.int (45 : Int32)), .val (.int (0 : Int32)), .val (.int (4 : Int32)), .val (.int ((45 : Int32).toInt8.toInt32)), .val (.int ((((0 : Int32) + (1 : Int32)) + (1 : Int32)) + (1 : Int32)))] [(.int (4 : Int32)), (.int ((((0 : Int32) + (1 : Int32)) + (1 : Int32)) + (1 : Int32)))])) _
      refine XS.icmpNo X0.here hx rfl (hb hby d_jdk_43_method_23_code_10) rfl (tlt hd38).2.1 ?_
      show Steps p.tables e below (s₁.setTop (mkF m 13 #[.val (.ref sb), .val (.int (45 : Int32)), .val (.int (0 : Int32)), .val (.int (4 : Int32)), .val (.int ((45 : Int32).toInt8.toInt32)), .val (.int ((((0 : Int32) + (1 : Int32)) + (1 : Int32)) + (1 : Int32)))] [])) _
      refine XS.aloadN X0.here hx rfl (hb hby d_jdk_43_method_23_code_13) rfl rfl ?_
      show Steps p.tables e below (s₁.setTop (mkF m 14 #[.val (.ref sb), .val (.int (45 : Int32)), .val (.int (0 : Int32)), .val (.int (4 : Int32)), .val (.int ((45 : Int32).toInt8.toInt32)), .val (.int ((((0 : Int32) + (1 : Int32)) + (1 : Int32)) + (1 : Int32)))] [(.ref sb)])) _
      refine XS.iload X0.here hx rfl (hb hby d_jdk_43_method_23_code_14) rfl ?_
      show Steps p.tables e below (s₁.setTop (mkF m 16 #[.val (.ref sb), .val (.int (45 : Int32)), .val (.int (0 : Int32)), .val (.int (4 : Int32)), .val (.int ((45 : Int32).toInt8.toInt32)), .val (.int ((((0 : Int32) + (1 : Int32)) + (1 : Int32)) + (1 : Int32)))] [(.int ((((0 : Int32) + (1 : Int32)) + (1 : Int32)) + (1 : Int32))), (.ref sb)])) _
      refine X0.baloadBytes hx (j := ((((0 : Int32) + (1 : Int32)) + (1 : Int32)) + (1 : Int32))) (v := (.int (45 : Int32))) (by rw [e0]; exact Ar39.1) (State.isArrayOf_alike hZ.alike Ar39.2.1) Ar39.2.2 hin40 hat40 (g := (mkF m 16 #[.val (.ref sb), .val (.int (45 : Int32)), .val (.int (0 : Int32)), .val (.int (4 : Int32)), .val (.int ((45 : Int32).toInt8.toInt32)), .val (.int ((((0 : Int32) + (1 : Int32)) + (1 : Int32)) + (1 : Int32)))] [(.int ((((0 : Int32) + (1 : Int32)) + (1 : Int32)) + (1 : Int32))), (.ref sb)])) rfl rfl (hb hby d_jdk_43_method_23_code_16) _ ?_
      show Steps p.tables e below (s₁.setTop (mkF m 17 #[.val (.ref sb), .val (.int (45 : Int32)), .val (.int (0 : Int32)), .val (.int (4 : Int32)), .val (.int ((45 : Int32).toInt8.toInt32)), .val (.int ((((0 : Int32) + (1 : Int32)) + (1 : Int32)) + (1 : Int32)))] [(.int (45 : Int32))])) _
      refine XS.iload X0.here hx rfl (hb hby d_jdk_43_method_23_code_17) rfl ?_
      show Steps p.tables e below (s₁.setTop (mkF m 19 #[.val (.ref sb), .val (.int (45 : Int32)), .val (.int (0 : Int32)), .val (.int (4 : Int32)), .val (.int ((45 : Int32).toInt8.toInt32)), .val (.int ((((0 : Int32) + (1 : Int32)) + (1 : Int32)) + (1 : Int32)))] [(.int ((45 : Int32).toInt8.toInt32)), (.int (45 : Int32))])) _
      refine XS.icmpNo X0.here hx rfl (hb hby d_jdk_43_method_23_code_19) rfl (teq hd41).2 ?_
      show Steps p.tables e below (s₁.setTop (mkF m 22 #[.val (.ref sb), .val (.int (45 : Int32)), .val (.int (0 : Int32)), .val (.int (4 : Int32)), .val (.int ((45 : Int32).toInt8.toInt32)), .val (.int ((((0 : Int32) + (1 : Int32)) + (1 : Int32)) + (1 : Int32)))] [])) _
      refine XS.iload X0.here hx rfl (hb hby d_jdk_43_method_23_code_22) rfl ?_
      show Steps p.tables e below (s₁.setTop (mkF m 24 #[.val (.ref sb), .val (.int (45 : Int32)), .val (.int (0 : Int32)), .val (.int (4 : Int32)), .val (.int ((45 : Int32).toInt8.toInt32)), .val (.int ((((0 : Int32) + (1 : Int32)) + (1 : Int32)) + (1 : Int32)))] [(.int ((((0 : Int32) + (1 : Int32)) + (1 : Int32)) + (1 : Int32)))])) _
      exact retI X0 hx Bd.returns (hb hby d_jdk_43_method_23_code_24) hr
    · show Q_own_ioc Z sb kS (45 : Int32) h0 n0 _ s₁.heap _
      rw [e0]
      exact ⟨_, rfl, N0, rfl, by decide⟩
theorem d_jdk_43_method_22_code_0 : decode jdk_43_method_22_code 0 = .ok (.iload_n 1, 1) := by decide +kernel
theorem pd__I_Z : parseMethodDescriptor "(I)Z" = some ⟨[.int], some .boolean⟩ := by decide +kernel
theorem d_jdk_43_method_22_code_1 : decode jdk_43_method_22_code 1 = .ok (.invokestatic 88, 3) := by decide +kernel
theorem d_jdk_43_method_22_code_4 : decode jdk_43_method_22_code 4 = .ok (.ifCond .ne 5, 3) := by decide +kernel
theorem d_jdk_43_method_22_code_9 : decode jdk_43_method_22_code 9 = .ok (.iload_n 2, 1) := by decide +kernel
theorem d_jdk_43_method_22_code_10 : decode jdk_43_method_22_code 10 = .ok (.iconst 0, 1) := by decide +kernel
theorem pd__II_I : parseMethodDescriptor "(II)I" = some ⟨[.int, .int], some .int⟩ := by decide +kernel
theorem d_jdk_43_method_22_code_11 : decode jdk_43_method_22_code 11 = .ok (.invokestatic 92, 3) := by decide +kernel
theorem d_jdk_43_method_22_code_14 : decode jdk_43_method_22_code 14 = .ok (.istore_n 2, 1) := by decide +kernel
theorem d_jdk_43_method_22_code_15 : decode jdk_43_method_22_code 15 = .ok (.iload_n 3, 1) := by decide +kernel
theorem d_jdk_43_method_22_code_16 : decode jdk_43_method_22_code 16 = .ok (.aload_n 0, 1) := by decide +kernel
theorem d_jdk_43_method_22_code_17 : decode jdk_43_method_22_code 17 = .ok (.arraylength, 1) := by decide +kernel
theorem d_jdk_43_method_22_code_18 : decode jdk_43_method_22_code 18 = .ok (.invokestatic 38, 3) := by decide +kernel
theorem d_jdk_43_method_22_code_21 : decode jdk_43_method_22_code 21 = .ok (.istore_n 3, 1) := by decide +kernel
theorem d_jdk_43_method_22_code_22 : decode jdk_43_method_22_code 22 = .ok (.iload_n 2, 1) := by decide +kernel
theorem d_jdk_43_method_22_code_23 : decode jdk_43_method_22_code 23 = .ok (.iload_n 3, 1) := by decide +kernel
theorem d_jdk_43_method_22_code_24 : decode jdk_43_method_22_code 24 = .ok (.if_icmp .lt 5, 3) := by decide +kernel
theorem d_jdk_43_method_22_code_29 : decode jdk_43_method_22_code 29 = .ok (.aload_n 0, 1) := by decide +kernel
theorem d_jdk_43_method_22_code_30 : decode jdk_43_method_22_code 30 = .ok (.iload_n 1, 1) := by decide +kernel
theorem d_jdk_43_method_22_code_31 : decode jdk_43_method_22_code 31 = .ok (.iload_n 2, 1) := by decide +kernel
theorem d_jdk_43_method_22_code_32 : decode jdk_43_method_22_code 32 = .ok (.iload_n 3, 1) := by decide +kernel
theorem pd___BIII_I : parseMethodDescriptor "([BIII)I" = some ⟨[(.array .byte), .int, .int, .int], some .int⟩ := by decide +kernel
theorem d_jdk_43_method_22_code_33 : decode jdk_43_method_22_code 33 = .ok (.invokestatic 95, 3) := by decide +kernel
theorem d_jdk_43_method_22_code_36 : decode jdk_43_method_22_code 36 = .ok (.ireturn, 1) := by decide +kernel
theorem ef_own_io3 (m : MethodId) {sb : Addr} {ch : Int32} : entryFrame m #[(.ref sb), (.int ch), (.int (0 : Int32)), (.int (4 : Int32))] 4 = mkF m 0 #[.val (.ref sb), .val (.int ch), .val (.int (0 : Int32)), .val (.int (4 : Int32))] [] := by first | (simp [entryFrame, mkF, argsToLocals, Value.category]; done) | rfl
def Q_own_io3 (Z : State) (sb : Addr) (kS : ClassId) (ch : Int32) (h0 : Heap) (n0 : Nat) (v : Option Value) (h : Heap) (L : List Loc) : Prop := ∃ r : Int32, v = some (.int r) ∧ Fr n0 L ∧ h = h0 ∧ ¬ r < 0
set_option maxRecDepth 65536 in
set_option maxHeartbeats 40000000 in
theorem own_io3 (l : Launch) (Z : State) (a0 : Array Value) (hw : ∀ d ∈ tables_1, d.before a0 Z = true) (ws : List Jvm.Cond) (sb : Addr) (kS : ClassId) (ch : Int32) (h0 : Heap) (n0 : Nat) (Z0 : n0 ≤ h0.size) (KS : Arv Z h0 sb kS .byte (4 : Int32) [(.int (46 : Int32)), (.int (95 : Int32)), (.int (126 : Int32)), (.int (45 : Int32))] (.int (0 : Int32))) (hsp : own_sp ch) :
    MetFree l (⟨"java/lang/StringLatin1", "indexOf", "([BIII)I"⟩ : MethodName) (head1 (Jvm.Cond.code (⟨"java/lang/StringLatin1", "indexOf", "([BIII)I"⟩ : MethodName) jdk_43_method_22_code 4 (some .int) :: ws) ({ frames := 1, cells := 0, slots := 0, locals := 17 } : Room)) (fun a U => a = #[(.ref sb), (.int ch), (.int (0 : Int32)), (.int (4 : Int32))] ∧ Z.Warmed39 U.vm ∧ U.heap = h0) (fun _ _ _ _ _ => True) (fun _ U o U' => ∃ v L, o = .returned v ∧ Q_own_io3 Z sb kS ch h0 n0 v U'.heap L ∧ FrameEnd U o U' L ({ frames := 1, cells := 0, slots := 0, locals := 17 } : Room).cells ({ frames := 1, cells := 0, slots := 0, locals := 17 } : Room).slots) := by
  refine MetFree.of_bodySF (plainFor_of_name pn_java_lang_StringLatin1) hisR ?_
  intro p e s m args below meth c s₁ Bd hml0 hP hK
  obtain ⟨rfl, hZ, hh⟩ := hP
  have hx := Bd.exec
  have hby := Bd.bytes
  have hml : c.maxLocals = 4 := hml0
  have hown : s.vm.findClass "java/lang/StringLatin1" = some m.cls := findClass_of_methodNamed Bd.named
  have hnm := (name_of_methodNamed Bd.named Bd.method).1
  have X0 : Stand p l e ({ frames := 1, cells := 0, slots := 0, locals := 17 } : Room) s m #[(.ref sb), (.int ch), (.int (0 : Int32)), (.int (4 : Int32))] below meth c s₁ [] 0 0 := Stand.of_body Bd
  have e0 : s₁.heap = h0 := by rw [← hh, Bd.state]; rfl
  have N0 := Fr.nil n0
  have pre0 : ∀ t, Steps p.tables e below (s₁.setTop (mkF m 0 #[.val (.ref sb), .val (.int ch), .val (.int (0 : Int32)), .val (.int (4 : Int32))] [])) t → Steps p.tables e below (s₁.setTop (entryFrame m #[(.ref sb), (.int ch), (.int (0 : Int32)), (.int (4 : Int32))] 4)) t := fun t k => castTop (ef_own_io3 m) k
  obtain ⟨_, _, ⟨T1, L1, k1, n1⟩, -, X1, ⟨Lc1, hQ1, l1, y1, z1⟩, st1⟩ := Jvm.LawKit.callS X0 hx (y := (⟨"java/lang/StringLatin1", "canEncode", "(I)Z"⟩ : MethodName)) hown (mvT hZ (hw _ (List.mem_of_getElem? (i := 99) rfl))) (mvT hZ (hw _ (List.mem_of_getElem? (i := 100) rfl))) (mvT hZ (hw _ (List.mem_of_getElem? (i := 73) rfl))) (mvT hZ (hw _ (List.mem_of_getElem? (i := 101) rfl))) (by decide) (backOf (W := 0) (own_ce2 l Z a0 hw [] ch h0 n0 Z0 (own_ok8 (Or.inr hsp))) hZ (hw _ (List.mem_of_getElem? (i := 101) rfl)) (hw _ (List.mem_of_getElem? (i := 73) rfl)) (by decide) (by decide)) (g := (mkF m 1 #[.val (.ref sb), .val (.int ch), .val (.int (0 : Int32)), .val (.int (4 : Int32))] [(.int ch)])) rfl (by rw [hml]; rfl) (argsL := [(.int ch)]) (rest := []) (lenOf pd__I_Z rfl) rfl (by show 2 * 0 + _ ≤ _; exact Nat.le_of_eq rfl) (hb hby d_jdk_43_method_22_code_1) (fun _ _ => ⟨rfl, e0, (by decide : 0 + 0 ≤ _), (by decide : 0 + 0 ≤ _)⟩)
  dsimp only [Pt.U, Pt.locs, Pt.cells, Pt.slots] at X1 l1 y1 z1 st1 hQ1
  subst l1 y1 z1
  obtain ⟨rfl, N1q, e1q⟩ := hQ1
  have N1 := Fr.app N0 N1q
  have pre2 : ∀ t, Steps p.tables e below (T1.setTop (mkF m 4 #[.val (.ref sb), .val (.int ch), .val (.int (0 : Int32)), .val (.int (4 : Int32))] [(.int (1 : Int32))])) t → Steps p.tables e below (s₁.setTop (entryFrame m #[(.ref sb), (.int ch), (.int (0 : Int32)), (.int (4 : Int32))] 4)) t := by
    intro t kk
    refine pre0 t ?_
    show Steps p.tables e below (s₁.setTop (mkF m 0 #[.val (.ref sb), .val (.int ch), .val (.int (0 : Int32)), .val (.int (4 : Int32))] [])) _
    refine XS.iloadN X0.here hx rfl (hb hby d_jdk_43_method_22_code_0) rfl ?_
    show Steps p.tables e below (s₁.setTop (mkF m 1 #[.val (.ref sb), .val (.int ch), .val (.int (0 : Int32)), .val (.int (4 : Int32))] [(.int ch)])) _
    exact st1 _ kk
  have hd3 : ¬ ((1 : Int32) = (0 : Int32)) := by decide
  obtain ⟨_, _, ⟨T4, L4, k4, n4⟩, -, X4, ⟨Lc4, hQ4, l4, y4, z4⟩, st4⟩ := Jvm.LawKit.callS X1 hx (y := (⟨"java/lang/Math", "max", "(II)I"⟩ : MethodName)) hown (mvT hZ (hw _ (List.mem_of_getElem? (i := 102) rfl))) (mvT hZ (hw _ (List.mem_of_getElem? (i := 103) rfl))) (mvT hZ (hw _ (List.mem_of_getElem? (i := 104) rfl))) (mvT hZ (hw _ (List.mem_of_getElem? (i := 105) rfl))) (by decide) (backOf (W := 0) (own_max l Z a0 hw [] h0 n0 Z0) hZ (hw _ (List.mem_of_getElem? (i := 105) rfl)) (hw _ (List.mem_of_getElem? (i := 104) rfl)) (by decide) (by decide)) (g := (mkF m 11 #[.val (.ref sb), .val (.int ch), .val (.int (0 : Int32)), .val (.int (4 : Int32))] [(.int (0 : Int32)), (.int (0 : Int32))])) rfl (by rw [hml]; rfl) (argsL := [(.int (0 : Int32)), (.int (0 : Int32))]) (rest := []) (lenOf pd__II_I rfl) rfl (by show 2 * 0 + _ ≤ _; exact Nat.le_of_eq rfl) (hb hby d_jdk_43_method_22_code_11) (fun _ _ => ⟨rfl, e1q, (by decide : 0 + 0 ≤ _), (by decide : 0 + 0 ≤ _)⟩)
  dsimp only [Pt.U, Pt.locs, Pt.cells, Pt.slots] at X4 l4 y4 z4 st4 hQ4
  subst l4 y4 z4
  obtain ⟨rfl, N4q, e4q⟩ := hQ4
  have N4 := Fr.app N1 N4q
  have pre5 : ∀ t, Steps p.tables e below (T4.setTop (mkF m 14 #[.val (.ref sb), .val (.int ch), .val (.int (0 : Int32)), .val (.int (4 : Int32))] [(.int (0 : Int32))])) t → Steps p.tables e below (s₁.setTop (entryFrame m #[(.ref sb), (.int ch), (.int (0 : Int32)), (.int (4 : Int32))] 4)) t := by
    intro t kk
    refine pre2 t ?_
    show Steps p.tables e below (T1.setTop (mkF m 4 #[.val (.ref sb), .val (.int ch), .val (.int (0 : Int32)), .val (.int (4 : Int32))] [(.int (1 : Int32))])) _
    refine XS.ifYes X1.here hx rfl (pc0 := 4) (pc' := 9) rfl (hb hby d_jdk_43_method_22_code_4) rfl ((if0 _ _).trans (feq hd3).2) (by decide) (by decide) ?_
    show Steps p.tables e below (T1.setTop (mkF m 9 #[.val (.ref sb), .val (.int ch), .val (.int (0 : Int32)), .val (.int (4 : Int32))] [])) _
    refine XS.iloadN X1.here hx rfl (hb hby d_jdk_43_method_22_code_9) rfl ?_
    show Steps p.tables e below (T1.setTop (mkF m 10 #[.val (.ref sb), .val (.int ch), .val (.int (0 : Int32)), .val (.int (4 : Int32))] [(.int (0 : Int32))])) _
    refine XS.iconst X1.here hx rfl (hb hby d_jdk_43_method_22_code_10) ?_
    show Steps p.tables e below (T1.setTop (mkF m 11 #[.val (.ref sb), .val (.int ch), .val (.int (0 : Int32)), .val (.int (4 : Int32))] [(.int (0 : Int32)), (.int (0 : Int32))])) _
    exact st4 _ kk
  obtain ⟨cl6, Ar6, q6, S6, M6, H6, G6⟩ := id KS
  obtain ⟨_, _, ⟨T7, L7, k7, n7⟩, -, X7, ⟨Lc7, hQ7, l7, y7, z7⟩, st7⟩ := Jvm.LawKit.callS X4 hx (y := (⟨"java/lang/Math", "min", "(II)I"⟩ : MethodName)) hown (mvT hZ (hw _ (List.mem_of_getElem? (i := 106) rfl))) (mvT hZ (hw _ (List.mem_of_getElem? (i := 107) rfl))) (mvT hZ (hw _ (List.mem_of_getElem? (i := 104) rfl))) (mvT hZ (hw _ (List.mem_of_getElem? (i := 108) rfl))) (by decide) (backOf (W := 0) (own_min4 l Z a0 hw [] h0 n0 Z0) hZ (hw _ (List.mem_of_getElem? (i := 108) rfl)) (hw _ (List.mem_of_getElem? (i := 104) rfl)) (by decide) (by decide)) (g := (mkF m 18 #[.val (.ref sb), .val (.int ch), .val (.int (0 : Int32)), .val (.int (4 : Int32))] [(.int (4 : Int32)), (.int (4 : Int32))])) rfl (by rw [hml]; rfl) (argsL := [(.int (4 : Int32)), (.int (4 : Int32))]) (rest := []) (lenOf pd__II_I rfl) rfl (by show 2 * 0 + _ ≤ _; exact Nat.le_of_eq rfl) (hb hby d_jdk_43_method_22_code_18) (fun _ _ => ⟨rfl, e4q, (by decide : 0 + 0 ≤ _), (by decide : 0 + 0 ≤ _)⟩)
  dsimp only [Pt.U, Pt.locs, Pt.cells, Pt.slots] at X7 l7 y7 z7 st7 hQ7
  subst l7 y7 z7
  obtain ⟨rfl, N7q, e7q⟩ := hQ7
  have N7 := Fr.app N4 N7q
  have pre8 : ∀ t, Steps p.tables e below (T7.setTop (mkF m 21 #[.val (.ref sb), .val (.int ch), .val (.int (0 : Int32)), .val (.int (4 : Int32))] [(.int (4 : Int32))])) t → Steps p.tables e below (s₁.setTop (entryFrame m #[(.ref sb), (.int ch), (.int (0 : Int32)), (.int (4 : Int32))] 4)) t := by
    intro t kk
    refine pre5 t ?_
    show Steps p.tables e below (T4.setTop (mkF m 14 #[.val (.ref sb), .val (.int ch), .val (.int (0 : Int32)), .val (.int (4 : Int32))] [(.int (0 : Int32))])) _
    refine XS.istoreN X4.here hx rfl (hb hby d_jdk_43_method_22_code_14) rfl (l' := #[.val (.ref sb), .val (.int ch), .val (.int (0 : Int32)), .val (.int (4 : Int32))]) rfl ?_
    show Steps p.tables e below (T4.setTop (mkF m 15 #[.val (.ref sb), .val (.int ch), .val (.int (0 : Int32)), .val (.int (4 : Int32))] [])) _
    refine XS.iloadN X4.here hx rfl (hb hby d_jdk_43_method_22_code_15) rfl ?_
    show Steps p.tables e below (T4.setTop (mkF m 16 #[.val (.ref sb), .val (.int ch), .val (.int (0 : Int32)), .val (.int (4 : Int32))] [(.int (4 : Int32))])) _
    refine XS.aloadN X4.here hx rfl (hb hby d_jdk_43_method_22_code_16) rfl rfl ?_
    show Steps p.tables e below (T4.setTop (mkF m 17 #[.val (.ref sb), .val (.int ch), .val (.int (0 : Int32)), .val (.int (4 : Int32))] [(.ref sb), (.int (4 : Int32))])) _
    refine X4.arraylength hx (by rw [e4q]; exact Ar6.1) (State.isArrayOf_alike hZ.alike Ar6.2.1) (g := (mkF m 17 #[.val (.ref sb), .val (.int ch), .val (.int (0 : Int32)), .val (.int (4 : Int32))] [(.ref sb), (.int (4 : Int32))])) rfl rfl (hb hby d_jdk_43_method_22_code_17) _ ?_
    rw [len_of S6 M6]
    show Steps p.tables e below (T4.setTop (mkF m 18 #[.val (.ref sb), .val (.int ch), .val (.int (0 : Int32)), .val (.int (4 : Int32))] [(.int (4 : Int32)), (.int (4 : Int32))])) _
    exact st7 _ kk
  have hd9 : (0 : Int32) < (4 : Int32) := by decide
  obtain ⟨_, _, ⟨T10, L10, k10, n10⟩, -, X10, ⟨Lc10, hQ10, l10, y10, z10⟩, st10⟩ := Jvm.LawKit.callS X7 hx (y := (⟨"java/lang/StringLatin1", "indexOfChar", "([BIII)I"⟩ : MethodName)) hown (mvT hZ (hw _ (List.mem_of_getElem? (i := 109) rfl))) (mvT hZ (hw _ (List.mem_of_getElem? (i := 110) rfl))) (mvT hZ (hw _ (List.mem_of_getElem? (i := 73) rfl))) (mvT hZ (hw _ (List.mem_of_getElem? (i := 111) rfl))) (by decide) (backOf (W := 0) (own_ioc l Z a0 hw [] sb kS ch h0 n0 Z0 KS hsp) hZ (hw _ (List.mem_of_getElem? (i := 111) rfl)) (hw _ (List.mem_of_getElem? (i := 73) rfl)) (by decide) (by decide)) (g := (mkF m 33 #[.val (.ref sb), .val (.int ch), .val (.int (0 : Int32)), .val (.int (4 : Int32))] [(.int (4 : Int32)), (.int (0 : Int32)), (.int ch), (.ref sb)])) rfl (by rw [hml]; rfl) (argsL := [(.ref sb), (.int ch), (.int (0 : Int32)), (.int (4 : Int32))]) (rest := []) (lenOf pd___BIII_I rfl) rfl (by show 2 * 0 + _ ≤ _; exact Nat.le_of_eq rfl) (hb hby d_jdk_43_method_22_code_33) (fun _ _ => ⟨rfl, e7q, (by decide : 0 + 0 ≤ _), (by decide : 0 + 0 ≤ _)⟩)
  dsimp only [Pt.U, Pt.locs, Pt.cells, Pt.slots] at X10 l10 y10 z10 st10 hQ10
  subst l10 y10 z10
  obtain ⟨r1, rfl, N10q, e10q, hr1⟩ := hQ10
  have N10 := Fr.app N7 N10q
  have pre11 : ∀ t, Steps p.tables e below (T10.setTop (mkF m 36 #[.val (.ref sb), .val (.int ch), .val (.int (0 : Int32)), .val (.int (4 : Int32))] [(.int r1)])) t → Steps p.tables e below (s₁.setTop (entryFrame m #[(.ref sb), (.int ch), (.int (0 : Int32)), (.int (4 : Int32))] 4)) t := by
    intro t kk
    refine pre8 t ?_
    show Steps p.tables e below (T7.setTop (mkF m 21 #[.val (.ref sb), .val (.int ch), .val (.int (0 : Int32)), .val (.int (4 : Int32))] [(.int (4 : Int32))])) _
    refine XS.istoreN X7.here hx rfl (hb hby d_jdk_43_method_22_code_21) rfl (l' := #[.val (.ref sb), .val (.int ch), .val (.int (0 : Int32)), .val (.int (4 : Int32))]) rfl ?_
    show Steps p.tables e below (T7.setTop (mkF m 22 #[.val (.ref sb), .val (.int ch), .val (.int (0 : Int32)), .val (.int (4 : Int32))] [])) _
    refine XS.iloadN X7.here hx rfl (hb hby d_jdk_43_method_22_code_22) rfl ?_
    show Steps p.tables e below (T7.setTop (mkF m 23 #[.val (.ref sb), .val (.int ch), .val (.int (0 : Int32)), .val (.int (4 : Int32))] [(.int (0 : Int32))])) _
    refine XS.iloadN X7.here hx rfl (hb hby d_jdk_43_method_22_code_23) rfl ?_
    show Steps p.tables e below (T7.setTop (mkF m 24 #[.val (.ref sb), .val (.int ch), .val (.int (0 : Int32)), .val (.int (4 : Int32))] [(.int (4 : Int32)), (.int (0 : Int32))])) _
    refine XS.icmpYes X7.here hx rfl (pc0 := 24) (pc' := 29) rfl (hb hby d_jdk_43_method_22_code_24) rfl (tlt hd9).1 (by decide) (by decide) ?_
    show Steps p.tables e below (T7.setTop (mkF m 29 #[.val (.ref sb), .val (.int ch), .val (.int (0 : Int32)), .val (.int (4 : Int32))] [])) _
    refine XS.aloadN X7.here hx rfl (hb hby d_jdk_43_method_22_code_29) rfl rfl ?_
    show Steps p.tables e below (T7.setTop (mkF m 30 #[.val (.ref sb), .val (.int ch), .val (.int (0 : Int32)), .val (.int (4 : Int32))] [(.ref sb)])) _
    refine XS.iloadN X7.here hx rfl (hb hby d_jdk_43_method_22_code_30) rfl ?_
    show Steps p.tables e below (T7.setTop (mkF m 31 #[.val (.ref sb), .val (.int ch), .val (.int (0 : Int32)), .val (.int (4 : Int32))] [(.int ch), (.ref sb)])) _
    refine XS.iloadN X7.here hx rfl (hb hby d_jdk_43_method_22_code_31) rfl ?_
    show Steps p.tables e below (T7.setTop (mkF m 32 #[.val (.ref sb), .val (.int ch), .val (.int (0 : Int32)), .val (.int (4 : Int32))] [(.int (0 : Int32)), (.int ch), (.ref sb)])) _
    refine XS.iloadN X7.here hx rfl (hb hby d_jdk_43_method_22_code_32) rfl ?_
    show Steps p.tables e below (T7.setTop (mkF m 33 #[.val (.ref sb), .val (.int ch), .val (.int (0 : Int32)), .val (.int (4 : Int32))] [(.int (4 : Int32)), (.int (0 : Int32)), (.int ch), (.ref sb)])) _
    exact st10 _ kk
  obtain ⟨fs, hr, hrun, hended, hW, hsame⟩ := X10.leave (v := some (.int r1)) (fun h => by rw [Bd.returns] at h; cases h)
  refine ⟨_, _, pre11 _ ?_, hrun, hended, _, _, rfl, ?_, ⟨_, rfl⟩, hW, hsame.mono (by decide) (by decide)⟩
  · show Steps p.tables e below (T10.setTop (mkF m 36 #[.val (.ref sb), .val (.int ch), .val (.int (0 : Int32)), .val (.int (4 : Int32))] [(.int r1)])) _
    exact retI X10 hx Bd.returns (hb hby d_jdk_43_method_22_code_36) hr
  · show Q_own_io3 Z sb kS ch h0 n0 _ T10.heap _
    rw [e10q]
    exact ⟨r1, rfl, N10, rfl, hr1⟩
theorem d_jdk_42_method_154_code_0 : decode jdk_42_method_154_code 0 = .ok (.getstatic 38, 3) := by decide +kernel
theorem d_jdk_42_method_154_code_3 : decode jdk_42_method_154_code 3 = .ok (.ifCond .eq 14, 3) := by decide +kernel
theorem d_jdk_42_method_154_code_6 : decode jdk_42_method_154_code 6 = .ok (.aload_n 0, 1) := by decide +kernel
theorem d_jdk_42_method_154_code_7 : decode jdk_42_method_154_code 7 = .ok (.getfield 15, 3) := by decide +kernel
theorem d_jdk_42_method_154_code_10 : decode jdk_42_method_154_code 10 = .ok (.ifCond .ne 7, 3) := by decide +kernel
theorem d_jdk_42_method_154_code_13 : decode jdk_42_method_154_code 13 = .ok (.iconst 1, 1) := by decide +kernel
theorem d_jdk_42_method_154_code_14 : decode jdk_42_method_154_code 14 = .ok (.goto 4, 3) := by decide +kernel
theorem d_jdk_42_method_154_code_18 : decode jdk_42_method_154_code 18 = .ok (.ireturn, 1) := by decide +kernel
theorem ef_own_sl1 (m : MethodId) {sa : Addr} : entryFrame m #[(.ref sa)] 1 = mkF m 0 #[.val (.ref sa)] [] := by first | (simp [entryFrame, mkF, argsToLocals, Value.category]; done) | rfl
def Q_own_sl1 (Z : State) (sa : Addr) (G1 : Int32) (h0 : Heap) (n0 : Nat) (v : Option Value) (h : Heap) (L : List Loc) : Prop := v = some (.int (1 : Int32)) ∧ Fr n0 L ∧ h = h0
set_option maxRecDepth 65536 in
set_option maxHeartbeats 40000000 in
theorem own_sl1 (l : Launch) (Z : State) (a0 : Array Value) (hw : ∀ d ∈ tables_1, d.before a0 Z = true) (ws : List Jvm.Cond) (sa : Addr) (G1 : Int32) (h0 : Heap) (n0 : Nat) (Z0 : n0 ≤ h0.size) (CS : Fld Z h0 sa "java/lang/String" "coder" "B" (.int (0 : Int32))) (O2 : Sta Z Z.heap "java/lang/String" "COMPACT_STRINGS" "Z" (.int G1)) (P5 : ¬ G1 = (0 : Int32)) (XO : Old Z n0 h0) :
    MetFree l (⟨"java/lang/String", "isLatin1", "()Z"⟩ : MethodName) (head1 (Jvm.Cond.code (⟨"java/lang/String", "isLatin1", "()Z"⟩ : MethodName) jdk_42_method_154_code 1 (some .boolean) :: ws) ({ frames := 0, cells := 0, slots := 0, locals := 0 } : Room)) (fun a U => a = #[(.ref sa)] ∧ Z.Warmed39 U.vm ∧ U.heap = h0) (fun _ _ _ _ _ => True) (fun _ U o U' => ∃ v L, o = .returned v ∧ Q_own_sl1 Z sa G1 h0 n0 v U'.heap L ∧ FrameEnd U o U' L ({ frames := 0, cells := 0, slots := 0, locals := 0 } : Room).cells ({ frames := 0, cells := 0, slots := 0, locals := 0 } : Room).slots) := by
  refine MetFree.of_bodySF (plainFor_of_name pn_java_lang_String) hisR ?_
  intro p e s m args below meth c s₁ Bd hml0 hP hK
  obtain ⟨rfl, hZ, hh⟩ := hP
  have hx := Bd.exec
  have hby := Bd.bytes
  have hml : c.maxLocals = 1 := hml0
  have hown : s.vm.findClass "java/lang/String" = some m.cls := findClass_of_methodNamed Bd.named
  have hnm := (name_of_methodNamed Bd.named Bd.method).1
  have X0 : Stand p l e ({ frames := 0, cells := 0, slots := 0, locals := 0 } : Room) s m #[(.ref sa)] below meth c s₁ [] 0 0 := Stand.of_body Bd
  have e0 : s₁.heap = h0 := by rw [← hh, Bd.state]; rfl
  have N0 := Fr.nil n0
  have pre0 : ∀ t, Steps p.tables e below (s₁.setTop (mkF m 0 #[.val (.ref sa)] [])) t → Steps p.tables e below (s₁.setTop (entryFrame m #[(.ref sa)] 1)) t := fun t k => castTop (ef_own_sl1 m) k
  obtain ⟨T1, X1, e1, st1⟩ := getS2 X0 hx hZ hown (host := "") (Or.inl (hw _ (List.mem_of_getElem? (i := 19) rfl))) Via.refl e0 (O2.ext XO.2) (g := (mkF m 0 #[.val (.ref sa)] [])) rfl (hb hby d_jdk_42_method_154_code_0)
  have pre2 : ∀ t, Steps p.tables e below (T1.setTop (mkF m 3 #[.val (.ref sa)] [(.int G1)])) t → Steps p.tables e below (s₁.setTop (entryFrame m #[(.ref sa)] 1)) t := by
    intro t kk
    refine pre0 t ?_
    show Steps p.tables e below (s₁.setTop (mkF m 0 #[.val (.ref sa)] [])) _
    exact st1 _ kk
  obtain ⟨T3, X3, e3, st3⟩ := getF X1 hx hZ hown (host := "") (Or.inl (hw _ (List.mem_of_getElem? (i := 31) rfl))) Via.refl e1 CS (g := (mkF m 7 #[.val (.ref sa)] [(.ref sa)])) rfl rfl (hb hby d_jdk_42_method_154_code_7)
  have pre4 : ∀ t, Steps p.tables e below (T3.setTop (mkF m 10 #[.val (.ref sa)] [(.int (0 : Int32))])) t → Steps p.tables e below (s₁.setTop (entryFrame m #[(.ref sa)] 1)) t := by
    intro t kk
    refine pre2 t ?_
    show Steps p.tables e below (T1.setTop (mkF m 3 #[.val (.ref sa)] [(.int G1)])) _
    refine XS.ifNo X1.here hx rfl (hb hby d_jdk_42_method_154_code_3) rfl ((if0 _ _).trans (feq P5).1) ?_
    show Steps p.tables e below (T1.setTop (mkF m 6 #[.val (.ref sa)] [])) _
    refine XS.aloadN X1.here hx rfl (hb hby d_jdk_42_method_154_code_6) rfl rfl ?_
    show Steps p.tables e below (T1.setTop (mkF m 7 #[.val (.ref sa)] [(.ref sa)])) _
    exact st3 _ kk
  obtain ⟨fs, hr, hrun, hended, hW, hsame⟩ := X3.leave (v := some (.int (1 : Int32))) (fun h => by rw [Bd.returns] at h; cases h)
  refine ⟨_, _, pre4 _ ?_, hrun, hended, _, _, rfl, ?_, ⟨_, rfl⟩, hW, hsame.mono (by decide) (by decide)⟩
  · show Steps p.tables e below (T3.setTop (mkF m 10 #[.val (.ref sa)] [(.int (0 : Int32))])) _
    refine XS.ifNo X3.here hx rfl (hb hby d_jdk_42_method_154_code_10) rfl ((if0 _ _).trans (teq (rfl : (0 : Int32) = (0 : Int32))).2) ?_
    show Steps p.tables e below (T3.setTop (mkF m 13 #[.val (.ref sa)] [])) _
    refine XS.iconst X3.here hx rfl (hb hby d_jdk_42_method_154_code_13) ?_
    show Steps p.tables e below (T3.setTop (mkF m 14 #[.val (.ref sa)] [(.int (1 : Int32))])) _
    refine XS.goto X3.here hx rfl (pc0 := 14) (pc' := 18) rfl (hb hby d_jdk_42_method_154_code_14) (by decide) (by decide) ?_
    show Steps p.tables e below (T3.setTop (mkF m 18 #[.val (.ref sa)] [(.int (1 : Int32))])) _
    exact retN X3 hx (t := .boolean) Bd.returns (by simp) (hb hby d_jdk_42_method_154_code_18) hr
  · show Q_own_sl1 Z sa G1 h0 n0 _ T3.heap _
    rw [e3]
    exact ⟨rfl, N0, rfl⟩
theorem d_jdk_42_method_80_code_0 : decode jdk_42_method_80_code 0 = .ok (.aload_n 0, 1) := by decide +kernel
theorem pd___Z : parseMethodDescriptor "()Z" = some ⟨[], some .boolean⟩ := by decide +kernel
theorem d_jdk_42_method_80_code_1 : decode jdk_42_method_80_code 1 = .ok (.invokevirtual 492, 3) := by decide +kernel
theorem d_jdk_42_method_80_code_4 : decode jdk_42_method_80_code 4 = .ok (.ifCond .eq 19, 3) := by decide +kernel
theorem d_jdk_42_method_80_code_7 : decode jdk_42_method_80_code 7 = .ok (.aload_n 0, 1) := by decide +kernel
theorem d_jdk_42_method_80_code_8 : decode jdk_42_method_80_code 8 = .ok (.getfield 9, 3) := by decide +kernel
theorem d_jdk_42_method_80_code_11 : decode jdk_42_method_80_code 11 = .ok (.iload_n 1, 1) := by decide +kernel
theorem d_jdk_42_method_80_code_12 : decode jdk_42_method_80_code 12 = .ok (.iload_n 2, 1) := by decide +kernel
theorem d_jdk_42_method_80_code_13 : decode jdk_42_method_80_code 13 = .ok (.aload_n 0, 1) := by decide +kernel
theorem pd___I : parseMethodDescriptor "()I" = some ⟨[], some .int⟩ := by decide +kernel
theorem d_jdk_42_method_80_code_14 : decode jdk_42_method_80_code 14 = .ok (.invokevirtual 505, 3) := by decide +kernel
theorem d_jdk_42_method_80_code_17 : decode jdk_42_method_80_code 17 = .ok (.invokestatic 637, 3) := by decide +kernel
theorem d_jdk_42_method_80_code_20 : decode jdk_42_method_80_code 20 = .ok (.goto 16, 3) := by decide +kernel
theorem d_jdk_42_method_80_code_36 : decode jdk_42_method_80_code 36 = .ok (.ireturn, 1) := by decide +kernel
theorem ef_own_io2 (m : MethodId) {sa : Addr} {ch : Int32} : entryFrame m #[(.ref sa), (.int ch), (.int (0 : Int32))] 3 = mkF m 0 #[.val (.ref sa), .val (.int ch), .val (.int (0 : Int32))] [] := by first | (simp [entryFrame, mkF, argsToLocals, Value.category]; done) | rfl
def Q_own_io2 (Z : State) (sa sb : Addr) (kS : ClassId) (ch G1 : Int32) (h0 : Heap) (n0 : Nat) (v : Option Value) (h : Heap) (L : List Loc) : Prop := ∃ r : Int32, v = some (.int r) ∧ Fr n0 L ∧ h = h0 ∧ ¬ r < 0
set_option maxRecDepth 65536 in
set_option maxHeartbeats 40000000 in
theorem own_io2 (l : Launch) (Z : State) (a0 : Array Value) (hw : ∀ d ∈ tables_1, d.before a0 Z = true) (ws : List Jvm.Cond) (sa sb : Addr) (kS : ClassId) (ch G1 : Int32) (h0 : Heap) (n0 : Nat) (Z0 : n0 ≤ h0.size) (ES : Exa Z h0 sa "java/lang/String") (VS : Fld Z h0 sa "java/lang/String" "value" "[B" (.ref sb)) (CS : Fld Z h0 sa "java/lang/String" "coder" "B" (.int (0 : Int32))) (KS : Arv Z h0 sb kS .byte (4 : Int32) [(.int (46 : Int32)), (.int (95 : Int32)), (.int (126 : Int32)), (.int (45 : Int32))] (.int (0 : Int32))) (hsp : own_sp ch) (O2 : Sta Z Z.heap "java/lang/String" "COMPACT_STRINGS" "Z" (.int G1)) (P5 : ¬ G1 = (0 : Int32)) (XO : Old Z n0 h0) :
    MetFree l (⟨"java/lang/String", "indexOf", "(II)I"⟩ : MethodName) (head1 (Jvm.Cond.code (⟨"java/lang/String", "indexOf", "(II)I"⟩ : MethodName) jdk_42_method_80_code 3 (some .int) :: ws) ({ frames := 2, cells := 0, slots := 0, locals := 32 } : Room)) (fun a U => a = #[(.ref sa), (.int ch), (.int (0 : Int32))] ∧ Z.Warmed39 U.vm ∧ U.heap = h0) (fun _ _ _ _ _ => True) (fun _ U o U' => ∃ v L, o = .returned v ∧ Q_own_io2 Z sa sb kS ch G1 h0 n0 v U'.heap L ∧ FrameEnd U o U' L ({ frames := 2, cells := 0, slots := 0, locals := 32 } : Room).cells ({ frames := 2, cells := 0, slots := 0, locals := 32 } : Room).slots) := by
  refine MetFree.of_bodySF (plainFor_of_name pn_java_lang_String) hisR ?_
  intro p e s m args below meth c s₁ Bd hml0 hP hK
  obtain ⟨rfl, hZ, hh⟩ := hP
  have hx := Bd.exec
  have hby := Bd.bytes
  have hml : c.maxLocals = 3 := hml0
  have hown : s.vm.findClass "java/lang/String" = some m.cls := findClass_of_methodNamed Bd.named
  have hnm := (name_of_methodNamed Bd.named Bd.method).1
  have X0 : Stand p l e ({ frames := 2, cells := 0, slots := 0, locals := 32 } : Room) s m #[(.ref sa), (.int ch), (.int (0 : Int32))] below meth c s₁ [] 0 0 := Stand.of_body Bd
  have e0 : s₁.heap = h0 := by rw [← hh, Bd.state]; rfl
  have N0 := Fr.nil n0
  have pre0 : ∀ t, Steps p.tables e below (s₁.setTop (mkF m 0 #[.val (.ref sa), .val (.int ch), .val (.int (0 : Int32))] [])) t → Steps p.tables e below (s₁.setTop (entryFrame m #[(.ref sa), (.int ch), (.int (0 : Int32))] 3)) t := fun t k => castTop (ef_own_io2 m) k
  obtain ⟨cq1, kq1, q1a, q1b, q1c⟩ := isOf hZ e0 ES
  obtain ⟨_, _, ⟨T1, L1, k1, n1⟩, -, X1, ⟨Lc1, hQ1, l1, y1, z1⟩, st1⟩ := X0.virtualBack hx (y := (⟨"java/lang/String", "isLatin1", "()Z"⟩ : MethodName)) (z := (⟨"java/lang/String", "isLatin1", "()Z"⟩ : MethodName)) hown (mvT hZ (hw _ (List.mem_of_getElem? (i := 66) rfl))) (mvT hZ (hw _ (List.mem_of_getElem? (i := 67) rfl))) (notFace_of_selects (args := #[]) (mvT hZ (hw _ (List.mem_of_getElem? (i := 69) rfl)))) (mvT hZ (hw _ (List.mem_of_getElem? (i := 69) rfl))) (mvT hZ (hw _ (List.mem_of_getElem? (i := 68) rfl))) (by decide) (backOf (W := 0) (own_sl1 l Z a0 hw [] sa G1 h0 n0 Z0 CS O2 P5 XO) hZ (hw _ (List.mem_of_getElem? (i := 70) rfl)) (hw _ (List.mem_of_getElem? (i := 7) rfl)) (by decide) (by decide)) q1a q1c (g := (mkF m 1 #[.val (.ref sa), .val (.int ch), .val (.int (0 : Int32))] [(.ref sa)])) rfl (by rw [hml]; rfl) (Steps.refl _) (argsL := []) (rest := []) (lenOf pd___Z rfl) rfl (by show 2 * 0 + _ ≤ _; exact Nat.le_of_eq rfl) (hb hby d_jdk_42_method_80_code_1) (fun _ _ => ⟨rfl, e0, (by decide : 0 + 0 ≤ _), (by decide : 0 + 0 ≤ _)⟩)
  dsimp only [Pt.U, Pt.locs, Pt.cells, Pt.slots] at X1 l1 y1 z1 st1 hQ1
  subst l1 y1 z1
  obtain ⟨rfl, N1q, e1q⟩ := hQ1
  have N1 := Fr.app N0 N1q
  have pre2 : ∀ t, Steps p.tables e below (T1.setTop (mkF m 4 #[.val (.ref sa), .val (.int ch), .val (.int (0 : Int32))] [(.int (1 : Int32))])) t → Steps p.tables e below (s₁.setTop (entryFrame m #[(.ref sa), (.int ch), (.int (0 : Int32))] 3)) t := by
    intro t kk
    refine pre0 t ?_
    show Steps p.tables e below (s₁.setTop (mkF m 0 #[.val (.ref sa), .val (.int ch), .val (.int (0 : Int32))] [])) _
    refine XS.aloadN X0.here hx rfl (hb hby d_jdk_42_method_80_code_0) rfl rfl ?_
    show Steps p.tables e below (s₁.setTop (mkF m 1 #[.val (.ref sa), .val (.int ch), .val (.int (0 : Int32))] [(.ref sa)])) _
    exact st1.trans kk
  have hd3 : ¬ ((1 : Int32) = (0 : Int32)) := by decide
  obtain ⟨T4, X4, e4, st4⟩ := getF X1 hx hZ hown (host := "") (Or.inl (hw _ (List.mem_of_getElem? (i := 33) rfl))) Via.refl e1q VS (g := (mkF m 8 #[.val (.ref sa), .val (.int ch), .val (.int (0 : Int32))] [(.ref sa)])) rfl rfl (hb hby d_jdk_42_method_80_code_8)
  have pre5 : ∀ t, Steps p.tables e below (T4.setTop (mkF m 11 #[.val (.ref sa), .val (.int ch), .val (.int (0 : Int32))] [(.ref sb)])) t → Steps p.tables e below (s₁.setTop (entryFrame m #[(.ref sa), (.int ch), (.int (0 : Int32))] 3)) t := by
    intro t kk
    refine pre2 t ?_
    show Steps p.tables e below (T1.setTop (mkF m 4 #[.val (.ref sa), .val (.int ch), .val (.int (0 : Int32))] [(.int (1 : Int32))])) _
    refine XS.ifNo X1.here hx rfl (hb hby d_jdk_42_method_80_code_4) rfl ((if0 _ _).trans (feq hd3).1) ?_
    show Steps p.tables e below (T1.setTop (mkF m 7 #[.val (.ref sa), .val (.int ch), .val (.int (0 : Int32))] [])) _
    refine XS.aloadN X1.here hx rfl (hb hby d_jdk_42_method_80_code_7) rfl rfl ?_
    show Steps p.tables e below (T1.setTop (mkF m 8 #[.val (.ref sa), .val (.int ch), .val (.int (0 : Int32))] [(.ref sa)])) _
    exact st4 _ kk
  obtain ⟨cq6, kq6, q6a, q6b, q6c⟩ := isOf hZ e4 ES
  obtain ⟨_, _, ⟨T6, L6, k6, n6⟩, -, X6, ⟨Lc6, hQ6, l6, y6, z6⟩, st6⟩ := X4.virtualBack hx (y := (⟨"java/lang/String", "length", "()I"⟩ : MethodName)) (z := (⟨"java/lang/String", "length", "()I"⟩ : MethodName)) hown (mvT hZ (hw _ (List.mem_of_getElem? (i := 95) rfl))) (mvT hZ (hw _ (List.mem_of_getElem? (i := 52) rfl))) (notFace_of_selects (args := #[]) (mvT hZ (hw _ (List.mem_of_getElem? (i := 54) rfl)))) (mvT hZ (hw _ (List.mem_of_getElem? (i := 54) rfl))) (mvT hZ (hw _ (List.mem_of_getElem? (i := 53) rfl))) (by decide) (backOf (W := 3) (own_slen l Z a0 hw [] sa sb kS (4 : Int32) [(.int (46 : Int32)), (.int (95 : Int32)), (.int (126 : Int32)), (.int (45 : Int32))] G1 h0 n0 Z0 ES VS CS KS O2 P5 XO) hZ (hw _ (List.mem_of_getElem? (i := 55) rfl)) (hw _ (List.mem_of_getElem? (i := 7) rfl)) (by decide) (by decide)) q6a q6c (g := (mkF m 14 #[.val (.ref sa), .val (.int ch), .val (.int (0 : Int32))] [(.ref sa), (.int (0 : Int32)), (.int ch), (.ref sb)])) rfl (by rw [hml]; rfl) (Steps.refl _) (argsL := []) (rest := [(.int (0 : Int32)), (.int ch), (.ref sb)]) (lenOf pd___I rfl) rfl (by show 2 * 0 + _ ≤ _; exact Nat.le_of_eq rfl) (hb hby d_jdk_42_method_80_code_14) (fun _ _ => ⟨rfl, e4, (by decide : 0 + 0 ≤ _), (by decide : 0 + 0 ≤ _)⟩)
  dsimp only [Pt.U, Pt.locs, Pt.cells, Pt.slots] at X6 l6 y6 z6 st6 hQ6
  subst l6 y6 z6
  obtain ⟨rfl, N6q, e6q⟩ := hQ6
  have N6 := Fr.app N1 N6q
  have pre7 : ∀ t, Steps p.tables e below (T6.setTop (mkF m 17 #[.val (.ref sa), .val (.int ch), .val (.int (0 : Int32))] [(.int (4 : Int32)), (.int (0 : Int32)), (.int ch), (.ref sb)])) t → Steps p.tables e below (s₁.setTop (entryFrame m #[(.ref sa), (.int ch), (.int (0 : Int32))] 3)) t := by
    intro t kk
    refine pre5 t ?_
    show Steps p.tables e below (T4.setTop (mkF m 11 #[.val (.ref sa), .val (.int ch), .val (.int (0 : Int32))] [(.ref sb)])) _
    refine XS.iloadN X4.here hx rfl (hb hby d_jdk_42_method_80_code_11) rfl ?_
    show Steps p.tables e below (T4.setTop (mkF m 12 #[.val (.ref sa), .val (.int ch), .val (.int (0 : Int32))] [(.int ch), (.ref sb)])) _
    refine XS.iloadN X4.here hx rfl (hb hby d_jdk_42_method_80_code_12) rfl ?_
    show Steps p.tables e below (T4.setTop (mkF m 13 #[.val (.ref sa), .val (.int ch), .val (.int (0 : Int32))] [(.int (0 : Int32)), (.int ch), (.ref sb)])) _
    refine XS.aloadN X4.here hx rfl (hb hby d_jdk_42_method_80_code_13) rfl rfl ?_
    show Steps p.tables e below (T4.setTop (mkF m 14 #[.val (.ref sa), .val (.int ch), .val (.int (0 : Int32))] [(.ref sa), (.int (0 : Int32)), (.int ch), (.ref sb)])) _
    exact st6.trans kk
  obtain ⟨_, _, ⟨T8, L8, k8, n8⟩, -, X8, ⟨Lc8, hQ8, l8, y8, z8⟩, st8⟩ := Jvm.LawKit.callS X6 hx (y := (⟨"java/lang/StringLatin1", "indexOf", "([BIII)I"⟩ : MethodName)) hown (mvT hZ (hw _ (List.mem_of_getElem? (i := 96) rfl))) (mvT hZ (hw _ (List.mem_of_getElem? (i := 97) rfl))) (mvT hZ (hw _ (List.mem_of_getElem? (i := 73) rfl))) (mvT hZ (hw _ (List.mem_of_getElem? (i := 98) rfl))) (by decide) (backOf (W := 0) (own_io3 l Z a0 hw [] sb kS ch h0 n0 Z0 KS hsp) hZ (hw _ (List.mem_of_getElem? (i := 98) rfl)) (hw _ (List.mem_of_getElem? (i := 73) rfl)) (by decide) (by decide)) (g := (mkF m 17 #[.val (.ref sa), .val (.int ch), .val (.int (0 : Int32))] [(.int (4 : Int32)), (.int (0 : Int32)), (.int ch), (.ref sb)])) rfl (by rw [hml]; rfl) (argsL := [(.ref sb), (.int ch), (.int (0 : Int32)), (.int (4 : Int32))]) (rest := []) (lenOf pd___BIII_I rfl) rfl (by show 2 * 0 + _ ≤ _; exact Nat.le_of_eq rfl) (hb hby d_jdk_42_method_80_code_17) (fun _ _ => ⟨rfl, e6q, (by decide : 0 + 0 ≤ _), (by decide : 0 + 0 ≤ _)⟩)
  dsimp only [Pt.U, Pt.locs, Pt.cells, Pt.slots] at X8 l8 y8 z8 st8 hQ8
  subst l8 y8 z8
  obtain ⟨r1, rfl, N8q, e8q, hr1⟩ := hQ8
  have N8 := Fr.app N6 N8q
  have pre9 : ∀ t, Steps p.tables e below (T8.setTop (mkF m 20 #[.val (.ref sa), .val (.int ch), .val (.int (0 : Int32))] [(.int r1)])) t → Steps p.tables e below (s₁.setTop (entryFrame m #[(.ref sa), (.int ch), (.int (0 : Int32))] 3)) t := by
    intro t kk
    refine pre7 t ?_
    show Steps p.tables e below (T6.setTop (mkF m 17 #[.val (.ref sa), .val (.int ch), .val (.int (0 : Int32))] [(.int (4 : Int32)), (.int (0 : Int32)), (.int ch), (.ref sb)])) _
    exact st8 _ kk
  obtain ⟨fs, hr, hrun, hended, hW, hsame⟩ := X8.leave (v := some (.int r1)) (fun h => by rw [Bd.returns] at h; cases h)
  refine ⟨_, _, pre9 _ ?_, hrun, hended, _, _, rfl, ?_, ⟨_, rfl⟩, hW, hsame.mono (by decide) (by decide)⟩
  · show Steps p.tables e below (T8.setTop (mkF m 20 #[.val (.ref sa), .val (.int ch), .val (.int (0 : Int32))] [(.int r1)])) _
    refine XS.goto X8.here hx rfl (pc0 := 20) (pc' := 36) rfl (hb hby d_jdk_42_method_80_code_20) (by decide) (by decide) ?_
    show Steps p.tables e below (T8.setTop (mkF m 36 #[.val (.ref sa), .val (.int ch), .val (.int (0 : Int32))] [(.int r1)])) _
    exact retI X8 hx Bd.returns (hb hby d_jdk_42_method_80_code_36) hr
  · show Q_own_io2 Z sa sb kS ch G1 h0 n0 _ T8.heap _
    rw [e8q]
    exact ⟨r1, rfl, N8, rfl, hr1⟩
theorem d_jdk_42_method_79_code_0 : decode jdk_42_method_79_code 0 = .ok (.aload_n 0, 1) := by decide +kernel
theorem d_jdk_42_method_79_code_1 : decode jdk_42_method_79_code 1 = .ok (.iload_n 1, 1) := by decide +kernel
theorem d_jdk_42_method_79_code_2 : decode jdk_42_method_79_code 2 = .ok (.iconst 0, 1) := by decide +kernel
theorem d_jdk_42_method_79_code_3 : decode jdk_42_method_79_code 3 = .ok (.invokevirtual 633, 3) := by decide +kernel
theorem d_jdk_42_method_79_code_6 : decode jdk_42_method_79_code 6 = .ok (.ireturn, 1) := by decide +kernel
theorem ef_own_io1 (m : MethodId) {sa : Addr} {ch : Int32} : entryFrame m #[(.ref sa), (.int ch)] 2 = mkF m 0 #[.val (.ref sa), .val (.int ch)] [] := by first | (simp [entryFrame, mkF, argsToLocals, Value.category]; done) | rfl
def Q_own_io1 (Z : State) (sa sb : Addr) (kS : ClassId) (ch G1 : Int32) (h0 : Heap) (n0 : Nat) (v : Option Value) (h : Heap) (L : List Loc) : Prop := ∃ r : Int32, v = some (.int r) ∧ Fr n0 L ∧ h = h0 ∧ ¬ r < 0
set_option maxRecDepth 65536 in
set_option maxHeartbeats 40000000 in
theorem own_io1 (l : Launch) (Z : State) (a0 : Array Value) (hw : ∀ d ∈ tables_1, d.before a0 Z = true) (ws : List Jvm.Cond) (sa sb : Addr) (kS : ClassId) (ch G1 : Int32) (h0 : Heap) (n0 : Nat) (Z0 : n0 ≤ h0.size) (ES : Exa Z h0 sa "java/lang/String") (VS : Fld Z h0 sa "java/lang/String" "value" "[B" (.ref sb)) (CS : Fld Z h0 sa "java/lang/String" "coder" "B" (.int (0 : Int32))) (KS : Arv Z h0 sb kS .byte (4 : Int32) [(.int (46 : Int32)), (.int (95 : Int32)), (.int (126 : Int32)), (.int (45 : Int32))] (.int (0 : Int32))) (hsp : own_sp ch) (O2 : Sta Z Z.heap "java/lang/String" "COMPACT_STRINGS" "Z" (.int G1)) (P5 : ¬ G1 = (0 : Int32)) (XO : Old Z n0 h0) :
    MetFree l (⟨"java/lang/String", "indexOf", "(I)I"⟩ : MethodName) (head1 (Jvm.Cond.code (⟨"java/lang/String", "indexOf", "(I)I"⟩ : MethodName) jdk_42_method_79_code 2 (some .int) :: ws) ({ frames := 3, cells := 0, slots := 0, locals := 46 } : Room)) (fun a U => a = #[(.ref sa), (.int ch)] ∧ Z.Warmed39 U.vm ∧ U.heap = h0) (fun _ _ _ _ _ => True) (fun _ U o U' => ∃ v L, o = .returned v ∧ Q_own_io1 Z sa sb kS ch G1 h0 n0 v U'.heap L ∧ FrameEnd U o U' L ({ frames := 3, cells := 0, slots := 0, locals := 46 } : Room).cells ({ frames := 3, cells := 0, slots := 0, locals := 46 } : Room).slots) := by
  refine MetFree.of_bodySF (plainFor_of_name pn_java_lang_String) hisR ?_
  intro p e s m args below meth c s₁ Bd hml0 hP hK
  obtain ⟨rfl, hZ, hh⟩ := hP
  have hx := Bd.exec
  have hby := Bd.bytes
  have hml : c.maxLocals = 2 := hml0
  have hown : s.vm.findClass "java/lang/String" = some m.cls := findClass_of_methodNamed Bd.named
  have hnm := (name_of_methodNamed Bd.named Bd.method).1
  have X0 : Stand p l e ({ frames := 3, cells := 0, slots := 0, locals := 46 } : Room) s m #[(.ref sa), (.int ch)] below meth c s₁ [] 0 0 := Stand.of_body Bd
  have e0 : s₁.heap = h0 := by rw [← hh, Bd.state]; rfl
  have N0 := Fr.nil n0
  have pre0 : ∀ t, Steps p.tables e below (s₁.setTop (mkF m 0 #[.val (.ref sa), .val (.int ch)] [])) t → Steps p.tables e below (s₁.setTop (entryFrame m #[(.ref sa), (.int ch)] 2)) t := fun t k => castTop (ef_own_io1 m) k
  obtain ⟨cq1, kq1, q1a, q1b, q1c⟩ := isOf hZ e0 ES
  obtain ⟨_, _, ⟨T1, L1, k1, n1⟩, -, X1, ⟨Lc1, hQ1, l1, y1, z1⟩, st1⟩ := X0.virtualBack hx (y := (⟨"java/lang/String", "indexOf", "(II)I"⟩ : MethodName)) (z := (⟨"java/lang/String", "indexOf", "(II)I"⟩ : MethodName)) hown (mvT hZ (hw _ (List.mem_of_getElem? (i := 90) rfl))) (mvT hZ (hw _ (List.mem_of_getElem? (i := 91) rfl))) (notFace_of_selects (args := #[]) (mvT hZ (hw _ (List.mem_of_getElem? (i := 93) rfl)))) (mvT hZ (hw _ (List.mem_of_getElem? (i := 93) rfl))) (mvT hZ (hw _ (List.mem_of_getElem? (i := 92) rfl))) (by decide) (backOf (W := 0) (own_io2 l Z a0 hw [] sa sb kS ch G1 h0 n0 Z0 ES VS CS KS hsp O2 P5 XO) hZ (hw _ (List.mem_of_getElem? (i := 94) rfl)) (hw _ (List.mem_of_getElem? (i := 7) rfl)) (by decide) (by decide)) q1a q1c (g := (mkF m 3 #[.val (.ref sa), .val (.int ch)] [(.int (0 : Int32)), (.int ch), (.ref sa)])) rfl (by rw [hml]; rfl) (Steps.refl _) (argsL := [(.int ch), (.int (0 : Int32))]) (rest := []) (lenOf pd__II_I rfl) rfl (by show 2 * 0 + _ ≤ _; exact Nat.le_of_eq rfl) (hb hby d_jdk_42_method_79_code_3) (fun _ _ => ⟨rfl, e0, (by decide : 0 + 0 ≤ _), (by decide : 0 + 0 ≤ _)⟩)
  dsimp only [Pt.U, Pt.locs, Pt.cells, Pt.slots] at X1 l1 y1 z1 st1 hQ1
  subst l1 y1 z1
  obtain ⟨r1, rfl, N1q, e1q, hr1⟩ := hQ1
  have N1 := Fr.app N0 N1q
  have pre2 : ∀ t, Steps p.tables e below (T1.setTop (mkF m 6 #[.val (.ref sa), .val (.int ch)] [(.int r1)])) t → Steps p.tables e below (s₁.setTop (entryFrame m #[(.ref sa), (.int ch)] 2)) t := by
    intro t kk
    refine pre0 t ?_
    show Steps p.tables e below (s₁.setTop (mkF m 0 #[.val (.ref sa), .val (.int ch)] [])) _
    refine XS.aloadN X0.here hx rfl (hb hby d_jdk_42_method_79_code_0) rfl rfl ?_
    show Steps p.tables e below (s₁.setTop (mkF m 1 #[.val (.ref sa), .val (.int ch)] [(.ref sa)])) _
    refine XS.iloadN X0.here hx rfl (hb hby d_jdk_42_method_79_code_1) rfl ?_
    show Steps p.tables e below (s₁.setTop (mkF m 2 #[.val (.ref sa), .val (.int ch)] [(.int ch), (.ref sa)])) _
    refine XS.iconst X0.here hx rfl (hb hby d_jdk_42_method_79_code_2) ?_
    show Steps p.tables e below (s₁.setTop (mkF m 3 #[.val (.ref sa), .val (.int ch)] [(.int (0 : Int32)), (.int ch), (.ref sa)])) _
    exact st1.trans kk
  obtain ⟨fs, hr, hrun, hended, hW, hsame⟩ := X1.leave (v := some (.int r1)) (fun h => by rw [Bd.returns] at h; cases h)
  refine ⟨_, _, pre2 _ ?_, hrun, hended, _, _, rfl, ?_, ⟨_, rfl⟩, hW, hsame.mono (by decide) (by decide)⟩
  · show Steps p.tables e below (T1.setTop (mkF m 6 #[.val (.ref sa), .val (.int ch)] [(.int r1)])) _
    exact retI X1 hx Bd.returns (hb hby d_jdk_42_method_79_code_6) hr
  · show Q_own_io1 Z sa sb kS ch G1 h0 n0 _ T1.heap _
    rw [e1q]
    exact ⟨r1, rfl, N1, rfl, hr1⟩
instance (c : Int32) : Decidable (own_sp c) := inferInstanceAs (Decidable (_ ∨ _ ∨ _ ∨ _))
instance (c : Int32) : Decidable (own_an c) := inferInstanceAs (Decidable ((_ ∧ _) ∨ (_ ∧ _) ∨ (_ ∧ _)))
instance (c : Int32) : Decidable (own_ok c) := inferInstanceAs (Decidable (_ ∨ _))
def own_spb (c : Int32) : Nat := if own_sp c then 1 else 0
theorem own_spb1 {c : Int32} (h : own_sp c) : own_spb c = 1 := if_pos h
theorem own_nsp {c : Int32} (h : own_an c) : ¬ own_sp c := by
  intro q
  rcases q with rfl | rfl | rfl | rfl <;> revert h <;> decide
theorem own_spb0 {c : Int32} (h : own_an c) : own_spb c = 0 := if_neg (own_nsp h)
def own_cnt (cs : List Int32) : Nat → Nat
  | 0 => 0
  | i + 1 => own_cnt cs i + own_spb (cs.getD i 0)
theorem own_cntS (cs : List Int32) (i : Nat) : own_cnt cs (i + 1) = own_cnt cs i + own_spb (cs.getD i 0) := rfl
theorem own_cntM (cs : List Int32) {i j : Nat} (h : i ≤ j) : own_cnt cs i ≤ own_cnt cs j := by
  induction h with
  | refl => exact Nat.le_refl _
  | step _ ih => exact Nat.le_trans ih (Nat.le_add_right _ _)
theorem own_cntL (cs : List Int32) (i : Nat) : own_cnt cs i ≤ i := by
  induction i with
  | zero => exact Nat.le_refl _
  | succ i ih =>
    have q : own_spb (cs.getD i 0) ≤ 1 := by unfold own_spb; split <;> decide
    rw [own_cntS]; omega
theorem own_inc {i : Nat} (h : i + 1 ≤ 4000) : Int32.ofNat i + (1 : Int32) = Int32.ofNat (i + 1) := own_addN (b := 1) h
theorem pn_com_example_deadline_deadline_Timer : plainName "com/example/deadline/deadline/Timer" = true := by first | (simp [plainName, overriddenIn]; done) | decide +kernel
theorem d_prog_45_method_15_code_0 : decode prog_45_method_15_code 0 = .ok (.aload_n 0, 1) := by decide +kernel
theorem d_prog_45_method_15_code_1 : decode prog_45_method_15_code 1 = .ok (.ldc 237, 2) := by decide +kernel
theorem pd__Ljava_lang_Object_Ljava_lang_String__Ljava_lang_Object_ : parseMethodDescriptor "(Ljava/lang/Object;Ljava/lang/String;)Ljava/lang/Object;" = some ⟨[(.object "java/lang/Object"), (.object "java/lang/String")], some (.object "java/lang/Object")⟩ := by decide +kernel
theorem d_prog_45_method_15_code_3 : decode prog_45_method_15_code 3 = .ok (.invokestatic 15, 3) := by decide +kernel
theorem d_prog_45_method_15_code_6 : decode prog_45_method_15_code 6 = .ok (.pop, 1) := by decide +kernel
theorem d_prog_45_method_15_code_7 : decode prog_45_method_15_code 7 = .ok (.aload_n 0, 1) := by decide +kernel
theorem d_prog_45_method_15_code_8 : decode prog_45_method_15_code 8 = .ok (.invokevirtual 238, 3) := by decide +kernel
theorem d_prog_45_method_15_code_11 : decode prog_45_method_15_code 11 = .ok (.ifCond .ne 17, 3) := by decide +kernel
theorem d_prog_45_method_15_code_14 : decode prog_45_method_15_code 14 = .ok (.aload_n 0, 1) := by decide +kernel
theorem d_prog_45_method_15_code_15 : decode prog_45_method_15_code 15 = .ok (.invokevirtual 239, 3) := by decide +kernel
theorem d_prog_45_method_15_code_18 : decode prog_45_method_15_code 18 = .ok (.sipush 128, 3) := by decide +kernel
theorem d_prog_45_method_15_code_21 : decode prog_45_method_15_code 21 = .ok (.if_icmp .gt 7, 3) := by decide +kernel
theorem d_prog_45_method_15_code_24 : decode prog_45_method_15_code 24 = .ok (.iconst 1, 1) := by decide +kernel
theorem d_prog_45_method_15_code_25 : decode prog_45_method_15_code 25 = .ok (.goto 4, 3) := by decide +kernel
theorem d_prog_45_method_15_code_29 : decode prog_45_method_15_code 29 = .ok (.istore_n 1, 1) := by decide +kernel
theorem d_prog_45_method_15_code_30 : decode prog_45_method_15_code 30 = .ok (.iconst 0, 1) := by decide +kernel
theorem d_prog_45_method_15_code_31 : decode prog_45_method_15_code 31 = .ok (.istore_n 2, 1) := by decide +kernel
theorem d_prog_45_method_15_code_32 : decode prog_45_method_15_code 32 = .ok (.iload_n 1, 1) := by decide +kernel
theorem d_prog_45_method_15_code_33 : decode prog_45_method_15_code 33 = .ok (.ifCond .eq 74, 3) := by decide +kernel
theorem d_prog_45_method_15_code_36 : decode prog_45_method_15_code 36 = .ok (.iload_n 2, 1) := by decide +kernel
theorem d_prog_45_method_15_code_37 : decode prog_45_method_15_code 37 = .ok (.aload_n 0, 1) := by decide +kernel
theorem d_prog_45_method_15_code_38 : decode prog_45_method_15_code 38 = .ok (.invokevirtual 239, 3) := by decide +kernel
theorem d_prog_45_method_15_code_41 : decode prog_45_method_15_code 41 = .ok (.if_icmp .ge 66, 3) := by decide +kernel
theorem d_prog_45_method_15_code_44 : decode prog_45_method_15_code 44 = .ok (.aload_n 0, 1) := by decide +kernel
theorem d_prog_45_method_15_code_45 : decode prog_45_method_15_code 45 = .ok (.iload_n 2, 1) := by decide +kernel
theorem pd__I_C : parseMethodDescriptor "(I)C" = some ⟨[.int], some .char⟩ := by decide +kernel
theorem d_prog_45_method_15_code_46 : decode prog_45_method_15_code 46 = .ok (.invokevirtual 242, 3) := by decide +kernel
theorem d_prog_45_method_15_code_49 : decode prog_45_method_15_code 49 = .ok (.istore_n 3, 1) := by decide +kernel
theorem d_prog_45_method_15_code_50 : decode prog_45_method_15_code 50 = .ok (.iload_n 3, 1) := by decide +kernel
theorem d_prog_45_method_15_code_51 : decode prog_45_method_15_code 51 = .ok (.bipush 65, 2) := by decide +kernel
theorem d_prog_45_method_15_code_53 : decode prog_45_method_15_code 53 = .ok (.if_icmp .lt 9, 3) := by decide +kernel
theorem d_prog_45_method_15_code_56 : decode prog_45_method_15_code 56 = .ok (.iload_n 3, 1) := by decide +kernel
theorem d_prog_45_method_15_code_57 : decode prog_45_method_15_code 57 = .ok (.bipush 90, 2) := by decide +kernel
theorem d_prog_45_method_15_code_59 : decode prog_45_method_15_code 59 = .ok (.if_icmp .le 36, 3) := by decide +kernel
theorem d_prog_45_method_15_code_95 : decode prog_45_method_15_code 95 = .ok (.iconst 1, 1) := by decide +kernel
theorem d_prog_45_method_15_code_96 : decode prog_45_method_15_code 96 = .ok (.goto 4, 3) := by decide +kernel
theorem d_prog_45_method_15_code_100 : decode prog_45_method_15_code 100 = .ok (.istore_n 1, 1) := by decide +kernel
theorem d_prog_45_method_15_code_101 : decode prog_45_method_15_code 101 = .ok (.iinc 2 1, 3) := by decide +kernel
theorem d_prog_45_method_15_code_104 : decode prog_45_method_15_code 104 = .ok (.goto (-72), 3) := by decide +kernel
theorem d_prog_45_method_15_code_62 : decode prog_45_method_15_code 62 = .ok (.iload_n 3, 1) := by decide +kernel
theorem d_prog_45_method_15_code_63 : decode prog_45_method_15_code 63 = .ok (.bipush 97, 2) := by decide +kernel
theorem d_prog_45_method_15_code_65 : decode prog_45_method_15_code 65 = .ok (.if_icmp .lt 9, 3) := by decide +kernel
theorem d_prog_45_method_15_code_68 : decode prog_45_method_15_code 68 = .ok (.iload_n 3, 1) := by decide +kernel
theorem d_prog_45_method_15_code_69 : decode prog_45_method_15_code 69 = .ok (.bipush 122, 2) := by decide +kernel
theorem d_prog_45_method_15_code_71 : decode prog_45_method_15_code 71 = .ok (.if_icmp .le 24, 3) := by decide +kernel
theorem d_prog_45_method_15_code_74 : decode prog_45_method_15_code 74 = .ok (.iload_n 3, 1) := by decide +kernel
theorem d_prog_45_method_15_code_75 : decode prog_45_method_15_code 75 = .ok (.bipush 48, 2) := by decide +kernel
theorem d_prog_45_method_15_code_77 : decode prog_45_method_15_code 77 = .ok (.if_icmp .lt 9, 3) := by decide +kernel
theorem d_prog_45_method_15_code_80 : decode prog_45_method_15_code 80 = .ok (.iload_n 3, 1) := by decide +kernel
theorem d_prog_45_method_15_code_81 : decode prog_45_method_15_code 81 = .ok (.bipush 57, 2) := by decide +kernel
theorem d_prog_45_method_15_code_83 : decode prog_45_method_15_code 83 = .ok (.if_icmp .le 12, 3) := by decide +kernel
theorem d_prog_45_method_15_code_86 : decode prog_45_method_15_code 86 = .ok (.ldc 246, 2) := by decide +kernel
theorem d_prog_45_method_15_code_88 : decode prog_45_method_15_code 88 = .ok (.iload_n 3, 1) := by decide +kernel
theorem pd__I_I : parseMethodDescriptor "(I)I" = some ⟨[.int], some .int⟩ := by decide +kernel
theorem d_prog_45_method_15_code_89 : decode prog_45_method_15_code 89 = .ok (.invokevirtual 248, 3) := by decide +kernel
theorem d_prog_45_method_15_code_92 : decode prog_45_method_15_code 92 = .ok (.ifCond .lt 7, 3) := by decide +kernel
theorem d_prog_45_method_15_code_107 : decode prog_45_method_15_code 107 = .ok (.iload_n 1, 1) := by decide +kernel
theorem d_prog_45_method_15_code_108 : decode prog_45_method_15_code 108 = .ok (.ifCond .ne 13, 3) := by decide +kernel
theorem d_prog_45_method_15_code_121 : decode prog_45_method_15_code 121 = .ok (.return_, 1) := by decide +kernel
theorem ef_own_chk (m : MethodId) {sa : Addr} : entryFrame m #[(.ref sa)] 4 = mkF m 0 #[.val (.ref sa), .unset, .unset, .unset] [] := by first | (simp [entryFrame, mkF, argsToLocals, Value.category]; done) | rfl
def Q_own_chk (Z : State) (sa sb : Addr) (kS : ClassId) (cs : List Int32) (G1 : Int32) (G3 : Value) (h0 : Heap) (n0 : Nat) (v : Option Value) (h : Heap) (L : List Loc) : Prop := v = none ∧ Fr n0 L ∧ Keep h0 h []
set_option maxRecDepth 65536 in
set_option maxHeartbeats 40000000 in
theorem own_chk (l : Launch) (Z : State) (a0 : Array Value) (hw : ∀ d ∈ tables_1, d.before a0 Z = true) (ws : List Jvm.Cond) (sa sb : Addr) (kS : ClassId) (cs : List Int32) (G1 : Int32) (G3 : Value) (h0 : Heap) (n0 : Nat) (Z0 : n0 ≤ h0.size) (ES : Exa Z h0 sa "java/lang/String") (VS : Fld Z h0 sa "java/lang/String" "value" "[B" (.ref sb)) (CS : Fld Z h0 sa "java/lang/String" "coder" "B" (.int (0 : Int32))) (KS : Arv Z h0 sb kS .byte (Int32.ofNat cs.length) (own_B cs) (.int (0 : Int32))) (lt : own_Lt cs) (hok : ∀ i, i < cs.length → own_ok (cs.getD i 0)) (hl1 : 1 ≤ cs.length) (hl2 : cs.length ≤ 128) (h4 : own_cnt cs cs.length ≤ 4) (O2 : Sta Z Z.heap "java/lang/String" "COMPACT_STRINGS" "Z" (.int G1)) (P5 : ¬ G1 = (0 : Int32)) (O4 : Sta Z Z.heap "jdk/internal/util/Preconditions" "SIOOBE_FORMATTER" "Ljava/util/function/BiFunction;" G3) (rG3 : G3.isRef = true) (XO : Old Z n0 h0) :
    MetFree l (⟨"com/example/deadline/deadline/Timer", "checkId", "(Ljava/lang/String;)V"⟩ : MethodName) (head1 (Jvm.Cond.code (⟨"com/example/deadline/deadline/Timer", "checkId", "(Ljava/lang/String;)V"⟩ : MethodName) prog_45_method_15_code 4 none :: ws) ({ frames := 7, cells := 10, slots := 92, locals := 161 } : Room)) (fun a U => a = #[(.ref sa)] ∧ Z.Warmed39 U.vm ∧ U.heap = h0 ∧ CHv Z own_EL U.vm h0) (fun _ _ _ _ _ => True) (fun _ U o U' => ∃ v L, o = .returned v ∧ Q_own_chk Z sa sb kS cs G1 G3 h0 n0 v U'.heap L ∧ CHr Z own_EL U.vm U.heap U'.vm U'.heap ∧ ReturnedEndW U o U' L ({ frames := 7, cells := 10, slots := 92, locals := 161 } : Room).cells ({ frames := 7, cells := 10, slots := 92, locals := 161 } : Room).slots) := by
  refine MetFree.of_bodySF (plainFor_of_name pn_com_example_deadline_deadline_Timer) hisR ?_
  intro p e s m args below meth c s₁ Bd hml0 hP hK
  obtain ⟨rfl, hZ, hh, hC0⟩ := hP
  have hx := Bd.exec
  have hby := Bd.bytes
  have hml : c.maxLocals = 4 := hml0
  have hown : s.vm.findClass "com/example/deadline/deadline/Timer" = some m.cls := findClass_of_methodNamed Bd.named
  have hnm := (name_of_methodNamed Bd.named Bd.method).1
  have X0 : Stand p l e ({ frames := 7, cells := 10, slots := 92, locals := 161 } : Room) (s.setVm s.vm) m #[(.ref sa)] below meth c s₁ [] 0 0 := Stand.of_body Bd
  have e0 : s₁.heap = h0 := by rw [← hh, Bd.state]; rfl
  have N0 := Fr.nil n0
  have pre0 : ∀ t, Steps p.tables e below (s₁.setTop (mkF m 0 #[.val (.ref sa), .unset, .unset, .unset] [])) t → Steps p.tables e below (s₁.setTop (entryFrame m #[(.ref sa)] 4)) t := fun t k => castTop (ef_own_chk m) k
  have hown : (s.setVm s.vm).vm.findClass "com/example/deadline/deadline/Timer" = some m.cls := hown
  have hZ : Z.Warmed39 (s.setVm s.vm).vm := hZ
  have hS0 : s.Since s.vm 0 := (State.WarmedH.refl s).since 0
  have hk0 : 0 ≤ h0.size := Nat.zero_le _
  have CR0 := CHr.refl hC0
  have wS := own_wS hw
  have hEL := own_hEL hw
  have hch : ∀ d ∈ StrChars.Road.wordsChN, d.before a0 Z = true := fun d hd => hw d ((by decide +kernel : ∀ d ∈ StrChars.Road.wordsChN, d ∈ tables_1) d hd)
  have hon := (own_on (n := cs.length) (by omega)).1
  have k0 : (0 : Int32).toInt = 0 := by decide
  have k128 : (128 : Int32).toInt = 128 := by decide
  have k65 : (65 : Int32).toInt = 65 := by decide
  have k90 : (90 : Int32).toInt = 90 := by decide
  have k97 : (97 : Int32).toInt = 97 := by decide
  have k122 : (122 : Int32).toInt = 122 := by decide
  have k48 : (48 : Int32).toInt = 48 := by decide
  have k57 : (57 : Int32).toInt = 57 := by decide
  have pre1 : ∀ t, Steps p.tables e below (s₁.setTop (mkF m 1 #[.val (.ref sa), .unset, .unset, .unset] [(.ref sa)])) t → Steps p.tables e below (s₁.setTop (entryFrame m #[(.ref sa)] 4)) t := by
    intro t kk
    refine pre0 t ?_
    show Steps p.tables e below (s₁.setTop (mkF m 0 #[.val (.ref sa), .unset, .unset, .unset] [])) _
    refine XS.aloadN X0.here hx rfl (hb hby d_prog_45_method_15_code_0) rfl rfl ?_
    exact kk
  obtain ⟨a2, T2, h2, k2, bb2, kb2, X2, e2, E2, hS2, hk2, hZ, hown, Ex2, Fc2, Fv2, V2, lta2, ltb2, CQ2, Lt2, sl2, st2⟩ := ldcCH X0 hx hZ hown (hw _ (List.mem_of_getElem? (i := 39) rfl)) wS e0 hS0 hk0 hEL (List.mem_of_getElem? (i := 0) rfl) CR0.1 (vs := [(.int (105 : Int32)), (.int (100 : Int32))]) (z := (2 : Int32)) ⟨by decide, by decide⟩ (by decide) (rfl) (g := (mkF m 1 #[.val (.ref sa), .unset, .unset, .unset] [(.ref sa)])) rfl (hb hby d_prog_45_method_15_code_1) (n := 8) (by decide) (by decide) (by decide) (by decide)
  have CR2 := CHr.trans CR0 CQ2
  have pre3 : ∀ t, Steps p.tables e below (T2.setTop (mkF m 3 #[.val (.ref sa), .unset, .unset, .unset] [(.ref a2), (.ref sa)])) t → Steps p.tables e below (s₁.setTop (entryFrame m #[(.ref sa)] 4)) t := by
    intro t kk
    refine pre1 t ?_
    show Steps p.tables e below (s₁.setTop (mkF m 1 #[.val (.ref sa), .unset, .unset, .unset] [(.ref sa)])) _
    exact st2 _ kk
  have fc5 := (Nat.le_trans Z0 E2.1)
  obtain ⟨_, _, ⟨T4, L4, k4, n4⟩, -, X4, ⟨Lc4, hQ4, l4, y4, z4⟩, st4⟩ := Jvm.LawKit.callS X2 hx (y := (⟨"java/util/Objects", "requireNonNull", "(Ljava/lang/Object;Ljava/lang/String;)Ljava/lang/Object;"⟩ : MethodName)) hown (mvT hZ (hw _ (List.mem_of_getElem? (i := 42) rfl))) (mvT hZ (hw _ (List.mem_of_getElem? (i := 43) rfl))) (mvT hZ (hw _ (List.mem_of_getElem? (i := 44) rfl))) (mvT hZ (hw _ (List.mem_of_getElem? (i := 45) rfl))) (by decide) (backOf (W := 0) (own_rnn l Z a0 hw [] sa a2 h2 n0 fc5) hZ (hw _ (List.mem_of_getElem? (i := 45) rfl)) (hw _ (List.mem_of_getElem? (i := 44) rfl)) (by decide) (by decide)) (g := (mkF m 3 #[.val (.ref sa), .unset, .unset, .unset] [(.ref a2), (.ref sa)])) rfl (by rw [hml]; rfl) (argsL := [(.ref sa), (.ref a2)]) (rest := []) (lenOf pd__Ljava_lang_Object_Ljava_lang_String__Ljava_lang_Object_ rfl) rfl (by show 2 * 0 + _ ≤ _; exact Nat.le_of_eq rfl) (hb hby d_prog_45_method_15_code_3) (fun _ _ => ⟨rfl, e2, (by decide : 2 + 0 ≤ _), (by decide : 12 + 0 ≤ _)⟩)
  dsimp only [Pt.U, Pt.locs, Pt.cells, Pt.slots] at X4 l4 y4 z4 st4 hQ4
  subst l4 y4 z4
  obtain ⟨rfl, N4q, e4q⟩ := hQ4
  have N4 := Fr.app N0 N4q
  have pre6 : ∀ t, Steps p.tables e below (T4.setTop (mkF m 6 #[.val (.ref sa), .unset, .unset, .unset] [(.ref sa)])) t → Steps p.tables e below (s₁.setTop (entryFrame m #[(.ref sa)] 4)) t := by
    intro t kk
    refine pre3 t ?_
    show Steps p.tables e below (T2.setTop (mkF m 3 #[.val (.ref sa), .unset, .unset, .unset] [(.ref a2), (.ref sa)])) _
    exact st4 _ kk
  have fc7 := (ES.ext E2)
  have fc8 := (VS.ext E2)
  have fc9 := (CS.ext E2)
  have fc10 := (KS.ext E2)
  obtain ⟨cq11, kq11, q11a, q11b, q11c⟩ := isOf hZ e4q fc7
  obtain ⟨_, _, ⟨T11, L11, k11, n11⟩, -, X11, ⟨Lc11, hQ11, l11, y11, z11⟩, st11⟩ := X4.virtualBack hx (y := (⟨"java/lang/String", "isEmpty", "()Z"⟩ : MethodName)) (z := (⟨"java/lang/String", "isEmpty", "()Z"⟩ : MethodName)) hown (mvT hZ (hw _ (List.mem_of_getElem? (i := 46) rfl))) (mvT hZ (hw _ (List.mem_of_getElem? (i := 47) rfl))) (notFace_of_selects (args := #[]) (mvT hZ (hw _ (List.mem_of_getElem? (i := 49) rfl)))) (mvT hZ (hw _ (List.mem_of_getElem? (i := 49) rfl))) (mvT hZ (hw _ (List.mem_of_getElem? (i := 48) rfl))) (by decide) (backOf (W := 0) (own_emp l Z a0 hw [] sa sb kS (Int32.ofNat cs.length) (own_B cs) h2 n0 fc5 fc7 fc8 fc9 fc10 (fun q => by have q2 := congrArg Int32.toInt q; omega)) hZ (hw _ (List.mem_of_getElem? (i := 50) rfl)) (hw _ (List.mem_of_getElem? (i := 7) rfl)) (by decide) (by decide)) q11a q11c (g := (mkF m 8 #[.val (.ref sa), .unset, .unset, .unset] [(.ref sa)])) rfl (by rw [hml]; rfl) (Steps.refl _) (argsL := []) (rest := []) (lenOf pd___Z rfl) rfl (by show 2 * 0 + _ ≤ _; exact Nat.le_of_eq rfl) (hb hby d_prog_45_method_15_code_8) (fun _ _ => ⟨rfl, e4q, (by decide : 2 + 0 ≤ _), (by decide : 12 + 0 ≤ _)⟩)
  dsimp only [Pt.U, Pt.locs, Pt.cells, Pt.slots] at X11 l11 y11 z11 st11 hQ11
  subst l11 y11 z11
  obtain ⟨rfl, N11q, e11q⟩ := hQ11
  have N11 := Fr.app N4 N11q
  have pre12 : ∀ t, Steps p.tables e below (T11.setTop (mkF m 11 #[.val (.ref sa), .unset, .unset, .unset] [(.int (0 : Int32))])) t → Steps p.tables e below (s₁.setTop (entryFrame m #[(.ref sa)] 4)) t := by
    intro t kk
    refine pre6 t ?_
    show Steps p.tables e below (T4.setTop (mkF m 6 #[.val (.ref sa), .unset, .unset, .unset] [(.ref sa)])) _
    refine XS.pop X4.here hx rfl (hb hby d_prog_45_method_15_code_6) rfl rfl ?_
    show Steps p.tables e below (T4.setTop (mkF m 7 #[.val (.ref sa), .unset, .unset, .unset] [])) _
    refine XS.aloadN X4.here hx rfl (hb hby d_prog_45_method_15_code_7) rfl rfl ?_
    show Steps p.tables e below (T4.setTop (mkF m 8 #[.val (.ref sa), .unset, .unset, .unset] [(.ref sa)])) _
    exact st11.trans kk
  have hd13 : (0 : Int32) = (0 : Int32) := rfl
  have fc14 := (XO.ext E2)
  obtain ⟨cq15, kq15, q15a, q15b, q15c⟩ := isOf hZ e11q fc7
  obtain ⟨_, _, ⟨T15, L15, k15, n15⟩, -, X15, ⟨Lc15, hQ15, l15, y15, z15⟩, st15⟩ := X11.virtualBack hx (y := (⟨"java/lang/String", "length", "()I"⟩ : MethodName)) (z := (⟨"java/lang/String", "length", "()I"⟩ : MethodName)) hown (mvT hZ (hw _ (List.mem_of_getElem? (i := 51) rfl))) (mvT hZ (hw _ (List.mem_of_getElem? (i := 52) rfl))) (notFace_of_selects (args := #[]) (mvT hZ (hw _ (List.mem_of_getElem? (i := 54) rfl)))) (mvT hZ (hw _ (List.mem_of_getElem? (i := 54) rfl))) (mvT hZ (hw _ (List.mem_of_getElem? (i := 53) rfl))) (by decide) (backOf (W := 0) (own_slen l Z a0 hw [] sa sb kS (Int32.ofNat cs.length) (own_B cs) G1 h2 n0 fc5 fc7 fc8 fc9 fc10 O2 P5 fc14) hZ (hw _ (List.mem_of_getElem? (i := 55) rfl)) (hw _ (List.mem_of_getElem? (i := 7) rfl)) (by decide) (by decide)) q15a q15c (g := (mkF m 15 #[.val (.ref sa), .unset, .unset, .unset] [(.ref sa)])) rfl (by rw [hml]; rfl) (Steps.refl _) (argsL := []) (rest := []) (lenOf pd___I rfl) rfl (by show 2 * 0 + _ ≤ _; exact Nat.le_of_eq rfl) (hb hby d_prog_45_method_15_code_15) (fun _ _ => ⟨rfl, e11q, (by decide : 2 + 0 ≤ _), (by decide : 12 + 0 ≤ _)⟩)
  dsimp only [Pt.U, Pt.locs, Pt.cells, Pt.slots] at X15 l15 y15 z15 st15 hQ15
  subst l15 y15 z15
  obtain ⟨rfl, N15q, e15q⟩ := hQ15
  have N15 := Fr.app N11 N15q
  have pre16 : ∀ t, Steps p.tables e below (T15.setTop (mkF m 18 #[.val (.ref sa), .unset, .unset, .unset] [(.int (Int32.ofNat cs.length))])) t → Steps p.tables e below (s₁.setTop (entryFrame m #[(.ref sa)] 4)) t := by
    intro t kk
    refine pre12 t ?_
    show Steps p.tables e below (T11.setTop (mkF m 11 #[.val (.ref sa), .unset, .unset, .unset] [(.int (0 : Int32))])) _
    refine XS.ifNo X11.here hx rfl (hb hby d_prog_45_method_15_code_11) rfl ((if0 _ _).trans (teq hd13).2) ?_
    show Steps p.tables e below (T11.setTop (mkF m 14 #[.val (.ref sa), .unset, .unset, .unset] [])) _
    refine XS.aloadN X11.here hx rfl (hb hby d_prog_45_method_15_code_14) rfl rfl ?_
    show Steps p.tables e below (T11.setTop (mkF m 15 #[.val (.ref sa), .unset, .unset, .unset] [(.ref sa)])) _
    exact st15.trans kk
  have hd17 : ¬ ((128 : Int32) < (Int32.ofNat cs.length)) := by rw [Int32.lt_iff_toInt_lt]; omega
  have pre18 : ∀ t, Steps p.tables e below (T15.setTop (mkF m 32 #[.val (.ref sa), .val (.int (1 : Int32)), .val (.int (0 : Int32)), .unset] [])) t → Steps p.tables e below (s₁.setTop (entryFrame m #[(.ref sa)] 4)) t := by
    intro t kk
    refine pre16 t ?_
    show Steps p.tables e below (T15.setTop (mkF m 18 #[.val (.ref sa), .unset, .unset, .unset] [(.int (Int32.ofNat cs.length))])) _
    refine XS.sipush X15.here hx rfl (hb hby d_prog_45_method_15_code_18) ?_
    show Steps p.tables e below (T15.setTop (mkF m 21 #[.val (.ref sa), .unset, .unset, .unset] [(.int (128 : Int32)), (.int (Int32.ofNat cs.length))])) _
    refine XS.icmpNo X15.here hx rfl (hb hby d_prog_45_method_15_code_21) rfl (flt hd17).2.2.1 ?_
    show Steps p.tables e below (T15.setTop (mkF m 24 #[.val (.ref sa), .unset, .unset, .unset] [])) _
    refine XS.iconst X15.here hx rfl (hb hby d_prog_45_method_15_code_24) ?_
    show Steps p.tables e below (T15.setTop (mkF m 25 #[.val (.ref sa), .unset, .unset, .unset] [(.int (1 : Int32))])) _
    refine XS.goto X15.here hx rfl (pc0 := 25) (pc' := 29) rfl (hb hby d_prog_45_method_15_code_25) (by decide) (by decide) ?_
    show Steps p.tables e below (T15.setTop (mkF m 29 #[.val (.ref sa), .unset, .unset, .unset] [(.int (1 : Int32))])) _
    refine XS.istoreN X15.here hx rfl (hb hby d_prog_45_method_15_code_29) rfl (l' := #[.val (.ref sa), .val (.int (1 : Int32)), .unset, .unset]) rfl ?_
    show Steps p.tables e below (T15.setTop (mkF m 30 #[.val (.ref sa), .val (.int (1 : Int32)), .unset, .unset] [])) _
    refine XS.iconst X15.here hx rfl (hb hby d_prog_45_method_15_code_30) ?_
    show Steps p.tables e below (T15.setTop (mkF m 31 #[.val (.ref sa), .val (.int (1 : Int32)), .unset, .unset] [(.int (0 : Int32))])) _
    refine XS.istoreN X15.here hx rfl (hb hby d_prog_45_method_15_code_31) rfl (l' := #[.val (.ref sa), .val (.int (1 : Int32)), .val (.int (0 : Int32)), .unset]) rfl ?_
    exact kk
  have loop : ∀ i : Nat, i ≤ cs.length → ∃ (T' : State) (vm' : Vm) (kn : Nat) (lc : List Loc) (h' : Heap) (lv : Slot) (cl sl : Nat), Stand p l e ({ frames := 7, cells := 10, slots := 92, locals := 161 } : Room) (s.setVm vm') m #[.ref sa] below meth c T' lc cl sl ∧ T'.heap = h' ∧ Fr n0 lc ∧ Keep h0 h' [] ∧ Z.Warmed39 (s.setVm vm').vm ∧ (s.setVm vm').vm.findClass "com/example/deadline/deadline/Timer" = some m.cls ∧ s.Since vm' kn ∧ kn ≤ h'.size ∧ CHr Z own_EL s.vm h0 vm' h' ∧ cl = 2 + 2 * own_cnt cs i ∧ sl = 12 + 20 * own_cnt cs i ∧ (lv = .unset ∨ ∃ z : Int32, lv = .val (.int z)) ∧ ∀ t, Steps p.tables e below (T'.setTop (mkF m 32 #[.val (.ref sa), .val (.int (1 : Int32)), .val (.int (Int32.ofNat i)), lv] [])) t → Steps p.tables e below (s₁.setTop (entryFrame m #[(.ref sa)] 4)) t := by
    intro i
    induction i with
    | zero =>
      intro _
      have fc19 := ((Keep.refl h0 []).ext E2)
      exact ⟨_, _, _, _, _, _, _, _, X15, e15q, N15, fc19, hZ, hown, hS2, hk2, CR2, rfl, rfl, Or.inl rfl, pre18⟩
    | succ i ih =>
      intro hi
      obtain ⟨TL, vmL, kL, lcL, hL, lvL, clL, slL, XL, eL, NL, KL, hZ, hown, hSL, hkL, CRL, hclL, hslL, hlvL, preL⟩ := ih (by omega)
      subst hclL hslL
      have hcL : own_cnt cs i ≤ 4 := Nat.le_trans (own_cntM cs (by omega)) h4
      have hcM : own_cnt cs (i + 1) ≤ 4 := Nat.le_trans (own_cntM cs hi) h4
      have hoi := (own_on (n := i) (by omega)).1
      have hS1 := own_cntS cs i
      have hd20 : ¬ ((1 : Int32) = (0 : Int32)) := by decide
      have fc21 := (ES.keep KL)
      have fc22 := (VS.keep KL nin0)
      have fc23 := (CS.keep KL nin0)
      have fc24 := (KS.keep KL nin0)
      have fc25 := (XO.keep KL all0)
      have fc27 := (Nat.le_trans Z0 KL.1)
      obtain ⟨cq26, kq26, q26a, q26b, q26c⟩ := isOf hZ eL fc21
      obtain ⟨_, _, ⟨T26, L26, k26, n26⟩, -, X26, ⟨Lc26, hQ26, l26, y26, z26⟩, st26⟩ := XL.virtualBack hx (y := (⟨"java/lang/String", "length", "()I"⟩ : MethodName)) (z := (⟨"java/lang/String", "length", "()I"⟩ : MethodName)) hown (mvT hZ (hw _ (List.mem_of_getElem? (i := 51) rfl))) (mvT hZ (hw _ (List.mem_of_getElem? (i := 52) rfl))) (notFace_of_selects (args := #[]) (mvT hZ (hw _ (List.mem_of_getElem? (i := 54) rfl)))) (mvT hZ (hw _ (List.mem_of_getElem? (i := 54) rfl))) (mvT hZ (hw _ (List.mem_of_getElem? (i := 53) rfl))) (by decide) (backOf (W := 1) (own_slen l Z a0 hw [] sa sb kS (Int32.ofNat cs.length) (own_B cs) G1 hL n0 fc27 fc21 fc22 fc23 fc24 O2 P5 fc25) hZ (hw _ (List.mem_of_getElem? (i := 55) rfl)) (hw _ (List.mem_of_getElem? (i := 7) rfl)) (by decide) (by decide)) q26a q26c (g := (mkF m 38 #[.val (.ref sa), .val (.int (1 : Int32)), .val (.int (Int32.ofNat i)), lvL] [(.ref sa), (.int (Int32.ofNat i))])) rfl (by rw [hml]; rfl) (Steps.refl _) (argsL := []) (rest := [(.int (Int32.ofNat i))]) (lenOf pd___I rfl) rfl (by show 2 * 0 + _ ≤ _; exact Nat.le_of_eq rfl) (hb hby d_prog_45_method_15_code_38) (fun _ _ => ⟨rfl, eL, (by show (2 + 2 * own_cnt cs i) + 0 ≤ 10; omega), (by show (12 + 20 * own_cnt cs i) + 0 ≤ 92; omega)⟩)
      dsimp only [Pt.U, Pt.locs, Pt.cells, Pt.slots] at X26 l26 y26 z26 st26 hQ26
      subst l26 y26 z26
      obtain ⟨rfl, N26q, e26q⟩ := hQ26
      have N26 := Fr.app NL N26q
      have pre28 : ∀ t, Steps p.tables e below (T26.setTop (mkF m 41 #[.val (.ref sa), .val (.int (1 : Int32)), .val (.int (Int32.ofNat i)), lvL] [(.int (Int32.ofNat cs.length)), (.int (Int32.ofNat i))])) t → Steps p.tables e below (s₁.setTop (entryFrame m #[(.ref sa)] 4)) t := by
        intro t kk
        refine preL t ?_
        show Steps p.tables e below (TL.setTop (mkF m 32 #[.val (.ref sa), .val (.int (1 : Int32)), .val (.int (Int32.ofNat i)), lvL] [])) _
        refine XS.iloadN XL.here hx rfl (hb hby d_prog_45_method_15_code_32) rfl ?_
        show Steps p.tables e below (TL.setTop (mkF m 33 #[.val (.ref sa), .val (.int (1 : Int32)), .val (.int (Int32.ofNat i)), lvL] [(.int (1 : Int32))])) _
        refine XS.ifNo XL.here hx rfl (hb hby d_prog_45_method_15_code_33) rfl ((if0 _ _).trans (feq hd20).1) ?_
        show Steps p.tables e below (TL.setTop (mkF m 36 #[.val (.ref sa), .val (.int (1 : Int32)), .val (.int (Int32.ofNat i)), lvL] [])) _
        refine XS.iloadN XL.here hx rfl (hb hby d_prog_45_method_15_code_36) rfl ?_
        show Steps p.tables e below (TL.setTop (mkF m 37 #[.val (.ref sa), .val (.int (1 : Int32)), .val (.int (Int32.ofNat i)), lvL] [(.int (Int32.ofNat i))])) _
        refine XS.aloadN XL.here hx rfl (hb hby d_prog_45_method_15_code_37) rfl rfl ?_
        show Steps p.tables e below (TL.setTop (mkF m 38 #[.val (.ref sa), .val (.int (1 : Int32)), .val (.int (Int32.ofNat i)), lvL] [(.ref sa), (.int (Int32.ofNat i))])) _
        exact st26.trans kk
      have hd29 : (Int32.ofNat i) < (Int32.ofNat cs.length) := by rw [Int32.lt_iff_toInt_lt]; omega
      obtain ⟨cq30, kq30, q30a, q30b, q30c⟩ := isOf hZ e26q fc21
      obtain ⟨_, _, ⟨T30, L30, k30, n30⟩, -, X30, ⟨Lc30, hQ30, l30, y30, z30⟩, st30⟩ := X26.virtualBack hx (y := (⟨"java/lang/String", "charAt", "(I)C"⟩ : MethodName)) (z := (⟨"java/lang/String", "charAt", "(I)C"⟩ : MethodName)) hown (mvT hZ (hw _ (List.mem_of_getElem? (i := 61) rfl))) (mvT hZ (hw _ (List.mem_of_getElem? (i := 62) rfl))) (notFace_of_selects (args := #[]) (mvT hZ (hw _ (List.mem_of_getElem? (i := 64) rfl)))) (mvT hZ (hw _ (List.mem_of_getElem? (i := 64) rfl))) (mvT hZ (hw _ (List.mem_of_getElem? (i := 63) rfl))) (by decide) (StrChars.Road.chN (W := 0) hZ hch (kI := 4) (hw _ (List.mem_of_getElem? (i := 6) rfl)) fc21 fc22 fc23 fc24 (own_cod lt) (own_up lt) (O2.ext fc25.2) P5 (O4.ext fc25.2) rG3 (by omega) (i := i) (by omega) (j := (Int32.ofNat i)) rfl (by decide) (by decide)) q30a q30c (g := (mkF m 46 #[.val (.ref sa), .val (.int (1 : Int32)), .val (.int (Int32.ofNat i)), lvL] [(.int (Int32.ofNat i)), (.ref sa)])) rfl (by rw [hml]; rfl) (Steps.refl _) (argsL := [(.int (Int32.ofNat i))]) (rest := []) (lenOf pd__I_C rfl) rfl (by show 2 * 0 + _ ≤ _; exact Nat.le_of_eq rfl) (hb hby d_prog_45_method_15_code_46) (fun _ _ => ⟨rfl, e26q, (by show (2 + 2 * own_cnt cs i) + 0 ≤ 10; omega), (by show (12 + 20 * own_cnt cs i) + 0 ≤ 92; omega)⟩)
      dsimp only [Pt.U, Pt.locs, Pt.cells, Pt.slots] at X30 l30 y30 z30 st30 hQ30
      subst l30 y30 z30
      obtain ⟨rfl, rfl, e30q⟩ := hQ30
      have N30q : Fr n0 ([] : List Loc) := Fr.nil n0
      have N30 := Fr.app N26 N30q
      have pre31 : ∀ t, Steps p.tables e below (T30.setTop (mkF m 49 #[.val (.ref sa), .val (.int (1 : Int32)), .val (.int (Int32.ofNat i)), lvL] [(.int (cs.getD i 0))])) t → Steps p.tables e below (s₁.setTop (entryFrame m #[(.ref sa)] 4)) t := by
        intro t kk
        refine pre28 t ?_
        show Steps p.tables e below (T26.setTop (mkF m 41 #[.val (.ref sa), .val (.int (1 : Int32)), .val (.int (Int32.ofNat i)), lvL] [(.int (Int32.ofNat cs.length)), (.int (Int32.ofNat i))])) _
        refine XS.icmpNo X26.here hx rfl (hb hby d_prog_45_method_15_code_41) rfl (tlt hd29).2.1 ?_
        show Steps p.tables e below (T26.setTop (mkF m 44 #[.val (.ref sa), .val (.int (1 : Int32)), .val (.int (Int32.ofNat i)), lvL] [])) _
        refine XS.aloadN X26.here hx rfl (hb hby d_prog_45_method_15_code_44) rfl rfl ?_
        show Steps p.tables e below (T26.setTop (mkF m 45 #[.val (.ref sa), .val (.int (1 : Int32)), .val (.int (Int32.ofNat i)), lvL] [(.ref sa)])) _
        refine XS.iloadN X26.here hx rfl (hb hby d_prog_45_method_15_code_45) rfl ?_
        show Steps p.tables e below (T26.setTop (mkF m 46 #[.val (.ref sa), .val (.int (1 : Int32)), .val (.int (Int32.ofNat i)), lvL] [(.int (Int32.ofNat i)), (.ref sa)])) _
        exact st30.trans kk
      have pre32 : ∀ t, Steps p.tables e below (T30.setTop (mkF m 53 #[.val (.ref sa), .val (.int (1 : Int32)), .val (.int (Int32.ofNat i)), .val (.int (cs.getD i 0))] [(.int (65 : Int32)), (.int (cs.getD i 0))])) t → Steps p.tables e below (s₁.setTop (entryFrame m #[(.ref sa)] 4)) t := by
        intro t kk
        refine pre31 t ?_
        show Steps p.tables e below (T30.setTop (mkF m 49 #[.val (.ref sa), .val (.int (1 : Int32)), .val (.int (Int32.ofNat i)), lvL] [(.int (cs.getD i 0))])) _
        refine XS.istoreN X30.here hx rfl (hb hby d_prog_45_method_15_code_49) rfl (l' := #[.val (.ref sa), .val (.int (1 : Int32)), .val (.int (Int32.ofNat i)), .val (.int (cs.getD i 0))]) (by rcases hlvL with rfl | ⟨z, rfl⟩ <;> rfl) ?_
        show Steps p.tables e below (T30.setTop (mkF m 50 #[.val (.ref sa), .val (.int (1 : Int32)), .val (.int (Int32.ofNat i)), .val (.int (cs.getD i 0))] [])) _
        refine XS.iloadN X30.here hx rfl (hb hby d_prog_45_method_15_code_50) rfl ?_
        show Steps p.tables e below (T30.setTop (mkF m 51 #[.val (.ref sa), .val (.int (1 : Int32)), .val (.int (Int32.ofNat i)), .val (.int (cs.getD i 0))] [(.int (cs.getD i 0))])) _
        refine XS.bipush X30.here hx rfl (hb hby d_prog_45_method_15_code_51) ?_
        exact kk
      rcases hok i (by omega) with (hA | hA | hA) | hA
      · skip
        have hR : 65 ≤ (cs.getD i 0).toInt ∧ (cs.getD i 0).toInt ≤ 90 := by
          have q := hA
          rw [Int32.lt_iff_toInt_lt, Int32.lt_iff_toInt_lt] at q; omega
        have hb0 := own_spb0 (c := (cs.getD i 0)) (Or.inl hA)
        have hd33 : ¬ ((cs.getD i 0) < (65 : Int32)) := by rw [Int32.lt_iff_toInt_lt]; omega
        have hd34 : ¬ ((90 : Int32) < (cs.getD i 0)) := by rw [Int32.lt_iff_toInt_lt]; omega
        have pre35 : ∀ t, Steps p.tables e below (T30.setTop (mkF m 32 #[.val (.ref sa), .val (.int (1 : Int32)), .val (.int ((Int32.ofNat i) + (1 : Int32))), .val (.int (cs.getD i 0))] [])) t → Steps p.tables e below (s₁.setTop (entryFrame m #[(.ref sa)] 4)) t := by
          intro t kk
          refine pre32 t ?_
          show Steps p.tables e below (T30.setTop (mkF m 53 #[.val (.ref sa), .val (.int (1 : Int32)), .val (.int (Int32.ofNat i)), .val (.int (cs.getD i 0))] [(.int (65 : Int32)), (.int (cs.getD i 0))])) _
          refine XS.icmpNo X30.here hx rfl (hb hby d_prog_45_method_15_code_53) rfl (flt hd33).1 ?_
          show Steps p.tables e below (T30.setTop (mkF m 56 #[.val (.ref sa), .val (.int (1 : Int32)), .val (.int (Int32.ofNat i)), .val (.int (cs.getD i 0))] [])) _
          refine XS.iloadN X30.here hx rfl (hb hby d_prog_45_method_15_code_56) rfl ?_
          show Steps p.tables e below (T30.setTop (mkF m 57 #[.val (.ref sa), .val (.int (1 : Int32)), .val (.int (Int32.ofNat i)), .val (.int (cs.getD i 0))] [(.int (cs.getD i 0))])) _
          refine XS.bipush X30.here hx rfl (hb hby d_prog_45_method_15_code_57) ?_
          show Steps p.tables e below (T30.setTop (mkF m 59 #[.val (.ref sa), .val (.int (1 : Int32)), .val (.int (Int32.ofNat i)), .val (.int (cs.getD i 0))] [(.int (90 : Int32)), (.int (cs.getD i 0))])) _
          refine XS.icmpYes X30.here hx rfl (pc0 := 59) (pc' := 95) rfl (hb hby d_prog_45_method_15_code_59) rfl (flt hd34).2.2.2 (by decide) (by decide) ?_
          show Steps p.tables e below (T30.setTop (mkF m 95 #[.val (.ref sa), .val (.int (1 : Int32)), .val (.int (Int32.ofNat i)), .val (.int (cs.getD i 0))] [])) _
          refine XS.iconst X30.here hx rfl (hb hby d_prog_45_method_15_code_95) ?_
          show Steps p.tables e below (T30.setTop (mkF m 96 #[.val (.ref sa), .val (.int (1 : Int32)), .val (.int (Int32.ofNat i)), .val (.int (cs.getD i 0))] [(.int (1 : Int32))])) _
          refine XS.goto X30.here hx rfl (pc0 := 96) (pc' := 100) rfl (hb hby d_prog_45_method_15_code_96) (by decide) (by decide) ?_
          show Steps p.tables e below (T30.setTop (mkF m 100 #[.val (.ref sa), .val (.int (1 : Int32)), .val (.int (Int32.ofNat i)), .val (.int (cs.getD i 0))] [(.int (1 : Int32))])) _
          refine XS.istoreN X30.here hx rfl (hb hby d_prog_45_method_15_code_100) rfl (l' := #[.val (.ref sa), .val (.int (1 : Int32)), .val (.int (Int32.ofNat i)), .val (.int (cs.getD i 0))]) rfl ?_
          show Steps p.tables e below (T30.setTop (mkF m 101 #[.val (.ref sa), .val (.int (1 : Int32)), .val (.int (Int32.ofNat i)), .val (.int (cs.getD i 0))] [])) _
          refine XS.iinc X30.here hx rfl (hb hby d_prog_45_method_15_code_101) rfl (l' := #[.val (.ref sa), .val (.int (1 : Int32)), .val (.int ((Int32.ofNat i) + (1 : Int32))), .val (.int (cs.getD i 0))]) rfl ?_
          show Steps p.tables e below (T30.setTop (mkF m 104 #[.val (.ref sa), .val (.int (1 : Int32)), .val (.int ((Int32.ofNat i) + (1 : Int32))), .val (.int (cs.getD i 0))] [])) _
          refine XS.goto X30.here hx rfl (pc0 := 104) (pc' := 32) rfl (hb hby d_prog_45_method_15_code_104) (by decide) (by decide) ?_
          exact kk
        rw [own_inc (by omega)] at pre35
        have fc36 := ((Keep.refl h0 []).trans KL all0)
        exact ⟨_, _, _, _, _, _, _, _, X30, e30q, N30, fc36, hZ, hown, hSL, hkL, CRL, by omega, by omega, Or.inr ⟨_, rfl⟩, pre35⟩
      · skip
        have hR : 97 ≤ (cs.getD i 0).toInt ∧ (cs.getD i 0).toInt ≤ 122 := by
          have q := hA
          rw [Int32.lt_iff_toInt_lt, Int32.lt_iff_toInt_lt] at q; omega
        have hb0 := own_spb0 (c := (cs.getD i 0)) (Or.inr (Or.inl hA))
        have hd37 : ¬ ((cs.getD i 0) < (65 : Int32)) := by rw [Int32.lt_iff_toInt_lt]; omega
        have hd38 : (90 : Int32) < (cs.getD i 0) := by rw [Int32.lt_iff_toInt_lt]; omega
        have hd39 : ¬ ((cs.getD i 0) < (97 : Int32)) := by rw [Int32.lt_iff_toInt_lt]; omega
        have hd40 : ¬ ((122 : Int32) < (cs.getD i 0)) := by rw [Int32.lt_iff_toInt_lt]; omega
        have pre41 : ∀ t, Steps p.tables e below (T30.setTop (mkF m 32 #[.val (.ref sa), .val (.int (1 : Int32)), .val (.int ((Int32.ofNat i) + (1 : Int32))), .val (.int (cs.getD i 0))] [])) t → Steps p.tables e below (s₁.setTop (entryFrame m #[(.ref sa)] 4)) t := by
          intro t kk
          refine pre32 t ?_
          show Steps p.tables e below (T30.setTop (mkF m 53 #[.val (.ref sa), .val (.int (1 : Int32)), .val (.int (Int32.ofNat i)), .val (.int (cs.getD i 0))] [(.int (65 : Int32)), (.int (cs.getD i 0))])) _
          refine XS.icmpNo X30.here hx rfl (hb hby d_prog_45_method_15_code_53) rfl (flt hd37).1 ?_
          show Steps p.tables e below (T30.setTop (mkF m 56 #[.val (.ref sa), .val (.int (1 : Int32)), .val (.int (Int32.ofNat i)), .val (.int (cs.getD i 0))] [])) _
          refine XS.iloadN X30.here hx rfl (hb hby d_prog_45_method_15_code_56) rfl ?_
          show Steps p.tables e below (T30.setTop (mkF m 57 #[.val (.ref sa), .val (.int (1 : Int32)), .val (.int (Int32.ofNat i)), .val (.int (cs.getD i 0))] [(.int (cs.getD i 0))])) _
          refine XS.bipush X30.here hx rfl (hb hby d_prog_45_method_15_code_57) ?_
          show Steps p.tables e below (T30.setTop (mkF m 59 #[.val (.ref sa), .val (.int (1 : Int32)), .val (.int (Int32.ofNat i)), .val (.int (cs.getD i 0))] [(.int (90 : Int32)), (.int (cs.getD i 0))])) _
          refine XS.icmpNo X30.here hx rfl (hb hby d_prog_45_method_15_code_59) rfl (tlt hd38).2.2.2 ?_
          show Steps p.tables e below (T30.setTop (mkF m 62 #[.val (.ref sa), .val (.int (1 : Int32)), .val (.int (Int32.ofNat i)), .val (.int (cs.getD i 0))] [])) _
          refine XS.iloadN X30.here hx rfl (hb hby d_prog_45_method_15_code_62) rfl ?_
          show Steps p.tables e below (T30.setTop (mkF m 63 #[.val (.ref sa), .val (.int (1 : Int32)), .val (.int (Int32.ofNat i)), .val (.int (cs.getD i 0))] [(.int (cs.getD i 0))])) _
          refine XS.bipush X30.here hx rfl (hb hby d_prog_45_method_15_code_63) ?_
          show Steps p.tables e below (T30.setTop (mkF m 65 #[.val (.ref sa), .val (.int (1 : Int32)), .val (.int (Int32.ofNat i)), .val (.int (cs.getD i 0))] [(.int (97 : Int32)), (.int (cs.getD i 0))])) _
          refine XS.icmpNo X30.here hx rfl (hb hby d_prog_45_method_15_code_65) rfl (flt hd39).1 ?_
          show Steps p.tables e below (T30.setTop (mkF m 68 #[.val (.ref sa), .val (.int (1 : Int32)), .val (.int (Int32.ofNat i)), .val (.int (cs.getD i 0))] [])) _
          refine XS.iloadN X30.here hx rfl (hb hby d_prog_45_method_15_code_68) rfl ?_
          show Steps p.tables e below (T30.setTop (mkF m 69 #[.val (.ref sa), .val (.int (1 : Int32)), .val (.int (Int32.ofNat i)), .val (.int (cs.getD i 0))] [(.int (cs.getD i 0))])) _
          refine XS.bipush X30.here hx rfl (hb hby d_prog_45_method_15_code_69) ?_
          show Steps p.tables e below (T30.setTop (mkF m 71 #[.val (.ref sa), .val (.int (1 : Int32)), .val (.int (Int32.ofNat i)), .val (.int (cs.getD i 0))] [(.int (122 : Int32)), (.int (cs.getD i 0))])) _
          refine XS.icmpYes X30.here hx rfl (pc0 := 71) (pc' := 95) rfl (hb hby d_prog_45_method_15_code_71) rfl (flt hd40).2.2.2 (by decide) (by decide) ?_
          show Steps p.tables e below (T30.setTop (mkF m 95 #[.val (.ref sa), .val (.int (1 : Int32)), .val (.int (Int32.ofNat i)), .val (.int (cs.getD i 0))] [])) _
          refine XS.iconst X30.here hx rfl (hb hby d_prog_45_method_15_code_95) ?_
          show Steps p.tables e below (T30.setTop (mkF m 96 #[.val (.ref sa), .val (.int (1 : Int32)), .val (.int (Int32.ofNat i)), .val (.int (cs.getD i 0))] [(.int (1 : Int32))])) _
          refine XS.goto X30.here hx rfl (pc0 := 96) (pc' := 100) rfl (hb hby d_prog_45_method_15_code_96) (by decide) (by decide) ?_
          show Steps p.tables e below (T30.setTop (mkF m 100 #[.val (.ref sa), .val (.int (1 : Int32)), .val (.int (Int32.ofNat i)), .val (.int (cs.getD i 0))] [(.int (1 : Int32))])) _
          refine XS.istoreN X30.here hx rfl (hb hby d_prog_45_method_15_code_100) rfl (l' := #[.val (.ref sa), .val (.int (1 : Int32)), .val (.int (Int32.ofNat i)), .val (.int (cs.getD i 0))]) rfl ?_
          show Steps p.tables e below (T30.setTop (mkF m 101 #[.val (.ref sa), .val (.int (1 : Int32)), .val (.int (Int32.ofNat i)), .val (.int (cs.getD i 0))] [])) _
          refine XS.iinc X30.here hx rfl (hb hby d_prog_45_method_15_code_101) rfl (l' := #[.val (.ref sa), .val (.int (1 : Int32)), .val (.int ((Int32.ofNat i) + (1 : Int32))), .val (.int (cs.getD i 0))]) rfl ?_
          show Steps p.tables e below (T30.setTop (mkF m 104 #[.val (.ref sa), .val (.int (1 : Int32)), .val (.int ((Int32.ofNat i) + (1 : Int32))), .val (.int (cs.getD i 0))] [])) _
          refine XS.goto X30.here hx rfl (pc0 := 104) (pc' := 32) rfl (hb hby d_prog_45_method_15_code_104) (by decide) (by decide) ?_
          exact kk
        rw [own_inc (by omega)] at pre41
        have fc42 := ((Keep.refl h0 []).trans KL all0)
        exact ⟨_, _, _, _, _, _, _, _, X30, e30q, N30, fc42, hZ, hown, hSL, hkL, CRL, by omega, by omega, Or.inr ⟨_, rfl⟩, pre41⟩
      · skip
        have hR : 48 ≤ (cs.getD i 0).toInt ∧ (cs.getD i 0).toInt ≤ 57 := by
          have q := hA
          rw [Int32.lt_iff_toInt_lt, Int32.lt_iff_toInt_lt] at q; omega
        have hb0 := own_spb0 (c := (cs.getD i 0)) (Or.inr (Or.inr hA))
        have hd43 : (cs.getD i 0) < (65 : Int32) := by rw [Int32.lt_iff_toInt_lt]; omega
        have hd44 : (cs.getD i 0) < (97 : Int32) := by rw [Int32.lt_iff_toInt_lt]; omega
        have hd45 : ¬ ((cs.getD i 0) < (48 : Int32)) := by rw [Int32.lt_iff_toInt_lt]; omega
        have hd46 : ¬ ((57 : Int32) < (cs.getD i 0)) := by rw [Int32.lt_iff_toInt_lt]; omega
        have pre47 : ∀ t, Steps p.tables e below (T30.setTop (mkF m 32 #[.val (.ref sa), .val (.int (1 : Int32)), .val (.int ((Int32.ofNat i) + (1 : Int32))), .val (.int (cs.getD i 0))] [])) t → Steps p.tables e below (s₁.setTop (entryFrame m #[(.ref sa)] 4)) t := by
          intro t kk
          refine pre32 t ?_
          show Steps p.tables e below (T30.setTop (mkF m 53 #[.val (.ref sa), .val (.int (1 : Int32)), .val (.int (Int32.ofNat i)), .val (.int (cs.getD i 0))] [(.int (65 : Int32)), (.int (cs.getD i 0))])) _
          refine XS.icmpYes X30.here hx rfl (pc0 := 53) (pc' := 62) rfl (hb hby d_prog_45_method_15_code_53) rfl (tlt hd43).1 (by decide) (by decide) ?_
          show Steps p.tables e below (T30.setTop (mkF m 62 #[.val (.ref sa), .val (.int (1 : Int32)), .val (.int (Int32.ofNat i)), .val (.int (cs.getD i 0))] [])) _
          refine XS.iloadN X30.here hx rfl (hb hby d_prog_45_method_15_code_62) rfl ?_
          show Steps p.tables e below (T30.setTop (mkF m 63 #[.val (.ref sa), .val (.int (1 : Int32)), .val (.int (Int32.ofNat i)), .val (.int (cs.getD i 0))] [(.int (cs.getD i 0))])) _
          refine XS.bipush X30.here hx rfl (hb hby d_prog_45_method_15_code_63) ?_
          show Steps p.tables e below (T30.setTop (mkF m 65 #[.val (.ref sa), .val (.int (1 : Int32)), .val (.int (Int32.ofNat i)), .val (.int (cs.getD i 0))] [(.int (97 : Int32)), (.int (cs.getD i 0))])) _
          refine XS.icmpYes X30.here hx rfl (pc0 := 65) (pc' := 74) rfl (hb hby d_prog_45_method_15_code_65) rfl (tlt hd44).1 (by decide) (by decide) ?_
          show Steps p.tables e below (T30.setTop (mkF m 74 #[.val (.ref sa), .val (.int (1 : Int32)), .val (.int (Int32.ofNat i)), .val (.int (cs.getD i 0))] [])) _
          refine XS.iloadN X30.here hx rfl (hb hby d_prog_45_method_15_code_74) rfl ?_
          show Steps p.tables e below (T30.setTop (mkF m 75 #[.val (.ref sa), .val (.int (1 : Int32)), .val (.int (Int32.ofNat i)), .val (.int (cs.getD i 0))] [(.int (cs.getD i 0))])) _
          refine XS.bipush X30.here hx rfl (hb hby d_prog_45_method_15_code_75) ?_
          show Steps p.tables e below (T30.setTop (mkF m 77 #[.val (.ref sa), .val (.int (1 : Int32)), .val (.int (Int32.ofNat i)), .val (.int (cs.getD i 0))] [(.int (48 : Int32)), (.int (cs.getD i 0))])) _
          refine XS.icmpNo X30.here hx rfl (hb hby d_prog_45_method_15_code_77) rfl (flt hd45).1 ?_
          show Steps p.tables e below (T30.setTop (mkF m 80 #[.val (.ref sa), .val (.int (1 : Int32)), .val (.int (Int32.ofNat i)), .val (.int (cs.getD i 0))] [])) _
          refine XS.iloadN X30.here hx rfl (hb hby d_prog_45_method_15_code_80) rfl ?_
          show Steps p.tables e below (T30.setTop (mkF m 81 #[.val (.ref sa), .val (.int (1 : Int32)), .val (.int (Int32.ofNat i)), .val (.int (cs.getD i 0))] [(.int (cs.getD i 0))])) _
          refine XS.bipush X30.here hx rfl (hb hby d_prog_45_method_15_code_81) ?_
          show Steps p.tables e below (T30.setTop (mkF m 83 #[.val (.ref sa), .val (.int (1 : Int32)), .val (.int (Int32.ofNat i)), .val (.int (cs.getD i 0))] [(.int (57 : Int32)), (.int (cs.getD i 0))])) _
          refine XS.icmpYes X30.here hx rfl (pc0 := 83) (pc' := 95) rfl (hb hby d_prog_45_method_15_code_83) rfl (flt hd46).2.2.2 (by decide) (by decide) ?_
          show Steps p.tables e below (T30.setTop (mkF m 95 #[.val (.ref sa), .val (.int (1 : Int32)), .val (.int (Int32.ofNat i)), .val (.int (cs.getD i 0))] [])) _
          refine XS.iconst X30.here hx rfl (hb hby d_prog_45_method_15_code_95) ?_
          show Steps p.tables e below (T30.setTop (mkF m 96 #[.val (.ref sa), .val (.int (1 : Int32)), .val (.int (Int32.ofNat i)), .val (.int (cs.getD i 0))] [(.int (1 : Int32))])) _
          refine XS.goto X30.here hx rfl (pc0 := 96) (pc' := 100) rfl (hb hby d_prog_45_method_15_code_96) (by decide) (by decide) ?_
          show Steps p.tables e below (T30.setTop (mkF m 100 #[.val (.ref sa), .val (.int (1 : Int32)), .val (.int (Int32.ofNat i)), .val (.int (cs.getD i 0))] [(.int (1 : Int32))])) _
          refine XS.istoreN X30.here hx rfl (hb hby d_prog_45_method_15_code_100) rfl (l' := #[.val (.ref sa), .val (.int (1 : Int32)), .val (.int (Int32.ofNat i)), .val (.int (cs.getD i 0))]) rfl ?_
          show Steps p.tables e below (T30.setTop (mkF m 101 #[.val (.ref sa), .val (.int (1 : Int32)), .val (.int (Int32.ofNat i)), .val (.int (cs.getD i 0))] [])) _
          refine XS.iinc X30.here hx rfl (hb hby d_prog_45_method_15_code_101) rfl (l' := #[.val (.ref sa), .val (.int (1 : Int32)), .val (.int ((Int32.ofNat i) + (1 : Int32))), .val (.int (cs.getD i 0))]) rfl ?_
          show Steps p.tables e below (T30.setTop (mkF m 104 #[.val (.ref sa), .val (.int (1 : Int32)), .val (.int ((Int32.ofNat i) + (1 : Int32))), .val (.int (cs.getD i 0))] [])) _
          refine XS.goto X30.here hx rfl (pc0 := 104) (pc' := 32) rfl (hb hby d_prog_45_method_15_code_104) (by decide) (by decide) ?_
          exact kk
        rw [own_inc (by omega)] at pre47
        have fc48 := ((Keep.refl h0 []).trans KL all0)
        exact ⟨_, _, _, _, _, _, _, _, X30, e30q, N30, fc48, hZ, hown, hSL, hkL, CRL, by omega, by omega, Or.inr ⟨_, rfl⟩, pre47⟩
      · skip
        have hb1 := own_spb1 hA
        have hsp := hA
        rcases hA with hA | hA | hA | hA
        · skip
          have hR : (cs.getD i 0).toInt = 46 := by rw [hA]; decide
          have hd49 : (cs.getD i 0) < (65 : Int32) := by rw [Int32.lt_iff_toInt_lt]; omega
          have hd50 : (cs.getD i 0) < (97 : Int32) := by rw [Int32.lt_iff_toInt_lt]; omega
          have hd51 : (cs.getD i 0) < (48 : Int32) := by rw [Int32.lt_iff_toInt_lt]; omega
          have pre52 : ∀ t, Steps p.tables e below (T30.setTop (mkF m 86 #[.val (.ref sa), .val (.int (1 : Int32)), .val (.int (Int32.ofNat i)), .val (.int (cs.getD i 0))] [])) t → Steps p.tables e below (s₁.setTop (entryFrame m #[(.ref sa)] 4)) t := by
            intro t kk
            refine pre32 t ?_
            show Steps p.tables e below (T30.setTop (mkF m 53 #[.val (.ref sa), .val (.int (1 : Int32)), .val (.int (Int32.ofNat i)), .val (.int (cs.getD i 0))] [(.int (65 : Int32)), (.int (cs.getD i 0))])) _
            refine XS.icmpYes X30.here hx rfl (pc0 := 53) (pc' := 62) rfl (hb hby d_prog_45_method_15_code_53) rfl (tlt hd49).1 (by decide) (by decide) ?_
            show Steps p.tables e below (T30.setTop (mkF m 62 #[.val (.ref sa), .val (.int (1 : Int32)), .val (.int (Int32.ofNat i)), .val (.int (cs.getD i 0))] [])) _
            refine XS.iloadN X30.here hx rfl (hb hby d_prog_45_method_15_code_62) rfl ?_
            show Steps p.tables e below (T30.setTop (mkF m 63 #[.val (.ref sa), .val (.int (1 : Int32)), .val (.int (Int32.ofNat i)), .val (.int (cs.getD i 0))] [(.int (cs.getD i 0))])) _
            refine XS.bipush X30.here hx rfl (hb hby d_prog_45_method_15_code_63) ?_
            show Steps p.tables e below (T30.setTop (mkF m 65 #[.val (.ref sa), .val (.int (1 : Int32)), .val (.int (Int32.ofNat i)), .val (.int (cs.getD i 0))] [(.int (97 : Int32)), (.int (cs.getD i 0))])) _
            refine XS.icmpYes X30.here hx rfl (pc0 := 65) (pc' := 74) rfl (hb hby d_prog_45_method_15_code_65) rfl (tlt hd50).1 (by decide) (by decide) ?_
            show Steps p.tables e below (T30.setTop (mkF m 74 #[.val (.ref sa), .val (.int (1 : Int32)), .val (.int (Int32.ofNat i)), .val (.int (cs.getD i 0))] [])) _
            refine XS.iloadN X30.here hx rfl (hb hby d_prog_45_method_15_code_74) rfl ?_
            show Steps p.tables e below (T30.setTop (mkF m 75 #[.val (.ref sa), .val (.int (1 : Int32)), .val (.int (Int32.ofNat i)), .val (.int (cs.getD i 0))] [(.int (cs.getD i 0))])) _
            refine XS.bipush X30.here hx rfl (hb hby d_prog_45_method_15_code_75) ?_
            show Steps p.tables e below (T30.setTop (mkF m 77 #[.val (.ref sa), .val (.int (1 : Int32)), .val (.int (Int32.ofNat i)), .val (.int (cs.getD i 0))] [(.int (48 : Int32)), (.int (cs.getD i 0))])) _
            refine XS.icmpYes X30.here hx rfl (pc0 := 77) (pc' := 86) rfl (hb hby d_prog_45_method_15_code_77) rfl (tlt hd51).1 (by decide) (by decide) ?_
            exact kk
          obtain ⟨a53, T53, h53, k53, bb53, kb53, X53, e53, E53, hS53, hk53, hZ, hown, Ex53, Fc53, Fv53, V53, lta53, ltb53, CQ53, Lt53, sl53, st53⟩ := ldcCH X30 hx hZ hown (hw _ (List.mem_of_getElem? (i := 84) rfl)) wS e30q hSL hkL hEL (List.mem_of_getElem? (i := 1) rfl) CRL.1 (vs := [(.int (46 : Int32)), (.int (95 : Int32)), (.int (126 : Int32)), (.int (45 : Int32))]) (z := (4 : Int32)) ⟨by decide, by decide⟩ (by decide) (rfl) (g := (mkF m 86 #[.val (.ref sa), .val (.int (1 : Int32)), .val (.int (Int32.ofNat i)), .val (.int (cs.getD i 0))] [])) rfl (hb hby d_prog_45_method_15_code_86) (n := 16) (by decide) (by decide) (by show (2 + 2 * own_cnt cs i) + 2 ≤ 10; omega) (by show (12 + 20 * own_cnt cs i) + (16 + 4) ≤ 92; omega)
          have CR53 := CHr.trans CRL CQ53
          have pre54 : ∀ t, Steps p.tables e below (T53.setTop (mkF m 88 #[.val (.ref sa), .val (.int (1 : Int32)), .val (.int (Int32.ofNat i)), .val (.int (cs.getD i 0))] [(.ref a53)])) t → Steps p.tables e below (s₁.setTop (entryFrame m #[(.ref sa)] 4)) t := by
            intro t kk
            refine pre52 t ?_
            show Steps p.tables e below (T30.setTop (mkF m 86 #[.val (.ref sa), .val (.int (1 : Int32)), .val (.int (Int32.ofNat i)), .val (.int (cs.getD i 0))] [])) _
            exact st53 _ kk
          have fc55 := (fc25.ext E53)
          have fc57 := (Nat.le_trans fc27 E53.1)
          obtain ⟨cq56, kq56, q56a, q56b, q56c⟩ := isOf hZ e53 Ex53
          obtain ⟨_, _, ⟨T56, L56, k56, n56⟩, -, X56, ⟨Lc56, hQ56, l56, y56, z56⟩, st56⟩ := X53.virtualBack hx (y := (⟨"java/lang/String", "indexOf", "(I)I"⟩ : MethodName)) (z := (⟨"java/lang/String", "indexOf", "(I)I"⟩ : MethodName)) hown (mvT hZ (hw _ (List.mem_of_getElem? (i := 85) rfl))) (mvT hZ (hw _ (List.mem_of_getElem? (i := 86) rfl))) (notFace_of_selects (args := #[]) (mvT hZ (hw _ (List.mem_of_getElem? (i := 88) rfl)))) (mvT hZ (hw _ (List.mem_of_getElem? (i := 88) rfl))) (mvT hZ (hw _ (List.mem_of_getElem? (i := 87) rfl))) (by decide) (backOf (W := 0) (own_io1 l Z a0 hw [] a53 bb53 kb53 (cs.getD i 0) G1 h53 n0 fc57 Ex53 Fv53 Fc53 V53 hsp O2 P5 fc55) hZ (hw _ (List.mem_of_getElem? (i := 89) rfl)) (hw _ (List.mem_of_getElem? (i := 7) rfl)) (by decide) (by decide)) q56a q56c (g := (mkF m 89 #[.val (.ref sa), .val (.int (1 : Int32)), .val (.int (Int32.ofNat i)), .val (.int (cs.getD i 0))] [(.int (cs.getD i 0)), (.ref a53)])) rfl (by rw [hml]; rfl) (Steps.refl _) (argsL := [(.int (cs.getD i 0))]) (rest := []) (lenOf pd__I_I rfl) rfl (by show 2 * 0 + _ ≤ _; exact Nat.le_of_eq rfl) (hb hby d_prog_45_method_15_code_89) (fun _ _ => ⟨rfl, e53, (by show ((2 + 2 * own_cnt cs i) + 2) + 0 ≤ 10; omega), (by show ((12 + 20 * own_cnt cs i) + 20) + 0 ≤ 92; omega)⟩)
          dsimp only [Pt.U, Pt.locs, Pt.cells, Pt.slots] at X56 l56 y56 z56 st56 hQ56
          subst l56 y56 z56
          obtain ⟨r1, rfl, N56q, e56q, hr1⟩ := hQ56
          have N56 := Fr.app N30 N56q
          have pre58 : ∀ t, Steps p.tables e below (T56.setTop (mkF m 92 #[.val (.ref sa), .val (.int (1 : Int32)), .val (.int (Int32.ofNat i)), .val (.int (cs.getD i 0))] [(.int r1)])) t → Steps p.tables e below (s₁.setTop (entryFrame m #[(.ref sa)] 4)) t := by
            intro t kk
            refine pre54 t ?_
            show Steps p.tables e below (T53.setTop (mkF m 88 #[.val (.ref sa), .val (.int (1 : Int32)), .val (.int (Int32.ofNat i)), .val (.int (cs.getD i 0))] [(.ref a53)])) _
            refine XS.iloadN X53.here hx rfl (hb hby d_prog_45_method_15_code_88) rfl ?_
            show Steps p.tables e below (T53.setTop (mkF m 89 #[.val (.ref sa), .val (.int (1 : Int32)), .val (.int (Int32.ofNat i)), .val (.int (cs.getD i 0))] [(.int (cs.getD i 0)), (.ref a53)])) _
            exact st56.trans kk
          have hd59 : ¬ (r1 < (0 : Int32)) := hr1
          have pre60 : ∀ t, Steps p.tables e below (T56.setTop (mkF m 32 #[.val (.ref sa), .val (.int (1 : Int32)), .val (.int ((Int32.ofNat i) + (1 : Int32))), .val (.int (cs.getD i 0))] [])) t → Steps p.tables e below (s₁.setTop (entryFrame m #[(.ref sa)] 4)) t := by
            intro t kk
            refine pre58 t ?_
            show Steps p.tables e below (T56.setTop (mkF m 92 #[.val (.ref sa), .val (.int (1 : Int32)), .val (.int (Int32.ofNat i)), .val (.int (cs.getD i 0))] [(.int r1)])) _
            refine XS.ifNo X56.here hx rfl (hb hby d_prog_45_method_15_code_92) rfl ((if0 _ _).trans (flt hd59).1) ?_
            show Steps p.tables e below (T56.setTop (mkF m 95 #[.val (.ref sa), .val (.int (1 : Int32)), .val (.int (Int32.ofNat i)), .val (.int (cs.getD i 0))] [])) _
            refine XS.iconst X56.here hx rfl (hb hby d_prog_45_method_15_code_95) ?_
            show Steps p.tables e below (T56.setTop (mkF m 96 #[.val (.ref sa), .val (.int (1 : Int32)), .val (.int (Int32.ofNat i)), .val (.int (cs.getD i 0))] [(.int (1 : Int32))])) _
            refine XS.goto X56.here hx rfl (pc0 := 96) (pc' := 100) rfl (hb hby d_prog_45_method_15_code_96) (by decide) (by decide) ?_
            show Steps p.tables e below (T56.setTop (mkF m 100 #[.val (.ref sa), .val (.int (1 : Int32)), .val (.int (Int32.ofNat i)), .val (.int (cs.getD i 0))] [(.int (1 : Int32))])) _
            refine XS.istoreN X56.here hx rfl (hb hby d_prog_45_method_15_code_100) rfl (l' := #[.val (.ref sa), .val (.int (1 : Int32)), .val (.int (Int32.ofNat i)), .val (.int (cs.getD i 0))]) rfl ?_
            show Steps p.tables e below (T56.setTop (mkF m 101 #[.val (.ref sa), .val (.int (1 : Int32)), .val (.int (Int32.ofNat i)), .val (.int (cs.getD i 0))] [])) _
            refine XS.iinc X56.here hx rfl (hb hby d_prog_45_method_15_code_101) rfl (l' := #[.val (.ref sa), .val (.int (1 : Int32)), .val (.int ((Int32.ofNat i) + (1 : Int32))), .val (.int (cs.getD i 0))]) rfl ?_
            show Steps p.tables e below (T56.setTop (mkF m 104 #[.val (.ref sa), .val (.int (1 : Int32)), .val (.int ((Int32.ofNat i) + (1 : Int32))), .val (.int (cs.getD i 0))] [])) _
            refine XS.goto X56.here hx rfl (pc0 := 104) (pc' := 32) rfl (hb hby d_prog_45_method_15_code_104) (by decide) (by decide) ?_
            exact kk
          rw [own_inc (by omega)] at pre60
          have fc61 := (((Keep.refl h0 []).trans KL all0).ext E53)
          exact ⟨_, _, _, _, _, _, _, _, X56, e56q, N56, fc61, hZ, hown, hS53, hk53, CR53, by omega, by omega, Or.inr ⟨_, rfl⟩, pre60⟩
        · skip
          have hR : (cs.getD i 0).toInt = 95 := by rw [hA]; decide
          have hd62 : ¬ ((cs.getD i 0) < (65 : Int32)) := by rw [Int32.lt_iff_toInt_lt]; omega
          have hd63 : (90 : Int32) < (cs.getD i 0) := by rw [Int32.lt_iff_toInt_lt]; omega
          have hd64 : (cs.getD i 0) < (97 : Int32) := by rw [Int32.lt_iff_toInt_lt]; omega
          have hd65 : ¬ ((cs.getD i 0) < (48 : Int32)) := by rw [Int32.lt_iff_toInt_lt]; omega
          have hd66 : (57 : Int32) < (cs.getD i 0) := by rw [Int32.lt_iff_toInt_lt]; omega
          have pre67 : ∀ t, Steps p.tables e below (T30.setTop (mkF m 86 #[.val (.ref sa), .val (.int (1 : Int32)), .val (.int (Int32.ofNat i)), .val (.int (cs.getD i 0))] [])) t → Steps p.tables e below (s₁.setTop (entryFrame m #[(.ref sa)] 4)) t := by
            intro t kk
            refine pre32 t ?_
            show Steps p.tables e below (T30.setTop (mkF m 53 #[.val (.ref sa), .val (.int (1 : Int32)), .val (.int (Int32.ofNat i)), .val (.int (cs.getD i 0))] [(.int (65 : Int32)), (.int (cs.getD i 0))])) _
            refine XS.icmpNo X30.here hx rfl (hb hby d_prog_45_method_15_code_53) rfl (flt hd62).1 ?_
            show Steps p.tables e below (T30.setTop (mkF m 56 #[.val (.ref sa), .val (.int (1 : Int32)), .val (.int (Int32.ofNat i)), .val (.int (cs.getD i 0))] [])) _
            refine XS.iloadN X30.here hx rfl (hb hby d_prog_45_method_15_code_56) rfl ?_
            show Steps p.tables e below (T30.setTop (mkF m 57 #[.val (.ref sa), .val (.int (1 : Int32)), .val (.int (Int32.ofNat i)), .val (.int (cs.getD i 0))] [(.int (cs.getD i 0))])) _
            refine XS.bipush X30.here hx rfl (hb hby d_prog_45_method_15_code_57) ?_
            show Steps p.tables e below (T30.setTop (mkF m 59 #[.val (.ref sa), .val (.int (1 : Int32)), .val (.int (Int32.ofNat i)), .val (.int (cs.getD i 0))] [(.int (90 : Int32)), (.int (cs.getD i 0))])) _
            refine XS.icmpNo X30.here hx rfl (hb hby d_prog_45_method_15_code_59) rfl (tlt hd63).2.2.2 ?_
            show Steps p.tables e below (T30.setTop (mkF m 62 #[.val (.ref sa), .val (.int (1 : Int32)), .val (.int (Int32.ofNat i)), .val (.int (cs.getD i 0))] [])) _
            refine XS.iloadN X30.here hx rfl (hb hby d_prog_45_method_15_code_62) rfl ?_
            show Steps p.tables e below (T30.setTop (mkF m 63 #[.val (.ref sa), .val (.int (1 : Int32)), .val (.int (Int32.ofNat i)), .val (.int (cs.getD i 0))] [(.int (cs.getD i 0))])) _
            refine XS.bipush X30.here hx rfl (hb hby d_prog_45_method_15_code_63) ?_
            show Steps p.tables e below (T30.setTop (mkF m 65 #[.val (.ref sa), .val (.int (1 : Int32)), .val (.int (Int32.ofNat i)), .val (.int (cs.getD i 0))] [(.int (97 : Int32)), (.int (cs.getD i 0))])) _
            refine XS.icmpYes X30.here hx rfl (pc0 := 65) (pc' := 74) rfl (hb hby d_prog_45_method_15_code_65) rfl (tlt hd64).1 (by decide) (by decide) ?_
            show Steps p.tables e below (T30.setTop (mkF m 74 #[.val (.ref sa), .val (.int (1 : Int32)), .val (.int (Int32.ofNat i)), .val (.int (cs.getD i 0))] [])) _
            refine XS.iloadN X30.here hx rfl (hb hby d_prog_45_method_15_code_74) rfl ?_
            show Steps p.tables e below (T30.setTop (mkF m 75 #[.val (.ref sa), .val (.int (1 : Int32)), .val (.int (Int32.ofNat i)), .val (.int (cs.getD i 0))] [(.int (cs.getD i 0))])) _
            refine XS.bipush X30.here hx rfl (hb hby d_prog_45_method_15_code_75) ?_
            show Steps p.tables e below (T30.setTop (mkF m 77 #[.val (.ref sa), .val (.int (1 : Int32)), .val (.int (Int32.ofNat i)), .val (.int (cs.getD i 0))] [(.int (48 : Int32)), (.int (cs.getD i 0))])) _
            refine XS.icmpNo X30.here hx rfl (hb hby d_prog_45_method_15_code_77) rfl (flt hd65).1 ?_
            show Steps p.tables e below (T30.setTop (mkF m 80 #[.val (.ref sa), .val (.int (1 : Int32)), .val (.int (Int32.ofNat i)), .val (.int (cs.getD i 0))] [])) _
            refine XS.iloadN X30.here hx rfl (hb hby d_prog_45_method_15_code_80) rfl ?_
            show Steps p.tables e below (T30.setTop (mkF m 81 #[.val (.ref sa), .val (.int (1 : Int32)), .val (.int (Int32.ofNat i)), .val (.int (cs.getD i 0))] [(.int (cs.getD i 0))])) _
            refine XS.bipush X30.here hx rfl (hb hby d_prog_45_method_15_code_81) ?_
            show Steps p.tables e below (T30.setTop (mkF m 83 #[.val (.ref sa), .val (.int (1 : Int32)), .val (.int (Int32.ofNat i)), .val (.int (cs.getD i 0))] [(.int (57 : Int32)), (.int (cs.getD i 0))])) _
            refine XS.icmpNo X30.here hx rfl (hb hby d_prog_45_method_15_code_83) rfl (tlt hd66).2.2.2 ?_
            exact kk
          obtain ⟨a68, T68, h68, k68, bb68, kb68, X68, e68, E68, hS68, hk68, hZ, hown, Ex68, Fc68, Fv68, V68, lta68, ltb68, CQ68, Lt68, sl68, st68⟩ := ldcCH X30 hx hZ hown (hw _ (List.mem_of_getElem? (i := 84) rfl)) wS e30q hSL hkL hEL (List.mem_of_getElem? (i := 1) rfl) CRL.1 (vs := [(.int (46 : Int32)), (.int (95 : Int32)), (.int (126 : Int32)), (.int (45 : Int32))]) (z := (4 : Int32)) ⟨by decide, by decide⟩ (by decide) (rfl) (g := (mkF m 86 #[.val (.ref sa), .val (.int (1 : Int32)), .val (.int (Int32.ofNat i)), .val (.int (cs.getD i 0))] [])) rfl (hb hby d_prog_45_method_15_code_86) (n := 16) (by decide) (by decide) (by show (2 + 2 * own_cnt cs i) + 2 ≤ 10; omega) (by show (12 + 20 * own_cnt cs i) + (16 + 4) ≤ 92; omega)
          have CR68 := CHr.trans CRL CQ68
          have pre69 : ∀ t, Steps p.tables e below (T68.setTop (mkF m 88 #[.val (.ref sa), .val (.int (1 : Int32)), .val (.int (Int32.ofNat i)), .val (.int (cs.getD i 0))] [(.ref a68)])) t → Steps p.tables e below (s₁.setTop (entryFrame m #[(.ref sa)] 4)) t := by
            intro t kk
            refine pre67 t ?_
            show Steps p.tables e below (T30.setTop (mkF m 86 #[.val (.ref sa), .val (.int (1 : Int32)), .val (.int (Int32.ofNat i)), .val (.int (cs.getD i 0))] [])) _
            exact st68 _ kk
          have fc70 := (fc25.ext E68)
          have fc72 := (Nat.le_trans fc27 E68.1)
          obtain ⟨cq71, kq71, q71a, q71b, q71c⟩ := isOf hZ e68 Ex68
          obtain ⟨_, _, ⟨T71, L71, k71, n71⟩, -, X71, ⟨Lc71, hQ71, l71, y71, z71⟩, st71⟩ := X68.virtualBack hx (y := (⟨"java/lang/String", "indexOf", "(I)I"⟩ : MethodName)) (z := (⟨"java/lang/String", "indexOf", "(I)I"⟩ : MethodName)) hown (mvT hZ (hw _ (List.mem_of_getElem? (i := 85) rfl))) (mvT hZ (hw _ (List.mem_of_getElem? (i := 86) rfl))) (notFace_of_selects (args := #[]) (mvT hZ (hw _ (List.mem_of_getElem? (i := 88) rfl)))) (mvT hZ (hw _ (List.mem_of_getElem? (i := 88) rfl))) (mvT hZ (hw _ (List.mem_of_getElem? (i := 87) rfl))) (by decide) (backOf (W := 0) (own_io1 l Z a0 hw [] a68 bb68 kb68 (cs.getD i 0) G1 h68 n0 fc72 Ex68 Fv68 Fc68 V68 hsp O2 P5 fc70) hZ (hw _ (List.mem_of_getElem? (i := 89) rfl)) (hw _ (List.mem_of_getElem? (i := 7) rfl)) (by decide) (by decide)) q71a q71c (g := (mkF m 89 #[.val (.ref sa), .val (.int (1 : Int32)), .val (.int (Int32.ofNat i)), .val (.int (cs.getD i 0))] [(.int (cs.getD i 0)), (.ref a68)])) rfl (by rw [hml]; rfl) (Steps.refl _) (argsL := [(.int (cs.getD i 0))]) (rest := []) (lenOf pd__I_I rfl) rfl (by show 2 * 0 + _ ≤ _; exact Nat.le_of_eq rfl) (hb hby d_prog_45_method_15_code_89) (fun _ _ => ⟨rfl, e68, (by show ((2 + 2 * own_cnt cs i) + 2) + 0 ≤ 10; omega), (by show ((12 + 20 * own_cnt cs i) + 20) + 0 ≤ 92; omega)⟩)
          dsimp only [Pt.U, Pt.locs, Pt.cells, Pt.slots] at X71 l71 y71 z71 st71 hQ71
          subst l71 y71 z71
          obtain ⟨r1, rfl, N71q, e71q, hr1⟩ := hQ71
          have N71 := Fr.app N30 N71q
          have pre73 : ∀ t, Steps p.tables e below (T71.setTop (mkF m 92 #[.val (.ref sa), .val (.int (1 : Int32)), .val (.int (Int32.ofNat i)), .val (.int (cs.getD i 0))] [(.int r1)])) t → Steps p.tables e below (s₁.setTop (entryFrame m #[(.ref sa)] 4)) t := by
            intro t kk
            refine pre69 t ?_
            show Steps p.tables e below (T68.setTop (mkF m 88 #[.val (.ref sa), .val (.int (1 : Int32)), .val (.int (Int32.ofNat i)), .val (.int (cs.getD i 0))] [(.ref a68)])) _
            refine XS.iloadN X68.here hx rfl (hb hby d_prog_45_method_15_code_88) rfl ?_
            show Steps p.tables e below (T68.setTop (mkF m 89 #[.val (.ref sa), .val (.int (1 : Int32)), .val (.int (Int32.ofNat i)), .val (.int (cs.getD i 0))] [(.int (cs.getD i 0)), (.ref a68)])) _
            exact st71.trans kk
          have hd74 : ¬ (r1 < (0 : Int32)) := hr1
          have pre75 : ∀ t, Steps p.tables e below (T71.setTop (mkF m 32 #[.val (.ref sa), .val (.int (1 : Int32)), .val (.int ((Int32.ofNat i) + (1 : Int32))), .val (.int (cs.getD i 0))] [])) t → Steps p.tables e below (s₁.setTop (entryFrame m #[(.ref sa)] 4)) t := by
            intro t kk
            refine pre73 t ?_
            show Steps p.tables e below (T71.setTop (mkF m 92 #[.val (.ref sa), .val (.int (1 : Int32)), .val (.int (Int32.ofNat i)), .val (.int (cs.getD i 0))] [(.int r1)])) _
            refine XS.ifNo X71.here hx rfl (hb hby d_prog_45_method_15_code_92) rfl ((if0 _ _).trans (flt hd74).1) ?_
            show Steps p.tables e below (T71.setTop (mkF m 95 #[.val (.ref sa), .val (.int (1 : Int32)), .val (.int (Int32.ofNat i)), .val (.int (cs.getD i 0))] [])) _
            refine XS.iconst X71.here hx rfl (hb hby d_prog_45_method_15_code_95) ?_
            show Steps p.tables e below (T71.setTop (mkF m 96 #[.val (.ref sa), .val (.int (1 : Int32)), .val (.int (Int32.ofNat i)), .val (.int (cs.getD i 0))] [(.int (1 : Int32))])) _
            refine XS.goto X71.here hx rfl (pc0 := 96) (pc' := 100) rfl (hb hby d_prog_45_method_15_code_96) (by decide) (by decide) ?_
            show Steps p.tables e below (T71.setTop (mkF m 100 #[.val (.ref sa), .val (.int (1 : Int32)), .val (.int (Int32.ofNat i)), .val (.int (cs.getD i 0))] [(.int (1 : Int32))])) _
            refine XS.istoreN X71.here hx rfl (hb hby d_prog_45_method_15_code_100) rfl (l' := #[.val (.ref sa), .val (.int (1 : Int32)), .val (.int (Int32.ofNat i)), .val (.int (cs.getD i 0))]) rfl ?_
            show Steps p.tables e below (T71.setTop (mkF m 101 #[.val (.ref sa), .val (.int (1 : Int32)), .val (.int (Int32.ofNat i)), .val (.int (cs.getD i 0))] [])) _
            refine XS.iinc X71.here hx rfl (hb hby d_prog_45_method_15_code_101) rfl (l' := #[.val (.ref sa), .val (.int (1 : Int32)), .val (.int ((Int32.ofNat i) + (1 : Int32))), .val (.int (cs.getD i 0))]) rfl ?_
            show Steps p.tables e below (T71.setTop (mkF m 104 #[.val (.ref sa), .val (.int (1 : Int32)), .val (.int ((Int32.ofNat i) + (1 : Int32))), .val (.int (cs.getD i 0))] [])) _
            refine XS.goto X71.here hx rfl (pc0 := 104) (pc' := 32) rfl (hb hby d_prog_45_method_15_code_104) (by decide) (by decide) ?_
            exact kk
          rw [own_inc (by omega)] at pre75
          have fc76 := (((Keep.refl h0 []).trans KL all0).ext E68)
          exact ⟨_, _, _, _, _, _, _, _, X71, e71q, N71, fc76, hZ, hown, hS68, hk68, CR68, by omega, by omega, Or.inr ⟨_, rfl⟩, pre75⟩
        · skip
          have hR : (cs.getD i 0).toInt = 126 := by rw [hA]; decide
          have hd77 : ¬ ((cs.getD i 0) < (65 : Int32)) := by rw [Int32.lt_iff_toInt_lt]; omega
          have hd78 : (90 : Int32) < (cs.getD i 0) := by rw [Int32.lt_iff_toInt_lt]; omega
          have hd79 : ¬ ((cs.getD i 0) < (97 : Int32)) := by rw [Int32.lt_iff_toInt_lt]; omega
          have hd80 : (122 : Int32) < (cs.getD i 0) := by rw [Int32.lt_iff_toInt_lt]; omega
          have hd81 : ¬ ((cs.getD i 0) < (48 : Int32)) := by rw [Int32.lt_iff_toInt_lt]; omega
          have hd82 : (57 : Int32) < (cs.getD i 0) := by rw [Int32.lt_iff_toInt_lt]; omega
          have pre83 : ∀ t, Steps p.tables e below (T30.setTop (mkF m 86 #[.val (.ref sa), .val (.int (1 : Int32)), .val (.int (Int32.ofNat i)), .val (.int (cs.getD i 0))] [])) t → Steps p.tables e below (s₁.setTop (entryFrame m #[(.ref sa)] 4)) t := by
            intro t kk
            refine pre32 t ?_
            show Steps p.tables e below (T30.setTop (mkF m 53 #[.val (.ref sa), .val (.int (1 : Int32)), .val (.int (Int32.ofNat i)), .val (.int (cs.getD i 0))] [(.int (65 : Int32)), (.int (cs.getD i 0))])) _
            refine XS.icmpNo X30.here hx rfl (hb hby d_prog_45_method_15_code_53) rfl (flt hd77).1 ?_
            show Steps p.tables e below (T30.setTop (mkF m 56 #[.val (.ref sa), .val (.int (1 : Int32)), .val (.int (Int32.ofNat i)), .val (.int (cs.getD i 0))] [])) _
            refine XS.iloadN X30.here hx rfl (hb hby d_prog_45_method_15_code_56) rfl ?_
            show Steps p.tables e below (T30.setTop (mkF m 57 #[.val (.ref sa), .val (.int (1 : Int32)), .val (.int (Int32.ofNat i)), .val (.int (cs.getD i 0))] [(.int (cs.getD i 0))])) _
            refine XS.bipush X30.here hx rfl (hb hby d_prog_45_method_15_code_57) ?_
            show Steps p.tables e below (T30.setTop (mkF m 59 #[.val (.ref sa), .val (.int (1 : Int32)), .val (.int (Int32.ofNat i)), .val (.int (cs.getD i 0))] [(.int (90 : Int32)), (.int (cs.getD i 0))])) _
            refine XS.icmpNo X30.here hx rfl (hb hby d_prog_45_method_15_code_59) rfl (tlt hd78).2.2.2 ?_
            show Steps p.tables e below (T30.setTop (mkF m 62 #[.val (.ref sa), .val (.int (1 : Int32)), .val (.int (Int32.ofNat i)), .val (.int (cs.getD i 0))] [])) _
            refine XS.iloadN X30.here hx rfl (hb hby d_prog_45_method_15_code_62) rfl ?_
            show Steps p.tables e below (T30.setTop (mkF m 63 #[.val (.ref sa), .val (.int (1 : Int32)), .val (.int (Int32.ofNat i)), .val (.int (cs.getD i 0))] [(.int (cs.getD i 0))])) _
            refine XS.bipush X30.here hx rfl (hb hby d_prog_45_method_15_code_63) ?_
            show Steps p.tables e below (T30.setTop (mkF m 65 #[.val (.ref sa), .val (.int (1 : Int32)), .val (.int (Int32.ofNat i)), .val (.int (cs.getD i 0))] [(.int (97 : Int32)), (.int (cs.getD i 0))])) _
            refine XS.icmpNo X30.here hx rfl (hb hby d_prog_45_method_15_code_65) rfl (flt hd79).1 ?_
            show Steps p.tables e below (T30.setTop (mkF m 68 #[.val (.ref sa), .val (.int (1 : Int32)), .val (.int (Int32.ofNat i)), .val (.int (cs.getD i 0))] [])) _
            refine XS.iloadN X30.here hx rfl (hb hby d_prog_45_method_15_code_68) rfl ?_
            show Steps p.tables e below (T30.setTop (mkF m 69 #[.val (.ref sa), .val (.int (1 : Int32)), .val (.int (Int32.ofNat i)), .val (.int (cs.getD i 0))] [(.int (cs.getD i 0))])) _
            refine XS.bipush X30.here hx rfl (hb hby d_prog_45_method_15_code_69) ?_
            show Steps p.tables e below (T30.setTop (mkF m 71 #[.val (.ref sa), .val (.int (1 : Int32)), .val (.int (Int32.ofNat i)), .val (.int (cs.getD i 0))] [(.int (122 : Int32)), (.int (cs.getD i 0))])) _
            refine XS.icmpNo X30.here hx rfl (hb hby d_prog_45_method_15_code_71) rfl (tlt hd80).2.2.2 ?_
            show Steps p.tables e below (T30.setTop (mkF m 74 #[.val (.ref sa), .val (.int (1 : Int32)), .val (.int (Int32.ofNat i)), .val (.int (cs.getD i 0))] [])) _
            refine XS.iloadN X30.here hx rfl (hb hby d_prog_45_method_15_code_74) rfl ?_
            show Steps p.tables e below (T30.setTop (mkF m 75 #[.val (.ref sa), .val (.int (1 : Int32)), .val (.int (Int32.ofNat i)), .val (.int (cs.getD i 0))] [(.int (cs.getD i 0))])) _
            refine XS.bipush X30.here hx rfl (hb hby d_prog_45_method_15_code_75) ?_
            show Steps p.tables e below (T30.setTop (mkF m 77 #[.val (.ref sa), .val (.int (1 : Int32)), .val (.int (Int32.ofNat i)), .val (.int (cs.getD i 0))] [(.int (48 : Int32)), (.int (cs.getD i 0))])) _
            refine XS.icmpNo X30.here hx rfl (hb hby d_prog_45_method_15_code_77) rfl (flt hd81).1 ?_
            show Steps p.tables e below (T30.setTop (mkF m 80 #[.val (.ref sa), .val (.int (1 : Int32)), .val (.int (Int32.ofNat i)), .val (.int (cs.getD i 0))] [])) _
            refine XS.iloadN X30.here hx rfl (hb hby d_prog_45_method_15_code_80) rfl ?_
            show Steps p.tables e below (T30.setTop (mkF m 81 #[.val (.ref sa), .val (.int (1 : Int32)), .val (.int (Int32.ofNat i)), .val (.int (cs.getD i 0))] [(.int (cs.getD i 0))])) _
            refine XS.bipush X30.here hx rfl (hb hby d_prog_45_method_15_code_81) ?_
            show Steps p.tables e below (T30.setTop (mkF m 83 #[.val (.ref sa), .val (.int (1 : Int32)), .val (.int (Int32.ofNat i)), .val (.int (cs.getD i 0))] [(.int (57 : Int32)), (.int (cs.getD i 0))])) _
            refine XS.icmpNo X30.here hx rfl (hb hby d_prog_45_method_15_code_83) rfl (tlt hd82).2.2.2 ?_
            exact kk
          obtain ⟨a84, T84, h84, k84, bb84, kb84, X84, e84, E84, hS84, hk84, hZ, hown, Ex84, Fc84, Fv84, V84, lta84, ltb84, CQ84, Lt84, sl84, st84⟩ := ldcCH X30 hx hZ hown (hw _ (List.mem_of_getElem? (i := 84) rfl)) wS e30q hSL hkL hEL (List.mem_of_getElem? (i := 1) rfl) CRL.1 (vs := [(.int (46 : Int32)), (.int (95 : Int32)), (.int (126 : Int32)), (.int (45 : Int32))]) (z := (4 : Int32)) ⟨by decide, by decide⟩ (by decide) (rfl) (g := (mkF m 86 #[.val (.ref sa), .val (.int (1 : Int32)), .val (.int (Int32.ofNat i)), .val (.int (cs.getD i 0))] [])) rfl (hb hby d_prog_45_method_15_code_86) (n := 16) (by decide) (by decide) (by show (2 + 2 * own_cnt cs i) + 2 ≤ 10; omega) (by show (12 + 20 * own_cnt cs i) + (16 + 4) ≤ 92; omega)
          have CR84 := CHr.trans CRL CQ84
          have pre85 : ∀ t, Steps p.tables e below (T84.setTop (mkF m 88 #[.val (.ref sa), .val (.int (1 : Int32)), .val (.int (Int32.ofNat i)), .val (.int (cs.getD i 0))] [(.ref a84)])) t → Steps p.tables e below (s₁.setTop (entryFrame m #[(.ref sa)] 4)) t := by
            intro t kk
            refine pre83 t ?_
            show Steps p.tables e below (T30.setTop (mkF m 86 #[.val (.ref sa), .val (.int (1 : Int32)), .val (.int (Int32.ofNat i)), .val (.int (cs.getD i 0))] [])) _
            exact st84 _ kk
          have fc86 := (fc25.ext E84)
          have fc88 := (Nat.le_trans fc27 E84.1)
          obtain ⟨cq87, kq87, q87a, q87b, q87c⟩ := isOf hZ e84 Ex84
          obtain ⟨_, _, ⟨T87, L87, k87, n87⟩, -, X87, ⟨Lc87, hQ87, l87, y87, z87⟩, st87⟩ := X84.virtualBack hx (y := (⟨"java/lang/String", "indexOf", "(I)I"⟩ : MethodName)) (z := (⟨"java/lang/String", "indexOf", "(I)I"⟩ : MethodName)) hown (mvT hZ (hw _ (List.mem_of_getElem? (i := 85) rfl))) (mvT hZ (hw _ (List.mem_of_getElem? (i := 86) rfl))) (notFace_of_selects (args := #[]) (mvT hZ (hw _ (List.mem_of_getElem? (i := 88) rfl)))) (mvT hZ (hw _ (List.mem_of_getElem? (i := 88) rfl))) (mvT hZ (hw _ (List.mem_of_getElem? (i := 87) rfl))) (by decide) (backOf (W := 0) (own_io1 l Z a0 hw [] a84 bb84 kb84 (cs.getD i 0) G1 h84 n0 fc88 Ex84 Fv84 Fc84 V84 hsp O2 P5 fc86) hZ (hw _ (List.mem_of_getElem? (i := 89) rfl)) (hw _ (List.mem_of_getElem? (i := 7) rfl)) (by decide) (by decide)) q87a q87c (g := (mkF m 89 #[.val (.ref sa), .val (.int (1 : Int32)), .val (.int (Int32.ofNat i)), .val (.int (cs.getD i 0))] [(.int (cs.getD i 0)), (.ref a84)])) rfl (by rw [hml]; rfl) (Steps.refl _) (argsL := [(.int (cs.getD i 0))]) (rest := []) (lenOf pd__I_I rfl) rfl (by show 2 * 0 + _ ≤ _; exact Nat.le_of_eq rfl) (hb hby d_prog_45_method_15_code_89) (fun _ _ => ⟨rfl, e84, (by show ((2 + 2 * own_cnt cs i) + 2) + 0 ≤ 10; omega), (by show ((12 + 20 * own_cnt cs i) + 20) + 0 ≤ 92; omega)⟩)
          dsimp only [Pt.U, Pt.locs, Pt.cells, Pt.slots] at X87 l87 y87 z87 st87 hQ87
          subst l87 y87 z87
          obtain ⟨r1, rfl, N87q, e87q, hr1⟩ := hQ87
          have N87 := Fr.app N30 N87q
          have pre89 : ∀ t, Steps p.tables e below (T87.setTop (mkF m 92 #[.val (.ref sa), .val (.int (1 : Int32)), .val (.int (Int32.ofNat i)), .val (.int (cs.getD i 0))] [(.int r1)])) t → Steps p.tables e below (s₁.setTop (entryFrame m #[(.ref sa)] 4)) t := by
            intro t kk
            refine pre85 t ?_
            show Steps p.tables e below (T84.setTop (mkF m 88 #[.val (.ref sa), .val (.int (1 : Int32)), .val (.int (Int32.ofNat i)), .val (.int (cs.getD i 0))] [(.ref a84)])) _
            refine XS.iloadN X84.here hx rfl (hb hby d_prog_45_method_15_code_88) rfl ?_
            show Steps p.tables e below (T84.setTop (mkF m 89 #[.val (.ref sa), .val (.int (1 : Int32)), .val (.int (Int32.ofNat i)), .val (.int (cs.getD i 0))] [(.int (cs.getD i 0)), (.ref a84)])) _
            exact st87.trans kk
          have hd90 : ¬ (r1 < (0 : Int32)) := hr1
          have pre91 : ∀ t, Steps p.tables e below (T87.setTop (mkF m 32 #[.val (.ref sa), .val (.int (1 : Int32)), .val (.int ((Int32.ofNat i) + (1 : Int32))), .val (.int (cs.getD i 0))] [])) t → Steps p.tables e below (s₁.setTop (entryFrame m #[(.ref sa)] 4)) t := by
            intro t kk
            refine pre89 t ?_
            show Steps p.tables e below (T87.setTop (mkF m 92 #[.val (.ref sa), .val (.int (1 : Int32)), .val (.int (Int32.ofNat i)), .val (.int (cs.getD i 0))] [(.int r1)])) _
            refine XS.ifNo X87.here hx rfl (hb hby d_prog_45_method_15_code_92) rfl ((if0 _ _).trans (flt hd90).1) ?_
            show Steps p.tables e below (T87.setTop (mkF m 95 #[.val (.ref sa), .val (.int (1 : Int32)), .val (.int (Int32.ofNat i)), .val (.int (cs.getD i 0))] [])) _
            refine XS.iconst X87.here hx rfl (hb hby d_prog_45_method_15_code_95) ?_
            show Steps p.tables e below (T87.setTop (mkF m 96 #[.val (.ref sa), .val (.int (1 : Int32)), .val (.int (Int32.ofNat i)), .val (.int (cs.getD i 0))] [(.int (1 : Int32))])) _
            refine XS.goto X87.here hx rfl (pc0 := 96) (pc' := 100) rfl (hb hby d_prog_45_method_15_code_96) (by decide) (by decide) ?_
            show Steps p.tables e below (T87.setTop (mkF m 100 #[.val (.ref sa), .val (.int (1 : Int32)), .val (.int (Int32.ofNat i)), .val (.int (cs.getD i 0))] [(.int (1 : Int32))])) _
            refine XS.istoreN X87.here hx rfl (hb hby d_prog_45_method_15_code_100) rfl (l' := #[.val (.ref sa), .val (.int (1 : Int32)), .val (.int (Int32.ofNat i)), .val (.int (cs.getD i 0))]) rfl ?_
            show Steps p.tables e below (T87.setTop (mkF m 101 #[.val (.ref sa), .val (.int (1 : Int32)), .val (.int (Int32.ofNat i)), .val (.int (cs.getD i 0))] [])) _
            refine XS.iinc X87.here hx rfl (hb hby d_prog_45_method_15_code_101) rfl (l' := #[.val (.ref sa), .val (.int (1 : Int32)), .val (.int ((Int32.ofNat i) + (1 : Int32))), .val (.int (cs.getD i 0))]) rfl ?_
            show Steps p.tables e below (T87.setTop (mkF m 104 #[.val (.ref sa), .val (.int (1 : Int32)), .val (.int ((Int32.ofNat i) + (1 : Int32))), .val (.int (cs.getD i 0))] [])) _
            refine XS.goto X87.here hx rfl (pc0 := 104) (pc' := 32) rfl (hb hby d_prog_45_method_15_code_104) (by decide) (by decide) ?_
            exact kk
          rw [own_inc (by omega)] at pre91
          have fc92 := (((Keep.refl h0 []).trans KL all0).ext E84)
          exact ⟨_, _, _, _, _, _, _, _, X87, e87q, N87, fc92, hZ, hown, hS84, hk84, CR84, by omega, by omega, Or.inr ⟨_, rfl⟩, pre91⟩
        · skip
          have hR : (cs.getD i 0).toInt = 45 := by rw [hA]; decide
          have hd93 : (cs.getD i 0) < (65 : Int32) := by rw [Int32.lt_iff_toInt_lt]; omega
          have hd94 : (cs.getD i 0) < (97 : Int32) := by rw [Int32.lt_iff_toInt_lt]; omega
          have hd95 : (cs.getD i 0) < (48 : Int32) := by rw [Int32.lt_iff_toInt_lt]; omega
          have pre96 : ∀ t, Steps p.tables e below (T30.setTop (mkF m 86 #[.val (.ref sa), .val (.int (1 : Int32)), .val (.int (Int32.ofNat i)), .val (.int (cs.getD i 0))] [])) t → Steps p.tables e below (s₁.setTop (entryFrame m #[(.ref sa)] 4)) t := by
            intro t kk
            refine pre32 t ?_
            show Steps p.tables e below (T30.setTop (mkF m 53 #[.val (.ref sa), .val (.int (1 : Int32)), .val (.int (Int32.ofNat i)), .val (.int (cs.getD i 0))] [(.int (65 : Int32)), (.int (cs.getD i 0))])) _
            refine XS.icmpYes X30.here hx rfl (pc0 := 53) (pc' := 62) rfl (hb hby d_prog_45_method_15_code_53) rfl (tlt hd93).1 (by decide) (by decide) ?_
            show Steps p.tables e below (T30.setTop (mkF m 62 #[.val (.ref sa), .val (.int (1 : Int32)), .val (.int (Int32.ofNat i)), .val (.int (cs.getD i 0))] [])) _
            refine XS.iloadN X30.here hx rfl (hb hby d_prog_45_method_15_code_62) rfl ?_
            show Steps p.tables e below (T30.setTop (mkF m 63 #[.val (.ref sa), .val (.int (1 : Int32)), .val (.int (Int32.ofNat i)), .val (.int (cs.getD i 0))] [(.int (cs.getD i 0))])) _
            refine XS.bipush X30.here hx rfl (hb hby d_prog_45_method_15_code_63) ?_
            show Steps p.tables e below (T30.setTop (mkF m 65 #[.val (.ref sa), .val (.int (1 : Int32)), .val (.int (Int32.ofNat i)), .val (.int (cs.getD i 0))] [(.int (97 : Int32)), (.int (cs.getD i 0))])) _
            refine XS.icmpYes X30.here hx rfl (pc0 := 65) (pc' := 74) rfl (hb hby d_prog_45_method_15_code_65) rfl (tlt hd94).1 (by decide) (by decide) ?_
            show Steps p.tables e below (T30.setTop (mkF m 74 #[.val (.ref sa), .val (.int (1 : Int32)), .val (.int (Int32.ofNat i)), .val (.int (cs.getD i 0))] [])) _
            refine XS.iloadN X30.here hx rfl (hb hby d_prog_45_method_15_code_74) rfl ?_
            show Steps p.tables e below (T30.setTop (mkF m 75 #[.val (.ref sa), .val (.int (1 : Int32)), .val (.int (Int32.ofNat i)), .val (.int (cs.getD i 0))] [(.int (cs.getD i 0))])) _
            refine XS.bipush X30.here hx rfl (hb hby d_prog_45_method_15_code_75) ?_
            show Steps p.tables e below (T30.setTop (mkF m 77 #[.val (.ref sa), .val (.int (1 : Int32)), .val (.int (Int32.ofNat i)), .val (.int (cs.getD i 0))] [(.int (48 : Int32)), (.int (cs.getD i 0))])) _
            refine XS.icmpYes X30.here hx rfl (pc0 := 77) (pc' := 86) rfl (hb hby d_prog_45_method_15_code_77) rfl (tlt hd95).1 (by decide) (by decide) ?_
            exact kk
          obtain ⟨a97, T97, h97, k97, bb97, kb97, X97, e97, E97, hS97, hk97, hZ, hown, Ex97, Fc97, Fv97, V97, lta97, ltb97, CQ97, Lt97, sl97, st97⟩ := ldcCH X30 hx hZ hown (hw _ (List.mem_of_getElem? (i := 84) rfl)) wS e30q hSL hkL hEL (List.mem_of_getElem? (i := 1) rfl) CRL.1 (vs := [(.int (46 : Int32)), (.int (95 : Int32)), (.int (126 : Int32)), (.int (45 : Int32))]) (z := (4 : Int32)) ⟨by decide, by decide⟩ (by decide) (rfl) (g := (mkF m 86 #[.val (.ref sa), .val (.int (1 : Int32)), .val (.int (Int32.ofNat i)), .val (.int (cs.getD i 0))] [])) rfl (hb hby d_prog_45_method_15_code_86) (n := 16) (by decide) (by decide) (by show (2 + 2 * own_cnt cs i) + 2 ≤ 10; omega) (by show (12 + 20 * own_cnt cs i) + (16 + 4) ≤ 92; omega)
          have CR97 := CHr.trans CRL CQ97
          have pre98 : ∀ t, Steps p.tables e below (T97.setTop (mkF m 88 #[.val (.ref sa), .val (.int (1 : Int32)), .val (.int (Int32.ofNat i)), .val (.int (cs.getD i 0))] [(.ref a97)])) t → Steps p.tables e below (s₁.setTop (entryFrame m #[(.ref sa)] 4)) t := by
            intro t kk
            refine pre96 t ?_
            show Steps p.tables e below (T30.setTop (mkF m 86 #[.val (.ref sa), .val (.int (1 : Int32)), .val (.int (Int32.ofNat i)), .val (.int (cs.getD i 0))] [])) _
            exact st97 _ kk
          have fc99 := (fc25.ext E97)
          have fc101 := (Nat.le_trans fc27 E97.1)
          obtain ⟨cq100, kq100, q100a, q100b, q100c⟩ := isOf hZ e97 Ex97
          obtain ⟨_, _, ⟨T100, L100, k100, n100⟩, -, X100, ⟨Lc100, hQ100, l100, y100, z100⟩, st100⟩ := X97.virtualBack hx (y := (⟨"java/lang/String", "indexOf", "(I)I"⟩ : MethodName)) (z := (⟨"java/lang/String", "indexOf", "(I)I"⟩ : MethodName)) hown (mvT hZ (hw _ (List.mem_of_getElem? (i := 85) rfl))) (mvT hZ (hw _ (List.mem_of_getElem? (i := 86) rfl))) (notFace_of_selects (args := #[]) (mvT hZ (hw _ (List.mem_of_getElem? (i := 88) rfl)))) (mvT hZ (hw _ (List.mem_of_getElem? (i := 88) rfl))) (mvT hZ (hw _ (List.mem_of_getElem? (i := 87) rfl))) (by decide) (backOf (W := 0) (own_io1 l Z a0 hw [] a97 bb97 kb97 (cs.getD i 0) G1 h97 n0 fc101 Ex97 Fv97 Fc97 V97 hsp O2 P5 fc99) hZ (hw _ (List.mem_of_getElem? (i := 89) rfl)) (hw _ (List.mem_of_getElem? (i := 7) rfl)) (by decide) (by decide)) q100a q100c (g := (mkF m 89 #[.val (.ref sa), .val (.int (1 : Int32)), .val (.int (Int32.ofNat i)), .val (.int (cs.getD i 0))] [(.int (cs.getD i 0)), (.ref a97)])) rfl (by rw [hml]; rfl) (Steps.refl _) (argsL := [(.int (cs.getD i 0))]) (rest := []) (lenOf pd__I_I rfl) rfl (by show 2 * 0 + _ ≤ _; exact Nat.le_of_eq rfl) (hb hby d_prog_45_method_15_code_89) (fun _ _ => ⟨rfl, e97, (by show ((2 + 2 * own_cnt cs i) + 2) + 0 ≤ 10; omega), (by show ((12 + 20 * own_cnt cs i) + 20) + 0 ≤ 92; omega)⟩)
          dsimp only [Pt.U, Pt.locs, Pt.cells, Pt.slots] at X100 l100 y100 z100 st100 hQ100
          subst l100 y100 z100
          obtain ⟨r1, rfl, N100q, e100q, hr1⟩ := hQ100
          have N100 := Fr.app N30 N100q
          have pre102 : ∀ t, Steps p.tables e below (T100.setTop (mkF m 92 #[.val (.ref sa), .val (.int (1 : Int32)), .val (.int (Int32.ofNat i)), .val (.int (cs.getD i 0))] [(.int r1)])) t → Steps p.tables e below (s₁.setTop (entryFrame m #[(.ref sa)] 4)) t := by
            intro t kk
            refine pre98 t ?_
            show Steps p.tables e below (T97.setTop (mkF m 88 #[.val (.ref sa), .val (.int (1 : Int32)), .val (.int (Int32.ofNat i)), .val (.int (cs.getD i 0))] [(.ref a97)])) _
            refine XS.iloadN X97.here hx rfl (hb hby d_prog_45_method_15_code_88) rfl ?_
            show Steps p.tables e below (T97.setTop (mkF m 89 #[.val (.ref sa), .val (.int (1 : Int32)), .val (.int (Int32.ofNat i)), .val (.int (cs.getD i 0))] [(.int (cs.getD i 0)), (.ref a97)])) _
            exact st100.trans kk
          have hd103 : ¬ (r1 < (0 : Int32)) := hr1
          have pre104 : ∀ t, Steps p.tables e below (T100.setTop (mkF m 32 #[.val (.ref sa), .val (.int (1 : Int32)), .val (.int ((Int32.ofNat i) + (1 : Int32))), .val (.int (cs.getD i 0))] [])) t → Steps p.tables e below (s₁.setTop (entryFrame m #[(.ref sa)] 4)) t := by
            intro t kk
            refine pre102 t ?_
            show Steps p.tables e below (T100.setTop (mkF m 92 #[.val (.ref sa), .val (.int (1 : Int32)), .val (.int (Int32.ofNat i)), .val (.int (cs.getD i 0))] [(.int r1)])) _
            refine XS.ifNo X100.here hx rfl (hb hby d_prog_45_method_15_code_92) rfl ((if0 _ _).trans (flt hd103).1) ?_
            show Steps p.tables e below (T100.setTop (mkF m 95 #[.val (.ref sa), .val (.int (1 : Int32)), .val (.int (Int32.ofNat i)), .val (.int (cs.getD i 0))] [])) _
            refine XS.iconst X100.here hx rfl (hb hby d_prog_45_method_15_code_95) ?_
            show Steps p.tables e below (T100.setTop (mkF m 96 #[.val (.ref sa), .val (.int (1 : Int32)), .val (.int (Int32.ofNat i)), .val (.int (cs.getD i 0))] [(.int (1 : Int32))])) _
            refine XS.goto X100.here hx rfl (pc0 := 96) (pc' := 100) rfl (hb hby d_prog_45_method_15_code_96) (by decide) (by decide) ?_
            show Steps p.tables e below (T100.setTop (mkF m 100 #[.val (.ref sa), .val (.int (1 : Int32)), .val (.int (Int32.ofNat i)), .val (.int (cs.getD i 0))] [(.int (1 : Int32))])) _
            refine XS.istoreN X100.here hx rfl (hb hby d_prog_45_method_15_code_100) rfl (l' := #[.val (.ref sa), .val (.int (1 : Int32)), .val (.int (Int32.ofNat i)), .val (.int (cs.getD i 0))]) rfl ?_
            show Steps p.tables e below (T100.setTop (mkF m 101 #[.val (.ref sa), .val (.int (1 : Int32)), .val (.int (Int32.ofNat i)), .val (.int (cs.getD i 0))] [])) _
            refine XS.iinc X100.here hx rfl (hb hby d_prog_45_method_15_code_101) rfl (l' := #[.val (.ref sa), .val (.int (1 : Int32)), .val (.int ((Int32.ofNat i) + (1 : Int32))), .val (.int (cs.getD i 0))]) rfl ?_
            show Steps p.tables e below (T100.setTop (mkF m 104 #[.val (.ref sa), .val (.int (1 : Int32)), .val (.int ((Int32.ofNat i) + (1 : Int32))), .val (.int (cs.getD i 0))] [])) _
            refine XS.goto X100.here hx rfl (pc0 := 104) (pc' := 32) rfl (hb hby d_prog_45_method_15_code_104) (by decide) (by decide) ?_
            exact kk
          rw [own_inc (by omega)] at pre104
          have fc105 := (((Keep.refl h0 []).trans KL all0).ext E97)
          exact ⟨_, _, _, _, _, _, _, _, X100, e100q, N100, fc105, hZ, hown, hS97, hk97, CR97, by omega, by omega, Or.inr ⟨_, rfl⟩, pre104⟩
  obtain ⟨TM, vmM, kM, lcM, hM, lvM, clM, slM, XM, eM, NM, KM, hZ, hown, hSM, hkM, CRM, hclM, hslM, hlvM, preM⟩ := loop cs.length (Nat.le_refl _)
  subst hclM hslM
  have hd206 : ¬ ((1 : Int32) = (0 : Int32)) := by decide
  have fc207 := (ES.keep KM)
  have fc208 := (VS.keep KM nin0)
  have fc209 := (CS.keep KM nin0)
  have fc210 := (KS.keep KM nin0)
  have fc211 := (XO.keep KM all0)
  have fc213 := (Nat.le_trans Z0 KM.1)
  obtain ⟨cq212, kq212, q212a, q212b, q212c⟩ := isOf hZ eM fc207
  obtain ⟨_, _, ⟨T212, L212, k212, n212⟩, -, X212, ⟨Lc212, hQ212, l212, y212, z212⟩, st212⟩ := XM.virtualBack hx (y := (⟨"java/lang/String", "length", "()I"⟩ : MethodName)) (z := (⟨"java/lang/String", "length", "()I"⟩ : MethodName)) hown (mvT hZ (hw _ (List.mem_of_getElem? (i := 51) rfl))) (mvT hZ (hw _ (List.mem_of_getElem? (i := 52) rfl))) (notFace_of_selects (args := #[]) (mvT hZ (hw _ (List.mem_of_getElem? (i := 54) rfl)))) (mvT hZ (hw _ (List.mem_of_getElem? (i := 54) rfl))) (mvT hZ (hw _ (List.mem_of_getElem? (i := 53) rfl))) (by decide) (backOf (W := 1) (own_slen l Z a0 hw [] sa sb kS (Int32.ofNat cs.length) (own_B cs) G1 hM n0 fc213 fc207 fc208 fc209 fc210 O2 P5 fc211) hZ (hw _ (List.mem_of_getElem? (i := 55) rfl)) (hw _ (List.mem_of_getElem? (i := 7) rfl)) (by decide) (by decide)) q212a q212c (g := (mkF m 38 #[.val (.ref sa), .val (.int (1 : Int32)), .val (.int (Int32.ofNat cs.length)), lvM] [(.ref sa), (.int (Int32.ofNat cs.length))])) rfl (by rw [hml]; rfl) (Steps.refl _) (argsL := []) (rest := [(.int (Int32.ofNat cs.length))]) (lenOf pd___I rfl) rfl (by show 2 * 0 + _ ≤ _; exact Nat.le_of_eq rfl) (hb hby d_prog_45_method_15_code_38) (fun _ _ => ⟨rfl, eM, (by show (2 + 2 * own_cnt cs cs.length) + 0 ≤ 10; omega), (by show (12 + 20 * own_cnt cs cs.length) + 0 ≤ 92; omega)⟩)
  dsimp only [Pt.U, Pt.locs, Pt.cells, Pt.slots] at X212 l212 y212 z212 st212 hQ212
  subst l212 y212 z212
  obtain ⟨rfl, N212q, e212q⟩ := hQ212
  have N212 := Fr.app NM N212q
  have pre214 : ∀ t, Steps p.tables e below (T212.setTop (mkF m 41 #[.val (.ref sa), .val (.int (1 : Int32)), .val (.int (Int32.ofNat cs.length)), lvM] [(.int (Int32.ofNat cs.length)), (.int (Int32.ofNat cs.length))])) t → Steps p.tables e below (s₁.setTop (entryFrame m #[(.ref sa)] 4)) t := by
    intro t kk
    refine preM t ?_
    show Steps p.tables e below (TM.setTop (mkF m 32 #[.val (.ref sa), .val (.int (1 : Int32)), .val (.int (Int32.ofNat cs.length)), lvM] [])) _
    refine XS.iloadN XM.here hx rfl (hb hby d_prog_45_method_15_code_32) rfl ?_
    show Steps p.tables e below (TM.setTop (mkF m 33 #[.val (.ref sa), .val (.int (1 : Int32)), .val (.int (Int32.ofNat cs.length)), lvM] [(.int (1 : Int32))])) _
    refine XS.ifNo XM.here hx rfl (hb hby d_prog_45_method_15_code_33) rfl ((if0 _ _).trans (feq hd206).1) ?_
    show Steps p.tables e below (TM.setTop (mkF m 36 #[.val (.ref sa), .val (.int (1 : Int32)), .val (.int (Int32.ofNat cs.length)), lvM] [])) _
    refine XS.iloadN XM.here hx rfl (hb hby d_prog_45_method_15_code_36) rfl ?_
    show Steps p.tables e below (TM.setTop (mkF m 37 #[.val (.ref sa), .val (.int (1 : Int32)), .val (.int (Int32.ofNat cs.length)), lvM] [(.int (Int32.ofNat cs.length))])) _
    refine XS.aloadN XM.here hx rfl (hb hby d_prog_45_method_15_code_37) rfl rfl ?_
    show Steps p.tables e below (TM.setTop (mkF m 38 #[.val (.ref sa), .val (.int (1 : Int32)), .val (.int (Int32.ofNat cs.length)), lvM] [(.ref sa), (.int (Int32.ofNat cs.length))])) _
    exact st212.trans kk
  have hd215 : ¬ ((Int32.ofNat cs.length) < (Int32.ofNat cs.length)) := by rw [Int32.lt_iff_toInt_lt]; omega
  have hd216 : ¬ ((1 : Int32) = (0 : Int32)) := by decide
  have fc217 := ((Keep.refl h0 []).trans KM all0)
  obtain ⟨fs, hr, hrun, hended, hRW⟩ := X212.leaveW hSM (by rw [e212q]; exact hkM) (v := none) (fun _ => rfl)
  have CRe := CHr.trans CRM (CHv.at X212 hZ hEL CRM.1)
  refine ⟨_, _, pre214 _ ?_, hrun, hended, _, _, rfl, ?_, ?_, hRW.1, hRW.2.1, hRW.2.2.1, hRW.2.2.2.mono (by show (2 + 2 * own_cnt cs cs.length) + 0 ≤ 10; omega) (by show (12 + 20 * own_cnt cs cs.length) + 0 ≤ 92; omega)⟩
  · show Steps p.tables e below (T212.setTop (mkF m 41 #[.val (.ref sa), .val (.int (1 : Int32)), .val (.int (Int32.ofNat cs.length)), lvM] [(.int (Int32.ofNat cs.length)), (.int (Int32.ofNat cs.length))])) _
    refine XS.icmpYes X212.here hx rfl (pc0 := 41) (pc' := 107) rfl (hb hby d_prog_45_method_15_code_41) rfl (flt hd215).2.1 (by decide) (by decide) ?_
    show Steps p.tables e below (T212.setTop (mkF m 107 #[.val (.ref sa), .val (.int (1 : Int32)), .val (.int (Int32.ofNat cs.length)), lvM] [])) _
    refine XS.iloadN X212.here hx rfl (hb hby d_prog_45_method_15_code_107) rfl ?_
    show Steps p.tables e below (T212.setTop (mkF m 108 #[.val (.ref sa), .val (.int (1 : Int32)), .val (.int (Int32.ofNat cs.length)), lvM] [(.int (1 : Int32))])) _
    refine XS.ifYes X212.here hx rfl (pc0 := 108) (pc' := 121) rfl (hb hby d_prog_45_method_15_code_108) rfl ((if0 _ _).trans (feq hd216).2) (by decide) (by decide) ?_
    show Steps p.tables e below (T212.setTop (mkF m 121 #[.val (.ref sa), .val (.int (1 : Int32)), .val (.int (Int32.ofNat cs.length)), lvM] [])) _
    exact X212.returnOut hx Bd.returns (hb hby d_prog_45_method_15_code_121) hr
  · show Q_own_chk Z sa sb kS cs G1 G3 h0 n0 _ T212.heap _
    rw [e212q]
    exact ⟨rfl, N212, fc217⟩
  · show CHr Z own_EL s.vm s.heap T212.vm T212.heap
    rw [hh]
    rw [e212q]
    exact CRe
def own_id128 : List Int32 := [65, 66, 67, 68, 69, 70, 71, 72, 73, 74, 75, 76, 77, 78, 79, 80, 81, 82, 83, 84, 85, 86, 87, 88, 89, 90, 97, 98, 99, 100, 101, 102, 103, 104, 105, 106, 107, 108, 109, 110, 111, 112, 113, 114, 115, 116, 117, 118, 119, 120, 121, 122, 48, 49, 50, 51, 52, 53, 54, 55, 56, 57, 46, 95, 126, 45, 65, 66, 67, 68, 69, 70, 71, 72, 73, 74, 75, 76, 77, 78, 79, 80, 81, 82, 83, 84, 85, 86, 87, 88, 89, 90, 97, 98, 99, 100, 101, 102, 103, 104, 105, 106, 107, 108, 109, 110, 111, 112, 113, 114, 115, 116, 117, 118, 119, 120, 121, 122, 48, 49, 50, 51, 52, 53, 54, 55, 56, 57]
theorem own_128a : own_Lt own_id128 := (by decide +kernel : ∀ c ∈ own_id128, ¬ c < 0 ∧ ¬ (255 : Int32) < c)
theorem own_128b : ∀ i, i < own_id128.length → own_ok (own_id128.getD i 0) := by decide +kernel
theorem own_128c : own_cnt own_id128 own_id128.length ≤ 4 := by decide +kernel
theorem own_okL {cs : List Int32} (h : ∀ c ∈ cs, own_ok c) : ∀ i, i < cs.length → own_ok (cs.getD i 0) := fun i hi => by
  have e : cs.getD i 0 = cs[i] := by simp [List.getD_eq_getElem?_getD, hi]
  rw [e]; exact h _ (List.getElem_mem hi)
theorem own_okn {c : Int32} (h : own_ok c) : own_ok (nar .char c) := by rw [own_nok h]; exact h
theorem own_ok0 : ∀ c ∈ ([] : List Int32), own_ok c := fun c hc => by cases hc
theorem own_okc {a : Int32} {cs : List Int32} (ha : own_ok a) (h : ∀ c ∈ cs, own_ok c) : ∀ c ∈ a :: cs, own_ok c := by
  intro c hc
  rcases List.mem_cons.mp hc with rfl | hc
  · exact ha
  · exact h c hc
theorem own_okLt {cs : List Int32} (h : ∀ c ∈ cs, own_ok c) : own_Lt cs := fun c hc => own_ok8 (h c hc)
theorem pd__Ljava_lang_String__V : parseMethodDescriptor "(Ljava/lang/String;)V" = some ⟨[(.object "java/lang/String")], none⟩ := by decide +kernel
theorem pd___C_V : parseMethodDescriptor "([C)V" = some ⟨[(.array .char)], none⟩ := by decide +kernel
theorem ef_own_law (m : MethodId) {p0 : Int32} {p1 : Int32} {p2 : Int32} {p3 : Int32} {p4 : Int32} : entryFrame m #[(.int p0), (.int p1), (.int p2), (.int p3), (.int p4)] maxLocals = mkF m 0 #[.val (.int p0), .val (.int p1), .val (.int p2), .val (.int p3), .val (.int p4), .unset, .unset, .unset, .unset, .unset, .unset, .unset] [] := by first | (simp [entryFrame, mkF, argsToLocals, Value.category, maxLocals]; done) | rfl
def Q_own_law (Z : State) (p0 p1 p2 p3 p4 G1 : Int32) (G3 : Value) (h0 : Heap) (n0 : Nat) (v : Option Value) (h : Heap) (L : List Loc) : Prop := v = some (.int 1) ∧ Fr n0 L
set_option maxRecDepth 65536 in
set_option maxHeartbeats 40000000 in
theorem own_law (l : Launch) (Z : State) (a0 : Array Value) (hw : ∀ d ∈ tables_1, d.before a0 Z = true) (ws : List Jvm.Cond) (p0 p1 p2 p3 p4 G1 : Int32) (G3 : Value) (h0 : Heap) (n0 : Nat) (Z0 : n0 ≤ h0.size) (O2 : Sta Z Z.heap "java/lang/String" "COMPACT_STRINGS" "Z" (.int G1)) (P5 : ¬ G1 = (0 : Int32)) (O4 : Sta Z Z.heap "jdk/internal/util/Preconditions" "SIOOBE_FORMATTER" "Ljava/util/function/BiFunction;" G3) (rG3 : G3.isRef = true) (XO : Old Z n0 h0) :
    MetFree l x (head1 (Jvm.Cond.code x code maxLocals ret :: ws) room_1) (fun a U => a = #[(.int p0), (.int p1), (.int p2), (.int p3), (.int p4)] ∧ Z.Warmed39 U.vm ∧ U.heap = h0 ∧ CHv Z own_EL U.vm h0) (fun _ _ _ _ _ => True) (fun _ U o U' => ∃ v L, o = .returned v ∧ Q_own_law Z p0 p1 p2 p3 p4 G1 G3 h0 n0 v U'.heap L ∧ CHr Z own_EL U.vm U.heap U'.vm U'.heap ∧ ReturnedEndW U o U' L 24 3200) := by
  refine MetFree.of_bodySF (plainFor_of_name pn_com_example_deadline_deadline_TimerCheckIdPinLaw) hisR ?_
  intro p e s m args below meth c s₁ Bd hml0 hP hK
  obtain ⟨rfl, hZ, hh, hC0⟩ := hP
  have hx := Bd.exec
  have hby := Bd.bytes
  have hml : c.maxLocals = 12 := hml0
  have hown : s.vm.findClass "com/example/deadline/deadline/TimerCheckIdPinLaw" = some m.cls := findClass_of_methodNamed Bd.named
  have hnm := (name_of_methodNamed Bd.named Bd.method).1
  have X0 : Stand p l e room_1 (s.setVm s.vm) m #[(.int p0), (.int p1), (.int p2), (.int p3), (.int p4)] below meth c s₁ [] 0 0 := Stand.of_body Bd
  have e0 : s₁.heap = h0 := by rw [← hh, Bd.state]; rfl
  have N0 := Fr.nil n0
  have pre0 : ∀ t, Steps p.tables e below (s₁.setTop (mkF m 0 #[.val (.int p0), .val (.int p1), .val (.int p2), .val (.int p3), .val (.int p4), .unset, .unset, .unset, .unset, .unset, .unset, .unset] [])) t → Steps p.tables e below (s₁.setTop (entryFrame m #[(.int p0), (.int p1), (.int p2), (.int p3), (.int p4)] maxLocals)) t := fun t k => castTop (ef_own_law m) k
  have hown : (s.setVm s.vm).vm.findClass "com/example/deadline/deadline/TimerCheckIdPinLaw" = some m.cls := hown
  have hZ : Z.Warmed39 (s.setVm s.vm).vm := hZ
  have hS0 : s.Since s.vm 0 := (State.WarmedH.refl s).since 0
  have hk0 : 0 ≤ h0.size := Nat.zero_le _
  have CR0 := CHr.refl hC0
  have wS := own_wS hw
  have hEL := own_hEL hw
  have hws : ∀ d ∈ StrChars.Road.words, d.before a0 Z = true := fun d hd => hw d ((by decide +kernel : ∀ d ∈ StrChars.Road.words, d ∈ tables_1) d hd)
  obtain ⟨_, _, ⟨T1, L1, k1, n1⟩, -, X1, ⟨Lc1, hQ1, l1, y1, z1⟩, st1⟩ := Jvm.LawKit.callS X0 hx (y := (⟨"com/example/deadline/deadline/TimerCheckIdPinLaw", "idChar", "(I)C"⟩ : MethodName)) hown (mvT hZ (hw _ (List.mem_of_getElem? (i := 0) rfl))) (mvT hZ (hw _ (List.mem_of_getElem? (i := 1) rfl))) (mvT hZ (hw _ (List.mem_of_getElem? (i := 2) rfl))) (mvT hZ (hw _ (List.mem_of_getElem? (i := 3) rfl))) (by decide) (backOf (W := 0) (own_idc l Z a0 hw [] p1 h0 n0 Z0) hZ (hw _ (List.mem_of_getElem? (i := 3) rfl)) (hw _ (List.mem_of_getElem? (i := 2) rfl)) (by decide) (by decide)) (g := (mkF m 1 #[.val (.int p0), .val (.int p1), .val (.int p2), .val (.int p3), .val (.int p4), .unset, .unset, .unset, .unset, .unset, .unset, .unset] [(.int p1)])) rfl (by rw [hml]; rfl) (argsL := [(.int p1)]) (rest := []) (lenOf pd__I_C rfl) rfl (by show 2 * 0 + _ ≤ _; exact Nat.le_of_eq rfl) (hb hby at_1) (fun _ _ => ⟨rfl, e0, (by decide : 0 + 0 ≤ _), (by decide : 0 + 0 ≤ _)⟩)
  dsimp only [Pt.U, Pt.locs, Pt.cells, Pt.slots] at X1 l1 y1 z1 st1 hQ1
  subst l1 y1 z1
  obtain ⟨d0, rfl, N1q, e1q, hd0⟩ := hQ1
  have N1 := Fr.app N0 N1q
  have pre2 : ∀ t, Steps p.tables e below (T1.setTop (mkF m 4 #[.val (.int p0), .val (.int p1), .val (.int p2), .val (.int p3), .val (.int p4), .unset, .unset, .unset, .unset, .unset, .unset, .unset] [(.int d0)])) t → Steps p.tables e below (s₁.setTop (entryFrame m #[(.int p0), (.int p1), (.int p2), (.int p3), (.int p4)] maxLocals)) t := by
    intro t kk
    refine pre0 t ?_
    show Steps p.tables e below (s₁.setTop (mkF m 0 #[.val (.int p0), .val (.int p1), .val (.int p2), .val (.int p3), .val (.int p4), .unset, .unset, .unset, .unset, .unset, .unset, .unset] [])) _
    refine XS.iloadN X0.here hx rfl (hb hby at_0) rfl ?_
    show Steps p.tables e below (s₁.setTop (mkF m 1 #[.val (.int p0), .val (.int p1), .val (.int p2), .val (.int p3), .val (.int p4), .unset, .unset, .unset, .unset, .unset, .unset, .unset] [(.int p1)])) _
    exact st1 _ kk
  obtain ⟨_, _, ⟨T3, L3, k3, n3⟩, -, X3, ⟨Lc3, hQ3, l3, y3, z3⟩, st3⟩ := Jvm.LawKit.callS X1 hx (y := (⟨"com/example/deadline/deadline/TimerCheckIdPinLaw", "idChar", "(I)C"⟩ : MethodName)) hown (mvT hZ (hw _ (List.mem_of_getElem? (i := 0) rfl))) (mvT hZ (hw _ (List.mem_of_getElem? (i := 1) rfl))) (mvT hZ (hw _ (List.mem_of_getElem? (i := 2) rfl))) (mvT hZ (hw _ (List.mem_of_getElem? (i := 3) rfl))) (by decide) (backOf (W := 0) (own_idc l Z a0 hw [] p2 h0 n0 Z0) hZ (hw _ (List.mem_of_getElem? (i := 3) rfl)) (hw _ (List.mem_of_getElem? (i := 2) rfl)) (by decide) (by decide)) (g := (mkF m 7 #[.val (.int p0), .val (.int p1), .val (.int p2), .val (.int p3), .val (.int p4), .val (.int d0), .unset, .unset, .unset, .unset, .unset, .unset] [(.int p2)])) rfl (by rw [hml]; rfl) (argsL := [(.int p2)]) (rest := []) (lenOf pd__I_C rfl) rfl (by show 2 * 0 + _ ≤ _; exact Nat.le_of_eq rfl) (hb hby at_7) (fun _ _ => ⟨rfl, e1q, (by decide : 0 + 0 ≤ _), (by decide : 0 + 0 ≤ _)⟩)
  dsimp only [Pt.U, Pt.locs, Pt.cells, Pt.slots] at X3 l3 y3 z3 st3 hQ3
  subst l3 y3 z3
  obtain ⟨d1, rfl, N3q, e3q, hd1⟩ := hQ3
  have N3 := Fr.app N1 N3q
  have pre4 : ∀ t, Steps p.tables e below (T3.setTop (mkF m 10 #[.val (.int p0), .val (.int p1), .val (.int p2), .val (.int p3), .val (.int p4), .val (.int d0), .unset, .unset, .unset, .unset, .unset, .unset] [(.int d1)])) t → Steps p.tables e below (s₁.setTop (entryFrame m #[(.int p0), (.int p1), (.int p2), (.int p3), (.int p4)] maxLocals)) t := by
    intro t kk
    refine pre2 t ?_
    show Steps p.tables e below (T1.setTop (mkF m 4 #[.val (.int p0), .val (.int p1), .val (.int p2), .val (.int p3), .val (.int p4), .unset, .unset, .unset, .unset, .unset, .unset, .unset] [(.int d0)])) _
    refine XS.istore X1.here hx rfl (hb hby at_4) rfl (l' := #[.val (.int p0), .val (.int p1), .val (.int p2), .val (.int p3), .val (.int p4), .val (.int d0), .unset, .unset, .unset, .unset, .unset, .unset]) rfl ?_
    show Steps p.tables e below (T1.setTop (mkF m 6 #[.val (.int p0), .val (.int p1), .val (.int p2), .val (.int p3), .val (.int p4), .val (.int d0), .unset, .unset, .unset, .unset, .unset, .unset] [])) _
    refine XS.iloadN X1.here hx rfl (hb hby at_6) rfl ?_
    show Steps p.tables e below (T1.setTop (mkF m 7 #[.val (.int p0), .val (.int p1), .val (.int p2), .val (.int p3), .val (.int p4), .val (.int d0), .unset, .unset, .unset, .unset, .unset, .unset] [(.int p2)])) _
    exact st3 _ kk
  obtain ⟨_, _, ⟨T5, L5, k5, n5⟩, -, X5, ⟨Lc5, hQ5, l5, y5, z5⟩, st5⟩ := Jvm.LawKit.callS X3 hx (y := (⟨"com/example/deadline/deadline/TimerCheckIdPinLaw", "idChar", "(I)C"⟩ : MethodName)) hown (mvT hZ (hw _ (List.mem_of_getElem? (i := 0) rfl))) (mvT hZ (hw _ (List.mem_of_getElem? (i := 1) rfl))) (mvT hZ (hw _ (List.mem_of_getElem? (i := 2) rfl))) (mvT hZ (hw _ (List.mem_of_getElem? (i := 3) rfl))) (by decide) (backOf (W := 0) (own_idc l Z a0 hw [] p3 h0 n0 Z0) hZ (hw _ (List.mem_of_getElem? (i := 3) rfl)) (hw _ (List.mem_of_getElem? (i := 2) rfl)) (by decide) (by decide)) (g := (mkF m 13 #[.val (.int p0), .val (.int p1), .val (.int p2), .val (.int p3), .val (.int p4), .val (.int d0), .val (.int d1), .unset, .unset, .unset, .unset, .unset] [(.int p3)])) rfl (by rw [hml]; rfl) (argsL := [(.int p3)]) (rest := []) (lenOf pd__I_C rfl) rfl (by show 2 * 0 + _ ≤ _; exact Nat.le_of_eq rfl) (hb hby at_13) (fun _ _ => ⟨rfl, e3q, (by decide : 0 + 0 ≤ _), (by decide : 0 + 0 ≤ _)⟩)
  dsimp only [Pt.U, Pt.locs, Pt.cells, Pt.slots] at X5 l5 y5 z5 st5 hQ5
  subst l5 y5 z5
  obtain ⟨d2, rfl, N5q, e5q, hd2⟩ := hQ5
  have N5 := Fr.app N3 N5q
  have pre6 : ∀ t, Steps p.tables e below (T5.setTop (mkF m 16 #[.val (.int p0), .val (.int p1), .val (.int p2), .val (.int p3), .val (.int p4), .val (.int d0), .val (.int d1), .unset, .unset, .unset, .unset, .unset] [(.int d2)])) t → Steps p.tables e below (s₁.setTop (entryFrame m #[(.int p0), (.int p1), (.int p2), (.int p3), (.int p4)] maxLocals)) t := by
    intro t kk
    refine pre4 t ?_
    show Steps p.tables e below (T3.setTop (mkF m 10 #[.val (.int p0), .val (.int p1), .val (.int p2), .val (.int p3), .val (.int p4), .val (.int d0), .unset, .unset, .unset, .unset, .unset, .unset] [(.int d1)])) _
    refine XS.istore X3.here hx rfl (hb hby at_10) rfl (l' := #[.val (.int p0), .val (.int p1), .val (.int p2), .val (.int p3), .val (.int p4), .val (.int d0), .val (.int d1), .unset, .unset, .unset, .unset, .unset]) rfl ?_
    show Steps p.tables e below (T3.setTop (mkF m 12 #[.val (.int p0), .val (.int p1), .val (.int p2), .val (.int p3), .val (.int p4), .val (.int d0), .val (.int d1), .unset, .unset, .unset, .unset, .unset] [])) _
    refine XS.iloadN X3.here hx rfl (hb hby at_12) rfl ?_
    show Steps p.tables e below (T3.setTop (mkF m 13 #[.val (.int p0), .val (.int p1), .val (.int p2), .val (.int p3), .val (.int p4), .val (.int d0), .val (.int d1), .unset, .unset, .unset, .unset, .unset] [(.int p3)])) _
    exact st5 _ kk
  obtain ⟨_, _, ⟨T7, L7, k7, n7⟩, -, X7, ⟨Lc7, hQ7, l7, y7, z7⟩, st7⟩ := Jvm.LawKit.callS X5 hx (y := (⟨"com/example/deadline/deadline/TimerCheckIdPinLaw", "idChar", "(I)C"⟩ : MethodName)) hown (mvT hZ (hw _ (List.mem_of_getElem? (i := 0) rfl))) (mvT hZ (hw _ (List.mem_of_getElem? (i := 1) rfl))) (mvT hZ (hw _ (List.mem_of_getElem? (i := 2) rfl))) (mvT hZ (hw _ (List.mem_of_getElem? (i := 3) rfl))) (by decide) (backOf (W := 0) (own_idc l Z a0 hw [] p4 h0 n0 Z0) hZ (hw _ (List.mem_of_getElem? (i := 3) rfl)) (hw _ (List.mem_of_getElem? (i := 2) rfl)) (by decide) (by decide)) (g := (mkF m 20 #[.val (.int p0), .val (.int p1), .val (.int p2), .val (.int p3), .val (.int p4), .val (.int d0), .val (.int d1), .val (.int d2), .unset, .unset, .unset, .unset] [(.int p4)])) rfl (by rw [hml]; rfl) (argsL := [(.int p4)]) (rest := []) (lenOf pd__I_C rfl) rfl (by show 2 * 0 + _ ≤ _; exact Nat.le_of_eq rfl) (hb hby at_20) (fun _ _ => ⟨rfl, e5q, (by decide : 0 + 0 ≤ _), (by decide : 0 + 0 ≤ _)⟩)
  dsimp only [Pt.U, Pt.locs, Pt.cells, Pt.slots] at X7 l7 y7 z7 st7 hQ7
  subst l7 y7 z7
  obtain ⟨d3, rfl, N7q, e7q, hd3⟩ := hQ7
  have N7 := Fr.app N5 N7q
  have pre8 : ∀ t, Steps p.tables e below (T7.setTop (mkF m 23 #[.val (.int p0), .val (.int p1), .val (.int p2), .val (.int p3), .val (.int p4), .val (.int d0), .val (.int d1), .val (.int d2), .unset, .unset, .unset, .unset] [(.int d3)])) t → Steps p.tables e below (s₁.setTop (entryFrame m #[(.int p0), (.int p1), (.int p2), (.int p3), (.int p4)] maxLocals)) t := by
    intro t kk
    refine pre6 t ?_
    show Steps p.tables e below (T5.setTop (mkF m 16 #[.val (.int p0), .val (.int p1), .val (.int p2), .val (.int p3), .val (.int p4), .val (.int d0), .val (.int d1), .unset, .unset, .unset, .unset, .unset] [(.int d2)])) _
    refine XS.istore X5.here hx rfl (hb hby at_16) rfl (l' := #[.val (.int p0), .val (.int p1), .val (.int p2), .val (.int p3), .val (.int p4), .val (.int d0), .val (.int d1), .val (.int d2), .unset, .unset, .unset, .unset]) rfl ?_
    show Steps p.tables e below (T5.setTop (mkF m 18 #[.val (.int p0), .val (.int p1), .val (.int p2), .val (.int p3), .val (.int p4), .val (.int d0), .val (.int d1), .val (.int d2), .unset, .unset, .unset, .unset] [])) _
    refine XS.iload X5.here hx rfl (hb hby at_18) rfl ?_
    show Steps p.tables e below (T5.setTop (mkF m 20 #[.val (.int p0), .val (.int p1), .val (.int p2), .val (.int p3), .val (.int p4), .val (.int d0), .val (.int d1), .val (.int d2), .unset, .unset, .unset, .unset] [(.int p4)])) _
    exact st7 _ kk
  by_cases hsel : (p0 &&& (7 : Int32)) = (7 : Int32)
  case pos =>
    have pre9 : ∀ t, Steps p.tables e below (T7.setTop (mkF m 38 #[.val (.int p0), .val (.int p1), .val (.int p2), .val (.int p3), .val (.int p4), .val (.int d0), .val (.int d1), .val (.int d2), .val (.int d3), .val (.int (p0 &&& (7 : Int32))), .unset, .unset] [])) t → Steps p.tables e below (s₁.setTop (entryFrame m #[(.int p0), (.int p1), (.int p2), (.int p3), (.int p4)] maxLocals)) t := by
      intro t kk
      refine pre8 t ?_
      show Steps p.tables e below (T7.setTop (mkF m 23 #[.val (.int p0), .val (.int p1), .val (.int p2), .val (.int p3), .val (.int p4), .val (.int d0), .val (.int d1), .val (.int d2), .unset, .unset, .unset, .unset] [(.int d3)])) _
      refine XS.istore X7.here hx rfl (hb hby at_23) rfl (l' := #[.val (.int p0), .val (.int p1), .val (.int p2), .val (.int p3), .val (.int p4), .val (.int d0), .val (.int d1), .val (.int d2), .val (.int d3), .unset, .unset, .unset]) rfl ?_
      show Steps p.tables e below (T7.setTop (mkF m 25 #[.val (.int p0), .val (.int p1), .val (.int p2), .val (.int p3), .val (.int p4), .val (.int d0), .val (.int d1), .val (.int d2), .val (.int d3), .unset, .unset, .unset] [])) _
      refine XS.iloadN X7.here hx rfl (hb hby at_25) rfl ?_
      show Steps p.tables e below (T7.setTop (mkF m 26 #[.val (.int p0), .val (.int p1), .val (.int p2), .val (.int p3), .val (.int p4), .val (.int d0), .val (.int d1), .val (.int d2), .val (.int d3), .unset, .unset, .unset] [(.int p0)])) _
      refine XS.bipush X7.here hx rfl (hb hby at_26) ?_
      show Steps p.tables e below (T7.setTop (mkF m 28 #[.val (.int p0), .val (.int p1), .val (.int p2), .val (.int p3), .val (.int p4), .val (.int d0), .val (.int d1), .val (.int d2), .val (.int d3), .unset, .unset, .unset] [(.int (7 : Int32)), (.int p0)])) _
      refine XS.iand X7.here hx rfl (hb hby at_28) rfl ?_
      show Steps p.tables e below (T7.setTop (mkF m 29 #[.val (.int p0), .val (.int p1), .val (.int p2), .val (.int p3), .val (.int p4), .val (.int d0), .val (.int d1), .val (.int d2), .val (.int d3), .unset, .unset, .unset] [(.int (p0 &&& (7 : Int32)))])) _
      refine XS.istore X7.here hx rfl (hb hby at_29) rfl (l' := #[.val (.int p0), .val (.int p1), .val (.int p2), .val (.int p3), .val (.int p4), .val (.int d0), .val (.int d1), .val (.int d2), .val (.int d3), .val (.int (p0 &&& (7 : Int32))), .unset, .unset]) rfl ?_
      show Steps p.tables e below (T7.setTop (mkF m 31 #[.val (.int p0), .val (.int p1), .val (.int p2), .val (.int p3), .val (.int p4), .val (.int d0), .val (.int d1), .val (.int d2), .val (.int d3), .val (.int (p0 &&& (7 : Int32))), .unset, .unset] [])) _
      refine XS.iload X7.here hx rfl (hb hby at_31) rfl ?_
      show Steps p.tables e below (T7.setTop (mkF m 33 #[.val (.int p0), .val (.int p1), .val (.int p2), .val (.int p3), .val (.int p4), .val (.int d0), .val (.int d1), .val (.int d2), .val (.int d3), .val (.int (p0 &&& (7 : Int32))), .unset, .unset] [(.int (p0 &&& (7 : Int32)))])) _
      refine XS.bipush X7.here hx rfl (hb hby at_33) ?_
      show Steps p.tables e below (T7.setTop (mkF m 35 #[.val (.int p0), .val (.int p1), .val (.int p2), .val (.int p3), .val (.int p4), .val (.int d0), .val (.int d1), .val (.int d2), .val (.int d3), .val (.int (p0 &&& (7 : Int32))), .unset, .unset] [(.int (7 : Int32)), (.int (p0 &&& (7 : Int32)))])) _
      refine XS.icmpNo X7.here hx rfl (hb hby at_35) rfl (teq hsel).2 ?_
      exact kk
    obtain ⟨a10, T10, h10, k10, bb10, kb10, X10, e10, E10, hS10, hk10, hZ, hown, Ex10, Fc10, Fv10, V10, lta10, ltb10, CQ10, Lt10, sl10, st10⟩ := ldcCH X7 hx hZ hown (hw _ (List.mem_of_getElem? (i := 83) rfl)) wS e7q hS0 hk0 hEL (List.mem_of_getElem? (i := 2) rfl) CR0.1 (vs := (own_B own_id128)) (z := (Int32.ofNat own_id128.length)) ⟨by decide +kernel, by decide +kernel⟩ (by decide +kernel) (by decide +kernel) (g := (mkF m 38 #[.val (.int p0), .val (.int p1), .val (.int p2), .val (.int p3), .val (.int p4), .val (.int d0), .val (.int d1), .val (.int d2), .val (.int d3), .val (.int (p0 &&& (7 : Int32))), .unset, .unset] [])) rfl (hb hby at_38) (n := 512) (by decide +kernel) (by decide) (by decide) (by decide)
    have CR10 := CHr.trans CR0 CQ10
    have pre11 : ∀ t, Steps p.tables e below (T10.setTop (mkF m 40 #[.val (.int p0), .val (.int p1), .val (.int p2), .val (.int p3), .val (.int p4), .val (.int d0), .val (.int d1), .val (.int d2), .val (.int d3), .val (.int (p0 &&& (7 : Int32))), .unset, .unset] [(.ref a10)])) t → Steps p.tables e below (s₁.setTop (entryFrame m #[(.int p0), (.int p1), (.int p2), (.int p3), (.int p4)] maxLocals)) t := by
      intro t kk
      refine pre9 t ?_
      show Steps p.tables e below (T7.setTop (mkF m 38 #[.val (.int p0), .val (.int p1), .val (.int p2), .val (.int p3), .val (.int p4), .val (.int d0), .val (.int d1), .val (.int d2), .val (.int d3), .val (.int (p0 &&& (7 : Int32))), .unset, .unset] [])) _
      exact st10 _ kk
    have fc12 := (XO.ext E10)
    have pre13 : ∀ t, Steps p.tables e below (T10.setTop (mkF m 180 #[.val (.int p0), .val (.int p1), .val (.int p2), .val (.int p3), .val (.int p4), .val (.int d0), .val (.int d1), .val (.int d2), .val (.int d3), .val (.int (p0 &&& (7 : Int32))), .val (.ref a10), .unset] [(.ref a10)])) t → Steps p.tables e below (s₁.setTop (entryFrame m #[(.int p0), (.int p1), (.int p2), (.int p3), (.int p4)] maxLocals)) t := by
      intro t kk
      refine pre11 t ?_
      show Steps p.tables e below (T10.setTop (mkF m 40 #[.val (.int p0), .val (.int p1), .val (.int p2), .val (.int p3), .val (.int p4), .val (.int d0), .val (.int d1), .val (.int d2), .val (.int d3), .val (.int (p0 &&& (7 : Int32))), .unset, .unset] [(.ref a10)])) _
      refine XS.astore X10.here hx rfl (hb hby at_40) rfl rfl (l' := #[.val (.int p0), .val (.int p1), .val (.int p2), .val (.int p3), .val (.int p4), .val (.int d0), .val (.int d1), .val (.int d2), .val (.int d3), .val (.int (p0 &&& (7 : Int32))), .val (.ref a10), .unset]) rfl ?_
      show Steps p.tables e below (T10.setTop (mkF m 42 #[.val (.int p0), .val (.int p1), .val (.int p2), .val (.int p3), .val (.int p4), .val (.int d0), .val (.int d1), .val (.int d2), .val (.int d3), .val (.int (p0 &&& (7 : Int32))), .val (.ref a10), .unset] [])) _
      refine XS.goto X10.here hx rfl (pc0 := 42) (pc' := 178) rfl (hb hby at_42) (by decide) (by decide) ?_
      show Steps p.tables e below (T10.setTop (mkF m 178 #[.val (.int p0), .val (.int p1), .val (.int p2), .val (.int p3), .val (.int p4), .val (.int d0), .val (.int d1), .val (.int d2), .val (.int d3), .val (.int (p0 &&& (7 : Int32))), .val (.ref a10), .unset] [])) _
      refine XS.aload X10.here hx rfl (hb hby at_178) rfl rfl ?_
      exact kk
    have fc15 := (Nat.le_trans Z0 E10.1)
    obtain ⟨_, _, ⟨T14, L14, k14, n14⟩, -, X14w, hS14w, gr14, ⟨Lc14, hQ14, l14, y14, z14, CQ14⟩, st14⟩ := callSS X10 hx (y := (⟨"com/example/deadline/deadline/Timer", "checkId", "(Ljava/lang/String;)V"⟩ : MethodName)) hown (mvT hZ (hw _ (List.mem_of_getElem? (i := 35) rfl))) (mvT hZ (hw _ (List.mem_of_getElem? (i := 36) rfl))) (mvT hZ (hw _ (List.mem_of_getElem? (i := 37) rfl))) (mvT hZ (hw _ (List.mem_of_getElem? (i := 38) rfl))) (by decide) (backOfSH (W := 0) (own_chk l Z a0 hw [] a10 bb10 kb10 own_id128 G1 G3 h10 n0 fc15 Ex10 Fv10 Fc10 V10 own_128a own_128b (by decide +kernel) (by decide +kernel) own_128c O2 P5 O4 rG3 fc12) hZ (hw _ (List.mem_of_getElem? (i := 38) rfl)) (hw _ (List.mem_of_getElem? (i := 37) rfl)) (by decide) (by decide) hEL CR10.1) (g := (mkF m 180 #[.val (.int p0), .val (.int p1), .val (.int p2), .val (.int p3), .val (.int p4), .val (.int d0), .val (.int d1), .val (.int d2), .val (.int d3), .val (.int (p0 &&& (7 : Int32))), .val (.ref a10), .unset] [(.ref a10)])) rfl (by rw [hml]; rfl) (argsL := [(.ref a10)]) (rest := []) (lenOf pd__Ljava_lang_String__V rfl) rfl (by show 2 * 0 + _ ≤ _; exact Nat.le_of_eq rfl) (hb hby at_180) (fun _ _ => ⟨rfl, e10, (by decide : 2 + 10 ≤ _), (by decide : 516 + 92 ≤ _)⟩)
    dsimp only [Pt.U, Pt.locs, Pt.cells, Pt.slots] at X14w hS14w gr14 l14 y14 z14 st14 hQ14 CQ14
    subst l14 y14 z14
    obtain ⟨rfl, N14q, K14⟩ := hQ14
    have N14 := Fr.app N7 N14q
    obtain ⟨X14, hS14, hZ, hown⟩ := rebS hS10 (by rw [e10]; exact hk10) X14w hS14w gr14 hZ hown
    have hk14 : T14.heap.size ≤ T14.heap.size := Nat.le_refl _
    have CR14 := CHr.trans CR10 CQ14
    have pre16 : ∀ t, Steps p.tables e below (T14.setTop (mkF m 183 #[.val (.int p0), .val (.int p1), .val (.int p2), .val (.int p3), .val (.int p4), .val (.int d0), .val (.int d1), .val (.int d2), .val (.int d3), .val (.int (p0 &&& (7 : Int32))), .val (.ref a10), .unset] [])) t → Steps p.tables e below (s₁.setTop (entryFrame m #[(.int p0), (.int p1), (.int p2), (.int p3), (.int p4)] maxLocals)) t := by
      intro t kk
      refine pre13 t ?_
      show Steps p.tables e below (T10.setTop (mkF m 180 #[.val (.int p0), .val (.int p1), .val (.int p2), .val (.int p3), .val (.int p4), .val (.int d0), .val (.int d1), .val (.int d2), .val (.int d3), .val (.int (p0 &&& (7 : Int32))), .val (.ref a10), .unset] [(.ref a10)])) _
      exact st14.trans kk
    obtain ⟨fs, hr, hrun, hended, hRW⟩ := X14.leaveW hS14 hk14 (v := some (.int (1 : Int32))) (fun h => by rw [Bd.returns] at h; cases h)
    have CRe := CHr.trans CR14 (CHv.at X14 hZ hEL CR14.1)
    refine ⟨_, _, pre16 _ ?_, hrun, hended, _, _, rfl, ?_, ?_, hRW.1, hRW.2.1, hRW.2.2.1, hRW.2.2.2.mono (by decide) (by decide)⟩
    · show Steps p.tables e below (T14.setTop (mkF m 183 #[.val (.int p0), .val (.int p1), .val (.int p2), .val (.int p3), .val (.int p4), .val (.int d0), .val (.int d1), .val (.int d2), .val (.int d3), .val (.int (p0 &&& (7 : Int32))), .val (.ref a10), .unset] [])) _
      refine XS.iconst X14.here hx rfl (hb hby at_183) ?_
      show Steps p.tables e below (T14.setTop (mkF m 184 #[.val (.int p0), .val (.int p1), .val (.int p2), .val (.int p3), .val (.int p4), .val (.int d0), .val (.int d1), .val (.int d2), .val (.int d3), .val (.int (p0 &&& (7 : Int32))), .val (.ref a10), .unset] [(.int (1 : Int32))])) _
      exact retN X14 hx (t := .boolean) Bd.returns (by simp) (hb hby at_184) hr
    · show Q_own_law Z p0 p1 p2 p3 p4 G1 G3 h0 n0 _ T14.heap _
      exact ⟨rfl, N14⟩
    · show CHr Z own_EL s.vm s.heap T14.vm T14.heap
      rw [hh]
      exact CRe
  case neg =>
    by_cases hn1 : (((p0 &&& (7 : Int32)) &&& (3 : Int32)) + (1 : Int32)) = (1 : Int32)
    case pos =>
      obtain ⟨fb17, g17⟩ : ∃ z, z = h0.size := ⟨_, rfl⟩
      have lo_fb17 : n0 ≤ fb17 := Nat.le_trans Z0 (Nat.le_of_eq g17.symm)
      have hi_fb17 : h0.size ≤ fb17 := Nat.le_trans (Keep.refl h0 []).1 (Nat.le_of_eq g17.symm)
      have sf18_fb17 : Safe Z own_EL _ _ fb17 := Safe.new (h := h0) (vm := s.vm) (Nat.le_of_eq g17.symm)
      obtain ⟨T17, h17, X17, e17, E17, A17, D17, B17, st17⟩ := newO X7 hx hZ hown (hw _ (List.mem_of_getElem? (i := 5) rfl)) (hw _ (List.mem_of_getElem? (i := 6) rfl)) (hw _ (List.mem_of_getElem? (i := 7) rfl)) e7q (g := (mkF m 59 #[.val (.int p0), .val (.int p1), .val (.int p2), .val (.int p3), .val (.int p4), .val (.int d0), .val (.int d1), .val (.int d2), .val (.int d3), .val (.int (p0 &&& (7 : Int32))), .unset, .val (.int (((p0 &&& (7 : Int32)) &&& (3 : Int32)) + (1 : Int32)))] [])) rfl (hb hby at_59) (by decide) (by decide)
      rw [← g17] at A17 D17 B17 st17
      have O17 := Obj.of A17 B17
      have CR19 := CHr.trans CR0 (CHr.ext E17 CR0.1)
      have sf19_fb17 := (Safe.ext E17 CR0.1 sf18_fb17)
      have F17_value : Fld Z h17 fb17 "java/lang/String" "value" "[B" .null := D17 (Or.inr (hw _ (List.mem_of_getElem? (i := 34) rfl))) (ty := (.array .byte)) (by decide)
      have F17_coder : Fld Z h17 fb17 "java/lang/String" "coder" "B" (.int (0 : Int32)) := D17 (Or.inr (hw _ (List.mem_of_getElem? (i := 32) rfl))) (ty := .byte) (by decide)
      have pre20 : ∀ t, Steps p.tables e below (T17.setTop (mkF m 62 #[.val (.int p0), .val (.int p1), .val (.int p2), .val (.int p3), .val (.int p4), .val (.int d0), .val (.int d1), .val (.int d2), .val (.int d3), .val (.int (p0 &&& (7 : Int32))), .unset, .val (.int (((p0 &&& (7 : Int32)) &&& (3 : Int32)) + (1 : Int32)))] [(.ref fb17)])) t → Steps p.tables e below (s₁.setTop (entryFrame m #[(.int p0), (.int p1), (.int p2), (.int p3), (.int p4)] maxLocals)) t := by
        intro t kk
        refine pre8 t ?_
        show Steps p.tables e below (T7.setTop (mkF m 23 #[.val (.int p0), .val (.int p1), .val (.int p2), .val (.int p3), .val (.int p4), .val (.int d0), .val (.int d1), .val (.int d2), .unset, .unset, .unset, .unset] [(.int d3)])) _
        refine XS.istore X7.here hx rfl (hb hby at_23) rfl (l' := #[.val (.int p0), .val (.int p1), .val (.int p2), .val (.int p3), .val (.int p4), .val (.int d0), .val (.int d1), .val (.int d2), .val (.int d3), .unset, .unset, .unset]) rfl ?_
        show Steps p.tables e below (T7.setTop (mkF m 25 #[.val (.int p0), .val (.int p1), .val (.int p2), .val (.int p3), .val (.int p4), .val (.int d0), .val (.int d1), .val (.int d2), .val (.int d3), .unset, .unset, .unset] [])) _
        refine XS.iloadN X7.here hx rfl (hb hby at_25) rfl ?_
        show Steps p.tables e below (T7.setTop (mkF m 26 #[.val (.int p0), .val (.int p1), .val (.int p2), .val (.int p3), .val (.int p4), .val (.int d0), .val (.int d1), .val (.int d2), .val (.int d3), .unset, .unset, .unset] [(.int p0)])) _
        refine XS.bipush X7.here hx rfl (hb hby at_26) ?_
        show Steps p.tables e below (T7.setTop (mkF m 28 #[.val (.int p0), .val (.int p1), .val (.int p2), .val (.int p3), .val (.int p4), .val (.int d0), .val (.int d1), .val (.int d2), .val (.int d3), .unset, .unset, .unset] [(.int (7 : Int32)), (.int p0)])) _
        refine XS.iand X7.here hx rfl (hb hby at_28) rfl ?_
        show Steps p.tables e below (T7.setTop (mkF m 29 #[.val (.int p0), .val (.int p1), .val (.int p2), .val (.int p3), .val (.int p4), .val (.int d0), .val (.int d1), .val (.int d2), .val (.int d3), .unset, .unset, .unset] [(.int (p0 &&& (7 : Int32)))])) _
        refine XS.istore X7.here hx rfl (hb hby at_29) rfl (l' := #[.val (.int p0), .val (.int p1), .val (.int p2), .val (.int p3), .val (.int p4), .val (.int d0), .val (.int d1), .val (.int d2), .val (.int d3), .val (.int (p0 &&& (7 : Int32))), .unset, .unset]) rfl ?_
        show Steps p.tables e below (T7.setTop (mkF m 31 #[.val (.int p0), .val (.int p1), .val (.int p2), .val (.int p3), .val (.int p4), .val (.int d0), .val (.int d1), .val (.int d2), .val (.int d3), .val (.int (p0 &&& (7 : Int32))), .unset, .unset] [])) _
        refine XS.iload X7.here hx rfl (hb hby at_31) rfl ?_
        show Steps p.tables e below (T7.setTop (mkF m 33 #[.val (.int p0), .val (.int p1), .val (.int p2), .val (.int p3), .val (.int p4), .val (.int d0), .val (.int d1), .val (.int d2), .val (.int d3), .val (.int (p0 &&& (7 : Int32))), .unset, .unset] [(.int (p0 &&& (7 : Int32)))])) _
        refine XS.bipush X7.here hx rfl (hb hby at_33) ?_
        show Steps p.tables e below (T7.setTop (mkF m 35 #[.val (.int p0), .val (.int p1), .val (.int p2), .val (.int p3), .val (.int p4), .val (.int d0), .val (.int d1), .val (.int d2), .val (.int d3), .val (.int (p0 &&& (7 : Int32))), .unset, .unset] [(.int (7 : Int32)), (.int (p0 &&& (7 : Int32)))])) _
        refine XS.icmpYes X7.here hx rfl (pc0 := 35) (pc' := 45) rfl (hb hby at_35) rfl (feq hsel).2 (by decide) (by decide) ?_
        show Steps p.tables e below (T7.setTop (mkF m 45 #[.val (.int p0), .val (.int p1), .val (.int p2), .val (.int p3), .val (.int p4), .val (.int d0), .val (.int d1), .val (.int d2), .val (.int d3), .val (.int (p0 &&& (7 : Int32))), .unset, .unset] [])) _
        refine XS.iload X7.here hx rfl (hb hby at_45) rfl ?_
        show Steps p.tables e below (T7.setTop (mkF m 47 #[.val (.int p0), .val (.int p1), .val (.int p2), .val (.int p3), .val (.int p4), .val (.int d0), .val (.int d1), .val (.int d2), .val (.int d3), .val (.int (p0 &&& (7 : Int32))), .unset, .unset] [(.int (p0 &&& (7 : Int32)))])) _
        refine XS.iconst X7.here hx rfl (hb hby at_47) ?_
        show Steps p.tables e below (T7.setTop (mkF m 48 #[.val (.int p0), .val (.int p1), .val (.int p2), .val (.int p3), .val (.int p4), .val (.int d0), .val (.int d1), .val (.int d2), .val (.int d3), .val (.int (p0 &&& (7 : Int32))), .unset, .unset] [(.int (3 : Int32)), (.int (p0 &&& (7 : Int32)))])) _
        refine XS.iand X7.here hx rfl (hb hby at_48) rfl ?_
        show Steps p.tables e below (T7.setTop (mkF m 49 #[.val (.int p0), .val (.int p1), .val (.int p2), .val (.int p3), .val (.int p4), .val (.int d0), .val (.int d1), .val (.int d2), .val (.int d3), .val (.int (p0 &&& (7 : Int32))), .unset, .unset] [(.int ((p0 &&& (7 : Int32)) &&& (3 : Int32)))])) _
        refine XS.iconst X7.here hx rfl (hb hby at_49) ?_
        show Steps p.tables e below (T7.setTop (mkF m 50 #[.val (.int p0), .val (.int p1), .val (.int p2), .val (.int p3), .val (.int p4), .val (.int d0), .val (.int d1), .val (.int d2), .val (.int d3), .val (.int (p0 &&& (7 : Int32))), .unset, .unset] [(.int (1 : Int32)), (.int ((p0 &&& (7 : Int32)) &&& (3 : Int32)))])) _
        refine XS.iadd X7.here hx rfl (hb hby at_50) rfl ?_
        show Steps p.tables e below (T7.setTop (mkF m 51 #[.val (.int p0), .val (.int p1), .val (.int p2), .val (.int p3), .val (.int p4), .val (.int d0), .val (.int d1), .val (.int d2), .val (.int d3), .val (.int (p0 &&& (7 : Int32))), .unset, .unset] [(.int (((p0 &&& (7 : Int32)) &&& (3 : Int32)) + (1 : Int32)))])) _
        refine XS.istore X7.here hx rfl (hb hby at_51) rfl (l' := #[.val (.int p0), .val (.int p1), .val (.int p2), .val (.int p3), .val (.int p4), .val (.int d0), .val (.int d1), .val (.int d2), .val (.int d3), .val (.int (p0 &&& (7 : Int32))), .unset, .val (.int (((p0 &&& (7 : Int32)) &&& (3 : Int32)) + (1 : Int32)))]) rfl ?_
        show Steps p.tables e below (T7.setTop (mkF m 53 #[.val (.int p0), .val (.int p1), .val (.int p2), .val (.int p3), .val (.int p4), .val (.int d0), .val (.int d1), .val (.int d2), .val (.int d3), .val (.int (p0 &&& (7 : Int32))), .unset, .val (.int (((p0 &&& (7 : Int32)) &&& (3 : Int32)) + (1 : Int32)))] [])) _
        refine XS.iload X7.here hx rfl (hb hby at_53) rfl ?_
        show Steps p.tables e below (T7.setTop (mkF m 55 #[.val (.int p0), .val (.int p1), .val (.int p2), .val (.int p3), .val (.int p4), .val (.int d0), .val (.int d1), .val (.int d2), .val (.int d3), .val (.int (p0 &&& (7 : Int32))), .unset, .val (.int (((p0 &&& (7 : Int32)) &&& (3 : Int32)) + (1 : Int32)))] [(.int (((p0 &&& (7 : Int32)) &&& (3 : Int32)) + (1 : Int32)))])) _
        refine XS.iconst X7.here hx rfl (hb hby at_55) ?_
        show Steps p.tables e below (T7.setTop (mkF m 56 #[.val (.int p0), .val (.int p1), .val (.int p2), .val (.int p3), .val (.int p4), .val (.int d0), .val (.int d1), .val (.int d2), .val (.int d3), .val (.int (p0 &&& (7 : Int32))), .unset, .val (.int (((p0 &&& (7 : Int32)) &&& (3 : Int32)) + (1 : Int32)))] [(.int (1 : Int32)), (.int (((p0 &&& (7 : Int32)) &&& (3 : Int32)) + (1 : Int32)))])) _
        refine XS.icmpNo X7.here hx rfl (hb hby at_56) rfl (teq hn1).2 ?_
        show Steps p.tables e below (T7.setTop (mkF m 59 #[.val (.int p0), .val (.int p1), .val (.int p2), .val (.int p3), .val (.int p4), .val (.int d0), .val (.int d1), .val (.int d2), .val (.int d3), .val (.int (p0 &&& (7 : Int32))), .unset, .val (.int (((p0 &&& (7 : Int32)) &&& (3 : Int32)) + (1 : Int32)))] [])) _
        exact st17 _ kk
      obtain ⟨fb21, g21⟩ : ∃ z, z = h17.size := ⟨_, rfl⟩
      have ne_fb17_fb21 : fb17 ≠ fb21 := Nat.ne_of_lt (Nat.lt_of_lt_of_le O17.lt (Nat.le_of_eq g21.symm))
      have fc22 := (Nat.le_trans Z0 E17.1)
      have lo_fb21 : n0 ≤ fb21 := Nat.le_trans fc22 (Nat.le_of_eq g21.symm)
      have fc23 := ((Keep.refl h0 []).ext E17)
      have hi_fb21 : h0.size ≤ fb21 := Nat.le_trans fc23.1 (Nat.le_of_eq g21.symm)
      obtain ⟨T21, h21, k21, X21, e21, E21, A21, st21⟩ := newP X17 hx hZ (hw _ (List.mem_of_getElem? (i := 8) rfl)) e17 (g := (mkF m 64 #[.val (.int p0), .val (.int p1), .val (.int p2), .val (.int p3), .val (.int p4), .val (.int d0), .val (.int d1), .val (.int d2), .val (.int d3), .val (.int (p0 &&& (7 : Int32))), .unset, .val (.int (((p0 &&& (7 : Int32)) &&& (3 : Int32)) + (1 : Int32)))] [(.int (1 : Int32)), (.ref fb17), (.ref fb17)])) rfl (hb hby at_64) rfl (by decide) (cap := 1) (by decide) (by decide) (by decide) (by decide)
      rw [← g21] at A21 st21
      have V21 : Arv Z h21 fb21 k21 .char (1 : Int32) [(.int (0 : Int32))] (.int (0 : Int32)) := (Arv.new A21 (by decide)).pad (pad_rep [] (.int (0 : Int32)) 1)
      have CR24 := CHr.trans CR19 (CHr.ext E21 CR19.1)
      have sf24_fb17 := (Safe.ext E21 CR19.1 sf19_fb17)
      have pre25 : ∀ t, Steps p.tables e below (T21.setTop (mkF m 66 #[.val (.int p0), .val (.int p1), .val (.int p2), .val (.int p3), .val (.int p4), .val (.int d0), .val (.int d1), .val (.int d2), .val (.int d3), .val (.int (p0 &&& (7 : Int32))), .unset, .val (.int (((p0 &&& (7 : Int32)) &&& (3 : Int32)) + (1 : Int32)))] [(.ref fb21), (.ref fb17), (.ref fb17)])) t → Steps p.tables e below (s₁.setTop (entryFrame m #[(.int p0), (.int p1), (.int p2), (.int p3), (.int p4)] maxLocals)) t := by
        intro t kk
        refine pre20 t ?_
        show Steps p.tables e below (T17.setTop (mkF m 62 #[.val (.int p0), .val (.int p1), .val (.int p2), .val (.int p3), .val (.int p4), .val (.int d0), .val (.int d1), .val (.int d2), .val (.int d3), .val (.int (p0 &&& (7 : Int32))), .unset, .val (.int (((p0 &&& (7 : Int32)) &&& (3 : Int32)) + (1 : Int32)))] [(.ref fb17)])) _
        refine XS.dup X17.here hx rfl (hb hby at_62) rfl rfl ?_
        show Steps p.tables e below (T17.setTop (mkF m 63 #[.val (.int p0), .val (.int p1), .val (.int p2), .val (.int p3), .val (.int p4), .val (.int d0), .val (.int d1), .val (.int d2), .val (.int d3), .val (.int (p0 &&& (7 : Int32))), .unset, .val (.int (((p0 &&& (7 : Int32)) &&& (3 : Int32)) + (1 : Int32)))] [(.ref fb17), (.ref fb17)])) _
        refine XS.iconst X17.here hx rfl (hb hby at_63) ?_
        show Steps p.tables e below (T17.setTop (mkF m 64 #[.val (.int p0), .val (.int p1), .val (.int p2), .val (.int p3), .val (.int p4), .val (.int d0), .val (.int d1), .val (.int d2), .val (.int d3), .val (.int (p0 &&& (7 : Int32))), .unset, .val (.int (((p0 &&& (7 : Int32)) &&& (3 : Int32)) + (1 : Int32)))] [(.int (1 : Int32)), (.ref fb17), (.ref fb17)])) _
        exact st21 _ kk
      obtain ⟨cl26, Ar26, q26, S26, M26, H26, G26⟩ := id V21
      obtain ⟨T26, h26, X26, e26, W26, st26⟩ := stC X21 hx hZ e21 Ar26 (j := (0 : Int32)) (inb_of S26 ⟨(by decide), (by decide)⟩) (g := (mkF m 70 #[.val (.int p0), .val (.int p1), .val (.int p2), .val (.int p3), .val (.int p4), .val (.int d0), .val (.int d1), .val (.int d2), .val (.int d3), .val (.int (p0 &&& (7 : Int32))), .unset, .val (.int (((p0 &&& (7 : Int32)) &&& (3 : Int32)) + (1 : Int32)))] [(.int d0), (.int (0 : Int32)), (.ref fb21), (.ref fb21), (.ref fb17), (.ref fb17)])) rfl rfl (hb hby at_70)
      have V26 : Arv Z h26 fb21 k21 .char (1 : Int32) [(.int (nar .char d0))] (.int (0 : Int32)) := Arv.set Ar26 q26 S26 M26 H26 G26 (fits_nar_char _) W26 0 rfl (Nat.le_of_ble_eq_true rfl)
      have SA27 := (Safe.arv (EL := own_EL) hZ.alike V21 (by decide))
      have CR27 := CHr.trans CR24 (CHr.wr W26 SA27 CR24.1)
      have sf27_fb17 := (Safe.wr W26 SA27 CR24.1 sf24_fb17)
      have N26 := Fr.snoc X26 N7 lo_fb21
      have pre28 : ∀ t, Steps p.tables e below (T26.setTop (mkF m 71 #[.val (.int p0), .val (.int p1), .val (.int p2), .val (.int p3), .val (.int p4), .val (.int d0), .val (.int d1), .val (.int d2), .val (.int d3), .val (.int (p0 &&& (7 : Int32))), .unset, .val (.int (((p0 &&& (7 : Int32)) &&& (3 : Int32)) + (1 : Int32)))] [(.ref fb21), (.ref fb17), (.ref fb17)])) t → Steps p.tables e below (s₁.setTop (entryFrame m #[(.int p0), (.int p1), (.int p2), (.int p3), (.int p4)] maxLocals)) t := by
        intro t kk
        refine pre25 t ?_
        show Steps p.tables e below (T21.setTop (mkF m 66 #[.val (.int p0), .val (.int p1), .val (.int p2), .val (.int p3), .val (.int p4), .val (.int d0), .val (.int d1), .val (.int d2), .val (.int d3), .val (.int (p0 &&& (7 : Int32))), .unset, .val (.int (((p0 &&& (7 : Int32)) &&& (3 : Int32)) + (1 : Int32)))] [(.ref fb21), (.ref fb17), (.ref fb17)])) _
        refine XS.dup X21.here hx rfl (hb hby at_66) rfl rfl ?_
        show Steps p.tables e below (T21.setTop (mkF m 67 #[.val (.int p0), .val (.int p1), .val (.int p2), .val (.int p3), .val (.int p4), .val (.int d0), .val (.int d1), .val (.int d2), .val (.int d3), .val (.int (p0 &&& (7 : Int32))), .unset, .val (.int (((p0 &&& (7 : Int32)) &&& (3 : Int32)) + (1 : Int32)))] [(.ref fb21), (.ref fb21), (.ref fb17), (.ref fb17)])) _
        refine XS.iconst X21.here hx rfl (hb hby at_67) ?_
        show Steps p.tables e below (T21.setTop (mkF m 68 #[.val (.int p0), .val (.int p1), .val (.int p2), .val (.int p3), .val (.int p4), .val (.int d0), .val (.int d1), .val (.int d2), .val (.int d3), .val (.int (p0 &&& (7 : Int32))), .unset, .val (.int (((p0 &&& (7 : Int32)) &&& (3 : Int32)) + (1 : Int32)))] [(.int (0 : Int32)), (.ref fb21), (.ref fb21), (.ref fb17), (.ref fb17)])) _
        refine XS.iload X21.here hx rfl (hb hby at_68) rfl ?_
        show Steps p.tables e below (T21.setTop (mkF m 70 #[.val (.int p0), .val (.int p1), .val (.int p2), .val (.int p3), .val (.int p4), .val (.int d0), .val (.int d1), .val (.int d2), .val (.int d3), .val (.int (p0 &&& (7 : Int32))), .unset, .val (.int (((p0 &&& (7 : Int32)) &&& (3 : Int32)) + (1 : Int32)))] [(.int d0), (.int (0 : Int32)), (.ref fb21), (.ref fb21), (.ref fb17), (.ref fb17)])) _
        exact st26 _ kk
      have fc29 := ((O17.ext E21).wr W26)
      have fc30 := ((F17_value.ext E21).other W26 (Or.inl ne_fb17_fb21))
      have fc31 := ((F17_coder.ext E21).other W26 (Or.inl ne_fb17_fb21))
      have fc32 := (((XO.ext E17).ext E21).wr W26 lo_fb21)
      have fc34 := (Nat.le_trans (Nat.le_trans fc22 E21.1) (Keep.of_wr W26).1)
      obtain ⟨_, _, ⟨T33, L33, k33, n33⟩, -, X33, ⟨Lc33, hQ33, l33, y33, z33⟩, st33⟩ := X26.specialBack hx (y := (⟨"java/lang/String", "<init>", "([C)V"⟩ : MethodName)) rfl hown (mvT hZ (hw _ (List.mem_of_getElem? (i := 9) rfl))) (mvT hZ (hw _ (List.mem_of_getElem? (i := 10) rfl))) (mvT hZ (hw _ (List.mem_of_getElem? (i := 11) rfl))) (by decide) (StrChars.Road.backV (W := 1) hZ hws (kI := 4) (hw _ (List.mem_of_getElem? (i := 6) rfl)) (cs := ([(nar .char d0)] : List Int32)) (bs := ([(nar .char d0)] : List Int32).map (fun c => c.toInt8.toInt32)) (n := 1) lo_fb17 fc34 fc29.exa fc30 fc31 V26 (O2.ext fc32.2) P5 rfl rfl (by decide) (by decide) (own_okLt (own_okc (own_okn hd0) own_ok0)) rfl (by decide) (by decide)) (g := (mkF m 71 #[.val (.int p0), .val (.int p1), .val (.int p2), .val (.int p3), .val (.int p4), .val (.int d0), .val (.int d1), .val (.int d2), .val (.int d3), .val (.int (p0 &&& (7 : Int32))), .unset, .val (.int (((p0 &&& (7 : Int32)) &&& (3 : Int32)) + (1 : Int32)))] [(.ref fb21), (.ref fb17), (.ref fb17)])) rfl (by rw [hml]; rfl) (Steps.refl _) (a := fb17) (argsL := [(.ref fb21)]) (rest := [(.ref fb17)]) (lenOf pd___C_V rfl) rfl (by show 2 * 0 + _ ≤ _; exact Nat.le_of_eq rfl) (hb hby at_71) (fun _ _ => ⟨rfl, e26, (by decide : 2 + 1 ≤ _), (by decide : 5 + 1 ≤ _)⟩)
      dsimp only [Pt.U, Pt.locs, Pt.cells, Pt.slots] at X33 l33 y33 z33 st33 hQ33
      subst l33 y33 z33
      obtain ⟨rfl, N33q, K33, Ex33, Fc33, t33, kb33, u33, lo33, ne33, Fv33, Vt33⟩ := hQ33
      have N33 := Fr.app N26 N33q
      have SA35 : ∀ y ∈ [fb17], Safe Z own_EL _ _ y := (sfS sf27_fb17 sf0)
      have CR35 := CHr.trans CR27 (CHr.keep K33 SA35 CR27.1)
      have sf35_fb17 := (Safe.keep K33 SA35 CR27.1 sf27_fb17)
      have pre36 : ∀ t, Steps p.tables e below (T33.setTop (mkF m 74 #[.val (.int p0), .val (.int p1), .val (.int p2), .val (.int p3), .val (.int p4), .val (.int d0), .val (.int d1), .val (.int d2), .val (.int d3), .val (.int (p0 &&& (7 : Int32))), .unset, .val (.int (((p0 &&& (7 : Int32)) &&& (3 : Int32)) + (1 : Int32)))] [(.ref fb17)])) t → Steps p.tables e below (s₁.setTop (entryFrame m #[(.int p0), (.int p1), (.int p2), (.int p3), (.int p4)] maxLocals)) t := by
        intro t kk
        refine pre28 t ?_
        show Steps p.tables e below (T26.setTop (mkF m 71 #[.val (.int p0), .val (.int p1), .val (.int p2), .val (.int p3), .val (.int p4), .val (.int d0), .val (.int d1), .val (.int d2), .val (.int d3), .val (.int (p0 &&& (7 : Int32))), .unset, .val (.int (((p0 &&& (7 : Int32)) &&& (3 : Int32)) + (1 : Int32)))] [(.ref fb21), (.ref fb17), (.ref fb17)])) _
        exact st33.trans kk
      have ne_fb21_t33 : fb21 ≠ t33 := Nat.ne_of_lt (Nat.lt_of_lt_of_le V26.lt lo33)
      have fc37 := (fc29.keep K33)
      have fc38 := (fc32.keep K33 (allS lo_fb17 all0))
      have pre39 : ∀ t, Steps p.tables e below (T33.setTop (mkF m 180 #[.val (.int p0), .val (.int p1), .val (.int p2), .val (.int p3), .val (.int p4), .val (.int d0), .val (.int d1), .val (.int d2), .val (.int d3), .val (.int (p0 &&& (7 : Int32))), .val (.ref fb17), .val (.int (((p0 &&& (7 : Int32)) &&& (3 : Int32)) + (1 : Int32)))] [(.ref fb17)])) t → Steps p.tables e below (s₁.setTop (entryFrame m #[(.int p0), (.int p1), (.int p2), (.int p3), (.int p4)] maxLocals)) t := by
        intro t kk
        refine pre36 t ?_
        show Steps p.tables e below (T33.setTop (mkF m 74 #[.val (.int p0), .val (.int p1), .val (.int p2), .val (.int p3), .val (.int p4), .val (.int d0), .val (.int d1), .val (.int d2), .val (.int d3), .val (.int (p0 &&& (7 : Int32))), .unset, .val (.int (((p0 &&& (7 : Int32)) &&& (3 : Int32)) + (1 : Int32)))] [(.ref fb17)])) _
        refine XS.astore X33.here hx rfl (hb hby at_74) rfl rfl (l' := #[.val (.int p0), .val (.int p1), .val (.int p2), .val (.int p3), .val (.int p4), .val (.int d0), .val (.int d1), .val (.int d2), .val (.int d3), .val (.int (p0 &&& (7 : Int32))), .val (.ref fb17), .val (.int (((p0 &&& (7 : Int32)) &&& (3 : Int32)) + (1 : Int32)))]) rfl ?_
        show Steps p.tables e below (T33.setTop (mkF m 76 #[.val (.int p0), .val (.int p1), .val (.int p2), .val (.int p3), .val (.int p4), .val (.int d0), .val (.int d1), .val (.int d2), .val (.int d3), .val (.int (p0 &&& (7 : Int32))), .val (.ref fb17), .val (.int (((p0 &&& (7 : Int32)) &&& (3 : Int32)) + (1 : Int32)))] [])) _
        refine XS.goto X33.here hx rfl (pc0 := 76) (pc' := 178) rfl (hb hby at_76) (by decide) (by decide) ?_
        show Steps p.tables e below (T33.setTop (mkF m 178 #[.val (.int p0), .val (.int p1), .val (.int p2), .val (.int p3), .val (.int p4), .val (.int d0), .val (.int d1), .val (.int d2), .val (.int d3), .val (.int (p0 &&& (7 : Int32))), .val (.ref fb17), .val (.int (((p0 &&& (7 : Int32)) &&& (3 : Int32)) + (1 : Int32)))] [])) _
        refine XS.aload X33.here hx rfl (hb hby at_178) rfl rfl ?_
        exact kk
      have fc41 := (Nat.le_trans fc34 K33.1)
      obtain ⟨_, _, ⟨T40, L40, k40, n40⟩, -, X40w, hS40w, gr40, ⟨Lc40, hQ40, l40, y40, z40, CQ40⟩, st40⟩ := callSS X33 hx (y := (⟨"com/example/deadline/deadline/Timer", "checkId", "(Ljava/lang/String;)V"⟩ : MethodName)) hown (mvT hZ (hw _ (List.mem_of_getElem? (i := 35) rfl))) (mvT hZ (hw _ (List.mem_of_getElem? (i := 36) rfl))) (mvT hZ (hw _ (List.mem_of_getElem? (i := 37) rfl))) (mvT hZ (hw _ (List.mem_of_getElem? (i := 38) rfl))) (by decide) (backOfSH (W := 0) (own_chk l Z a0 hw [] fb17 t33 kb33 [(nar .char d0)] G1 G3 T33.heap n0 fc41 fc37.exa Fv33 Fc33 Vt33 (own_okLt (own_okc (own_okn hd0) own_ok0)) (own_okL (own_okc (own_okn hd0) own_ok0)) (Nat.le_of_ble_eq_true rfl) (Nat.le_of_ble_eq_true rfl) (Nat.le_trans (own_cntL _ _) (Nat.le_of_ble_eq_true rfl)) O2 P5 O4 rG3 fc38) hZ (hw _ (List.mem_of_getElem? (i := 38) rfl)) (hw _ (List.mem_of_getElem? (i := 37) rfl)) (by decide) (by decide) hEL CR35.1) (g := (mkF m 180 #[.val (.int p0), .val (.int p1), .val (.int p2), .val (.int p3), .val (.int p4), .val (.int d0), .val (.int d1), .val (.int d2), .val (.int d3), .val (.int (p0 &&& (7 : Int32))), .val (.ref fb17), .val (.int (((p0 &&& (7 : Int32)) &&& (3 : Int32)) + (1 : Int32)))] [(.ref fb17)])) rfl (by rw [hml]; rfl) (argsL := [(.ref fb17)]) (rest := []) (lenOf pd__Ljava_lang_String__V rfl) rfl (by show 2 * 0 + _ ≤ _; exact Nat.le_of_eq rfl) (hb hby at_180) (fun _ _ => ⟨rfl, rfl, (by decide : 3 + 10 ≤ _), (by decide : 6 + 92 ≤ _)⟩)
      dsimp only [Pt.U, Pt.locs, Pt.cells, Pt.slots] at X40w hS40w gr40 l40 y40 z40 st40 hQ40 CQ40
      subst l40 y40 z40
      obtain ⟨rfl, N40q, K40⟩ := hQ40
      have N40 := Fr.app N33 N40q
      have fc42 := (Nat.le_trans (Nat.le_trans (Nat.le_trans (Nat.le_trans hk0 E17.1) E21.1) (Keep.of_wr W26).1) K33.1)
      obtain ⟨X40, hS40, hZ, hown⟩ := rebS hS0 fc42 X40w hS40w gr40 hZ hown
      have hk40 : T40.heap.size ≤ T40.heap.size := Nat.le_refl _
      have sf40_fb17 := CQ40.safe fc37.lt sf35_fb17
      have CR40 := CHr.trans CR35 CQ40
      have pre43 : ∀ t, Steps p.tables e below (T40.setTop (mkF m 183 #[.val (.int p0), .val (.int p1), .val (.int p2), .val (.int p3), .val (.int p4), .val (.int d0), .val (.int d1), .val (.int d2), .val (.int d3), .val (.int (p0 &&& (7 : Int32))), .val (.ref fb17), .val (.int (((p0 &&& (7 : Int32)) &&& (3 : Int32)) + (1 : Int32)))] [])) t → Steps p.tables e below (s₁.setTop (entryFrame m #[(.int p0), (.int p1), (.int p2), (.int p3), (.int p4)] maxLocals)) t := by
        intro t kk
        refine pre39 t ?_
        show Steps p.tables e below (T33.setTop (mkF m 180 #[.val (.int p0), .val (.int p1), .val (.int p2), .val (.int p3), .val (.int p4), .val (.int d0), .val (.int d1), .val (.int d2), .val (.int d3), .val (.int (p0 &&& (7 : Int32))), .val (.ref fb17), .val (.int (((p0 &&& (7 : Int32)) &&& (3 : Int32)) + (1 : Int32)))] [(.ref fb17)])) _
        exact st40.trans kk
      obtain ⟨fs, hr, hrun, hended, hRW⟩ := X40.leaveW hS40 hk40 (v := some (.int (1 : Int32))) (fun h => by rw [Bd.returns] at h; cases h)
      have CRe := CHr.trans CR40 (CHv.at X40 hZ hEL CR40.1)
      refine ⟨_, _, pre43 _ ?_, hrun, hended, _, _, rfl, ?_, ?_, hRW.1, hRW.2.1, hRW.2.2.1, hRW.2.2.2.mono (by decide) (by decide)⟩
      · show Steps p.tables e below (T40.setTop (mkF m 183 #[.val (.int p0), .val (.int p1), .val (.int p2), .val (.int p3), .val (.int p4), .val (.int d0), .val (.int d1), .val (.int d2), .val (.int d3), .val (.int (p0 &&& (7 : Int32))), .val (.ref fb17), .val (.int (((p0 &&& (7 : Int32)) &&& (3 : Int32)) + (1 : Int32)))] [])) _
        refine XS.iconst X40.here hx rfl (hb hby at_183) ?_
        show Steps p.tables e below (T40.setTop (mkF m 184 #[.val (.int p0), .val (.int p1), .val (.int p2), .val (.int p3), .val (.int p4), .val (.int d0), .val (.int d1), .val (.int d2), .val (.int d3), .val (.int (p0 &&& (7 : Int32))), .val (.ref fb17), .val (.int (((p0 &&& (7 : Int32)) &&& (3 : Int32)) + (1 : Int32)))] [(.int (1 : Int32))])) _
        exact retN X40 hx (t := .boolean) Bd.returns (by simp) (hb hby at_184) hr
      · show Q_own_law Z p0 p1 p2 p3 p4 G1 G3 h0 n0 _ T40.heap _
        exact ⟨rfl, N40⟩
      · show CHr Z own_EL s.vm s.heap T40.vm T40.heap
        rw [hh]
        exact CRe
    case neg =>
      by_cases hn2 : (((p0 &&& (7 : Int32)) &&& (3 : Int32)) + (1 : Int32)) = (2 : Int32)
      case pos =>
        obtain ⟨fb44, g44⟩ : ∃ z, z = h0.size := ⟨_, rfl⟩
        have lo_fb44 : n0 ≤ fb44 := Nat.le_trans Z0 (Nat.le_of_eq g44.symm)
        have hi_fb44 : h0.size ≤ fb44 := Nat.le_trans (Keep.refl h0 []).1 (Nat.le_of_eq g44.symm)
        have sf45_fb44 : Safe Z own_EL _ _ fb44 := Safe.new (h := h0) (vm := s.vm) (Nat.le_of_eq g44.symm)
        obtain ⟨T44, h44, X44, e44, E44, A44, D44, B44, st44⟩ := newO X7 hx hZ hown (hw _ (List.mem_of_getElem? (i := 5) rfl)) (hw _ (List.mem_of_getElem? (i := 6) rfl)) (hw _ (List.mem_of_getElem? (i := 7) rfl)) e7q (g := (mkF m 85 #[.val (.int p0), .val (.int p1), .val (.int p2), .val (.int p3), .val (.int p4), .val (.int d0), .val (.int d1), .val (.int d2), .val (.int d3), .val (.int (p0 &&& (7 : Int32))), .unset, .val (.int (((p0 &&& (7 : Int32)) &&& (3 : Int32)) + (1 : Int32)))] [])) rfl (hb hby at_85) (by decide) (by decide)
        rw [← g44] at A44 D44 B44 st44
        have O44 := Obj.of A44 B44
        have CR46 := CHr.trans CR0 (CHr.ext E44 CR0.1)
        have sf46_fb44 := (Safe.ext E44 CR0.1 sf45_fb44)
        have F44_value : Fld Z h44 fb44 "java/lang/String" "value" "[B" .null := D44 (Or.inr (hw _ (List.mem_of_getElem? (i := 34) rfl))) (ty := (.array .byte)) (by decide)
        have F44_coder : Fld Z h44 fb44 "java/lang/String" "coder" "B" (.int (0 : Int32)) := D44 (Or.inr (hw _ (List.mem_of_getElem? (i := 32) rfl))) (ty := .byte) (by decide)
        have pre47 : ∀ t, Steps p.tables e below (T44.setTop (mkF m 88 #[.val (.int p0), .val (.int p1), .val (.int p2), .val (.int p3), .val (.int p4), .val (.int d0), .val (.int d1), .val (.int d2), .val (.int d3), .val (.int (p0 &&& (7 : Int32))), .unset, .val (.int (((p0 &&& (7 : Int32)) &&& (3 : Int32)) + (1 : Int32)))] [(.ref fb44)])) t → Steps p.tables e below (s₁.setTop (entryFrame m #[(.int p0), (.int p1), (.int p2), (.int p3), (.int p4)] maxLocals)) t := by
          intro t kk
          refine pre8 t ?_
          show Steps p.tables e below (T7.setTop (mkF m 23 #[.val (.int p0), .val (.int p1), .val (.int p2), .val (.int p3), .val (.int p4), .val (.int d0), .val (.int d1), .val (.int d2), .unset, .unset, .unset, .unset] [(.int d3)])) _
          refine XS.istore X7.here hx rfl (hb hby at_23) rfl (l' := #[.val (.int p0), .val (.int p1), .val (.int p2), .val (.int p3), .val (.int p4), .val (.int d0), .val (.int d1), .val (.int d2), .val (.int d3), .unset, .unset, .unset]) rfl ?_
          show Steps p.tables e below (T7.setTop (mkF m 25 #[.val (.int p0), .val (.int p1), .val (.int p2), .val (.int p3), .val (.int p4), .val (.int d0), .val (.int d1), .val (.int d2), .val (.int d3), .unset, .unset, .unset] [])) _
          refine XS.iloadN X7.here hx rfl (hb hby at_25) rfl ?_
          show Steps p.tables e below (T7.setTop (mkF m 26 #[.val (.int p0), .val (.int p1), .val (.int p2), .val (.int p3), .val (.int p4), .val (.int d0), .val (.int d1), .val (.int d2), .val (.int d3), .unset, .unset, .unset] [(.int p0)])) _
          refine XS.bipush X7.here hx rfl (hb hby at_26) ?_
          show Steps p.tables e below (T7.setTop (mkF m 28 #[.val (.int p0), .val (.int p1), .val (.int p2), .val (.int p3), .val (.int p4), .val (.int d0), .val (.int d1), .val (.int d2), .val (.int d3), .unset, .unset, .unset] [(.int (7 : Int32)), (.int p0)])) _
          refine XS.iand X7.here hx rfl (hb hby at_28) rfl ?_
          show Steps p.tables e below (T7.setTop (mkF m 29 #[.val (.int p0), .val (.int p1), .val (.int p2), .val (.int p3), .val (.int p4), .val (.int d0), .val (.int d1), .val (.int d2), .val (.int d3), .unset, .unset, .unset] [(.int (p0 &&& (7 : Int32)))])) _
          refine XS.istore X7.here hx rfl (hb hby at_29) rfl (l' := #[.val (.int p0), .val (.int p1), .val (.int p2), .val (.int p3), .val (.int p4), .val (.int d0), .val (.int d1), .val (.int d2), .val (.int d3), .val (.int (p0 &&& (7 : Int32))), .unset, .unset]) rfl ?_
          show Steps p.tables e below (T7.setTop (mkF m 31 #[.val (.int p0), .val (.int p1), .val (.int p2), .val (.int p3), .val (.int p4), .val (.int d0), .val (.int d1), .val (.int d2), .val (.int d3), .val (.int (p0 &&& (7 : Int32))), .unset, .unset] [])) _
          refine XS.iload X7.here hx rfl (hb hby at_31) rfl ?_
          show Steps p.tables e below (T7.setTop (mkF m 33 #[.val (.int p0), .val (.int p1), .val (.int p2), .val (.int p3), .val (.int p4), .val (.int d0), .val (.int d1), .val (.int d2), .val (.int d3), .val (.int (p0 &&& (7 : Int32))), .unset, .unset] [(.int (p0 &&& (7 : Int32)))])) _
          refine XS.bipush X7.here hx rfl (hb hby at_33) ?_
          show Steps p.tables e below (T7.setTop (mkF m 35 #[.val (.int p0), .val (.int p1), .val (.int p2), .val (.int p3), .val (.int p4), .val (.int d0), .val (.int d1), .val (.int d2), .val (.int d3), .val (.int (p0 &&& (7 : Int32))), .unset, .unset] [(.int (7 : Int32)), (.int (p0 &&& (7 : Int32)))])) _
          refine XS.icmpYes X7.here hx rfl (pc0 := 35) (pc' := 45) rfl (hb hby at_35) rfl (feq hsel).2 (by decide) (by decide) ?_
          show Steps p.tables e below (T7.setTop (mkF m 45 #[.val (.int p0), .val (.int p1), .val (.int p2), .val (.int p3), .val (.int p4), .val (.int d0), .val (.int d1), .val (.int d2), .val (.int d3), .val (.int (p0 &&& (7 : Int32))), .unset, .unset] [])) _
          refine XS.iload X7.here hx rfl (hb hby at_45) rfl ?_
          show Steps p.tables e below (T7.setTop (mkF m 47 #[.val (.int p0), .val (.int p1), .val (.int p2), .val (.int p3), .val (.int p4), .val (.int d0), .val (.int d1), .val (.int d2), .val (.int d3), .val (.int (p0 &&& (7 : Int32))), .unset, .unset] [(.int (p0 &&& (7 : Int32)))])) _
          refine XS.iconst X7.here hx rfl (hb hby at_47) ?_
          show Steps p.tables e below (T7.setTop (mkF m 48 #[.val (.int p0), .val (.int p1), .val (.int p2), .val (.int p3), .val (.int p4), .val (.int d0), .val (.int d1), .val (.int d2), .val (.int d3), .val (.int (p0 &&& (7 : Int32))), .unset, .unset] [(.int (3 : Int32)), (.int (p0 &&& (7 : Int32)))])) _
          refine XS.iand X7.here hx rfl (hb hby at_48) rfl ?_
          show Steps p.tables e below (T7.setTop (mkF m 49 #[.val (.int p0), .val (.int p1), .val (.int p2), .val (.int p3), .val (.int p4), .val (.int d0), .val (.int d1), .val (.int d2), .val (.int d3), .val (.int (p0 &&& (7 : Int32))), .unset, .unset] [(.int ((p0 &&& (7 : Int32)) &&& (3 : Int32)))])) _
          refine XS.iconst X7.here hx rfl (hb hby at_49) ?_
          show Steps p.tables e below (T7.setTop (mkF m 50 #[.val (.int p0), .val (.int p1), .val (.int p2), .val (.int p3), .val (.int p4), .val (.int d0), .val (.int d1), .val (.int d2), .val (.int d3), .val (.int (p0 &&& (7 : Int32))), .unset, .unset] [(.int (1 : Int32)), (.int ((p0 &&& (7 : Int32)) &&& (3 : Int32)))])) _
          refine XS.iadd X7.here hx rfl (hb hby at_50) rfl ?_
          show Steps p.tables e below (T7.setTop (mkF m 51 #[.val (.int p0), .val (.int p1), .val (.int p2), .val (.int p3), .val (.int p4), .val (.int d0), .val (.int d1), .val (.int d2), .val (.int d3), .val (.int (p0 &&& (7 : Int32))), .unset, .unset] [(.int (((p0 &&& (7 : Int32)) &&& (3 : Int32)) + (1 : Int32)))])) _
          refine XS.istore X7.here hx rfl (hb hby at_51) rfl (l' := #[.val (.int p0), .val (.int p1), .val (.int p2), .val (.int p3), .val (.int p4), .val (.int d0), .val (.int d1), .val (.int d2), .val (.int d3), .val (.int (p0 &&& (7 : Int32))), .unset, .val (.int (((p0 &&& (7 : Int32)) &&& (3 : Int32)) + (1 : Int32)))]) rfl ?_
          show Steps p.tables e below (T7.setTop (mkF m 53 #[.val (.int p0), .val (.int p1), .val (.int p2), .val (.int p3), .val (.int p4), .val (.int d0), .val (.int d1), .val (.int d2), .val (.int d3), .val (.int (p0 &&& (7 : Int32))), .unset, .val (.int (((p0 &&& (7 : Int32)) &&& (3 : Int32)) + (1 : Int32)))] [])) _
          refine XS.iload X7.here hx rfl (hb hby at_53) rfl ?_
          show Steps p.tables e below (T7.setTop (mkF m 55 #[.val (.int p0), .val (.int p1), .val (.int p2), .val (.int p3), .val (.int p4), .val (.int d0), .val (.int d1), .val (.int d2), .val (.int d3), .val (.int (p0 &&& (7 : Int32))), .unset, .val (.int (((p0 &&& (7 : Int32)) &&& (3 : Int32)) + (1 : Int32)))] [(.int (((p0 &&& (7 : Int32)) &&& (3 : Int32)) + (1 : Int32)))])) _
          refine XS.iconst X7.here hx rfl (hb hby at_55) ?_
          show Steps p.tables e below (T7.setTop (mkF m 56 #[.val (.int p0), .val (.int p1), .val (.int p2), .val (.int p3), .val (.int p4), .val (.int d0), .val (.int d1), .val (.int d2), .val (.int d3), .val (.int (p0 &&& (7 : Int32))), .unset, .val (.int (((p0 &&& (7 : Int32)) &&& (3 : Int32)) + (1 : Int32)))] [(.int (1 : Int32)), (.int (((p0 &&& (7 : Int32)) &&& (3 : Int32)) + (1 : Int32)))])) _
          refine XS.icmpYes X7.here hx rfl (pc0 := 56) (pc' := 79) rfl (hb hby at_56) rfl (feq hn1).2 (by decide) (by decide) ?_
          show Steps p.tables e below (T7.setTop (mkF m 79 #[.val (.int p0), .val (.int p1), .val (.int p2), .val (.int p3), .val (.int p4), .val (.int d0), .val (.int d1), .val (.int d2), .val (.int d3), .val (.int (p0 &&& (7 : Int32))), .unset, .val (.int (((p0 &&& (7 : Int32)) &&& (3 : Int32)) + (1 : Int32)))] [])) _
          refine XS.iload X7.here hx rfl (hb hby at_79) rfl ?_
          show Steps p.tables e below (T7.setTop (mkF m 81 #[.val (.int p0), .val (.int p1), .val (.int p2), .val (.int p3), .val (.int p4), .val (.int d0), .val (.int d1), .val (.int d2), .val (.int d3), .val (.int (p0 &&& (7 : Int32))), .unset, .val (.int (((p0 &&& (7 : Int32)) &&& (3 : Int32)) + (1 : Int32)))] [(.int (((p0 &&& (7 : Int32)) &&& (3 : Int32)) + (1 : Int32)))])) _
          refine XS.iconst X7.here hx rfl (hb hby at_81) ?_
          show Steps p.tables e below (T7.setTop (mkF m 82 #[.val (.int p0), .val (.int p1), .val (.int p2), .val (.int p3), .val (.int p4), .val (.int d0), .val (.int d1), .val (.int d2), .val (.int d3), .val (.int (p0 &&& (7 : Int32))), .unset, .val (.int (((p0 &&& (7 : Int32)) &&& (3 : Int32)) + (1 : Int32)))] [(.int (2 : Int32)), (.int (((p0 &&& (7 : Int32)) &&& (3 : Int32)) + (1 : Int32)))])) _
          refine XS.icmpNo X7.here hx rfl (hb hby at_82) rfl (teq hn2).2 ?_
          show Steps p.tables e below (T7.setTop (mkF m 85 #[.val (.int p0), .val (.int p1), .val (.int p2), .val (.int p3), .val (.int p4), .val (.int d0), .val (.int d1), .val (.int d2), .val (.int d3), .val (.int (p0 &&& (7 : Int32))), .unset, .val (.int (((p0 &&& (7 : Int32)) &&& (3 : Int32)) + (1 : Int32)))] [])) _
          exact st44 _ kk
        obtain ⟨fb48, g48⟩ : ∃ z, z = h44.size := ⟨_, rfl⟩
        have ne_fb44_fb48 : fb44 ≠ fb48 := Nat.ne_of_lt (Nat.lt_of_lt_of_le O44.lt (Nat.le_of_eq g48.symm))
        have fc49 := (Nat.le_trans Z0 E44.1)
        have lo_fb48 : n0 ≤ fb48 := Nat.le_trans fc49 (Nat.le_of_eq g48.symm)
        have fc50 := ((Keep.refl h0 []).ext E44)
        have hi_fb48 : h0.size ≤ fb48 := Nat.le_trans fc50.1 (Nat.le_of_eq g48.symm)
        obtain ⟨T48, h48, k48, X48, e48, E48, A48, st48⟩ := newP X44 hx hZ (hw _ (List.mem_of_getElem? (i := 8) rfl)) e44 (g := (mkF m 90 #[.val (.int p0), .val (.int p1), .val (.int p2), .val (.int p3), .val (.int p4), .val (.int d0), .val (.int d1), .val (.int d2), .val (.int d3), .val (.int (p0 &&& (7 : Int32))), .unset, .val (.int (((p0 &&& (7 : Int32)) &&& (3 : Int32)) + (1 : Int32)))] [(.int (2 : Int32)), (.ref fb44), (.ref fb44)])) rfl (hb hby at_90) rfl (by decide) (cap := 2) (by decide) (by decide) (by decide) (by decide)
        rw [← g48] at A48 st48
        have V48 : Arv Z h48 fb48 k48 .char (2 : Int32) [(.int (0 : Int32)), (.int (0 : Int32))] (.int (0 : Int32)) := (Arv.new A48 (by decide)).pad (pad_rep [] (.int (0 : Int32)) 2)
        have CR51 := CHr.trans CR46 (CHr.ext E48 CR46.1)
        have sf51_fb44 := (Safe.ext E48 CR46.1 sf46_fb44)
        have pre52 : ∀ t, Steps p.tables e below (T48.setTop (mkF m 92 #[.val (.int p0), .val (.int p1), .val (.int p2), .val (.int p3), .val (.int p4), .val (.int d0), .val (.int d1), .val (.int d2), .val (.int d3), .val (.int (p0 &&& (7 : Int32))), .unset, .val (.int (((p0 &&& (7 : Int32)) &&& (3 : Int32)) + (1 : Int32)))] [(.ref fb48), (.ref fb44), (.ref fb44)])) t → Steps p.tables e below (s₁.setTop (entryFrame m #[(.int p0), (.int p1), (.int p2), (.int p3), (.int p4)] maxLocals)) t := by
          intro t kk
          refine pre47 t ?_
          show Steps p.tables e below (T44.setTop (mkF m 88 #[.val (.int p0), .val (.int p1), .val (.int p2), .val (.int p3), .val (.int p4), .val (.int d0), .val (.int d1), .val (.int d2), .val (.int d3), .val (.int (p0 &&& (7 : Int32))), .unset, .val (.int (((p0 &&& (7 : Int32)) &&& (3 : Int32)) + (1 : Int32)))] [(.ref fb44)])) _
          refine XS.dup X44.here hx rfl (hb hby at_88) rfl rfl ?_
          show Steps p.tables e below (T44.setTop (mkF m 89 #[.val (.int p0), .val (.int p1), .val (.int p2), .val (.int p3), .val (.int p4), .val (.int d0), .val (.int d1), .val (.int d2), .val (.int d3), .val (.int (p0 &&& (7 : Int32))), .unset, .val (.int (((p0 &&& (7 : Int32)) &&& (3 : Int32)) + (1 : Int32)))] [(.ref fb44), (.ref fb44)])) _
          refine XS.iconst X44.here hx rfl (hb hby at_89) ?_
          show Steps p.tables e below (T44.setTop (mkF m 90 #[.val (.int p0), .val (.int p1), .val (.int p2), .val (.int p3), .val (.int p4), .val (.int d0), .val (.int d1), .val (.int d2), .val (.int d3), .val (.int (p0 &&& (7 : Int32))), .unset, .val (.int (((p0 &&& (7 : Int32)) &&& (3 : Int32)) + (1 : Int32)))] [(.int (2 : Int32)), (.ref fb44), (.ref fb44)])) _
          exact st48 _ kk
        obtain ⟨cl53, Ar53, q53, S53, M53, H53, G53⟩ := id V48
        obtain ⟨T53, h53, X53, e53, W53, st53⟩ := stC X48 hx hZ e48 Ar53 (j := (0 : Int32)) (inb_of S53 ⟨(by decide), (by decide)⟩) (g := (mkF m 96 #[.val (.int p0), .val (.int p1), .val (.int p2), .val (.int p3), .val (.int p4), .val (.int d0), .val (.int d1), .val (.int d2), .val (.int d3), .val (.int (p0 &&& (7 : Int32))), .unset, .val (.int (((p0 &&& (7 : Int32)) &&& (3 : Int32)) + (1 : Int32)))] [(.int d0), (.int (0 : Int32)), (.ref fb48), (.ref fb48), (.ref fb44), (.ref fb44)])) rfl rfl (hb hby at_96)
        have V53 : Arv Z h53 fb48 k48 .char (2 : Int32) [(.int (nar .char d0)), (.int (0 : Int32))] (.int (0 : Int32)) := Arv.set Ar53 q53 S53 M53 H53 G53 (fits_nar_char _) W53 0 rfl (Nat.le_of_ble_eq_true rfl)
        have SA54 := (Safe.arv (EL := own_EL) hZ.alike V48 (by decide))
        have CR54 := CHr.trans CR51 (CHr.wr W53 SA54 CR51.1)
        have sf54_fb44 := (Safe.wr W53 SA54 CR51.1 sf51_fb44)
        have N53 := Fr.snoc X53 N7 lo_fb48
        have pre55 : ∀ t, Steps p.tables e below (T53.setTop (mkF m 97 #[.val (.int p0), .val (.int p1), .val (.int p2), .val (.int p3), .val (.int p4), .val (.int d0), .val (.int d1), .val (.int d2), .val (.int d3), .val (.int (p0 &&& (7 : Int32))), .unset, .val (.int (((p0 &&& (7 : Int32)) &&& (3 : Int32)) + (1 : Int32)))] [(.ref fb48), (.ref fb44), (.ref fb44)])) t → Steps p.tables e below (s₁.setTop (entryFrame m #[(.int p0), (.int p1), (.int p2), (.int p3), (.int p4)] maxLocals)) t := by
          intro t kk
          refine pre52 t ?_
          show Steps p.tables e below (T48.setTop (mkF m 92 #[.val (.int p0), .val (.int p1), .val (.int p2), .val (.int p3), .val (.int p4), .val (.int d0), .val (.int d1), .val (.int d2), .val (.int d3), .val (.int (p0 &&& (7 : Int32))), .unset, .val (.int (((p0 &&& (7 : Int32)) &&& (3 : Int32)) + (1 : Int32)))] [(.ref fb48), (.ref fb44), (.ref fb44)])) _
          refine XS.dup X48.here hx rfl (hb hby at_92) rfl rfl ?_
          show Steps p.tables e below (T48.setTop (mkF m 93 #[.val (.int p0), .val (.int p1), .val (.int p2), .val (.int p3), .val (.int p4), .val (.int d0), .val (.int d1), .val (.int d2), .val (.int d3), .val (.int (p0 &&& (7 : Int32))), .unset, .val (.int (((p0 &&& (7 : Int32)) &&& (3 : Int32)) + (1 : Int32)))] [(.ref fb48), (.ref fb48), (.ref fb44), (.ref fb44)])) _
          refine XS.iconst X48.here hx rfl (hb hby at_93) ?_
          show Steps p.tables e below (T48.setTop (mkF m 94 #[.val (.int p0), .val (.int p1), .val (.int p2), .val (.int p3), .val (.int p4), .val (.int d0), .val (.int d1), .val (.int d2), .val (.int d3), .val (.int (p0 &&& (7 : Int32))), .unset, .val (.int (((p0 &&& (7 : Int32)) &&& (3 : Int32)) + (1 : Int32)))] [(.int (0 : Int32)), (.ref fb48), (.ref fb48), (.ref fb44), (.ref fb44)])) _
          refine XS.iload X48.here hx rfl (hb hby at_94) rfl ?_
          show Steps p.tables e below (T48.setTop (mkF m 96 #[.val (.int p0), .val (.int p1), .val (.int p2), .val (.int p3), .val (.int p4), .val (.int d0), .val (.int d1), .val (.int d2), .val (.int d3), .val (.int (p0 &&& (7 : Int32))), .unset, .val (.int (((p0 &&& (7 : Int32)) &&& (3 : Int32)) + (1 : Int32)))] [(.int d0), (.int (0 : Int32)), (.ref fb48), (.ref fb48), (.ref fb44), (.ref fb44)])) _
          exact st53 _ kk
        obtain ⟨cl56, Ar56, q56, S56, M56, H56, G56⟩ := id V53
        obtain ⟨T56, h56, X56, e56, W56, st56⟩ := stC X53 hx hZ e53 Ar56 (j := (1 : Int32)) (inb_of S56 ⟨(by decide), (by decide)⟩) (g := (mkF m 101 #[.val (.int p0), .val (.int p1), .val (.int p2), .val (.int p3), .val (.int p4), .val (.int d0), .val (.int d1), .val (.int d2), .val (.int d3), .val (.int (p0 &&& (7 : Int32))), .unset, .val (.int (((p0 &&& (7 : Int32)) &&& (3 : Int32)) + (1 : Int32)))] [(.int d1), (.int (1 : Int32)), (.ref fb48), (.ref fb48), (.ref fb44), (.ref fb44)])) rfl rfl (hb hby at_101)
        have V56 : Arv Z h56 fb48 k48 .char (2 : Int32) [(.int (nar .char d0)), (.int (nar .char d1))] (.int (0 : Int32)) := Arv.set Ar56 q56 S56 M56 H56 G56 (fits_nar_char _) W56 1 rfl (Nat.le_of_ble_eq_true rfl)
        have SA57 := (Safe.arv (EL := own_EL) hZ.alike V53 (by decide))
        have CR57 := CHr.trans CR54 (CHr.wr W56 SA57 CR54.1)
        have sf57_fb44 := (Safe.wr W56 SA57 CR54.1 sf54_fb44)
        have N56 := Fr.snoc X56 N53 lo_fb48
        have pre58 : ∀ t, Steps p.tables e below (T56.setTop (mkF m 102 #[.val (.int p0), .val (.int p1), .val (.int p2), .val (.int p3), .val (.int p4), .val (.int d0), .val (.int d1), .val (.int d2), .val (.int d3), .val (.int (p0 &&& (7 : Int32))), .unset, .val (.int (((p0 &&& (7 : Int32)) &&& (3 : Int32)) + (1 : Int32)))] [(.ref fb48), (.ref fb44), (.ref fb44)])) t → Steps p.tables e below (s₁.setTop (entryFrame m #[(.int p0), (.int p1), (.int p2), (.int p3), (.int p4)] maxLocals)) t := by
          intro t kk
          refine pre55 t ?_
          show Steps p.tables e below (T53.setTop (mkF m 97 #[.val (.int p0), .val (.int p1), .val (.int p2), .val (.int p3), .val (.int p4), .val (.int d0), .val (.int d1), .val (.int d2), .val (.int d3), .val (.int (p0 &&& (7 : Int32))), .unset, .val (.int (((p0 &&& (7 : Int32)) &&& (3 : Int32)) + (1 : Int32)))] [(.ref fb48), (.ref fb44), (.ref fb44)])) _
          refine XS.dup X53.here hx rfl (hb hby at_97) rfl rfl ?_
          show Steps p.tables e below (T53.setTop (mkF m 98 #[.val (.int p0), .val (.int p1), .val (.int p2), .val (.int p3), .val (.int p4), .val (.int d0), .val (.int d1), .val (.int d2), .val (.int d3), .val (.int (p0 &&& (7 : Int32))), .unset, .val (.int (((p0 &&& (7 : Int32)) &&& (3 : Int32)) + (1 : Int32)))] [(.ref fb48), (.ref fb48), (.ref fb44), (.ref fb44)])) _
          refine XS.iconst X53.here hx rfl (hb hby at_98) ?_
          show Steps p.tables e below (T53.setTop (mkF m 99 #[.val (.int p0), .val (.int p1), .val (.int p2), .val (.int p3), .val (.int p4), .val (.int d0), .val (.int d1), .val (.int d2), .val (.int d3), .val (.int (p0 &&& (7 : Int32))), .unset, .val (.int (((p0 &&& (7 : Int32)) &&& (3 : Int32)) + (1 : Int32)))] [(.int (1 : Int32)), (.ref fb48), (.ref fb48), (.ref fb44), (.ref fb44)])) _
          refine XS.iload X53.here hx rfl (hb hby at_99) rfl ?_
          show Steps p.tables e below (T53.setTop (mkF m 101 #[.val (.int p0), .val (.int p1), .val (.int p2), .val (.int p3), .val (.int p4), .val (.int d0), .val (.int d1), .val (.int d2), .val (.int d3), .val (.int (p0 &&& (7 : Int32))), .unset, .val (.int (((p0 &&& (7 : Int32)) &&& (3 : Int32)) + (1 : Int32)))] [(.int d1), (.int (1 : Int32)), (.ref fb48), (.ref fb48), (.ref fb44), (.ref fb44)])) _
          exact st56 _ kk
        have fc59 := (((O44.ext E48).wr W53).wr W56)
        have fc60 := (((F44_value.ext E48).other W53 (Or.inl ne_fb44_fb48)).other W56 (Or.inl ne_fb44_fb48))
        have fc61 := (((F44_coder.ext E48).other W53 (Or.inl ne_fb44_fb48)).other W56 (Or.inl ne_fb44_fb48))
        have fc62 := ((((XO.ext E44).ext E48).wr W53 lo_fb48).wr W56 lo_fb48)
        have fc64 := (Nat.le_trans (Nat.le_trans (Nat.le_trans fc49 E48.1) (Keep.of_wr W53).1) (Keep.of_wr W56).1)
        obtain ⟨_, _, ⟨T63, L63, k63, n63⟩, -, X63, ⟨Lc63, hQ63, l63, y63, z63⟩, st63⟩ := X56.specialBack hx (y := (⟨"java/lang/String", "<init>", "([C)V"⟩ : MethodName)) rfl hown (mvT hZ (hw _ (List.mem_of_getElem? (i := 9) rfl))) (mvT hZ (hw _ (List.mem_of_getElem? (i := 10) rfl))) (mvT hZ (hw _ (List.mem_of_getElem? (i := 11) rfl))) (by decide) (StrChars.Road.backV (W := 1) hZ hws (kI := 4) (hw _ (List.mem_of_getElem? (i := 6) rfl)) (cs := ([(nar .char d0), (nar .char d1)] : List Int32)) (bs := ([(nar .char d0), (nar .char d1)] : List Int32).map (fun c => c.toInt8.toInt32)) (n := 2) lo_fb44 fc64 fc59.exa fc60 fc61 V56 (O2.ext fc62.2) P5 rfl rfl (by decide) (by decide) (own_okLt (own_okc (own_okn hd0) (own_okc (own_okn hd1) own_ok0))) rfl (by decide) (by decide)) (g := (mkF m 102 #[.val (.int p0), .val (.int p1), .val (.int p2), .val (.int p3), .val (.int p4), .val (.int d0), .val (.int d1), .val (.int d2), .val (.int d3), .val (.int (p0 &&& (7 : Int32))), .unset, .val (.int (((p0 &&& (7 : Int32)) &&& (3 : Int32)) + (1 : Int32)))] [(.ref fb48), (.ref fb44), (.ref fb44)])) rfl (by rw [hml]; rfl) (Steps.refl _) (a := fb44) (argsL := [(.ref fb48)]) (rest := [(.ref fb44)]) (lenOf pd___C_V rfl) rfl (by show 2 * 0 + _ ≤ _; exact Nat.le_of_eq rfl) (hb hby at_102) (fun _ _ => ⟨rfl, e56, (by decide : 2 + 1 ≤ _), (by decide : 6 + 2 ≤ _)⟩)
        dsimp only [Pt.U, Pt.locs, Pt.cells, Pt.slots] at X63 l63 y63 z63 st63 hQ63
        subst l63 y63 z63
        obtain ⟨rfl, N63q, K63, Ex63, Fc63, t63, kb63, u63, lo63, ne63, Fv63, Vt63⟩ := hQ63
        have N63 := Fr.app N56 N63q
        have SA65 : ∀ y ∈ [fb44], Safe Z own_EL _ _ y := (sfS sf57_fb44 sf0)
        have CR65 := CHr.trans CR57 (CHr.keep K63 SA65 CR57.1)
        have sf65_fb44 := (Safe.keep K63 SA65 CR57.1 sf57_fb44)
        have pre66 : ∀ t, Steps p.tables e below (T63.setTop (mkF m 105 #[.val (.int p0), .val (.int p1), .val (.int p2), .val (.int p3), .val (.int p4), .val (.int d0), .val (.int d1), .val (.int d2), .val (.int d3), .val (.int (p0 &&& (7 : Int32))), .unset, .val (.int (((p0 &&& (7 : Int32)) &&& (3 : Int32)) + (1 : Int32)))] [(.ref fb44)])) t → Steps p.tables e below (s₁.setTop (entryFrame m #[(.int p0), (.int p1), (.int p2), (.int p3), (.int p4)] maxLocals)) t := by
          intro t kk
          refine pre58 t ?_
          show Steps p.tables e below (T56.setTop (mkF m 102 #[.val (.int p0), .val (.int p1), .val (.int p2), .val (.int p3), .val (.int p4), .val (.int d0), .val (.int d1), .val (.int d2), .val (.int d3), .val (.int (p0 &&& (7 : Int32))), .unset, .val (.int (((p0 &&& (7 : Int32)) &&& (3 : Int32)) + (1 : Int32)))] [(.ref fb48), (.ref fb44), (.ref fb44)])) _
          exact st63.trans kk
        have ne_fb48_t63 : fb48 ≠ t63 := Nat.ne_of_lt (Nat.lt_of_lt_of_le V56.lt lo63)
        have fc67 := (fc59.keep K63)
        have fc68 := (fc62.keep K63 (allS lo_fb44 all0))
        have pre69 : ∀ t, Steps p.tables e below (T63.setTop (mkF m 180 #[.val (.int p0), .val (.int p1), .val (.int p2), .val (.int p3), .val (.int p4), .val (.int d0), .val (.int d1), .val (.int d2), .val (.int d3), .val (.int (p0 &&& (7 : Int32))), .val (.ref fb44), .val (.int (((p0 &&& (7 : Int32)) &&& (3 : Int32)) + (1 : Int32)))] [(.ref fb44)])) t → Steps p.tables e below (s₁.setTop (entryFrame m #[(.int p0), (.int p1), (.int p2), (.int p3), (.int p4)] maxLocals)) t := by
          intro t kk
          refine pre66 t ?_
          show Steps p.tables e below (T63.setTop (mkF m 105 #[.val (.int p0), .val (.int p1), .val (.int p2), .val (.int p3), .val (.int p4), .val (.int d0), .val (.int d1), .val (.int d2), .val (.int d3), .val (.int (p0 &&& (7 : Int32))), .unset, .val (.int (((p0 &&& (7 : Int32)) &&& (3 : Int32)) + (1 : Int32)))] [(.ref fb44)])) _
          refine XS.astore X63.here hx rfl (hb hby at_105) rfl rfl (l' := #[.val (.int p0), .val (.int p1), .val (.int p2), .val (.int p3), .val (.int p4), .val (.int d0), .val (.int d1), .val (.int d2), .val (.int d3), .val (.int (p0 &&& (7 : Int32))), .val (.ref fb44), .val (.int (((p0 &&& (7 : Int32)) &&& (3 : Int32)) + (1 : Int32)))]) rfl ?_
          show Steps p.tables e below (T63.setTop (mkF m 107 #[.val (.int p0), .val (.int p1), .val (.int p2), .val (.int p3), .val (.int p4), .val (.int d0), .val (.int d1), .val (.int d2), .val (.int d3), .val (.int (p0 &&& (7 : Int32))), .val (.ref fb44), .val (.int (((p0 &&& (7 : Int32)) &&& (3 : Int32)) + (1 : Int32)))] [])) _
          refine XS.goto X63.here hx rfl (pc0 := 107) (pc' := 178) rfl (hb hby at_107) (by decide) (by decide) ?_
          show Steps p.tables e below (T63.setTop (mkF m 178 #[.val (.int p0), .val (.int p1), .val (.int p2), .val (.int p3), .val (.int p4), .val (.int d0), .val (.int d1), .val (.int d2), .val (.int d3), .val (.int (p0 &&& (7 : Int32))), .val (.ref fb44), .val (.int (((p0 &&& (7 : Int32)) &&& (3 : Int32)) + (1 : Int32)))] [])) _
          refine XS.aload X63.here hx rfl (hb hby at_178) rfl rfl ?_
          exact kk
        have fc71 := (Nat.le_trans fc64 K63.1)
        obtain ⟨_, _, ⟨T70, L70, k70, n70⟩, -, X70w, hS70w, gr70, ⟨Lc70, hQ70, l70, y70, z70, CQ70⟩, st70⟩ := callSS X63 hx (y := (⟨"com/example/deadline/deadline/Timer", "checkId", "(Ljava/lang/String;)V"⟩ : MethodName)) hown (mvT hZ (hw _ (List.mem_of_getElem? (i := 35) rfl))) (mvT hZ (hw _ (List.mem_of_getElem? (i := 36) rfl))) (mvT hZ (hw _ (List.mem_of_getElem? (i := 37) rfl))) (mvT hZ (hw _ (List.mem_of_getElem? (i := 38) rfl))) (by decide) (backOfSH (W := 0) (own_chk l Z a0 hw [] fb44 t63 kb63 [(nar .char d0), (nar .char d1)] G1 G3 T63.heap n0 fc71 fc67.exa Fv63 Fc63 Vt63 (own_okLt (own_okc (own_okn hd0) (own_okc (own_okn hd1) own_ok0))) (own_okL (own_okc (own_okn hd0) (own_okc (own_okn hd1) own_ok0))) (Nat.le_of_ble_eq_true rfl) (Nat.le_of_ble_eq_true rfl) (Nat.le_trans (own_cntL _ _) (Nat.le_of_ble_eq_true rfl)) O2 P5 O4 rG3 fc68) hZ (hw _ (List.mem_of_getElem? (i := 38) rfl)) (hw _ (List.mem_of_getElem? (i := 37) rfl)) (by decide) (by decide) hEL CR65.1) (g := (mkF m 180 #[.val (.int p0), .val (.int p1), .val (.int p2), .val (.int p3), .val (.int p4), .val (.int d0), .val (.int d1), .val (.int d2), .val (.int d3), .val (.int (p0 &&& (7 : Int32))), .val (.ref fb44), .val (.int (((p0 &&& (7 : Int32)) &&& (3 : Int32)) + (1 : Int32)))] [(.ref fb44)])) rfl (by rw [hml]; rfl) (argsL := [(.ref fb44)]) (rest := []) (lenOf pd__Ljava_lang_String__V rfl) rfl (by show 2 * 0 + _ ≤ _; exact Nat.le_of_eq rfl) (hb hby at_180) (fun _ _ => ⟨rfl, rfl, (by decide : 3 + 10 ≤ _), (by decide : 8 + 92 ≤ _)⟩)
        dsimp only [Pt.U, Pt.locs, Pt.cells, Pt.slots] at X70w hS70w gr70 l70 y70 z70 st70 hQ70 CQ70
        subst l70 y70 z70
        obtain ⟨rfl, N70q, K70⟩ := hQ70
        have N70 := Fr.app N63 N70q
        have fc72 := (Nat.le_trans (Nat.le_trans (Nat.le_trans (Nat.le_trans (Nat.le_trans hk0 E44.1) E48.1) (Keep.of_wr W53).1) (Keep.of_wr W56).1) K63.1)
        obtain ⟨X70, hS70, hZ, hown⟩ := rebS hS0 fc72 X70w hS70w gr70 hZ hown
        have hk70 : T70.heap.size ≤ T70.heap.size := Nat.le_refl _
        have sf70_fb44 := CQ70.safe fc67.lt sf65_fb44
        have CR70 := CHr.trans CR65 CQ70
        have pre73 : ∀ t, Steps p.tables e below (T70.setTop (mkF m 183 #[.val (.int p0), .val (.int p1), .val (.int p2), .val (.int p3), .val (.int p4), .val (.int d0), .val (.int d1), .val (.int d2), .val (.int d3), .val (.int (p0 &&& (7 : Int32))), .val (.ref fb44), .val (.int (((p0 &&& (7 : Int32)) &&& (3 : Int32)) + (1 : Int32)))] [])) t → Steps p.tables e below (s₁.setTop (entryFrame m #[(.int p0), (.int p1), (.int p2), (.int p3), (.int p4)] maxLocals)) t := by
          intro t kk
          refine pre69 t ?_
          show Steps p.tables e below (T63.setTop (mkF m 180 #[.val (.int p0), .val (.int p1), .val (.int p2), .val (.int p3), .val (.int p4), .val (.int d0), .val (.int d1), .val (.int d2), .val (.int d3), .val (.int (p0 &&& (7 : Int32))), .val (.ref fb44), .val (.int (((p0 &&& (7 : Int32)) &&& (3 : Int32)) + (1 : Int32)))] [(.ref fb44)])) _
          exact st70.trans kk
        obtain ⟨fs, hr, hrun, hended, hRW⟩ := X70.leaveW hS70 hk70 (v := some (.int (1 : Int32))) (fun h => by rw [Bd.returns] at h; cases h)
        have CRe := CHr.trans CR70 (CHv.at X70 hZ hEL CR70.1)
        refine ⟨_, _, pre73 _ ?_, hrun, hended, _, _, rfl, ?_, ?_, hRW.1, hRW.2.1, hRW.2.2.1, hRW.2.2.2.mono (by decide) (by decide)⟩
        · show Steps p.tables e below (T70.setTop (mkF m 183 #[.val (.int p0), .val (.int p1), .val (.int p2), .val (.int p3), .val (.int p4), .val (.int d0), .val (.int d1), .val (.int d2), .val (.int d3), .val (.int (p0 &&& (7 : Int32))), .val (.ref fb44), .val (.int (((p0 &&& (7 : Int32)) &&& (3 : Int32)) + (1 : Int32)))] [])) _
          refine XS.iconst X70.here hx rfl (hb hby at_183) ?_
          show Steps p.tables e below (T70.setTop (mkF m 184 #[.val (.int p0), .val (.int p1), .val (.int p2), .val (.int p3), .val (.int p4), .val (.int d0), .val (.int d1), .val (.int d2), .val (.int d3), .val (.int (p0 &&& (7 : Int32))), .val (.ref fb44), .val (.int (((p0 &&& (7 : Int32)) &&& (3 : Int32)) + (1 : Int32)))] [(.int (1 : Int32))])) _
          exact retN X70 hx (t := .boolean) Bd.returns (by simp) (hb hby at_184) hr
        · show Q_own_law Z p0 p1 p2 p3 p4 G1 G3 h0 n0 _ T70.heap _
          exact ⟨rfl, N70⟩
        · show CHr Z own_EL s.vm s.heap T70.vm T70.heap
          rw [hh]
          exact CRe
      case neg =>
        by_cases hn3 : (((p0 &&& (7 : Int32)) &&& (3 : Int32)) + (1 : Int32)) = (3 : Int32)
        case pos =>
          obtain ⟨fb74, g74⟩ : ∃ z, z = h0.size := ⟨_, rfl⟩
          have lo_fb74 : n0 ≤ fb74 := Nat.le_trans Z0 (Nat.le_of_eq g74.symm)
          have hi_fb74 : h0.size ≤ fb74 := Nat.le_trans (Keep.refl h0 []).1 (Nat.le_of_eq g74.symm)
          have sf75_fb74 : Safe Z own_EL _ _ fb74 := Safe.new (h := h0) (vm := s.vm) (Nat.le_of_eq g74.symm)
          obtain ⟨T74, h74, X74, e74, E74, A74, D74, B74, st74⟩ := newO X7 hx hZ hown (hw _ (List.mem_of_getElem? (i := 5) rfl)) (hw _ (List.mem_of_getElem? (i := 6) rfl)) (hw _ (List.mem_of_getElem? (i := 7) rfl)) e7q (g := (mkF m 116 #[.val (.int p0), .val (.int p1), .val (.int p2), .val (.int p3), .val (.int p4), .val (.int d0), .val (.int d1), .val (.int d2), .val (.int d3), .val (.int (p0 &&& (7 : Int32))), .unset, .val (.int (((p0 &&& (7 : Int32)) &&& (3 : Int32)) + (1 : Int32)))] [])) rfl (hb hby at_116) (by decide) (by decide)
          rw [← g74] at A74 D74 B74 st74
          have O74 := Obj.of A74 B74
          have CR76 := CHr.trans CR0 (CHr.ext E74 CR0.1)
          have sf76_fb74 := (Safe.ext E74 CR0.1 sf75_fb74)
          have F74_value : Fld Z h74 fb74 "java/lang/String" "value" "[B" .null := D74 (Or.inr (hw _ (List.mem_of_getElem? (i := 34) rfl))) (ty := (.array .byte)) (by decide)
          have F74_coder : Fld Z h74 fb74 "java/lang/String" "coder" "B" (.int (0 : Int32)) := D74 (Or.inr (hw _ (List.mem_of_getElem? (i := 32) rfl))) (ty := .byte) (by decide)
          have pre77 : ∀ t, Steps p.tables e below (T74.setTop (mkF m 119 #[.val (.int p0), .val (.int p1), .val (.int p2), .val (.int p3), .val (.int p4), .val (.int d0), .val (.int d1), .val (.int d2), .val (.int d3), .val (.int (p0 &&& (7 : Int32))), .unset, .val (.int (((p0 &&& (7 : Int32)) &&& (3 : Int32)) + (1 : Int32)))] [(.ref fb74)])) t → Steps p.tables e below (s₁.setTop (entryFrame m #[(.int p0), (.int p1), (.int p2), (.int p3), (.int p4)] maxLocals)) t := by
            intro t kk
            refine pre8 t ?_
            show Steps p.tables e below (T7.setTop (mkF m 23 #[.val (.int p0), .val (.int p1), .val (.int p2), .val (.int p3), .val (.int p4), .val (.int d0), .val (.int d1), .val (.int d2), .unset, .unset, .unset, .unset] [(.int d3)])) _
            refine XS.istore X7.here hx rfl (hb hby at_23) rfl (l' := #[.val (.int p0), .val (.int p1), .val (.int p2), .val (.int p3), .val (.int p4), .val (.int d0), .val (.int d1), .val (.int d2), .val (.int d3), .unset, .unset, .unset]) rfl ?_
            show Steps p.tables e below (T7.setTop (mkF m 25 #[.val (.int p0), .val (.int p1), .val (.int p2), .val (.int p3), .val (.int p4), .val (.int d0), .val (.int d1), .val (.int d2), .val (.int d3), .unset, .unset, .unset] [])) _
            refine XS.iloadN X7.here hx rfl (hb hby at_25) rfl ?_
            show Steps p.tables e below (T7.setTop (mkF m 26 #[.val (.int p0), .val (.int p1), .val (.int p2), .val (.int p3), .val (.int p4), .val (.int d0), .val (.int d1), .val (.int d2), .val (.int d3), .unset, .unset, .unset] [(.int p0)])) _
            refine XS.bipush X7.here hx rfl (hb hby at_26) ?_
            show Steps p.tables e below (T7.setTop (mkF m 28 #[.val (.int p0), .val (.int p1), .val (.int p2), .val (.int p3), .val (.int p4), .val (.int d0), .val (.int d1), .val (.int d2), .val (.int d3), .unset, .unset, .unset] [(.int (7 : Int32)), (.int p0)])) _
            refine XS.iand X7.here hx rfl (hb hby at_28) rfl ?_
            show Steps p.tables e below (T7.setTop (mkF m 29 #[.val (.int p0), .val (.int p1), .val (.int p2), .val (.int p3), .val (.int p4), .val (.int d0), .val (.int d1), .val (.int d2), .val (.int d3), .unset, .unset, .unset] [(.int (p0 &&& (7 : Int32)))])) _
            refine XS.istore X7.here hx rfl (hb hby at_29) rfl (l' := #[.val (.int p0), .val (.int p1), .val (.int p2), .val (.int p3), .val (.int p4), .val (.int d0), .val (.int d1), .val (.int d2), .val (.int d3), .val (.int (p0 &&& (7 : Int32))), .unset, .unset]) rfl ?_
            show Steps p.tables e below (T7.setTop (mkF m 31 #[.val (.int p0), .val (.int p1), .val (.int p2), .val (.int p3), .val (.int p4), .val (.int d0), .val (.int d1), .val (.int d2), .val (.int d3), .val (.int (p0 &&& (7 : Int32))), .unset, .unset] [])) _
            refine XS.iload X7.here hx rfl (hb hby at_31) rfl ?_
            show Steps p.tables e below (T7.setTop (mkF m 33 #[.val (.int p0), .val (.int p1), .val (.int p2), .val (.int p3), .val (.int p4), .val (.int d0), .val (.int d1), .val (.int d2), .val (.int d3), .val (.int (p0 &&& (7 : Int32))), .unset, .unset] [(.int (p0 &&& (7 : Int32)))])) _
            refine XS.bipush X7.here hx rfl (hb hby at_33) ?_
            show Steps p.tables e below (T7.setTop (mkF m 35 #[.val (.int p0), .val (.int p1), .val (.int p2), .val (.int p3), .val (.int p4), .val (.int d0), .val (.int d1), .val (.int d2), .val (.int d3), .val (.int (p0 &&& (7 : Int32))), .unset, .unset] [(.int (7 : Int32)), (.int (p0 &&& (7 : Int32)))])) _
            refine XS.icmpYes X7.here hx rfl (pc0 := 35) (pc' := 45) rfl (hb hby at_35) rfl (feq hsel).2 (by decide) (by decide) ?_
            show Steps p.tables e below (T7.setTop (mkF m 45 #[.val (.int p0), .val (.int p1), .val (.int p2), .val (.int p3), .val (.int p4), .val (.int d0), .val (.int d1), .val (.int d2), .val (.int d3), .val (.int (p0 &&& (7 : Int32))), .unset, .unset] [])) _
            refine XS.iload X7.here hx rfl (hb hby at_45) rfl ?_
            show Steps p.tables e below (T7.setTop (mkF m 47 #[.val (.int p0), .val (.int p1), .val (.int p2), .val (.int p3), .val (.int p4), .val (.int d0), .val (.int d1), .val (.int d2), .val (.int d3), .val (.int (p0 &&& (7 : Int32))), .unset, .unset] [(.int (p0 &&& (7 : Int32)))])) _
            refine XS.iconst X7.here hx rfl (hb hby at_47) ?_
            show Steps p.tables e below (T7.setTop (mkF m 48 #[.val (.int p0), .val (.int p1), .val (.int p2), .val (.int p3), .val (.int p4), .val (.int d0), .val (.int d1), .val (.int d2), .val (.int d3), .val (.int (p0 &&& (7 : Int32))), .unset, .unset] [(.int (3 : Int32)), (.int (p0 &&& (7 : Int32)))])) _
            refine XS.iand X7.here hx rfl (hb hby at_48) rfl ?_
            show Steps p.tables e below (T7.setTop (mkF m 49 #[.val (.int p0), .val (.int p1), .val (.int p2), .val (.int p3), .val (.int p4), .val (.int d0), .val (.int d1), .val (.int d2), .val (.int d3), .val (.int (p0 &&& (7 : Int32))), .unset, .unset] [(.int ((p0 &&& (7 : Int32)) &&& (3 : Int32)))])) _
            refine XS.iconst X7.here hx rfl (hb hby at_49) ?_
            show Steps p.tables e below (T7.setTop (mkF m 50 #[.val (.int p0), .val (.int p1), .val (.int p2), .val (.int p3), .val (.int p4), .val (.int d0), .val (.int d1), .val (.int d2), .val (.int d3), .val (.int (p0 &&& (7 : Int32))), .unset, .unset] [(.int (1 : Int32)), (.int ((p0 &&& (7 : Int32)) &&& (3 : Int32)))])) _
            refine XS.iadd X7.here hx rfl (hb hby at_50) rfl ?_
            show Steps p.tables e below (T7.setTop (mkF m 51 #[.val (.int p0), .val (.int p1), .val (.int p2), .val (.int p3), .val (.int p4), .val (.int d0), .val (.int d1), .val (.int d2), .val (.int d3), .val (.int (p0 &&& (7 : Int32))), .unset, .unset] [(.int (((p0 &&& (7 : Int32)) &&& (3 : Int32)) + (1 : Int32)))])) _
            refine XS.istore X7.here hx rfl (hb hby at_51) rfl (l' := #[.val (.int p0), .val (.int p1), .val (.int p2), .val (.int p3), .val (.int p4), .val (.int d0), .val (.int d1), .val (.int d2), .val (.int d3), .val (.int (p0 &&& (7 : Int32))), .unset, .val (.int (((p0 &&& (7 : Int32)) &&& (3 : Int32)) + (1 : Int32)))]) rfl ?_
            show Steps p.tables e below (T7.setTop (mkF m 53 #[.val (.int p0), .val (.int p1), .val (.int p2), .val (.int p3), .val (.int p4), .val (.int d0), .val (.int d1), .val (.int d2), .val (.int d3), .val (.int (p0 &&& (7 : Int32))), .unset, .val (.int (((p0 &&& (7 : Int32)) &&& (3 : Int32)) + (1 : Int32)))] [])) _
            refine XS.iload X7.here hx rfl (hb hby at_53) rfl ?_
            show Steps p.tables e below (T7.setTop (mkF m 55 #[.val (.int p0), .val (.int p1), .val (.int p2), .val (.int p3), .val (.int p4), .val (.int d0), .val (.int d1), .val (.int d2), .val (.int d3), .val (.int (p0 &&& (7 : Int32))), .unset, .val (.int (((p0 &&& (7 : Int32)) &&& (3 : Int32)) + (1 : Int32)))] [(.int (((p0 &&& (7 : Int32)) &&& (3 : Int32)) + (1 : Int32)))])) _
            refine XS.iconst X7.here hx rfl (hb hby at_55) ?_
            show Steps p.tables e below (T7.setTop (mkF m 56 #[.val (.int p0), .val (.int p1), .val (.int p2), .val (.int p3), .val (.int p4), .val (.int d0), .val (.int d1), .val (.int d2), .val (.int d3), .val (.int (p0 &&& (7 : Int32))), .unset, .val (.int (((p0 &&& (7 : Int32)) &&& (3 : Int32)) + (1 : Int32)))] [(.int (1 : Int32)), (.int (((p0 &&& (7 : Int32)) &&& (3 : Int32)) + (1 : Int32)))])) _
            refine XS.icmpYes X7.here hx rfl (pc0 := 56) (pc' := 79) rfl (hb hby at_56) rfl (feq hn1).2 (by decide) (by decide) ?_
            show Steps p.tables e below (T7.setTop (mkF m 79 #[.val (.int p0), .val (.int p1), .val (.int p2), .val (.int p3), .val (.int p4), .val (.int d0), .val (.int d1), .val (.int d2), .val (.int d3), .val (.int (p0 &&& (7 : Int32))), .unset, .val (.int (((p0 &&& (7 : Int32)) &&& (3 : Int32)) + (1 : Int32)))] [])) _
            refine XS.iload X7.here hx rfl (hb hby at_79) rfl ?_
            show Steps p.tables e below (T7.setTop (mkF m 81 #[.val (.int p0), .val (.int p1), .val (.int p2), .val (.int p3), .val (.int p4), .val (.int d0), .val (.int d1), .val (.int d2), .val (.int d3), .val (.int (p0 &&& (7 : Int32))), .unset, .val (.int (((p0 &&& (7 : Int32)) &&& (3 : Int32)) + (1 : Int32)))] [(.int (((p0 &&& (7 : Int32)) &&& (3 : Int32)) + (1 : Int32)))])) _
            refine XS.iconst X7.here hx rfl (hb hby at_81) ?_
            show Steps p.tables e below (T7.setTop (mkF m 82 #[.val (.int p0), .val (.int p1), .val (.int p2), .val (.int p3), .val (.int p4), .val (.int d0), .val (.int d1), .val (.int d2), .val (.int d3), .val (.int (p0 &&& (7 : Int32))), .unset, .val (.int (((p0 &&& (7 : Int32)) &&& (3 : Int32)) + (1 : Int32)))] [(.int (2 : Int32)), (.int (((p0 &&& (7 : Int32)) &&& (3 : Int32)) + (1 : Int32)))])) _
            refine XS.icmpYes X7.here hx rfl (pc0 := 82) (pc' := 110) rfl (hb hby at_82) rfl (feq hn2).2 (by decide) (by decide) ?_
            show Steps p.tables e below (T7.setTop (mkF m 110 #[.val (.int p0), .val (.int p1), .val (.int p2), .val (.int p3), .val (.int p4), .val (.int d0), .val (.int d1), .val (.int d2), .val (.int d3), .val (.int (p0 &&& (7 : Int32))), .unset, .val (.int (((p0 &&& (7 : Int32)) &&& (3 : Int32)) + (1 : Int32)))] [])) _
            refine XS.iload X7.here hx rfl (hb hby at_110) rfl ?_
            show Steps p.tables e below (T7.setTop (mkF m 112 #[.val (.int p0), .val (.int p1), .val (.int p2), .val (.int p3), .val (.int p4), .val (.int d0), .val (.int d1), .val (.int d2), .val (.int d3), .val (.int (p0 &&& (7 : Int32))), .unset, .val (.int (((p0 &&& (7 : Int32)) &&& (3 : Int32)) + (1 : Int32)))] [(.int (((p0 &&& (7 : Int32)) &&& (3 : Int32)) + (1 : Int32)))])) _
            refine XS.iconst X7.here hx rfl (hb hby at_112) ?_
            show Steps p.tables e below (T7.setTop (mkF m 113 #[.val (.int p0), .val (.int p1), .val (.int p2), .val (.int p3), .val (.int p4), .val (.int d0), .val (.int d1), .val (.int d2), .val (.int d3), .val (.int (p0 &&& (7 : Int32))), .unset, .val (.int (((p0 &&& (7 : Int32)) &&& (3 : Int32)) + (1 : Int32)))] [(.int (3 : Int32)), (.int (((p0 &&& (7 : Int32)) &&& (3 : Int32)) + (1 : Int32)))])) _
            refine XS.icmpNo X7.here hx rfl (hb hby at_113) rfl (teq hn3).2 ?_
            show Steps p.tables e below (T7.setTop (mkF m 116 #[.val (.int p0), .val (.int p1), .val (.int p2), .val (.int p3), .val (.int p4), .val (.int d0), .val (.int d1), .val (.int d2), .val (.int d3), .val (.int (p0 &&& (7 : Int32))), .unset, .val (.int (((p0 &&& (7 : Int32)) &&& (3 : Int32)) + (1 : Int32)))] [])) _
            exact st74 _ kk
          obtain ⟨fb78, g78⟩ : ∃ z, z = h74.size := ⟨_, rfl⟩
          have ne_fb74_fb78 : fb74 ≠ fb78 := Nat.ne_of_lt (Nat.lt_of_lt_of_le O74.lt (Nat.le_of_eq g78.symm))
          have fc79 := (Nat.le_trans Z0 E74.1)
          have lo_fb78 : n0 ≤ fb78 := Nat.le_trans fc79 (Nat.le_of_eq g78.symm)
          have fc80 := ((Keep.refl h0 []).ext E74)
          have hi_fb78 : h0.size ≤ fb78 := Nat.le_trans fc80.1 (Nat.le_of_eq g78.symm)
          obtain ⟨T78, h78, k78, X78, e78, E78, A78, st78⟩ := newP X74 hx hZ (hw _ (List.mem_of_getElem? (i := 8) rfl)) e74 (g := (mkF m 121 #[.val (.int p0), .val (.int p1), .val (.int p2), .val (.int p3), .val (.int p4), .val (.int d0), .val (.int d1), .val (.int d2), .val (.int d3), .val (.int (p0 &&& (7 : Int32))), .unset, .val (.int (((p0 &&& (7 : Int32)) &&& (3 : Int32)) + (1 : Int32)))] [(.int (3 : Int32)), (.ref fb74), (.ref fb74)])) rfl (hb hby at_121) rfl (by decide) (cap := 3) (by decide) (by decide) (by decide) (by decide)
          rw [← g78] at A78 st78
          have V78 : Arv Z h78 fb78 k78 .char (3 : Int32) [(.int (0 : Int32)), (.int (0 : Int32)), (.int (0 : Int32))] (.int (0 : Int32)) := (Arv.new A78 (by decide)).pad (pad_rep [] (.int (0 : Int32)) 3)
          have CR81 := CHr.trans CR76 (CHr.ext E78 CR76.1)
          have sf81_fb74 := (Safe.ext E78 CR76.1 sf76_fb74)
          have pre82 : ∀ t, Steps p.tables e below (T78.setTop (mkF m 123 #[.val (.int p0), .val (.int p1), .val (.int p2), .val (.int p3), .val (.int p4), .val (.int d0), .val (.int d1), .val (.int d2), .val (.int d3), .val (.int (p0 &&& (7 : Int32))), .unset, .val (.int (((p0 &&& (7 : Int32)) &&& (3 : Int32)) + (1 : Int32)))] [(.ref fb78), (.ref fb74), (.ref fb74)])) t → Steps p.tables e below (s₁.setTop (entryFrame m #[(.int p0), (.int p1), (.int p2), (.int p3), (.int p4)] maxLocals)) t := by
            intro t kk
            refine pre77 t ?_
            show Steps p.tables e below (T74.setTop (mkF m 119 #[.val (.int p0), .val (.int p1), .val (.int p2), .val (.int p3), .val (.int p4), .val (.int d0), .val (.int d1), .val (.int d2), .val (.int d3), .val (.int (p0 &&& (7 : Int32))), .unset, .val (.int (((p0 &&& (7 : Int32)) &&& (3 : Int32)) + (1 : Int32)))] [(.ref fb74)])) _
            refine XS.dup X74.here hx rfl (hb hby at_119) rfl rfl ?_
            show Steps p.tables e below (T74.setTop (mkF m 120 #[.val (.int p0), .val (.int p1), .val (.int p2), .val (.int p3), .val (.int p4), .val (.int d0), .val (.int d1), .val (.int d2), .val (.int d3), .val (.int (p0 &&& (7 : Int32))), .unset, .val (.int (((p0 &&& (7 : Int32)) &&& (3 : Int32)) + (1 : Int32)))] [(.ref fb74), (.ref fb74)])) _
            refine XS.iconst X74.here hx rfl (hb hby at_120) ?_
            show Steps p.tables e below (T74.setTop (mkF m 121 #[.val (.int p0), .val (.int p1), .val (.int p2), .val (.int p3), .val (.int p4), .val (.int d0), .val (.int d1), .val (.int d2), .val (.int d3), .val (.int (p0 &&& (7 : Int32))), .unset, .val (.int (((p0 &&& (7 : Int32)) &&& (3 : Int32)) + (1 : Int32)))] [(.int (3 : Int32)), (.ref fb74), (.ref fb74)])) _
            exact st78 _ kk
          obtain ⟨cl83, Ar83, q83, S83, M83, H83, G83⟩ := id V78
          obtain ⟨T83, h83, X83, e83, W83, st83⟩ := stC X78 hx hZ e78 Ar83 (j := (0 : Int32)) (inb_of S83 ⟨(by decide), (by decide)⟩) (g := (mkF m 127 #[.val (.int p0), .val (.int p1), .val (.int p2), .val (.int p3), .val (.int p4), .val (.int d0), .val (.int d1), .val (.int d2), .val (.int d3), .val (.int (p0 &&& (7 : Int32))), .unset, .val (.int (((p0 &&& (7 : Int32)) &&& (3 : Int32)) + (1 : Int32)))] [(.int d0), (.int (0 : Int32)), (.ref fb78), (.ref fb78), (.ref fb74), (.ref fb74)])) rfl rfl (hb hby at_127)
          have V83 : Arv Z h83 fb78 k78 .char (3 : Int32) [(.int (nar .char d0)), (.int (0 : Int32)), (.int (0 : Int32))] (.int (0 : Int32)) := Arv.set Ar83 q83 S83 M83 H83 G83 (fits_nar_char _) W83 0 rfl (Nat.le_of_ble_eq_true rfl)
          have SA84 := (Safe.arv (EL := own_EL) hZ.alike V78 (by decide))
          have CR84 := CHr.trans CR81 (CHr.wr W83 SA84 CR81.1)
          have sf84_fb74 := (Safe.wr W83 SA84 CR81.1 sf81_fb74)
          have N83 := Fr.snoc X83 N7 lo_fb78
          have pre85 : ∀ t, Steps p.tables e below (T83.setTop (mkF m 128 #[.val (.int p0), .val (.int p1), .val (.int p2), .val (.int p3), .val (.int p4), .val (.int d0), .val (.int d1), .val (.int d2), .val (.int d3), .val (.int (p0 &&& (7 : Int32))), .unset, .val (.int (((p0 &&& (7 : Int32)) &&& (3 : Int32)) + (1 : Int32)))] [(.ref fb78), (.ref fb74), (.ref fb74)])) t → Steps p.tables e below (s₁.setTop (entryFrame m #[(.int p0), (.int p1), (.int p2), (.int p3), (.int p4)] maxLocals)) t := by
            intro t kk
            refine pre82 t ?_
            show Steps p.tables e below (T78.setTop (mkF m 123 #[.val (.int p0), .val (.int p1), .val (.int p2), .val (.int p3), .val (.int p4), .val (.int d0), .val (.int d1), .val (.int d2), .val (.int d3), .val (.int (p0 &&& (7 : Int32))), .unset, .val (.int (((p0 &&& (7 : Int32)) &&& (3 : Int32)) + (1 : Int32)))] [(.ref fb78), (.ref fb74), (.ref fb74)])) _
            refine XS.dup X78.here hx rfl (hb hby at_123) rfl rfl ?_
            show Steps p.tables e below (T78.setTop (mkF m 124 #[.val (.int p0), .val (.int p1), .val (.int p2), .val (.int p3), .val (.int p4), .val (.int d0), .val (.int d1), .val (.int d2), .val (.int d3), .val (.int (p0 &&& (7 : Int32))), .unset, .val (.int (((p0 &&& (7 : Int32)) &&& (3 : Int32)) + (1 : Int32)))] [(.ref fb78), (.ref fb78), (.ref fb74), (.ref fb74)])) _
            refine XS.iconst X78.here hx rfl (hb hby at_124) ?_
            show Steps p.tables e below (T78.setTop (mkF m 125 #[.val (.int p0), .val (.int p1), .val (.int p2), .val (.int p3), .val (.int p4), .val (.int d0), .val (.int d1), .val (.int d2), .val (.int d3), .val (.int (p0 &&& (7 : Int32))), .unset, .val (.int (((p0 &&& (7 : Int32)) &&& (3 : Int32)) + (1 : Int32)))] [(.int (0 : Int32)), (.ref fb78), (.ref fb78), (.ref fb74), (.ref fb74)])) _
            refine XS.iload X78.here hx rfl (hb hby at_125) rfl ?_
            show Steps p.tables e below (T78.setTop (mkF m 127 #[.val (.int p0), .val (.int p1), .val (.int p2), .val (.int p3), .val (.int p4), .val (.int d0), .val (.int d1), .val (.int d2), .val (.int d3), .val (.int (p0 &&& (7 : Int32))), .unset, .val (.int (((p0 &&& (7 : Int32)) &&& (3 : Int32)) + (1 : Int32)))] [(.int d0), (.int (0 : Int32)), (.ref fb78), (.ref fb78), (.ref fb74), (.ref fb74)])) _
            exact st83 _ kk
          obtain ⟨cl86, Ar86, q86, S86, M86, H86, G86⟩ := id V83
          obtain ⟨T86, h86, X86, e86, W86, st86⟩ := stC X83 hx hZ e83 Ar86 (j := (1 : Int32)) (inb_of S86 ⟨(by decide), (by decide)⟩) (g := (mkF m 132 #[.val (.int p0), .val (.int p1), .val (.int p2), .val (.int p3), .val (.int p4), .val (.int d0), .val (.int d1), .val (.int d2), .val (.int d3), .val (.int (p0 &&& (7 : Int32))), .unset, .val (.int (((p0 &&& (7 : Int32)) &&& (3 : Int32)) + (1 : Int32)))] [(.int d1), (.int (1 : Int32)), (.ref fb78), (.ref fb78), (.ref fb74), (.ref fb74)])) rfl rfl (hb hby at_132)
          have V86 : Arv Z h86 fb78 k78 .char (3 : Int32) [(.int (nar .char d0)), (.int (nar .char d1)), (.int (0 : Int32))] (.int (0 : Int32)) := Arv.set Ar86 q86 S86 M86 H86 G86 (fits_nar_char _) W86 1 rfl (Nat.le_of_ble_eq_true rfl)
          have SA87 := (Safe.arv (EL := own_EL) hZ.alike V83 (by decide))
          have CR87 := CHr.trans CR84 (CHr.wr W86 SA87 CR84.1)
          have sf87_fb74 := (Safe.wr W86 SA87 CR84.1 sf84_fb74)
          have N86 := Fr.snoc X86 N83 lo_fb78
          have pre88 : ∀ t, Steps p.tables e below (T86.setTop (mkF m 133 #[.val (.int p0), .val (.int p1), .val (.int p2), .val (.int p3), .val (.int p4), .val (.int d0), .val (.int d1), .val (.int d2), .val (.int d3), .val (.int (p0 &&& (7 : Int32))), .unset, .val (.int (((p0 &&& (7 : Int32)) &&& (3 : Int32)) + (1 : Int32)))] [(.ref fb78), (.ref fb74), (.ref fb74)])) t → Steps p.tables e below (s₁.setTop (entryFrame m #[(.int p0), (.int p1), (.int p2), (.int p3), (.int p4)] maxLocals)) t := by
            intro t kk
            refine pre85 t ?_
            show Steps p.tables e below (T83.setTop (mkF m 128 #[.val (.int p0), .val (.int p1), .val (.int p2), .val (.int p3), .val (.int p4), .val (.int d0), .val (.int d1), .val (.int d2), .val (.int d3), .val (.int (p0 &&& (7 : Int32))), .unset, .val (.int (((p0 &&& (7 : Int32)) &&& (3 : Int32)) + (1 : Int32)))] [(.ref fb78), (.ref fb74), (.ref fb74)])) _
            refine XS.dup X83.here hx rfl (hb hby at_128) rfl rfl ?_
            show Steps p.tables e below (T83.setTop (mkF m 129 #[.val (.int p0), .val (.int p1), .val (.int p2), .val (.int p3), .val (.int p4), .val (.int d0), .val (.int d1), .val (.int d2), .val (.int d3), .val (.int (p0 &&& (7 : Int32))), .unset, .val (.int (((p0 &&& (7 : Int32)) &&& (3 : Int32)) + (1 : Int32)))] [(.ref fb78), (.ref fb78), (.ref fb74), (.ref fb74)])) _
            refine XS.iconst X83.here hx rfl (hb hby at_129) ?_
            show Steps p.tables e below (T83.setTop (mkF m 130 #[.val (.int p0), .val (.int p1), .val (.int p2), .val (.int p3), .val (.int p4), .val (.int d0), .val (.int d1), .val (.int d2), .val (.int d3), .val (.int (p0 &&& (7 : Int32))), .unset, .val (.int (((p0 &&& (7 : Int32)) &&& (3 : Int32)) + (1 : Int32)))] [(.int (1 : Int32)), (.ref fb78), (.ref fb78), (.ref fb74), (.ref fb74)])) _
            refine XS.iload X83.here hx rfl (hb hby at_130) rfl ?_
            show Steps p.tables e below (T83.setTop (mkF m 132 #[.val (.int p0), .val (.int p1), .val (.int p2), .val (.int p3), .val (.int p4), .val (.int d0), .val (.int d1), .val (.int d2), .val (.int d3), .val (.int (p0 &&& (7 : Int32))), .unset, .val (.int (((p0 &&& (7 : Int32)) &&& (3 : Int32)) + (1 : Int32)))] [(.int d1), (.int (1 : Int32)), (.ref fb78), (.ref fb78), (.ref fb74), (.ref fb74)])) _
            exact st86 _ kk
          obtain ⟨cl89, Ar89, q89, S89, M89, H89, G89⟩ := id V86
          obtain ⟨T89, h89, X89, e89, W89, st89⟩ := stC X86 hx hZ e86 Ar89 (j := (2 : Int32)) (inb_of S89 ⟨(by decide), (by decide)⟩) (g := (mkF m 137 #[.val (.int p0), .val (.int p1), .val (.int p2), .val (.int p3), .val (.int p4), .val (.int d0), .val (.int d1), .val (.int d2), .val (.int d3), .val (.int (p0 &&& (7 : Int32))), .unset, .val (.int (((p0 &&& (7 : Int32)) &&& (3 : Int32)) + (1 : Int32)))] [(.int d2), (.int (2 : Int32)), (.ref fb78), (.ref fb78), (.ref fb74), (.ref fb74)])) rfl rfl (hb hby at_137)
          have V89 : Arv Z h89 fb78 k78 .char (3 : Int32) [(.int (nar .char d0)), (.int (nar .char d1)), (.int (nar .char d2))] (.int (0 : Int32)) := Arv.set Ar89 q89 S89 M89 H89 G89 (fits_nar_char _) W89 2 rfl (Nat.le_of_ble_eq_true rfl)
          have SA90 := (Safe.arv (EL := own_EL) hZ.alike V86 (by decide))
          have CR90 := CHr.trans CR87 (CHr.wr W89 SA90 CR87.1)
          have sf90_fb74 := (Safe.wr W89 SA90 CR87.1 sf87_fb74)
          have N89 := Fr.snoc X89 N86 lo_fb78
          have pre91 : ∀ t, Steps p.tables e below (T89.setTop (mkF m 138 #[.val (.int p0), .val (.int p1), .val (.int p2), .val (.int p3), .val (.int p4), .val (.int d0), .val (.int d1), .val (.int d2), .val (.int d3), .val (.int (p0 &&& (7 : Int32))), .unset, .val (.int (((p0 &&& (7 : Int32)) &&& (3 : Int32)) + (1 : Int32)))] [(.ref fb78), (.ref fb74), (.ref fb74)])) t → Steps p.tables e below (s₁.setTop (entryFrame m #[(.int p0), (.int p1), (.int p2), (.int p3), (.int p4)] maxLocals)) t := by
            intro t kk
            refine pre88 t ?_
            show Steps p.tables e below (T86.setTop (mkF m 133 #[.val (.int p0), .val (.int p1), .val (.int p2), .val (.int p3), .val (.int p4), .val (.int d0), .val (.int d1), .val (.int d2), .val (.int d3), .val (.int (p0 &&& (7 : Int32))), .unset, .val (.int (((p0 &&& (7 : Int32)) &&& (3 : Int32)) + (1 : Int32)))] [(.ref fb78), (.ref fb74), (.ref fb74)])) _
            refine XS.dup X86.here hx rfl (hb hby at_133) rfl rfl ?_
            show Steps p.tables e below (T86.setTop (mkF m 134 #[.val (.int p0), .val (.int p1), .val (.int p2), .val (.int p3), .val (.int p4), .val (.int d0), .val (.int d1), .val (.int d2), .val (.int d3), .val (.int (p0 &&& (7 : Int32))), .unset, .val (.int (((p0 &&& (7 : Int32)) &&& (3 : Int32)) + (1 : Int32)))] [(.ref fb78), (.ref fb78), (.ref fb74), (.ref fb74)])) _
            refine XS.iconst X86.here hx rfl (hb hby at_134) ?_
            show Steps p.tables e below (T86.setTop (mkF m 135 #[.val (.int p0), .val (.int p1), .val (.int p2), .val (.int p3), .val (.int p4), .val (.int d0), .val (.int d1), .val (.int d2), .val (.int d3), .val (.int (p0 &&& (7 : Int32))), .unset, .val (.int (((p0 &&& (7 : Int32)) &&& (3 : Int32)) + (1 : Int32)))] [(.int (2 : Int32)), (.ref fb78), (.ref fb78), (.ref fb74), (.ref fb74)])) _
            refine XS.iload X86.here hx rfl (hb hby at_135) rfl ?_
            show Steps p.tables e below (T86.setTop (mkF m 137 #[.val (.int p0), .val (.int p1), .val (.int p2), .val (.int p3), .val (.int p4), .val (.int d0), .val (.int d1), .val (.int d2), .val (.int d3), .val (.int (p0 &&& (7 : Int32))), .unset, .val (.int (((p0 &&& (7 : Int32)) &&& (3 : Int32)) + (1 : Int32)))] [(.int d2), (.int (2 : Int32)), (.ref fb78), (.ref fb78), (.ref fb74), (.ref fb74)])) _
            exact st89 _ kk
          have fc92 := ((((O74.ext E78).wr W83).wr W86).wr W89)
          have fc93 := ((((F74_value.ext E78).other W83 (Or.inl ne_fb74_fb78)).other W86 (Or.inl ne_fb74_fb78)).other W89 (Or.inl ne_fb74_fb78))
          have fc94 := ((((F74_coder.ext E78).other W83 (Or.inl ne_fb74_fb78)).other W86 (Or.inl ne_fb74_fb78)).other W89 (Or.inl ne_fb74_fb78))
          have fc95 := (((((XO.ext E74).ext E78).wr W83 lo_fb78).wr W86 lo_fb78).wr W89 lo_fb78)
          have fc97 := (Nat.le_trans (Nat.le_trans (Nat.le_trans (Nat.le_trans fc79 E78.1) (Keep.of_wr W83).1) (Keep.of_wr W86).1) (Keep.of_wr W89).1)
          obtain ⟨_, _, ⟨T96, L96, k96, n96⟩, -, X96, ⟨Lc96, hQ96, l96, y96, z96⟩, st96⟩ := X89.specialBack hx (y := (⟨"java/lang/String", "<init>", "([C)V"⟩ : MethodName)) rfl hown (mvT hZ (hw _ (List.mem_of_getElem? (i := 9) rfl))) (mvT hZ (hw _ (List.mem_of_getElem? (i := 10) rfl))) (mvT hZ (hw _ (List.mem_of_getElem? (i := 11) rfl))) (by decide) (StrChars.Road.backV (W := 1) hZ hws (kI := 4) (hw _ (List.mem_of_getElem? (i := 6) rfl)) (cs := ([(nar .char d0), (nar .char d1), (nar .char d2)] : List Int32)) (bs := ([(nar .char d0), (nar .char d1), (nar .char d2)] : List Int32).map (fun c => c.toInt8.toInt32)) (n := 3) lo_fb74 fc97 fc92.exa fc93 fc94 V89 (O2.ext fc95.2) P5 rfl rfl (by decide) (by decide) (own_okLt (own_okc (own_okn hd0) (own_okc (own_okn hd1) (own_okc (own_okn hd2) own_ok0)))) rfl (by decide) (by decide)) (g := (mkF m 138 #[.val (.int p0), .val (.int p1), .val (.int p2), .val (.int p3), .val (.int p4), .val (.int d0), .val (.int d1), .val (.int d2), .val (.int d3), .val (.int (p0 &&& (7 : Int32))), .unset, .val (.int (((p0 &&& (7 : Int32)) &&& (3 : Int32)) + (1 : Int32)))] [(.ref fb78), (.ref fb74), (.ref fb74)])) rfl (by rw [hml]; rfl) (Steps.refl _) (a := fb74) (argsL := [(.ref fb78)]) (rest := [(.ref fb74)]) (lenOf pd___C_V rfl) rfl (by show 2 * 0 + _ ≤ _; exact Nat.le_of_eq rfl) (hb hby at_138) (fun _ _ => ⟨rfl, e89, (by decide : 2 + 1 ≤ _), (by decide : 7 + 3 ≤ _)⟩)
          dsimp only [Pt.U, Pt.locs, Pt.cells, Pt.slots] at X96 l96 y96 z96 st96 hQ96
          subst l96 y96 z96
          obtain ⟨rfl, N96q, K96, Ex96, Fc96, t96, kb96, u96, lo96, ne96, Fv96, Vt96⟩ := hQ96
          have N96 := Fr.app N89 N96q
          have SA98 : ∀ y ∈ [fb74], Safe Z own_EL _ _ y := (sfS sf90_fb74 sf0)
          have CR98 := CHr.trans CR90 (CHr.keep K96 SA98 CR90.1)
          have sf98_fb74 := (Safe.keep K96 SA98 CR90.1 sf90_fb74)
          have pre99 : ∀ t, Steps p.tables e below (T96.setTop (mkF m 141 #[.val (.int p0), .val (.int p1), .val (.int p2), .val (.int p3), .val (.int p4), .val (.int d0), .val (.int d1), .val (.int d2), .val (.int d3), .val (.int (p0 &&& (7 : Int32))), .unset, .val (.int (((p0 &&& (7 : Int32)) &&& (3 : Int32)) + (1 : Int32)))] [(.ref fb74)])) t → Steps p.tables e below (s₁.setTop (entryFrame m #[(.int p0), (.int p1), (.int p2), (.int p3), (.int p4)] maxLocals)) t := by
            intro t kk
            refine pre91 t ?_
            show Steps p.tables e below (T89.setTop (mkF m 138 #[.val (.int p0), .val (.int p1), .val (.int p2), .val (.int p3), .val (.int p4), .val (.int d0), .val (.int d1), .val (.int d2), .val (.int d3), .val (.int (p0 &&& (7 : Int32))), .unset, .val (.int (((p0 &&& (7 : Int32)) &&& (3 : Int32)) + (1 : Int32)))] [(.ref fb78), (.ref fb74), (.ref fb74)])) _
            exact st96.trans kk
          have ne_fb78_t96 : fb78 ≠ t96 := Nat.ne_of_lt (Nat.lt_of_lt_of_le V89.lt lo96)
          have fc100 := (fc92.keep K96)
          have fc101 := (fc95.keep K96 (allS lo_fb74 all0))
          have pre102 : ∀ t, Steps p.tables e below (T96.setTop (mkF m 180 #[.val (.int p0), .val (.int p1), .val (.int p2), .val (.int p3), .val (.int p4), .val (.int d0), .val (.int d1), .val (.int d2), .val (.int d3), .val (.int (p0 &&& (7 : Int32))), .val (.ref fb74), .val (.int (((p0 &&& (7 : Int32)) &&& (3 : Int32)) + (1 : Int32)))] [(.ref fb74)])) t → Steps p.tables e below (s₁.setTop (entryFrame m #[(.int p0), (.int p1), (.int p2), (.int p3), (.int p4)] maxLocals)) t := by
            intro t kk
            refine pre99 t ?_
            show Steps p.tables e below (T96.setTop (mkF m 141 #[.val (.int p0), .val (.int p1), .val (.int p2), .val (.int p3), .val (.int p4), .val (.int d0), .val (.int d1), .val (.int d2), .val (.int d3), .val (.int (p0 &&& (7 : Int32))), .unset, .val (.int (((p0 &&& (7 : Int32)) &&& (3 : Int32)) + (1 : Int32)))] [(.ref fb74)])) _
            refine XS.astore X96.here hx rfl (hb hby at_141) rfl rfl (l' := #[.val (.int p0), .val (.int p1), .val (.int p2), .val (.int p3), .val (.int p4), .val (.int d0), .val (.int d1), .val (.int d2), .val (.int d3), .val (.int (p0 &&& (7 : Int32))), .val (.ref fb74), .val (.int (((p0 &&& (7 : Int32)) &&& (3 : Int32)) + (1 : Int32)))]) rfl ?_
            show Steps p.tables e below (T96.setTop (mkF m 143 #[.val (.int p0), .val (.int p1), .val (.int p2), .val (.int p3), .val (.int p4), .val (.int d0), .val (.int d1), .val (.int d2), .val (.int d3), .val (.int (p0 &&& (7 : Int32))), .val (.ref fb74), .val (.int (((p0 &&& (7 : Int32)) &&& (3 : Int32)) + (1 : Int32)))] [])) _
            refine XS.goto X96.here hx rfl (pc0 := 143) (pc' := 178) rfl (hb hby at_143) (by decide) (by decide) ?_
            show Steps p.tables e below (T96.setTop (mkF m 178 #[.val (.int p0), .val (.int p1), .val (.int p2), .val (.int p3), .val (.int p4), .val (.int d0), .val (.int d1), .val (.int d2), .val (.int d3), .val (.int (p0 &&& (7 : Int32))), .val (.ref fb74), .val (.int (((p0 &&& (7 : Int32)) &&& (3 : Int32)) + (1 : Int32)))] [])) _
            refine XS.aload X96.here hx rfl (hb hby at_178) rfl rfl ?_
            exact kk
          have fc104 := (Nat.le_trans fc97 K96.1)
          obtain ⟨_, _, ⟨T103, L103, k103, n103⟩, -, X103w, hS103w, gr103, ⟨Lc103, hQ103, l103, y103, z103, CQ103⟩, st103⟩ := callSS X96 hx (y := (⟨"com/example/deadline/deadline/Timer", "checkId", "(Ljava/lang/String;)V"⟩ : MethodName)) hown (mvT hZ (hw _ (List.mem_of_getElem? (i := 35) rfl))) (mvT hZ (hw _ (List.mem_of_getElem? (i := 36) rfl))) (mvT hZ (hw _ (List.mem_of_getElem? (i := 37) rfl))) (mvT hZ (hw _ (List.mem_of_getElem? (i := 38) rfl))) (by decide) (backOfSH (W := 0) (own_chk l Z a0 hw [] fb74 t96 kb96 [(nar .char d0), (nar .char d1), (nar .char d2)] G1 G3 T96.heap n0 fc104 fc100.exa Fv96 Fc96 Vt96 (own_okLt (own_okc (own_okn hd0) (own_okc (own_okn hd1) (own_okc (own_okn hd2) own_ok0)))) (own_okL (own_okc (own_okn hd0) (own_okc (own_okn hd1) (own_okc (own_okn hd2) own_ok0)))) (Nat.le_of_ble_eq_true rfl) (Nat.le_of_ble_eq_true rfl) (Nat.le_trans (own_cntL _ _) (Nat.le_of_ble_eq_true rfl)) O2 P5 O4 rG3 fc101) hZ (hw _ (List.mem_of_getElem? (i := 38) rfl)) (hw _ (List.mem_of_getElem? (i := 37) rfl)) (by decide) (by decide) hEL CR98.1) (g := (mkF m 180 #[.val (.int p0), .val (.int p1), .val (.int p2), .val (.int p3), .val (.int p4), .val (.int d0), .val (.int d1), .val (.int d2), .val (.int d3), .val (.int (p0 &&& (7 : Int32))), .val (.ref fb74), .val (.int (((p0 &&& (7 : Int32)) &&& (3 : Int32)) + (1 : Int32)))] [(.ref fb74)])) rfl (by rw [hml]; rfl) (argsL := [(.ref fb74)]) (rest := []) (lenOf pd__Ljava_lang_String__V rfl) rfl (by show 2 * 0 + _ ≤ _; exact Nat.le_of_eq rfl) (hb hby at_180) (fun _ _ => ⟨rfl, rfl, (by decide : 3 + 10 ≤ _), (by decide : 10 + 92 ≤ _)⟩)
          dsimp only [Pt.U, Pt.locs, Pt.cells, Pt.slots] at X103w hS103w gr103 l103 y103 z103 st103 hQ103 CQ103
          subst l103 y103 z103
          obtain ⟨rfl, N103q, K103⟩ := hQ103
          have N103 := Fr.app N96 N103q
          have fc105 := (Nat.le_trans (Nat.le_trans (Nat.le_trans (Nat.le_trans (Nat.le_trans (Nat.le_trans hk0 E74.1) E78.1) (Keep.of_wr W83).1) (Keep.of_wr W86).1) (Keep.of_wr W89).1) K96.1)
          obtain ⟨X103, hS103, hZ, hown⟩ := rebS hS0 fc105 X103w hS103w gr103 hZ hown
          have hk103 : T103.heap.size ≤ T103.heap.size := Nat.le_refl _
          have sf103_fb74 := CQ103.safe fc100.lt sf98_fb74
          have CR103 := CHr.trans CR98 CQ103
          have pre106 : ∀ t, Steps p.tables e below (T103.setTop (mkF m 183 #[.val (.int p0), .val (.int p1), .val (.int p2), .val (.int p3), .val (.int p4), .val (.int d0), .val (.int d1), .val (.int d2), .val (.int d3), .val (.int (p0 &&& (7 : Int32))), .val (.ref fb74), .val (.int (((p0 &&& (7 : Int32)) &&& (3 : Int32)) + (1 : Int32)))] [])) t → Steps p.tables e below (s₁.setTop (entryFrame m #[(.int p0), (.int p1), (.int p2), (.int p3), (.int p4)] maxLocals)) t := by
            intro t kk
            refine pre102 t ?_
            show Steps p.tables e below (T96.setTop (mkF m 180 #[.val (.int p0), .val (.int p1), .val (.int p2), .val (.int p3), .val (.int p4), .val (.int d0), .val (.int d1), .val (.int d2), .val (.int d3), .val (.int (p0 &&& (7 : Int32))), .val (.ref fb74), .val (.int (((p0 &&& (7 : Int32)) &&& (3 : Int32)) + (1 : Int32)))] [(.ref fb74)])) _
            exact st103.trans kk
          obtain ⟨fs, hr, hrun, hended, hRW⟩ := X103.leaveW hS103 hk103 (v := some (.int (1 : Int32))) (fun h => by rw [Bd.returns] at h; cases h)
          have CRe := CHr.trans CR103 (CHv.at X103 hZ hEL CR103.1)
          refine ⟨_, _, pre106 _ ?_, hrun, hended, _, _, rfl, ?_, ?_, hRW.1, hRW.2.1, hRW.2.2.1, hRW.2.2.2.mono (by decide) (by decide)⟩
          · show Steps p.tables e below (T103.setTop (mkF m 183 #[.val (.int p0), .val (.int p1), .val (.int p2), .val (.int p3), .val (.int p4), .val (.int d0), .val (.int d1), .val (.int d2), .val (.int d3), .val (.int (p0 &&& (7 : Int32))), .val (.ref fb74), .val (.int (((p0 &&& (7 : Int32)) &&& (3 : Int32)) + (1 : Int32)))] [])) _
            refine XS.iconst X103.here hx rfl (hb hby at_183) ?_
            show Steps p.tables e below (T103.setTop (mkF m 184 #[.val (.int p0), .val (.int p1), .val (.int p2), .val (.int p3), .val (.int p4), .val (.int d0), .val (.int d1), .val (.int d2), .val (.int d3), .val (.int (p0 &&& (7 : Int32))), .val (.ref fb74), .val (.int (((p0 &&& (7 : Int32)) &&& (3 : Int32)) + (1 : Int32)))] [(.int (1 : Int32))])) _
            exact retN X103 hx (t := .boolean) Bd.returns (by simp) (hb hby at_184) hr
          · show Q_own_law Z p0 p1 p2 p3 p4 G1 G3 h0 n0 _ T103.heap _
            exact ⟨rfl, N103⟩
          · show CHr Z own_EL s.vm s.heap T103.vm T103.heap
            rw [hh]
            exact CRe
        case neg =>
          obtain ⟨fb107, g107⟩ : ∃ z, z = h0.size := ⟨_, rfl⟩
          have lo_fb107 : n0 ≤ fb107 := Nat.le_trans Z0 (Nat.le_of_eq g107.symm)
          have hi_fb107 : h0.size ≤ fb107 := Nat.le_trans (Keep.refl h0 []).1 (Nat.le_of_eq g107.symm)
          have sf108_fb107 : Safe Z own_EL _ _ fb107 := Safe.new (h := h0) (vm := s.vm) (Nat.le_of_eq g107.symm)
          obtain ⟨T107, h107, X107, e107, E107, A107, D107, B107, st107⟩ := newO X7 hx hZ hown (hw _ (List.mem_of_getElem? (i := 5) rfl)) (hw _ (List.mem_of_getElem? (i := 6) rfl)) (hw _ (List.mem_of_getElem? (i := 7) rfl)) e7q (g := (mkF m 146 #[.val (.int p0), .val (.int p1), .val (.int p2), .val (.int p3), .val (.int p4), .val (.int d0), .val (.int d1), .val (.int d2), .val (.int d3), .val (.int (p0 &&& (7 : Int32))), .unset, .val (.int (((p0 &&& (7 : Int32)) &&& (3 : Int32)) + (1 : Int32)))] [])) rfl (hb hby at_146) (by decide) (by decide)
          rw [← g107] at A107 D107 B107 st107
          have O107 := Obj.of A107 B107
          have CR109 := CHr.trans CR0 (CHr.ext E107 CR0.1)
          have sf109_fb107 := (Safe.ext E107 CR0.1 sf108_fb107)
          have F107_value : Fld Z h107 fb107 "java/lang/String" "value" "[B" .null := D107 (Or.inr (hw _ (List.mem_of_getElem? (i := 34) rfl))) (ty := (.array .byte)) (by decide)
          have F107_coder : Fld Z h107 fb107 "java/lang/String" "coder" "B" (.int (0 : Int32)) := D107 (Or.inr (hw _ (List.mem_of_getElem? (i := 32) rfl))) (ty := .byte) (by decide)
          have pre110 : ∀ t, Steps p.tables e below (T107.setTop (mkF m 149 #[.val (.int p0), .val (.int p1), .val (.int p2), .val (.int p3), .val (.int p4), .val (.int d0), .val (.int d1), .val (.int d2), .val (.int d3), .val (.int (p0 &&& (7 : Int32))), .unset, .val (.int (((p0 &&& (7 : Int32)) &&& (3 : Int32)) + (1 : Int32)))] [(.ref fb107)])) t → Steps p.tables e below (s₁.setTop (entryFrame m #[(.int p0), (.int p1), (.int p2), (.int p3), (.int p4)] maxLocals)) t := by
            intro t kk
            refine pre8 t ?_
            show Steps p.tables e below (T7.setTop (mkF m 23 #[.val (.int p0), .val (.int p1), .val (.int p2), .val (.int p3), .val (.int p4), .val (.int d0), .val (.int d1), .val (.int d2), .unset, .unset, .unset, .unset] [(.int d3)])) _
            refine XS.istore X7.here hx rfl (hb hby at_23) rfl (l' := #[.val (.int p0), .val (.int p1), .val (.int p2), .val (.int p3), .val (.int p4), .val (.int d0), .val (.int d1), .val (.int d2), .val (.int d3), .unset, .unset, .unset]) rfl ?_
            show Steps p.tables e below (T7.setTop (mkF m 25 #[.val (.int p0), .val (.int p1), .val (.int p2), .val (.int p3), .val (.int p4), .val (.int d0), .val (.int d1), .val (.int d2), .val (.int d3), .unset, .unset, .unset] [])) _
            refine XS.iloadN X7.here hx rfl (hb hby at_25) rfl ?_
            show Steps p.tables e below (T7.setTop (mkF m 26 #[.val (.int p0), .val (.int p1), .val (.int p2), .val (.int p3), .val (.int p4), .val (.int d0), .val (.int d1), .val (.int d2), .val (.int d3), .unset, .unset, .unset] [(.int p0)])) _
            refine XS.bipush X7.here hx rfl (hb hby at_26) ?_
            show Steps p.tables e below (T7.setTop (mkF m 28 #[.val (.int p0), .val (.int p1), .val (.int p2), .val (.int p3), .val (.int p4), .val (.int d0), .val (.int d1), .val (.int d2), .val (.int d3), .unset, .unset, .unset] [(.int (7 : Int32)), (.int p0)])) _
            refine XS.iand X7.here hx rfl (hb hby at_28) rfl ?_
            show Steps p.tables e below (T7.setTop (mkF m 29 #[.val (.int p0), .val (.int p1), .val (.int p2), .val (.int p3), .val (.int p4), .val (.int d0), .val (.int d1), .val (.int d2), .val (.int d3), .unset, .unset, .unset] [(.int (p0 &&& (7 : Int32)))])) _
            refine XS.istore X7.here hx rfl (hb hby at_29) rfl (l' := #[.val (.int p0), .val (.int p1), .val (.int p2), .val (.int p3), .val (.int p4), .val (.int d0), .val (.int d1), .val (.int d2), .val (.int d3), .val (.int (p0 &&& (7 : Int32))), .unset, .unset]) rfl ?_
            show Steps p.tables e below (T7.setTop (mkF m 31 #[.val (.int p0), .val (.int p1), .val (.int p2), .val (.int p3), .val (.int p4), .val (.int d0), .val (.int d1), .val (.int d2), .val (.int d3), .val (.int (p0 &&& (7 : Int32))), .unset, .unset] [])) _
            refine XS.iload X7.here hx rfl (hb hby at_31) rfl ?_
            show Steps p.tables e below (T7.setTop (mkF m 33 #[.val (.int p0), .val (.int p1), .val (.int p2), .val (.int p3), .val (.int p4), .val (.int d0), .val (.int d1), .val (.int d2), .val (.int d3), .val (.int (p0 &&& (7 : Int32))), .unset, .unset] [(.int (p0 &&& (7 : Int32)))])) _
            refine XS.bipush X7.here hx rfl (hb hby at_33) ?_
            show Steps p.tables e below (T7.setTop (mkF m 35 #[.val (.int p0), .val (.int p1), .val (.int p2), .val (.int p3), .val (.int p4), .val (.int d0), .val (.int d1), .val (.int d2), .val (.int d3), .val (.int (p0 &&& (7 : Int32))), .unset, .unset] [(.int (7 : Int32)), (.int (p0 &&& (7 : Int32)))])) _
            refine XS.icmpYes X7.here hx rfl (pc0 := 35) (pc' := 45) rfl (hb hby at_35) rfl (feq hsel).2 (by decide) (by decide) ?_
            show Steps p.tables e below (T7.setTop (mkF m 45 #[.val (.int p0), .val (.int p1), .val (.int p2), .val (.int p3), .val (.int p4), .val (.int d0), .val (.int d1), .val (.int d2), .val (.int d3), .val (.int (p0 &&& (7 : Int32))), .unset, .unset] [])) _
            refine XS.iload X7.here hx rfl (hb hby at_45) rfl ?_
            show Steps p.tables e below (T7.setTop (mkF m 47 #[.val (.int p0), .val (.int p1), .val (.int p2), .val (.int p3), .val (.int p4), .val (.int d0), .val (.int d1), .val (.int d2), .val (.int d3), .val (.int (p0 &&& (7 : Int32))), .unset, .unset] [(.int (p0 &&& (7 : Int32)))])) _
            refine XS.iconst X7.here hx rfl (hb hby at_47) ?_
            show Steps p.tables e below (T7.setTop (mkF m 48 #[.val (.int p0), .val (.int p1), .val (.int p2), .val (.int p3), .val (.int p4), .val (.int d0), .val (.int d1), .val (.int d2), .val (.int d3), .val (.int (p0 &&& (7 : Int32))), .unset, .unset] [(.int (3 : Int32)), (.int (p0 &&& (7 : Int32)))])) _
            refine XS.iand X7.here hx rfl (hb hby at_48) rfl ?_
            show Steps p.tables e below (T7.setTop (mkF m 49 #[.val (.int p0), .val (.int p1), .val (.int p2), .val (.int p3), .val (.int p4), .val (.int d0), .val (.int d1), .val (.int d2), .val (.int d3), .val (.int (p0 &&& (7 : Int32))), .unset, .unset] [(.int ((p0 &&& (7 : Int32)) &&& (3 : Int32)))])) _
            refine XS.iconst X7.here hx rfl (hb hby at_49) ?_
            show Steps p.tables e below (T7.setTop (mkF m 50 #[.val (.int p0), .val (.int p1), .val (.int p2), .val (.int p3), .val (.int p4), .val (.int d0), .val (.int d1), .val (.int d2), .val (.int d3), .val (.int (p0 &&& (7 : Int32))), .unset, .unset] [(.int (1 : Int32)), (.int ((p0 &&& (7 : Int32)) &&& (3 : Int32)))])) _
            refine XS.iadd X7.here hx rfl (hb hby at_50) rfl ?_
            show Steps p.tables e below (T7.setTop (mkF m 51 #[.val (.int p0), .val (.int p1), .val (.int p2), .val (.int p3), .val (.int p4), .val (.int d0), .val (.int d1), .val (.int d2), .val (.int d3), .val (.int (p0 &&& (7 : Int32))), .unset, .unset] [(.int (((p0 &&& (7 : Int32)) &&& (3 : Int32)) + (1 : Int32)))])) _
            refine XS.istore X7.here hx rfl (hb hby at_51) rfl (l' := #[.val (.int p0), .val (.int p1), .val (.int p2), .val (.int p3), .val (.int p4), .val (.int d0), .val (.int d1), .val (.int d2), .val (.int d3), .val (.int (p0 &&& (7 : Int32))), .unset, .val (.int (((p0 &&& (7 : Int32)) &&& (3 : Int32)) + (1 : Int32)))]) rfl ?_
            show Steps p.tables e below (T7.setTop (mkF m 53 #[.val (.int p0), .val (.int p1), .val (.int p2), .val (.int p3), .val (.int p4), .val (.int d0), .val (.int d1), .val (.int d2), .val (.int d3), .val (.int (p0 &&& (7 : Int32))), .unset, .val (.int (((p0 &&& (7 : Int32)) &&& (3 : Int32)) + (1 : Int32)))] [])) _
            refine XS.iload X7.here hx rfl (hb hby at_53) rfl ?_
            show Steps p.tables e below (T7.setTop (mkF m 55 #[.val (.int p0), .val (.int p1), .val (.int p2), .val (.int p3), .val (.int p4), .val (.int d0), .val (.int d1), .val (.int d2), .val (.int d3), .val (.int (p0 &&& (7 : Int32))), .unset, .val (.int (((p0 &&& (7 : Int32)) &&& (3 : Int32)) + (1 : Int32)))] [(.int (((p0 &&& (7 : Int32)) &&& (3 : Int32)) + (1 : Int32)))])) _
            refine XS.iconst X7.here hx rfl (hb hby at_55) ?_
            show Steps p.tables e below (T7.setTop (mkF m 56 #[.val (.int p0), .val (.int p1), .val (.int p2), .val (.int p3), .val (.int p4), .val (.int d0), .val (.int d1), .val (.int d2), .val (.int d3), .val (.int (p0 &&& (7 : Int32))), .unset, .val (.int (((p0 &&& (7 : Int32)) &&& (3 : Int32)) + (1 : Int32)))] [(.int (1 : Int32)), (.int (((p0 &&& (7 : Int32)) &&& (3 : Int32)) + (1 : Int32)))])) _
            refine XS.icmpYes X7.here hx rfl (pc0 := 56) (pc' := 79) rfl (hb hby at_56) rfl (feq hn1).2 (by decide) (by decide) ?_
            show Steps p.tables e below (T7.setTop (mkF m 79 #[.val (.int p0), .val (.int p1), .val (.int p2), .val (.int p3), .val (.int p4), .val (.int d0), .val (.int d1), .val (.int d2), .val (.int d3), .val (.int (p0 &&& (7 : Int32))), .unset, .val (.int (((p0 &&& (7 : Int32)) &&& (3 : Int32)) + (1 : Int32)))] [])) _
            refine XS.iload X7.here hx rfl (hb hby at_79) rfl ?_
            show Steps p.tables e below (T7.setTop (mkF m 81 #[.val (.int p0), .val (.int p1), .val (.int p2), .val (.int p3), .val (.int p4), .val (.int d0), .val (.int d1), .val (.int d2), .val (.int d3), .val (.int (p0 &&& (7 : Int32))), .unset, .val (.int (((p0 &&& (7 : Int32)) &&& (3 : Int32)) + (1 : Int32)))] [(.int (((p0 &&& (7 : Int32)) &&& (3 : Int32)) + (1 : Int32)))])) _
            refine XS.iconst X7.here hx rfl (hb hby at_81) ?_
            show Steps p.tables e below (T7.setTop (mkF m 82 #[.val (.int p0), .val (.int p1), .val (.int p2), .val (.int p3), .val (.int p4), .val (.int d0), .val (.int d1), .val (.int d2), .val (.int d3), .val (.int (p0 &&& (7 : Int32))), .unset, .val (.int (((p0 &&& (7 : Int32)) &&& (3 : Int32)) + (1 : Int32)))] [(.int (2 : Int32)), (.int (((p0 &&& (7 : Int32)) &&& (3 : Int32)) + (1 : Int32)))])) _
            refine XS.icmpYes X7.here hx rfl (pc0 := 82) (pc' := 110) rfl (hb hby at_82) rfl (feq hn2).2 (by decide) (by decide) ?_
            show Steps p.tables e below (T7.setTop (mkF m 110 #[.val (.int p0), .val (.int p1), .val (.int p2), .val (.int p3), .val (.int p4), .val (.int d0), .val (.int d1), .val (.int d2), .val (.int d3), .val (.int (p0 &&& (7 : Int32))), .unset, .val (.int (((p0 &&& (7 : Int32)) &&& (3 : Int32)) + (1 : Int32)))] [])) _
            refine XS.iload X7.here hx rfl (hb hby at_110) rfl ?_
            show Steps p.tables e below (T7.setTop (mkF m 112 #[.val (.int p0), .val (.int p1), .val (.int p2), .val (.int p3), .val (.int p4), .val (.int d0), .val (.int d1), .val (.int d2), .val (.int d3), .val (.int (p0 &&& (7 : Int32))), .unset, .val (.int (((p0 &&& (7 : Int32)) &&& (3 : Int32)) + (1 : Int32)))] [(.int (((p0 &&& (7 : Int32)) &&& (3 : Int32)) + (1 : Int32)))])) _
            refine XS.iconst X7.here hx rfl (hb hby at_112) ?_
            show Steps p.tables e below (T7.setTop (mkF m 113 #[.val (.int p0), .val (.int p1), .val (.int p2), .val (.int p3), .val (.int p4), .val (.int d0), .val (.int d1), .val (.int d2), .val (.int d3), .val (.int (p0 &&& (7 : Int32))), .unset, .val (.int (((p0 &&& (7 : Int32)) &&& (3 : Int32)) + (1 : Int32)))] [(.int (3 : Int32)), (.int (((p0 &&& (7 : Int32)) &&& (3 : Int32)) + (1 : Int32)))])) _
            refine XS.icmpYes X7.here hx rfl (pc0 := 113) (pc' := 146) rfl (hb hby at_113) rfl (feq hn3).2 (by decide) (by decide) ?_
            show Steps p.tables e below (T7.setTop (mkF m 146 #[.val (.int p0), .val (.int p1), .val (.int p2), .val (.int p3), .val (.int p4), .val (.int d0), .val (.int d1), .val (.int d2), .val (.int d3), .val (.int (p0 &&& (7 : Int32))), .unset, .val (.int (((p0 &&& (7 : Int32)) &&& (3 : Int32)) + (1 : Int32)))] [])) _
            exact st107 _ kk
          obtain ⟨fb111, g111⟩ : ∃ z, z = h107.size := ⟨_, rfl⟩
          have ne_fb107_fb111 : fb107 ≠ fb111 := Nat.ne_of_lt (Nat.lt_of_lt_of_le O107.lt (Nat.le_of_eq g111.symm))
          have fc112 := (Nat.le_trans Z0 E107.1)
          have lo_fb111 : n0 ≤ fb111 := Nat.le_trans fc112 (Nat.le_of_eq g111.symm)
          have fc113 := ((Keep.refl h0 []).ext E107)
          have hi_fb111 : h0.size ≤ fb111 := Nat.le_trans fc113.1 (Nat.le_of_eq g111.symm)
          obtain ⟨T111, h111, k111, X111, e111, E111, A111, st111⟩ := newP X107 hx hZ (hw _ (List.mem_of_getElem? (i := 8) rfl)) e107 (g := (mkF m 151 #[.val (.int p0), .val (.int p1), .val (.int p2), .val (.int p3), .val (.int p4), .val (.int d0), .val (.int d1), .val (.int d2), .val (.int d3), .val (.int (p0 &&& (7 : Int32))), .unset, .val (.int (((p0 &&& (7 : Int32)) &&& (3 : Int32)) + (1 : Int32)))] [(.int (4 : Int32)), (.ref fb107), (.ref fb107)])) rfl (hb hby at_151) rfl (by decide) (cap := 4) (by decide) (by decide) (by decide) (by decide)
          rw [← g111] at A111 st111
          have V111 : Arv Z h111 fb111 k111 .char (4 : Int32) [(.int (0 : Int32)), (.int (0 : Int32)), (.int (0 : Int32)), (.int (0 : Int32))] (.int (0 : Int32)) := (Arv.new A111 (by decide)).pad (pad_rep [] (.int (0 : Int32)) 4)
          have CR114 := CHr.trans CR109 (CHr.ext E111 CR109.1)
          have sf114_fb107 := (Safe.ext E111 CR109.1 sf109_fb107)
          have pre115 : ∀ t, Steps p.tables e below (T111.setTop (mkF m 153 #[.val (.int p0), .val (.int p1), .val (.int p2), .val (.int p3), .val (.int p4), .val (.int d0), .val (.int d1), .val (.int d2), .val (.int d3), .val (.int (p0 &&& (7 : Int32))), .unset, .val (.int (((p0 &&& (7 : Int32)) &&& (3 : Int32)) + (1 : Int32)))] [(.ref fb111), (.ref fb107), (.ref fb107)])) t → Steps p.tables e below (s₁.setTop (entryFrame m #[(.int p0), (.int p1), (.int p2), (.int p3), (.int p4)] maxLocals)) t := by
            intro t kk
            refine pre110 t ?_
            show Steps p.tables e below (T107.setTop (mkF m 149 #[.val (.int p0), .val (.int p1), .val (.int p2), .val (.int p3), .val (.int p4), .val (.int d0), .val (.int d1), .val (.int d2), .val (.int d3), .val (.int (p0 &&& (7 : Int32))), .unset, .val (.int (((p0 &&& (7 : Int32)) &&& (3 : Int32)) + (1 : Int32)))] [(.ref fb107)])) _
            refine XS.dup X107.here hx rfl (hb hby at_149) rfl rfl ?_
            show Steps p.tables e below (T107.setTop (mkF m 150 #[.val (.int p0), .val (.int p1), .val (.int p2), .val (.int p3), .val (.int p4), .val (.int d0), .val (.int d1), .val (.int d2), .val (.int d3), .val (.int (p0 &&& (7 : Int32))), .unset, .val (.int (((p0 &&& (7 : Int32)) &&& (3 : Int32)) + (1 : Int32)))] [(.ref fb107), (.ref fb107)])) _
            refine XS.iconst X107.here hx rfl (hb hby at_150) ?_
            show Steps p.tables e below (T107.setTop (mkF m 151 #[.val (.int p0), .val (.int p1), .val (.int p2), .val (.int p3), .val (.int p4), .val (.int d0), .val (.int d1), .val (.int d2), .val (.int d3), .val (.int (p0 &&& (7 : Int32))), .unset, .val (.int (((p0 &&& (7 : Int32)) &&& (3 : Int32)) + (1 : Int32)))] [(.int (4 : Int32)), (.ref fb107), (.ref fb107)])) _
            exact st111 _ kk
          obtain ⟨cl116, Ar116, q116, S116, M116, H116, G116⟩ := id V111
          obtain ⟨T116, h116, X116, e116, W116, st116⟩ := stC X111 hx hZ e111 Ar116 (j := (0 : Int32)) (inb_of S116 ⟨(by decide), (by decide)⟩) (g := (mkF m 157 #[.val (.int p0), .val (.int p1), .val (.int p2), .val (.int p3), .val (.int p4), .val (.int d0), .val (.int d1), .val (.int d2), .val (.int d3), .val (.int (p0 &&& (7 : Int32))), .unset, .val (.int (((p0 &&& (7 : Int32)) &&& (3 : Int32)) + (1 : Int32)))] [(.int d0), (.int (0 : Int32)), (.ref fb111), (.ref fb111), (.ref fb107), (.ref fb107)])) rfl rfl (hb hby at_157)
          have V116 : Arv Z h116 fb111 k111 .char (4 : Int32) [(.int (nar .char d0)), (.int (0 : Int32)), (.int (0 : Int32)), (.int (0 : Int32))] (.int (0 : Int32)) := Arv.set Ar116 q116 S116 M116 H116 G116 (fits_nar_char _) W116 0 rfl (Nat.le_of_ble_eq_true rfl)
          have SA117 := (Safe.arv (EL := own_EL) hZ.alike V111 (by decide))
          have CR117 := CHr.trans CR114 (CHr.wr W116 SA117 CR114.1)
          have sf117_fb107 := (Safe.wr W116 SA117 CR114.1 sf114_fb107)
          have N116 := Fr.snoc X116 N7 lo_fb111
          have pre118 : ∀ t, Steps p.tables e below (T116.setTop (mkF m 158 #[.val (.int p0), .val (.int p1), .val (.int p2), .val (.int p3), .val (.int p4), .val (.int d0), .val (.int d1), .val (.int d2), .val (.int d3), .val (.int (p0 &&& (7 : Int32))), .unset, .val (.int (((p0 &&& (7 : Int32)) &&& (3 : Int32)) + (1 : Int32)))] [(.ref fb111), (.ref fb107), (.ref fb107)])) t → Steps p.tables e below (s₁.setTop (entryFrame m #[(.int p0), (.int p1), (.int p2), (.int p3), (.int p4)] maxLocals)) t := by
            intro t kk
            refine pre115 t ?_
            show Steps p.tables e below (T111.setTop (mkF m 153 #[.val (.int p0), .val (.int p1), .val (.int p2), .val (.int p3), .val (.int p4), .val (.int d0), .val (.int d1), .val (.int d2), .val (.int d3), .val (.int (p0 &&& (7 : Int32))), .unset, .val (.int (((p0 &&& (7 : Int32)) &&& (3 : Int32)) + (1 : Int32)))] [(.ref fb111), (.ref fb107), (.ref fb107)])) _
            refine XS.dup X111.here hx rfl (hb hby at_153) rfl rfl ?_
            show Steps p.tables e below (T111.setTop (mkF m 154 #[.val (.int p0), .val (.int p1), .val (.int p2), .val (.int p3), .val (.int p4), .val (.int d0), .val (.int d1), .val (.int d2), .val (.int d3), .val (.int (p0 &&& (7 : Int32))), .unset, .val (.int (((p0 &&& (7 : Int32)) &&& (3 : Int32)) + (1 : Int32)))] [(.ref fb111), (.ref fb111), (.ref fb107), (.ref fb107)])) _
            refine XS.iconst X111.here hx rfl (hb hby at_154) ?_
            show Steps p.tables e below (T111.setTop (mkF m 155 #[.val (.int p0), .val (.int p1), .val (.int p2), .val (.int p3), .val (.int p4), .val (.int d0), .val (.int d1), .val (.int d2), .val (.int d3), .val (.int (p0 &&& (7 : Int32))), .unset, .val (.int (((p0 &&& (7 : Int32)) &&& (3 : Int32)) + (1 : Int32)))] [(.int (0 : Int32)), (.ref fb111), (.ref fb111), (.ref fb107), (.ref fb107)])) _
            refine XS.iload X111.here hx rfl (hb hby at_155) rfl ?_
            show Steps p.tables e below (T111.setTop (mkF m 157 #[.val (.int p0), .val (.int p1), .val (.int p2), .val (.int p3), .val (.int p4), .val (.int d0), .val (.int d1), .val (.int d2), .val (.int d3), .val (.int (p0 &&& (7 : Int32))), .unset, .val (.int (((p0 &&& (7 : Int32)) &&& (3 : Int32)) + (1 : Int32)))] [(.int d0), (.int (0 : Int32)), (.ref fb111), (.ref fb111), (.ref fb107), (.ref fb107)])) _
            exact st116 _ kk
          obtain ⟨cl119, Ar119, q119, S119, M119, H119, G119⟩ := id V116
          obtain ⟨T119, h119, X119, e119, W119, st119⟩ := stC X116 hx hZ e116 Ar119 (j := (1 : Int32)) (inb_of S119 ⟨(by decide), (by decide)⟩) (g := (mkF m 162 #[.val (.int p0), .val (.int p1), .val (.int p2), .val (.int p3), .val (.int p4), .val (.int d0), .val (.int d1), .val (.int d2), .val (.int d3), .val (.int (p0 &&& (7 : Int32))), .unset, .val (.int (((p0 &&& (7 : Int32)) &&& (3 : Int32)) + (1 : Int32)))] [(.int d1), (.int (1 : Int32)), (.ref fb111), (.ref fb111), (.ref fb107), (.ref fb107)])) rfl rfl (hb hby at_162)
          have V119 : Arv Z h119 fb111 k111 .char (4 : Int32) [(.int (nar .char d0)), (.int (nar .char d1)), (.int (0 : Int32)), (.int (0 : Int32))] (.int (0 : Int32)) := Arv.set Ar119 q119 S119 M119 H119 G119 (fits_nar_char _) W119 1 rfl (Nat.le_of_ble_eq_true rfl)
          have SA120 := (Safe.arv (EL := own_EL) hZ.alike V116 (by decide))
          have CR120 := CHr.trans CR117 (CHr.wr W119 SA120 CR117.1)
          have sf120_fb107 := (Safe.wr W119 SA120 CR117.1 sf117_fb107)
          have N119 := Fr.snoc X119 N116 lo_fb111
          have pre121 : ∀ t, Steps p.tables e below (T119.setTop (mkF m 163 #[.val (.int p0), .val (.int p1), .val (.int p2), .val (.int p3), .val (.int p4), .val (.int d0), .val (.int d1), .val (.int d2), .val (.int d3), .val (.int (p0 &&& (7 : Int32))), .unset, .val (.int (((p0 &&& (7 : Int32)) &&& (3 : Int32)) + (1 : Int32)))] [(.ref fb111), (.ref fb107), (.ref fb107)])) t → Steps p.tables e below (s₁.setTop (entryFrame m #[(.int p0), (.int p1), (.int p2), (.int p3), (.int p4)] maxLocals)) t := by
            intro t kk
            refine pre118 t ?_
            show Steps p.tables e below (T116.setTop (mkF m 158 #[.val (.int p0), .val (.int p1), .val (.int p2), .val (.int p3), .val (.int p4), .val (.int d0), .val (.int d1), .val (.int d2), .val (.int d3), .val (.int (p0 &&& (7 : Int32))), .unset, .val (.int (((p0 &&& (7 : Int32)) &&& (3 : Int32)) + (1 : Int32)))] [(.ref fb111), (.ref fb107), (.ref fb107)])) _
            refine XS.dup X116.here hx rfl (hb hby at_158) rfl rfl ?_
            show Steps p.tables e below (T116.setTop (mkF m 159 #[.val (.int p0), .val (.int p1), .val (.int p2), .val (.int p3), .val (.int p4), .val (.int d0), .val (.int d1), .val (.int d2), .val (.int d3), .val (.int (p0 &&& (7 : Int32))), .unset, .val (.int (((p0 &&& (7 : Int32)) &&& (3 : Int32)) + (1 : Int32)))] [(.ref fb111), (.ref fb111), (.ref fb107), (.ref fb107)])) _
            refine XS.iconst X116.here hx rfl (hb hby at_159) ?_
            show Steps p.tables e below (T116.setTop (mkF m 160 #[.val (.int p0), .val (.int p1), .val (.int p2), .val (.int p3), .val (.int p4), .val (.int d0), .val (.int d1), .val (.int d2), .val (.int d3), .val (.int (p0 &&& (7 : Int32))), .unset, .val (.int (((p0 &&& (7 : Int32)) &&& (3 : Int32)) + (1 : Int32)))] [(.int (1 : Int32)), (.ref fb111), (.ref fb111), (.ref fb107), (.ref fb107)])) _
            refine XS.iload X116.here hx rfl (hb hby at_160) rfl ?_
            show Steps p.tables e below (T116.setTop (mkF m 162 #[.val (.int p0), .val (.int p1), .val (.int p2), .val (.int p3), .val (.int p4), .val (.int d0), .val (.int d1), .val (.int d2), .val (.int d3), .val (.int (p0 &&& (7 : Int32))), .unset, .val (.int (((p0 &&& (7 : Int32)) &&& (3 : Int32)) + (1 : Int32)))] [(.int d1), (.int (1 : Int32)), (.ref fb111), (.ref fb111), (.ref fb107), (.ref fb107)])) _
            exact st119 _ kk
          obtain ⟨cl122, Ar122, q122, S122, M122, H122, G122⟩ := id V119
          obtain ⟨T122, h122, X122, e122, W122, st122⟩ := stC X119 hx hZ e119 Ar122 (j := (2 : Int32)) (inb_of S122 ⟨(by decide), (by decide)⟩) (g := (mkF m 167 #[.val (.int p0), .val (.int p1), .val (.int p2), .val (.int p3), .val (.int p4), .val (.int d0), .val (.int d1), .val (.int d2), .val (.int d3), .val (.int (p0 &&& (7 : Int32))), .unset, .val (.int (((p0 &&& (7 : Int32)) &&& (3 : Int32)) + (1 : Int32)))] [(.int d2), (.int (2 : Int32)), (.ref fb111), (.ref fb111), (.ref fb107), (.ref fb107)])) rfl rfl (hb hby at_167)
          have V122 : Arv Z h122 fb111 k111 .char (4 : Int32) [(.int (nar .char d0)), (.int (nar .char d1)), (.int (nar .char d2)), (.int (0 : Int32))] (.int (0 : Int32)) := Arv.set Ar122 q122 S122 M122 H122 G122 (fits_nar_char _) W122 2 rfl (Nat.le_of_ble_eq_true rfl)
          have SA123 := (Safe.arv (EL := own_EL) hZ.alike V119 (by decide))
          have CR123 := CHr.trans CR120 (CHr.wr W122 SA123 CR120.1)
          have sf123_fb107 := (Safe.wr W122 SA123 CR120.1 sf120_fb107)
          have N122 := Fr.snoc X122 N119 lo_fb111
          have pre124 : ∀ t, Steps p.tables e below (T122.setTop (mkF m 168 #[.val (.int p0), .val (.int p1), .val (.int p2), .val (.int p3), .val (.int p4), .val (.int d0), .val (.int d1), .val (.int d2), .val (.int d3), .val (.int (p0 &&& (7 : Int32))), .unset, .val (.int (((p0 &&& (7 : Int32)) &&& (3 : Int32)) + (1 : Int32)))] [(.ref fb111), (.ref fb107), (.ref fb107)])) t → Steps p.tables e below (s₁.setTop (entryFrame m #[(.int p0), (.int p1), (.int p2), (.int p3), (.int p4)] maxLocals)) t := by
            intro t kk
            refine pre121 t ?_
            show Steps p.tables e below (T119.setTop (mkF m 163 #[.val (.int p0), .val (.int p1), .val (.int p2), .val (.int p3), .val (.int p4), .val (.int d0), .val (.int d1), .val (.int d2), .val (.int d3), .val (.int (p0 &&& (7 : Int32))), .unset, .val (.int (((p0 &&& (7 : Int32)) &&& (3 : Int32)) + (1 : Int32)))] [(.ref fb111), (.ref fb107), (.ref fb107)])) _
            refine XS.dup X119.here hx rfl (hb hby at_163) rfl rfl ?_
            show Steps p.tables e below (T119.setTop (mkF m 164 #[.val (.int p0), .val (.int p1), .val (.int p2), .val (.int p3), .val (.int p4), .val (.int d0), .val (.int d1), .val (.int d2), .val (.int d3), .val (.int (p0 &&& (7 : Int32))), .unset, .val (.int (((p0 &&& (7 : Int32)) &&& (3 : Int32)) + (1 : Int32)))] [(.ref fb111), (.ref fb111), (.ref fb107), (.ref fb107)])) _
            refine XS.iconst X119.here hx rfl (hb hby at_164) ?_
            show Steps p.tables e below (T119.setTop (mkF m 165 #[.val (.int p0), .val (.int p1), .val (.int p2), .val (.int p3), .val (.int p4), .val (.int d0), .val (.int d1), .val (.int d2), .val (.int d3), .val (.int (p0 &&& (7 : Int32))), .unset, .val (.int (((p0 &&& (7 : Int32)) &&& (3 : Int32)) + (1 : Int32)))] [(.int (2 : Int32)), (.ref fb111), (.ref fb111), (.ref fb107), (.ref fb107)])) _
            refine XS.iload X119.here hx rfl (hb hby at_165) rfl ?_
            show Steps p.tables e below (T119.setTop (mkF m 167 #[.val (.int p0), .val (.int p1), .val (.int p2), .val (.int p3), .val (.int p4), .val (.int d0), .val (.int d1), .val (.int d2), .val (.int d3), .val (.int (p0 &&& (7 : Int32))), .unset, .val (.int (((p0 &&& (7 : Int32)) &&& (3 : Int32)) + (1 : Int32)))] [(.int d2), (.int (2 : Int32)), (.ref fb111), (.ref fb111), (.ref fb107), (.ref fb107)])) _
            exact st122 _ kk
          obtain ⟨cl125, Ar125, q125, S125, M125, H125, G125⟩ := id V122
          obtain ⟨T125, h125, X125, e125, W125, st125⟩ := stC X122 hx hZ e122 Ar125 (j := (3 : Int32)) (inb_of S125 ⟨(by decide), (by decide)⟩) (g := (mkF m 172 #[.val (.int p0), .val (.int p1), .val (.int p2), .val (.int p3), .val (.int p4), .val (.int d0), .val (.int d1), .val (.int d2), .val (.int d3), .val (.int (p0 &&& (7 : Int32))), .unset, .val (.int (((p0 &&& (7 : Int32)) &&& (3 : Int32)) + (1 : Int32)))] [(.int d3), (.int (3 : Int32)), (.ref fb111), (.ref fb111), (.ref fb107), (.ref fb107)])) rfl rfl (hb hby at_172)
          have V125 : Arv Z h125 fb111 k111 .char (4 : Int32) [(.int (nar .char d0)), (.int (nar .char d1)), (.int (nar .char d2)), (.int (nar .char d3))] (.int (0 : Int32)) := Arv.set Ar125 q125 S125 M125 H125 G125 (fits_nar_char _) W125 3 rfl (Nat.le_of_ble_eq_true rfl)
          have SA126 := (Safe.arv (EL := own_EL) hZ.alike V122 (by decide))
          have CR126 := CHr.trans CR123 (CHr.wr W125 SA126 CR123.1)
          have sf126_fb107 := (Safe.wr W125 SA126 CR123.1 sf123_fb107)
          have N125 := Fr.snoc X125 N122 lo_fb111
          have pre127 : ∀ t, Steps p.tables e below (T125.setTop (mkF m 173 #[.val (.int p0), .val (.int p1), .val (.int p2), .val (.int p3), .val (.int p4), .val (.int d0), .val (.int d1), .val (.int d2), .val (.int d3), .val (.int (p0 &&& (7 : Int32))), .unset, .val (.int (((p0 &&& (7 : Int32)) &&& (3 : Int32)) + (1 : Int32)))] [(.ref fb111), (.ref fb107), (.ref fb107)])) t → Steps p.tables e below (s₁.setTop (entryFrame m #[(.int p0), (.int p1), (.int p2), (.int p3), (.int p4)] maxLocals)) t := by
            intro t kk
            refine pre124 t ?_
            show Steps p.tables e below (T122.setTop (mkF m 168 #[.val (.int p0), .val (.int p1), .val (.int p2), .val (.int p3), .val (.int p4), .val (.int d0), .val (.int d1), .val (.int d2), .val (.int d3), .val (.int (p0 &&& (7 : Int32))), .unset, .val (.int (((p0 &&& (7 : Int32)) &&& (3 : Int32)) + (1 : Int32)))] [(.ref fb111), (.ref fb107), (.ref fb107)])) _
            refine XS.dup X122.here hx rfl (hb hby at_168) rfl rfl ?_
            show Steps p.tables e below (T122.setTop (mkF m 169 #[.val (.int p0), .val (.int p1), .val (.int p2), .val (.int p3), .val (.int p4), .val (.int d0), .val (.int d1), .val (.int d2), .val (.int d3), .val (.int (p0 &&& (7 : Int32))), .unset, .val (.int (((p0 &&& (7 : Int32)) &&& (3 : Int32)) + (1 : Int32)))] [(.ref fb111), (.ref fb111), (.ref fb107), (.ref fb107)])) _
            refine XS.iconst X122.here hx rfl (hb hby at_169) ?_
            show Steps p.tables e below (T122.setTop (mkF m 170 #[.val (.int p0), .val (.int p1), .val (.int p2), .val (.int p3), .val (.int p4), .val (.int d0), .val (.int d1), .val (.int d2), .val (.int d3), .val (.int (p0 &&& (7 : Int32))), .unset, .val (.int (((p0 &&& (7 : Int32)) &&& (3 : Int32)) + (1 : Int32)))] [(.int (3 : Int32)), (.ref fb111), (.ref fb111), (.ref fb107), (.ref fb107)])) _
            refine XS.iload X122.here hx rfl (hb hby at_170) rfl ?_
            show Steps p.tables e below (T122.setTop (mkF m 172 #[.val (.int p0), .val (.int p1), .val (.int p2), .val (.int p3), .val (.int p4), .val (.int d0), .val (.int d1), .val (.int d2), .val (.int d3), .val (.int (p0 &&& (7 : Int32))), .unset, .val (.int (((p0 &&& (7 : Int32)) &&& (3 : Int32)) + (1 : Int32)))] [(.int d3), (.int (3 : Int32)), (.ref fb111), (.ref fb111), (.ref fb107), (.ref fb107)])) _
            exact st125 _ kk
          have fc128 := (((((O107.ext E111).wr W116).wr W119).wr W122).wr W125)
          have fc129 := (((((F107_value.ext E111).other W116 (Or.inl ne_fb107_fb111)).other W119 (Or.inl ne_fb107_fb111)).other W122 (Or.inl ne_fb107_fb111)).other W125 (Or.inl ne_fb107_fb111))
          have fc130 := (((((F107_coder.ext E111).other W116 (Or.inl ne_fb107_fb111)).other W119 (Or.inl ne_fb107_fb111)).other W122 (Or.inl ne_fb107_fb111)).other W125 (Or.inl ne_fb107_fb111))
          have fc131 := ((((((XO.ext E107).ext E111).wr W116 lo_fb111).wr W119 lo_fb111).wr W122 lo_fb111).wr W125 lo_fb111)
          have fc133 := (Nat.le_trans (Nat.le_trans (Nat.le_trans (Nat.le_trans (Nat.le_trans fc112 E111.1) (Keep.of_wr W116).1) (Keep.of_wr W119).1) (Keep.of_wr W122).1) (Keep.of_wr W125).1)
          obtain ⟨_, _, ⟨T132, L132, k132, n132⟩, -, X132, ⟨Lc132, hQ132, l132, y132, z132⟩, st132⟩ := X125.specialBack hx (y := (⟨"java/lang/String", "<init>", "([C)V"⟩ : MethodName)) rfl hown (mvT hZ (hw _ (List.mem_of_getElem? (i := 9) rfl))) (mvT hZ (hw _ (List.mem_of_getElem? (i := 10) rfl))) (mvT hZ (hw _ (List.mem_of_getElem? (i := 11) rfl))) (by decide) (StrChars.Road.backV (W := 1) hZ hws (kI := 4) (hw _ (List.mem_of_getElem? (i := 6) rfl)) (cs := ([(nar .char d0), (nar .char d1), (nar .char d2), (nar .char d3)] : List Int32)) (bs := ([(nar .char d0), (nar .char d1), (nar .char d2), (nar .char d3)] : List Int32).map (fun c => c.toInt8.toInt32)) (n := 4) lo_fb107 fc133 fc128.exa fc129 fc130 V125 (O2.ext fc131.2) P5 rfl rfl (by decide) (by decide) (own_okLt (own_okc (own_okn hd0) (own_okc (own_okn hd1) (own_okc (own_okn hd2) (own_okc (own_okn hd3) own_ok0))))) rfl (by decide) (by decide)) (g := (mkF m 173 #[.val (.int p0), .val (.int p1), .val (.int p2), .val (.int p3), .val (.int p4), .val (.int d0), .val (.int d1), .val (.int d2), .val (.int d3), .val (.int (p0 &&& (7 : Int32))), .unset, .val (.int (((p0 &&& (7 : Int32)) &&& (3 : Int32)) + (1 : Int32)))] [(.ref fb111), (.ref fb107), (.ref fb107)])) rfl (by rw [hml]; rfl) (Steps.refl _) (a := fb107) (argsL := [(.ref fb111)]) (rest := [(.ref fb107)]) (lenOf pd___C_V rfl) rfl (by show 2 * 0 + _ ≤ _; exact Nat.le_of_eq rfl) (hb hby at_173) (fun _ _ => ⟨rfl, e125, (by decide : 2 + 1 ≤ _), (by decide : 8 + 4 ≤ _)⟩)
          dsimp only [Pt.U, Pt.locs, Pt.cells, Pt.slots] at X132 l132 y132 z132 st132 hQ132
          subst l132 y132 z132
          obtain ⟨rfl, N132q, K132, Ex132, Fc132, t132, kb132, u132, lo132, ne132, Fv132, Vt132⟩ := hQ132
          have N132 := Fr.app N125 N132q
          have SA134 : ∀ y ∈ [fb107], Safe Z own_EL _ _ y := (sfS sf126_fb107 sf0)
          have CR134 := CHr.trans CR126 (CHr.keep K132 SA134 CR126.1)
          have sf134_fb107 := (Safe.keep K132 SA134 CR126.1 sf126_fb107)
          have pre135 : ∀ t, Steps p.tables e below (T132.setTop (mkF m 176 #[.val (.int p0), .val (.int p1), .val (.int p2), .val (.int p3), .val (.int p4), .val (.int d0), .val (.int d1), .val (.int d2), .val (.int d3), .val (.int (p0 &&& (7 : Int32))), .unset, .val (.int (((p0 &&& (7 : Int32)) &&& (3 : Int32)) + (1 : Int32)))] [(.ref fb107)])) t → Steps p.tables e below (s₁.setTop (entryFrame m #[(.int p0), (.int p1), (.int p2), (.int p3), (.int p4)] maxLocals)) t := by
            intro t kk
            refine pre127 t ?_
            show Steps p.tables e below (T125.setTop (mkF m 173 #[.val (.int p0), .val (.int p1), .val (.int p2), .val (.int p3), .val (.int p4), .val (.int d0), .val (.int d1), .val (.int d2), .val (.int d3), .val (.int (p0 &&& (7 : Int32))), .unset, .val (.int (((p0 &&& (7 : Int32)) &&& (3 : Int32)) + (1 : Int32)))] [(.ref fb111), (.ref fb107), (.ref fb107)])) _
            exact st132.trans kk
          have ne_fb111_t132 : fb111 ≠ t132 := Nat.ne_of_lt (Nat.lt_of_lt_of_le V125.lt lo132)
          have fc136 := (fc128.keep K132)
          have fc137 := (fc131.keep K132 (allS lo_fb107 all0))
          have pre138 : ∀ t, Steps p.tables e below (T132.setTop (mkF m 180 #[.val (.int p0), .val (.int p1), .val (.int p2), .val (.int p3), .val (.int p4), .val (.int d0), .val (.int d1), .val (.int d2), .val (.int d3), .val (.int (p0 &&& (7 : Int32))), .val (.ref fb107), .val (.int (((p0 &&& (7 : Int32)) &&& (3 : Int32)) + (1 : Int32)))] [(.ref fb107)])) t → Steps p.tables e below (s₁.setTop (entryFrame m #[(.int p0), (.int p1), (.int p2), (.int p3), (.int p4)] maxLocals)) t := by
            intro t kk
            refine pre135 t ?_
            show Steps p.tables e below (T132.setTop (mkF m 176 #[.val (.int p0), .val (.int p1), .val (.int p2), .val (.int p3), .val (.int p4), .val (.int d0), .val (.int d1), .val (.int d2), .val (.int d3), .val (.int (p0 &&& (7 : Int32))), .unset, .val (.int (((p0 &&& (7 : Int32)) &&& (3 : Int32)) + (1 : Int32)))] [(.ref fb107)])) _
            refine XS.astore X132.here hx rfl (hb hby at_176) rfl rfl (l' := #[.val (.int p0), .val (.int p1), .val (.int p2), .val (.int p3), .val (.int p4), .val (.int d0), .val (.int d1), .val (.int d2), .val (.int d3), .val (.int (p0 &&& (7 : Int32))), .val (.ref fb107), .val (.int (((p0 &&& (7 : Int32)) &&& (3 : Int32)) + (1 : Int32)))]) rfl ?_
            show Steps p.tables e below (T132.setTop (mkF m 178 #[.val (.int p0), .val (.int p1), .val (.int p2), .val (.int p3), .val (.int p4), .val (.int d0), .val (.int d1), .val (.int d2), .val (.int d3), .val (.int (p0 &&& (7 : Int32))), .val (.ref fb107), .val (.int (((p0 &&& (7 : Int32)) &&& (3 : Int32)) + (1 : Int32)))] [])) _
            refine XS.aload X132.here hx rfl (hb hby at_178) rfl rfl ?_
            exact kk
          have fc140 := (Nat.le_trans fc133 K132.1)
          obtain ⟨_, _, ⟨T139, L139, k139, n139⟩, -, X139w, hS139w, gr139, ⟨Lc139, hQ139, l139, y139, z139, CQ139⟩, st139⟩ := callSS X132 hx (y := (⟨"com/example/deadline/deadline/Timer", "checkId", "(Ljava/lang/String;)V"⟩ : MethodName)) hown (mvT hZ (hw _ (List.mem_of_getElem? (i := 35) rfl))) (mvT hZ (hw _ (List.mem_of_getElem? (i := 36) rfl))) (mvT hZ (hw _ (List.mem_of_getElem? (i := 37) rfl))) (mvT hZ (hw _ (List.mem_of_getElem? (i := 38) rfl))) (by decide) (backOfSH (W := 0) (own_chk l Z a0 hw [] fb107 t132 kb132 [(nar .char d0), (nar .char d1), (nar .char d2), (nar .char d3)] G1 G3 T132.heap n0 fc140 fc136.exa Fv132 Fc132 Vt132 (own_okLt (own_okc (own_okn hd0) (own_okc (own_okn hd1) (own_okc (own_okn hd2) (own_okc (own_okn hd3) own_ok0))))) (own_okL (own_okc (own_okn hd0) (own_okc (own_okn hd1) (own_okc (own_okn hd2) (own_okc (own_okn hd3) own_ok0))))) (Nat.le_of_ble_eq_true rfl) (Nat.le_of_ble_eq_true rfl) (Nat.le_trans (own_cntL _ _) (Nat.le_of_ble_eq_true rfl)) O2 P5 O4 rG3 fc137) hZ (hw _ (List.mem_of_getElem? (i := 38) rfl)) (hw _ (List.mem_of_getElem? (i := 37) rfl)) (by decide) (by decide) hEL CR134.1) (g := (mkF m 180 #[.val (.int p0), .val (.int p1), .val (.int p2), .val (.int p3), .val (.int p4), .val (.int d0), .val (.int d1), .val (.int d2), .val (.int d3), .val (.int (p0 &&& (7 : Int32))), .val (.ref fb107), .val (.int (((p0 &&& (7 : Int32)) &&& (3 : Int32)) + (1 : Int32)))] [(.ref fb107)])) rfl (by rw [hml]; rfl) (argsL := [(.ref fb107)]) (rest := []) (lenOf pd__Ljava_lang_String__V rfl) rfl (by show 2 * 0 + _ ≤ _; exact Nat.le_of_eq rfl) (hb hby at_180) (fun _ _ => ⟨rfl, rfl, (by decide : 3 + 10 ≤ _), (by decide : 12 + 92 ≤ _)⟩)
          dsimp only [Pt.U, Pt.locs, Pt.cells, Pt.slots] at X139w hS139w gr139 l139 y139 z139 st139 hQ139 CQ139
          subst l139 y139 z139
          obtain ⟨rfl, N139q, K139⟩ := hQ139
          have N139 := Fr.app N132 N139q
          have fc141 := (Nat.le_trans (Nat.le_trans (Nat.le_trans (Nat.le_trans (Nat.le_trans (Nat.le_trans (Nat.le_trans hk0 E107.1) E111.1) (Keep.of_wr W116).1) (Keep.of_wr W119).1) (Keep.of_wr W122).1) (Keep.of_wr W125).1) K132.1)
          obtain ⟨X139, hS139, hZ, hown⟩ := rebS hS0 fc141 X139w hS139w gr139 hZ hown
          have hk139 : T139.heap.size ≤ T139.heap.size := Nat.le_refl _
          have sf139_fb107 := CQ139.safe fc136.lt sf134_fb107
          have CR139 := CHr.trans CR134 CQ139
          have pre142 : ∀ t, Steps p.tables e below (T139.setTop (mkF m 183 #[.val (.int p0), .val (.int p1), .val (.int p2), .val (.int p3), .val (.int p4), .val (.int d0), .val (.int d1), .val (.int d2), .val (.int d3), .val (.int (p0 &&& (7 : Int32))), .val (.ref fb107), .val (.int (((p0 &&& (7 : Int32)) &&& (3 : Int32)) + (1 : Int32)))] [])) t → Steps p.tables e below (s₁.setTop (entryFrame m #[(.int p0), (.int p1), (.int p2), (.int p3), (.int p4)] maxLocals)) t := by
            intro t kk
            refine pre138 t ?_
            show Steps p.tables e below (T132.setTop (mkF m 180 #[.val (.int p0), .val (.int p1), .val (.int p2), .val (.int p3), .val (.int p4), .val (.int d0), .val (.int d1), .val (.int d2), .val (.int d3), .val (.int (p0 &&& (7 : Int32))), .val (.ref fb107), .val (.int (((p0 &&& (7 : Int32)) &&& (3 : Int32)) + (1 : Int32)))] [(.ref fb107)])) _
            exact st139.trans kk
          obtain ⟨fs, hr, hrun, hended, hRW⟩ := X139.leaveW hS139 hk139 (v := some (.int (1 : Int32))) (fun h => by rw [Bd.returns] at h; cases h)
          have CRe := CHr.trans CR139 (CHv.at X139 hZ hEL CR139.1)
          refine ⟨_, _, pre142 _ ?_, hrun, hended, _, _, rfl, ?_, ?_, hRW.1, hRW.2.1, hRW.2.2.1, hRW.2.2.2.mono (by decide) (by decide)⟩
          · show Steps p.tables e below (T139.setTop (mkF m 183 #[.val (.int p0), .val (.int p1), .val (.int p2), .val (.int p3), .val (.int p4), .val (.int d0), .val (.int d1), .val (.int d2), .val (.int d3), .val (.int (p0 &&& (7 : Int32))), .val (.ref fb107), .val (.int (((p0 &&& (7 : Int32)) &&& (3 : Int32)) + (1 : Int32)))] [])) _
            refine XS.iconst X139.here hx rfl (hb hby at_183) ?_
            show Steps p.tables e below (T139.setTop (mkF m 184 #[.val (.int p0), .val (.int p1), .val (.int p2), .val (.int p3), .val (.int p4), .val (.int d0), .val (.int d1), .val (.int d2), .val (.int d3), .val (.int (p0 &&& (7 : Int32))), .val (.ref fb107), .val (.int (((p0 &&& (7 : Int32)) &&& (3 : Int32)) + (1 : Int32)))] [(.int (1 : Int32))])) _
            exact retN X139 hx (t := .boolean) Bd.returns (by simp) (hb hby at_184) hr
          · show Q_own_law Z p0 p1 p2 p3 p4 G1 G3 h0 n0 _ T139.heap _
            exact ⟨rfl, N139⟩
          · show CHr Z own_EL s.vm s.heap T139.vm T139.heap
            rw [hh]
            exact CRe
set_option maxRecDepth 65536 in
set_option maxHeartbeats 40000000 in
theorem comes_1 {Post : Tables → Env → Array Value → State → Outcome → State → Prop} (hpost : ∀ tb e args s v u, (limb_1_1.after args s (.returned v) u = true ∧ limb_1_2.after args s (.returned v) u = true ∧ True) → ReturnedEndW s (.returned v) u (Jvm.fieldLocs frame_1_writes args s ++ Jvm.arrayLocs frame_1_arrays args s ++ Jvm.staticLocs frame_1_statics s) 24 3200 → Post tb e args s (.returned v) u) :
    ArmFor flags0 classFile x code maxLocals ret World_1 tables_1 room_1 Calls_1 rest_1 Pre_1 Post := by
  intro l hfl _ _ p e ha hc hk s m args below hf hA hF happ hP
  obtain ⟨hcalls, hrest, hpre⟩ := hP
  obtain ⟨-, -, -, hnamed, -, -, -, hat⟩ := (Spec.applies_iff hf).mp happ
  obtain ⟨hg, hn⟩ := and_e (Cond.before_iff.mp (show (Jvm.Cond.and given_1 narrow_1).before args s = true from hpre))
  obtain ⟨h1, u0⟩ := and_e hg
  obtain ⟨v0, u1⟩ := and_e u0
  obtain ⟨v1, u2⟩ := and_e u1
  obtain ⟨v2, u3⟩ := and_e u2
  obtain ⟨v3, u4⟩ := and_e u3
  obtain ⟨w0, w1, w2, w3, w4, rfl⟩ : ∃ w0 w1 w2 w3 w4 : Value, args = #[w0, w1, w2, w3, w4] := by
    have hs : args.size = 5 := by simpa [Cond.value, given_1] using h1
    obtain ⟨L⟩ := args
    match L, hs with
    | [w0, w1, w2, w3, w4], _ => exact ⟨w0, w1, w2, w3, w4, rfl⟩
  have hw := fun d (hd : d ∈ tables_1) => atoms_spec (ws := Jvm.Cond.code x code maxLocals ret :: tables_1) hat d (List.mem_cons_of_mem _ hd)
  obtain ⟨hsets, hown0⟩ := atoms_of _ (rest_1_c_eq ▸ (show rest_1_c.before _ s = true from hrest))
  have hfit : Fit s := fun {y c} hc i hi => by
    obtain ⟨ha, rfl⟩ := Array.getElem?_eq_some_iff.mp hc
    have q := List.all_eq_true.mp ((Array.all_eq_true_iff_forall_mem.mp hF) _ (Array.getElem_mem ha)) i (List.mem_range.mpr hi)
    simpa [Array.getElem?_eq_getElem hi] using q
  obtain ⟨i0, ei0⟩ := is_v v0
  obtain rfl : w0 = (.int i0) := Option.some.inj ei0
  obtain ⟨i1, ei1⟩ := is_v v1
  obtain rfl : w1 = (.int i1) := Option.some.inj ei1
  obtain ⟨i2, ei2⟩ := is_v v2
  obtain rfl : w2 = (.int i2) := Option.some.inj ei2
  obtain ⟨i3, ei3⟩ := is_v v3
  obtain rfl : w3 = (.int i3) := Option.some.inj ei3
  obtain ⟨i4, ei4⟩ := is_v u4
  obtain rfl : w4 = (.int i4) := Option.some.inj ei4
  have n5 := not_v (Cond.before_iff.mp (hsets _ (List.mem_of_getElem? (i := 2) rfl)))
  obtain ⟨iG, eG⟩ := is_v (Cond.before_iff.mp (hsets _ (List.mem_of_getElem? (i := 1) rfl)))
  have SG : Sta s s.heap "java/lang/String" "COMPACT_STRINGS" "Z" (.int iG) := Sta.start eG (Or.inl (hsets _ (List.mem_of_getElem? (i := 0) rfl)))
  have cG : ¬ (iG = (0 : Int32)) := gotF (Cond.eq_ints eG (Term.int_eval (0))) n5
  obtain ⟨vF, eF, rF⟩ := isR_v (Cond.before_iff.mp (hsets _ (List.mem_of_getElem? (i := 8) rfl)))
  have SF : Sta s s.heap "jdk/internal/util/Preconditions" "SIOOBE_FORMATTER" "Ljava/util/function/BiFunction;" vF := Sta.start eF (Or.inl (hsets _ (List.mem_of_getElem? (i := 7) rfl)))
  have hC : CHv s own_EL s.vm s.heap := CHv.start (own_hEL hw) (fun p hp => hcalls.1 p hp) (hsets _ (List.mem_of_getElem? (i := 2) rfl)) (own_wS hw _ (by simp [Bundle.stringAtoms])) (own_wS hw _ (by simp [Bundle.stringAtoms, Bundle.sN]))
  obtain ⟨n, o, h1, h2, h3, _, L, rfl, ⟨rfl, N⟩, -, hq⟩ := own_law l s _ hw tables_1 i0 i1 i2 i3 i4 iG vF s.heap s.heap.size (Nat.le_refl _) SG cG SF rF (Old.start s) p e ha hc hk s m _ below hf ((Spec.applies_iff_loose hf).mp happ).1 ⟨rfl, State.Warmed39.refl s, rfl, hC⟩ trivial
  refine ⟨n, _, h1, h2, h3, hpost _ _ _ _ _ _ ⟨Cond.after_iff.mpr rfl, Cond.after_iff.mpr (eq_i res_at (Term.int_eval (1)) rfl), trivial⟩ ⟨hq.1, hq.2.1, hq.2.2.1, (hq.2.2.2.sift fun y hy => Or.inr (N y hy)).mono (by decide) (by decide)⟩⟩
theorem main_1_1 : Claimed_1_1 := comes_1 fun _ _ _ _ _ _ h hF => ⟨h.1, hF⟩
theorem main_1_2 : Claimed_1_2 := comes_1 fun _ _ _ _ _ _ h hF => ⟨h.2.1, hF⟩
end Jvm.Pilot.@@N@@
namespace Jvm.Pilot.@@N@@
open Jvm Jvm.ClassFile Sem Op Lib Jvm.Free Jvm.Stand Jvm.Pilot.@@N@@.Jvm.D
/-! MADE BY PROGRAM (witnessworld.py) out of the Statement's table words and the real class files: 23 classes; the members and pool entries that the words name. The judged class is class 1, her method 2. -/
namespace start1
open Jvm.ClassFile
def u (s : String) : CpInfo := .utf8 (stringToUtf16 s)
/-- a pool by its gaps: so many unusable entries, then the entry; so many at the end -/
def gap : Nat → List CpInfo → List CpInfo
  | 0, r => r
  | n + 1, r => .unusable :: gap n r
def poolList (es : List (Nat × CpInfo)) (last : Nat) : List CpInfo := es.foldr (fun e r => gap e.1 (e.2 :: r)) (gap last [])
def pool (es : List (Nat × CpInfo)) (last : Nat) : Array CpInfo := ⟨poolList es last⟩
def fileOf (pool : Array CpInfo) (this : Nat) (attrs : Array Attribute := #[]) (ms : Array MethodInfo := #[]) (fl : Nat := 33) (sup : Nat := 0) (ifs : Array Nat := #[]) (fds : Array FieldInfo := #[]) : ClassFile where
  minorVersion := 0
  majorVersion := 65
  constantPool := pool
  accessFlags := fl
  thisClass := this
  superClass := sup
  interfaces := ifs
  fields := fds
  methods := ms
  attributes := attrs
def plain (name : String) (sup : Option ClassId) : Class where
  name := name
  kind := .ordinary
  loader := none
  accessFlags := 33
  super := sup
  interfaces := #[]
  cf := none
  fields := #[]
  methods := #[]
  instanceTypes := #[]
  staticTypes := #[]
  resolved := #[]
  callSites := []
  init := .initialized
  statics := none
  mirror := none

def pool0 : Array CpInfo := pool [(5, u "<init>"), (0, u "()V"), (1, .class_ 10), (1, u "java/lang/Object")] 113

def k0c0 : Code := { maxStack := 0, maxLocals := 1, code := object_method_1_code, exceptionTable := #[], attributes := #[] }
def k0m0 : Method := { name := "<init>", desc := "()V", sig := { parameters := [], returnType := none }, accessFlags := 1, code := some k0c0 }
/-- java/lang/Object -/
def k0 : Class := { plain "java/lang/Object" none with
  accessFlags := 33
  interfaces := #[]
  cf := some (fileOf pool0 8 #[] #[{ accessFlags := 1, nameIndex := 5, descriptorIndex := 6, attributes := #[] }] 33 0 #[] #[])
  fields := #[]
  methods := #[k0m0]
  instanceTypes := #[]
  staticTypes := #[]
  resolved := Array.replicate 124 none
  statics := none }

def pool1 : Array CpInfo := pool [(2, .class_ 4), (1, u "java/lang/Object"), (0, u "<init>"), (0, u "()V"), (0, .integer 2147483647), (0, .methodref 9 10), (0, .class_ 11), (0, .nameAndType 12 13), (0, u "com/example/deadline/deadline/TimerCheckIdPinLaw"), (0, u "idChar"), (0, u "(I)C"), (0, .string 15), (0, u "ABCDEFGHIJKLMNOPQRSTUVWXYZabcdefghijklmnopqrstuvwxyz0123456789._~-ABCDEFGHIJKLMNOPQRSTUVWXYZabcdefghijklmnopqrstuvwxyz0123456789"), (0, .class_ 17), (0, u "java/lang/String"), (0, .methodref 16 19), (0, .nameAndType 5 20), (0, u "([C)V"), (0, .methodref 22 23), (0, .class_ 24), (0, .nameAndType 25 26), (0, u "com/example/deadline/deadline/Timer"), (0, u "checkId"), (0, u "(Ljava/lang/String;)V"), (3, u "law"), (0, u "(IIIII)Z")] 2

def k1m0 : Method := { name := "<init>", desc := "()V", sig := { parameters := [], returnType := none }, accessFlags := 2, code := none }
def k1c1 : Code := { maxStack := 3, maxLocals := 3, code := method_2_code, exceptionTable := #[], attributes := #[] }
def k1m1 : Method := { name := "idChar", desc := "(I)C", sig := { parameters := [.int], returnType := some .char }, accessFlags := 10, code := some k1c1 }
def k1c2 : Code := { maxStack := 6, maxLocals := 12, code := code, exceptionTable := #[], attributes := #[] }
def k1m2 : Method := { name := "law", desc := "(IIIII)Z", sig := { parameters := [.int, .int, .int, .int, .int], returnType := some .boolean }, accessFlags := 9, code := some k1c2 }
/-- com/example/deadline/deadline/TimerCheckIdPinLaw -/
def k1 : Class := { plain "com/example/deadline/deadline/TimerCheckIdPinLaw" (some 0) with
  accessFlags := 49
  interfaces := #[]
  cf := some (fileOf pool1 9 #[] #[{ accessFlags := 2, nameIndex := 5, descriptorIndex := 6, attributes := #[] }, { accessFlags := 10, nameIndex := 12, descriptorIndex := 13, attributes := #[] }, { accessFlags := 9, nameIndex := 30, descriptorIndex := 31, attributes := #[] }] 49 2 #[] #[])
  fields := #[]
  methods := #[k1m0, k1m1, k1m2]
  instanceTypes := #[]
  staticTypes := #[]
  resolved := Array.replicate 34 none
  statics := none }

def pool2 : Array CpInfo := pool [(1, .class_ 2), (0, u "java/io/Serializable"), (0, .class_ 4), (0, u "java/lang/Object")] 2

/-- java/io/Serializable -/
def k2 : Class := { plain "java/io/Serializable" (some 0) with
  accessFlags := 1537
  interfaces := #[]
  cf := some (fileOf pool2 1 #[] #[] 1537 3 #[] #[])
  fields := #[]
  methods := #[]
  instanceTypes := #[]
  staticTypes := #[]
  resolved := Array.replicate 7 none
  statics := none }

def pool3 : Array CpInfo := pool [(1, .class_ 2), (0, u "java/lang/Comparable"), (0, .class_ 4), (0, u "java/lang/Object")] 7

/-- java/lang/Comparable -/
def k3 : Class := { plain "java/lang/Comparable" (some 0) with
  accessFlags := 1537
  interfaces := #[]
  cf := some (fileOf pool3 1 #[] #[] 1537 3 #[] #[])
  fields := #[]
  methods := #[]
  instanceTypes := #[]
  staticTypes := #[]
  resolved := Array.replicate 12 none
  statics := none }

def pool4 : Array CpInfo := pool [(2, .class_ 4), (1, u "java/lang/CharSequence"), (42, .class_ 48), (0, u "java/lang/CharSequence$1CodePointIterator"), (10, .class_ 60), (0, u "java/lang/CharSequence$1CharIterator"), (5, .class_ 67), (0, u "java/lang/Object")] 63

/-- java/lang/CharSequence -/
def k4 : Class := { plain "java/lang/CharSequence" (some 0) with
  accessFlags := 1537
  interfaces := #[]
  cf := some (fileOf pool4 2 #[.nestMembers #[47, 59]] #[] 1537 66 #[] #[])
  fields := #[]
  methods := #[]
  instanceTypes := #[]
  staticTypes := #[]
  resolved := Array.replicate 131 none
  statics := none }

def pool5 : Array CpInfo := pool [(1, .class_ 2), (0, u "java/lang/constant/Constable"), (0, .class_ 4), (0, u "java/lang/Object")] 6

/-- java/lang/constant/Constable -/
def k5 : Class := { plain "java/lang/constant/Constable" (some 0) with
  accessFlags := 1537
  interfaces := #[]
  cf := some (fileOf pool5 1 #[] #[] 1537 3 #[] #[])
  fields := #[]
  methods := #[]
  instanceTypes := #[]
  staticTypes := #[]
  resolved := Array.replicate 11 none
  statics := none }

def pool6 : Array CpInfo := pool [(1, .class_ 2), (0, u "java/lang/constant/ConstantDesc"), (0, .class_ 4), (0, u "java/lang/Object")] 32

/-- java/lang/constant/ConstantDesc -/
def k6 : Class := { plain "java/lang/constant/ConstantDesc" (some 0) with
  accessFlags := 1537
  interfaces := #[]
  cf := some (fileOf pool6 1 #[] #[] 1537 3 #[] #[])
  fields := #[]
  methods := #[]
  instanceTypes := #[]
  staticTypes := #[]
  resolved := Array.replicate 37 none
  statics := none }

def pool7 : Array CpInfo := pool [(1, .methodref 2 3), (0, .class_ 4), (0, .nameAndType 5 6), (0, u "java/lang/Object"), (0, u "<init>"), (0, u "()V"), (2, .fieldref 10 11), (0, .class_ 12), (0, .nameAndType 13 14), (0, u "java/lang/String"), (0, u "value"), (0, u "[B"), (0, .fieldref 10 16), (0, .nameAndType 17 18), (0, u "coder"), (0, u "B"), (2, u "hash"), (0, u "I"), (2, u "hashIsZero"), (0, u "Z"), (0, .methodref 10 28), (0, .nameAndType 5 29), (0, u "([CIILjava/lang/Void;)V"), (8, .fieldref 10 39), (0, .nameAndType 40 26), (0, u "COMPACT_STRINGS"), (1, .class_ 44), (1, u "java/lang/StringUTF16"), (0, u "compress"), (1, .methodref 42 48), (0, .nameAndType 49 50), (0, u "coderFromArrayLen"), (0, u "([BI)B"), (56, .class_ 109), (1, u "java/lang/StringLatin1"), (32, u "()Z"), (34, .methodref 42 178), (0, .nameAndType 45 179), (0, u "([CII)[B"), (154, u "()I"), (0, .methodref 10 336), (0, .nameAndType 17 337), (0, u "()B"), (25, u "([BI)C"), (27, u "(II)V"), (35, u "(I)C"), (64, .methodref 10 493), (0, .nameAndType 494 142), (0, u "isLatin1"), (0, .methodref 107 496), (0, .nameAndType 497 363), (0, u "charAt"), (3, u "checkIndex"), (3, .methodref 10 506), (0, .nameAndType 507 334), (0, u "length"), (67, .class_ 576), (0, u "java/lang/CharSequence"), (22, u "CASE_INSENSITIVE_ORDER"), (0, u "Ljava/util/Comparator;"), (32, .methodref 10 634), (0, .nameAndType 635 636), (0, u "indexOf"), (0, u "(II)I"), (0, .methodref 107 638), (0, .nameAndType 635 639), (0, u "([BIII)I"), (52, u "isEmpty"), (72, u "(I)I"), (244, u "([C)V"), (42, .fieldref 1054 1055), (0, .class_ 1056), (0, .nameAndType 1057 1058), (0, u "jdk/internal/util/Preconditions"), (0, u "SIOOBE_FORMATTER"), (0, u "Ljava/util/function/BiFunction;"), (0, .methodref 1054 1060), (0, .nameAndType 501 1061), (0, u "(IILjava/util/function/BiFunction;)I"), (39, u "serialPersistentFields"), (0, u "[Ljava/io/ObjectStreamField;"), (0, .class_ 1104), (0, u "java/lang/String$CaseInsensitiveComparator"), (1, .class_ 1107), (0, u "java/io/Serializable"), (0, .class_ 1109), (0, u "java/lang/Comparable"), (0, .class_ 1111), (0, u "java/lang/constant/Constable"), (0, .class_ 1113), (0, u "java/lang/constant/ConstantDesc"), (2, u "serialVersionUID"), (0, u "J"), (3, u "REPL"), (0, u "C"), (2, u "LATIN1"), (1, u "UTF16")] 323

def k7m0 : Method := { name := "<init>", desc := "()V", sig := { parameters := [], returnType := none }, accessFlags := 1, code := none }
def k7c1 : Code := { maxStack := 5, maxLocals := 2, code := jdk_42_method_3_code, exceptionTable := #[], attributes := #[] }
def k7m1 : Method := { name := "<init>", desc := "([C)V", sig := { parameters := [(.array .char)], returnType := none }, accessFlags := 1, code := some k7c1 }
def k7c2 : Code := { maxStack := 2, maxLocals := 1, code := jdk_42_method_54_code, exceptionTable := #[], attributes := #[] }
def k7m2 : Method := { name := "length", desc := "()I", sig := { parameters := [], returnType := some .int }, accessFlags := 1, code := some k7c2 }
def k7c3 : Code := { maxStack := 1, maxLocals := 1, code := jdk_42_method_55_code, exceptionTable := #[], attributes := #[] }
def k7m3 : Method := { name := "isEmpty", desc := "()Z", sig := { parameters := [], returnType := some .boolean }, accessFlags := 1, code := some k7c3 }
def k7c4 : Code := { maxStack := 2, maxLocals := 2, code := jdk_42_method_56_code, exceptionTable := #[], attributes := #[] }
def k7m4 : Method := { name := "charAt", desc := "(I)C", sig := { parameters := [.int], returnType := some .char }, accessFlags := 1, code := some k7c4 }
def k7c5 : Code := { maxStack := 3, maxLocals := 2, code := jdk_42_method_79_code, exceptionTable := #[], attributes := #[] }
def k7m5 : Method := { name := "indexOf", desc := "(I)I", sig := { parameters := [.int], returnType := some .int }, accessFlags := 1, code := some k7c5 }
def k7c6 : Code := { maxStack := 4, maxLocals := 3, code := jdk_42_method_80_code, exceptionTable := #[], attributes := #[] }
def k7m6 : Method := { name := "indexOf", desc := "(II)I", sig := { parameters := [.int, .int], returnType := some .int }, accessFlags := 1, code := some k7c6 }
def k7c7 : Code := { maxStack := 4, maxLocals := 6, code := jdk_42_method_149_code, exceptionTable := #[], attributes := #[] }
def k7m7 : Method := { name := "<init>", desc := "([CIILjava/lang/Void;)V", sig := { parameters := [(.array .char), .int, .int, (.object "java/lang/Void")], returnType := none }, accessFlags := 2, code := some k7c7 }
def k7c8 : Code := { maxStack := 1, maxLocals := 1, code := jdk_42_method_152_code, exceptionTable := #[], attributes := #[] }
def k7m8 : Method := { name := "coder", desc := "()B", sig := { parameters := [], returnType := some .byte }, accessFlags := 0, code := some k7c8 }
def k7c9 : Code := { maxStack := 1, maxLocals := 1, code := jdk_42_method_154_code, exceptionTable := #[], attributes := #[] }
def k7m9 : Method := { name := "isLatin1", desc := "()Z", sig := { parameters := [], returnType := some .boolean }, accessFlags := 0, code := some k7c9 }
def k7c10 : Code := { maxStack := 3, maxLocals := 2, code := jdk_42_method_155_code, exceptionTable := #[], attributes := #[] }
def k7m10 : Method := { name := "checkIndex", desc := "(II)V", sig := { parameters := [.int, .int], returnType := none }, accessFlags := 8, code := some k7c10 }
/-- java/lang/String -/
def k7 : Class := { plain "java/lang/String" (some 0) with
  accessFlags := 49
  interfaces := #[2, 3, 4, 5, 6]
  cf := some (fileOf pool7 10 #[.nestMembers #[1103]] #[{ accessFlags := 1, nameIndex := 5, descriptorIndex := 6, attributes := #[] }, { accessFlags := 1, nameIndex := 5, descriptorIndex := 1010, attributes := #[] }, { accessFlags := 1, nameIndex := 507, descriptorIndex := 334, attributes := #[] }, { accessFlags := 1, nameIndex := 692, descriptorIndex := 142, attributes := #[] }, { accessFlags := 1, nameIndex := 497, descriptorIndex := 427, attributes := #[] }, { accessFlags := 1, nameIndex := 635, descriptorIndex := 765, attributes := #[] }, { accessFlags := 1, nameIndex := 635, descriptorIndex := 636, attributes := #[] }, { accessFlags := 2, nameIndex := 5, descriptorIndex := 29, attributes := #[] }, { accessFlags := 0, nameIndex := 17, descriptorIndex := 337, attributes := #[] }, { accessFlags := 0, nameIndex := 494, descriptorIndex := 142, attributes := #[] }, { accessFlags := 8, nameIndex := 501, descriptorIndex := 391, attributes := #[] }] 49 2 #[1106, 1108, 575, 1110, 1112] #[{ accessFlags := 18, nameIndex := 13, descriptorIndex := 14, attributes := #[] }, { accessFlags := 18, nameIndex := 17, descriptorIndex := 18, attributes := #[] }, { accessFlags := 2, nameIndex := 21, descriptorIndex := 22, attributes := #[] }, { accessFlags := 2, nameIndex := 25, descriptorIndex := 26, attributes := #[] }, { accessFlags := 26, nameIndex := 1116, descriptorIndex := 1117, attributes := #[] }, { accessFlags := 24, nameIndex := 40, descriptorIndex := 26, attributes := #[] }, { accessFlags := 26, nameIndex := 1101, descriptorIndex := 1102, attributes := #[] }, { accessFlags := 26, nameIndex := 1121, descriptorIndex := 1122, attributes := #[] }, { accessFlags := 25, nameIndex := 599, descriptorIndex := 600, attributes := #[] }, { accessFlags := 24, nameIndex := 1125, descriptorIndex := 18, attributes := #[] }, { accessFlags := 24, nameIndex := 1127, descriptorIndex := 18, attributes := #[] }])
  fields := #[{ name := "value", type := (.array .byte), accessFlags := 18, slot := 0, constantValue := 0 }, { name := "coder", type := .byte, accessFlags := 18, slot := 1, constantValue := 0 }, { name := "hash", type := .int, accessFlags := 2, slot := 2, constantValue := 0 }, { name := "hashIsZero", type := .boolean, accessFlags := 2, slot := 3, constantValue := 0 }, { name := "serialVersionUID", type := .long, accessFlags := 26, slot := 0, constantValue := 0 }, { name := "COMPACT_STRINGS", type := .boolean, accessFlags := 24, slot := 1, constantValue := 0 }, { name := "serialPersistentFields", type := (.array (.object "java/io/ObjectStreamField")), accessFlags := 26, slot := 2, constantValue := 0 }, { name := "REPL", type := .char, accessFlags := 26, slot := 3, constantValue := 0 }, { name := "CASE_INSENSITIVE_ORDER", type := (.object "java/util/Comparator"), accessFlags := 25, slot := 4, constantValue := 0 }, { name := "LATIN1", type := .byte, accessFlags := 24, slot := 5, constantValue := 0 }, { name := "UTF16", type := .byte, accessFlags := 24, slot := 6, constantValue := 0 }]
  methods := #[k7m0, k7m1, k7m2, k7m3, k7m4, k7m5, k7m6, k7m7, k7m8, k7m9, k7m10]
  instanceTypes := #[(.array .byte), .byte, .int, .boolean]
  staticTypes := #[.long, .boolean, (.array (.object "java/io/ObjectStreamField")), .char, (.object "java/util/Comparator"), .byte, .byte]
  resolved := Array.replicate 1451 none
  statics := some 0 }

def pool8 : Array CpInfo := pool [(6, .class_ 8), (1, u "java/lang/Object"), (0, u "<init>"), (0, u "()V"), (1, .class_ 14), (1, u "java/lang/StringUTF16"), (31, u "$assertionsDisabled"), (0, u "Z"), (13, u "HI_BYTE_SHIFT"), (0, u "I"), (2, u "LO_BYTE_SHIFT"), (49, .methodref 12 116), (0, .nameAndType 117 118), (0, u "compress"), (0, u "([CI[BII)I"), (3, u "([CII)[B"), (138, u "coderFromArrayLen"), (0, u "([BI)B"), (106, .class_ 371), (1, u "java/lang/StringUTF16$LinesSpliterator"), (58, u "MAX_LENGTH"), (196, .class_ 628), (0, u "java/lang/StringUTF16$CodePointsSpliterator"), (0, .class_ 630), (0, u "java/lang/StringUTF16$CharsSpliterator")] 4

def k8m0 : Method := { name := "<init>", desc := "()V", sig := { parameters := [], returnType := none }, accessFlags := 0, code := none }
def k8c1 : Code := { maxStack := 2, maxLocals := 2, code := jdk_52_method_15_code, exceptionTable := #[], attributes := #[] }
def k8m1 : Method := { name := "coderFromArrayLen", desc := "([BI)B", sig := { parameters := [(.array .byte), .int], returnType := some .byte }, accessFlags := 8, code := some k8c1 }
def k8c2 : Code := { maxStack := 5, maxLocals := 6, code := jdk_52_method_16_code, exceptionTable := #[], attributes := #[] }
def k8m2 : Method := { name := "compress", desc := "([CII)[B", sig := { parameters := [(.array .char), .int, .int], returnType := some (.array .byte) }, accessFlags := 9, code := some k8c2 }
def k8c3 : Code := { maxStack := 3, maxLocals := 7, code := jdk_52_method_21_code, exceptionTable := #[], attributes := #[] }
def k8m3 : Method := { name := "compress", desc := "([CI[BII)I", sig := { parameters := [(.array .char), .int, (.array .byte), .int, .int], returnType := some .int }, accessFlags := 9, code := some k8c3 }
/-- java/lang/StringUTF16 -/
def k8 : Class := { plain "java/lang/StringUTF16" (some 0) with
  accessFlags := 48
  interfaces := #[]
  cf := some (fileOf pool8 12 #[.nestMembers #[627, 629, 369]] #[{ accessFlags := 0, nameIndex := 9, descriptorIndex := 10, attributes := #[] }, { accessFlags := 8, nameIndex := 261, descriptorIndex := 262, attributes := #[] }, { accessFlags := 9, nameIndex := 117, descriptorIndex := 122, attributes := #[] }, { accessFlags := 9, nameIndex := 117, descriptorIndex := 118, attributes := #[] }] 48 6 #[] #[{ accessFlags := 26, nameIndex := 61, descriptorIndex := 62, attributes := #[] }, { accessFlags := 26, nameIndex := 65, descriptorIndex := 62, attributes := #[] }, { accessFlags := 24, nameIndex := 430, descriptorIndex := 62, attributes := #[] }, { accessFlags := 4120, nameIndex := 46, descriptorIndex := 47, attributes := #[] }])
  fields := #[{ name := "HI_BYTE_SHIFT", type := .int, accessFlags := 26, slot := 0, constantValue := 0 }, { name := "LO_BYTE_SHIFT", type := .int, accessFlags := 26, slot := 1, constantValue := 0 }, { name := "MAX_LENGTH", type := .int, accessFlags := 24, slot := 2, constantValue := 0 }, { name := "$assertionsDisabled", type := .boolean, accessFlags := 4120, slot := 3, constantValue := 0 }]
  methods := #[k8m0, k8m1, k8m2, k8m3]
  instanceTypes := #[]
  staticTypes := #[.int, .int, .int, .boolean]
  resolved := Array.replicate 635 none
  statics := none }

def pool9 : Array CpInfo := pool [(2, .class_ 4), (1, u "java/lang/Object"), (0, u "<init>"), (0, u "()V"), (0, .class_ 8), (0, u "java/lang/Record")] 13

def k9m0 : Method := { name := "<init>", desc := "()V", sig := { parameters := [], returnType := none }, accessFlags := 4, code := none }
/-- java/lang/Record -/
def k9 : Class := { plain "java/lang/Record" (some 0) with
  accessFlags := 1057
  interfaces := #[]
  cf := some (fileOf pool9 7 #[] #[{ accessFlags := 4, nameIndex := 5, descriptorIndex := 6, attributes := #[] }] 1057 2 #[] #[])
  fields := #[]
  methods := #[k9m0]
  instanceTypes := #[]
  staticTypes := #[]
  resolved := Array.replicate 22 none
  statics := none }

def pool10 : Array CpInfo := pool [(2, .class_ 4), (1, u "java/lang/Record"), (3, .class_ 10), (1, u "com/example/deadline/deadline/Timer"), (0, u "checkId"), (0, u "(Ljava/lang/String;)V"), (1, u "callback"), (0, .methodref 16 17), (0, .class_ 18), (0, .nameAndType 19 20), (0, u "java/util/Objects"), (0, u "requireNonNull"), (0, u "(Ljava/lang/Object;Ljava/lang/String;)Ljava/lang/Object;"), (2, u "TAG_LISTS"), (0, u "Lcom/example/deadline/deadline/Interner;"), (59, u "()Z"), (4, u "(I)I"), (3, u "id"), (0, u "Ljava/lang/String;"), (2, u "Lcom/example/deadline/deadline/HttpCallback;"), (2, u "maxRetries"), (0, u "Ljava/util/OptionalInt;"), (2, u "replicationFactor"), (0, u "I"), (2, u "tags"), (0, u "Ljava/util/List;"), (2, u "schedule"), (0, u "Lcom/example/deadline/deadline/PopSchedule;"), (2, u "ended"), (0, u "J"), (2, u "next"), (0, u "Ljava/util/Optional;"), (2, u "retry"), (2, u "underway"), (2, u "version"), (2, u "revision"), (8, u "()I"), (45, .class_ 190), (1, u "java/lang/String"), (44, .nameAndType 236 84), (0, u "isEmpty"), (0, .string 93), (0, .methodref 188 235), (0, .methodref 188 240), (0, .nameAndType 241 142), (0, u "length"), (0, .methodref 188 243), (0, .nameAndType 244 245), (0, u "charAt"), (0, u "(I)C"), (0, .string 247), (0, u "._~-"), (0, .methodref 188 249), (0, .nameAndType 250 89), (0, u "indexOf"), (21, u "DEFAULT_REPLICATION_FACTOR"), (2, u "MAX_ID_LENGTH"), (1, u "ID_PUNCTUATION")] 96

def k10c0 : Code := { maxStack := 3, maxLocals := 4, code := prog_45_method_15_code, exceptionTable := #[], attributes := #[] }
def k10m0 : Method := { name := "checkId", desc := "(Ljava/lang/String;)V", sig := { parameters := [(.object "java/lang/String")], returnType := none }, accessFlags := 8, code := some k10c0 }
/-- com/example/deadline/deadline/Timer -/
def k10 : Class := { plain "com/example/deadline/deadline/Timer" (some 9) with
  accessFlags := 48
  interfaces := #[]
  cf := some (fileOf pool10 8 #[] #[{ accessFlags := 8, nameIndex := 11, descriptorIndex := 12, attributes := #[] }] 48 2 #[] #[{ accessFlags := 18, nameIndex := 93, descriptorIndex := 94, attributes := #[] }, { accessFlags := 18, nameIndex := 14, descriptorIndex := 97, attributes := #[] }, { accessFlags := 18, nameIndex := 100, descriptorIndex := 101, attributes := #[] }, { accessFlags := 18, nameIndex := 104, descriptorIndex := 105, attributes := #[] }, { accessFlags := 18, nameIndex := 108, descriptorIndex := 109, attributes := #[] }, { accessFlags := 18, nameIndex := 112, descriptorIndex := 113, attributes := #[] }, { accessFlags := 18, nameIndex := 116, descriptorIndex := 117, attributes := #[] }, { accessFlags := 18, nameIndex := 120, descriptorIndex := 121, attributes := #[] }, { accessFlags := 18, nameIndex := 124, descriptorIndex := 121, attributes := #[] }, { accessFlags := 18, nameIndex := 127, descriptorIndex := 105, attributes := #[] }, { accessFlags := 18, nameIndex := 130, descriptorIndex := 117, attributes := #[] }, { accessFlags := 18, nameIndex := 133, descriptorIndex := 117, attributes := #[] }, { accessFlags := 24, nameIndex := 272, descriptorIndex := 105, attributes := #[] }, { accessFlags := 26, nameIndex := 275, descriptorIndex := 105, attributes := #[] }, { accessFlags := 26, nameIndex := 277, descriptorIndex := 94, attributes := #[] }, { accessFlags := 26, nameIndex := 23, descriptorIndex := 24, attributes := #[] }])
  fields := #[{ name := "id", type := (.object "java/lang/String"), accessFlags := 18, slot := 0, constantValue := 0 }, { name := "callback", type := (.object "com/example/deadline/deadline/HttpCallback"), accessFlags := 18, slot := 1, constantValue := 0 }, { name := "maxRetries", type := (.object "java/util/OptionalInt"), accessFlags := 18, slot := 2, constantValue := 0 }, { name := "replicationFactor", type := .int, accessFlags := 18, slot := 3, constantValue := 0 }, { name := "tags", type := (.object "java/util/List"), accessFlags := 18, slot := 4, constantValue := 0 }, { name := "schedule", type := (.object "com/example/deadline/deadline/PopSchedule"), accessFlags := 18, slot := 5, constantValue := 0 }, { name := "ended", type := .long, accessFlags := 18, slot := 6, constantValue := 0 }, { name := "next", type := (.object "java/util/Optional"), accessFlags := 18, slot := 7, constantValue := 0 }, { name := "retry", type := (.object "java/util/Optional"), accessFlags := 18, slot := 8, constantValue := 0 }, { name := "underway", type := .int, accessFlags := 18, slot := 9, constantValue := 0 }, { name := "version", type := .long, accessFlags := 18, slot := 10, constantValue := 0 }, { name := "revision", type := .long, accessFlags := 18, slot := 11, constantValue := 0 }, { name := "DEFAULT_REPLICATION_FACTOR", type := .int, accessFlags := 24, slot := 0, constantValue := 0 }, { name := "MAX_ID_LENGTH", type := .int, accessFlags := 26, slot := 1, constantValue := 0 }, { name := "ID_PUNCTUATION", type := (.object "java/lang/String"), accessFlags := 26, slot := 2, constantValue := 0 }, { name := "TAG_LISTS", type := (.object "com/example/deadline/deadline/Interner"), accessFlags := 26, slot := 3, constantValue := 0 }]
  methods := #[k10m0]
  instanceTypes := #[(.object "java/lang/String"), (.object "com/example/deadline/deadline/HttpCallback"), (.object "java/util/OptionalInt"), .int, (.object "java/util/List"), (.object "com/example/deadline/deadline/PopSchedule"), .long, (.object "java/util/Optional"), (.object "java/util/Optional"), .int, .long, .long]
  staticTypes := #[.int, .int, (.object "java/lang/String"), (.object "com/example/deadline/deadline/Interner")]
  resolved := Array.replicate 374 none
  statics := none }

def pool11 : Array CpInfo := pool [(2, .class_ 4), (1, u "java/lang/Object"), (0, u "<init>"), (0, u "()V"), (35, .class_ 44), (1, u "java/util/Objects"), (0, u "requireNonNull"), (48, u "(Ljava/lang/Object;Ljava/lang/String;)Ljava/lang/Object;")] 89

def k11m0 : Method := { name := "<init>", desc := "()V", sig := { parameters := [], returnType := none }, accessFlags := 2, code := none }
def k11c1 : Code := { maxStack := 3, maxLocals := 2, code := jdk_31_method_11_code, exceptionTable := #[], attributes := #[] }
def k11m1 : Method := { name := "requireNonNull", desc := "(Ljava/lang/Object;Ljava/lang/String;)Ljava/lang/Object;", sig := { parameters := [(.object "java/lang/Object"), (.object "java/lang/String")], returnType := some (.object "java/lang/Object") }, accessFlags := 9, code := some k11c1 }
/-- java/util/Objects -/
def k11 : Class := { plain "java/util/Objects" (some 0) with
  accessFlags := 49
  interfaces := #[]
  cf := some (fileOf pool11 42 #[] #[{ accessFlags := 2, nameIndex := 5, descriptorIndex := 6, attributes := #[] }, { accessFlags := 9, nameIndex := 45, descriptorIndex := 94, attributes := #[] }] 49 2 #[] #[])
  fields := #[]
  methods := #[k11m0, k11m1]
  instanceTypes := #[]
  staticTypes := #[]
  resolved := Array.replicate 184 none
  statics := none }

def pool12 : Array CpInfo := pool [(1, .class_ 2), (0, u "java/lang/String"), (1, .class_ 6), (1, u "java/lang/Object"), (0, u "<init>"), (0, u "()V"), (0, .methodref 1 10), (0, .nameAndType 11 12), (0, u "checkIndex"), (0, u "(II)V"), (1, .class_ 16), (1, u "java/lang/StringLatin1"), (21, .methodref 39 40), (0, .class_ 41), (0, .nameAndType 42 43), (0, u "java/lang/Math"), (0, u "min"), (0, u "(II)I"), (9, u "([BI)C"), (34, .methodref 14 89), (0, .nameAndType 90 91), (0, u "canEncode"), (0, u "(I)Z"), (0, .methodref 39 93), (0, .nameAndType 94 43), (0, u "max"), (0, .methodref 14 96), (0, .nameAndType 97 98), (0, u "indexOfChar"), (0, u "([BIII)I"), (2, u "indexOf"), (19, u "$assertionsDisabled"), (0, u "Z"), (98, .class_ 223), (1, u "java/lang/StringLatin1$LinesSpliterator"), (28, u "charAt"), (137, .class_ 391), (0, u "java/lang/StringLatin1$CharsSpliterator")] 3

def k12m0 : Method := { name := "<init>", desc := "()V", sig := { parameters := [], returnType := none }, accessFlags := 0, code := none }
def k12c1 : Code := { maxStack := 2, maxLocals := 2, code := jdk_43_method_2_code, exceptionTable := #[], attributes := #[] }
def k12m1 : Method := { name := "charAt", desc := "([BI)C", sig := { parameters := [(.array .byte), .int], returnType := some .char }, accessFlags := 9, code := some k12c1 }
def k12c2 : Code := { maxStack := 2, maxLocals := 1, code := jdk_43_method_4_code, exceptionTable := #[], attributes := #[] }
def k12m2 : Method := { name := "canEncode", desc := "(I)Z", sig := { parameters := [.int], returnType := some .boolean }, accessFlags := 9, code := some k12c2 }
def k12c3 : Code := { maxStack := 4, maxLocals := 4, code := jdk_43_method_22_code, exceptionTable := #[], attributes := #[] }
def k12m3 : Method := { name := "indexOf", desc := "([BIII)I", sig := { parameters := [(.array .byte), .int, .int, .int], returnType := some .int }, accessFlags := 9, code := some k12c3 }
def k12c4 : Code := { maxStack := 2, maxLocals := 6, code := jdk_43_method_23_code, exceptionTable := #[], attributes := #[] }
def k12m4 : Method := { name := "indexOfChar", desc := "([BIII)I", sig := { parameters := [(.array .byte), .int, .int, .int], returnType := some .int }, accessFlags := 10, code := some k12c4 }
/-- java/lang/StringLatin1 -/
def k12 : Class := { plain "java/lang/StringLatin1" (some 0) with
  accessFlags := 48
  interfaces := #[]
  cf := some (fileOf pool12 14 #[.nestMembers #[390, 221]] #[{ accessFlags := 0, nameIndex := 7, descriptorIndex := 8, attributes := #[] }, { accessFlags := 9, nameIndex := 252, descriptorIndex := 53, attributes := #[] }, { accessFlags := 9, nameIndex := 90, descriptorIndex := 91, attributes := #[] }, { accessFlags := 9, nameIndex := 101, descriptorIndex := 98, attributes := #[] }, { accessFlags := 10, nameIndex := 97, descriptorIndex := 98, attributes := #[] }] 48 4 #[] #[{ accessFlags := 4120, nameIndex := 121, descriptorIndex := 122, attributes := #[] }])
  fields := #[{ name := "$assertionsDisabled", type := .boolean, accessFlags := 4120, slot := 0, constantValue := 0 }]
  methods := #[k12m0, k12m1, k12m2, k12m3, k12m4]
  instanceTypes := #[]
  staticTypes := #[.boolean]
  resolved := Array.replicate 395 none
  statics := none }

def pool13 : Array CpInfo := pool [(2, .class_ 4), (1, u "java/lang/Object"), (0, u "<init>"), (0, u "()V"), (17, .class_ 26), (1, u "jdk/internal/util/Preconditions"), (6, u "checkIndex"), (21, .class_ 56), (0, u "jdk/internal/util/Preconditions$4"), (57, .class_ 115), (0, u "jdk/internal/util/Preconditions$1"), (7, u "SIOOBE_FORMATTER"), (0, u "Ljava/util/function/BiFunction;"), (0, .class_ 126), (0, u "jdk/internal/util/Preconditions$2"), (3, u "AIOOBE_FORMATTER"), (0, .class_ 132), (0, u "jdk/internal/util/Preconditions$3"), (3, u "IOOBE_FORMATTER"), (41, u "(IILjava/util/function/BiFunction;)I")] 15

def k13m0 : Method := { name := "<init>", desc := "()V", sig := { parameters := [], returnType := none }, accessFlags := 1, code := none }
def k13c1 : Code := { maxStack := 3, maxLocals := 3, code := jdk_41_method_11_code, exceptionTable := #[], attributes := #[] }
def k13m1 : Method := { name := "checkIndex", desc := "(IILjava/util/function/BiFunction;)I", sig := { parameters := [.int, .int, (.object "java/util/function/BiFunction")], returnType := some .int }, accessFlags := 9, code := some k13c1 }
/-- jdk/internal/util/Preconditions -/
def k13 : Class := { plain "jdk/internal/util/Preconditions" (some 0) with
  accessFlags := 33
  interfaces := #[]
  cf := some (fileOf pool13 24 #[.nestMembers #[55, 131, 125, 114]] #[{ accessFlags := 1, nameIndex := 5, descriptorIndex := 6, attributes := #[] }, { accessFlags := 9, nameIndex := 33, descriptorIndex := 178, attributes := #[] }] 33 2 #[] #[{ accessFlags := 25, nameIndex := 123, descriptorIndex := 124, attributes := #[] }, { accessFlags := 25, nameIndex := 130, descriptorIndex := 124, attributes := #[] }, { accessFlags := 25, nameIndex := 136, descriptorIndex := 124, attributes := #[] }])
  fields := #[{ name := "SIOOBE_FORMATTER", type := (.object "java/util/function/BiFunction"), accessFlags := 25, slot := 0, constantValue := 0 }, { name := "AIOOBE_FORMATTER", type := (.object "java/util/function/BiFunction"), accessFlags := 25, slot := 1, constantValue := 0 }, { name := "IOOBE_FORMATTER", type := (.object "java/util/function/BiFunction"), accessFlags := 25, slot := 2, constantValue := 0 }]
  methods := #[k13m0, k13m1]
  instanceTypes := #[]
  staticTypes := #[(.object "java/util/function/BiFunction"), (.object "java/util/function/BiFunction"), (.object "java/util/function/BiFunction")]
  resolved := Array.replicate 194 none
  statics := some 1 }

def pool14 : Array CpInfo := pool [(1, .class_ 2), (0, u "java/lang/Math"), (1, .class_ 6), (1, u "java/lang/Object"), (0, u "<init>"), (0, u "()V"), (89, .class_ 100), (1, u "java/lang/Math$RandomNumberGeneratorHolder"), (71, u "negativeZeroFloatBits"), (0, u "J"), (2, u "negativeZeroDoubleBits"), (21, u "max"), (2, u "min"), (43, u "$assertionsDisabled"), (0, u "Z"), (88, u "(II)I"), (2, u "twoToTheDoubleScaleDown"), (0, u "D"), (4, u "twoToTheDoubleScaleUp"), (9, u "E"), (3, u "PI"), (2, u "TAU"), (2, u "DEGREES_TO_RADIANS"), (0, u "RADIANS_TO_DEGREES")] 94

def k14m0 : Method := { name := "<init>", desc := "()V", sig := { parameters := [], returnType := none }, accessFlags := 2, code := none }
def k14c1 : Code := { maxStack := 2, maxLocals := 2, code := jdk_29_method_65_code, exceptionTable := #[], attributes := #[] }
def k14m1 : Method := { name := "max", desc := "(II)I", sig := { parameters := [.int, .int], returnType := some .int }, accessFlags := 9, code := some k14c1 }
def k14c2 : Code := { maxStack := 2, maxLocals := 2, code := jdk_29_method_69_code, exceptionTable := #[], attributes := #[] }
def k14m2 : Method := { name := "min", desc := "(II)I", sig := { parameters := [.int, .int], returnType := some .int }, accessFlags := 9, code := some k14c2 }
/-- java/lang/Math -/
def k14 : Class := { plain "java/lang/Math" (some 0) with
  accessFlags := 49
  interfaces := #[]
  cf := some (fileOf pool14 1 #[.nestMembers #[98]] #[{ accessFlags := 2, nameIndex := 7, descriptorIndex := 8, attributes := #[] }, { accessFlags := 9, nameIndex := 198, descriptorIndex := 335, attributes := #[] }, { accessFlags := 9, nameIndex := 201, descriptorIndex := 335, attributes := #[] }] 49 4 #[] #[{ accessFlags := 25, nameIndex := 354, descriptorIndex := 339, attributes := #[] }, { accessFlags := 25, nameIndex := 358, descriptorIndex := 339, attributes := #[] }, { accessFlags := 25, nameIndex := 361, descriptorIndex := 339, attributes := #[] }, { accessFlags := 26, nameIndex := 364, descriptorIndex := 339, attributes := #[] }, { accessFlags := 26, nameIndex := 365, descriptorIndex := 339, attributes := #[] }, { accessFlags := 26, nameIndex := 172, descriptorIndex := 173, attributes := #[] }, { accessFlags := 26, nameIndex := 176, descriptorIndex := 173, attributes := #[] }, { accessFlags := 8, nameIndex := 344, descriptorIndex := 339, attributes := #[] }, { accessFlags := 8, nameIndex := 338, descriptorIndex := 339, attributes := #[] }, { accessFlags := 4120, nameIndex := 245, descriptorIndex := 246, attributes := #[] }])
  fields := #[{ name := "E", type := .double, accessFlags := 25, slot := 0, constantValue := 0 }, { name := "PI", type := .double, accessFlags := 25, slot := 1, constantValue := 0 }, { name := "TAU", type := .double, accessFlags := 25, slot := 2, constantValue := 0 }, { name := "DEGREES_TO_RADIANS", type := .double, accessFlags := 26, slot := 3, constantValue := 0 }, { name := "RADIANS_TO_DEGREES", type := .double, accessFlags := 26, slot := 4, constantValue := 0 }, { name := "negativeZeroFloatBits", type := .long, accessFlags := 26, slot := 5, constantValue := 0 }, { name := "negativeZeroDoubleBits", type := .long, accessFlags := 26, slot := 6, constantValue := 0 }, { name := "twoToTheDoubleScaleUp", type := .double, accessFlags := 8, slot := 7, constantValue := 0 }, { name := "twoToTheDoubleScaleDown", type := .double, accessFlags := 8, slot := 8, constantValue := 0 }, { name := "$assertionsDisabled", type := .boolean, accessFlags := 4120, slot := 9, constantValue := 0 }]
  methods := #[k14m0, k14m1, k14m2]
  instanceTypes := #[]
  staticTypes := #[.double, .double, .double, .double, .double, .long, .long, .double, .double, .boolean]
  resolved := Array.replicate 460 none
  statics := none }

def pool15 : Array CpInfo := pool [(9, u "<init>"), (6, .class_ 18), (1, u "java/lang/Object"), (0, u "()V"), (1, .class_ 23), (1, u "jdk/internal/util/ArraysSupport"), (0, u "LOG2_ARRAY_LONG_INDEX_SCALE"), (0, u "I"), (2, u "U"), (0, u "Ljdk/internal/misc/Unsafe;"), (8, u "BIG_ENDIAN"), (0, u "Z"), (8, u "LOG2_BYTE_BIT_SIZE"), (4, u "LOG2_ARRAY_INT_INDEX_SCALE"), (54, u "JLA"), (0, u "Ljdk/internal/access/JavaLangAccess;"), (11, u "LOG2_ARRAY_BOOLEAN_INDEX_SCALE"), (9, u "LOG2_ARRAY_BYTE_INDEX_SCALE"), (5, u "LOG2_ARRAY_CHAR_INDEX_SCALE"), (5, u "LOG2_ARRAY_SHORT_INDEX_SCALE"), (18, u "LOG2_ARRAY_FLOAT_INDEX_SCALE"), (24, u "LOG2_ARRAY_DOUBLE_INDEX_SCALE"), (89, u "T_BOOLEAN"), (2, u "T_CHAR"), (1, u "T_FLOAT"), (1, u "T_DOUBLE"), (1, u "T_BYTE"), (1, u "T_SHORT"), (1, u "T_INT"), (1, u "T_LONG"), (1, u "SOFT_MAX_ARRAY_LENGTH")] 83

def k15m0 : Method := { name := "<init>", desc := "()V", sig := { parameters := [], returnType := none }, accessFlags := 2, code := none }
/-- jdk/internal/util/ArraysSupport -/
def k15 : Class := { plain "jdk/internal/util/ArraysSupport" (some 0) with
  accessFlags := 33
  interfaces := #[]
  cf := some (fileOf pool15 21 #[] #[{ accessFlags := 2, nameIndex := 9, descriptorIndex := 19, attributes := #[] }] 33 16 #[] #[{ accessFlags := 24, nameIndex := 28, descriptorIndex := 29, attributes := #[] }, { accessFlags := 26, nameIndex := 38, descriptorIndex := 39, attributes := #[] }, { accessFlags := 25, nameIndex := 121, descriptorIndex := 25, attributes := #[] }, { accessFlags := 25, nameIndex := 131, descriptorIndex := 25, attributes := #[] }, { accessFlags := 25, nameIndex := 137, descriptorIndex := 25, attributes := #[] }, { accessFlags := 25, nameIndex := 143, descriptorIndex := 25, attributes := #[] }, { accessFlags := 25, nameIndex := 53, descriptorIndex := 25, attributes := #[] }, { accessFlags := 25, nameIndex := 24, descriptorIndex := 25, attributes := #[] }, { accessFlags := 25, nameIndex := 162, descriptorIndex := 25, attributes := #[] }, { accessFlags := 25, nameIndex := 187, descriptorIndex := 25, attributes := #[] }, { accessFlags := 26, nameIndex := 48, descriptorIndex := 25, attributes := #[] }, { accessFlags := 25, nameIndex := 277, descriptorIndex := 25, attributes := #[] }, { accessFlags := 25, nameIndex := 280, descriptorIndex := 25, attributes := #[] }, { accessFlags := 25, nameIndex := 282, descriptorIndex := 25, attributes := #[] }, { accessFlags := 25, nameIndex := 284, descriptorIndex := 25, attributes := #[] }, { accessFlags := 25, nameIndex := 286, descriptorIndex := 25, attributes := #[] }, { accessFlags := 25, nameIndex := 288, descriptorIndex := 25, attributes := #[] }, { accessFlags := 25, nameIndex := 290, descriptorIndex := 25, attributes := #[] }, { accessFlags := 25, nameIndex := 292, descriptorIndex := 25, attributes := #[] }, { accessFlags := 26, nameIndex := 108, descriptorIndex := 109, attributes := #[] }, { accessFlags := 25, nameIndex := 294, descriptorIndex := 25, attributes := #[] }])
  fields := #[{ name := "U", type := (.object "jdk/internal/misc/Unsafe"), accessFlags := 24, slot := 0, constantValue := 0 }, { name := "BIG_ENDIAN", type := .boolean, accessFlags := 26, slot := 1, constantValue := 0 }, { name := "LOG2_ARRAY_BOOLEAN_INDEX_SCALE", type := .int, accessFlags := 25, slot := 2, constantValue := 0 }, { name := "LOG2_ARRAY_BYTE_INDEX_SCALE", type := .int, accessFlags := 25, slot := 3, constantValue := 0 }, { name := "LOG2_ARRAY_CHAR_INDEX_SCALE", type := .int, accessFlags := 25, slot := 4, constantValue := 0 }, { name := "LOG2_ARRAY_SHORT_INDEX_SCALE", type := .int, accessFlags := 25, slot := 5, constantValue := 0 }, { name := "LOG2_ARRAY_INT_INDEX_SCALE", type := .int, accessFlags := 25, slot := 6, constantValue := 0 }, { name := "LOG2_ARRAY_LONG_INDEX_SCALE", type := .int, accessFlags := 25, slot := 7, constantValue := 0 }, { name := "LOG2_ARRAY_FLOAT_INDEX_SCALE", type := .int, accessFlags := 25, slot := 8, constantValue := 0 }, { name := "LOG2_ARRAY_DOUBLE_INDEX_SCALE", type := .int, accessFlags := 25, slot := 9, constantValue := 0 }, { name := "LOG2_BYTE_BIT_SIZE", type := .int, accessFlags := 26, slot := 10, constantValue := 0 }, { name := "T_BOOLEAN", type := .int, accessFlags := 25, slot := 11, constantValue := 0 }, { name := "T_CHAR", type := .int, accessFlags := 25, slot := 12, constantValue := 0 }, { name := "T_FLOAT", type := .int, accessFlags := 25, slot := 13, constantValue := 0 }, { name := "T_DOUBLE", type := .int, accessFlags := 25, slot := 14, constantValue := 0 }, { name := "T_BYTE", type := .int, accessFlags := 25, slot := 15, constantValue := 0 }, { name := "T_SHORT", type := .int, accessFlags := 25, slot := 16, constantValue := 0 }, { name := "T_INT", type := .int, accessFlags := 25, slot := 17, constantValue := 0 }, { name := "T_LONG", type := .int, accessFlags := 25, slot := 18, constantValue := 0 }, { name := "JLA", type := (.object "jdk/internal/access/JavaLangAccess"), accessFlags := 26, slot := 19, constantValue := 0 }, { name := "SOFT_MAX_ARRAY_LENGTH", type := .int, accessFlags := 25, slot := 20, constantValue := 0 }]
  methods := #[k15m0]
  instanceTypes := #[]
  staticTypes := #[(.object "jdk/internal/misc/Unsafe"), .boolean, .int, .int, .int, .int, .int, .int, .int, .int, .int, .int, .int, .int, .int, .int, .int, .int, .int, (.object "jdk/internal/access/JavaLangAccess"), .int]
  resolved := Array.replicate 378 none
  statics := none }

def pool16 : Array CpInfo := pool [(1, u "java/lang/Cloneable"), (0, .class_ 1), (0, u "java/lang/Object"), (0, .class_ 3)] 3

/-- java/lang/Cloneable -/
def k16 : Class := { plain "java/lang/Cloneable" (some 0) with
  accessFlags := 1537
  interfaces := #[]
  cf := some (fileOf pool16 2 #[] #[] 1537 4 #[] #[])
  fields := #[]
  methods := #[]
  instanceTypes := #[]
  staticTypes := #[]
  resolved := Array.replicate 8 none
  statics := none }

/-- the primitive byte -/
def k17 : Class := { plain "byte" none with kind := .primitive 'B', accessFlags := 0x411 }
/-- [B -/
def k18 : Class := { plain "[B" (some 0) with kind := .array 17 .byte, interfaces := #[16, 2], accessFlags := 1041 }

/-- the primitive char -/
def k19 : Class := { plain "char" none with kind := .primitive 'C', accessFlags := 0x411 }
/-- [C -/
def k20 : Class := { plain "[C" (some 0) with kind := .array 19 .char, interfaces := #[16, 2], accessFlags := 1041 }

/-- the primitive int -/
def k21 : Class := { plain "int" none with kind := .primitive 'I', accessFlags := 0x411 }
/-- [I -/
def k22 : Class := { plain "[I" (some 0) with kind := .array 21 .int, interfaces := #[16, 2], accessFlags := 1041 }

def heap : Heap := #[{ cls := 7, slots := #[.long 0, .int 1, .null, .int 0, .null, .int 0, .int 0], vm := .statics 7 },
  { cls := 13, slots := #[.null, .null, .null], vm := .statics 13 }]
def classes : Array Class := #[k0, k1, k2, k3, k4, k5, k6, k7, k8, k9, k10, k11, k12, k13, k14, k15, k16, k17, k18, k19, k20, k21, k22]
def interned : List (Array UInt16 × Addr) := []
def slotsUsed : Nat := 10
def theMethod : MethodId := ⟨1, 2⟩
def args0 : Array Value := #[.int 5, .int 3, .int 63, .int 4, .int 9]
def aboutOver (below : List Frame) : State where
  vm := { classes := classes, interned := interned.toArray }
  heap := heap
  slotsUsed := slotsUsed
  threads := #[{ frames := .invoking theMethod args0 :: below }]
def below0 : List Frame := [.native { method := ⟨0, 0⟩, args := #[] }]
def about1 : State := aboutOver below0
def p0 : Program := .bare "" "" ""
def e0 : Env := launch0.env 0 0 0
theorem w_frames : about1.frames = Frame.invoking theMethod args0 :: below0 := rfl
set_option maxRecDepth 65536 in
theorem w_args : argsFit about1.vm theMethod args0 = true := by decide +kernel
set_option maxRecDepth 65536 in
theorem w_heap : heapFits about1 = true := by decide +kernel
set_option maxRecDepth 65536 in
theorem w_runnable : about1.curStatus? = some .runnable := by decide +kernel
set_option maxRecDepth 65536 in
theorem w_alone : about1.alone = true := by decide +kernel
set_option maxRecDepth 65536 in
theorem w_named : about1.methodNamed? x = some theMethod := by decide +kernel
set_option maxRecDepth 65536 in
theorem w_hears : about1.hears theMethod below0 = true := by decide +kernel
set_option maxRecDepth 65536 in
theorem w_ripe : about1.ripe theMethod args0 below0 = true := by decide +kernel
theorem w_running : about1.status = .running := rfl
set_option maxRecDepth 65536 in
theorem w_room : about1.hasRoom e0.platform room_1 = true :=
  launch0.hasRoom_least _ room_1 (by decide +kernel) (by decide +kernel) (by decide +kernel) (by decide +kernel) (by decide +kernel) (by decide +kernel)
theorem allAtoms_all (ts : List Jvm.Cond) (a : Array Jvm.Value) (st : Jvm.State) : (allAtoms ts).before a st = ts.all (fun c => c.before a st) := by
  induction ts with
  | nil => rfl
  | cons c t ih =>
    show (Jvm.Cond.and c (allAtoms t)).before a st = _
    rw [Jvm.Cond.before_and, ih, List.all_cons]
def words1 : List Jvm.Cond := Jvm.Cond.code x code maxLocals ret :: tables_1
/-- a 'code' word, met by the world's own term for the bytes: nothing is compared byte by byte -/
theorem code_word {y : MethodName} {bytes : ByteArray} {mx : Nat} {rt : Option FieldType} {a : Array Value} {s : State} {m : MethodId} {meth : Method} {c : Code} (h1 : s.methodNamed? y = some m) (h2 : s.vm.method? m = some meth) (h3 : meth.code = some c) (h4 : c.code = bytes)
    (h5 : (c.maxLocals == mx && c.exceptionTable.isEmpty && decide (c.maxStack ≤ mostOperands) && decide (meth.sig.returnType = rt) && !meth.locks && decide (parseMethodDescriptor y.desc = some meth.sig)) = true) : (Jvm.Cond.code y bytes mx rt).before a s = true := by
  simp only [Bool.and_eq_true, beq_iff_eq, Bool.not_eq_true', decide_eq_true_eq] at h5
  obtain ⟨⟨⟨⟨⟨g1, g2⟩, g3⟩, g4⟩, g5⟩, g6⟩ := h5
  simp [Cond.before, Cond.holds, Cond.value, h1, h2, h3, h4, g1, g2, g3, g4, g5, g6]
def isCode : Jvm.Cond → Bool
  | .code _ _ _ _ => true
  | _ => false
theorem all_split {L : List Jvm.Cond} {P : Jvm.Cond → Bool} (h1 : L.all (fun c => isCode c || P c) = true) (h2 : ∀ c ∈ L.filter isCode, P c = true) : L.all P = true := by
  refine List.all_eq_true.mpr fun c hc => ?_
  have h := List.all_eq_true.mp h1 c hc
  rcases Bool.eq_false_or_eq_true (isCode c) with hi | hi
  · exact h2 c (List.mem_filter.mpr ⟨hc, hi⟩)
  · simpa [hi] using h
set_option maxRecDepth 65536 in
theorem w_c0 : (Jvm.Cond.code x code maxLocals ret).before args0 about1 = true := code_word (m := ⟨1, 2⟩) (meth := k1m2) (c := k1c2) (by decide +kernel) rfl rfl rfl (by decide +kernel)
set_option maxRecDepth 65536 in
theorem w_c1 : (Jvm.Cond.code ({ cls := "com/example/deadline/deadline/TimerCheckIdPinLaw", name := "idChar", desc := "(I)C" } : Jvm.MethodName) method_2_code (3 : Nat) (Option.some Jvm.ClassFile.FieldType.char)).before args0 about1 = true := code_word (m := ⟨1, 1⟩) (meth := k1m1) (c := k1c1) (by decide +kernel) rfl rfl rfl (by decide +kernel)
set_option maxRecDepth 65536 in
theorem w_c2 : (Jvm.Cond.code ({ cls := "java/lang/String", name := "<init>", desc := "([C)V" } : Jvm.MethodName) jdk_42_method_3_code (2 : Nat) (Option.none : Option Jvm.ClassFile.FieldType)).before args0 about1 = true := code_word (m := ⟨7, 1⟩) (meth := k7m1) (c := k7c1) (by decide +kernel) rfl rfl rfl (by decide +kernel)
set_option maxRecDepth 65536 in
theorem w_c3 : (Jvm.Cond.code ({ cls := "java/lang/String", name := "<init>", desc := "([CIILjava/lang/Void;)V" } : Jvm.MethodName) jdk_42_method_149_code (6 : Nat) (Option.none : Option Jvm.ClassFile.FieldType)).before args0 about1 = true := code_word (m := ⟨7, 7⟩) (meth := k7m7) (c := k7c7) (by decide +kernel) rfl rfl rfl (by decide +kernel)
set_option maxRecDepth 65536 in
theorem w_c4 : (Jvm.Cond.code ({ cls := "java/lang/Object", name := "<init>", desc := "()V" } : Jvm.MethodName) object_method_1_code (1 : Nat) (Option.none : Option Jvm.ClassFile.FieldType)).before args0 about1 = true := code_word (m := ⟨0, 0⟩) (meth := k0m0) (c := k0c0) (by decide +kernel) rfl rfl rfl (by decide +kernel)
set_option maxRecDepth 65536 in
theorem w_c5 : (Jvm.Cond.code ({ cls := "java/lang/StringUTF16", name := "compress", desc := "([CII)[B" } : Jvm.MethodName) jdk_52_method_16_code (6 : Nat) (Option.some (Jvm.ClassFile.FieldType.array Jvm.ClassFile.FieldType.byte))).before args0 about1 = true := code_word (m := ⟨8, 2⟩) (meth := k8m2) (c := k8c2) (by decide +kernel) rfl rfl rfl (by decide +kernel)
set_option maxRecDepth 65536 in
theorem w_c6 : (Jvm.Cond.code ({ cls := "java/lang/StringUTF16", name := "compress", desc := "([CI[BII)I" } : Jvm.MethodName) jdk_52_method_21_code (7 : Nat) (Option.some Jvm.ClassFile.FieldType.int)).before args0 about1 = true := code_word (m := ⟨8, 3⟩) (meth := k8m3) (c := k8c3) (by decide +kernel) rfl rfl rfl (by decide +kernel)
set_option maxRecDepth 65536 in
theorem w_c7 : (Jvm.Cond.code ({ cls := "java/lang/StringUTF16", name := "coderFromArrayLen", desc := "([BI)B" } : Jvm.MethodName) jdk_52_method_15_code (2 : Nat) (Option.some Jvm.ClassFile.FieldType.byte)).before args0 about1 = true := code_word (m := ⟨8, 1⟩) (meth := k8m1) (c := k8c1) (by decide +kernel) rfl rfl rfl (by decide +kernel)
set_option maxRecDepth 65536 in
theorem w_c8 : (Jvm.Cond.code ({ cls := "com/example/deadline/deadline/Timer", name := "checkId", desc := "(Ljava/lang/String;)V" } : Jvm.MethodName) prog_45_method_15_code (4 : Nat) (Option.none : Option Jvm.ClassFile.FieldType)).before args0 about1 = true := code_word (m := ⟨10, 0⟩) (meth := k10m0) (c := k10c0) (by decide +kernel) rfl rfl rfl (by decide +kernel)
set_option maxRecDepth 65536 in
theorem w_c9 : (Jvm.Cond.code ({ cls := "java/util/Objects", name := "requireNonNull", desc := "(Ljava/lang/Object;Ljava/lang/String;)Ljava/lang/Object;" } : Jvm.MethodName) jdk_31_method_11_code (2 : Nat) (Option.some (Jvm.ClassFile.FieldType.object "java/lang/Object"))).before args0 about1 = true := code_word (m := ⟨11, 1⟩) (meth := k11m1) (c := k11c1) (by decide +kernel) rfl rfl rfl (by decide +kernel)
set_option maxRecDepth 65536 in
theorem w_c10 : (Jvm.Cond.code ({ cls := "java/lang/String", name := "isEmpty", desc := "()Z" } : Jvm.MethodName) jdk_42_method_55_code (1 : Nat) (Option.some Jvm.ClassFile.FieldType.boolean)).before args0 about1 = true := code_word (m := ⟨7, 3⟩) (meth := k7m3) (c := k7c3) (by decide +kernel) rfl rfl rfl (by decide +kernel)
set_option maxRecDepth 65536 in
theorem w_c11 : (Jvm.Cond.code ({ cls := "java/lang/String", name := "length", desc := "()I" } : Jvm.MethodName) jdk_42_method_54_code (1 : Nat) (Option.some Jvm.ClassFile.FieldType.int)).before args0 about1 = true := code_word (m := ⟨7, 2⟩) (meth := k7m2) (c := k7c2) (by decide +kernel) rfl rfl rfl (by decide +kernel)
set_option maxRecDepth 65536 in
theorem w_c12 : (Jvm.Cond.code ({ cls := "java/lang/String", name := "coder", desc := "()B" } : Jvm.MethodName) jdk_42_method_152_code (1 : Nat) (Option.some Jvm.ClassFile.FieldType.byte)).before args0 about1 = true := code_word (m := ⟨7, 8⟩) (meth := k7m8) (c := k7c8) (by decide +kernel) rfl rfl rfl (by decide +kernel)
set_option maxRecDepth 65536 in
theorem w_c13 : (Jvm.Cond.code ({ cls := "java/lang/String", name := "charAt", desc := "(I)C" } : Jvm.MethodName) jdk_42_method_56_code (2 : Nat) (Option.some Jvm.ClassFile.FieldType.char)).before args0 about1 = true := code_word (m := ⟨7, 4⟩) (meth := k7m4) (c := k7c4) (by decide +kernel) rfl rfl rfl (by decide +kernel)
set_option maxRecDepth 65536 in
theorem w_c14 : (Jvm.Cond.code ({ cls := "java/lang/String", name := "isLatin1", desc := "()Z" } : Jvm.MethodName) jdk_42_method_154_code (1 : Nat) (Option.some Jvm.ClassFile.FieldType.boolean)).before args0 about1 = true := code_word (m := ⟨7, 9⟩) (meth := k7m9) (c := k7c9) (by decide +kernel) rfl rfl rfl (by decide +kernel)
set_option maxRecDepth 65536 in
theorem w_c15 : (Jvm.Cond.code ({ cls := "java/lang/StringLatin1", name := "charAt", desc := "([BI)C" } : Jvm.MethodName) jdk_43_method_2_code (2 : Nat) (Option.some Jvm.ClassFile.FieldType.char)).before args0 about1 = true := code_word (m := ⟨12, 1⟩) (meth := k12m1) (c := k12c1) (by decide +kernel) rfl rfl rfl (by decide +kernel)
set_option maxRecDepth 65536 in
theorem w_c16 : (Jvm.Cond.code ({ cls := "java/lang/String", name := "checkIndex", desc := "(II)V" } : Jvm.MethodName) jdk_42_method_155_code (2 : Nat) (Option.none : Option Jvm.ClassFile.FieldType)).before args0 about1 = true := code_word (m := ⟨7, 10⟩) (meth := k7m10) (c := k7c10) (by decide +kernel) rfl rfl rfl (by decide +kernel)
set_option maxRecDepth 65536 in
theorem w_c17 : (Jvm.Cond.code ({ cls := "jdk/internal/util/Preconditions", name := "checkIndex", desc := "(IILjava/util/function/BiFunction;)I" } : Jvm.MethodName) jdk_41_method_11_code (3 : Nat) (Option.some Jvm.ClassFile.FieldType.int)).before args0 about1 = true := code_word (m := ⟨13, 1⟩) (meth := k13m1) (c := k13c1) (by decide +kernel) rfl rfl rfl (by decide +kernel)
set_option maxRecDepth 65536 in
theorem w_c18 : (Jvm.Cond.code ({ cls := "java/lang/String", name := "indexOf", desc := "(I)I" } : Jvm.MethodName) jdk_42_method_79_code (2 : Nat) (Option.some Jvm.ClassFile.FieldType.int)).before args0 about1 = true := code_word (m := ⟨7, 5⟩) (meth := k7m5) (c := k7c5) (by decide +kernel) rfl rfl rfl (by decide +kernel)
set_option maxRecDepth 65536 in
theorem w_c19 : (Jvm.Cond.code ({ cls := "java/lang/String", name := "indexOf", desc := "(II)I" } : Jvm.MethodName) jdk_42_method_80_code (3 : Nat) (Option.some Jvm.ClassFile.FieldType.int)).before args0 about1 = true := code_word (m := ⟨7, 6⟩) (meth := k7m6) (c := k7c6) (by decide +kernel) rfl rfl rfl (by decide +kernel)
set_option maxRecDepth 65536 in
theorem w_c20 : (Jvm.Cond.code ({ cls := "java/lang/StringLatin1", name := "indexOf", desc := "([BIII)I" } : Jvm.MethodName) jdk_43_method_22_code (4 : Nat) (Option.some Jvm.ClassFile.FieldType.int)).before args0 about1 = true := code_word (m := ⟨12, 3⟩) (meth := k12m3) (c := k12c3) (by decide +kernel) rfl rfl rfl (by decide +kernel)
set_option maxRecDepth 65536 in
theorem w_c21 : (Jvm.Cond.code ({ cls := "java/lang/StringLatin1", name := "canEncode", desc := "(I)Z" } : Jvm.MethodName) jdk_43_method_4_code (1 : Nat) (Option.some Jvm.ClassFile.FieldType.boolean)).before args0 about1 = true := code_word (m := ⟨12, 2⟩) (meth := k12m2) (c := k12c2) (by decide +kernel) rfl rfl rfl (by decide +kernel)
set_option maxRecDepth 65536 in
theorem w_c22 : (Jvm.Cond.code ({ cls := "java/lang/Math", name := "max", desc := "(II)I" } : Jvm.MethodName) jdk_29_method_65_code (2 : Nat) (Option.some Jvm.ClassFile.FieldType.int)).before args0 about1 = true := code_word (m := ⟨14, 1⟩) (meth := k14m1) (c := k14c1) (by decide +kernel) rfl rfl rfl (by decide +kernel)
set_option maxRecDepth 65536 in
theorem w_c23 : (Jvm.Cond.code ({ cls := "java/lang/Math", name := "min", desc := "(II)I" } : Jvm.MethodName) jdk_29_method_69_code (2 : Nat) (Option.some Jvm.ClassFile.FieldType.int)).before args0 about1 = true := code_word (m := ⟨14, 2⟩) (meth := k14m2) (c := k14c2) (by decide +kernel) rfl rfl rfl (by decide +kernel)
set_option maxRecDepth 65536 in
theorem w_c24 : (Jvm.Cond.code ({ cls := "java/lang/StringLatin1", name := "indexOfChar", desc := "([BIII)I" } : Jvm.MethodName) jdk_43_method_23_code (6 : Nat) (Option.some Jvm.ClassFile.FieldType.int)).before args0 about1 = true := code_word (m := ⟨12, 4⟩) (meth := k12m4) (c := k12c4) (by decide +kernel) rfl rfl rfl (by decide +kernel)
def codes1 : List Jvm.Cond := [Jvm.Cond.code x code maxLocals ret, Jvm.Cond.code ({ cls := "com/example/deadline/deadline/TimerCheckIdPinLaw", name := "idChar", desc := "(I)C" } : Jvm.MethodName) method_2_code (3 : Nat) (Option.some Jvm.ClassFile.FieldType.char), Jvm.Cond.code ({ cls := "java/lang/String", name := "<init>", desc := "([C)V" } : Jvm.MethodName) jdk_42_method_3_code (2 : Nat) (Option.none : Option Jvm.ClassFile.FieldType), Jvm.Cond.code ({ cls := "java/lang/String", name := "<init>", desc := "([CIILjava/lang/Void;)V" } : Jvm.MethodName) jdk_42_method_149_code (6 : Nat) (Option.none : Option Jvm.ClassFile.FieldType), Jvm.Cond.code ({ cls := "java/lang/Object", name := "<init>", desc := "()V" } : Jvm.MethodName) object_method_1_code (1 : Nat) (Option.none : Option Jvm.ClassFile.FieldType), Jvm.Cond.code ({ cls := "java/lang/StringUTF16", name := "compress", desc := "([CII)[B" } : Jvm.MethodName) jdk_52_method_16_code (6 : Nat) (Option.some (Jvm.ClassFile.FieldType.array Jvm.ClassFile.FieldType.byte)), Jvm.Cond.code ({ cls := "java/lang/StringUTF16", name := "compress", desc := "([CI[BII)I" } : Jvm.MethodName) jdk_52_method_21_code (7 : Nat) (Option.some Jvm.ClassFile.FieldType.int), Jvm.Cond.code ({ cls := "java/lang/StringUTF16", name := "coderFromArrayLen", desc := "([BI)B" } : Jvm.MethodName) jdk_52_method_15_code (2 : Nat) (Option.some Jvm.ClassFile.FieldType.byte), Jvm.Cond.code ({ cls := "com/example/deadline/deadline/Timer", name := "checkId", desc := "(Ljava/lang/String;)V" } : Jvm.MethodName) prog_45_method_15_code (4 : Nat) (Option.none : Option Jvm.ClassFile.FieldType), Jvm.Cond.code ({ cls := "java/util/Objects", name := "requireNonNull", desc := "(Ljava/lang/Object;Ljava/lang/String;)Ljava/lang/Object;" } : Jvm.MethodName) jdk_31_method_11_code (2 : Nat) (Option.some (Jvm.ClassFile.FieldType.object "java/lang/Object")), Jvm.Cond.code ({ cls := "java/lang/String", name := "isEmpty", desc := "()Z" } : Jvm.MethodName) jdk_42_method_55_code (1 : Nat) (Option.some Jvm.ClassFile.FieldType.boolean), Jvm.Cond.code ({ cls := "java/lang/String", name := "length", desc := "()I" } : Jvm.MethodName) jdk_42_method_54_code (1 : Nat) (Option.some Jvm.ClassFile.FieldType.int), Jvm.Cond.code ({ cls := "java/lang/String", name := "coder", desc := "()B" } : Jvm.MethodName) jdk_42_method_152_code (1 : Nat) (Option.some Jvm.ClassFile.FieldType.byte), Jvm.Cond.code ({ cls := "java/lang/String", name := "charAt", desc := "(I)C" } : Jvm.MethodName) jdk_42_method_56_code (2 : Nat) (Option.some Jvm.ClassFile.FieldType.char), Jvm.Cond.code ({ cls := "java/lang/String", name := "isLatin1", desc := "()Z" } : Jvm.MethodName) jdk_42_method_154_code (1 : Nat) (Option.some Jvm.ClassFile.FieldType.boolean), Jvm.Cond.code ({ cls := "java/lang/StringLatin1", name := "charAt", desc := "([BI)C" } : Jvm.MethodName) jdk_43_method_2_code (2 : Nat) (Option.some Jvm.ClassFile.FieldType.char), Jvm.Cond.code ({ cls := "java/lang/String", name := "checkIndex", desc := "(II)V" } : Jvm.MethodName) jdk_42_method_155_code (2 : Nat) (Option.none : Option Jvm.ClassFile.FieldType), Jvm.Cond.code ({ cls := "jdk/internal/util/Preconditions", name := "checkIndex", desc := "(IILjava/util/function/BiFunction;)I" } : Jvm.MethodName) jdk_41_method_11_code (3 : Nat) (Option.some Jvm.ClassFile.FieldType.int), Jvm.Cond.code ({ cls := "java/lang/String", name := "indexOf", desc := "(I)I" } : Jvm.MethodName) jdk_42_method_79_code (2 : Nat) (Option.some Jvm.ClassFile.FieldType.int), Jvm.Cond.code ({ cls := "java/lang/String", name := "indexOf", desc := "(II)I" } : Jvm.MethodName) jdk_42_method_80_code (3 : Nat) (Option.some Jvm.ClassFile.FieldType.int), Jvm.Cond.code ({ cls := "java/lang/StringLatin1", name := "indexOf", desc := "([BIII)I" } : Jvm.MethodName) jdk_43_method_22_code (4 : Nat) (Option.some Jvm.ClassFile.FieldType.int), Jvm.Cond.code ({ cls := "java/lang/StringLatin1", name := "canEncode", desc := "(I)Z" } : Jvm.MethodName) jdk_43_method_4_code (1 : Nat) (Option.some Jvm.ClassFile.FieldType.boolean), Jvm.Cond.code ({ cls := "java/lang/Math", name := "max", desc := "(II)I" } : Jvm.MethodName) jdk_29_method_65_code (2 : Nat) (Option.some Jvm.ClassFile.FieldType.int), Jvm.Cond.code ({ cls := "java/lang/Math", name := "min", desc := "(II)I" } : Jvm.MethodName) jdk_29_method_69_code (2 : Nat) (Option.some Jvm.ClassFile.FieldType.int), Jvm.Cond.code ({ cls := "java/lang/StringLatin1", name := "indexOfChar", desc := "([BIII)I" } : Jvm.MethodName) jdk_43_method_23_code (6 : Nat) (Option.some Jvm.ClassFile.FieldType.int)]
set_option maxRecDepth 65536 in
theorem codes_eq : words1.filter isCode = codes1 := rfl
theorem w_codes : ∀ c ∈ words1.filter isCode, c.before args0 about1 = true := by
  rw [codes_eq]
  intro c hc
  simp only [codes1, List.mem_cons, List.not_mem_nil, or_false] at hc
  rcases hc with rfl | rfl | rfl | rfl | rfl | rfl | rfl | rfl | rfl | rfl | rfl | rfl | rfl | rfl | rfl | rfl | rfl | rfl | rfl | rfl | rfl | rfl | rfl | rfl | rfl
  · exact w_c0
  · exact w_c1
  · exact w_c2
  · exact w_c3
  · exact w_c4
  · exact w_c5
  · exact w_c6
  · exact w_c7
  · exact w_c8
  · exact w_c9
  · exact w_c10
  · exact w_c11
  · exact w_c12
  · exact w_c13
  · exact w_c14
  · exact w_c15
  · exact w_c16
  · exact w_c17
  · exact w_c18
  · exact w_c19
  · exact w_c20
  · exact w_c21
  · exact w_c22
  · exact w_c23
  · exact w_c24
set_option maxRecDepth 65536 in
theorem w_t1 : (words1.take 24).all (fun c => isCode c || c.before args0 about1) = true := by decide +kernel
set_option maxRecDepth 65536 in
theorem w_t2 : ((words1.drop 24).take 24).all (fun c => isCode c || c.before args0 about1) = true := by decide +kernel
set_option maxRecDepth 65536 in
theorem w_t3 : (((words1.drop 24).drop 24).take 24).all (fun c => isCode c || c.before args0 about1) = true := by decide +kernel
set_option maxRecDepth 65536 in
theorem w_t4 : ((((words1.drop 24).drop 24).drop 24).take 24).all (fun c => isCode c || c.before args0 about1) = true := by decide +kernel
set_option maxRecDepth 65536 in
theorem w_t5 : ((((words1.drop 24).drop 24).drop 24).drop 24).all (fun c => isCode c || c.before args0 about1) = true := by decide +kernel
theorem w_tables : (allAtoms (Jvm.Cond.code x code maxLocals ret :: tables_1)).before args0 about1 = true := by
  rw [allAtoms_all]
  show words1.all (fun c => c.before args0 about1) = true
  refine all_split ?_ w_codes
  rw [← List.take_append_drop 24 words1, List.all_append, w_t1, ← List.take_append_drop 24 (words1.drop 24), List.all_append, w_t2, ← List.take_append_drop 24 ((words1.drop 24).drop 24), List.all_append, w_t3, ← List.take_append_drop 24 (((words1.drop 24).drop 24).drop 24), List.all_append, w_t4, w_t5]
  rfl
set_option maxRecDepth 65536 in
theorem w_rest : rest_1_c.before args0 about1 = true := by decide +kernel
set_option maxRecDepth 65536 in
theorem w_case : (Jvm.Cond.and given_1 narrow_1).before args0 about1 = true := by decide +kernel
set_option maxRecDepth 65536 in
theorem w_consts : constsHeld consts_1 about1 := Jvm.Lit.constsHeldB_iff.mp (by decide +kernel)
theorem w_applies : (headSpec (Jvm.Cond.code x code maxLocals ret :: tables_1) room_1).applies x e0.platform about1 = true :=
  (Spec.applies_iff w_frames).mpr ⟨w_running, w_runnable, w_alone, w_named, w_hears, w_ripe, w_room, w_tables⟩
theorem atStart : AtStart classFile x code maxLocals ret World_1 tables_1 room_1 Calls_1 rest_1 Pre_1 launch0 p0 e0 about1 theMethod args0 below0 :=
  ⟨lists_1, trivial, launch0.admits_env _ _ _, launch0.least_env, fairChoices_fair.cas, fairChoices_fair.clock, w_frames, w_args, w_heap, w_applies, ⟨w_consts, trivial⟩, w_rest, w_case⟩
end start1
theorem witness_1 : WitnessClaimed_1 := ⟨start1.p0, start1.e0, start1.about1, start1.theMethod, start1.args0, start1.below0, start1.atStart⟩
end Jvm.Pilot.@@N@@
