import JvmDerived
import JvmDerived.Pilot.@@N@@Statement
import JvmDerived.Pilot.@@N@@Code
set_option linter.unusedVariables false
set_option linter.unusedSimpArgs false
namespace Jvm.RoadKit
open Sem ClassFile Op Lib Jvm.Stand Jvm.Free Jvm.LawKit
section New
variable {p : Program} {l : Launch} {e : Env} {R : Room} {s : State} {m : MethodId} {args : Array Value} {below : List Frame} {meth : Method} {c : Code} {T : State} {locs : List Loc} {cells slots : Nat}
theorem retI (X : Stand p l e R s m args below meth c T locs cells slots) (hx : p.tables.exec = Jvm.exec) {pc : Nat} {Ls : Array Slot} {z : Int32} {rest : List Value} (hret : meth.sig.returnType = some .int) (hd : decode c.code pc = .ok (.ireturn, 1)) {fs : List Frame}
    (hl : ∀ (f : JFrame) (acts : List Action), f.method = m → f.locked = none → f.entered = [] → (doReturn e (T.setTop f) acts (some (.int z))).1 = T.setFrames fs) : Steps p.tables e below (T.setTop (mkF m pc Ls (.int z :: rest))) (T.setFrames fs) := by
  have hm' : T.vm.method? m = some meth := X.method'
  have hn : narrow .int (.int z) = .int z := rfl
  show Steps p.tables e below (T.setTop { method := m, pc := pc, locals := Ls, stack := _ :: rest, locked := none }) _
  jvm_step X.here [X.here.top, hx, hd, hm', hret, hn]
  first | (intro acts; rw [hl _ acts rfl rfl rfl]) | rw [hl _ _ rfl rfl rfl]
  exact Steps.refl _
end New
end Jvm.RoadKit
/- laws to paste: Road.backV, Road.chN (cut by pick.py; bodies as the Statement names them) -/
namespace Jvm.Pilot.@@N@@
namespace StrChars
open Jvm Sem ClassFile Op Lib Jvm.Stand Jvm.Free.XT Jvm.Free.ALB Jvm.Free.JM Jvm.Free
open Jvm.Lib.Cold (StaticIs)
/-- a char array whose places are chars -/
def Ch (a : Addr) (A : Cell) (U : State) : Prop := Arr .char a A U ∧ Typed .char A
theorem Ch.mv {a : Addr} {A : Cell} {U U' : State} (h : Ch a A U) (hal : U.vm.Alike U'.vm) (hh : U'.heap = U.heap) : Ch a A U' := ⟨h.1.mv hal hh, h.2⟩
theorem Ch.keep {a : Addr} {A : Cell} {U U' : State} (h : Ch a A U) (hal : U.vm.Alike U'.vm) (hk : U'.heap[a]? = some A) : Ch a A U' := ⟨h.1.keep hal hk, h.2⟩
/-- what place i of a char[]'s cell holds -/
def cv (A : Cell) (i : Nat) : Int32 := match A.slots[i]? with | some (.int x) => x | _ => 0
theorem Ch.get {a : Addr} {A : Cell} {U : State} (h : Ch a A U) {i : Nat} (hi : i < A.slots.size) : A.slots[i]? = some (.int (cv A i)) := by
  have e := Array.getElem?_eq_getElem hi
  have f := h.2 i _ e
  unfold cv; rw [e]
  generalize A.slots[i] = v at f
  cases v <;> simp [fits] at f ⊢
/-- the byte that i2b leaves of a char -/
def lo8 (x : Int32) : Int32 := x.toInt8.toInt32
theorem fits_lo8 (y : Int32) : fits .byte (.int (lo8 y)) = true := by
  have h1 := y.toInt8.le_toInt
  have h2 := y.toInt8.toInt_lt
  simp only [lo8, fits, Bool.and_eq_true, decide_eq_true_eq, Int32.le_iff_toInt_le, Int8.toInt_toInt32, show (-128 : Int32).toInt = -128 from by decide, show (127 : Int32).toInt = 127 from by decide]
  omega
/-- A' is A but that each place j of lo .. hi - 1 holds f j -/
def Laid (A A' : Cell) (lo hi : Nat) (f : Nat → Value) : Prop := A'.cls = A.cls ∧ A'.vm = A.vm ∧ A'.slots.size = A.slots.size ∧ ∀ i, A'.slots[i]? = if lo ≤ i ∧ i < hi then some (f i) else A.slots[i]?
theorem Laid.zero (A : Cell) (lo : Nat) (f : Nat → Value) : Laid A A lo (lo + 0) f := ⟨rfl, rfl, rfl, fun i => by rw [if_neg (by omega)]⟩
theorem Laid.step {A Ak : Cell} {lo k : Nat} {f : Nat → Value} {v : Value} (h : Laid A Ak lo k f) (hlo : lo ≤ k) (hk : k < Ak.slots.size) (hv : v = f k) : Laid A (Ak.setSlot k v) lo (k + 1) f := by
  refine ⟨h.1, h.2.1, by simpa [Cell.setSlot] using h.2.2.1, fun i => ?_⟩
  by_cases e : k = i
  · subst e; rw [Cell.slots_setSlot_self v hk, if_pos (by omega), hv]
  · rw [Cell.slots_setSlot_ne v e, h.2.2.2 i]
    by_cases q : lo ≤ i ∧ i < k
    · rw [if_pos q, if_pos (by omega)]
    · rw [if_neg q, if_neg (by omega)]
def U16 : String := "java/lang/StringUTF16"
namespace Cmp5
def yN : MethodName := ⟨"java/lang/StringUTF16", "compress", "([CI[BII)I"⟩
abbrev yB : ByteArray := jdk_52_method_21_code
theorem d0 : decode yB 0 = .ok (.iconst 0, 1) := by decide +kernel
theorem d1 : decode yB 1 = .ok (.istore 5, 2) := by decide +kernel
theorem d3 : decode yB 3 = .ok (.iload 5, 2) := by decide +kernel
theorem d5 : decode yB 5 = .ok (.iload 4, 2) := by decide +kernel
theorem d7 : decode yB 7 = .ok (.if_icmp (.ge) 37, 3) := by decide +kernel
theorem d10 : decode yB 10 = .ok (.aload_n 0, 1) := by decide +kernel
theorem d11 : decode yB 11 = .ok (.iload_n 1, 1) := by decide +kernel
theorem d12 : decode yB 12 = .ok (.caload, 1) := by decide +kernel
theorem d13 : decode yB 13 = .ok (.istore 6, 2) := by decide +kernel
theorem d15 : decode yB 15 = .ok (.iload 6, 2) := by decide +kernel
theorem d17 : decode yB 17 = .ok (.sipush 255, 3) := by decide +kernel
theorem d20 : decode yB 20 = .ok (.if_icmp (.le) 6, 3) := by decide +kernel
theorem d26 : decode yB 26 = .ok (.aload_n 2, 1) := by decide +kernel
theorem d27 : decode yB 27 = .ok (.iload_n 3, 1) := by decide +kernel
theorem d28 : decode yB 28 = .ok (.iload 6, 2) := by decide +kernel
theorem d30 : decode yB 30 = .ok (.i2b, 1) := by decide +kernel
theorem d31 : decode yB 31 = .ok (.bastore, 1) := by decide +kernel
theorem d32 : decode yB 32 = .ok (.iinc 1 1, 3) := by decide +kernel
theorem d35 : decode yB 35 = .ok (.iinc 3 1, 3) := by decide +kernel
theorem d38 : decode yB 38 = .ok (.iinc 5 1, 3) := by decide +kernel
theorem d41 : decode yB 41 = .ok (.goto (-38), 3) := by decide +kernel
theorem d44 : decode yB 44 = .ok (.iload 4, 2) := by decide +kernel
theorem d46 : decode yB 46 = .ok (.ireturn, 1) := by decide +kernel
def site : List Cond := []
def tab : Cond := tabOf yN yB 7 (some .int) site
def P (b : Addr) (A : Cell) (d : Addr) (B : Cell) (o q len : Nat) (args : Array Value) (s : State) : Prop := args = #[.ref b, .int (Int32.ofNat o), .ref d, .int (Int32.ofNat q), .int (Int32.ofNat len)] ∧ Ch b A s ∧ Arr .byte d B s ∧ b ≠ d ∧ o + len ≤ A.slots.size ∧ q + len ≤ B.slots.size ∧ ∀ i, i < len → ¬ 255 < cv A (o + i)
def E (b : Addr) (A : Cell) (d : Addr) (B : Cell) (o q len : Nat) (r : Option Value) (s u : State) : Prop := r = some (.int (Int32.ofNat len)) ∧ ∃ B', Put d B' s u ∧ Laid B B' q (q + len) (fun j => Value.int (lo8 (cv A (o + (j - q)))))
/-- no char of the range above 255: len; the places written hold each char's low byte -/
theorem law (l : Launch) (b : Addr) (A : Cell) (d : Addr) (B : Cell) (o q len : Nat) : Law l yN 5 5 0 0 yB 7 (some .int) site (P b A d B o q len) (E b A d B o q len) (copyLocs d q len) 0 0 := by
  refine Law.of_walk (plainFor_of_name (by decide +kernel)) (by decide +kernel) (by decide +kernel) (by decide) (fun _ _ h => by rw [h.1]; rfl) (fun _ U U' hal hh h => ⟨h.1, h.2.1.mv hal hh, h.2.2.1.mv hal hh, h.2.2.2⟩) (fun r U U' V V' h1 hal h2 h => ⟨h.1, h.2.elim fun B' q => ⟨B', q.1.mv h1 h2, q.2⟩⟩) ?_
  intro p e s m args below meth c s₁ X0 hexec hbytes hml hret hlk hnm hown hh0 W hP
  obtain ⟨rfl, hA, hB, hne, l1, l2, hp⟩ := hP
  have c1 : Steps p.tables e below (s₁.setTop (entryFrame m #[.ref b, .int (Int32.ofNat o), .ref d, .int (Int32.ofNat q), .int (Int32.ofNat len)] 7)) (s₁.setTop (mkF m 0 #[.val (.ref b), .val (.int (Int32.ofNat o)), .val (.ref d), .val (.int (Int32.ofNat q)), .val (.int (Int32.ofNat len)), .unset, .unset] [])) := entry rfl
  have hA0 := hA.1.mv X0.warmed.alike hh0
  have hB0 := hB.mv X0.warmed.alike hh0
  have a31 := hA.1.2.2.2
  have c2 : Steps p.tables e below (s₁.setTop (entryFrame m #[.ref b, .int (Int32.ofNat o), .ref d, .int (Int32.ofNat q), .int (Int32.ofNat len)] 7)) (s₁.setTop (mkF m 3 #[.val (.ref b), .val (.int (Int32.ofNat o)), .val (.ref d), .val (.int (Int32.ofNat q)), .val (.int (Int32.ofNat len)), .val (.int 0), .unset] [])) := c1.trans (by
    refine iconstV X0.here hexec rfl 0 (hb hbytes d0) (by decide) ?_
    refine XS.istore X0.here hexec rfl (hb hbytes d1) rfl rfl ?_
    exact Steps.refl _)
  have loop : ∀ (r i : Nat), i + r = len → ∀ (z : Slot), (z = .unset ∨ ∃ w, z = .val w ∧ w.category = 1) → ∀ (Tl : State) (Bk : Cell), Stand p l e { frames := 0, locals := 0, cells := 0, slots := 0 } s m #[.ref b, .int (Int32.ofNat o), .ref d, .int (Int32.ofNat q), .int (Int32.ofNat len)] below meth c Tl ([] ++ copyLocs d q i) 0 0 → Put d Bk s₁ Tl → Laid B Bk q (q + i) (fun j => Value.int (lo8 (cv A (o + (j - q))))) →
      Steps p.tables e below (s₁.setTop (entryFrame m #[.ref b, .int (Int32.ofNat o), .ref d, .int (Int32.ofNat q), .int (Int32.ofNat len)] 7)) (Tl.setTop (mkF m 3 #[.val (.ref b), .val (.int (Int32.ofNat (o + i))), .val (.ref d), .val (.int (Int32.ofNat (q + i))), .val (.int (Int32.ofNat len)), .val (.int (Int32.ofNat i)), z] [])) → ∃ (T' : State) (B' : Cell) (z' : Slot), Stand p l e { frames := 0, locals := 0, cells := 0, slots := 0 } s m #[.ref b, .int (Int32.ofNat o), .ref d, .int (Int32.ofNat q), .int (Int32.ofNat len)] below meth c T' ([] ++ copyLocs d q len) 0 0 ∧ Put d B' s₁ T' ∧ Laid B B' q (q + len) (fun j => Value.int (lo8 (cv A (o + (j - q))))) ∧
      Steps p.tables e below (s₁.setTop (entryFrame m #[.ref b, .int (Int32.ofNat o), .ref d, .int (Int32.ofNat q), .int (Int32.ofNat len)] 7)) (T'.setTop (mkF m 3 #[.val (.ref b), .val (.int (Int32.ofNat (o + len))), .val (.ref d), .val (.int (Int32.ofNat (q + len))), .val (.int (Int32.ofNat len)), .val (.int (Int32.ofNat len)), z'] [])) := by
    intro r
    induction r with
    | zero =>
      intro i hi z hz Tl Bk Xl pl fl cl
      have hil : i = len := by omega
      rw [hil] at Xl fl cl
      exact ⟨Tl, Bk, z, Xl, pl, fl, cl⟩
    | succ r ih =>
      intro i hi z hz Tl Bk Xl pl fl cl
      have all := X0.warmed.alike.symm.trans Xl.warmed.alike
      have hAl := hA0.keep all (pl.other hne hA0.1)
      have hBk := hB0.like all pl.1 fl.1 fl.2.1 fl.2.2.1
      have hlt : q + i < Bk.slots.size := by rw [fl.2.2.1]; omega
      have c3 : Steps p.tables e below (s₁.setTop (entryFrame m #[.ref b, .int (Int32.ofNat o), .ref d, .int (Int32.ofNat q), .int (Int32.ofNat len)] 7)) (Tl.setTop (mkF m 12 #[.val (.ref b), .val (.int (Int32.ofNat (o + i))), .val (.ref d), .val (.int (Int32.ofNat (q + i))), .val (.int (Int32.ofNat len)), .val (.int (Int32.ofNat i)), z] [.int (Int32.ofNat (o + i)), .ref b])) := cl.trans (by
        refine XS.iload Xl.here hexec rfl (hb hbytes d3) rfl ?_
        refine XS.iload Xl.here hexec rfl (hb hbytes d5) rfl ?_
        refine XS.icmpNo Xl.here hexec rfl (hb hbytes d7) rfl (ii_ge_f (lt32 (by omega) (by omega))) ?_
        refine XS.aloadN Xl.here hexec rfl (hb hbytes d10) rfl rfl ?_
        refine XS.iloadN Xl.here hexec rfl (hb hbytes d11) rfl ?_
        exact Steps.refl _)
      have c4 : Steps p.tables e below (s₁.setTop (entryFrame m #[.ref b, .int (Int32.ofNat o), .ref d, .int (Int32.ofNat q), .int (Int32.ofNat len)] 7)) (Tl.setTop (mkF m 13 #[.val (.ref b), .val (.int (Int32.ofNat (o + i))), .val (.ref d), .val (.int (Int32.ofNat (q + i))), .val (.int (Int32.ofNat len)), .val (.int (Int32.ofNat i)), z] [.int (cv A (o + i))])) := c3.trans (by
        refine Xl.aget hexec hAl rfl (hA.get (i := o + i) (by omega)) rfl rfl (hb hbytes d12) ?_
        exact Steps.refl _)
      have c5 : Steps p.tables e below (s₁.setTop (entryFrame m #[.ref b, .int (Int32.ofNat o), .ref d, .int (Int32.ofNat q), .int (Int32.ofNat len)] 7)) (Tl.setTop (mkF m 15 #[.val (.ref b), .val (.int (Int32.ofNat (o + i))), .val (.ref d), .val (.int (Int32.ofNat (q + i))), .val (.int (Int32.ofNat len)), .val (.int (Int32.ofNat i)), .val (.int (cv A (o + i)))] [])) := c4.trans (by
        refine XS.istoreS Xl.here hexec rfl (hb hbytes d13) rfl rfl hz ?_
        exact Steps.refl _)
      have c6 : Steps p.tables e below (s₁.setTop (entryFrame m #[.ref b, .int (Int32.ofNat o), .ref d, .int (Int32.ofNat q), .int (Int32.ofNat len)] 7)) (Tl.setTop (mkF m 31 #[.val (.ref b), .val (.int (Int32.ofNat (o + i))), .val (.ref d), .val (.int (Int32.ofNat (q + i))), .val (.int (Int32.ofNat len)), .val (.int (Int32.ofNat i)), .val (.int (cv A (o + i)))] [.int (lo8 (cv A (o + i))), .int (Int32.ofNat (q + i)), .ref d])) := c5.trans (by
        refine XS.iload Xl.here hexec rfl (hb hbytes d15) rfl ?_
        refine sipushV Xl.here hexec rfl 255 (hb hbytes d17) (by decide) ?_
        refine XS.icmpYes Xl.here hexec rfl (pc0 := 20) rfl (hb hbytes d20) rfl (ii_le_t (hp i (by omega))) (by decide) rfl ?_
        refine XS.aloadN Xl.here hexec rfl (hb hbytes d26) rfl rfl ?_
        refine XS.iloadN Xl.here hexec rfl (hb hbytes d27) rfl ?_
        refine XS.iload Xl.here hexec rfl (hb hbytes d28) rfl ?_
        refine i2b Xl.here hexec rfl (hb hbytes d30) rfl ?_
        exact Steps.refl _)
      obtain ⟨T7, X7, p7, st7⟩ := Xl.aput hexec hBk rfl hlt rfl (fits_lo8 (cv A (o + i))) (g := (mkF m 31 #[.val (.ref b), .val (.int (Int32.ofNat (o + i))), .val (.ref d), .val (.int (Int32.ofNat (q + i))), .val (.int (Int32.ofNat len)), .val (.int (Int32.ofNat i)), .val (.int (cv A (o + i)))] [.int (lo8 (cv A (o + i))), .int (Int32.ofNat (q + i)), .ref d])) rfl (rest := []) rfl (hb hbytes d31)
      have c8 : Steps p.tables e below (s₁.setTop (entryFrame m #[.ref b, .int (Int32.ofNat o), .ref d, .int (Int32.ofNat q), .int (Int32.ofNat len)] 7)) (T7.setTop (mkF m 32 #[.val (.ref b), .val (.int (Int32.ofNat (o + i))), .val (.ref d), .val (.int (Int32.ofNat (q + i))), .val (.int (Int32.ofNat len)), .val (.int (Int32.ofNat i)), .val (.int (cv A (o + i)))] [])) := c6.trans (st7 _ (Steps.refl _))
      have c9 : Steps p.tables e below (s₁.setTop (entryFrame m #[.ref b, .int (Int32.ofNat o), .ref d, .int (Int32.ofNat q), .int (Int32.ofNat len)] 7)) (T7.setTop (mkF m 3 #[.val (.ref b), .val (.int (Int32.ofNat (o + i) + 1)), .val (.ref d), .val (.int (Int32.ofNat (q + i) + 1)), .val (.int (Int32.ofNat len)), .val (.int (Int32.ofNat i + 1)), .val (.int (cv A (o + i)))] [])) := c8.trans (by
        refine iincV X7.here hexec rfl 1 (hb hbytes d32) (by decide) rfl rfl ?_
        refine iincV X7.here hexec rfl 1 (hb hbytes d35) (by decide) rfl rfl ?_
        refine iincV X7.here hexec rfl 1 (hb hbytes d38) (by decide) rfl rfl ?_
        refine XS.goto X7.here hexec rfl (pc0 := 41) rfl (hb hbytes d41) (by decide) rfl ?_
        exact Steps.refl _)
      have c10 : Steps p.tables e below (s₁.setTop (entryFrame m #[.ref b, .int (Int32.ofNat o), .ref d, .int (Int32.ofNat q), .int (Int32.ofNat len)] 7)) (T7.setTop (mkF m 3 #[.val (.ref b), .val (.int (Int32.ofNat (o + (i + 1)))), .val (.ref d), .val (.int (Int32.ofNat (q + (i + 1)))), .val (.int (Int32.ofNat len)), .val (.int (Int32.ofNat (i + 1))), .val (.int (cv A (o + i)))] [])) := by
        have := c9
        rw [succ32, succ32, succ32] at this
        exact this
      exact ih (i + 1) (by omega) _ (Or.inr ⟨_, rfl, rfl⟩) T7 _ (by rw [copyLocs_step, ← List.append_assoc]; exact X7) (pl.trans p7) (fl.step (by omega) hlt (by simp)) c10
  obtain ⟨T9, B9, z9, X9, p9, f9, g9⟩ := loop len 0 (by omega) .unset (Or.inl rfl) s₁ B (by simpa [copyLocs] using X0) ⟨hB0.1, fun _ _ => rfl, rfl⟩ (Laid.zero _ _ _) c2
  have c11 : Steps p.tables e below (s₁.setTop (entryFrame m #[.ref b, .int (Int32.ofNat o), .ref d, .int (Int32.ofNat q), .int (Int32.ofNat len)] 7)) (T9.setTop (mkF m 46 #[.val (.ref b), .val (.int (Int32.ofNat (o + len))), .val (.ref d), .val (.int (Int32.ofNat (q + len))), .val (.int (Int32.ofNat len)), .val (.int (Int32.ofNat len)), z9] [.int (Int32.ofNat len)])) := g9.trans (by
    refine XS.iload X9.here hexec rfl (hb hbytes d3) rfl ?_
    refine XS.iload X9.here hexec rfl (hb hbytes d5) rfl ?_
    refine XS.icmpYes X9.here hexec rfl (pc0 := 7) rfl (hb hbytes d7) rfl (ii_ge_t (nlt32 (by omega) (Nat.le_refl _))) (by decide) rfl ?_
    refine XS.iload X9.here hexec rfl (hb hbytes d44) rfl ?_
    exact Steps.refl _)
  exact ⟨T9, some (.int (Int32.ofNat len)), _, _, _, X9, by simp, rfl, rfl, (fun h => by cases h), ⟨rfl, B9, p9.from hh0, f9⟩, fun fs hl => c11.trans (X9.ireturnOut hexec hret rfl (Or.inl rfl) (hb hbytes d46) hl)⟩
end Cmp5
namespace Cmp3
def yN : MethodName := ⟨"java/lang/StringUTF16", "compress", "([CII)[B"⟩
abbrev yB : ByteArray := jdk_52_method_16_code
theorem d0 : decode yB 0 = .ok (.iload_n 2, 1) := by decide +kernel
theorem d1 : decode yB 1 = .ok (.newarray .byte, 2) := by decide +kernel
theorem d3 : decode yB 3 = .ok (.astore_n 3, 1) := by decide +kernel
theorem d4 : decode yB 4 = .ok (.aload_n 0, 1) := by decide +kernel
theorem d5 : decode yB 5 = .ok (.iload_n 1, 1) := by decide +kernel
theorem d6 : decode yB 6 = .ok (.aload_n 3, 1) := by decide +kernel
theorem d7 : decode yB 7 = .ok (.iconst 0, 1) := by decide +kernel
theorem d8 : decode yB 8 = .ok (.iload_n 2, 1) := by decide +kernel
theorem d9 : decode yB 9 = .ok (.invokestatic 115, 3) := by decide +kernel
theorem d12 : decode yB 12 = .ok (.istore 4, 2) := by decide +kernel
theorem d14 : decode yB 14 = .ok (.iload 4, 2) := by decide +kernel
theorem d16 : decode yB 16 = .ok (.iload_n 2, 1) := by decide +kernel
theorem d17 : decode yB 17 = .ok (.if_icmp (.eq) 40, 3) := by decide +kernel
theorem d57 : decode yB 57 = .ok (.aload_n 3, 1) := by decide +kernel
theorem d58 : decode yB 58 = .ok (.areturn, 1) := by decide +kernel
def site : List Cond := [.arrayClass .byte, Cmp5.tab] ++ staticW U16 115 Cmp5.yN
def tab : Cond := tabOf yN yB 6 (some (.array .byte)) site
def P (b : Addr) (A : Cell) (o len : Nat) (args : Array Value) (s : State) : Prop := args = #[.ref b, .int (Int32.ofNat o), .int (Int32.ofNat len)] ∧ Ch b A s ∧ o + len ≤ A.slots.size ∧ len ≤ 536870912 ∧ ∀ i, i < len → ¬ 255 < cv A (o + i)
def E (b : Addr) (A : Cell) (o len : Nat) (r : Option Value) (s u : State) : Prop := NewArr .byte "[B" len (fun j => .int (lo8 (cv A (o + j)))) r s u ∧ u.heap.size = s.heap.size + 1
/-- no char of the range above 255: a new byte[] of their low bytes -/
theorem law (l : Launch) (b : Addr) (A : Cell) (o len : Nat) : Law l yN 3 3 1 18 yB 6 (some (.array .byte)) site (P b A o len) (E b A o len) [] 1 len := by
  refine Law.of_walk (plainFor_of_name (by decide +kernel)) (by decide +kernel) (by decide +kernel) (by decide) (fun _ _ h => by rw [h.1]; rfl) (fun _ U U' hal hh h => ⟨h.1, h.2.1.mv hal hh, h.2.2⟩) (fun r U U' V V' h1 hal h2 h => ⟨NewArr.mv r U U' V V' h1 hal h2 h.1, by rw [h1, h2]; exact h.2⟩) ?_
  intro p e s m args below meth c s₁ X0 hexec hbytes hml hret hlk hnm hown hh0 W hP
  obtain ⟨rfl, hA, l1, l2, hp⟩ := hP
  have a31 := hA.1.2.2.2
  have c1 : Steps p.tables e below (s₁.setTop (entryFrame m #[.ref b, .int (Int32.ofNat o), .int (Int32.ofNat len)] 6)) (s₁.setTop (mkF m 0 #[.val (.ref b), .val (.int (Int32.ofNat o)), .val (.int (Int32.ofNat len)), .unset, .unset, .unset] [])) := entry rfl
  have c2 : Steps p.tables e below (s₁.setTop (entryFrame m #[.ref b, .int (Int32.ofNat o), .int (Int32.ofNat len)] 6)) (s₁.setTop (mkF m 1 #[.val (.ref b), .val (.int (Int32.ofNat o)), .val (.int (Int32.ofNat len)), .unset, .unset, .unset] [.int (Int32.ofNat len)])) := c1.trans (by
    refine XS.iloadN X0.here hexec rfl (hb hbytes d0) rfl ?_
    exact Steps.refl _)
  obtain ⟨T3, B3, X3, ba3, bs3, bv3, bh3, bf3, st3⟩ := X0.anew hexec (atype := .byte) (wk W (.arrayClass .byte)) rfl (by show len * 1 ≤ _; omega) (by omega) (g := (mkF m 1 #[.val (.ref b), .val (.int (Int32.ofNat o)), .val (.int (Int32.ofNat len)), .unset, .unset, .unset] [.int (Int32.ofNat len)])) rfl (hb hbytes d1) (rest := []) rfl (Nat.le_refl _) (by show 0 + len ≤ len; omega)
  rw [hh0] at ba3 st3
  have kp3 : XT.Kept s T3 := (XT.Kept.of_eq hh0).push bh3
  have hA3 := hA.keep X3.warmed.alike (kp3 _ _ hA.1.1)
  have hne : b ≠ s.heap.size := hA.1.ne
  have c4 : Steps p.tables e below (s₁.setTop (entryFrame m #[.ref b, .int (Int32.ofNat o), .int (Int32.ofNat len)] 6)) (T3.setTop (mkF m 3 #[.val (.ref b), .val (.int (Int32.ofNat o)), .val (.int (Int32.ofNat len)), .unset, .unset, .unset] [.ref s.heap.size])) := c2.trans (st3 _ (Steps.refl _))
  have c5 : Steps p.tables e below (s₁.setTop (entryFrame m #[.ref b, .int (Int32.ofNat o), .int (Int32.ofNat len)] 6)) (T3.setTop (mkF m 9 #[.val (.ref b), .val (.int (Int32.ofNat o)), .val (.int (Int32.ofNat len)), .val (.ref s.heap.size), .unset, .unset] [.int (Int32.ofNat len), .int 0, .ref s.heap.size, .int (Int32.ofNat o), .ref b])) := c4.trans (by
    refine XS.astoreN X3.here hexec rfl (hb hbytes d3) rfl rfl rfl ?_
    refine XS.aloadN X3.here hexec rfl (hb hbytes d4) rfl rfl ?_
    refine XS.iloadN X3.here hexec rfl (hb hbytes d5) rfl ?_
    refine XS.aloadN X3.here hexec rfl (hb hbytes d6) rfl rfl ?_
    refine iconstV X3.here hexec rfl 0 (hb hbytes d7) (by decide) ?_
    refine XS.iloadN X3.here hexec rfl (hb hbytes d8) rfl ?_
    exact Steps.refl _)
  obtain ⟨v6, T6, X6, E6, g6⟩ := X3.callS hexec (Cmp5.law l b A s.heap.size B3 o 0 len) hown (wks W (staticW U16 115 Cmp5.yN)) (wk W Cmp5.tab) (W := 0) (Nat.le_of_ble_eq_true rfl) (Nat.le_of_ble_eq_true rfl) (Nat.le_refl _) (by show 0 + len + 0 ≤ len; omega) (g := (mkF m 9 #[.val (.ref b), .val (.int (Int32.ofNat o)), .val (.int (Int32.ofNat len)), .val (.ref s.heap.size), .unset, .unset] [.int (Int32.ofNat len), .int (Int32.ofNat 0), .ref s.heap.size, .int (Int32.ofNat o), .ref b])) rfl (by rw [hml]; rfl) c5 (argsL := [.ref b, .int (Int32.ofNat o), .ref s.heap.size, .int (Int32.ofNat 0), .int (Int32.ofNat len)]) (rest := []) rfl rfl (by show 2 * 0 + 0 ≤ _; decide) (hb hbytes d9) (⟨rfl, hA3, ba3, hne, l1, by rw [bs3]; simp, hp⟩)
  obtain ⟨rfl, B6, p6, f6⟩ := E6
  have c7 : Steps p.tables e below (s₁.setTop (entryFrame m #[.ref b, .int (Int32.ofNat o), .int (Int32.ofNat len)] 6)) (T6.setTop (mkF m 12 #[.val (.ref b), .val (.int (Int32.ofNat o)), .val (.int (Int32.ofNat len)), .val (.ref s.heap.size), .unset, .unset] [.int (Int32.ofNat len)])) := g6
  have c8 : Steps p.tables e below (s₁.setTop (entryFrame m #[.ref b, .int (Int32.ofNat o), .int (Int32.ofNat len)] 6)) (T6.setTop (mkF m 58 #[.val (.ref b), .val (.int (Int32.ofNat o)), .val (.int (Int32.ofNat len)), .val (.ref s.heap.size), .val (.int (Int32.ofNat len)), .unset] [.ref s.heap.size])) := c7.trans (by
    refine XS.istore X6.here hexec rfl (hb hbytes d12) rfl rfl ?_
    refine XS.iload X6.here hexec rfl (hb hbytes d14) rfl ?_
    refine XS.iloadN X6.here hexec rfl (hb hbytes d16) rfl ?_
    refine XS.icmpYes X6.here hexec rfl (pc0 := 17) rfl (hb hbytes d17) rfl (ii_eq_t rfl) (by decide) rfl ?_
    refine XS.aloadN X6.here hexec rfl (hb hbytes d57) rfl rfl ?_
    exact Steps.refl _)
  have X8 := X6.wide (L' := []) (cells' := 1) (slots' := len) (fun x hx hlt => by
    simp only [List.nil_append, copyLocs, List.mem_map, List.mem_range] at hx
    obtain ⟨i, -, rfl⟩ := hx
    exact absurd hlt (Nat.lt_irrefl _)) (Nat.le_refl _) (by omega)
  exact ⟨T6, some (.ref s.heap.size), _, _, _, X8, rfl, rfl, rfl, (fun h => by cases h), ⟨⟨rfl, B6, ba3.like (X3.warmed.alike.symm.trans X6.warmed.alike) p6.1 f6.1 f6.2.1 f6.2.2.1, f6.2.1.trans bv3, by rw [X6.warmed.alike.findClass, f6.1]; exact bf3, by rw [f6.2.2.1, bs3]; simp, fun j hj => by rw [f6.2.2.2 j, if_pos (by omega)]; rfl, kp3.put p6 (Nat.le_refl _)⟩, by rw [p6.2.2, bh3, hh0]; simp⟩, fun fs hl => c8.trans (X8.areturnOut hexec rfl hret rfl (hb hbytes d58) hl)⟩
end Cmp3
namespace CodL
def yN : MethodName := ⟨"java/lang/StringUTF16", "coderFromArrayLen", "([BI)B"⟩
abbrev yB : ByteArray := jdk_52_method_15_code
theorem d0 : decode yB 0 = .ok (.iload_n 1, 1) := by decide +kernel
theorem d1 : decode yB 1 = .ok (.aload_n 0, 1) := by decide +kernel
theorem d2 : decode yB 2 = .ok (.arraylength, 1) := by decide +kernel
theorem d3 : decode yB 3 = .ok (.isub, 1) := by decide +kernel
theorem d4 : decode yB 4 = .ok (.bipush 31, 2) := by decide +kernel
theorem d6 : decode yB 6 = .ok (.iushr, 1) := by decide +kernel
theorem d7 : decode yB 7 = .ok (.i2b, 1) := by decide +kernel
theorem d8 : decode yB 8 = .ok (.ireturn, 1) := by decide +kernel
def site : List Cond := []
def tab : Cond := tabOf yN yB 2 (some .byte) site
def P (d : Addr) (B : Cell) (args : Array Value) (s : State) : Prop := args = #[.ref d, .int (Int32.ofNat B.slots.size)] ∧ Arr .byte d B s
def E (r : Option Value) (s u : State) : Prop := XT.PureE (some (.int 0)) r s u
/-- an array as long as the number of chars: LATIN1 -/
theorem law (l : Launch) (d : Addr) (B : Cell) : Law l yN 2 2 0 0 yB 2 (some .byte) site (P d B) E [] 0 0 := by
  refine Law.of_walk (plainFor_of_name (by decide +kernel)) (by decide +kernel) (by decide +kernel) (by decide) (fun _ _ h => by rw [h.1]; rfl) (fun _ U U' hal hh h => ⟨h.1, h.2.mv hal hh⟩) (fun r U U' V V' h1 hal h2 h => XT.PureE.mv r U U' V V' h1 hal h2 h) ?_
  intro p e s m args below meth c s₁ X0 hexec hbytes hml hret hlk hnm hown hh0 W hP
  obtain ⟨rfl, hB⟩ := hP
  have hB0 := hB.mv X0.warmed.alike hh0
  have c1 : Steps p.tables e below (s₁.setTop (entryFrame m #[.ref d, .int (Int32.ofNat B.slots.size)] 2)) (s₁.setTop (mkF m 0 #[.val (.ref d), .val (.int (Int32.ofNat B.slots.size))] [])) := entry rfl
  have c2 : Steps p.tables e below (s₁.setTop (entryFrame m #[.ref d, .int (Int32.ofNat B.slots.size)] 2)) (s₁.setTop (mkF m 2 #[.val (.ref d), .val (.int (Int32.ofNat B.slots.size))] [.ref d, .int (Int32.ofNat B.slots.size)])) := c1.trans (by
    refine XS.iloadN X0.here hexec rfl (hb hbytes d0) rfl ?_
    refine XS.aloadN X0.here hexec rfl (hb hbytes d1) rfl rfl ?_
    exact Steps.refl _)
  have c3 : Steps p.tables e below (s₁.setTop (entryFrame m #[.ref d, .int (Int32.ofNat B.slots.size)] 2)) (s₁.setTop (mkF m 8 #[.val (.ref d), .val (.int (Int32.ofNat B.slots.size))] [.int (lo8 (ushr (Int32.ofNat B.slots.size - Int32.ofNat B.slots.size) 31))])) := c2.trans (by
    refine X0.alen hexec hB0 rfl rfl (hb hbytes d2) ?_
    refine XS.isub X0.here hexec rfl (hb hbytes d3) rfl ?_
    refine bipushV X0.here hexec rfl 31 (hb hbytes d4) (by decide) ?_
    refine iushr X0.here hexec rfl (hb hbytes d6) rfl ?_
    refine i2b X0.here hexec rfl (hb hbytes d7) rfl ?_
    exact Steps.refl _)
  have e0 : lo8 (ushr (Int32.ofNat B.slots.size - Int32.ofNat B.slots.size) 31) = 0 := by rw [Int32.sub_self]; decide
  rw [e0] at c3
  exact ⟨s₁, some (.int 0), _, _, _, X0, rfl, rfl, rfl, (fun h => by cases h), ⟨rfl, hh0⟩, fun fs hl => c3.trans (X0.ireturnOut hexec hret rfl (Or.inr (Or.inr (Or.inl rfl))) (hb hbytes d8) hl)⟩
end CodL
/-- the String at a is Latin-1 over a new byte[] (the heap's one new cell): the low bytes of the len chars of A from o on; every cell but a is kept -/
def Got (a : Addr) (D : Cell) (fV fC : Field) (A : Cell) (o len : Nat) (r : Option Value) (s u : State) : Prop := r = none ∧ ∃ D' V : Cell, Blank "java/lang/String" a D' u ∧ Same D D' [fV.slot, fC.slot] ∧ D'.slots[fV.slot]? = some (.ref s.heap.size) ∧ D'.slots[fC.slot]? = some (.int 0) ∧ Arr .byte s.heap.size V u ∧ V.vm = .none ∧ u.vm.findClass "[B" = some V.cls ∧ V.slots.size = len ∧ (∀ j, j < len → V.slots[j]? = some (.int (lo8 (cv A (o + j))))) ∧ (∀ (y : Addr) (c : Cell), y ≠ a → s.heap[y]? = some c → u.heap[y]? = some c) ∧ u.heap.size = s.heap.size + 1
theorem Got.mv {a : Addr} {D A : Cell} {fV fC : Field} {o len : Nat} : ∀ r (U U' V V' : State), U'.heap = U.heap → V.vm.Alike V'.vm → V'.heap = V.heap → Got a D fV fC A o len r U V → Got a D fV fC A o len r U' V' :=
  fun r U U' V V' h1 hal h2 ⟨e0, D', X, a1, a2, a3, a4, a5, a6, a7, a8, a9, a10, a11⟩ => ⟨e0, D', X, a1.mv hal h2, a2, by rw [h1]; exact a3, a4, by rw [h1]; exact a5.mv hal h2, a6, by rw [hal.findClass]; exact a7, a8, a9, by rw [h1, h2]; exact a10, by rw [h1, h2]; exact a11⟩
namespace New4
def yN : MethodName := ⟨"java/lang/String", "<init>", "([CIILjava/lang/Void;)V"⟩
abbrev yB : ByteArray := jdk_42_method_149_code
theorem d0 : decode yB 0 = .ok (.aload_n 0, 1) := by decide +kernel
theorem d1 : decode yB 1 = .ok (.invokespecial 1, 3) := by decide +kernel
theorem d4 : decode yB 4 = .ok (.iload_n 3, 1) := by decide +kernel
theorem d5 : decode yB 5 = .ok (.ifCond (.ne) 22, 3) := by decide +kernel
theorem d27 : decode yB 27 = .ok (.getstatic 38, 3) := by decide +kernel
theorem d30 : decode yB 30 = .ok (.ifCond (.eq) 28, 3) := by decide +kernel
theorem d33 : decode yB 33 = .ok (.aload_n 1, 1) := by decide +kernel
theorem d34 : decode yB 34 = .ok (.iload_n 2, 1) := by decide +kernel
theorem d35 : decode yB 35 = .ok (.iload_n 3, 1) := by decide +kernel
theorem d36 : decode yB 36 = .ok (.invokestatic 177, 3) := by decide +kernel
theorem d39 : decode yB 39 = .ok (.astore 5, 2) := by decide +kernel
theorem d41 : decode yB 41 = .ok (.aload_n 0, 1) := by decide +kernel
theorem d42 : decode yB 42 = .ok (.aload 5, 2) := by decide +kernel
theorem d44 : decode yB 44 = .ok (.iload_n 3, 1) := by decide +kernel
theorem d45 : decode yB 45 = .ok (.invokestatic 47, 3) := by decide +kernel
theorem d48 : decode yB 48 = .ok (.putfield 15, 3) := by decide +kernel
theorem d51 : decode yB 51 = .ok (.aload_n 0, 1) := by decide +kernel
theorem d52 : decode yB 52 = .ok (.aload 5, 2) := by decide +kernel
theorem d54 : decode yB 54 = .ok (.putfield 9, 3) := by decide +kernel
theorem d57 : decode yB 57 = .ok (.return_, 1) := by decide +kernel
def site : List Cond := [.fieldLink "java/lang/String" 38 "java/lang/String" "COMPACT_STRINGS" "Z", Cmp3.tab, CodL.tab, .laysFinal "java/lang/String" "java/lang/String" "value" "[B", .fieldLink "java/lang/String" 9 "java/lang/String" "value" "[B", .laysFinal "java/lang/String" "java/lang/String" "coder" "B", .fieldLink "java/lang/String" 15 "java/lang/String" "coder" "B"] ++ objW "java/lang/String" 1 ++ staticW "java/lang/String" 177 Cmp3.yN ++ staticW "java/lang/String" 47 CodL.yN
def tab : Cond := tabOf yN yB 6 none site
def P (a : Addr) (D : Cell) (fV fC : Field) (b : Addr) (A : Cell) (z : Int32) (o len : Nat) (args : Array Value) (s : State) : Prop := args = #[.ref a, .ref b, .int (Int32.ofNat o), .int (Int32.ofNat len), .null] ∧ Blank "java/lang/String" a D s ∧ Found "java/lang/String" "value" "[B" fV s ∧ Found "java/lang/String" "coder" "B" fC s ∧ Ch b A s ∧ StaticIs s "java/lang/String" "COMPACT_STRINGS" "Z" (.int z) ∧ ¬ z = 0 ∧ 0 < len ∧ o + len ≤ A.slots.size ∧ len ≤ 536870912 ∧ ∀ i, i < len → ¬ 255 < cv A (o + i)
def E (a : Addr) (D : Cell) (fV fC : Field) (A : Cell) (o len : Nat) (r : Option Value) (s u : State) : Prop := Got a D fV fC A o len r s u
/-- len > 0, no char of the range above 255: a Latin-1 String of their low bytes -/
theorem law (l : Launch) (a : Addr) (D : Cell) (fV fC : Field) (b : Addr) (A : Cell) (z : Int32) (o len : Nat) : Law l yN 5 4 2 35 yB 6 none site (P a D fV fC b A z o len) (E a D fV fC A o len) [⟨a, fC.slot⟩, ⟨a, fV.slot⟩] 1 len := by
  refine Law.of_walk (plainFor_of_name (by decide +kernel)) (by decide +kernel) (by decide +kernel) (by decide) (fun _ _ h => by rw [h.1]; rfl) (fun _ U U' hal hh h => ⟨h.1, h.2.1.mv hal hh, h.2.2.1.al hal, h.2.2.2.1.al hal, h.2.2.2.2.1.mv hal hh, h.2.2.2.2.2.1.there hal hh, h.2.2.2.2.2.2⟩) (fun r U U' V V' h1 hal h2 h => Got.mv r U U' V V' h1 hal h2 h) ?_
  intro p e s m args below meth c s₁ X0 hexec hbytes hml hret hlk hnm hown hh0 W hP
  obtain ⟨rfl, hB, f1, f2, hA, s1, hz, l0, l1, l2, hp⟩ := hP
  have a31 := hA.1.2.2.2
  have c1 : Steps p.tables e below (s₁.setTop (entryFrame m #[.ref a, .ref b, .int (Int32.ofNat o), .int (Int32.ofNat len), .null] 6)) (s₁.setTop (mkF m 0 #[.val (.ref a), .val (.ref b), .val (.int (Int32.ofNat o)), .val (.int (Int32.ofNat len)), .val .null, .unset] [])) := entry rfl
  have c2 : Steps p.tables e below (s₁.setTop (entryFrame m #[.ref a, .ref b, .int (Int32.ofNat o), .int (Int32.ofNat len), .null] 6)) (s₁.setTop (mkF m 1 #[.val (.ref a), .val (.ref b), .val (.int (Int32.ofNat o)), .val (.int (Int32.ofNat len)), .val .null, .unset] [.ref a])) := c1.trans (by
    refine XS.aloadN X0.here hexec rfl (hb hbytes d0) rfl rfl ?_
    exact Steps.refl _)
  obtain ⟨T3, X3, q3, st3⟩ := X0.oinit hexec hown (wks W (objW "java/lang/String" 1)) (g := (mkF m 1 #[.val (.ref a), .val (.ref b), .val (.int (Int32.ofNat o)), .val (.int (Int32.ofNat len)), .val .null, .unset] [.ref a])) rfl (by rw [hml]; rfl) (rest := []) rfl (hb hbytes d1) (W := 0) (by show 2 * 0 + 0 ≤ _; decide) (Nat.le_of_ble_eq_true rfl) (Nat.le_of_ble_eq_true rfl)
  have hh3 := q3.trans hh0
  have c4 : Steps p.tables e below (s₁.setTop (entryFrame m #[.ref a, .ref b, .int (Int32.ofNat o), .int (Int32.ofNat len), .null] 6)) (T3.setTop (mkF m 27 #[.val (.ref a), .val (.ref b), .val (.int (Int32.ofNat o)), .val (.int (Int32.ofNat len)), .val .null, .unset] [])) := (c2.trans (st3 _ (Steps.refl _))).trans (by
    refine XS.iloadN X3.here hexec rfl (hb hbytes d4) rfl ?_
    refine XS.ifYes X3.here hexec rfl (pc0 := 5) rfl (hb hbytes d5) rfl (i0_ne_t (nz32 (by omega) l0)) (by decide) rfl ?_
    exact Steps.refl _)
  obtain ⟨T5, X5, q5, st5⟩ := X3.sget hexec hown (wk W (.fieldLink "java/lang/String" 38 "java/lang/String" "COMPACT_STRINGS" "Z")) s1 (fun _ _ h => by rw [hh3]; exact h) (g := (mkF m 27 #[.val (.ref a), .val (.ref b), .val (.int (Int32.ofNat o)), .val (.int (Int32.ofNat len)), .val .null, .unset] [])) rfl (hb hbytes d27)
  have hh5 := q5.trans hh3
  have c6 : Steps p.tables e below (s₁.setTop (entryFrame m #[.ref a, .ref b, .int (Int32.ofNat o), .int (Int32.ofNat len), .null] 6)) (T5.setTop (mkF m 30 #[.val (.ref a), .val (.ref b), .val (.int (Int32.ofNat o)), .val (.int (Int32.ofNat len)), .val .null, .unset] [.int z])) := c4.trans (st5 _ (Steps.refl _))
  have c7 : Steps p.tables e below (s₁.setTop (entryFrame m #[.ref a, .ref b, .int (Int32.ofNat o), .int (Int32.ofNat len), .null] 6)) (T5.setTop (mkF m 36 #[.val (.ref a), .val (.ref b), .val (.int (Int32.ofNat o)), .val (.int (Int32.ofNat len)), .val .null, .unset] [.int (Int32.ofNat len), .int (Int32.ofNat o), .ref b])) := c6.trans (by
    refine XS.ifNo X5.here hexec rfl (hb hbytes d30) rfl (i0_eq_f hz) ?_
    refine XS.aloadN X5.here hexec rfl (hb hbytes d33) rfl rfl ?_
    refine XS.iloadN X5.here hexec rfl (hb hbytes d34) rfl ?_
    refine XS.iloadN X5.here hexec rfl (hb hbytes d35) rfl ?_
    exact Steps.refl _)
  obtain ⟨v8, T8, X8, E8, g8⟩ := X5.callS hexec (Cmp3.law l b A o len) hown (wks W (staticW "java/lang/String" 177 Cmp3.yN)) (wk W Cmp3.tab) (W := 0) (Nat.le_of_ble_eq_true rfl) (Nat.le_of_ble_eq_true rfl) (Nat.le_refl _) (by show 0 + len ≤ len; omega) (g := (mkF m 36 #[.val (.ref a), .val (.ref b), .val (.int (Int32.ofNat o)), .val (.int (Int32.ofNat len)), .val .null, .unset] [.int (Int32.ofNat len), .int (Int32.ofNat o), .ref b])) rfl (by rw [hml]; rfl) c7 (argsL := [.ref b, .int (Int32.ofNat o), .int (Int32.ofNat len)]) (rest := []) rfl rfl (by show 2 * 0 + 0 ≤ _; decide) (hb hbytes d36) (⟨rfl, hA.mv X5.warmed.alike hh5, l1, l2, hp⟩)
  obtain ⟨e8, z8⟩ := E8
  obtain ⟨rfl, N, n1, n2, n3, n4, n5, n6⟩ := NewArr.mv _ T5 s _ _ hh5.symm (Vm.Alike.refl _) rfl e8
  rw [hh5] at z8
  have hB1 := hB.keep X8.warmed.alike (n6 _ _ hB.1)
  have hne : s.heap.size ≠ a := (Nat.ne_of_lt (Array.getElem?_eq_some_iff.mp hB.1).1).symm
  have c9 : Steps p.tables e below (s₁.setTop (entryFrame m #[.ref a, .ref b, .int (Int32.ofNat o), .int (Int32.ofNat len), .null] 6)) (T8.setTop (mkF m 39 #[.val (.ref a), .val (.ref b), .val (.int (Int32.ofNat o)), .val (.int (Int32.ofNat len)), .val .null, .unset] [.ref s.heap.size])) := g8
  have c10 : Steps p.tables e below (s₁.setTop (entryFrame m #[.ref a, .ref b, .int (Int32.ofNat o), .int (Int32.ofNat len), .null] 6)) (T8.setTop (mkF m 45 #[.val (.ref a), .val (.ref b), .val (.int (Int32.ofNat o)), .val (.int (Int32.ofNat len)), .val .null, .val (.ref s.heap.size)] [.int (Int32.ofNat N.slots.size), .ref s.heap.size, .ref a])) := by
    have hc : Steps p.tables e below (s₁.setTop (entryFrame m #[.ref a, .ref b, .int (Int32.ofNat o), .int (Int32.ofNat len), .null] 6)) (T8.setTop (mkF m 45 #[.val (.ref a), .val (.ref b), .val (.int (Int32.ofNat o)), .val (.int (Int32.ofNat len)), .val .null, .val (.ref s.heap.size)] [.int (Int32.ofNat len), .ref s.heap.size, .ref a])) := c9.trans (by
      refine XS.astore X8.here hexec rfl (hb hbytes d39) rfl rfl rfl ?_
      refine XS.aloadN X8.here hexec rfl (hb hbytes d41) rfl rfl ?_
      refine XS.aload X8.here hexec rfl (hb hbytes d42) rfl rfl ?_
      refine XS.iloadN X8.here hexec rfl (hb hbytes d44) rfl ?_
      exact Steps.refl _)
    rw [n4]; exact hc
  obtain ⟨v11, T11, X11, E11, g11⟩ := X8.callS hexec (CodL.law l s.heap.size N) hown (wks W (staticW "java/lang/String" 47 CodL.yN)) (wk W CodL.tab) (W := 1) (Nat.le_of_ble_eq_true rfl) (Nat.le_of_ble_eq_true rfl) (Nat.le_refl _) (by show 0 + len + 0 ≤ len; omega) (g := (mkF m 45 #[.val (.ref a), .val (.ref b), .val (.int (Int32.ofNat o)), .val (.int (Int32.ofNat len)), .val .null, .val (.ref s.heap.size)] [.int (Int32.ofNat N.slots.size), .ref s.heap.size, .ref a])) rfl (by rw [hml]; rfl) c10 (argsL := [.ref s.heap.size, .int (Int32.ofNat N.slots.size)]) (rest := [.ref a]) rfl rfl (by show 2 * 0 + (1 + 0) ≤ _; decide) (hb hbytes d45) (⟨rfl, n1⟩)
  obtain ⟨rfl, q11⟩ := E11
  have hB11 := hB1.mv (X8.warmed.alike.symm.trans X11.warmed.alike) q11
  have c12 : Steps p.tables e below (s₁.setTop (entryFrame m #[.ref a, .ref b, .int (Int32.ofNat o), .int (Int32.ofNat len), .null] 6)) (T11.setTop (mkF m 48 #[.val (.ref a), .val (.ref b), .val (.int (Int32.ofNat o)), .val (.int (Int32.ofNat len)), .val .null, .val (.ref s.heap.size)] [.int 0, .ref a])) := g11
  obtain ⟨T13, X13, p13, bl13, sl13, st13⟩ := X11.finit hexec hown (wk W (.fieldLink "java/lang/String" 15 "java/lang/String" "coder" "B")) (Or.inr ⟨_, (wk W (.laysFinal "java/lang/String" "java/lang/String" "coder" "B"))⟩) (Or.inl ⟨rfl, hnm⟩) f2 (Or.inl rfl) hB11 (t := .byte) (by decide +kernel) rfl (g := (mkF m 48 #[.val (.ref a), .val (.ref b), .val (.int (Int32.ofNat o)), .val (.int (Int32.ofNat len)), .val .null, .val (.ref s.heap.size)] [.int 0, .ref a])) rfl (rest := []) rfl (hb hbytes d48)
  have c14 : Steps p.tables e below (s₁.setTop (entryFrame m #[.ref a, .ref b, .int (Int32.ofNat o), .int (Int32.ofNat len), .null] 6)) (T13.setTop (mkF m 54 #[.val (.ref a), .val (.ref b), .val (.int (Int32.ofNat o)), .val (.int (Int32.ofNat len)), .val .null, .val (.ref s.heap.size)] [.ref s.heap.size, .ref a])) := (c12.trans (st13 _ (Steps.refl _))).trans (by
    refine XS.aloadN X13.here hexec rfl (hb hbytes d51) rfl rfl ?_
    refine XS.aload X13.here hexec rfl (hb hbytes d52) rfl rfl ?_
    exact Steps.refl _)
  obtain ⟨T15, X15, p15, bl15, sl15, st15⟩ := X13.finit hexec hown (wk W (.fieldLink "java/lang/String" 9 "java/lang/String" "value" "[B")) (Or.inr ⟨_, (wk W (.laysFinal "java/lang/String" "java/lang/String" "value" "[B"))⟩) (Or.inl ⟨rfl, hnm⟩) f1 (Or.inl rfl) bl13 (t := (.array .byte)) (by decide +kernel) rfl (g := (mkF m 54 #[.val (.ref a), .val (.ref b), .val (.int (Int32.ofNat o)), .val (.int (Int32.ofNat len)), .val .null, .val (.ref s.heap.size)] [.ref s.heap.size, .ref a])) rfl (rest := []) rfl (hb hbytes d54)
  have c16 : Steps p.tables e below (s₁.setTop (entryFrame m #[.ref a, .ref b, .int (Int32.ofNat o), .int (Int32.ofNat len), .null] 6)) (T15.setTop (mkF m 57 #[.val (.ref a), .val (.ref b), .val (.int (Int32.ofNat o)), .val (.int (Int32.ofNat len)), .val .null, .val (.ref s.heap.size)] [])) := c14.trans (st15 _ (Steps.refl _))
  have ap := apart (Or.inr ⟨_, (wk W (.laysFinal "java/lang/String" "java/lang/String" "value" "[B"))⟩) (Or.inr ⟨_, (wk W (.laysFinal "java/lang/String" "java/lang/String" "coder" "B"))⟩) f1 f2 (t₁ := .array .byte) (t₂ := .byte) (by decide +kernel) (by decide +kernel) (by decide)
  have al := X8.warmed.alike.symm.trans X15.warmed.alike
  have n7 : T11.heap[s.heap.size]? = some N := by rw [q11]; exact n1.1
  exact ⟨T15, none, _, _, _, X15, by simp, rfl, by omega, (fun _ => rfl), ⟨rfl, _, N, bl15, ((Same.refl D _).set _ (by simp)).set _ (by simp), sl15, (Cell.slots_setSlot_ne _ ap).trans sl13, n1.keep al (p15.other hne (p13.other hne n7)), n2, by rw [al.findClass]; exact n3, n4, n5, fun y c h1 h2 => p15.other h1 (p13.other h1 (by rw [q11]; exact n6 y c h2)), by rw [p15.2.2, p13.2.2, q11]; exact z8⟩, fun fs hl => c16.trans (X15.returnOut hexec hret (hb hbytes d57) hl)⟩
end New4
namespace New1
def yN : MethodName := ⟨"java/lang/String", "<init>", "([C)V"⟩
abbrev yB : ByteArray := jdk_42_method_3_code
theorem d0 : decode yB 0 = .ok (.aload_n 0, 1) := by decide +kernel
theorem d1 : decode yB 1 = .ok (.aload_n 1, 1) := by decide +kernel
theorem d2 : decode yB 2 = .ok (.iconst 0, 1) := by decide +kernel
theorem d3 : decode yB 3 = .ok (.aload_n 1, 1) := by decide +kernel
theorem d4 : decode yB 4 = .ok (.arraylength, 1) := by decide +kernel
theorem d5 : decode yB 5 = .ok (.aconst_null, 1) := by decide +kernel
theorem d6 : decode yB 6 = .ok (.invokespecial 27, 3) := by decide +kernel
theorem d9 : decode yB 9 = .ok (.return_, 1) := by decide +kernel
def site : List Cond := [New4.tab] ++ initW "java/lang/String" 27 New4.yN
def tab : Cond := tabOf yN yB 2 none site
def P (a : Addr) (D : Cell) (fV fC : Field) (b : Addr) (A : Cell) (z : Int32) (args : Array Value) (s : State) : Prop := args = #[.ref a, .ref b] ∧ Blank "java/lang/String" a D s ∧ Found "java/lang/String" "value" "[B" fV s ∧ Found "java/lang/String" "coder" "B" fC s ∧ Ch b A s ∧ StaticIs s "java/lang/String" "COMPACT_STRINGS" "Z" (.int z) ∧ ¬ z = 0 ∧ 0 < A.slots.size ∧ A.slots.size ≤ 536870912 ∧ ∀ i, i < A.slots.size → ¬ 255 < cv A i
def E (a : Addr) (D : Cell) (fV fC : Field) (A : Cell) (r : Option Value) (s u : State) : Prop := Got a D fV fC A 0 A.slots.size r s u
/-- new String(chars), not empty, no char above 255: a Latin-1 String of their low bytes -/
theorem law (l : Launch) (a : Addr) (D : Cell) (fV fC : Field) (b : Addr) (A : Cell) (z : Int32) : Law l yN 2 1 3 52 yB 2 none site (P a D fV fC b A z) (E a D fV fC A) [⟨a, fC.slot⟩, ⟨a, fV.slot⟩] 1 A.slots.size := by
  refine Law.of_walk (plainFor_of_name (by decide +kernel)) (by decide +kernel) (by decide +kernel) (by decide) (fun _ _ h => by rw [h.1]; rfl) (fun _ U U' hal hh h => ⟨h.1, h.2.1.mv hal hh, h.2.2.1.al hal, h.2.2.2.1.al hal, h.2.2.2.2.1.mv hal hh, h.2.2.2.2.2.1.there hal hh, h.2.2.2.2.2.2⟩) (fun r U U' V V' h1 hal h2 h => Got.mv r U U' V V' h1 hal h2 h) ?_
  intro p e s m args below meth c s₁ X0 hexec hbytes hml hret hlk hnm hown hh0 W hP
  obtain ⟨rfl, hB, f1, f2, hA, s1, hz, l0, l2, hp⟩ := hP
  have c1 : Steps p.tables e below (s₁.setTop (entryFrame m #[.ref a, .ref b] 2)) (s₁.setTop (mkF m 0 #[.val (.ref a), .val (.ref b)] [])) := entry rfl
  have c2 : Steps p.tables e below (s₁.setTop (entryFrame m #[.ref a, .ref b] 2)) (s₁.setTop (mkF m 6 #[.val (.ref a), .val (.ref b)] [.null, .int (Int32.ofNat A.slots.size), .int 0, .ref b, .ref a])) := c1.trans (by
    refine XS.aloadN X0.here hexec rfl (hb hbytes d0) rfl rfl ?_
    refine XS.aloadN X0.here hexec rfl (hb hbytes d1) rfl rfl ?_
    refine iconstV X0.here hexec rfl 0 (hb hbytes d2) (by decide) ?_
    refine XS.aloadN X0.here hexec rfl (hb hbytes d3) rfl rfl ?_
    refine X0.alen hexec (hA.1.mv X0.warmed.alike hh0) rfl rfl (hb hbytes d4) ?_
    refine XS.aconstNull X0.here hexec rfl (hb hbytes d5) ?_
    exact Steps.refl _)
  obtain ⟨v3, T3, X3, E3, g3⟩ := X0.callN hexec (New4.law l a D fV fC b A z 0 A.slots.size) rfl hown (wks W (initW "java/lang/String" 27 New4.yN)) (W New4.tab (by simp only [site, List.mem_cons, List.mem_append, true_or, or_true])) (W := 0) (Nat.le_of_ble_eq_true rfl) (Nat.le_of_ble_eq_true rfl) (Nat.le_refl _) (by show 0 + A.slots.size ≤ A.slots.size; omega) (g := (mkF m 6 #[.val (.ref a), .val (.ref b)] [.null, .int (Int32.ofNat A.slots.size), .int (Int32.ofNat 0), .ref b, .ref a])) rfl (by rw [hml]; rfl) c2 (argsL := [.ref b, .int (Int32.ofNat 0), .int (Int32.ofNat A.slots.size), .null]) (rest := []) rfl rfl (by show 2 * 0 + 0 ≤ _; decide) (hb hbytes d6) (⟨rfl, hB.mv X0.warmed.alike hh0, f1.al X0.warmed.alike, f2.al X0.warmed.alike, hA.mv X0.warmed.alike hh0, s1.there X0.warmed.alike hh0, hz, l0, by omega, l2, fun i hi => by rw [Nat.zero_add]; exact hp i hi⟩)
  have e0 := Got.mv _ s₁ s _ _ hh0.symm (Vm.Alike.refl _) rfl E3
  obtain rfl := e0.1
  have c4 : Steps p.tables e below (s₁.setTop (entryFrame m #[.ref a, .ref b] 2)) (T3.setTop (mkF m 9 #[.val (.ref a), .val (.ref b)] [])) := g3
  exact ⟨T3, none, _, _, _, X3, by simp, rfl, by omega, (fun _ => rfl), e0, fun fs hl => c4.trans (X3.returnOut hexec hret (hb hbytes d9) hl)⟩
theorem pays {l : Launch} {R : Room} {p : Program} {e : Env} {below : List Frame} {s : State} {sargs : Array Value} {len W : Nat} (a : Addr) (D : Cell) (fV fC : Field) (b : Addr) (A : Cell) (z : Int32) (htab : tab.before sargs s = true) (hfr : 4 ≤ R.frames) (hlo : W + 65 ≤ R.locals) :
    Back l R p e below s sargs yN len W (fun A₁ a₁ => A₁.cells + 1 ≤ R.cells ∧ A₁.slots + A.slots.size ≤ R.slots ∧ P a D fV fC b A z a₁ A₁.U) (fun A₁ _ v₁ B₁ => E a D fV fC A v₁ A₁.U B₁.U ∧ B₁.locs = A₁.locs ++ [⟨a, fC.slot⟩, ⟨a, fV.slot⟩] ∧ B₁.cells = A₁.cells + 1 ∧ B₁.slots = A₁.slots + A.slots.size) :=
  (law l a D fV fC b A z).pays htab hfr (by omega)
end New1
/-- the byte, read back as charAt reads it, is the char -/
theorem lo8_mask {x : Int32} (h0 : ¬ x < 0) (h1 : ¬ 255 < x) : lo8 x &&& 255 = x := by
  have t : ∀ k : Fin 256, lo8 (Int32.ofNat k.val) &&& 255 = Int32.ofNat k.val := by decide +kernel
  rw [Int32.lt_iff_toInt_lt] at h0 h1
  have e0 : (0 : Int32).toInt = 0 := rfl
  have e1 : (255 : Int32).toInt = 255 := rfl
  obtain ⟨k, hk⟩ : ∃ k : Nat, x.toInt = k := ⟨x.toInt.toNat, by omega⟩
  have hx : x = Int32.ofNat k := Int32.toInt_inj.mp (by rw [hk, Int32.toInt_ofNat_small (by omega)])
  rw [hx]
  exact t ⟨k, by omega⟩
end StrChars
namespace StrChars.Road
open Jvm Sem ClassFile Op Lib Jvm.Stand Jvm.Free Jvm.Free.XT
open Jvm.Lib.Cold (StaticIs)
abbrev ST : String := "java/lang/String"
/-- every table word that New1's law asks, flat -/
abbrev words : List Jvm.Cond := [.code New1.yN New1.yB 2 none, .initialized ST, .methodLink ST 27 New4.yN, .instanceMethod New4.yN,
  .code New4.yN New4.yB 6 none, .fieldLink ST 38 ST "COMPACT_STRINGS" "Z", .laysFinal ST ST "value" "[B", .fieldLink ST 9 ST "value" "[B", .laysFinal ST ST "coder" "B", .fieldLink ST 15 ST "coder" "B",
  .methodLink ST 1 Lib.objectInit, .instanceMethod Lib.objectInit, .code Lib.objectInit ⟨#[0xb1]⟩ 1 none, .methodLink ST 177 Cmp3.yN, .static Cmp3.yN, .methodLink ST 47 CodL.yN, .static CodL.yN,
  .code Cmp3.yN Cmp3.yB 6 (some (.array .byte)), .initialized U16, .arrayClass .byte, .methodLink U16 115 Cmp5.yN, .static Cmp5.yN, .code Cmp5.yN Cmp5.yB 7 (some .int), .code CodL.yN CodL.yB 2 (some .byte)]
theorem tab_of {a : Array Value} {s : State} (h : ∀ w ∈ words, w.before a s = true) : New1.tab.before a s = true := by
  have h5 : Cmp5.tab.before a s = true := unparts (wk h (.code Cmp5.yN Cmp5.yB 7 (some .int))) (wks h (.initialized Cmp5.yN.cls :: Cmp5.site))
  have hc : CodL.tab.before a s = true := unparts (wk h (.code CodL.yN CodL.yB 2 (some .byte))) (wks h (.initialized CodL.yN.cls :: CodL.site))
  have q5 : ∀ w ∈ Cmp5.tab :: words, w.before a s = true := fun w hw => (List.mem_cons.mp hw).elim (fun e => e ▸ h5) (h w)
  have h3 : Cmp3.tab.before a s = true := unparts (wk q5 (.code Cmp3.yN Cmp3.yB 6 (some (.array .byte)))) (wks q5 (.initialized Cmp3.yN.cls :: Cmp3.site))
  have q3 : ∀ w ∈ Cmp3.tab :: CodL.tab :: words, w.before a s = true := fun w hw => (List.mem_cons.mp hw).elim (fun e => e ▸ h3) fun hw => (List.mem_cons.mp hw).elim (fun e => e ▸ hc) (h w)
  have h4 : New4.tab.before a s = true := unparts (wk q3 (.code New4.yN New4.yB 6 none)) (wks q3 (.initialized New4.yN.cls :: New4.site))
  have q4 : ∀ w ∈ New4.tab :: words, w.before a s = true := fun w hw => (List.mem_cons.mp hw).elim (fun e => e ▸ h4) (h w)
  exact unparts (wk q4 (.code New1.yN New1.yB 2 none)) (wks q4 (.initialized New1.yN.cls :: New1.site))
/-- the words ride from the start Z to the walk's own state -/
theorem moved {Z s : State} {a0 args : Array Value} (hZ : Z.Warmed39 s.vm) (hw : ∀ d ∈ words, d.before a0 Z = true) : ∀ d ∈ words, d.before args s = true := fun d hd => by
  have q := hw d hd
  have t : ∀ d ∈ words, d = .arrayClass .byte ∨ (d.onTables && d.keepsFace) = true := by decide +kernel
  rcases t d hd with rfl | t
  · exact RoadKit.mvA hZ q
  · exact RoadKit.mv hZ q t
/-- WHAT COMES BACK, over the tables of the start Z: h the heap at the call, h' behind it -/
def Q (Z : State) (x : Addr) (A : Cell) (h : Heap) (v : Option Value) (h' : Heap) (L : List Loc) : Prop := v = none ∧ (∀ y ∈ L, y.base = x) ∧ RoadKit.Keep h h' [x] ∧ h'.size = h.size + 1 ∧ RoadKit.Exa Z h' x ST ∧ RoadKit.Fld Z h' x ST "value" "[B" (.ref h.size) ∧ RoadKit.Fld Z h' x ST "coder" "B" (.int 0) ∧
  (∃ V : Cell, RoadKit.Arr Z h' h.size V .byte ∧ V.vm = .none ∧ Z.vm.findClass "[B" = some V.cls ∧ V.slots.size = A.slots.size ∧ ∀ j, j < A.slots.size → V.slots[j]? = some (.int (lo8 (cv A j)))) ∧
  ∀ (O n d : String) (w : Value), RoadKit.Fld Z h x O n d w → RoadKit.slotOf Z O n d ≠ RoadKit.slotOf Z ST "value" "[B" → RoadKit.slotOf Z O n d ≠ RoadKit.slotOf Z ST "coder" "B" → RoadKit.Fld Z h' x O n d w
/-- **new String(chars) AT A CALL, IN THE ROAD'S FORM**: for specialBack behind newO: x the fresh String, b the char[] with the cell A -/
theorem back {p : Program} {l : Launch} {e : Env} {R : Room} {s : State} {args : Array Value} {below : List Frame} {len W : Nat} {Z : State} {a0 : Array Value} {h : Heap} (hZ : Z.Warmed39 s.vm) (hw : ∀ d ∈ words, d.before a0 Z = true) {kI : Nat} (wi : (Jvm.Cond.instantiable ST kI).before a0 Z = true)
    {x b : Addr} {A : Cell} {z : Int32} {v0 c0 : Value} (E : RoadKit.Exa Z h x ST) (V : RoadKit.Fld Z h x ST "value" "[B" v0) (C : RoadKit.Fld Z h x ST "coder" "B" c0) (K : RoadKit.Arr Z h b A .char) (hty : Typed .char A) (S : RoadKit.Sta Z h ST "COMPACT_STRINGS" "Z" (.int z)) (hz : ¬ z = 0)
    (l0 : 0 < A.slots.size) (l2 : A.slots.size ≤ 536870912) (hp : ∀ i, i < A.slots.size → ¬ 255 < cv A i) (hfr : 4 ≤ R.frames) (hlo : W + 65 ≤ R.locals) :
    Back l R p e below s args New1.yN len W (fun P a => a = #[.ref x, .ref b] ∧ P.U.heap = h ∧ P.cells + 1 ≤ R.cells ∧ P.slots + A.slots.size ≤ R.slots)
      (fun P _ v B => ∃ L, Q Z x A h v B.U.heap L ∧ B.locs = P.locs ++ L ∧ B.cells = P.cells + 1 ∧ B.slots = P.slots + A.slots.size) := by
  intro m meth c P g ig mk a X hg hsize hdg hW hn hp'
  obtain ⟨rfl, rfl, r1, r2⟩ := hp'
  have al : Z.vm.Alike P.U.vm := hZ.alike.trans X.warmed.alike
  obtain ⟨D, cfV, kV, iV, fV, hD, gV, stV, knV, obV, asV, slV⟩ := id V
  obtain ⟨D', cfC, kC, iC, fC, hD', gC, stC, -, -, asC, slC⟩ := id C
  cases hD.symm.trans hD'
  obtain ⟨D2, kD, e1, e2, e3, e4, e5⟩ := id E
  cases hD.symm.trans e1
  obtain ⟨c2, k2, i1, i2, i3, -⟩ := Cond.instantiable_spec wi
  cases e2.symm.trans i1
  cases e3.symm.trans i2
  obtain ⟨kU, u1, u2⟩ := al.2.2 _ _ e3
  have hB : Blank ST x D P.U := ⟨hD, ⟨knV, fun q hq => by rw [hq] at obV; cases obV⟩, by rw [al.findClass]; exact e2, kU, u1, by rw [u2]; exact i3, by rw [u2]; exact e5 i3⟩
  have F1 : Found ST "value" "[B" fV P.U := ⟨SBG.found_only al ⟨cfV, kV, iV, gV⟩, stV⟩
  have F2 : Found ST "coder" "B" fC P.U := ⟨SBG.found_only al ⟨cfC, kC, iC, gC⟩, stC⟩
  have hA : Ch b A P.U := ⟨⟨K.1, State.isArrayOf_alike al K.2.1, K.2.2, by omega⟩, hty⟩
  have hS : StaticIs P.U ST "COMPACT_STRINGS" "Z" (.int z) := by
    obtain ⟨cfS, iS, kS, fS, st, cS, t1, t2, t3, t4, t5, t6, t7⟩ := S
    exact StaticIs.there (s := { Z with heap := P.U.heap }) ⟨cfS, iS, kS, fS, st, cS, t1, t2, t3, t4, t5, (fun q => by rw [q] at t6; cases t6), t7⟩ al rfl
  obtain ⟨v, B, X', ⟨⟨hv, E', V', q1, q2, q3, q4, q5, q6, q7, q8, q9, q10, q11⟩, hl, hc, hs⟩, st⟩ := New1.pays x D fV fC b A z (tab_of (moved hZ hw)) hfr hlo m meth c P g ig mk _ X hg hsize hdg hW hn ⟨r1, r2, rfl, hB, F1, F2, hA, hS, hz, l0, l2, hp⟩
  have al' : Z.vm.Alike B.U.vm := hZ.alike.trans X'.warmed.alike
  have hsz : E'.slots.size = D.slots.size := by
    obtain ⟨-, -, -, kB, w1, w2, w3⟩ := q1
    obtain ⟨kB', y1, y2⟩ := al'.2.2 _ _ e3
    rw [q2.2.1] at w1
    cases w1.symm.trans y1
    rw [w3, e5 i3, y2]
  refine ⟨v, B, X', ⟨_, ⟨hv, ?_, ⟨by omega, fun y cy hy hn' => q10 y cy (by simpa using hn') hy, fun y cy hy => ?_⟩, q11, ⟨E', _, q1.1, by rw [q2.2.1]; exact e2, by rw [q2.2.1]; exact e3, by rw [q2.1]; exact obV, fun _ => by rw [hsz]; exact e5 i3⟩,
    ⟨E', cfV, kV, iV, fV, q1.1, gV, stV, by rw [q2.1]; exact knV, by rw [q2.1]; exact obV, by rw [q2.2.1]; exact asV, q3⟩, ⟨E', cfC, kC, iC, fC, q1.1, gC, stC, by rw [q2.1]; exact knV, by rw [q2.1]; exact obV, by rw [q2.2.1]; exact asC, q4⟩,
    ⟨V', ⟨q5.1, State.isArrayOf_alike al'.symm q5.2.1, q5.2.2.1⟩, q6, by rw [← al'.findClass]; exact q7, q8, fun j hj => by have := q9 j hj; rwa [Nat.zero_add] at this⟩, fun O n d w F n1 n2 => ?_⟩, hl, hc, hs⟩, st⟩
  · intro y hy
    simp only [List.mem_cons, List.not_mem_nil, or_false] at hy
    rcases hy with rfl | rfl <;> rfl
  · by_cases q : y = x
    · subst q
      cases hD.symm.trans hy
      exact ⟨E', q1.1, q2.2.1, q2.1, hsz⟩
    · exact ⟨cy, q10 y cy q hy, rfl, rfl, rfl⟩
  · obtain ⟨D3, cf, k, i, f, g1, g2, g3, g4, g5, g6, g7⟩ := F
    cases hD.symm.trans g1
    simp only [RoadKit.slotOf, g2, gV, gC, Option.map_some, Option.getD_some] at n1 n2
    exact ⟨E', cf, k, i, f, q1.1, g2, g3, by rw [q2.1]; exact g4, by rw [q2.1]; exact g5, by rw [q2.2.1]; exact g6, by rw [q2.2.2 f.slot (by simp [n1, n2])]; exact g7⟩
end StrChars.Road
namespace StrChars.Road
open Jvm Sem ClassFile Op Lib Jvm.Stand Jvm.Free Jvm.Free.XT
/-- WHAT COMES BACK, the byte[] as a list of values -/
def QA (Z : State) (x : Addr) (zn : Int32) (cs : List Int32) (h : Heap) (v : Option Value) (h' : Heap) (L : List Loc) : Prop := v = none ∧ (∀ y ∈ L, y.base = x) ∧ RoadKit.Keep h h' [x] ∧ h'.size = h.size + 1 ∧ RoadKit.Exa Z h' x ST ∧ RoadKit.Fld Z h' x ST "value" "[B" (.ref h.size) ∧ RoadKit.Fld Z h' x ST "coder" "B" (.int 0) ∧
  (∃ kb, Z.vm.findClass "[B" = some kb ∧ RoadKit.Arv Z h' h.size kb .byte zn (cs.map fun c => .int (lo8 c)) (.int 0)) ∧
  ∀ (O n d : String) (w : Value), RoadKit.Fld Z h x O n d w → RoadKit.slotOf Z O n d ≠ RoadKit.slotOf Z ST "value" "[B" → RoadKit.slotOf Z O n d ≠ RoadKit.slotOf Z ST "coder" "B" → RoadKit.Fld Z h' x O n d w
/-- **new String(chars) AT A CALL, THE ARRAYS AS LISTS**: the char[] at b holds cs, not empty, no char above 255 -/
theorem backArv {p : Program} {l : Launch} {e : Env} {R : Room} {s : State} {args : Array Value} {below : List Frame} {len W : Nat} {Z : State} {a0 : Array Value} {h : Heap} (hZ : Z.Warmed39 s.vm) (hw : ∀ d ∈ words, d.before a0 Z = true) {kI : Nat} (wi : (Jvm.Cond.instantiable ST kI).before a0 Z = true)
    {x b : Addr} {k : ClassId} {zn z : Int32} {cs : List Int32} {dv v0 c0 : Value} (E : RoadKit.Exa Z h x ST) (V : RoadKit.Fld Z h x ST "value" "[B" v0) (C : RoadKit.Fld Z h x ST "coder" "B" c0) (K : RoadKit.Arv Z h b k .char zn (cs.map Value.int) dv) (S : RoadKit.Sta Z h ST "COMPACT_STRINGS" "Z" (.int z)) (hz : ¬ z = 0)
    (hlen : zn.toNatClampNeg = cs.length) (h0 : 0 < cs.length) (hbig : cs.length ≤ 536870912) (hall : ∀ c ∈ cs, ¬ 255 < c) (hfr : 4 ≤ R.frames) (hlo : W + 65 ≤ R.locals) :
    Back l R p e below s args New1.yN len W (fun P a => a = #[.ref x, .ref b] ∧ P.U.heap = h ∧ P.cells + 1 ≤ R.cells ∧ P.slots + cs.length ≤ R.slots)
      (fun P _ v B => ∃ L, QA Z x zn cs h v B.U.heap L ∧ B.locs = P.locs ++ L ∧ B.cells = P.cells + 1 ∧ B.slots = P.slots + cs.length) := by
  obtain ⟨A, K1, K2, K3, K4, K5, K6⟩ := K
  have e : A.slots.size = cs.length := K3.trans hlen
  have hat : ∀ (i : Nat) (hi : i < cs.length), A.slots[i]? = some (.int cs[i]) := fun i hi => by rw [K5 i (by omega)]; simp [List.getD_eq_getElem?_getD, hi]
  have hcv : ∀ (i : Nat) (hi : i < cs.length), cv A i = cs[i] := fun i hi => by unfold cv; rw [hat i hi]
  have hty : Typed .char A := fun i v hv => by
    have hi : i < A.slots.size := (Array.getElem?_eq_some_iff.mp hv).1
    have q := K5 i hi
    rw [hv] at q
    rw [Option.some.inj q]
    exact K6 i hi
  refine Back.mono (back hZ hw wi E V C K1 hty S hz (by omega) (by omega) (fun i hi => by rw [hcv i (by omega)]; exact hall _ (List.getElem_mem _)) hfr hlo) (fun P a hp => ⟨hp.1, hp.2.1, hp.2.2.1, by rw [e]; exact hp.2.2.2⟩) (fun P a v B hp hq => ?_)
  obtain ⟨L, ⟨q1, q2, q3, q4, q5, q6, q7, ⟨V', v1, v2, v3, v4, v5⟩, q9⟩, hl, hc, hs⟩ := hq
  refine ⟨L, ⟨q1, q2, q3, q4, q5, q6, q7, ⟨V'.cls, v3, V', v1, rfl, by rw [v4, e, hlen], K4, fun i hi => ?_, fun i hi => ?_⟩, q9⟩, hl, hc, by rw [hs, e]⟩
  · have hi' : i < cs.length := by omega
    rw [v5 i (by omega), hcv i hi']; simp [List.getD_eq_getElem?_getD, hi']
  · have hi' : i < cs.length := by omega
    simp only [List.getD_eq_getElem?_getD, List.getElem?_map, List.getElem?_eq_getElem hi', Option.map_some, Option.getD_some]
    exact fits_lo8 _
end StrChars.Road
namespace StrChars.Road
open Jvm Sem ClassFile Op Lib Jvm.Stand Jvm.Free Jvm.Free.XT
/-- WHAT COMES BACK, in the writer's own shape -/
def QV (Z : State) (x : Addr) (N : Int32) (bs : List Int32) (h : Heap) (n0 : Nat) (v : Option Value) (h' : Heap) (L : List Loc) : Prop := v = none ∧ RoadKit.Fr n0 L ∧ RoadKit.Keep h h' [x] ∧ RoadKit.Exa Z h' x ST ∧ RoadKit.Fld Z h' x ST "coder" "B" (.int 0) ∧
  ∃ (t : Addr) (kb : ClassId), n0 ≤ t ∧ h.size ≤ t ∧ ¬ t = x ∧ RoadKit.Fld Z h' x ST "value" "[B" (.ref t) ∧ RoadKit.Arv Z h' t kb .byte N (bs.map Value.int) (.int 0)
/-- **new String(chars) AT A CALL, FOR THE WRITER**: a char[] of n known ints, each 0 to 255 -/
theorem backV {p : Program} {l : Launch} {e : Env} {R : Room} {s : State} {args : Array Value} {below : List Frame} {len W : Nat} {Z : State} {a0 : Array Value} {h : Heap} (hZ : Z.Warmed39 s.vm) (hw : ∀ d ∈ words, d.before a0 Z = true) {kI : Nat} (wi : (Jvm.Cond.instantiable ST kI).before a0 Z = true)
    {x b : Addr} {kC : ClassId} {cs bs : List Int32} {d v0 c0 : Value} {z N : Int32} {n n0 : Nat} (hx0 : n0 ≤ x) (hh0 : n0 ≤ h.size) (E : RoadKit.Exa Z h x ST) (V : RoadKit.Fld Z h x ST "value" "[B" v0) (C : RoadKit.Fld Z h x ST "coder" "B" c0) (K : RoadKit.Arv Z h b kC .char N (cs.map Value.int) d) (S : RoadKit.Sta Z h ST "COMPACT_STRINGS" "Z" (.int z)) (hz : ¬ z = 0)
    (hn : cs.length = n) (hN : N = Int32.ofNat n) (l0 : 0 < n) (l2 : n ≤ 4000) (hp : ∀ c ∈ cs, ¬ c < 0 ∧ ¬ (255 : Int32) < c) (hb : bs = cs.map (fun c => c.toInt8.toInt32)) (hfr : 4 ≤ R.frames) (hlo : W + 65 ≤ R.locals) :
    Back l R p e below s args (⟨"java/lang/String", "<init>", "([C)V"⟩ : MethodName) len W (fun P a => a = #[.ref x, .ref b] ∧ P.U.heap = h ∧ P.cells + 1 ≤ R.cells ∧ P.slots + n ≤ R.slots)
      (fun P _ v B => ∃ L, QV Z x N bs h n0 v B.U.heap L ∧ B.locs = P.locs ++ L ∧ B.cells = P.cells + 1 ∧ B.slots = P.slots + n) := by
  subst hn hN hb
  refine Back.mono (backArv hZ hw wi E V C K S hz (n32 (by omega)) l0 (by omega) (fun c hc => (hp c hc).2) hfr hlo) (fun P a hp => hp) (fun P a v B hp hq => ?_)
  obtain ⟨L, ⟨q1, q2, q3, q4, q5, q6, q7, ⟨kb, v1, v2⟩, q9⟩, hl, hc, hs⟩ := hq
  exact ⟨L, ⟨q1, fun y hy => by rw [q2 y hy]; exact hx0, q3, q5, q7, h.size, kb, hh0, Nat.le_refl _, Nat.ne_of_gt E.lt, q6, by rw [List.map_map]; exact v2⟩, hl, hc, hs⟩
end StrChars.Road
namespace StrChars
open Jvm Sem ClassFile Op Lib Jvm.Stand Jvm.Free.XT Jvm.Free.ALB Jvm.Free.JM Jvm.Free
open Jvm.Lib.Cold (StaticIs)
def hi8 (x : Int32) : Int32 := lo8 (x >>> ((8 : Int32) &&& 31))
/-- what StringUTF16.getChar makes of two bytes -/
def pairCh (u v : Int32) : Int32 := (((u &&& 255) <<< ((0 : Int32) &&& 31)) ||| ((v &&& 255) <<< ((8 : Int32) &&& 31))).toUInt32.toUInt16.toUInt32.toInt32
theorem lo8_and (x : Int32) : (lo8 x &&& 255).toBitVec.toNat = x.toBitVec.toNat % 256 := by
  have h : (lo8 x).toBitVec = (x.toBitVec.signExtend 8).signExtend 32 := by rw [lo8, Int8.toBitVec_toInt32, Int32.toBitVec_toInt8]
  rw [Int32.toBitVec_and, BitVec.toNat_and, h]
  have e : ((x.toBitVec.signExtend 8).signExtend 32).toNat % 256 = x.toBitVec.toNat % 256 := by
    rw [BitVec.toNat_signExtend]
    have hlt := x.toBitVec.isLt
    simp only [BitVec.toNat_setWidth, BitVec.toNat_signExtend]
    split <;> split <;> omega
  rw [← e]
  exact Nat.and_two_pow_sub_one_eq_mod _ 8
theorem pair_says {c : Int32} (h0 : ¬ c < 0) (h1 : ¬ 65535 < c) : pairCh (lo8 c) (hi8 c) = c := by
  rw [Int32.lt_iff_toInt_lt] at h0 h1
  have e0 : (0 : Int32).toInt = 0 := rfl
  have e1 : (65535 : Int32).toInt = 65535 := rfl
  have hc : c.toInt = c.toBitVec.toNat := by
    have := c.toBitVec.isLt
    have e : c.toInt = c.toBitVec.toInt := rfl
    rw [e] at h0 h1
    rw [e]
    rw [BitVec.toInt_eq_toNat_cond] at h0 h1 ⊢
    split at h0 <;> split <;> omega
  have hn : c.toBitVec.toNat < 65536 := by omega
  have a1 := lo8_and c
  have a2 : (hi8 c &&& 255).toBitVec.toNat = c.toBitVec.toNat / 256 := by
    rw [hi8, lo8_and]
    have e : ((8 : Int32) &&& 31) = 8 := by decide
    rw [e, Int32.toBitVec_shiftRight]
    have e2 : ((8 : Int32).toBitVec.smod 32) = 8#32 := by decide
    rw [e2, BitVec.sshiftRight_eq', BitVec.toNat_sshiftRight_of_msb_false (by rw [BitVec.msb_eq_false_iff_two_mul_lt]; omega)]
    show c.toBitVec.toNat >>> 8 % 256 = _
    rw [Nat.shiftRight_eq_div_pow]
    omega
  unfold pairCh
  apply Int32.toBitVec_inj.mp
  apply BitVec.eq_of_toNat_eq
  have f0 : ((0 : Int32) &&& 31) = 0 := by decide
  have f8 : ((8 : Int32) &&& 31) = 8 := by decide
  rw [f0, f8]
  have g : (((lo8 c &&& 255) <<< (0 : Int32)) ||| ((hi8 c &&& 255) <<< (8 : Int32))).toBitVec.toNat = c.toBitVec.toNat := by
    rw [Int32.toBitVec_or, Int32.toBitVec_shiftLeft, Int32.toBitVec_shiftLeft]
    have s0 : ((0 : Int32).toBitVec.smod 32) = 0#32 := by decide
    have s8 : ((8 : Int32).toBitVec.smod 32) = 8#32 := by decide
    rw [s0, s8, BitVec.toNat_or]
    simp only [BitVec.shiftLeft_eq', BitVec.toNat_shiftLeft, a1, a2]
    show (c.toBitVec.toNat % 256) <<< 0 % 2 ^ 32 ||| (c.toBitVec.toNat / 256) <<< 8 % 2 ^ 32 = _
    rw [Nat.shiftLeft_zero, Nat.mod_eq_of_lt (show c.toBitVec.toNat % 256 < 2 ^ 32 by omega), Nat.mod_eq_of_lt (show (c.toBitVec.toNat / 256) <<< 8 < 2 ^ 32 by rw [Nat.shiftLeft_eq]; omega), Nat.or_comm, ← Nat.shiftLeft_add_eq_or_of_lt (by omega), Nat.shiftLeft_eq]
    omega
  show BitVec.toNat (((((lo8 c &&& 255) <<< (0 : Int32)) ||| ((hi8 c &&& 255) <<< (8 : Int32))).toBitVec.setWidth 16).setWidth 32) = _
  rw [BitVec.toNat_setWidth, BitVec.toNat_setWidth, g]
  omega
end StrChars
namespace StrChars
open Jvm Sem ClassFile Op Lib Jvm.Stand Jvm.Free.XT Jvm.Free.ALB Jvm.Free.JM Jvm.Free
open Jvm.Lib.Cold (StaticIs)
/-- charAt's cast of a byte read back -/
def chr8 (u : Int32) : Int32 := (u &&& 255).toUInt32.toUInt16.toUInt32.toInt32
theorem chr8_lo8 {c : Int32} (h0 : ¬ c < 0) (h1 : ¬ 255 < c) : chr8 (lo8 c) = c := by
  have t : ∀ k : Fin 256, (Int32.ofNat k.val).toUInt32.toUInt16.toUInt32.toInt32 = Int32.ofNat k.val := by decide +kernel
  unfold chr8
  rw [lo8_mask h0 h1]
  rw [Int32.lt_iff_toInt_lt] at h0 h1
  have e0 : (0 : Int32).toInt = 0 := rfl
  have e1 : (255 : Int32).toInt = 255 := rfl
  obtain ⟨k, hk⟩ : ∃ k : Nat, c.toInt = k := ⟨c.toInt.toNat, by omega⟩
  have hx : c = Int32.ofNat k := Int32.toInt_inj.mp (by rw [hk, Int32.toInt_ofNat_small (by omega)])
  rw [hx]
  exact t ⟨k, by omega⟩
theorem narrow_ch {c : Int32} (h0 : ¬ c < 0) (h1 : ¬ 65535 < c) : narrow .char (.int c) = .int c := by
  have q : narrow .char (.int (pairCh (lo8 c) (hi8 c))) = .int (pairCh (lo8 c) (hi8 c)) := narrow_c _
  rwa [pair_says h0 h1] at q
/-- the array's cell V codes the n chars f 0 .. f (n - 1) by the coder cd, as the JDK does: coder 1 just where some char is above 255 -/
def Cod (cd : Int32) (n : Nat) (f : Nat → Int32) (V : Cell) : Prop := (cd = 0 ∧ V.slots.size = n ∧ ∀ j, j < n → V.slots[j]? = some (.int (lo8 (f j))) ∧ ¬ 255 < f j) ∨ (cd = 1 ∧ V.slots.size = 2 * n ∧ (∀ j, j < n → V.slots[2 * j]? = some (.int (lo8 (f j))) ∧ V.slots[2 * j + 1]? = some (.int (hi8 (f j)))) ∧ ∃ j, j < n ∧ 255 < f j)
theorem Cod.cd {cd : Int32} {n : Nat} {f : Nat → Int32} {V : Cell} (h : Cod cd n f V) : cd = 0 ∨ cd = 1 := h.imp (fun q => q.1) fun q => q.1
/-- **x is a String of the n chars f 0 .. f (n - 1)**, Latin-1 or UTF-16; its array at t has the cell V -/
def Txt (x t : Addr) (V : Cell) (cd : Int32) (n : Nat) (f : Nat → Int32) (U : State) : Prop := Exact "java/lang/String" x U ∧ Has x "java/lang/String" "value" "[B" (.ref t) U ∧ Has x "java/lang/String" "coder" "B" (.int cd) U ∧ XT.Arr .byte t V U ∧ Cod cd n f V ∧ ∀ j, j < n → ¬ f j < 0 ∧ ¬ 65535 < f j
theorem Txt.mv {x t : Addr} {V : Cell} {cd : Int32} {n : Nat} {f : Nat → Int32} {U U' : State} (h : Txt x t V cd n f U) (hal : U.vm.Alike U'.vm) (hh : U'.heap = U.heap) : Txt x t V cd n f U' := ⟨h.1.mv hal hh, h.2.1.mv hal hh, h.2.2.1.mv hal hh, h.2.2.2.1.mv hal hh, h.2.2.2.2⟩
namespace IsL
def yN : MethodName := ⟨"java/lang/String", "isLatin1", "()Z"⟩
abbrev yB : ByteArray := jdk_42_method_154_code
theorem d0 : decode yB 0 = .ok (.getstatic 38, 3) := by decide +kernel
theorem d3 : decode yB 3 = .ok (.ifCond (.eq) 14, 3) := by decide +kernel
theorem d6 : decode yB 6 = .ok (.aload_n 0, 1) := by decide +kernel
theorem d7 : decode yB 7 = .ok (.getfield 15, 3) := by decide +kernel
theorem d10 : decode yB 10 = .ok (.ifCond (.ne) 7, 3) := by decide +kernel
theorem d13 : decode yB 13 = .ok (.iconst 1, 1) := by decide +kernel
theorem d14 : decode yB 14 = .ok (.goto 4, 3) := by decide +kernel
theorem d17 : decode yB 17 = .ok (.iconst 0, 1) := by decide +kernel
theorem d18 : decode yB 18 = .ok (.ireturn, 1) := by decide +kernel
def site : List Cond := [.fieldLink "java/lang/String" 38 "java/lang/String" "COMPACT_STRINGS" "Z", .fieldLink "java/lang/String" 15 "java/lang/String" "coder" "B"]
def tab : Cond := tabOf yN yB 1 (some .boolean) site
def P (x : Addr) (cd z : Int32) (args : Array Value) (s : State) : Prop := args = #[.ref x] ∧ Has x "java/lang/String" "coder" "B" (.int cd) s ∧ (cd = 0 ∨ cd = 1) ∧ StaticIs s "java/lang/String" "COMPACT_STRINGS" "Z" (.int z) ∧ ¬ z = 0
def E (cd : Int32) (r : Option Value) (s u : State) : Prop := XT.PureE (some (.int (1 - cd))) r s u
theorem law (l : Launch) (x : Addr) (cd z : Int32) : Law l yN 1 0 0 0 yB 1 (some .boolean) site (P x cd z) (E cd) [] 0 0 := by
  refine Law.of_walk (plainFor_of_name (by decide +kernel)) (by decide +kernel) (by decide +kernel) (by decide) (fun _ _ h => by rw [h.1]; rfl) (fun _ U U' hal hh h => ⟨h.1, h.2.1.mv hal hh, h.2.2.1, h.2.2.2.1.there hal hh, h.2.2.2.2⟩) (fun r U U' V V' h1 hal h2 h => XT.PureE.mv r U U' V V' h1 hal h2 h) ?_
  intro p e s m args below meth c s₁ X0 hexec hbytes hml hret hlk hnm hown hh0 W hP
  obtain ⟨rfl, hx, hc, s1, hz⟩ := hP
  have c1 : Steps p.tables e below (s₁.setTop (entryFrame m #[.ref x] 1)) (s₁.setTop (mkF m 0 #[.val (.ref x)] [])) := entry rfl
  obtain ⟨T2, X2, q2, st2⟩ := X0.sget hexec hown (wk W (.fieldLink "java/lang/String" 38 "java/lang/String" "COMPACT_STRINGS" "Z")) s1 (fun _ _ h => by rw [hh0]; exact h) (g := (mkF m 0 #[.val (.ref x)] [])) rfl (hb hbytes d0)
  have hh2 := q2.trans hh0
  have c3 : Steps p.tables e below (s₁.setTop (entryFrame m #[.ref x] 1)) (T2.setTop (mkF m 7 #[.val (.ref x)] [.ref x])) := (c1.trans (st2 _ (Steps.refl _))).trans (by
    refine XS.ifNo X2.here hexec rfl (hb hbytes d3) rfl (i0_eq_f hz) ?_
    refine XS.aloadN X2.here hexec rfl (hb hbytes d6) rfl rfl ?_
    exact Steps.refl _)
  obtain ⟨T4, X4, q4, st4⟩ := X2.hget hexec hown (wk W (.fieldLink "java/lang/String" 15 "java/lang/String" "coder" "B")) (hx.mv X2.warmed.alike hh2) (g := (mkF m 7 #[.val (.ref x)] [.ref x])) rfl (rest := []) rfl (hb hbytes d7)
  have c5 : Steps p.tables e below (s₁.setTop (entryFrame m #[.ref x] 1)) (T4.setTop (mkF m 10 #[.val (.ref x)] [.int cd])) := c3.trans (st4 _ (Steps.refl _))
  have c6 : Steps p.tables e below (s₁.setTop (entryFrame m #[.ref x] 1)) (T4.setTop (mkF m 18 #[.val (.ref x)] [.int (1 - cd)])) := by
    rcases hc with rfl | rfl
    · exact c5.trans (by
        refine XS.ifNo X4.here hexec rfl (hb hbytes d10) rfl (i0_ne_f rfl) ?_
        refine iconstV X4.here hexec rfl 1 (hb hbytes d13) (by decide) ?_
        refine XS.goto X4.here hexec rfl (pc0 := 14) rfl (hb hbytes d14) (by decide) rfl ?_
        exact Steps.refl _)
    · exact c5.trans (by
        refine XS.ifYes X4.here hexec rfl (pc0 := 10) rfl (hb hbytes d10) rfl (i0_ne_t (by decide)) (by decide) rfl ?_
        refine iconstV X4.here hexec rfl 0 (hb hbytes d17) (by decide) ?_
        exact Steps.refl _)
  exact ⟨T4, some (.int (1 - cd)), _, _, _, X4, rfl, rfl, rfl, (fun h => by cases h), ⟨rfl, q4.trans hh2⟩, fun fs hl => c6.trans (X4.ireturnOut hexec hret (by rcases hc with rfl | rfl <;> rfl) (Or.inr (Or.inl rfl)) (hb hbytes d18) hl)⟩
end IsL
namespace LChA
def yN : MethodName := ⟨"java/lang/StringLatin1", "charAt", "([BI)C"⟩
abbrev yB : ByteArray := jdk_43_method_2_code
theorem d0 : decode yB 0 = .ok (.iload_n 1, 1) := by decide +kernel
theorem d1 : decode yB 1 = .ok (.aload_n 0, 1) := by decide +kernel
theorem d2 : decode yB 2 = .ok (.arraylength, 1) := by decide +kernel
theorem d3 : decode yB 3 = .ok (.invokestatic 9, 3) := by decide +kernel
theorem d6 : decode yB 6 = .ok (.aload_n 0, 1) := by decide +kernel
theorem d7 : decode yB 7 = .ok (.iload_n 1, 1) := by decide +kernel
theorem d8 : decode yB 8 = .ok (.baload, 1) := by decide +kernel
theorem d9 : decode yB 9 = .ok (.sipush 255, 3) := by decide +kernel
theorem d12 : decode yB 12 = .ok (.iand, 1) := by decide +kernel
theorem d13 : decode yB 13 = .ok (.i2c, 1) := by decide +kernel
theorem d14 : decode yB 14 = .ok (.ireturn, 1) := by decide +kernel
def site : List Cond := [JO.Str_checkIndex.tab] ++ staticW "java/lang/StringLatin1" 9 JO.Str_checkIndex.yN
def tab : Cond := tabOf yN yB 2 (some .char) site
def P (t : Addr) (V : Cell) (i : Nat) (u : Int32) (fm : Value) (args : Array Value) (s : State) : Prop := args = #[.ref t, .int (Int32.ofNat i)] ∧ XT.Arr .byte t V s ∧ V.slots[i]? = some (.int u) ∧ (StaticIs s "jdk/internal/util/Preconditions" "SIOOBE_FORMATTER" "Ljava/util/function/BiFunction;" fm ∧ fm.isRef = true)
def E (u : Int32) (r : Option Value) (s w : State) : Prop := XT.PureE (some (.int (chr8 u))) r s w
theorem law (l : Launch) (t : Addr) (V : Cell) (i : Nat) (u : Int32) (fm : Value) : Law l yN 2 2 2 27 yB 2 (some .char) site (P t V i u fm) (E u) [] 0 0 := by
  refine Law.of_walk (plainFor_of_name (by decide +kernel)) (by decide +kernel) (by decide +kernel) (by decide) (fun _ _ h => by rw [h.1]; rfl) (fun _ U U' hal hh h => ⟨h.1, h.2.1.mv hal hh, h.2.2.1, h.2.2.2.1.there hal hh, h.2.2.2.2⟩) (fun r U U' V V' h1 hal h2 h => XT.PureE.mv r U U' V V' h1 hal h2 h) ?_
  intro p e s m args below meth c s₁ X0 hexec hbytes hml hret hlk hnm hown hh0 W hP
  obtain ⟨rfl, hV, hu, s1, rf⟩ := hP
  have v31 := hV.2.2.2
  have hi : i < V.slots.size := (Array.getElem?_eq_some_iff.mp hu).1
  have c1 : Steps p.tables e below (s₁.setTop (entryFrame m #[.ref t, .int (Int32.ofNat i)] 2)) (s₁.setTop (mkF m 0 #[.val (.ref t), .val (.int (Int32.ofNat i))] [])) := entry rfl
  have c2 : Steps p.tables e below (s₁.setTop (entryFrame m #[.ref t, .int (Int32.ofNat i)] 2)) (s₁.setTop (mkF m 3 #[.val (.ref t), .val (.int (Int32.ofNat i))] [.int (Int32.ofNat V.slots.size), .int (Int32.ofNat i)])) := c1.trans (by
    refine XS.iloadN X0.here hexec rfl (hb hbytes d0) rfl ?_
    refine XS.aloadN X0.here hexec rfl (hb hbytes d1) rfl rfl ?_
    refine X0.alen hexec (hV.mv X0.warmed.alike hh0) rfl rfl (hb hbytes d2) ?_
    exact Steps.refl _)
  obtain ⟨v3, T3, X3, E3, g3⟩ := X0.callS hexec (JO.Str_checkIndex.law l (Int32.ofNat i) (Int32.ofNat V.slots.size) fm) hown (wks W (staticW "java/lang/StringLatin1" 9 JO.Str_checkIndex.yN)) (wk W JO.Str_checkIndex.tab) (W := 0) (Nat.le_of_ble_eq_true rfl) (Nat.le_of_ble_eq_true rfl) (Nat.le_refl _) (Nat.le_refl _) (g := (mkF m 3 #[.val (.ref t), .val (.int (Int32.ofNat i))] [.int (Int32.ofNat V.slots.size), .int (Int32.ofNat i)])) rfl (by rw [hml]; rfl) c2 (argsL := [.int (Int32.ofNat i), .int (Int32.ofNat V.slots.size)]) (rest := []) rfl rfl (by show 2 * 0 + 0 ≤ _; decide) (hb hbytes d3) (⟨rfl, rf, s1.there X0.warmed.alike hh0, Int32.ofNat_not_neg (by omega), lt32 v31 hi⟩)
  obtain ⟨rfl, q3⟩ := E3
  have hh3 := q3.trans hh0
  have c4 : Steps p.tables e below (s₁.setTop (entryFrame m #[.ref t, .int (Int32.ofNat i)] 2)) (T3.setTop (mkF m 14 #[.val (.ref t), .val (.int (Int32.ofNat i))] [.int (chr8 u)])) := Steps.trans g3 (by
    refine XS.aloadN X3.here hexec rfl (hb hbytes d6) rfl rfl ?_
    refine XS.iloadN X3.here hexec rfl (hb hbytes d7) rfl ?_
    refine X3.aget hexec (hV.mv X3.warmed.alike hh3) rfl hu rfl rfl (hb hbytes d8) ?_
    refine sipushV X3.here hexec rfl 255 (hb hbytes d9) (by decide) ?_
    refine XS.iand X3.here hexec rfl (hb hbytes d12) rfl ?_
    refine i2c X3.here hexec rfl (hb hbytes d13) rfl ?_
    exact Steps.refl _)
  exact ⟨T3, some (.int (chr8 u)), _, _, _, X3, rfl, rfl, rfl, (fun h => by cases h), ⟨rfl, hh3⟩, fun fs hl => c4.trans (X3.ireturnOut hexec hret (narrow_c _) (Or.inr (Or.inr (Or.inr (Or.inl rfl)))) (hb hbytes d14) hl)⟩
end LChA
end StrChars
namespace StrChars.Road
open Jvm Sem ClassFile Op Lib Jvm.Stand Jvm.Free Jvm.Free.XT
open Jvm.Lib.Cold (StaticIs)
theorem consq {a : Array Value} {s : State} {c : Jvm.Cond} {L : List Jvm.Cond} (h0 : c.before a s = true) (h : ∀ w ∈ L, w.before a s = true) : ∀ w ∈ c :: L, w.before a s = true := fun w hw => (List.mem_cons.mp hw).elim (fun e => e ▸ h0) (h w)
/-- the bytes of the chars cs, low before high -/
def wideBytes : List Int32 → List Value
  | [] => []
  | c :: cs => .int (lo8 c) :: .int (hi8 c) :: wideBytes cs
theorem wide_lo (d : Value) : ∀ (cs : List Int32) (j : Nat), j < cs.length → (wideBytes cs).getD (2 * j) d = .int (lo8 (cs.getD j 0))
  | [], j, h => absurd h (Nat.not_lt_zero j)
  | c :: cs, 0, _ => rfl
  | c :: cs, j + 1, h => by
    have q := wide_lo d cs j (by simpa using h)
    rw [show 2 * (j + 1) = 2 * j + 1 + 1 from by omega]
    simpa [wideBytes] using q
theorem wide_hi (d : Value) : ∀ (cs : List Int32) (j : Nat), j < cs.length → (wideBytes cs).getD (2 * j + 1) d = .int (hi8 (cs.getD j 0))
  | [], j, h => absurd h (Nat.not_lt_zero j)
  | c :: cs, 0, _ => rfl
  | c :: cs, j + 1, h => by
    have q := wide_hi d cs j (by simpa using h)
    rw [show 2 * (j + 1) + 1 = 2 * j + 1 + 1 + 1 from by omega]
    simpa [wideBytes] using q
theorem low_at (d : Value) (cs : List Int32) (j : Nat) (h : j < cs.length) : (cs.map fun c => Value.int (lo8 c)).getD j d = .int (lo8 (cs.getD j 0)) := by
  simp [List.getD_eq_getElem?_getD, h]
/-- an array of N2 bytes vs codes the chars cs by the coder cd -/
def CodA (cs : List Int32) (cd N2 : Int32) (vs : List Value) : Prop := (cd = 0 ∧ N2 = Int32.ofNat cs.length ∧ vs = (cs.map fun c => Value.int (lo8 c)) ∧ ∀ c ∈ cs, ¬ 255 < c) ∨ (cd = 1 ∧ N2 = Int32.ofNat (2 * cs.length) ∧ vs = wideBytes cs ∧ ∃ c ∈ cs, 255 < c)
theorem CodA.cod {cs : List Int32} {cd N2 : Int32} {vs : List Value} {V : Cell} (h : CodA cs cd N2 vs) (hn : 2 * cs.length < 2 ^ 31) (hs : V.slots.size = N2.toNatClampNeg) (hv : RoadKit.Has V vs (.int 0)) : Cod cd cs.length (fun j => cs.getD j 0) V := by
  rcases h with ⟨rfl, rfl, rfl, h⟩ | ⟨rfl, rfl, rfl, c, hc, hw⟩
  · rw [n32 (by omega)] at hs
    exact Or.inl ⟨rfl, hs, fun j hj => ⟨by rw [hv j (by omega), low_at _ _ _ hj], by
      have e : cs.getD j 0 = cs[j] := by simp [List.getD_eq_getElem?_getD, hj]
      show ¬ 255 < cs.getD j 0
      rw [e]; exact h _ (List.getElem_mem _)⟩⟩
  · rw [n32 (by omega)] at hs
    obtain ⟨j, hj, rfl⟩ := List.getElem_of_mem hc
    exact Or.inr ⟨rfl, hs, fun j hj => ⟨by rw [hv _ (by omega), wide_lo _ _ _ hj], by rw [hv _ (by omega), wide_hi _ _ _ hj]⟩, j, hj, by
      have e : cs.getD j 0 = cs[j] := by simp [List.getD_eq_getElem?_getD, hj]
      show 255 < cs.getD j 0
      rw [e]; exact hw⟩
/-- an object of exactly java/lang/String, its two fields found: as the laws ask it -/
theorem strObj {Z U : State} {a0 : Array Value} {kI : Nat} (wi : (Jvm.Cond.instantiable ST kI).before a0 Z = true) (al : Z.vm.Alike U.vm) {x : Addr} {v0 c0 : Value} (E : RoadKit.Exa Z U.heap x ST) (V : RoadKit.Fld Z U.heap x ST "value" "[B" v0) (C : RoadKit.Fld Z U.heap x ST "coder" "B" c0) :
    ∃ (D : Cell) (fV fC : Field), Blank ST x D U ∧ Found ST "value" "[B" fV U ∧ Found ST "coder" "B" fC U ∧ D.slots[fV.slot]? = some v0 ∧ D.slots[fC.slot]? = some c0 ∧ RoadKit.slotOf Z ST "value" "[B" = fV.slot ∧ RoadKit.slotOf Z ST "coder" "B" = fC.slot := by
  obtain ⟨D, cfV, kV, iV, fV, hD, gV, stV, knV, obV, asV, slV⟩ := V
  obtain ⟨D', cfC, kC, iC, fC, hD', gC, stC, -, -, asC, slC⟩ := C
  cases hD.symm.trans hD'
  obtain ⟨D2, kD, e1, e2, e3, e4, e5⟩ := E
  cases hD.symm.trans e1
  obtain ⟨c2, k2, i1, i2, i3, -⟩ := Cond.instantiable_spec wi
  cases e2.symm.trans i1
  cases e3.symm.trans i2
  obtain ⟨kU, u1, u2⟩ := al.2.2 _ _ e3
  exact ⟨D, fV, fC, ⟨hD, ⟨knV, fun q hq => by rw [hq] at obV; cases obV⟩, by rw [al.findClass]; exact e2, kU, u1, by rw [u2]; exact i3, by rw [u2]; exact e5 i3⟩, ⟨SBG.found_only al ⟨cfV, kV, iV, gV⟩, stV⟩, ⟨SBG.found_only al ⟨cfC, kC, iC, gC⟩, stC⟩, slV, slC, by simp [RoadKit.slotOf, gV], by simp [RoadKit.slotOf, gC]⟩
theorem sta_is {Z U : State} (al : Z.vm.Alike U.vm) {C n d : String} {v : Value} (S : RoadKit.Sta Z U.heap C n d v) : StaticIs U C n d v := by
  obtain ⟨cfS, iS, kS, fS, st, cS, t1, t2, t3, t4, t5, t6, t7⟩ := S
  exact StaticIs.there (s := { Z with heap := U.heap }) ⟨cfS, iS, kS, fS, st, cS, t1, t2, t3, t4, t5, (fun q => by rw [q] at t6; cases t6), t7⟩ al rfl
end StrChars.Road
namespace StrChars.Road
open Jvm Sem ClassFile Op Lib Jvm.Stand Jvm.Free Jvm.Free.XT
open Jvm.Lib.Cold (StaticIs)
/-- the road's facts of a String, as the laws ask it -/
theorem txt_of {Z U : State} {a0 : Array Value} {kI : Nat} (wi : (Jvm.Cond.instantiable ST kI).before a0 Z = true) (al : Z.vm.Alike U.vm) {x t : Addr} {kb : ClassId} {cs : List Int32} {cd N2 : Int32} {vs : List Value} (E : RoadKit.Exa Z U.heap x ST) (V : RoadKit.Fld Z U.heap x ST "value" "[B" (.ref t)) (C : RoadKit.Fld Z U.heap x ST "coder" "B" (.int cd)) (K : RoadKit.Arv Z U.heap t kb .byte N2 vs (.int 0)) (hc : CodA cs cd N2 vs) (hb : ∀ c ∈ cs, ¬ c < 0 ∧ ¬ (65535 : Int32) < c) (l2 : cs.length ≤ 4000) :
    ∃ A, Txt x t A cd cs.length (fun j => cs.getD j 0) U := by
  obtain ⟨A, K1, K2, K3, K4, K5, K6⟩ := K
  have hcod := hc.cod (by omega) K3 K5
  obtain ⟨D, fV, fC, hB, F1, F2, g1, g2, -, -⟩ := strObj wi al E V C
  exact ⟨A, ⟨_, hB.2.2.1, D, hB.1, rfl, by cases q : D.vm <;> first | rfl | exact absurd q (hB.2.1.2 _)⟩, Has.of hB F1 g1, Has.of hB F2 g2, ⟨K1.1, State.isArrayOf_alike al K1.2.1, K1.2.2, by rcases hcod with ⟨-, q, -⟩ | ⟨-, q, -⟩ <;> omega⟩, hcod, fun j hj => by
    have e : cs.getD j 0 = cs[j] := by simp [List.getD_eq_getElem?_getD, hj]
    show ¬ cs.getD j 0 < 0 ∧ ¬ 65535 < cs.getD j 0
    rw [e]; exact hb _ (List.getElem_mem _)⟩
end StrChars.Road
namespace StrChars
open Jvm Sem ClassFile Op Lib Jvm.Stand Jvm.Free.XT Jvm.Free.ALB Jvm.Free.JM Jvm.Free
open Jvm.Lib.Cold (StaticIs)
namespace ChN
def yN : MethodName := ⟨"java/lang/String", "charAt", "(I)C"⟩
abbrev yB : ByteArray := jdk_42_method_56_code
theorem d0 : decode yB 0 = .ok (.aload_n 0, 1) := by decide +kernel
theorem d1 : decode yB 1 = .ok (.invokevirtual 492, 3) := by decide +kernel
theorem d4 : decode yB 4 = .ok (.ifCond (.eq) 12, 3) := by decide +kernel
theorem d7 : decode yB 7 = .ok (.aload_n 0, 1) := by decide +kernel
theorem d8 : decode yB 8 = .ok (.getfield 9, 3) := by decide +kernel
theorem d11 : decode yB 11 = .ok (.iload_n 1, 1) := by decide +kernel
theorem d12 : decode yB 12 = .ok (.invokestatic 495, 3) := by decide +kernel
theorem d15 : decode yB 15 = .ok (.ireturn, 1) := by decide +kernel
def site : List Cond := [.fieldLink "java/lang/String" 9 "java/lang/String" "value" "[B", IsL.tab, LChA.tab] ++ virtW "java/lang/String" 492 "java/lang/String" IsL.yN IsL.yN ++ staticW "java/lang/String" 495 LChA.yN
def tab : Cond := tabOf yN yB 2 (some .char) site
def P (x t : Addr) (V : Cell) (n : Nat) (f : Nat → Int32) (z : Int32) (fm : Value) (i : Nat) (args : Array Value) (s : State) : Prop := args = #[.ref x, .int (Int32.ofNat i)] ∧ Txt x t V 0 n f s ∧ i < n ∧ StaticIs s "java/lang/String" "COMPACT_STRINGS" "Z" (.int z) ∧ ¬ z = 0 ∧ StaticIs s "jdk/internal/util/Preconditions" "SIOOBE_FORMATTER" "Ljava/util/function/BiFunction;" fm ∧ fm.isRef = true
def E (f : Nat → Int32) (i : Nat) (r : Option Value) (s u : State) : Prop := XT.PureE (some (.int (f i))) r s u
/-- charAt(i) of a Latin-1 String of n chars, i < n: f i -/
theorem law (l : Launch) (x t : Addr) (V : Cell) (n : Nat) (f : Nat → Int32) (z : Int32) (fm : Value) (i : Nat) : Law l yN 2 1 3 40 yB 2 (some .char) site (P x t V n f z fm i) (E f i) [] 0 0 := by
  refine Law.of_walk (plainFor_of_name (by decide +kernel)) (by decide +kernel) (by decide +kernel) (by decide) (fun _ _ h => by rw [h.1]; rfl) (fun _ U U' hal hh h => ⟨h.1, h.2.1.mv hal hh, h.2.2.1, h.2.2.2.1.there hal hh, h.2.2.2.2.1, h.2.2.2.2.2.1.there hal hh, h.2.2.2.2.2.2⟩) (fun r U U' V V' h1 hal h2 h => XT.PureE.mv r U U' V V' h1 hal h2 h) ?_
  intro p e s m args below meth c s₁ X0 hexec hbytes hml hret hlk hnm hown hh0 W hP
  obtain ⟨rfl, hx, hi, s1, hz, s3, rf⟩ := hP
  have v31 := hx.2.2.2.1.2.2.2
  have hr := hx.2.2.2.2.2 i hi
  have hx0 := hx.mv X0.warmed.alike hh0
  have c1 : Steps p.tables e below (s₁.setTop (entryFrame m #[.ref x, .int (Int32.ofNat i)] 2)) (s₁.setTop (mkF m 1 #[.val (.ref x), .val (.int (Int32.ofNat i))] [.ref x])) := Steps.trans (entry rfl) (by
    show Steps p.tables e below (s₁.setTop (mkF m 0 #[.val (.ref x), .val (.int (Int32.ofNat i))] [])) _
    refine XS.aloadN X0.here hexec rfl (hb hbytes d0) rfl rfl ?_
    exact Steps.refl _)
  obtain ⟨v2, T2, X2, E2, g2⟩ := X0.callV hexec (IsL.law l x 0 z) hown (wks W (virtW "java/lang/String" 492 "java/lang/String" IsL.yN IsL.yN)) rfl (by decide) (wk W IsL.tab) (W := 0) (Nat.le_of_ble_eq_true rfl) (Nat.le_of_ble_eq_true rfl) (Nat.le_refl _) (Nat.le_refl _) (hx0.1.fc X0.warmed.alike) hx0.1.is (g := (mkF m 1 #[.val (.ref x), .val (.int (Int32.ofNat i))] [.ref x])) rfl (by rw [hml]; rfl) c1 (argsL := []) (rest := []) rfl rfl (by show 2 * 0 + 0 ≤ _; decide) (hb hbytes d1) (⟨rfl, hx0.2.2.1, hx.2.2.2.2.1.cd, s1.there X0.warmed.alike hh0, hz⟩)
  obtain ⟨rfl, q2⟩ := E2
  have hh2 := q2.trans hh0
  have hx2 := hx.mv X2.warmed.alike hh2
  obtain ⟨-, k1, k2⟩ | ⟨k0, -⟩ := hx.2.2.2.2.1
  · have c3 : Steps p.tables e below (s₁.setTop (entryFrame m #[.ref x, .int (Int32.ofNat i)] 2)) (T2.setTop (mkF m 8 #[.val (.ref x), .val (.int (Int32.ofNat i))] [.ref x])) := Steps.trans g2 (by
      refine XS.ifNo X2.here hexec rfl (hb hbytes d4) rfl (i0_eq_f (by decide)) ?_
      refine XS.aloadN X2.here hexec rfl (hb hbytes d7) rfl rfl ?_
      exact Steps.refl _)
    obtain ⟨T4, X4, q4, st4⟩ := X2.hget hexec hown (wk W (.fieldLink "java/lang/String" 9 "java/lang/String" "value" "[B")) hx2.2.1 (g := (mkF m 8 #[.val (.ref x), .val (.int (Int32.ofNat i))] [.ref x])) rfl (rest := []) rfl (hb hbytes d8)
    have hh4 := q4.trans hh2
    have c5 : Steps p.tables e below (s₁.setTop (entryFrame m #[.ref x, .int (Int32.ofNat i)] 2)) (T4.setTop (mkF m 12 #[.val (.ref x), .val (.int (Int32.ofNat i))] [.int (Int32.ofNat i), .ref t])) := (c3.trans (st4 _ (Steps.refl _))).trans (by
      refine XS.iloadN X4.here hexec rfl (hb hbytes d11) rfl ?_
      exact Steps.refl _)
    obtain ⟨v6, T6, X6, E6, g6⟩ := X4.callS hexec (LChA.law l t V i (lo8 (f i)) fm) hown (wks W (staticW "java/lang/String" 495 LChA.yN)) (wk W LChA.tab) (W := 0) (Nat.le_of_ble_eq_true rfl) (Nat.le_of_ble_eq_true rfl) (Nat.le_refl _) (Nat.le_refl _) (g := (mkF m 12 #[.val (.ref x), .val (.int (Int32.ofNat i))] [.int (Int32.ofNat i), .ref t])) rfl (by rw [hml]; rfl) c5 (argsL := [.ref t, .int (Int32.ofNat i)]) (rest := []) rfl rfl (by show 2 * 0 + 0 ≤ _; decide) (hb hbytes d12) (⟨rfl, hx.2.2.2.1.mv X4.warmed.alike hh4, (k2 i hi).1, s3.there X4.warmed.alike hh4, rf⟩)
    obtain ⟨rfl, q6⟩ := E6
    rw [chr8_lo8 hr.1 (k2 i hi).2] at g6
    exact ⟨T6, some (.int (f i)), _, _, _, X6, rfl, rfl, rfl, (fun h => by cases h), ⟨rfl, q6.trans hh4⟩, fun fs hl => Steps.trans g6 (X6.ireturnOut hexec hret (narrow_ch hr.1 hr.2) (Or.inr (Or.inr (Or.inr (Or.inl rfl)))) (hb hbytes d15) hl)⟩
  · exact absurd k0 (by decide)
theorem pays {l : Launch} {R : Room} {p : Program} {e : Env} {below : List Frame} {s : State} {sargs : Array Value} {len W : Nat} (x t : Addr) (V : Cell) (n : Nat) (f : Nat → Int32) (z : Int32) (fm : Value) (i : Nat) (htab : tab.before sargs s = true) (hfr : 4 ≤ R.frames) (hlo : W + 53 ≤ R.locals) :
    Back l R p e below s sargs yN len W (fun A₁ a₁ => A₁.cells + 0 ≤ R.cells ∧ A₁.slots + 0 ≤ R.slots ∧ P x t V n f z fm i a₁ A₁.U) (fun A₁ _ v₁ B₁ => E f i v₁ A₁.U B₁.U ∧ B₁.locs = A₁.locs ++ [] ∧ B₁.cells = A₁.cells + 0 ∧ B₁.slots = A₁.slots + 0) :=
  (law l x t V n f z fm i).pays htab hfr (by omega)
end ChN
end StrChars
namespace StrChars.Road
open Jvm Sem ClassFile Op Lib Jvm.Stand Jvm.Free Jvm.Free.XT
open Jvm.Lib.Cold (StaticIs)
/-- the words of String.charAt(int), the Latin-1 road alone -/
abbrev wordsChN : List Jvm.Cond := [.code ChN.yN ChN.yB 2 (some .char), .initialized ST, .fieldLink ST 9 ST "value" "[B", .fieldLink ST 38 ST "COMPACT_STRINGS" "Z", .fieldLink ST 15 ST "coder" "B", .code IsL.yN IsL.yB 1 (some .boolean), .methodLink ST 492 IsL.yN, .declares IsL.yN, .selects ST IsL.yN IsL.yN, .instanceMethod IsL.yN,
  .methodLink ST 495 LChA.yN, .static LChA.yN, .code LChA.yN LChA.yB 2 (some .char), .initialized "java/lang/StringLatin1", .methodLink "java/lang/StringLatin1" 9 JO.Str_checkIndex.yN, .static JO.Str_checkIndex.yN, .code JO.Str_checkIndex.yN JO.Str_checkIndex.yB 2 none,
  .fieldLink ST 1053 "jdk/internal/util/Preconditions" "SIOOBE_FORMATTER" "Ljava/util/function/BiFunction;", .methodLink ST 1059 JC.PreCheck.yN, .static JC.PreCheck.yN, .code JC.PreCheck.yN JC.PreCheck.yB 3 (some .int), .initialized "jdk/internal/util/Preconditions"]
theorem tabChN_of {a : Array Value} {s : State} (h : ∀ w ∈ wordsChN, w.before a s = true) : ChN.tab.before a s = true := by
  have hp : JC.PreCheck.tab.before a s = true := unparts (wk h (.code JC.PreCheck.yN JC.PreCheck.yB 3 (some .int))) (wks h (.initialized JC.PreCheck.yN.cls :: JC.PreCheck.site))
  have qk := consq hp h
  have hk : JO.Str_checkIndex.tab.before a s = true := unparts (wk qk (.code JO.Str_checkIndex.yN JO.Str_checkIndex.yB 2 none)) (wks qk (.initialized JO.Str_checkIndex.yN.cls :: JO.Str_checkIndex.site))
  have ql := consq hk h
  have hl : LChA.tab.before a s = true := unparts (wk ql (.code LChA.yN LChA.yB 2 (some .char))) (wks ql (.initialized LChA.yN.cls :: LChA.site))
  have hi : IsL.tab.before a s = true := unparts (wk h (.code IsL.yN IsL.yB 1 (some .boolean))) (wks h (.initialized IsL.yN.cls :: IsL.site))
  have q := consq hi (consq hl h)
  exact unparts (wk q (.code ChN.yN ChN.yB 2 (some .char))) (wks q (.initialized ChN.yN.cls :: ChN.site))
theorem movedChN {Z s : State} {a0 args : Array Value} (hZ : Z.Warmed39 s.vm) (hw : ∀ d ∈ wordsChN, d.before a0 Z = true) : ∀ d ∈ wordsChN, d.before args s = true := fun d hd => by
  have t : ∀ d ∈ wordsChN, (d.onTables && d.keepsFace) = true := by decide +kernel
  exact RoadKit.mv hZ (hw d hd) (t d hd)
/-- **charAt(i) OF A LATIN-1 STRING**, i < n: the char -/
theorem chN {p : Program} {l : Launch} {e : Env} {R : Room} {s : State} {args : Array Value} {below : List Frame} {len W : Nat} {Z : State} {a0 : Array Value} {h : Heap} (hZ : Z.Warmed39 s.vm) (hw : ∀ d ∈ wordsChN, d.before a0 Z = true) {kI : Nat} (wi : (Jvm.Cond.instantiable ST kI).before a0 Z = true)
    {x t : Addr} {kb : ClassId} {cs : List Int32} {N2 z : Int32} {vs : List Value} {fm : Value} {i : Nat} {j : Int32} (E : RoadKit.Exa Z h x ST) (V : RoadKit.Fld Z h x ST "value" "[B" (.ref t)) (C : RoadKit.Fld Z h x ST "coder" "B" (.int 0)) (K : RoadKit.Arv Z h t kb .byte N2 vs (.int 0)) (hc : CodA cs 0 N2 vs) (hb : ∀ c ∈ cs, ¬ c < 0 ∧ ¬ (65535 : Int32) < c)
    (S : RoadKit.Sta Z h ST "COMPACT_STRINGS" "Z" (.int z)) (hz : ¬ z = 0) (F : RoadKit.Sta Z h "jdk/internal/util/Preconditions" "SIOOBE_FORMATTER" "Ljava/util/function/BiFunction;" fm) (rf : fm.isRef = true) (l2 : cs.length ≤ 4000) (hi : i < cs.length) (hj : j = Int32.ofNat i) (hfr : 4 ≤ R.frames) (hlo : W + 53 ≤ R.locals) :
    Back l R p e below s args (⟨"java/lang/String", "charAt", "(I)C"⟩ : MethodName) len W (fun P a => a = #[.ref x, .int j] ∧ P.U.heap = h ∧ P.cells + 0 ≤ R.cells ∧ P.slots + 0 ≤ R.slots)
      (fun P _ v B => ∃ L, (v = some (.int (cs.getD i 0)) ∧ L = [] ∧ B.U.heap = h) ∧ B.locs = P.locs ++ L ∧ B.cells = P.cells + 0 ∧ B.slots = P.slots + 0) := by
  subst hj
  intro m meth c P g ig mk a X hg hsize hdg hW hn hp'
  obtain ⟨rfl, rfl, r1, r2⟩ := hp'
  have al : Z.vm.Alike P.U.vm := hZ.alike.trans X.warmed.alike
  obtain ⟨A, hx⟩ := txt_of wi al E V C K hc hb l2
  obtain ⟨v, B, X', ⟨⟨hv, hh⟩, hl, hk, hs⟩, st⟩ := ChN.pays x t A cs.length (fun j => cs.getD j 0) z fm i (tabChN_of (movedChN hZ hw)) hfr hlo m meth c P g ig mk _ X hg hsize hdg hW hn ⟨r1, r2, rfl, hx, hi, sta_is al S, hz, sta_is al F, rf⟩
  exact ⟨v, B, X', ⟨[], ⟨hv, rfl, hh⟩, hl, hk, hs⟩, st⟩
end StrChars.Road
end Jvm.Pilot.@@N@@
namespace Jvm.Pilot.@@N@@
open Jvm Jvm.ClassFile Sem Op Lib Jvm.Free Jvm.Stand Jvm.LawKit Jvm.RoadKit Bundle Jvm.Pilot.@@N@@.Jvm.D
/-- an object of exactly this class that the program made (no cell of the machine's own) -/
def Obj (Z : State) (h : Heap) (a : Addr) (C : String) : Prop := ∃ (cell : Cell) (k : Class), h[a]? = some cell ∧ Z.vm.findClass C = some cell.cls ∧ Z.vm.classes[cell.cls]? = some k ∧ cell.vm = .none ∧ (k.kind = .ordinary → cell.slots.size = k.instanceTypes.size)
section ObjS
variable {Z : State} {h h' h0 : Heap} {a b : Addr} {C O n d : String} {sl kk : Nat} {v : Value} {ws : List Addr} {a0 : Array Value}
theorem Obj.of (E : Exa Z h a C) (q : ∃ cell : Cell, h[a]? = some cell ∧ cell.vm = .none ∧ cell.monitor = {}) : Obj Z h a C := by
  obtain ⟨cell, k, h1, h2, h3, h4, h5⟩ := E
  obtain ⟨cell', g1, g2, -⟩ := q
  cases h1.symm.trans g1
  exact ⟨cell, k, h1, h2, h3, g2, h5⟩
theorem Obj.exa (F : Obj Z h a C) : Exa Z h a C := by
  obtain ⟨cell, k, h1, h2, h3, h4, h5⟩ := F
  exact ⟨cell, k, h1, h2, h3, by rw [h4]; rfl, h5⟩
theorem Obj.lt (F : Obj Z h a C) : a < h.size := F.exa.lt
theorem Obj.ext (F : Obj Z h b C) (E : Ext h h') : Obj Z h' b C := by obtain ⟨cell, k, h1, r⟩ := F; exact ⟨cell, k, E.2 _ _ h1, r⟩
theorem Obj.keep (F : Obj Z h a C) (K : Keep h h' ws) : Obj Z h' a C := by
  obtain ⟨cell, k, h1, h2, h3, h4, h5⟩ := F
  obtain ⟨c', q1, q2, q3, q4⟩ := K.2.2 _ _ h1
  exact ⟨c', k, q1, by rw [q2]; exact h2, by rw [q2]; exact h3, by rw [q3]; exact h4, fun q => by rw [q4]; exact h5 q⟩
theorem Obj.wr (F : Obj Z h b C) (W : Wr h h' a sl v) : Obj Z h' b C := F.keep (Keep.of_wr W)
/-- each field that is laid in such an object holds something -/
theorem Obj.fld (F : Obj Z h a C) (L : Laid Z a0 C O n d) (wi : (Cond.instantiable C kk).before a0 Z = true) : ∃ v, Fld Z h a O n d v := by
  obtain ⟨cell, k, h1, h2, h3, h4, h5⟩ := F
  obtain ⟨c1, k1, cf, kf, i, f, a1, a2, a3, a4, a5, a6, -⟩ := L.spec
  obtain ⟨c2, k2, i1, i2, i3, -⟩ := Cond.instantiable_spec wi
  cases h2.symm.trans a1
  cases h2.symm.trans i1
  cases a2.symm.trans i2
  cases h3.symm.trans a2
  have hs := h5 i3
  have hlt : f.slot < cell.slots.size := by rw [hs]; exact (Array.getElem?_eq_some_iff.mp a6).1
  exact ⟨cell.slots[f.slot], cell, cf, kf, i, f, h1, a3, a4, by rw [h4]; simp, by rw [h4]; rfl, a5, Array.getElem?_eq_getElem hlt⟩
end ObjS
theorem gw {Z : State} {a0 : Array Value} (hw : ∀ d ∈ tables_1, d.before a0 Z = true) (i : Nat) {d : Jvm.Cond} (h : tables_1[i]? = some d) : d.before a0 Z = true := hw _ (List.mem_of_getElem? (i := i) h)
section OwnWords
variable {args : Array Value} {s : State} {t u : Term} {a b : Addr} {n : Int32} {cl : Cell} {ty : FieldType} {v : Value}
theorem own_wI (h : (Cond.eq t (Term.int n)).value args s none s [] = some true) : t.eval args s none [] s = some (.int n) := by
  cases hx : t.eval args s none [] s with
  | none => simp [Cond.value, hx] at h
  | some x => cases x <;> simp [Cond.value, hx, Term.eval] at h ⊢ <;> exact h
theorem own_wR (h : (Cond.eq t u).value args s none s [] = some true) (hu : u.eval args s none [] s = some (.ref b)) : t.eval args s none [] s = some (.ref b) := by
  cases hx : t.eval args s none [] s with
  | none => simp [Cond.value, hx] at h
  | some x => cases x <;> simp [Cond.value, hx, hu] at h ⊢ <;> exact h
theorem own_wL (h : (Term.length t).eval args s none [] s = some (.int n)) (ht : t.eval args s none [] s = some (.ref a)) (A : Arr s s.heap a cl ty) : cl.slots.size < 2 ^ 31 ∧ cl.slots.size.toInt32 = n := by
  have ha : s.arrayAt? a = some cl := Arr.fin (Z := s) (U := s) (Vm.Alike.refl _) A
  simp only [Term.eval, ht, ha, Option.bind_eq_bind, Option.bind_some] at h
  by_cases q : cl.slots.size < 2 ^ 31
  · rw [if_pos q] at h; exact ⟨q, Value.int.inj (Option.some.inj h)⟩
  · rw [if_neg q] at h; cases h
theorem own_wE {j : Int32} (h : (Term.elem t (Term.int j)).eval args s none [] s = some v) (ht : t.eval args s none [] s = some (.ref a)) (A : Arr s s.heap a cl ty) : cl.slots[j.toNatClampNeg]? = some v := (elem_in h ht rfl A.1).2
theorem own_wF {C f d : String} (h : (Term.field t C f d).eval args s none [] s = some v) (ht : t.eval args s none [] s = some (.ref a)) : Fld s s.heap a C f d v := Fld.start (by rw [← h]; exact (fld_at ht).symm)
end OwnWords
/-! lists of bytes in a builder's array of 16, and small numbers as ints -/
section OwnW
def own_B (cs : List Int32) : List Value := (cs.map fun c => c.toInt8.toInt32).map Value.int
theorem own_Blen (cs : List Int32) : (own_B cs).length = cs.length := by simp [own_B]
theorem own_Bapp (a b : List Int32) : own_B (a ++ b) = own_B a ++ own_B b := by simp [own_B]
def own_W (B : List Value) : List Value := B ++ List.replicate (16 - B.length) (.int 0)
theorem own_Wlen {B : List Value} (h : B.length ≤ 16) : (own_W B).length = 16 := by simp [own_W]; omega
theorem own_on {n : Nat} (h : n ≤ 4000) : (Int32.ofNat n).toInt = n ∧ ¬ Int32.ofNat n < 0 ∧ (Int32.ofNat n).toNatClampNeg = n := by
  have e : (Int32.ofNat n).toInt = n := Int32.toInt_ofNat_of_lt (by omega)
  have hn : ¬ Int32.ofNat n < 0 := by
    rw [Int32.lt_iff_toInt_lt, e]
    have : (0 : Int32).toInt = 0 := by decide
    omega
  refine ⟨e, hn, ?_⟩
  have := nat_of hn
  omega
theorem own_addN {a b : Nat} (h : a + b ≤ 4000) : Int32.ofNat a + Int32.ofNat b = Int32.ofNat (a + b) := by
  apply Int32.toInt_inj.mp
  have e1 := (own_on (n := a) (by omega)).1
  have e2 := (own_on (n := b) (by omega)).1
  have e3 := (own_on h).1
  have q := c_iadd (Int32.ofNat a) (Int32.ofNat b)
  have r := rng32 (Int32.ofNat a + Int32.ofNat b)
  omega
theorem own_WA {B U : List Value} {n : Nat} (hn : U.length = n) (h : B.length + n ≤ 16) : (own_W B).take (Int32.ofNat B.length).toNatClampNeg ++ U ++ (own_W B).drop ((Int32.ofNat B.length).toNatClampNeg + (Int32.ofNat n).toNatClampNeg) = own_W (B ++ U) := by
  subst hn
  rw [(own_on (n := B.length) (by omega)).2.2, (own_on (n := U.length) (by omega)).2.2]
  simp only [own_W, List.take_left', List.length_append]
  rw [List.drop_append, List.drop_eq_nil_of_le (by omega : B.length ≤ B.length + U.length), List.nil_append, List.drop_replicate]
  congr 2
  omega
theorem own_Wtake {B : List Value} (h : B.length ≤ 16) : (own_W B).take (Int32.ofNat B.length).toNatClampNeg = B := by
  rw [(own_on (n := B.length) (by omega)).2.2]
  simp only [own_W]
  rw [List.take_append_of_le_length (Nat.le_refl _), List.take_length]
theorem own_room {a b : Nat} (h : a + b ≤ 16) : ¬ (0 : Int32) < Int32.ofNat a + Int32.ofNat b - (16 : Int32) := by
  rw [own_addN (by omega)]
  have e3 := (own_on (n := a + b) (by omega)).1
  have q := c_isub (Int32.ofNat (a + b)) 16
  have r := rng32 (Int32.ofNat (a + b) - 16)
  have k : (16 : Int32).toInt = 16 := by decide
  have k0 : (0 : Int32).toInt = 0 := by decide
  rw [Int32.lt_iff_toInt_lt]
  omega
end OwnW
def own_EL : List (String × Nat) := [("java/lang/String", 7)]
theorem own_wS {Z : State} {a0 : Array Value} (hw : ∀ d ∈ tables_1, d.before a0 Z = true) : ∀ a ∈ Bundle.stringAtoms, a.before a0 Z = true := fun d hd => hw d ((by decide +kernel : ∀ d ∈ Bundle.stringAtoms, d ∈ tables_1) d hd)
theorem own_hEL {Z : State} {a0 : Array Value} (hw : ∀ d ∈ tables_1, d.before a0 Z = true) : EW Z a0 own_EL := (EW.cons (gw hw 91 rfl) (by decide) EW.nil)
theorem own_shr0 (x : Int32) : x >>> ((0 : Int32) &&& 31) = x := by
  apply Int32.toInt_inj.mp
  rw [c_ishr x 0 0 (by decide)]; simp
theorem own_shl0 (x : Int32) : x <<< ((0 : Int32) &&& 31) = x := by
  apply Int32.toInt_inj.mp
  have h := c_ishl x 0 0 (by decide)
  have r1 := rng32 x
  have r2 := rng32 (x <<< ((0 : Int32) &&& 31))
  simp only [Nat.pow_zero, Int.natCast_one, Int.mul_one, Int.cast_ofNat_Int] at h
  omega
theorem own_rng (us : List Value) (d : Value) : us = (List.range us.length).map fun i => us.getD ((0 : Int32).toNatClampNeg + i) d := by
  apply List.ext_getElem
  · simp
  · intro i h1 h2
    have e : (0 : Int32).toNatClampNeg = 0 := by decide
    simp [e, List.getD_eq_getElem?_getD, h1]
theorem own_decl {s : State} {a : Array Value} {y : MethodName} {bytes : ByteArray} {maxL : Nat} {ret : Option FieldType} (w1 : (Cond.instanceMethod y).before a s = true) (w2 : (Cond.code y bytes maxL ret).before a s = true) : (Cond.declares y).before a s = true := by
  obtain ⟨mk, methM, hnamed, hmethM, hst, -⟩ := Cond.instanceMethod_spec w1
  obtain ⟨m2, cM, q1, -, -, -, -, -, -, hsig⟩ := Cond.code_spec hnamed w2
  cases hmethM.symm.trans q1
  simp [Cond.before, Cond.holds, Cond.value, hnamed, hmethM, hst, hsig]
theorem own_nf {s : State} {a : Array Value} {y y' : MethodName} (hc : y.cls = y'.cls) (N : NotFace s y') (w : (Cond.instanceMethod y').before a s = true) : NotFace s y := fun r0 h0 => by
  obtain ⟨mk, methM, hnamed, -⟩ := Cond.instanceMethod_spec w
  obtain ⟨kr, h1, h2⟩ := N mk hnamed
  have e1 := findClass_of_methodNamed h0
  have e2 := findClass_of_methodNamed hnamed
  rw [hc, e2] at e1
  rw [← Option.some.inj e1]
  exact ⟨kr, h1, h2⟩
theorem own_same {s : State} {a : Array Value} {y : MethodName} (w : (Cond.instanceMethod y).before a s = true) (N : NotFace s y) (hy : y.cls ≠ "java/lang/invoke/MethodHandle" ∧ y.cls ≠ "java/lang/invoke/VarHandle") : (Cond.sameMethod y.cls y.cls y.name y.desc).before a s = true := by
  obtain ⟨mk, methM, hnamed, -⟩ := Cond.instanceMethod_spec w
  obtain ⟨kr, h1, h2⟩ := N mk hnamed
  have e1 := findClass_of_methodNamed hnamed
  have e2 := State.methodFound?_of_named hnamed hy
  obtain ⟨c1, n1, d1⟩ := y
  simp only at e1 e2
  simp [Cond.before, Cond.holds, Cond.value, e1, e2, hnamed, h1, h2]
theorem pn_java_lang_String : plainName "java/lang/String" = true := by first | (simp [plainName, overriddenIn]; done) | decide +kernel
theorem D0_0 : decode jdk_42_method_152_code 0 = .ok (.getstatic 38, 3) := by decide +kernel
theorem D0_3 : decode jdk_42_method_152_code 3 = .ok (.ifCond .eq 10, 3) := by decide +kernel
theorem D0_6 : decode jdk_42_method_152_code 6 = .ok (.aload_n 0, 1) := by decide +kernel
theorem D0_7 : decode jdk_42_method_152_code 7 = .ok (.getfield 15, 3) := by decide +kernel
theorem D0_10 : decode jdk_42_method_152_code 10 = .ok (.goto 4, 3) := by decide +kernel
theorem D0_14 : decode jdk_42_method_152_code 14 = .ok (.ireturn, 1) := by decide +kernel
theorem ef_own_coder (m : MethodId) {sa : Addr} : entryFrame m #[(.ref sa)] 1 = mkF m 0 #[.val (.ref sa)] [] := by first | (simp [entryFrame, mkF, argsToLocals, Value.category]; done) | rfl
def Q_own_coder (Z : State) (sa : Addr) (G1 : Int32) (h0 : Heap) (n0 : Nat) (v : Option Value) (h : Heap) (L : List Loc) : Prop := v = some (.int 0) ∧ Fr n0 L ∧ h = h0
set_option maxRecDepth 65536 in
set_option maxHeartbeats 40000000 in
theorem own_coder (l : Launch) (Z : State) (a0 : Array Value) (hw : ∀ d ∈ tables_1, d.before a0 Z = true) (ws : List Jvm.Cond) (sa : Addr) (G1 : Int32) (h0 : Heap) (n0 : Nat) (Z0 : n0 ≤ h0.size) (CS : Fld Z h0 sa "java/lang/String" "coder" "B" (.int 0)) (O2 : Sta Z Z.heap "java/lang/String" "COMPACT_STRINGS" "Z" (.int G1)) (P5 : ¬ G1 = (0 : Int32)) (XO : Old Z n0 h0) :
    MetFree l (⟨"java/lang/String", "coder", "()B"⟩ : MethodName) (head1 (Jvm.Cond.code (⟨"java/lang/String", "coder", "()B"⟩ : MethodName) jdk_42_method_152_code 1 (some .byte) :: ws) ({ frames := 0, cells := 0, slots := 0, locals := 0 } : Room)) (fun a U => a = #[(.ref sa)] ∧ Z.Warmed39 U.vm ∧ U.heap = h0) (fun _ _ _ _ _ => True) (fun _ U o U' => ∃ v L, o = .returned v ∧ Q_own_coder Z sa G1 h0 n0 v U'.heap L ∧ FrameEnd U o U' L ({ frames := 0, cells := 0, slots := 0, locals := 0 } : Room).cells ({ frames := 0, cells := 0, slots := 0, locals := 0 } : Room).slots) := by
  refine MetFree.of_bodySF (plainFor_of_name pn_java_lang_String) hisR ?_
  intro p e s m args below meth c s₁ Bd hml0 hP hK
  obtain ⟨rfl, hZ, hh⟩ := hP
  have hx := Bd.exec
  have hby := Bd.bytes
  have hml : c.maxLocals = 1 := hml0
  have hown : s.vm.findClass "java/lang/String" = some m.cls := findClass_of_methodNamed Bd.named
  have hnm := (name_of_methodNamed Bd.named Bd.method).1
  have X0 : Stand p l e ({ frames := 0, cells := 0, slots := 0, locals := 0 } : Room) s m #[(.ref sa)] below meth c s₁ [] 0 0 := Stand.of_body Bd
  have e0 : s₁.heap = h0 := by rw [← hh, Bd.state]; rfl
  have N0 := Fr.nil n0
  have pre0 : ∀ t, Steps p.tables e below (s₁.setTop (mkF m 0 #[.val (.ref sa)] [])) t → Steps p.tables e below (s₁.setTop (entryFrame m #[(.ref sa)] 1)) t := fun t k => castTop (ef_own_coder m) k
  obtain ⟨T1, X1, e1, st1⟩ := getS2 X0 hx hZ hown (host := "") (Or.inl (gw hw 12 rfl)) Via.refl e0 (O2.ext XO.2) (g := (mkF m 0 #[.val (.ref sa)] [])) rfl (hb hby D0_0)
  have pre2 : ∀ t, Steps p.tables e below (T1.setTop (mkF m 3 #[.val (.ref sa)] [(.int G1)])) t → Steps p.tables e below (s₁.setTop (entryFrame m #[(.ref sa)] 1)) t := by
    intro t kk
    refine pre0 t ?_
    show Steps p.tables e below (s₁.setTop (mkF m 0 #[.val (.ref sa)] [])) _
    exact st1 _ kk
  obtain ⟨T3, X3, e3, st3⟩ := getF X1 hx hZ hown (host := "") (Or.inl (gw hw 32 rfl)) Via.refl e1 CS (g := (mkF m 7 #[.val (.ref sa)] [(.ref sa)])) rfl rfl (hb hby D0_7)
  have pre4 : ∀ t, Steps p.tables e below (T3.setTop (mkF m 10 #[.val (.ref sa)] [(.int 0)])) t → Steps p.tables e below (s₁.setTop (entryFrame m #[(.ref sa)] 1)) t := by
    intro t kk
    refine pre2 t ?_
    show Steps p.tables e below (T1.setTop (mkF m 3 #[.val (.ref sa)] [(.int G1)])) _
    refine XS.ifNo X1.here hx rfl (hb hby D0_3) rfl ((if0 _ _).trans (feq P5).1) ?_
    show Steps p.tables e below (T1.setTop (mkF m 6 #[.val (.ref sa)] [])) _
    refine XS.aloadN X1.here hx rfl (hb hby D0_6) rfl rfl ?_
    show Steps p.tables e below (T1.setTop (mkF m 7 #[.val (.ref sa)] [(.ref sa)])) _
    exact st3 _ kk
  obtain ⟨fs, hr, hrun, hended, hW, hsame⟩ := X3.leave (v := some (.int 0)) (fun h => by rw [Bd.returns] at h; cases h)
  refine ⟨_, _, pre4 _ ?_, hrun, hended, _, _, rfl, ?_, ⟨_, rfl⟩, hW, hsame.mono (by decide) (by decide)⟩
  · show Steps p.tables e below (T3.setTop (mkF m 10 #[.val (.ref sa)] [(.int 0)])) _
    refine XS.goto X3.here hx rfl (pc0 := 10) (pc' := 14) rfl (hb hby D0_10) (by decide) (by decide) ?_
    show Steps p.tables e below (T3.setTop (mkF m 14 #[.val (.ref sa)] [(.int 0)])) _
    exact retN X3 hx (t := .byte) Bd.returns (by simp) (hb hby D0_14) hr
  · show Q_own_coder Z sa G1 h0 n0 _ T3.heap _
    rw [e3]
    exact ⟨rfl, N0, rfl⟩
theorem D1_0 : decode jdk_42_method_54_code 0 = .ok (.aload_n 0, 1) := by decide +kernel
theorem D1_1 : decode jdk_42_method_54_code 1 = .ok (.getfield 9, 3) := by decide +kernel
theorem D1_4 : decode jdk_42_method_54_code 4 = .ok (.arraylength, 1) := by decide +kernel
theorem D1_5 : decode jdk_42_method_54_code 5 = .ok (.aload_n 0, 1) := by decide +kernel
theorem pd___B : parseMethodDescriptor "()B" = some ⟨[], some .byte⟩ := by decide +kernel
theorem D1_6 : decode jdk_42_method_54_code 6 = .ok (.invokevirtual 335, 3) := by decide +kernel
theorem D1_9 : decode jdk_42_method_54_code 9 = .ok (.ishr, 1) := by decide +kernel
theorem D1_10 : decode jdk_42_method_54_code 10 = .ok (.ireturn, 1) := by decide +kernel
theorem ef_own_slen (m : MethodId) {sa : Addr} : entryFrame m #[(.ref sa)] 1 = mkF m 0 #[.val (.ref sa)] [] := by first | (simp [entryFrame, mkF, argsToLocals, Value.category]; done) | rfl
def Q_own_slen (Z : State) (sa sb : Addr) (kS : ClassId) (z : Int32) (us : List Value) (G1 : Int32) (h0 : Heap) (n0 : Nat) (v : Option Value) (h : Heap) (L : List Loc) : Prop := v = some (.int z) ∧ Fr n0 L ∧ h = h0
set_option maxRecDepth 65536 in
set_option maxHeartbeats 40000000 in
theorem own_slen (l : Launch) (Z : State) (a0 : Array Value) (hw : ∀ d ∈ tables_1, d.before a0 Z = true) (ws : List Jvm.Cond) (sa sb : Addr) (kS : ClassId) (z : Int32) (us : List Value) (G1 : Int32) (h0 : Heap) (n0 : Nat) (Z0 : n0 ≤ h0.size) (ES : Exa Z h0 sa "java/lang/String") (VS : Fld Z h0 sa "java/lang/String" "value" "[B" (.ref sb)) (CS : Fld Z h0 sa "java/lang/String" "coder" "B" (.int 0)) (KS : Arv Z h0 sb kS .byte z us (.int 0)) (O2 : Sta Z Z.heap "java/lang/String" "COMPACT_STRINGS" "Z" (.int G1)) (P5 : ¬ G1 = (0 : Int32)) (XO : Old Z n0 h0) :
    MetFree l (⟨"java/lang/String", "length", "()I"⟩ : MethodName) (head1 (Jvm.Cond.code (⟨"java/lang/String", "length", "()I"⟩ : MethodName) jdk_42_method_54_code 1 (some .int) :: ws) ({ frames := 1, cells := 0, slots := 0, locals := 13 } : Room)) (fun a U => a = #[(.ref sa)] ∧ Z.Warmed39 U.vm ∧ U.heap = h0) (fun _ _ _ _ _ => True) (fun _ U o U' => ∃ v L, o = .returned v ∧ Q_own_slen Z sa sb kS z us G1 h0 n0 v U'.heap L ∧ FrameEnd U o U' L ({ frames := 1, cells := 0, slots := 0, locals := 13 } : Room).cells ({ frames := 1, cells := 0, slots := 0, locals := 13 } : Room).slots) := by
  refine MetFree.of_bodySF (plainFor_of_name pn_java_lang_String) hisR ?_
  intro p e s m args below meth c s₁ Bd hml0 hP hK
  obtain ⟨rfl, hZ, hh⟩ := hP
  have hx := Bd.exec
  have hby := Bd.bytes
  have hml : c.maxLocals = 1 := hml0
  have hown : s.vm.findClass "java/lang/String" = some m.cls := findClass_of_methodNamed Bd.named
  have hnm := (name_of_methodNamed Bd.named Bd.method).1
  have X0 : Stand p l e ({ frames := 1, cells := 0, slots := 0, locals := 13 } : Room) s m #[(.ref sa)] below meth c s₁ [] 0 0 := Stand.of_body Bd
  have e0 : s₁.heap = h0 := by rw [← hh, Bd.state]; rfl
  have N0 := Fr.nil n0
  have pre0 : ∀ t, Steps p.tables e below (s₁.setTop (mkF m 0 #[.val (.ref sa)] [])) t → Steps p.tables e below (s₁.setTop (entryFrame m #[(.ref sa)] 1)) t := fun t k => castTop (ef_own_slen m) k
  obtain ⟨T1, X1, e1, st1⟩ := getF X0 hx hZ hown (host := "") (Or.inl (gw hw 30 rfl)) Via.refl e0 VS (g := (mkF m 1 #[.val (.ref sa)] [(.ref sa)])) rfl rfl (hb hby D1_1)
  have pre2 : ∀ t, Steps p.tables e below (T1.setTop (mkF m 4 #[.val (.ref sa)] [(.ref sb)])) t → Steps p.tables e below (s₁.setTop (entryFrame m #[(.ref sa)] 1)) t := by
    intro t kk
    refine pre0 t ?_
    show Steps p.tables e below (s₁.setTop (mkF m 0 #[.val (.ref sa)] [])) _
    refine XS.aloadN X0.here hx rfl (hb hby D1_0) rfl rfl ?_
    show Steps p.tables e below (s₁.setTop (mkF m 1 #[.val (.ref sa)] [(.ref sa)])) _
    exact st1 _ kk
  obtain ⟨cl3, Ar3, q3, S3, M3, H3, G3⟩ := id KS
  obtain ⟨cq4, kq4, q4a, q4b, q4c⟩ := isOf hZ e1 ES
  obtain ⟨_, _, ⟨T4, L4, k4, n4⟩, -, X4, ⟨Lc4, hQ4, l4, y4, z4⟩, st4⟩ := X1.virtualBack hx (y := (⟨"java/lang/String", "coder", "()B"⟩ : MethodName)) (z := (⟨"java/lang/String", "coder", "()B"⟩ : MethodName)) hown (mvT hZ (gw hw 39 rfl)) (mvT hZ (gw hw 40 rfl)) (notFace_of_selects (args := #[]) (mvT hZ (gw hw 42 rfl))) (mvT hZ (gw hw 42 rfl)) (mvT hZ (gw hw 41 rfl)) (by decide) (backOf (W := 1) (own_coder l Z a0 hw [] sa G1 h0 n0 Z0 CS O2 P5 XO) hZ (gw hw 43 rfl) (gw hw 10 rfl) (by decide) (by decide)) q4a q4c (g := (mkF m 6 #[.val (.ref sa)] [(.ref sa), (.int z)])) rfl (by rw [hml]; rfl) (Steps.refl _) (argsL := []) (rest := [(.int z)]) (lenOf pd___B rfl) rfl (by show 2 * 0 + _ ≤ _; exact Nat.le_of_eq rfl) (hb hby D1_6) (fun _ _ => ⟨rfl, e1, (by decide : 0 + 0 ≤ _), (by decide : 0 + 0 ≤ _)⟩)
  dsimp only [Pt.U, Pt.locs, Pt.cells, Pt.slots] at X4 l4 y4 z4 st4 hQ4
  subst l4 y4 z4
  obtain ⟨rfl, N4q, e4q⟩ := hQ4
  have N4 := Fr.app N0 N4q
  have pre5 : ∀ t, Steps p.tables e below (T4.setTop (mkF m 9 #[.val (.ref sa)] [(.int 0), (.int z)])) t → Steps p.tables e below (s₁.setTop (entryFrame m #[(.ref sa)] 1)) t := by
    intro t kk
    refine pre2 t ?_
    show Steps p.tables e below (T1.setTop (mkF m 4 #[.val (.ref sa)] [(.ref sb)])) _
    refine X1.arraylength hx (by rw [e1]; exact Ar3.1) (State.isArrayOf_alike hZ.alike Ar3.2.1) (g := (mkF m 4 #[.val (.ref sa)] [(.ref sb)])) rfl rfl (hb hby D1_4) _ ?_
    rw [len_of S3 M3]
    show Steps p.tables e below (T1.setTop (mkF m 5 #[.val (.ref sa)] [(.int z)])) _
    refine XS.aloadN X1.here hx rfl (hb hby D1_5) rfl rfl ?_
    show Steps p.tables e below (T1.setTop (mkF m 6 #[.val (.ref sa)] [(.ref sa), (.int z)])) _
    exact st4.trans kk
  have pre6 : ∀ t, Steps p.tables e below (T4.setTop (mkF m 10 #[.val (.ref sa)] [(.int (z >>> ((0 : Int32) &&& 31)))])) t → Steps p.tables e below (s₁.setTop (entryFrame m #[(.ref sa)] 1)) t := by
    intro t kk
    refine pre5 t ?_
    show Steps p.tables e below (T4.setTop (mkF m 9 #[.val (.ref sa)] [(.int 0), (.int z)])) _
    refine XS.ishr X4.here hx rfl (hb hby D1_9) rfl ?_
    exact kk
  rw [own_shr0] at pre6
  obtain ⟨fs, hr, hrun, hended, hW, hsame⟩ := X4.leave (v := some (.int z)) (fun h => by rw [Bd.returns] at h; cases h)
  refine ⟨_, _, pre6 _ ?_, hrun, hended, _, _, rfl, ?_, ⟨_, rfl⟩, hW, hsame.mono (by decide) (by decide)⟩
  · show Steps p.tables e below (T4.setTop (mkF m 10 #[.val (.ref sa)] [(.int z)])) _
    exact retI X4 hx Bd.returns (hb hby D1_10) hr
  · show Q_own_slen Z sa sb kS z us G1 h0 n0 _ T4.heap _
    rw [e4q]
    exact ⟨rfl, N4, rfl⟩
theorem own_safeNull {Z : State} {EL : List (String × Nat)} {vm : Vm} {h : Heap} {a : Addr} (hal : Z.vm.Alike vm) (E : Exa Z h a "java/lang/String") (F : Fld Z h a "java/lang/String" "value" "[B" .null) : Safe Z EL vm h a := fun B => by
  obtain ⟨p, -, u, a', -, q, -, S, rfl | rfl⟩ := B
  · obtain ⟨cell, cf, k, i, f, g1, g2, -, -, -, -, g7⟩ := F
    cases (show h[q.sa]? = some q.sC from S.ha).symm.trans g1
    obtain ⟨cS, ⟨⟨-, -, -, ⟨c1, k1, i1, f1, -⟩, -, -, -, v1, -⟩, -⟩, -⟩ := S
    obtain ⟨k3, e3, -⟩ := State.fieldFound?_setVm (s := { Z with heap := h }) hal (show ({ Z with heap := h } : State).fieldFound? _ _ _ = _ from g2)
    have e4 := (show (Wst Z vm h).fieldFound? _ _ _ = _ from e3).symm.trans f1
    simp only [Option.some.injEq, Prod.mk.injEq] at e4
    rw [← e4.2.2.2, g7] at v1
    cases v1
  · obtain ⟨cell, k, e1, e2, e3, -, -⟩ := E
    cases (show h[q.sd]? = some q.SA from S.hd).symm.trans e1
    obtain ⟨cS, -, -, f, -⟩ := S
    have f' : Z.vm.findClass "[B" = some q.SA.cls := by rw [← hal.findClass]; exact f
    obtain ⟨k1, q1, q2⟩ := Vm.findClass_spec f'
    obtain ⟨k2, q3, q4⟩ := Vm.findClass_spec e2
    cases q1.symm.trans q3
    exact absurd (q2.symm.trans q4) (by decide)
theorem D2_0 : decode jdk_42_method_149_code 0 = .ok (.aload_n 0, 1) := by decide +kernel
theorem D2_1 : decode jdk_42_method_149_code 1 = .ok (.invokespecial 1, 3) := by decide +kernel
theorem D2_4 : decode jdk_42_method_149_code 4 = .ok (.iload_n 3, 1) := by decide +kernel
theorem D2_5 : decode jdk_42_method_149_code 5 = .ok (.ifCond .ne 22, 3) := by decide +kernel
theorem D2_8 : decode jdk_42_method_149_code 8 = .ok (.aload_n 0, 1) := by decide +kernel
theorem D2_9 : decode jdk_42_method_149_code 9 = .ok (.ldc 7, 2) := by decide +kernel
theorem D2_11 : decode jdk_42_method_149_code 11 = .ok (.getfield 9, 3) := by decide +kernel
theorem D2_14 : decode jdk_42_method_149_code 14 = .ok (.putfield 9, 3) := by decide +kernel
theorem D2_17 : decode jdk_42_method_149_code 17 = .ok (.aload_n 0, 1) := by decide +kernel
theorem D2_18 : decode jdk_42_method_149_code 18 = .ok (.ldc 7, 2) := by decide +kernel
theorem D2_20 : decode jdk_42_method_149_code 20 = .ok (.getfield 15, 3) := by decide +kernel
theorem D2_23 : decode jdk_42_method_149_code 23 = .ok (.putfield 15, 3) := by decide +kernel
theorem D2_26 : decode jdk_42_method_149_code 26 = .ok (.return_, 1) := by decide +kernel
theorem ef_own_sc0v (m : MethodId) {a1 : Addr} {ca : Addr} : entryFrame m #[(.ref a1), (.ref ca), (.int 0), (.int 0), .null] 6 = mkF m 0 #[.val (.ref a1), .val (.ref ca), .val (.int 0), .val (.int 0), .val .null, .unset] [] := by first | (simp [entryFrame, mkF, argsToLocals, Value.category]; done) | rfl
def Q_own_sc0v (Z : State) (a1 ca : Addr) (h0 : Heap) (n0 : Nat) (v : Option Value) (h : Heap) (L : List Loc) : Prop := ∃ (bb : Addr) (k : ClassId), v = none ∧ Fr n0 L ∧ Keep h0 h [a1] ∧ Fld Z h a1 "java/lang/String" "value" "[B" (.ref bb) ∧ Fld Z h a1 "java/lang/String" "coder" "B" (.int 0) ∧ Arv Z h bb k .byte (0 : Int32) [] (.int 0) ∧ a1 ≠ bb
set_option maxRecDepth 65536 in
set_option maxHeartbeats 40000000 in
theorem own_sc0v (l : Launch) (Z : State) (a0 : Array Value) (hw : ∀ d ∈ tables_1, d.before a0 Z = true) (ws : List Jvm.Cond) (a1 ca : Addr) (h0 : Heap) (n0 : Nat) (Z0 : n0 ≤ h0.size) (O1 : Obj Z h0 a1 "java/lang/String") (g1 : n0 ≤ a1) (FV : Fld Z h0 a1 "java/lang/String" "value" "[B" .null) :
    MetFree l (⟨"java/lang/String", "<init>", "([CIILjava/lang/Void;)V"⟩ : MethodName) (head1 (Jvm.Cond.code (⟨"java/lang/String", "<init>", "([CIILjava/lang/Void;)V"⟩ : MethodName) jdk_42_method_149_code 6 none :: ws) ({ frames := 1, cells := 4, slots := 8, locals := 12 } : Room)) (fun a U => a = #[(.ref a1), (.ref ca), (.int 0), (.int 0), .null] ∧ Z.Warmed39 U.vm ∧ U.heap = h0 ∧ CHv Z own_EL U.vm h0) (fun _ _ _ _ _ => True) (fun _ U o U' => ∃ v L, o = .returned v ∧ Q_own_sc0v Z a1 ca h0 n0 v U'.heap L ∧ CHr Z own_EL U.vm U.heap U'.vm U'.heap ∧ ReturnedEndW U o U' L ({ frames := 1, cells := 4, slots := 8, locals := 12 } : Room).cells ({ frames := 1, cells := 4, slots := 8, locals := 12 } : Room).slots) := by
  refine MetFree.of_bodySF (plainFor_of_name pn_java_lang_String) hisR ?_
  intro p e s m args below meth c s₁ Bd hml0 hP hK
  obtain ⟨rfl, hZ, hh, hC0⟩ := hP
  have hx := Bd.exec
  have hby := Bd.bytes
  have hml : c.maxLocals = 6 := hml0
  have hown : s.vm.findClass "java/lang/String" = some m.cls := findClass_of_methodNamed Bd.named
  have hnm := (name_of_methodNamed Bd.named Bd.method).1
  have X0 : Stand p l e ({ frames := 1, cells := 4, slots := 8, locals := 12 } : Room) (s.setVm s.vm) m #[(.ref a1), (.ref ca), (.int 0), (.int 0), .null] below meth c s₁ [] 0 0 := Stand.of_body Bd
  have e0 : s₁.heap = h0 := by rw [← hh, Bd.state]; rfl
  have N0 := Fr.nil n0
  have pre0 : ∀ t, Steps p.tables e below (s₁.setTop (mkF m 0 #[.val (.ref a1), .val (.ref ca), .val (.int 0), .val (.int 0), .val .null, .unset] [])) t → Steps p.tables e below (s₁.setTop (entryFrame m #[(.ref a1), (.ref ca), (.int 0), (.int 0), .null] 6)) t := fun t k => castTop (ef_own_sc0v m) k
  have hown : (s.setVm s.vm).vm.findClass "java/lang/String" = some m.cls := hown
  have hZ : Z.Warmed39 (s.setVm s.vm).vm := hZ
  have hS0 : s.Since s.vm 0 := (State.WarmedH.refl s).since 0
  have hk0 : 0 ≤ h0.size := Nat.zero_le _
  have CR0 := CHr.refl hC0
  have wS := own_wS hw
  have hEL := own_hEL hw
  have sf_a1 : Safe Z own_EL s.vm h0 a1 := own_safeNull hZ.alike O1.exa FV
  obtain ⟨T1, X1, e1, st1⟩ := initO X0 hx hZ hown (gw hw 27 rfl) (gw hw 28 rfl) (gw hw 29 rfl) e0 (g := (mkF m 1 #[.val (.ref a1), .val (.ref ca), .val (.int 0), .val (.int 0), .val .null, .unset] [(.ref a1)])) rfl (by rw [hml]; rfl) rfl (hb hby D2_1) (by decide) (W := 0) (by show 2 * 0 + _ ≤ _; exact Nat.le_of_eq rfl) (by decide)
  have pre2 : ∀ t, Steps p.tables e below (T1.setTop (mkF m 4 #[.val (.ref a1), .val (.ref ca), .val (.int 0), .val (.int 0), .val .null, .unset] [])) t → Steps p.tables e below (s₁.setTop (entryFrame m #[(.ref a1), (.ref ca), (.int 0), (.int 0), .null] 6)) t := by
    intro t kk
    refine pre0 t ?_
    show Steps p.tables e below (s₁.setTop (mkF m 0 #[.val (.ref a1), .val (.ref ca), .val (.int 0), .val (.int 0), .val .null, .unset] [])) _
    refine XS.aloadN X0.here hx rfl (hb hby D2_0) rfl rfl ?_
    show Steps p.tables e below (s₁.setTop (mkF m 1 #[.val (.ref a1), .val (.ref ca), .val (.int 0), .val (.int 0), .val .null, .unset] [(.ref a1)])) _
    exact st1 _ kk
  have pre3 : ∀ t, Steps p.tables e below (T1.setTop (mkF m 9 #[.val (.ref a1), .val (.ref ca), .val (.int 0), .val (.int 0), .val .null, .unset] [(.ref a1)])) t → Steps p.tables e below (s₁.setTop (entryFrame m #[(.ref a1), (.ref ca), (.int 0), (.int 0), .null] 6)) t := by
    intro t kk
    refine pre2 t ?_
    show Steps p.tables e below (T1.setTop (mkF m 4 #[.val (.ref a1), .val (.ref ca), .val (.int 0), .val (.int 0), .val .null, .unset] [])) _
    refine XS.iloadN X1.here hx rfl (hb hby D2_4) rfl ?_
    show Steps p.tables e below (T1.setTop (mkF m 5 #[.val (.ref a1), .val (.ref ca), .val (.int 0), .val (.int 0), .val .null, .unset] [(.int 0)])) _
    refine XS.ifNo X1.here hx rfl (hb hby D2_5) rfl ((if0 _ _).trans (teq (rfl : (0 : Int32) = (0 : Int32))).2) ?_
    show Steps p.tables e below (T1.setTop (mkF m 8 #[.val (.ref a1), .val (.ref ca), .val (.int 0), .val (.int 0), .val .null, .unset] [])) _
    refine XS.aloadN X1.here hx rfl (hb hby D2_8) rfl rfl ?_
    exact kk
  obtain ⟨a4, T4, h4, k4, bb4, kb4, X4, e4, E4, hS4, hk4, hZ, hown, Ex4, Fc4, Fv4, V4, lta4, ltb4, CQ4, Lt4, sl4, st4⟩ := ldcCH X1 hx hZ hown (gw hw 91 rfl) wS e1 hS0 hk0 hEL (List.mem_of_getElem? (i := 0) rfl) CR0.1 (vs := []) (z := (0 : Int32)) ⟨by decide, by decide⟩ (by decide) rfl (g := (mkF m 9 #[.val (.ref a1), .val (.ref ca), .val (.int 0), .val (.int 0), .val .null, .unset] [(.ref a1)])) rfl (hb hby D2_9) (n := 0) (by decide) (by decide) (by decide) (by decide)
  have sf4_a1 := CQ4.safe O1.lt sf_a1
  have CR4 := CHr.trans CR0 CQ4
  have ne_a1_a4 : a1 ≠ a4 := (sl4 _ sf4_a1).1
  have ne_a1_bb4 : a1 ≠ bb4 := (sl4 _ sf4_a1).2
  have pre5 : ∀ t, Steps p.tables e below (T4.setTop (mkF m 11 #[.val (.ref a1), .val (.ref ca), .val (.int 0), .val (.int 0), .val .null, .unset] [(.ref a4), (.ref a1)])) t → Steps p.tables e below (s₁.setTop (entryFrame m #[(.ref a1), (.ref ca), (.int 0), (.int 0), .null] 6)) t := by
    intro t kk
    refine pre3 t ?_
    show Steps p.tables e below (T1.setTop (mkF m 9 #[.val (.ref a1), .val (.ref ca), .val (.int 0), .val (.int 0), .val .null, .unset] [(.ref a1)])) _
    exact st4 _ kk
  obtain ⟨T6, X6, e6, st6⟩ := getF X4 hx hZ hown (host := "") (Or.inl (gw hw 30 rfl)) Via.refl e4 Fv4 (g := (mkF m 11 #[.val (.ref a1), .val (.ref ca), .val (.int 0), .val (.int 0), .val .null, .unset] [(.ref a4), (.ref a1)])) rfl rfl (hb hby D2_11)
  have pre7 : ∀ t, Steps p.tables e below (T6.setTop (mkF m 14 #[.val (.ref a1), .val (.ref ca), .val (.int 0), .val (.int 0), .val .null, .unset] [(.ref bb4), (.ref a1)])) t → Steps p.tables e below (s₁.setTop (entryFrame m #[(.ref a1), (.ref ca), (.int 0), (.int 0), .null] 6)) t := by
    intro t kk
    refine pre5 t ?_
    show Steps p.tables e below (T4.setTop (mkF m 11 #[.val (.ref a1), .val (.ref ca), .val (.int 0), .val (.int 0), .val .null, .unset] [(.ref a4), (.ref a1)])) _
    exact st6 _ kk
  have fc8 := (O1.ext E4)
  have fc10 := (FV.ext E4)
  obtain ⟨T9, h9, X9, e9, W9, st9⟩ := putF X6 hx hZ hown (host := "") (Or.inl (gw hw 30 rfl)) Via.refl e6 fc10 fc8.exa (Or.inr ⟨(gw hw 31 rfl), rfl, hnm⟩) (gw hw 18 rfl) (ty := (.array .byte)) (by decide) rfl rfl (g := (mkF m 14 #[.val (.ref a1), .val (.ref ca), .val (.int 0), .val (.int 0), .val .null, .unset] [(.ref bb4), (.ref a1)])) rfl rfl (hb hby D2_14)
  have SA11 := sf4_a1
  have CR11 := CHr.trans CR4 (CHr.wr W9 SA11 CR4.1)
  have sf11_a1 := (Safe.wr W9 SA11 CR4.1 sf4_a1)
  have N9 := Fr.snoc X9 N0 g1
  have Fw9 := fc10.same W9
  have pre12 : ∀ t, Steps p.tables e below (T9.setTop (mkF m 17 #[.val (.ref a1), .val (.ref ca), .val (.int 0), .val (.int 0), .val .null, .unset] [])) t → Steps p.tables e below (s₁.setTop (entryFrame m #[(.ref a1), (.ref ca), (.int 0), (.int 0), .null] 6)) t := by
    intro t kk
    refine pre7 t ?_
    show Steps p.tables e below (T6.setTop (mkF m 14 #[.val (.ref a1), .val (.ref ca), .val (.int 0), .val (.int 0), .val .null, .unset] [(.ref bb4), (.ref a1)])) _
    exact st9 _ kk
  have pre13 : ∀ t, Steps p.tables e below (T9.setTop (mkF m 18 #[.val (.ref a1), .val (.ref ca), .val (.int 0), .val (.int 0), .val .null, .unset] [(.ref a1)])) t → Steps p.tables e below (s₁.setTop (entryFrame m #[(.ref a1), (.ref ca), (.int 0), (.int 0), .null] 6)) t := by
    intro t kk
    refine pre12 t ?_
    show Steps p.tables e below (T9.setTop (mkF m 17 #[.val (.ref a1), .val (.ref ca), .val (.int 0), .val (.int 0), .val .null, .unset] [])) _
    refine XS.aloadN X9.here hx rfl (hb hby D2_17) rfl rfl ?_
    exact kk
  have fc15 := (Nat.le_trans hk4 (Keep.of_wr W9).1)
  obtain ⟨a14, T14, h14, k14, bb14, kb14, X14, e14, E14, hS14, hk14, hZ, hown, Ex14, Fc14, Fv14, V14, lta14, ltb14, CQ14, Lt14, sl14, st14⟩ := ldcCH X9 hx hZ hown (gw hw 91 rfl) wS e9 hS4 fc15 hEL (List.mem_of_getElem? (i := 0) rfl) CR11.1 (vs := []) (z := (0 : Int32)) ⟨by decide, by decide⟩ (by decide) rfl (g := (mkF m 18 #[.val (.ref a1), .val (.ref ca), .val (.int 0), .val (.int 0), .val .null, .unset] [(.ref a1)])) rfl (hb hby D2_18) (n := 0) (by decide) (by decide) (by decide) (by decide)
  have fc16 := (fc8.wr W9)
  have sf14_a1 := CQ14.safe fc16.lt sf11_a1
  have CR14 := CHr.trans CR11 CQ14
  have ne_a1_a14 : a1 ≠ a14 := (sl14 _ sf14_a1).1
  have ne_a1_bb14 : a1 ≠ bb14 := (sl14 _ sf14_a1).2
  have pre17 : ∀ t, Steps p.tables e below (T14.setTop (mkF m 20 #[.val (.ref a1), .val (.ref ca), .val (.int 0), .val (.int 0), .val .null, .unset] [(.ref a14), (.ref a1)])) t → Steps p.tables e below (s₁.setTop (entryFrame m #[(.ref a1), (.ref ca), (.int 0), (.int 0), .null] 6)) t := by
    intro t kk
    refine pre13 t ?_
    show Steps p.tables e below (T9.setTop (mkF m 18 #[.val (.ref a1), .val (.ref ca), .val (.int 0), .val (.int 0), .val .null, .unset] [(.ref a1)])) _
    exact st14 _ kk
  obtain ⟨T18, X18, e18, st18⟩ := getF X14 hx hZ hown (host := "") (Or.inl (gw hw 32 rfl)) Via.refl e14 Fc14 (g := (mkF m 20 #[.val (.ref a1), .val (.ref ca), .val (.int 0), .val (.int 0), .val .null, .unset] [(.ref a14), (.ref a1)])) rfl rfl (hb hby D2_20)
  have pre19 : ∀ t, Steps p.tables e below (T18.setTop (mkF m 23 #[.val (.ref a1), .val (.ref ca), .val (.int 0), .val (.int 0), .val .null, .unset] [(.int 0), (.ref a1)])) t → Steps p.tables e below (s₁.setTop (entryFrame m #[(.ref a1), (.ref ca), (.int 0), (.int 0), .null] 6)) t := by
    intro t kk
    refine pre17 t ?_
    show Steps p.tables e below (T14.setTop (mkF m 20 #[.val (.ref a1), .val (.ref ca), .val (.int 0), .val (.int 0), .val .null, .unset] [(.ref a14), (.ref a1)])) _
    exact st18 _ kk
  have fc20 := (fc16.ext E14)
  obtain ⟨u21, U21⟩ := Obj.fld fc20 (Or.inr (gw hw 33 rfl)) (gw hw 18 rfl)
  obtain ⟨T21, h21, X21, e21, W21, st21⟩ := putF X18 hx hZ hown (host := "") (Or.inl (gw hw 32 rfl)) Via.refl e18 U21 fc20.exa (Or.inr ⟨(gw hw 33 rfl), rfl, hnm⟩) (gw hw 18 rfl) (ty := .byte) (by decide) rfl rfl (g := (mkF m 23 #[.val (.ref a1), .val (.ref ca), .val (.int 0), .val (.int 0), .val .null, .unset] [(.int 0), (.ref a1)])) rfl rfl (hb hby D2_23)
  have SA22 := sf14_a1
  have CR22 := CHr.trans CR14 (CHr.wr W21 SA22 CR14.1)
  have sf22_a1 := (Safe.wr W21 SA22 CR14.1 sf14_a1)
  have N21 := Fr.snoc X21 N9 g1
  have Fw21 := U21.same W21
  have pre23 : ∀ t, Steps p.tables e below (T21.setTop (mkF m 26 #[.val (.ref a1), .val (.ref ca), .val (.int 0), .val (.int 0), .val .null, .unset] [])) t → Steps p.tables e below (s₁.setTop (entryFrame m #[(.ref a1), (.ref ca), (.int 0), (.int 0), .null] 6)) t := by
    intro t kk
    refine pre19 t ?_
    show Steps p.tables e below (T18.setTop (mkF m 23 #[.val (.ref a1), .val (.ref ca), .val (.int 0), .val (.int 0), .val .null, .unset] [(.int 0), (.ref a1)])) _
    exact st21 _ kk
  have fc24 := (((((Keep.refl h0 [a1]).ext E4).wr W9 (Or.inl (List.mem_of_getElem? (i := 0) rfl))).ext E14).wr W21 (Or.inl (List.mem_of_getElem? (i := 0) rfl)))
  have fc25 := ((Fw9.ext E14).other W21 (Or.inr (slot_ne (Or.inr (gw hw 31 rfl)) (Or.inr (gw hw 33 rfl)) (by decide) (t := (.array .byte)) (t' := .byte) (by decide) (by decide))))
  have fc26 := (((V4.other W9 (Ne.symm ne_a1_bb4)).ext E14).other W21 (Ne.symm ne_a1_bb4))
  have fc27 := (Nat.le_trans hk14 (Keep.of_wr W21).1)
  obtain ⟨fs, hr, hrun, hended, hRW⟩ := X21.leaveW hS14 (by rw [e21]; exact fc27) (v := none) (fun _ => rfl)
  have CRe := CHr.trans CR22 (CHv.at X21 hZ hEL CR22.1)
  refine ⟨_, _, pre23 _ ?_, hrun, hended, _, _, rfl, ?_, ?_, hRW.1, hRW.2.1, hRW.2.2.1, hRW.2.2.2.mono (by decide) (by decide)⟩
  · show Steps p.tables e below (T21.setTop (mkF m 26 #[.val (.ref a1), .val (.ref ca), .val (.int 0), .val (.int 0), .val .null, .unset] [])) _
    exact X21.returnOut hx Bd.returns (hb hby D2_26) hr
  · show Q_own_sc0v Z a1 ca h0 n0 _ T21.heap _
    rw [e21]
    exact ⟨bb4, kb4, rfl, N21, fc24, fc25, Fw21, fc26, ne_a1_bb4⟩
  · show CHr Z own_EL s.vm s.heap T21.vm T21.heap
    rw [hh]
    rw [e21]
    exact CRe
theorem D3_0 : decode jdk_42_method_3_code 0 = .ok (.aload_n 0, 1) := by decide +kernel
theorem D3_1 : decode jdk_42_method_3_code 1 = .ok (.aload_n 1, 1) := by decide +kernel
theorem D3_2 : decode jdk_42_method_3_code 2 = .ok (.iconst 0, 1) := by decide +kernel
theorem D3_3 : decode jdk_42_method_3_code 3 = .ok (.aload_n 1, 1) := by decide +kernel
theorem D3_4 : decode jdk_42_method_3_code 4 = .ok (.arraylength, 1) := by decide +kernel
theorem D3_5 : decode jdk_42_method_3_code 5 = .ok (.aconst_null, 1) := by decide +kernel
theorem pd___CIILjava_lang_Void__V : parseMethodDescriptor "([CIILjava/lang/Void;)V" = some ⟨[(.array .char), .int, .int, (.object "java/lang/Void")], none⟩ := by decide +kernel
theorem D3_6 : decode jdk_42_method_3_code 6 = .ok (.invokespecial 27, 3) := by decide +kernel
theorem D3_9 : decode jdk_42_method_3_code 9 = .ok (.return_, 1) := by decide +kernel
theorem ef_own_sc0 (m : MethodId) {a1 : Addr} {ca : Addr} : entryFrame m #[(.ref a1), (.ref ca)] 2 = mkF m 0 #[.val (.ref a1), .val (.ref ca)] [] := by first | (simp [entryFrame, mkF, argsToLocals, Value.category]; done) | rfl
def Q_own_sc0 (Z : State) (a1 ca : Addr) (kC : ClassId) (h0 : Heap) (n0 : Nat) (v : Option Value) (h : Heap) (L : List Loc) : Prop := ∃ (bb : Addr) (k : ClassId), v = none ∧ Fr n0 L ∧ Keep h0 h [a1] ∧ Fld Z h a1 "java/lang/String" "value" "[B" (.ref bb) ∧ Fld Z h a1 "java/lang/String" "coder" "B" (.int 0) ∧ Arv Z h bb k .byte (0 : Int32) [] (.int 0) ∧ a1 ≠ bb
set_option maxRecDepth 65536 in
set_option maxHeartbeats 40000000 in
theorem own_sc0 (l : Launch) (Z : State) (a0 : Array Value) (hw : ∀ d ∈ tables_1, d.before a0 Z = true) (ws : List Jvm.Cond) (a1 ca : Addr) (kC : ClassId) (h0 : Heap) (n0 : Nat) (Z0 : n0 ≤ h0.size) (O1 : Obj Z h0 a1 "java/lang/String") (g1 : n0 ≤ a1) (FV : Fld Z h0 a1 "java/lang/String" "value" "[B" .null) (KC : Arv Z h0 ca kC .char (0 : Int32) [] (.int 0)) :
    MetFree l (⟨"java/lang/String", "<init>", "([C)V"⟩ : MethodName) (head1 (Jvm.Cond.code (⟨"java/lang/String", "<init>", "([C)V"⟩ : MethodName) jdk_42_method_3_code 2 none :: ws) ({ frames := 2, cells := 4, slots := 8, locals := 29 } : Room)) (fun a U => a = #[(.ref a1), (.ref ca)] ∧ Z.Warmed39 U.vm ∧ U.heap = h0 ∧ CHv Z own_EL U.vm h0) (fun _ _ _ _ _ => True) (fun _ U o U' => ∃ v L, o = .returned v ∧ Q_own_sc0 Z a1 ca kC h0 n0 v U'.heap L ∧ CHr Z own_EL U.vm U.heap U'.vm U'.heap ∧ ReturnedEndW U o U' L ({ frames := 2, cells := 4, slots := 8, locals := 29 } : Room).cells ({ frames := 2, cells := 4, slots := 8, locals := 29 } : Room).slots) := by
  refine MetFree.of_bodySF (plainFor_of_name pn_java_lang_String) hisR ?_
  intro p e s m args below meth c s₁ Bd hml0 hP hK
  obtain ⟨rfl, hZ, hh, hC0⟩ := hP
  have hx := Bd.exec
  have hby := Bd.bytes
  have hml : c.maxLocals = 2 := hml0
  have hown : s.vm.findClass "java/lang/String" = some m.cls := findClass_of_methodNamed Bd.named
  have hnm := (name_of_methodNamed Bd.named Bd.method).1
  have X0 : Stand p l e ({ frames := 2, cells := 4, slots := 8, locals := 29 } : Room) (s.setVm s.vm) m #[(.ref a1), (.ref ca)] below meth c s₁ [] 0 0 := Stand.of_body Bd
  have e0 : s₁.heap = h0 := by rw [← hh, Bd.state]; rfl
  have N0 := Fr.nil n0
  have pre0 : ∀ t, Steps p.tables e below (s₁.setTop (mkF m 0 #[.val (.ref a1), .val (.ref ca)] [])) t → Steps p.tables e below (s₁.setTop (entryFrame m #[(.ref a1), (.ref ca)] 2)) t := fun t k => castTop (ef_own_sc0 m) k
  have hown : (s.setVm s.vm).vm.findClass "java/lang/String" = some m.cls := hown
  have hZ : Z.Warmed39 (s.setVm s.vm).vm := hZ
  have hS0 : s.Since s.vm 0 := (State.WarmedH.refl s).since 0
  have hk0 : 0 ≤ h0.size := Nat.zero_le _
  have CR0 := CHr.refl hC0
  have wS := own_wS hw
  have hEL := own_hEL hw
  obtain ⟨cl1, Ar1, q1, S1, M1, H1, G1⟩ := id KC
  have pre2 : ∀ t, Steps p.tables e below (s₁.setTop (mkF m 6 #[.val (.ref a1), .val (.ref ca)] [.null, (.int 0), (.int 0), (.ref ca), (.ref a1)])) t → Steps p.tables e below (s₁.setTop (entryFrame m #[(.ref a1), (.ref ca)] 2)) t := by
    intro t kk
    refine pre0 t ?_
    show Steps p.tables e below (s₁.setTop (mkF m 0 #[.val (.ref a1), .val (.ref ca)] [])) _
    refine XS.aloadN X0.here hx rfl (hb hby D3_0) rfl rfl ?_
    show Steps p.tables e below (s₁.setTop (mkF m 1 #[.val (.ref a1), .val (.ref ca)] [(.ref a1)])) _
    refine XS.aloadN X0.here hx rfl (hb hby D3_1) rfl rfl ?_
    show Steps p.tables e below (s₁.setTop (mkF m 2 #[.val (.ref a1), .val (.ref ca)] [(.ref ca), (.ref a1)])) _
    refine XS.iconst X0.here hx rfl (hb hby D3_2) ?_
    show Steps p.tables e below (s₁.setTop (mkF m 3 #[.val (.ref a1), .val (.ref ca)] [(.int 0), (.ref ca), (.ref a1)])) _
    refine XS.aloadN X0.here hx rfl (hb hby D3_3) rfl rfl ?_
    show Steps p.tables e below (s₁.setTop (mkF m 4 #[.val (.ref a1), .val (.ref ca)] [(.ref ca), (.int 0), (.ref ca), (.ref a1)])) _
    refine X0.arraylength hx (by rw [e0]; exact Ar1.1) (State.isArrayOf_alike hZ.alike Ar1.2.1) (g := (mkF m 4 #[.val (.ref a1), .val (.ref ca)] [(.ref ca), (.int 0), (.ref ca), (.ref a1)])) rfl rfl (hb hby D3_4) _ ?_
    rw [len_of S1 M1]
    show Steps p.tables e below (s₁.setTop (mkF m 5 #[.val (.ref a1), .val (.ref ca)] [(.int 0), (.int 0), (.ref ca), (.ref a1)])) _
    refine XS.aconstNull X0.here hx rfl (hb hby D3_5) ?_
    exact kk
  obtain ⟨_, _, ⟨T3, L3, k3, n3⟩, -, X3w, hS3w, gr3, ⟨Lc3, hQ3, l3, y3, z3, CQ3⟩, st3⟩ := X0.specialBackS hx (y := (⟨"java/lang/String", "<init>", "([CIILjava/lang/Void;)V"⟩ : MethodName)) rfl hown (mvT hZ (gw hw 78 rfl)) (mvT hZ (gw hw 79 rfl)) (mvT hZ (gw hw 80 rfl)) (by decide) (backOfSH (W := 0) (own_sc0v l Z a0 hw [] a1 ca h0 n0 Z0 O1 g1 FV) hZ (gw hw 80 rfl) (gw hw 10 rfl) (by decide) (by decide) hEL CR0.1) (g := (mkF m 6 #[.val (.ref a1), .val (.ref ca)] [.null, (.int 0), (.int 0), (.ref ca), (.ref a1)])) rfl (by rw [hml]; rfl) (Steps.refl _) (a := a1) (argsL := [(.ref ca), (.int 0), (.int 0), .null]) (rest := []) (lenOf pd___CIILjava_lang_Void__V rfl) rfl (by show 2 * 0 + _ ≤ _; exact Nat.le_of_eq rfl) (hb hby D3_6) (fun _ _ => ⟨rfl, e0, (by decide : 0 + 4 ≤ _), (by decide : 0 + 8 ≤ _)⟩)
  dsimp only [Pt.U, Pt.locs, Pt.cells, Pt.slots] at X3w hS3w gr3 l3 y3 z3 st3 hQ3 CQ3
  subst l3 y3 z3
  obtain ⟨bb3, kb3, rfl, N3q, K3, q3a, q3b, q3c, q3d⟩ := hQ3
  have N3 := Fr.app N0 N3q
  obtain ⟨X3, hS3, hZ, hown⟩ := rebS hS0 (by rw [e0]; exact hk0) X3w hS3w gr3 hZ hown
  have hk3 : T3.heap.size ≤ T3.heap.size := Nat.le_refl _
  have CR3 := CHr.trans CR0 CQ3
  have pre4 : ∀ t, Steps p.tables e below (T3.setTop (mkF m 9 #[.val (.ref a1), .val (.ref ca)] [])) t → Steps p.tables e below (s₁.setTop (entryFrame m #[(.ref a1), (.ref ca)] 2)) t := by
    intro t kk
    refine pre2 t ?_
    show Steps p.tables e below (s₁.setTop (mkF m 6 #[.val (.ref a1), .val (.ref ca)] [.null, (.int 0), (.int 0), (.ref ca), (.ref a1)])) _
    exact st3.trans kk
  have fc5 := ((Keep.refl h0 [a1]).trans K3 (allS (Or.inl (List.mem_of_getElem? (i := 0) rfl)) all0))
  obtain ⟨fs, hr, hrun, hended, hRW⟩ := X3.leaveW hS3 hk3 (v := none) (fun _ => rfl)
  have CRe := CHr.trans CR3 (CHv.at X3 hZ hEL CR3.1)
  refine ⟨_, _, pre4 _ ?_, hrun, hended, _, _, rfl, ?_, ?_, hRW.1, hRW.2.1, hRW.2.2.1, hRW.2.2.2.mono (by decide) (by decide)⟩
  · show Steps p.tables e below (T3.setTop (mkF m 9 #[.val (.ref a1), .val (.ref ca)] [])) _
    exact X3.returnOut hx Bd.returns (hb hby D3_9) hr
  · show Q_own_sc0 Z a1 ca kC h0 n0 _ T3.heap _
    exact ⟨bb3, kb3, rfl, N3, fc5, q3a, q3b, q3c, q3d⟩
  · show CHr Z own_EL s.vm s.heap T3.vm T3.heap
    rw [hh]
    exact CRe
theorem own_i8 (x : Int32) : x.toInt8.toInt32.toInt8.toInt32 = x.toInt8.toInt32 := by simp
theorem pn_java_lang_StringLatin1 : plainName "java/lang/StringLatin1" = true := by first | (simp [plainName, overriddenIn]; done) | decide +kernel
theorem D4_0 : decode jdk_43_method_3_code 0 = .ok (.iload_n 0, 1) := by decide +kernel
theorem D4_1 : decode jdk_43_method_3_code 1 = .ok (.sipush 255, 3) := by decide +kernel
theorem D4_4 : decode jdk_43_method_3_code 4 = .ok (.if_icmp .gt 7, 3) := by decide +kernel
theorem D4_7 : decode jdk_43_method_3_code 7 = .ok (.iconst 1, 1) := by decide +kernel
theorem D4_8 : decode jdk_43_method_3_code 8 = .ok (.goto 4, 3) := by decide +kernel
theorem D4_12 : decode jdk_43_method_3_code 12 = .ok (.ireturn, 1) := by decide +kernel
theorem ef_own_ce (m : MethodId) {ch : Int32} : entryFrame m #[(.int ch)] 1 = mkF m 0 #[.val (.int ch)] [] := by first | (simp [entryFrame, mkF, argsToLocals, Value.category]; done) | rfl
def Q_own_ce (Z : State) (ch : Int32) (h0 : Heap) (n0 : Nat) (v : Option Value) (h : Heap) (L : List Loc) : Prop := v = some (.int 1) ∧ Fr n0 L ∧ h = h0
set_option maxRecDepth 65536 in
set_option maxHeartbeats 40000000 in
theorem own_ce (l : Launch) (Z : State) (a0 : Array Value) (hw : ∀ d ∈ tables_1, d.before a0 Z = true) (ws : List Jvm.Cond) (ch : Int32) (h0 : Heap) (n0 : Nat) (Z0 : n0 ≤ h0.size) (hc : ¬ (255 : Int32) < ch) :
    MetFree l (⟨"java/lang/StringLatin1", "canEncode", "(C)Z"⟩ : MethodName) (head1 (Jvm.Cond.code (⟨"java/lang/StringLatin1", "canEncode", "(C)Z"⟩ : MethodName) jdk_43_method_3_code 1 (some .boolean) :: ws) ({ frames := 0, cells := 0, slots := 0, locals := 0 } : Room)) (fun a U => a = #[(.int ch)] ∧ Z.Warmed39 U.vm ∧ U.heap = h0) (fun _ _ _ _ _ => True) (fun _ U o U' => ∃ v L, o = .returned v ∧ Q_own_ce Z ch h0 n0 v U'.heap L ∧ FrameEnd U o U' L ({ frames := 0, cells := 0, slots := 0, locals := 0 } : Room).cells ({ frames := 0, cells := 0, slots := 0, locals := 0 } : Room).slots) := by
  refine MetFree.of_bodySF (plainFor_of_name pn_java_lang_StringLatin1) hisR ?_
  intro p e s m args below meth c s₁ Bd hml0 hP hK
  obtain ⟨rfl, hZ, hh⟩ := hP
  have hx := Bd.exec
  have hby := Bd.bytes
  have hml : c.maxLocals = 1 := hml0
  have hown : s.vm.findClass "java/lang/StringLatin1" = some m.cls := findClass_of_methodNamed Bd.named
  have hnm := (name_of_methodNamed Bd.named Bd.method).1
  have X0 : Stand p l e ({ frames := 0, cells := 0, slots := 0, locals := 0 } : Room) s m #[(.int ch)] below meth c s₁ [] 0 0 := Stand.of_body Bd
  have e0 : s₁.heap = h0 := by rw [← hh, Bd.state]; rfl
  have N0 := Fr.nil n0
  have pre0 : ∀ t, Steps p.tables e below (s₁.setTop (mkF m 0 #[.val (.int ch)] [])) t → Steps p.tables e below (s₁.setTop (entryFrame m #[(.int ch)] 1)) t := fun t k => castTop (ef_own_ce m) k
  obtain ⟨fs, hr, hrun, hended, hW, hsame⟩ := X0.leave (v := some (.int 1)) (fun h => by rw [Bd.returns] at h; cases h)
  refine ⟨_, _, pre0 _ ?_, hrun, hended, _, _, rfl, ?_, ⟨_, rfl⟩, hW, hsame.mono (by decide) (by decide)⟩
  · show Steps p.tables e below (s₁.setTop (mkF m 0 #[.val (.int ch)] [])) _
    refine XS.iloadN X0.here hx rfl (hb hby D4_0) rfl ?_
    show Steps p.tables e below (s₁.setTop (mkF m 1 #[.val (.int ch)] [(.int ch)])) _
    refine XS.sipush X0.here hx rfl (hb hby D4_1) ?_
    show Steps p.tables e below (s₁.setTop (mkF m 4 #[.val (.int ch)] [(.int 255), (.int ch)])) _
    refine XS.icmpNo X0.here hx rfl (hb hby D4_4) rfl (flt hc).2.2.1 ?_
    show Steps p.tables e below (s₁.setTop (mkF m 7 #[.val (.int ch)] [])) _
    refine XS.iconst X0.here hx rfl (hb hby D4_7) ?_
    show Steps p.tables e below (s₁.setTop (mkF m 8 #[.val (.int ch)] [(.int 1)])) _
    refine XS.goto X0.here hx rfl (pc0 := 8) (pc' := 12) rfl (hb hby D4_8) (by decide) (by decide) ?_
    show Steps p.tables e below (s₁.setTop (mkF m 12 #[.val (.int ch)] [(.int 1)])) _
    exact retN X0 hx (t := .boolean) Bd.returns (by simp) (hb hby D4_12) hr
  · show Q_own_ce Z ch h0 n0 _ s₁.heap _
    rw [e0]
    exact ⟨rfl, N0, rfl⟩
theorem D5_0 : decode jdk_43_method_46_code 0 = .ok (.iconst 1, 1) := by decide +kernel
theorem D5_1 : decode jdk_43_method_46_code 1 = .ok (.newarray .byte, 2) := by decide +kernel
theorem D5_3 : decode jdk_43_method_46_code 3 = .ok (.dup, 1) := by decide +kernel
theorem D5_4 : decode jdk_43_method_46_code 4 = .ok (.iconst 0, 1) := by decide +kernel
theorem D5_5 : decode jdk_43_method_46_code 5 = .ok (.iload_n 0, 1) := by decide +kernel
theorem D5_6 : decode jdk_43_method_46_code 6 = .ok (.i2b, 1) := by decide +kernel
theorem D5_7 : decode jdk_43_method_46_code 7 = .ok (.bastore, 1) := by decide +kernel
theorem D5_8 : decode jdk_43_method_46_code 8 = .ok (.areturn, 1) := by decide +kernel
theorem ef_own_tb (m : MethodId) {ch : Int32} : entryFrame m #[(.int ch)] 1 = mkF m 0 #[.val (.int ch)] [] := by first | (simp [entryFrame, mkF, argsToLocals, Value.category]; done) | rfl
def Q_own_tb (Z : State) (ch : Int32) (h0 : Heap) (n0 : Nat) (v : Option Value) (h : Heap) (L : List Loc) : Prop := ∃ (b : Addr) (k : ClassId), v = some (.ref b) ∧ Fr n0 L ∧ Keep h0 h [] ∧ h0.size ≤ b ∧ Arv Z h b k .byte (1 : Int32) [(.int ch.toInt8.toInt32)] (.int 0)
set_option maxRecDepth 65536 in
set_option maxHeartbeats 40000000 in
theorem own_tb (l : Launch) (Z : State) (a0 : Array Value) (hw : ∀ d ∈ tables_1, d.before a0 Z = true) (ws : List Jvm.Cond) (ch : Int32) (h0 : Heap) (n0 : Nat) (Z0 : n0 ≤ h0.size)  :
    MetFree l (⟨"java/lang/StringLatin1", "toBytes", "(C)[B"⟩ : MethodName) (head1 (Jvm.Cond.code (⟨"java/lang/StringLatin1", "toBytes", "(C)[B"⟩ : MethodName) jdk_43_method_46_code 1 (some (.array .byte)) :: ws) ({ frames := 0, cells := 1, slots := 1, locals := 0 } : Room)) (fun a U => a = #[(.int ch)] ∧ Z.Warmed39 U.vm ∧ U.heap = h0) (fun _ _ _ _ _ => True) (fun _ U o U' => ∃ v L, o = .returned v ∧ Q_own_tb Z ch h0 n0 v U'.heap L ∧ FrameEnd U o U' L ({ frames := 0, cells := 1, slots := 1, locals := 0 } : Room).cells ({ frames := 0, cells := 1, slots := 1, locals := 0 } : Room).slots) := by
  refine MetFree.of_bodySF (plainFor_of_name pn_java_lang_StringLatin1) hisR ?_
  intro p e s m args below meth c s₁ Bd hml0 hP hK
  obtain ⟨rfl, hZ, hh⟩ := hP
  have hx := Bd.exec
  have hby := Bd.bytes
  have hml : c.maxLocals = 1 := hml0
  have hown : s.vm.findClass "java/lang/StringLatin1" = some m.cls := findClass_of_methodNamed Bd.named
  have hnm := (name_of_methodNamed Bd.named Bd.method).1
  have X0 : Stand p l e ({ frames := 0, cells := 1, slots := 1, locals := 0 } : Room) s m #[(.int ch)] below meth c s₁ [] 0 0 := Stand.of_body Bd
  have e0 : s₁.heap = h0 := by rw [← hh, Bd.state]; rfl
  have N0 := Fr.nil n0
  have pre0 : ∀ t, Steps p.tables e below (s₁.setTop (mkF m 0 #[.val (.int ch)] [])) t → Steps p.tables e below (s₁.setTop (entryFrame m #[(.int ch)] 1)) t := fun t k => castTop (ef_own_tb m) k
  obtain ⟨fb1, g1⟩ : ∃ z, z = h0.size := ⟨_, rfl⟩
  have lo_fb1 : n0 ≤ fb1 := Nat.le_trans Z0 (Nat.le_of_eq g1.symm)
  have hi_fb1 : h0.size ≤ fb1 := Nat.le_trans (Keep.refl h0 []).1 (Nat.le_of_eq g1.symm)
  obtain ⟨T1, h1, k1, X1, e1, E1, A1, st1⟩ := newP X0 hx hZ (gw hw 22 rfl) e0 (g := (mkF m 1 #[.val (.int ch)] [(.int 1)])) rfl (hb hby D5_1) rfl (by decide) (cap := 1) (by decide) (by decide) (by decide) (by decide)
  rw [← g1] at A1 st1
  have V1 : Arv Z h1 fb1 k1 .byte (1 : Int32) [(.int 0)] (.int 0) := (Arv.new A1 (by decide)).pad (pad_rep [] (.int 0) 1)
  have pre2 : ∀ t, Steps p.tables e below (T1.setTop (mkF m 3 #[.val (.int ch)] [(.ref fb1)])) t → Steps p.tables e below (s₁.setTop (entryFrame m #[(.int ch)] 1)) t := by
    intro t kk
    refine pre0 t ?_
    show Steps p.tables e below (s₁.setTop (mkF m 0 #[.val (.int ch)] [])) _
    refine XS.iconst X0.here hx rfl (hb hby D5_0) ?_
    show Steps p.tables e below (s₁.setTop (mkF m 1 #[.val (.int ch)] [(.int 1)])) _
    exact st1 _ kk
  obtain ⟨cl3, Ar3, q3, S3, M3, H3, G3⟩ := id V1
  obtain ⟨T3, h3, X3, e3, W3, st3⟩ := stB X1 hx hZ e1 Ar3 (j := (0 : Int32)) (inb_of S3 ⟨(by decide), (by decide)⟩) (g := (mkF m 7 #[.val (.int ch)] [(.int (ch.toInt8.toInt32)), (.int 0), (.ref fb1), (.ref fb1)])) rfl rfl (hb hby D5_7)
  have V3 : Arv Z h3 fb1 k1 .byte (1 : Int32) [(.int ch.toInt8.toInt32.toInt8.toInt32)] (.int 0) := Arv.set Ar3 q3 S3 M3 H3 G3 (fits_nar_byte _) W3 0 rfl (Nat.le_of_ble_eq_true rfl)
  have N3 := Fr.snoc X3 N0 lo_fb1
  have pre4 : ∀ t, Steps p.tables e below (T3.setTop (mkF m 8 #[.val (.int ch)] [(.ref fb1)])) t → Steps p.tables e below (s₁.setTop (entryFrame m #[(.int ch)] 1)) t := by
    intro t kk
    refine pre2 t ?_
    show Steps p.tables e below (T1.setTop (mkF m 3 #[.val (.int ch)] [(.ref fb1)])) _
    refine XS.dup X1.here hx rfl (hb hby D5_3) rfl rfl ?_
    show Steps p.tables e below (T1.setTop (mkF m 4 #[.val (.int ch)] [(.ref fb1), (.ref fb1)])) _
    refine XS.iconst X1.here hx rfl (hb hby D5_4) ?_
    show Steps p.tables e below (T1.setTop (mkF m 5 #[.val (.int ch)] [(.int 0), (.ref fb1), (.ref fb1)])) _
    refine XS.iloadN X1.here hx rfl (hb hby D5_5) rfl ?_
    show Steps p.tables e below (T1.setTop (mkF m 6 #[.val (.int ch)] [(.int ch), (.int 0), (.ref fb1), (.ref fb1)])) _
    refine XS.i2b X1.here hx rfl (hb hby D5_6) rfl ?_
    show Steps p.tables e below (T1.setTop (mkF m 7 #[.val (.int ch)] [(.int (ch.toInt8.toInt32)), (.int 0), (.ref fb1), (.ref fb1)])) _
    exact st3 _ kk
  rw [own_i8 ch] at V3
  have fc5 := (((Keep.refl h0 []).ext E1).wr W3 (Or.inr hi_fb1))
  obtain ⟨fs, hr, hrun, hended, hW, hsame⟩ := X3.leave (v := some (.ref fb1)) (fun h => by rw [Bd.returns] at h; cases h)
  refine ⟨_, _, pre4 _ ?_, hrun, hended, _, _, rfl, ?_, ⟨_, rfl⟩, hW, hsame.mono (by decide) (by decide)⟩
  · show Steps p.tables e below (T3.setTop (mkF m 8 #[.val (.int ch)] [(.ref fb1)])) _
    jvm_step X3.here [X3.here.top, hx, (hb hby D5_8), X3.method', Bd.returns, Value.isRef, FieldType.isReference]
    first | (intro acts; rw [hr _ acts rfl rfl rfl]) | rw [hr _ _ rfl rfl rfl]
    exact Steps.refl _
  · show Q_own_tb Z ch h0 n0 _ T3.heap _
    rw [e3]
    exact ⟨fb1, k1, rfl, N3, fc5, hi_fb1, V3⟩
theorem D6_0 : decode jdk_42_method_151_code 0 = .ok (.aload_n 0, 1) := by decide +kernel
theorem D6_1 : decode jdk_42_method_151_code 1 = .ok (.invokespecial 1, 3) := by decide +kernel
theorem D6_4 : decode jdk_42_method_151_code 4 = .ok (.aload_n 0, 1) := by decide +kernel
theorem D6_5 : decode jdk_42_method_151_code 5 = .ok (.aload_n 1, 1) := by decide +kernel
theorem D6_6 : decode jdk_42_method_151_code 6 = .ok (.putfield 9, 3) := by decide +kernel
theorem D6_9 : decode jdk_42_method_151_code 9 = .ok (.aload_n 0, 1) := by decide +kernel
theorem D6_10 : decode jdk_42_method_151_code 10 = .ok (.iload_n 2, 1) := by decide +kernel
theorem D6_11 : decode jdk_42_method_151_code 11 = .ok (.putfield 15, 3) := by decide +kernel
theorem D6_14 : decode jdk_42_method_151_code 14 = .ok (.return_, 1) := by decide +kernel
theorem ef_own_sbb (m : MethodId) {a1 : Addr} {a2 : Addr} : entryFrame m #[(.ref a1), (.ref a2), (.int 0)] 3 = mkF m 0 #[.val (.ref a1), .val (.ref a2), .val (.int 0)] [] := by first | (simp [entryFrame, mkF, argsToLocals, Value.category]; done) | rfl
def Q_own_sbb (Z : State) (a1 a2 : Addr) (h0 : Heap) (n0 : Nat) (v : Option Value) (h : Heap) (L : List Loc) : Prop := v = none ∧ Fr n0 L ∧ Keep h0 h [a1] ∧ Fld Z h a1 "java/lang/String" "value" "[B" (.ref a2) ∧ Fld Z h a1 "java/lang/String" "coder" "B" (.int 0)
set_option maxRecDepth 65536 in
set_option maxHeartbeats 40000000 in
theorem own_sbb (l : Launch) (Z : State) (a0 : Array Value) (hw : ∀ d ∈ tables_1, d.before a0 Z = true) (ws : List Jvm.Cond) (a1 a2 : Addr) (h0 : Heap) (n0 : Nat) (Z0 : n0 ≤ h0.size) (O1 : Obj Z h0 a1 "java/lang/String") (g1 : n0 ≤ a1) :
    MetFree l (⟨"java/lang/String", "<init>", "([BB)V"⟩ : MethodName) (head1 (Jvm.Cond.code (⟨"java/lang/String", "<init>", "([BB)V"⟩ : MethodName) jdk_42_method_151_code 3 none :: ws) ({ frames := 1, cells := 0, slots := 0, locals := 12 } : Room)) (fun a U => a = #[(.ref a1), (.ref a2), (.int 0)] ∧ Z.Warmed39 U.vm ∧ U.heap = h0) (fun _ _ _ _ _ => True) (fun _ U o U' => ∃ v L, o = .returned v ∧ Q_own_sbb Z a1 a2 h0 n0 v U'.heap L ∧ FrameEnd U o U' L ({ frames := 1, cells := 0, slots := 0, locals := 12 } : Room).cells ({ frames := 1, cells := 0, slots := 0, locals := 12 } : Room).slots) := by
  refine MetFree.of_bodySF (plainFor_of_name pn_java_lang_String) hisR ?_
  intro p e s m args below meth c s₁ Bd hml0 hP hK
  obtain ⟨rfl, hZ, hh⟩ := hP
  have hx := Bd.exec
  have hby := Bd.bytes
  have hml : c.maxLocals = 3 := hml0
  have hown : s.vm.findClass "java/lang/String" = some m.cls := findClass_of_methodNamed Bd.named
  have hnm := (name_of_methodNamed Bd.named Bd.method).1
  have X0 : Stand p l e ({ frames := 1, cells := 0, slots := 0, locals := 12 } : Room) s m #[(.ref a1), (.ref a2), (.int 0)] below meth c s₁ [] 0 0 := Stand.of_body Bd
  have e0 : s₁.heap = h0 := by rw [← hh, Bd.state]; rfl
  have N0 := Fr.nil n0
  have pre0 : ∀ t, Steps p.tables e below (s₁.setTop (mkF m 0 #[.val (.ref a1), .val (.ref a2), .val (.int 0)] [])) t → Steps p.tables e below (s₁.setTop (entryFrame m #[(.ref a1), (.ref a2), (.int 0)] 3)) t := fun t k => castTop (ef_own_sbb m) k
  obtain ⟨T1, X1, e1, st1⟩ := initO X0 hx hZ hown (gw hw 27 rfl) (gw hw 28 rfl) (gw hw 29 rfl) e0 (g := (mkF m 1 #[.val (.ref a1), .val (.ref a2), .val (.int 0)] [(.ref a1)])) rfl (by rw [hml]; rfl) rfl (hb hby D6_1) (by decide) (W := 0) (by show 2 * 0 + _ ≤ _; exact Nat.le_of_eq rfl) (by decide)
  have pre2 : ∀ t, Steps p.tables e below (T1.setTop (mkF m 4 #[.val (.ref a1), .val (.ref a2), .val (.int 0)] [])) t → Steps p.tables e below (s₁.setTop (entryFrame m #[(.ref a1), (.ref a2), (.int 0)] 3)) t := by
    intro t kk
    refine pre0 t ?_
    show Steps p.tables e below (s₁.setTop (mkF m 0 #[.val (.ref a1), .val (.ref a2), .val (.int 0)] [])) _
    refine XS.aloadN X0.here hx rfl (hb hby D6_0) rfl rfl ?_
    show Steps p.tables e below (s₁.setTop (mkF m 1 #[.val (.ref a1), .val (.ref a2), .val (.int 0)] [(.ref a1)])) _
    exact st1 _ kk
  obtain ⟨u3, U3⟩ := Obj.fld O1 (Or.inr (gw hw 31 rfl)) (gw hw 18 rfl)
  obtain ⟨T3, h3, X3, e3, W3, st3⟩ := putF X1 hx hZ hown (host := "") (Or.inl (gw hw 30 rfl)) Via.refl e1 U3 O1.exa (Or.inr ⟨(gw hw 31 rfl), rfl, hnm⟩) (gw hw 18 rfl) (ty := (.array .byte)) (by decide) rfl rfl (g := (mkF m 6 #[.val (.ref a1), .val (.ref a2), .val (.int 0)] [(.ref a2), (.ref a1)])) rfl rfl (hb hby D6_6)
  have N3 := Fr.snoc X3 N0 g1
  have Fw3 := U3.same W3
  have pre4 : ∀ t, Steps p.tables e below (T3.setTop (mkF m 9 #[.val (.ref a1), .val (.ref a2), .val (.int 0)] [])) t → Steps p.tables e below (s₁.setTop (entryFrame m #[(.ref a1), (.ref a2), (.int 0)] 3)) t := by
    intro t kk
    refine pre2 t ?_
    show Steps p.tables e below (T1.setTop (mkF m 4 #[.val (.ref a1), .val (.ref a2), .val (.int 0)] [])) _
    refine XS.aloadN X1.here hx rfl (hb hby D6_4) rfl rfl ?_
    show Steps p.tables e below (T1.setTop (mkF m 5 #[.val (.ref a1), .val (.ref a2), .val (.int 0)] [(.ref a1)])) _
    refine XS.aloadN X1.here hx rfl (hb hby D6_5) rfl rfl ?_
    show Steps p.tables e below (T1.setTop (mkF m 6 #[.val (.ref a1), .val (.ref a2), .val (.int 0)] [(.ref a2), (.ref a1)])) _
    exact st3 _ kk
  have fc5 := (O1.wr W3)
  obtain ⟨u6, U6⟩ := Obj.fld fc5 (Or.inr (gw hw 33 rfl)) (gw hw 18 rfl)
  obtain ⟨T6, h6, X6, e6, W6, st6⟩ := putF X3 hx hZ hown (host := "") (Or.inl (gw hw 32 rfl)) Via.refl e3 U6 fc5.exa (Or.inr ⟨(gw hw 33 rfl), rfl, hnm⟩) (gw hw 18 rfl) (ty := .byte) (by decide) rfl rfl (g := (mkF m 11 #[.val (.ref a1), .val (.ref a2), .val (.int 0)] [(.int 0), (.ref a1)])) rfl rfl (hb hby D6_11)
  have N6 := Fr.snoc X6 N3 g1
  have Fw6 := U6.same W6
  have pre7 : ∀ t, Steps p.tables e below (T6.setTop (mkF m 14 #[.val (.ref a1), .val (.ref a2), .val (.int 0)] [])) t → Steps p.tables e below (s₁.setTop (entryFrame m #[(.ref a1), (.ref a2), (.int 0)] 3)) t := by
    intro t kk
    refine pre4 t ?_
    show Steps p.tables e below (T3.setTop (mkF m 9 #[.val (.ref a1), .val (.ref a2), .val (.int 0)] [])) _
    refine XS.aloadN X3.here hx rfl (hb hby D6_9) rfl rfl ?_
    show Steps p.tables e below (T3.setTop (mkF m 10 #[.val (.ref a1), .val (.ref a2), .val (.int 0)] [(.ref a1)])) _
    refine XS.iloadN X3.here hx rfl (hb hby D6_10) rfl ?_
    show Steps p.tables e below (T3.setTop (mkF m 11 #[.val (.ref a1), .val (.ref a2), .val (.int 0)] [(.int 0), (.ref a1)])) _
    exact st6 _ kk
  have fc8 := (((Keep.refl h0 [a1]).wr W3 (Or.inl (List.mem_of_getElem? (i := 0) rfl))).wr W6 (Or.inl (List.mem_of_getElem? (i := 0) rfl)))
  have fc9 := (Fw3.other W6 (Or.inr (slot_ne (Or.inr (gw hw 31 rfl)) (Or.inr (gw hw 33 rfl)) (by decide) (t := (.array .byte)) (t' := .byte) (by decide) (by decide))))
  obtain ⟨fs, hr, hrun, hended, hW, hsame⟩ := X6.leave (v := none) (fun _ => rfl)
  refine ⟨_, _, pre7 _ ?_, hrun, hended, _, _, rfl, ?_, ⟨_, rfl⟩, hW, hsame.mono (by decide) (by decide)⟩
  · show Steps p.tables e below (T6.setTop (mkF m 14 #[.val (.ref a1), .val (.ref a2), .val (.int 0)] [])) _
    exact X6.returnOut hx Bd.returns (hb hby D6_14) hr
  · show Q_own_sbb Z a1 a2 h0 n0 _ T6.heap _
    rw [e6]
    exact ⟨rfl, N6, fc8, fc9, Fw6⟩
theorem D7_0 : decode jdk_42_method_139_code 0 = .ok (.getstatic 38, 3) := by decide +kernel
theorem D7_3 : decode jdk_42_method_139_code 3 = .ok (.ifCond .eq 23, 3) := by decide +kernel
theorem D7_6 : decode jdk_42_method_139_code 6 = .ok (.iload_n 0, 1) := by decide +kernel
theorem pd__C_Z : parseMethodDescriptor "(C)Z" = some ⟨[.char], some .boolean⟩ := by decide +kernel
theorem D7_7 : decode jdk_42_method_139_code 7 = .ok (.invokestatic 1015, 3) := by decide +kernel
theorem D7_10 : decode jdk_42_method_139_code 10 = .ok (.ifCond .eq 16, 3) := by decide +kernel
theorem D7_13 : decode jdk_42_method_139_code 13 = .ok (.new 10, 3) := by decide +kernel
theorem D7_16 : decode jdk_42_method_139_code 16 = .ok (.dup, 1) := by decide +kernel
theorem D7_17 : decode jdk_42_method_139_code 17 = .ok (.iload_n 0, 1) := by decide +kernel
theorem pd__C__B : parseMethodDescriptor "(C)[B" = some ⟨[.char], some (.array .byte)⟩ := by decide +kernel
theorem D7_18 : decode jdk_42_method_139_code 18 = .ok (.invokestatic 1018, 3) := by decide +kernel
theorem D7_21 : decode jdk_42_method_139_code 21 = .ok (.iconst 0, 1) := by decide +kernel
theorem pd___BB_V : parseMethodDescriptor "([BB)V" = some ⟨[(.array .byte), .byte], none⟩ := by decide +kernel
theorem D7_22 : decode jdk_42_method_139_code 22 = .ok (.invokespecial 209, 3) := by decide +kernel
theorem D7_25 : decode jdk_42_method_139_code 25 = .ok (.areturn, 1) := by decide +kernel
theorem ef_own_vo (m : MethodId) {ch : Int32} : entryFrame m #[(.int ch)] 1 = mkF m 0 #[.val (.int ch)] [] := by first | (simp [entryFrame, mkF, argsToLocals, Value.category]; done) | rfl
def Q_own_vo (Z : State) (ch G1 : Int32) (h0 : Heap) (n0 : Nat) (v : Option Value) (h : Heap) (L : List Loc) : Prop := ∃ (r b : Addr) (k : ClassId), v = some (.ref r) ∧ Fr n0 L ∧ Keep h0 h [] ∧ h0.size ≤ r ∧ Exa Z h r "java/lang/String" ∧ Fld Z h r "java/lang/String" "value" "[B" (.ref b) ∧ Fld Z h r "java/lang/String" "coder" "B" (.int 0) ∧ Arv Z h b k .byte (1 : Int32) [(.int ch.toInt8.toInt32)] (.int 0) ∧ h0.size ≤ b
set_option maxRecDepth 65536 in
set_option maxHeartbeats 40000000 in
theorem own_vo (l : Launch) (Z : State) (a0 : Array Value) (hw : ∀ d ∈ tables_1, d.before a0 Z = true) (ws : List Jvm.Cond) (ch G1 : Int32) (h0 : Heap) (n0 : Nat) (Z0 : n0 ≤ h0.size) (hc : ¬ (255 : Int32) < ch) (O2 : Sta Z Z.heap "java/lang/String" "COMPACT_STRINGS" "Z" (.int G1)) (P5 : ¬ G1 = (0 : Int32)) (XO : Old Z n0 h0) :
    MetFree l (⟨"java/lang/String", "valueOf", "(C)Ljava/lang/String;"⟩ : MethodName) (head1 (Jvm.Cond.code (⟨"java/lang/String", "valueOf", "(C)Ljava/lang/String;"⟩ : MethodName) jdk_42_method_139_code 1 (some (.object "java/lang/String")) :: ws) ({ frames := 2, cells := 2, slots := 5, locals := 29 } : Room)) (fun a U => a = #[(.int ch)] ∧ Z.Warmed39 U.vm ∧ U.heap = h0) (fun _ _ _ _ _ => True) (fun _ U o U' => ∃ v L, o = .returned v ∧ Q_own_vo Z ch G1 h0 n0 v U'.heap L ∧ FrameEnd U o U' L ({ frames := 2, cells := 2, slots := 5, locals := 29 } : Room).cells ({ frames := 2, cells := 2, slots := 5, locals := 29 } : Room).slots) := by
  refine MetFree.of_bodySF (plainFor_of_name pn_java_lang_String) hisR ?_
  intro p e s m args below meth c s₁ Bd hml0 hP hK
  obtain ⟨rfl, hZ, hh⟩ := hP
  have hx := Bd.exec
  have hby := Bd.bytes
  have hml : c.maxLocals = 1 := hml0
  have hown : s.vm.findClass "java/lang/String" = some m.cls := findClass_of_methodNamed Bd.named
  have hnm := (name_of_methodNamed Bd.named Bd.method).1
  have X0 : Stand p l e ({ frames := 2, cells := 2, slots := 5, locals := 29 } : Room) s m #[(.int ch)] below meth c s₁ [] 0 0 := Stand.of_body Bd
  have e0 : s₁.heap = h0 := by rw [← hh, Bd.state]; rfl
  have N0 := Fr.nil n0
  have pre0 : ∀ t, Steps p.tables e below (s₁.setTop (mkF m 0 #[.val (.int ch)] [])) t → Steps p.tables e below (s₁.setTop (entryFrame m #[(.int ch)] 1)) t := fun t k => castTop (ef_own_vo m) k
  obtain ⟨T1, X1, e1, st1⟩ := getS2 X0 hx hZ hown (host := "") (Or.inl (gw hw 12 rfl)) Via.refl e0 (O2.ext XO.2) (g := (mkF m 0 #[.val (.int ch)] [])) rfl (hb hby D7_0)
  have pre2 : ∀ t, Steps p.tables e below (T1.setTop (mkF m 3 #[.val (.int ch)] [(.int G1)])) t → Steps p.tables e below (s₁.setTop (entryFrame m #[(.int ch)] 1)) t := by
    intro t kk
    refine pre0 t ?_
    show Steps p.tables e below (s₁.setTop (mkF m 0 #[.val (.int ch)] [])) _
    exact st1 _ kk
  obtain ⟨_, _, ⟨T3, L3, k3, n3⟩, -, X3, ⟨Lc3, hQ3, l3, y3, z3⟩, st3⟩ := Jvm.LawKit.callS X1 hx (y := (⟨"java/lang/StringLatin1", "canEncode", "(C)Z"⟩ : MethodName)) hown (mvT hZ (gw hw 13 rfl)) (mvT hZ (gw hw 14 rfl)) (mvT hZ (gw hw 15 rfl)) (mvT hZ (gw hw 16 rfl)) (by decide) (backOf (W := 0) (own_ce l Z a0 hw [] ch h0 n0 Z0 hc) hZ (gw hw 16 rfl) (gw hw 15 rfl) (by decide) (by decide)) (g := (mkF m 7 #[.val (.int ch)] [(.int ch)])) rfl (by rw [hml]; rfl) (argsL := [(.int ch)]) (rest := []) (lenOf pd__C_Z rfl) rfl (by show 2 * 0 + _ ≤ _; exact Nat.le_of_eq rfl) (hb hby D7_7) (fun _ _ => ⟨rfl, e1, (by decide : 0 + 0 ≤ _), (by decide : 0 + 0 ≤ _)⟩)
  dsimp only [Pt.U, Pt.locs, Pt.cells, Pt.slots] at X3 l3 y3 z3 st3 hQ3
  subst l3 y3 z3
  obtain ⟨rfl, N3q, e3q⟩ := hQ3
  have N3 := Fr.app N0 N3q
  have pre4 : ∀ t, Steps p.tables e below (T3.setTop (mkF m 10 #[.val (.int ch)] [(.int 1)])) t → Steps p.tables e below (s₁.setTop (entryFrame m #[(.int ch)] 1)) t := by
    intro t kk
    refine pre2 t ?_
    show Steps p.tables e below (T1.setTop (mkF m 3 #[.val (.int ch)] [(.int G1)])) _
    refine XS.ifNo X1.here hx rfl (hb hby D7_3) rfl ((if0 _ _).trans (feq P5).1) ?_
    show Steps p.tables e below (T1.setTop (mkF m 6 #[.val (.int ch)] [])) _
    refine XS.iloadN X1.here hx rfl (hb hby D7_6) rfl ?_
    show Steps p.tables e below (T1.setTop (mkF m 7 #[.val (.int ch)] [(.int ch)])) _
    exact st3 _ kk
  obtain ⟨fb5, g5⟩ : ∃ z, z = h0.size := ⟨_, rfl⟩
  have lo_fb5 : n0 ≤ fb5 := Nat.le_trans Z0 (Nat.le_of_eq g5.symm)
  have hi_fb5 : h0.size ≤ fb5 := Nat.le_trans (Keep.refl h0 []).1 (Nat.le_of_eq g5.symm)
  obtain ⟨T5, h5, X5, e5, E5, A5, D5, B5, st5⟩ := newO X3 hx hZ hown (gw hw 17 rfl) (gw hw 18 rfl) (gw hw 10 rfl) e3q (g := (mkF m 13 #[.val (.int ch)] [])) rfl (hb hby D7_13) (by decide) (by decide)
  rw [← g5] at A5 D5 B5 st5
  have O5 := Obj.of A5 B5
  have pre6 : ∀ t, Steps p.tables e below (T5.setTop (mkF m 16 #[.val (.int ch)] [(.ref fb5)])) t → Steps p.tables e below (s₁.setTop (entryFrame m #[(.int ch)] 1)) t := by
    intro t kk
    refine pre4 t ?_
    show Steps p.tables e below (T3.setTop (mkF m 10 #[.val (.int ch)] [(.int 1)])) _
    refine XS.ifNo X3.here hx rfl (hb hby D7_10) rfl ((if0 _ _).trans (feq (by decide)).1) ?_
    show Steps p.tables e below (T3.setTop (mkF m 13 #[.val (.int ch)] [])) _
    exact st5 _ kk
  have fc8 := (Nat.le_trans Z0 E5.1)
  obtain ⟨_, _, ⟨T7, L7, k7, n7⟩, -, X7, ⟨Lc7, hQ7, l7, y7, z7⟩, st7⟩ := Jvm.LawKit.callS X5 hx (y := (⟨"java/lang/StringLatin1", "toBytes", "(C)[B"⟩ : MethodName)) hown (mvT hZ (gw hw 19 rfl)) (mvT hZ (gw hw 20 rfl)) (mvT hZ (gw hw 15 rfl)) (mvT hZ (gw hw 21 rfl)) (by decide) (backOf (W := 2) (own_tb l Z a0 hw [] ch h5 n0 fc8) hZ (gw hw 21 rfl) (gw hw 15 rfl) (by decide) (by decide)) (g := (mkF m 18 #[.val (.int ch)] [(.int ch), (.ref fb5), (.ref fb5)])) rfl (by rw [hml]; rfl) (argsL := [(.int ch)]) (rest := [(.ref fb5), (.ref fb5)]) (lenOf pd__C__B rfl) rfl (by show 2 * 0 + _ ≤ _; exact Nat.le_of_eq rfl) (hb hby D7_18) (fun _ _ => ⟨rfl, e5, (by decide : 1 + 1 ≤ _), (by decide : 4 + 1 ≤ _)⟩)
  dsimp only [Pt.U, Pt.locs, Pt.cells, Pt.slots] at X7 l7 y7 z7 st7 hQ7
  subst l7 y7 z7
  obtain ⟨b7, kb7, rfl, N7q, K7, hb7, V7⟩ := hQ7
  have N7 := Fr.app N3 N7q
  have pre9 : ∀ t, Steps p.tables e below (T7.setTop (mkF m 21 #[.val (.int ch)] [(.ref b7), (.ref fb5), (.ref fb5)])) t → Steps p.tables e below (s₁.setTop (entryFrame m #[(.int ch)] 1)) t := by
    intro t kk
    refine pre6 t ?_
    show Steps p.tables e below (T5.setTop (mkF m 16 #[.val (.int ch)] [(.ref fb5)])) _
    refine XS.dup X5.here hx rfl (hb hby D7_16) rfl rfl ?_
    show Steps p.tables e below (T5.setTop (mkF m 17 #[.val (.int ch)] [(.ref fb5), (.ref fb5)])) _
    refine XS.iloadN X5.here hx rfl (hb hby D7_17) rfl ?_
    show Steps p.tables e below (T5.setTop (mkF m 18 #[.val (.int ch)] [(.int ch), (.ref fb5), (.ref fb5)])) _
    exact st7 _ kk
  have ne_fb5_b7 : fb5 ≠ b7 := Nat.ne_of_lt (Nat.lt_of_lt_of_le O5.lt hb7)
  have hi_b7 : h0.size ≤ b7 := Nat.le_trans ((Keep.refl h0 []).ext E5).1 hb7
  have fc10 := (O5.keep K7)
  have fc12 := (Nat.le_trans fc8 K7.1)
  obtain ⟨_, _, ⟨T11, L11, k11, n11⟩, -, X11, ⟨Lc11, hQ11, l11, y11, z11⟩, st11⟩ := X7.specialBack hx (y := (⟨"java/lang/String", "<init>", "([BB)V"⟩ : MethodName)) rfl hown (mvT hZ (gw hw 23 rfl)) (mvT hZ (gw hw 24 rfl)) (mvT hZ (gw hw 26 rfl)) (by decide) (backOf (W := 1) (own_sbb l Z a0 hw [] fb5 b7 T7.heap n0 fc12 fc10 lo_fb5) hZ (gw hw 26 rfl) (gw hw 10 rfl) (by decide) (by decide)) (g := (mkF m 22 #[.val (.int ch)] [(.int 0), (.ref b7), (.ref fb5), (.ref fb5)])) rfl (by rw [hml]; rfl) (Steps.refl _) (a := fb5) (argsL := [(.ref b7), (.int 0)]) (rest := [(.ref fb5)]) (lenOf pd___BB_V rfl) rfl (by show 2 * 0 + _ ≤ _; exact Nat.le_of_eq rfl) (hb hby D7_22) (fun _ _ => ⟨rfl, rfl, (by decide : 2 + 0 ≤ _), (by decide : 5 + 0 ≤ _)⟩)
  dsimp only [Pt.U, Pt.locs, Pt.cells, Pt.slots] at X11 l11 y11 z11 st11 hQ11
  subst l11 y11 z11
  obtain ⟨rfl, N11q, K11, Fv11, Fc11⟩ := hQ11
  have N11 := Fr.app N7 N11q
  have pre13 : ∀ t, Steps p.tables e below (T11.setTop (mkF m 25 #[.val (.int ch)] [(.ref fb5)])) t → Steps p.tables e below (s₁.setTop (entryFrame m #[(.int ch)] 1)) t := by
    intro t kk
    refine pre9 t ?_
    show Steps p.tables e below (T7.setTop (mkF m 21 #[.val (.int ch)] [(.ref b7), (.ref fb5), (.ref fb5)])) _
    refine XS.iconst X7.here hx rfl (hb hby D7_21) ?_
    show Steps p.tables e below (T7.setTop (mkF m 22 #[.val (.int ch)] [(.int 0), (.ref b7), (.ref fb5), (.ref fb5)])) _
    exact st11.trans kk
  have fc14 := ((((Keep.refl h0 []).ext E5).trans K7 all0).trans K11 (allS (Or.inr hi_fb5) all0))
  have fc15 := (fc10.keep K11)
  have fc16 := (V7.keep K11 (ninS (Ne.symm ne_fb5_b7) nin0))
  obtain ⟨fs, hr, hrun, hended, hW, hsame⟩ := X11.leave (v := some (.ref fb5)) (fun h => by rw [Bd.returns] at h; cases h)
  refine ⟨_, _, pre13 _ ?_, hrun, hended, _, _, rfl, ?_, ⟨_, rfl⟩, hW, hsame.mono (by decide) (by decide)⟩
  · show Steps p.tables e below (T11.setTop (mkF m 25 #[.val (.int ch)] [(.ref fb5)])) _
    jvm_step X11.here [X11.here.top, hx, (hb hby D7_25), X11.method', Bd.returns, Value.isRef, FieldType.isReference]
    first | (intro acts; rw [hr _ acts rfl rfl rfl]) | rw [hr _ _ rfl rfl rfl]
    exact Steps.refl _
  · show Q_own_vo Z ch G1 h0 n0 _ T11.heap _
    exact ⟨fb5, b7, kb7, rfl, N11, fc14, hi_fb5, fc15.exa, Fv11, Fc11, fc16, hi_b7⟩
theorem pn_com_example_deadline_deadline_CallbackScheme : plainName "com/example/deadline/deadline/CallbackScheme" = true := by first | (simp [plainName, overriddenIn]; done) | decide +kernel
theorem D8_0 : decode prog_17_method_1_code 0 = .ok (.getstatic 10, 3) := by decide +kernel
theorem D8_3 : decode prog_17_method_1_code 3 = .ok (.invokevirtual 14, 3) := by decide +kernel
theorem D8_6 : decode prog_17_method_1_code 6 = .ok (.checkcast 15, 3) := by decide +kernel
theorem D8_9 : decode prog_17_method_1_code 9 = .ok (.areturn, 1) := by decide +kernel
theorem ef_own_values (m : MethodId)  : entryFrame m #[] 0 = mkF m 0 #[] [] := by first | (simp [entryFrame, mkF, argsToLocals, Value.category]; done) | rfl
def Q_own_values (Z : State) (va en1 en2 : Addr) (kv : ClassId) (h0 : Heap) (n0 : Nat) (v : Option Value) (h : Heap) (L : List Loc) : Prop := ∃ c : Addr, v = some (.ref c) ∧ Fr n0 L ∧ Keep h0 h [] ∧ h0.size ≤ c ∧ Arv Z h c kv (.object "com/example/deadline/deadline/CallbackScheme") (2 : Int32) [(.ref en1), (.ref en2)] .null
set_option maxRecDepth 65536 in
set_option maxHeartbeats 40000000 in
theorem own_values (l : Launch) (Z : State) (a0 : Array Value) (hw : ∀ d ∈ tables_1, d.before a0 Z = true) (ws : List Jvm.Cond) (va en1 en2 : Addr) (kv : ClassId) (h0 : Heap) (n0 : Nat) (Z0 : n0 ≤ h0.size) (SV : Sta Z Z.heap "com/example/deadline/deadline/CallbackScheme" "$VALUES" "[Lcom/example/deadline/deadline/CallbackScheme;" (.ref va)) (KV : Arv Z Z.heap va kv (.object "com/example/deadline/deadline/CallbackScheme") (2 : Int32) [(.ref en1), (.ref en2)] .null) (EV : Exa Z Z.heap va "[Lcom/example/deadline/deadline/CallbackScheme;") (XO : Old Z n0 h0) :
    MetFree l (⟨"com/example/deadline/deadline/CallbackScheme", "values", "()[Lcom/example/deadline/deadline/CallbackScheme;"⟩ : MethodName) (head1 (Jvm.Cond.code (⟨"com/example/deadline/deadline/CallbackScheme", "values", "()[Lcom/example/deadline/deadline/CallbackScheme;"⟩ : MethodName) prog_17_method_1_code 0 (some (.array (.object "com/example/deadline/deadline/CallbackScheme"))) :: ws) ({ frames := 1, cells := 1, slots := 2, locals := 14 } : Room)) (fun a U => a = #[] ∧ Z.Warmed39 U.vm ∧ U.heap = h0) (fun _ _ _ _ _ => True) (fun _ U o U' => ∃ v L, o = .returned v ∧ Q_own_values Z va en1 en2 kv h0 n0 v U'.heap L ∧ FrameEnd U o U' L ({ frames := 1, cells := 1, slots := 2, locals := 14 } : Room).cells ({ frames := 1, cells := 1, slots := 2, locals := 14 } : Room).slots) := by
  refine MetFree.of_bodySF (plainFor_of_name pn_com_example_deadline_deadline_CallbackScheme) hisR ?_
  intro p e s m args below meth c s₁ Bd hml0 hP hK
  obtain ⟨rfl, hZ, hh⟩ := hP
  have hx := Bd.exec
  have hby := Bd.bytes
  have hml : c.maxLocals = 0 := hml0
  have hown : s.vm.findClass "com/example/deadline/deadline/CallbackScheme" = some m.cls := findClass_of_methodNamed Bd.named
  have hnm := (name_of_methodNamed Bd.named Bd.method).1
  have X0 : Stand p l e ({ frames := 1, cells := 1, slots := 2, locals := 14 } : Room) s m #[] below meth c s₁ [] 0 0 := Stand.of_body Bd
  have e0 : s₁.heap = h0 := by rw [← hh, Bd.state]; rfl
  have N0 := Fr.nil n0
  have pre0 : ∀ t, Steps p.tables e below (s₁.setTop (mkF m 0 #[] [])) t → Steps p.tables e below (s₁.setTop (entryFrame m #[] 0)) t := fun t k => castTop (ef_own_values m) k
  obtain ⟨T1, X1, e1, st1⟩ := getS2 X0 hx hZ hown (host := "") (Or.inl (gw hw 51 rfl)) Via.refl e0 (SV.ext XO.2) (g := (mkF m 0 #[] [])) rfl (hb hby D8_0)
  have pre2 : ∀ t, Steps p.tables e below (T1.setTop (mkF m 3 #[] [(.ref va)])) t → Steps p.tables e below (s₁.setTop (entryFrame m #[] 0)) t := by
    intro t kk
    refine pre0 t ?_
    show Steps p.tables e below (s₁.setTop (mkF m 0 #[] [])) _
    exact st1 _ kk
  obtain ⟨b3, g3⟩ : ∃ z, z = h0.size := ⟨_, rfl⟩
  have lo_b3 : n0 ≤ b3 := Nat.le_trans Z0 (Nat.le_of_eq g3.symm)
  have hi_b3 : h0.size ≤ b3 := Nat.le_trans (Keep.refl h0 []).1 (Nat.le_of_eq g3.symm)
  obtain ⟨T3, h3, X3, e3, E3, V3, Ex3, st3⟩ := cloneH X1 hx hZ hown (gw hw 53 rfl) (gw hw 54 rfl) (gw hw 58 rfl) (gw hw 56 rfl) (gw hw 57 rfl) (gw hw 59 rfl) e1 (Arv.arh (KV.ext XO.2)) (EV.ext XO.2) (g := (mkF m 3 #[] [(.ref va)])) rfl (by rw [hml]; rfl) rfl (hb hby D8_3) (by decide) (W := 0) (cap := 2) (by show 2 * 0 + _ ≤ _; exact Nat.le_of_eq rfl) (by decide) (by decide) (by decide) (by decide)
  rw [← g3] at V3 Ex3 st3
  have pre4 : ∀ t, Steps p.tables e below (T3.setTop (mkF m 6 #[] [(.ref b3)])) t → Steps p.tables e below (s₁.setTop (entryFrame m #[] 0)) t := by
    intro t kk
    refine pre2 t ?_
    show Steps p.tables e below (T1.setTop (mkF m 3 #[] [(.ref va)])) _
    exact st3 _ kk
  obtain ⟨T5, X5, e5, st5⟩ := castY X3 hx hZ hown (gw hw 63 rfl) e3 (Ins.self Ex3) (g := (mkF m 6 #[] [(.ref b3)])) rfl rfl (hb hby D8_6)
  have pre6 : ∀ t, Steps p.tables e below (T5.setTop (mkF m 9 #[] [(.ref b3)])) t → Steps p.tables e below (s₁.setTop (entryFrame m #[] 0)) t := by
    intro t kk
    refine pre4 t ?_
    show Steps p.tables e below (T3.setTop (mkF m 6 #[] [(.ref b3)])) _
    exact st5 _ kk
  have fc7 := ((Keep.refl h0 []).ext E3)
  obtain ⟨fs, hr, hrun, hended, hW, hsame⟩ := X5.leave (v := some (.ref b3)) (fun h => by rw [Bd.returns] at h; cases h)
  refine ⟨_, _, pre6 _ ?_, hrun, hended, _, _, rfl, ?_, ⟨_, rfl⟩, hW, hsame.mono (by decide) (by decide)⟩
  · show Steps p.tables e below (T5.setTop (mkF m 9 #[] [(.ref b3)])) _
    jvm_step X5.here [X5.here.top, hx, (hb hby D8_9), X5.method', Bd.returns, Value.isRef, FieldType.isReference]
    first | (intro acts; rw [hr _ acts rfl rfl rfl]) | rw [hr _ _ rfl rfl rfl]
    exact Steps.refl _
  · show Q_own_values Z va en1 en2 kv h0 n0 _ T5.heap _
    rw [e5]
    exact ⟨b3, rfl, N0, fc7, hi_b3, V3⟩
theorem own_c8 (x : Int32) : ¬ (x &&& (255 : Int32)).toUInt32.toUInt16.toUInt32.toInt32 < 0 ∧ ¬ (255 : Int32) < (x &&& (255 : Int32)).toUInt32.toUInt16.toUInt32.toInt32 := by
  have h1 := c_and x 255 (by decide)
  have h2 := c_i2c (x &&& 255)
  have h3 : (255 : Int32).toInt = 255 := by decide
  have h4 : (0 : Int32).toInt = 0 := by decide
  rw [Int32.lt_iff_toInt_lt, Int32.lt_iff_toInt_lt]
  omega
theorem own_n8 (x : Int32) : ¬ nar .char ((x &&& (255 : Int32)).toUInt32.toUInt16.toUInt32.toInt32) < 0 ∧ ¬ (255 : Int32) < nar .char ((x &&& (255 : Int32)).toUInt32.toUInt16.toUInt32.toInt32) := by
  have e : nar .char ((x &&& (255 : Int32)).toUInt32.toUInt16.toUInt32.toInt32) = (x &&& (255 : Int32)).toUInt32.toUInt16.toUInt32.toInt32 := by simp only [nar, UInt32.toUInt32_toInt32, UInt16.toUInt16_toUInt32]
  rw [e]; exact own_c8 x
def own_Lt (cs : List Int32) : Prop := ∀ c ∈ cs, ¬ c < 0 ∧ ¬ (255 : Int32) < c
theorem own_p0 : own_Lt [] := fun c hc => by cases hc
theorem own_pc {a : Int32} {cs : List Int32} (ha : ¬ a < 0 ∧ ¬ (255 : Int32) < a) (h : own_Lt cs) : own_Lt (a :: cs) := by
  intro c hc
  rcases List.mem_cons.mp hc with rfl | hc
  · exact ha
  · exact h c hc
theorem own_papp {a b : List Int32} (ha : own_Lt a) (hb : own_Lt b) : own_Lt (a ++ b) := by
  intro c hc
  rcases List.mem_append.mp hc with h | h
  · exact ha c h
  · exact hb c h
theorem own_up {cs : List Int32} (h : own_Lt cs) : ∀ c ∈ cs, ¬ c < 0 ∧ ¬ (65535 : Int32) < c := fun c hc => ⟨(h c hc).1, fun q => (h c hc).2 (by rw [Int32.lt_iff_toInt_lt] at q ⊢; have e1 : (65535 : Int32).toInt = 65535 := rfl; have e2 : (255 : Int32).toInt = 255 := rfl; omega)⟩
theorem own_cod {cs : List Int32} (h : own_Lt cs) : StrChars.Road.CodA cs 0 (Int32.ofNat cs.length) (own_B cs) := Or.inl ⟨rfl, rfl, by simp only [own_B, List.map_map]; rfl, fun c hc => (h c hc).2⟩
theorem own_iN {i : Int32} (h : ¬ i < 0) : i = Int32.ofNat i.toNatClampNeg := by
  have e := nat_of h
  have r := rng32 i
  apply Int32.toInt_inj.mp
  rw [Int32.toInt_ofNat_of_lt (by omega)]
  exact e
theorem own_subN {i : Int32} {l : Nat} (h : ¬ i < 0) (hl : l ≤ i.toNatClampNeg) (hb : l ≤ 4000) : i - Int32.ofNat l = Int32.ofNat (i.toNatClampNeg - l) := by
  have e := nat_of h
  have r := rng32 i
  have e2 := (own_on hb).1
  have q := c_isub i (Int32.ofNat l)
  have r2 := rng32 (i - Int32.ofNat l)
  apply Int32.toInt_inj.mp
  rw [Int32.toInt_ofNat_of_lt (by omega)]
  omega
theorem own_ltN {i : Int32} {l : Nat} (h : ¬ i < 0) (hb : l ≤ 4000) : i < Int32.ofNat l ↔ i.toNatClampNeg < l := by
  have e := nat_of h
  have e2 := (own_on hb).1
  rw [Int32.lt_iff_toInt_lt]
  omega
theorem own_gA {a b : List Int32} {i : Nat} (h : i < a.length) : (a ++ b).getD i 0 = a.getD i 0 := by
  simp [List.getD_eq_getElem?_getD, List.getElem?_append_left h]
theorem own_gB {a b : List Int32} {i : Nat} (h : a.length ≤ i) : (a ++ b).getD i 0 = b.getD (i - a.length) 0 := by
  simp [List.getD_eq_getElem?_getD, List.getElem?_append_right h]
/-- the byte a and the char b are one letter but for its case -/
def own_M (a b : Int32) : Prop := a = b.toInt8.toInt32 ∨ a &&& (223 : Int32) = b.toInt8.toInt32 &&& (223 : Int32)
instance (a b : Int32) : Decidable (own_M a b) := inferInstanceAs (Decidable (_ ∨ _))
/-- a char of 0 to 255 is lower or upper case of an ASCII letter iff its byte matches -/
def own_low (a : Int32) : Prop := a = 104 ∨ a = 116 ∨ a = 112 ∨ a = 115
theorem own_Mt : ∀ k : Fin 256, ∀ a ∈ ([104, 116, 112, 115] : List Int32), own_M a (Int32.ofNat k.val) ↔ (Int32.ofNat k.val = a ∨ Int32.ofNat k.val = (a - (32 : Int32)).toUInt32.toUInt16.toUInt32.toInt32) := by decide +kernel
theorem own_Mc {a c : Int32} (ha : a ∈ ([104, 116, 112, 115] : List Int32)) (hc : ¬ c < 0 ∧ ¬ (255 : Int32) < c) : own_M a c ↔ (c = a ∨ c = (a - (32 : Int32)).toUInt32.toUInt16.toUInt32.toInt32) := by
  have e := own_iN hc.1
  have l : c.toNatClampNeg < 256 := by
    have q := hc.2
    rw [Int32.lt_iff_toInt_lt] at q
    have k : (255 : Int32).toInt = 255 := by decide
    have n := nat_of hc.1
    omega
  have := own_Mt ⟨c.toNatClampNeg, l⟩ a ha
  rw [← e] at this
  exact this
def own_E4 (t : List Int32) (cs : List Int32) : Prop := cs.length = t.length ∧ ∀ i, i < t.length → own_M (t.getD i 0) (cs.getD i 0)
theorem pn_com_example_deadline_deadline_CallbackSchemeNamedPinLaw : plainName "com/example/deadline/deadline/CallbackSchemeNamedPinLaw" = true := by first | (simp [plainName, overriddenIn]; done) | decide +kernel
theorem D9_0 : decode method_4_code 0 = .ok (.iload_n 0, 1) := by decide +kernel
theorem D9_1 : decode method_4_code 1 = .ok (.iload_n 1, 1) := by decide +kernel
theorem D9_2 : decode method_4_code 2 = .ok (.if_icmp .eq 12, 3) := by decide +kernel
theorem D9_14 : decode method_4_code 14 = .ok (.iconst 1, 1) := by decide +kernel
theorem D9_15 : decode method_4_code 15 = .ok (.goto 4, 3) := by decide +kernel
theorem D9_19 : decode method_4_code 19 = .ok (.ireturn, 1) := by decide +kernel
theorem D9_5 : decode method_4_code 5 = .ok (.iload_n 0, 1) := by decide +kernel
theorem D9_6 : decode method_4_code 6 = .ok (.iload_n 1, 1) := by decide +kernel
theorem D9_7 : decode method_4_code 7 = .ok (.bipush 32, 2) := by decide +kernel
theorem D9_9 : decode method_4_code 9 = .ok (.isub, 1) := by decide +kernel
theorem D9_10 : decode method_4_code 10 = .ok (.i2c, 1) := by decide +kernel
theorem D9_11 : decode method_4_code 11 = .ok (.if_icmp .ne 7, 3) := by decide +kernel
theorem D9_18 : decode method_4_code 18 = .ok (.iconst 0, 1) := by decide +kernel
theorem ef_own_ci (m : MethodId) {ch : Int32} {lo : Int32} : entryFrame m #[(.int ch), (.int lo)] 2 = mkF m 0 #[.val (.int ch), .val (.int lo)] [] := by first | (simp [entryFrame, mkF, argsToLocals, Value.category]; done) | rfl
def Q_own_ci (Z : State) (ch lo : Int32) (h0 : Heap) (n0 : Nat) (v : Option Value) (h : Heap) (L : List Loc) : Prop := ∃ r : Int32, v = some (.int r) ∧ Fr n0 L ∧ h = h0 ∧ ((ch = lo ∨ ch = (lo - (32 : Int32)).toUInt32.toUInt16.toUInt32.toInt32) → r = 1) ∧ (¬ (ch = lo ∨ ch = (lo - (32 : Int32)).toUInt32.toUInt16.toUInt32.toInt32) → r = 0)
set_option maxRecDepth 65536 in
set_option maxHeartbeats 40000000 in
theorem own_ci (l : Launch) (Z : State) (a0 : Array Value) (hw : ∀ d ∈ tables_1, d.before a0 Z = true) (ws : List Jvm.Cond) (ch lo : Int32) (h0 : Heap) (n0 : Nat) (Z0 : n0 ≤ h0.size)  :
    MetFree l (⟨"com/example/deadline/deadline/CallbackSchemeNamedPinLaw", "ci", "(CC)Z"⟩ : MethodName) (head1 (Jvm.Cond.code (⟨"com/example/deadline/deadline/CallbackSchemeNamedPinLaw", "ci", "(CC)Z"⟩ : MethodName) method_4_code 2 (some .boolean) :: ws) ({ frames := 0, cells := 0, slots := 0, locals := 0 } : Room)) (fun a U => a = #[(.int ch), (.int lo)] ∧ Z.Warmed39 U.vm ∧ U.heap = h0) (fun _ _ _ _ _ => True) (fun _ U o U' => ∃ v L, o = .returned v ∧ Q_own_ci Z ch lo h0 n0 v U'.heap L ∧ FrameEnd U o U' L ({ frames := 0, cells := 0, slots := 0, locals := 0 } : Room).cells ({ frames := 0, cells := 0, slots := 0, locals := 0 } : Room).slots) := by
  refine MetFree.of_bodySF (plainFor_of_name pn_com_example_deadline_deadline_CallbackSchemeNamedPinLaw) hisR ?_
  intro p e s m args below meth c s₁ Bd hml0 hP hK
  obtain ⟨rfl, hZ, hh⟩ := hP
  have hx := Bd.exec
  have hby := Bd.bytes
  have hml : c.maxLocals = 2 := hml0
  have hown : s.vm.findClass "com/example/deadline/deadline/CallbackSchemeNamedPinLaw" = some m.cls := findClass_of_methodNamed Bd.named
  have hnm := (name_of_methodNamed Bd.named Bd.method).1
  have X0 : Stand p l e ({ frames := 0, cells := 0, slots := 0, locals := 0 } : Room) s m #[(.int ch), (.int lo)] below meth c s₁ [] 0 0 := Stand.of_body Bd
  have e0 : s₁.heap = h0 := by rw [← hh, Bd.state]; rfl
  have N0 := Fr.nil n0
  have pre0 : ∀ t, Steps p.tables e below (s₁.setTop (mkF m 0 #[.val (.int ch), .val (.int lo)] [])) t → Steps p.tables e below (s₁.setTop (entryFrame m #[(.int ch), (.int lo)] 2)) t := fun t k => castTop (ef_own_ci m) k
  by_cases ha : ch = lo
  case pos =>
    obtain ⟨fs, hr, hrun, hended, hW, hsame⟩ := X0.leave (v := some (.int 1)) (fun h => by rw [Bd.returns] at h; cases h)
    refine ⟨_, _, pre0 _ ?_, hrun, hended, _, _, rfl, ?_, ⟨_, rfl⟩, hW, hsame.mono (by decide) (by decide)⟩
    · show Steps p.tables e below (s₁.setTop (mkF m 0 #[.val (.int ch), .val (.int lo)] [])) _
      refine XS.iloadN X0.here hx rfl (hb hby D9_0) rfl ?_
      show Steps p.tables e below (s₁.setTop (mkF m 1 #[.val (.int ch), .val (.int lo)] [(.int ch)])) _
      refine XS.iloadN X0.here hx rfl (hb hby D9_1) rfl ?_
      show Steps p.tables e below (s₁.setTop (mkF m 2 #[.val (.int ch), .val (.int lo)] [(.int lo), (.int ch)])) _
      refine XS.icmpYes X0.here hx rfl (pc0 := 2) (pc' := 14) rfl (hb hby D9_2) rfl (teq ha).1 (by decide) (by decide) ?_
      show Steps p.tables e below (s₁.setTop (mkF m 14 #[.val (.int ch), .val (.int lo)] [])) _
      refine XS.iconst X0.here hx rfl (hb hby D9_14) ?_
      show Steps p.tables e below (s₁.setTop (mkF m 15 #[.val (.int ch), .val (.int lo)] [(.int 1)])) _
      refine XS.goto X0.here hx rfl (pc0 := 15) (pc' := 19) rfl (hb hby D9_15) (by decide) (by decide) ?_
      show Steps p.tables e below (s₁.setTop (mkF m 19 #[.val (.int ch), .val (.int lo)] [(.int 1)])) _
      exact retN X0 hx (t := .boolean) Bd.returns (by simp) (hb hby D9_19) hr
    · show Q_own_ci Z ch lo h0 n0 _ s₁.heap _
      rw [e0]
      exact ⟨1, rfl, N0, rfl, fun _ => rfl, fun q => absurd (Or.inl ha) q⟩
  case neg =>
    by_cases hd : ch = ((lo - (32 : Int32)).toUInt32.toUInt16.toUInt32.toInt32)
    case pos =>
      obtain ⟨fs, hr, hrun, hended, hW, hsame⟩ := X0.leave (v := some (.int 1)) (fun h => by rw [Bd.returns] at h; cases h)
      refine ⟨_, _, pre0 _ ?_, hrun, hended, _, _, rfl, ?_, ⟨_, rfl⟩, hW, hsame.mono (by decide) (by decide)⟩
      · show Steps p.tables e below (s₁.setTop (mkF m 0 #[.val (.int ch), .val (.int lo)] [])) _
        refine XS.iloadN X0.here hx rfl (hb hby D9_0) rfl ?_
        show Steps p.tables e below (s₁.setTop (mkF m 1 #[.val (.int ch), .val (.int lo)] [(.int ch)])) _
        refine XS.iloadN X0.here hx rfl (hb hby D9_1) rfl ?_
        show Steps p.tables e below (s₁.setTop (mkF m 2 #[.val (.int ch), .val (.int lo)] [(.int lo), (.int ch)])) _
        refine XS.icmpNo X0.here hx rfl (hb hby D9_2) rfl (feq ha).1 ?_
        show Steps p.tables e below (s₁.setTop (mkF m 5 #[.val (.int ch), .val (.int lo)] [])) _
        refine XS.iloadN X0.here hx rfl (hb hby D9_5) rfl ?_
        show Steps p.tables e below (s₁.setTop (mkF m 6 #[.val (.int ch), .val (.int lo)] [(.int ch)])) _
        refine XS.iloadN X0.here hx rfl (hb hby D9_6) rfl ?_
        show Steps p.tables e below (s₁.setTop (mkF m 7 #[.val (.int ch), .val (.int lo)] [(.int lo), (.int ch)])) _
        refine XS.bipush X0.here hx rfl (hb hby D9_7) ?_
        show Steps p.tables e below (s₁.setTop (mkF m 9 #[.val (.int ch), .val (.int lo)] [(.int 32), (.int lo), (.int ch)])) _
        refine XS.isub X0.here hx rfl (hb hby D9_9) rfl ?_
        show Steps p.tables e below (s₁.setTop (mkF m 10 #[.val (.int ch), .val (.int lo)] [(.int (lo - (32 : Int32))), (.int ch)])) _
        refine XS.i2c X0.here hx rfl (hb hby D9_10) rfl ?_
        show Steps p.tables e below (s₁.setTop (mkF m 11 #[.val (.int ch), .val (.int lo)] [(.int ((lo - (32 : Int32)).toUInt32.toUInt16.toUInt32.toInt32)), (.int ch)])) _
        refine XS.icmpNo X0.here hx rfl (hb hby D9_11) rfl (teq hd).2 ?_
        show Steps p.tables e below (s₁.setTop (mkF m 14 #[.val (.int ch), .val (.int lo)] [])) _
        refine XS.iconst X0.here hx rfl (hb hby D9_14) ?_
        show Steps p.tables e below (s₁.setTop (mkF m 15 #[.val (.int ch), .val (.int lo)] [(.int 1)])) _
        refine XS.goto X0.here hx rfl (pc0 := 15) (pc' := 19) rfl (hb hby D9_15) (by decide) (by decide) ?_
        show Steps p.tables e below (s₁.setTop (mkF m 19 #[.val (.int ch), .val (.int lo)] [(.int 1)])) _
        exact retN X0 hx (t := .boolean) Bd.returns (by simp) (hb hby D9_19) hr
      · show Q_own_ci Z ch lo h0 n0 _ s₁.heap _
        rw [e0]
        exact ⟨1, rfl, N0, rfl, fun _ => rfl, fun q => absurd (Or.inr hd) q⟩
    case neg =>
      obtain ⟨fs, hr, hrun, hended, hW, hsame⟩ := X0.leave (v := some (.int 0)) (fun h => by rw [Bd.returns] at h; cases h)
      refine ⟨_, _, pre0 _ ?_, hrun, hended, _, _, rfl, ?_, ⟨_, rfl⟩, hW, hsame.mono (by decide) (by decide)⟩
      · show Steps p.tables e below (s₁.setTop (mkF m 0 #[.val (.int ch), .val (.int lo)] [])) _
        refine XS.iloadN X0.here hx rfl (hb hby D9_0) rfl ?_
        show Steps p.tables e below (s₁.setTop (mkF m 1 #[.val (.int ch), .val (.int lo)] [(.int ch)])) _
        refine XS.iloadN X0.here hx rfl (hb hby D9_1) rfl ?_
        show Steps p.tables e below (s₁.setTop (mkF m 2 #[.val (.int ch), .val (.int lo)] [(.int lo), (.int ch)])) _
        refine XS.icmpNo X0.here hx rfl (hb hby D9_2) rfl (feq ha).1 ?_
        show Steps p.tables e below (s₁.setTop (mkF m 5 #[.val (.int ch), .val (.int lo)] [])) _
        refine XS.iloadN X0.here hx rfl (hb hby D9_5) rfl ?_
        show Steps p.tables e below (s₁.setTop (mkF m 6 #[.val (.int ch), .val (.int lo)] [(.int ch)])) _
        refine XS.iloadN X0.here hx rfl (hb hby D9_6) rfl ?_
        show Steps p.tables e below (s₁.setTop (mkF m 7 #[.val (.int ch), .val (.int lo)] [(.int lo), (.int ch)])) _
        refine XS.bipush X0.here hx rfl (hb hby D9_7) ?_
        show Steps p.tables e below (s₁.setTop (mkF m 9 #[.val (.int ch), .val (.int lo)] [(.int 32), (.int lo), (.int ch)])) _
        refine XS.isub X0.here hx rfl (hb hby D9_9) rfl ?_
        show Steps p.tables e below (s₁.setTop (mkF m 10 #[.val (.int ch), .val (.int lo)] [(.int (lo - (32 : Int32))), (.int ch)])) _
        refine XS.i2c X0.here hx rfl (hb hby D9_10) rfl ?_
        show Steps p.tables e below (s₁.setTop (mkF m 11 #[.val (.int ch), .val (.int lo)] [(.int ((lo - (32 : Int32)).toUInt32.toUInt16.toUInt32.toInt32)), (.int ch)])) _
        refine XS.icmpYes X0.here hx rfl (pc0 := 11) (pc' := 18) rfl (hb hby D9_11) rfl (feq hd).2 (by decide) (by decide) ?_
        show Steps p.tables e below (s₁.setTop (mkF m 18 #[.val (.int ch), .val (.int lo)] [])) _
        refine XS.iconst X0.here hx rfl (hb hby D9_18) ?_
        show Steps p.tables e below (s₁.setTop (mkF m 19 #[.val (.int ch), .val (.int lo)] [(.int 0)])) _
        exact retN X0 hx (t := .boolean) Bd.returns (by simp) (hb hby D9_19) hr
      · show Q_own_ci Z ch lo h0 n0 _ s₁.heap _
        rw [e0]
        exact ⟨0, rfl, N0, rfl, fun q => absurd q (not_or.mpr ⟨ha, hd⟩), fun _ => rfl⟩
theorem own_nn (x : Int32) : nar .char (nar .char x) = nar .char x := by simp only [nar, UInt32.toUInt32_toInt32, UInt16.toUInt16_toUInt32]
theorem own_pk1 {lo : Int32} (h : lo ∈ ([104, 116, 112, 115] : List Int32)) : (¬ nar .char lo < 0 ∧ ¬ (255 : Int32) < nar .char lo) ∧ (¬ nar .char ((lo - (32 : Int32)).toUInt32.toUInt16.toUInt32.toInt32) < 0 ∧ ¬ (255 : Int32) < nar .char ((lo - (32 : Int32)).toUInt32.toUInt16.toUInt32.toInt32)) := by
  have t : ∀ a ∈ ([104, 116, 112, 115] : List Int32), (¬ nar .char a < 0 ∧ ¬ (255 : Int32) < nar .char a) ∧ (¬ nar .char ((a - (32 : Int32)).toUInt32.toUInt16.toUInt32.toInt32) < 0 ∧ ¬ (255 : Int32) < nar .char ((a - (32 : Int32)).toUInt32.toUInt16.toUInt32.toInt32)) := by decide +kernel
  exact t lo h
theorem D10_0 : decode method_2_code 0 = .ok (.iload_n 0, 1) := by decide +kernel
theorem D10_1 : decode method_2_code 1 = .ok (.sipush 255, 3) := by decide +kernel
theorem D10_4 : decode method_2_code 4 = .ok (.iand, 1) := by decide +kernel
theorem D10_5 : decode method_2_code 5 = .ok (.istore_n 3, 1) := by decide +kernel
theorem D10_6 : decode method_2_code 6 = .ok (.iload_n 1, 1) := by decide +kernel
theorem D10_7 : decode method_2_code 7 = .ok (.ifCond .eq 19, 3) := by decide +kernel
theorem D10_26 : decode method_2_code 26 = .ok (.iload_n 3, 1) := by decide +kernel
theorem D10_27 : decode method_2_code 27 = .ok (.i2c, 1) := by decide +kernel
theorem D10_28 : decode method_2_code 28 = .ok (.ireturn, 1) := by decide +kernel
theorem D10_10 : decode method_2_code 10 = .ok (.iload_n 3, 1) := by decide +kernel
theorem D10_11 : decode method_2_code 11 = .ok (.iconst 1, 1) := by decide +kernel
theorem D10_12 : decode method_2_code 12 = .ok (.iand, 1) := by decide +kernel
theorem D10_13 : decode method_2_code 13 = .ok (.ifCond .eq 11, 3) := by decide +kernel
theorem D10_24 : decode method_2_code 24 = .ok (.iload_n 2, 1) := by decide +kernel
theorem D10_25 : decode method_2_code 25 = .ok (.ireturn, 1) := by decide +kernel
theorem D10_16 : decode method_2_code 16 = .ok (.iload_n 2, 1) := by decide +kernel
theorem D10_17 : decode method_2_code 17 = .ok (.bipush 32, 2) := by decide +kernel
theorem D10_19 : decode method_2_code 19 = .ok (.isub, 1) := by decide +kernel
theorem D10_20 : decode method_2_code 20 = .ok (.i2c, 1) := by decide +kernel
theorem D10_21 : decode method_2_code 21 = .ok (.goto 4, 3) := by decide +kernel
theorem ef_own_pick (m : MethodId) {raw : Int32} {fl : Int32} {lo : Int32} : entryFrame m #[(.int raw), (.int fl), (.int lo)] 4 = mkF m 0 #[.val (.int raw), .val (.int fl), .val (.int lo), .unset] [] := by first | (simp [entryFrame, mkF, argsToLocals, Value.category]; done) | rfl
def Q_own_pick (Z : State) (raw fl lo : Int32) (h0 : Heap) (n0 : Nat) (v : Option Value) (h : Heap) (L : List Loc) : Prop := ∃ r : Int32, v = some (.int r) ∧ Fr n0 L ∧ h = h0 ∧ ¬ r < 0 ∧ ¬ (255 : Int32) < r
set_option maxRecDepth 65536 in
set_option maxHeartbeats 40000000 in
theorem own_pick (l : Launch) (Z : State) (a0 : Array Value) (hw : ∀ d ∈ tables_1, d.before a0 Z = true) (ws : List Jvm.Cond) (raw fl lo : Int32) (h0 : Heap) (n0 : Nat) (Z0 : n0 ≤ h0.size) (hlo : lo ∈ ([104, 116, 112, 115] : List Int32)) :
    MetFree l (⟨"com/example/deadline/deadline/CallbackSchemeNamedPinLaw", "pick", "(IIC)C"⟩ : MethodName) (head1 (Jvm.Cond.code (⟨"com/example/deadline/deadline/CallbackSchemeNamedPinLaw", "pick", "(IIC)C"⟩ : MethodName) method_2_code 4 (some .char) :: ws) ({ frames := 0, cells := 0, slots := 0, locals := 0 } : Room)) (fun a U => a = #[(.int raw), (.int fl), (.int lo)] ∧ Z.Warmed39 U.vm ∧ U.heap = h0) (fun _ _ _ _ _ => True) (fun _ U o U' => ∃ v L, o = .returned v ∧ Q_own_pick Z raw fl lo h0 n0 v U'.heap L ∧ FrameEnd U o U' L ({ frames := 0, cells := 0, slots := 0, locals := 0 } : Room).cells ({ frames := 0, cells := 0, slots := 0, locals := 0 } : Room).slots) := by
  refine MetFree.of_bodySF (plainFor_of_name pn_com_example_deadline_deadline_CallbackSchemeNamedPinLaw) hisR ?_
  intro p e s m args below meth c s₁ Bd hml0 hP hK
  obtain ⟨rfl, hZ, hh⟩ := hP
  have hx := Bd.exec
  have hby := Bd.bytes
  have hml : c.maxLocals = 4 := hml0
  have hown : s.vm.findClass "com/example/deadline/deadline/CallbackSchemeNamedPinLaw" = some m.cls := findClass_of_methodNamed Bd.named
  have hnm := (name_of_methodNamed Bd.named Bd.method).1
  have X0 : Stand p l e ({ frames := 0, cells := 0, slots := 0, locals := 0 } : Room) s m #[(.int raw), (.int fl), (.int lo)] below meth c s₁ [] 0 0 := Stand.of_body Bd
  have e0 : s₁.heap = h0 := by rw [← hh, Bd.state]; rfl
  have N0 := Fr.nil n0
  have pre0 : ∀ t, Steps p.tables e below (s₁.setTop (mkF m 0 #[.val (.int raw), .val (.int fl), .val (.int lo), .unset] [])) t → Steps p.tables e below (s₁.setTop (entryFrame m #[(.int raw), (.int fl), (.int lo)] 4)) t := fun t k => castTop (ef_own_pick m) k
  by_cases ha : fl = (0 : Int32)
  case pos =>
    obtain ⟨fs, hr, hrun, hended, hW, hsame⟩ := X0.leave (v := some (.int (nar .char ((raw &&& (255 : Int32)).toUInt32.toUInt16.toUInt32.toInt32)))) (fun h => by rw [Bd.returns] at h; cases h)
    refine ⟨_, _, pre0 _ ?_, hrun, hended, _, _, rfl, ?_, ⟨_, rfl⟩, hW, hsame.mono (by decide) (by decide)⟩
    · show Steps p.tables e below (s₁.setTop (mkF m 0 #[.val (.int raw), .val (.int fl), .val (.int lo), .unset] [])) _
      refine XS.iloadN X0.here hx rfl (hb hby D10_0) rfl ?_
      show Steps p.tables e below (s₁.setTop (mkF m 1 #[.val (.int raw), .val (.int fl), .val (.int lo), .unset] [(.int raw)])) _
      refine XS.sipush X0.here hx rfl (hb hby D10_1) ?_
      show Steps p.tables e below (s₁.setTop (mkF m 4 #[.val (.int raw), .val (.int fl), .val (.int lo), .unset] [(.int 255), (.int raw)])) _
      refine XS.iand X0.here hx rfl (hb hby D10_4) rfl ?_
      show Steps p.tables e below (s₁.setTop (mkF m 5 #[.val (.int raw), .val (.int fl), .val (.int lo), .unset] [(.int (raw &&& (255 : Int32)))])) _
      refine XS.istoreN X0.here hx rfl (hb hby D10_5) rfl (l' := #[.val (.int raw), .val (.int fl), .val (.int lo), .val (.int (raw &&& (255 : Int32)))]) rfl ?_
      show Steps p.tables e below (s₁.setTop (mkF m 6 #[.val (.int raw), .val (.int fl), .val (.int lo), .val (.int (raw &&& (255 : Int32)))] [])) _
      refine XS.iloadN X0.here hx rfl (hb hby D10_6) rfl ?_
      show Steps p.tables e below (s₁.setTop (mkF m 7 #[.val (.int raw), .val (.int fl), .val (.int lo), .val (.int (raw &&& (255 : Int32)))] [(.int fl)])) _
      refine XS.ifYes X0.here hx rfl (pc0 := 7) (pc' := 26) rfl (hb hby D10_7) rfl ((if0 _ _).trans (teq ha).1) (by decide) (by decide) ?_
      show Steps p.tables e below (s₁.setTop (mkF m 26 #[.val (.int raw), .val (.int fl), .val (.int lo), .val (.int (raw &&& (255 : Int32)))] [])) _
      refine XS.iloadN X0.here hx rfl (hb hby D10_26) rfl ?_
      show Steps p.tables e below (s₁.setTop (mkF m 27 #[.val (.int raw), .val (.int fl), .val (.int lo), .val (.int (raw &&& (255 : Int32)))] [(.int (raw &&& (255 : Int32)))])) _
      refine XS.i2c X0.here hx rfl (hb hby D10_27) rfl ?_
      show Steps p.tables e below (s₁.setTop (mkF m 28 #[.val (.int raw), .val (.int fl), .val (.int lo), .val (.int (raw &&& (255 : Int32)))] [(.int ((raw &&& (255 : Int32)).toUInt32.toUInt16.toUInt32.toInt32))])) _
      exact retN X0 hx (t := .char) Bd.returns (by simp) (hb hby D10_28) hr
    · show Q_own_pick Z raw fl lo h0 n0 _ s₁.heap _
      rw [e0]
      exact ⟨_, rfl, N0, rfl, own_n8 _⟩
  case neg =>
    by_cases hd : ((raw &&& (255 : Int32)) &&& (1 : Int32)) = (0 : Int32)
    case pos =>
      obtain ⟨fs, hr, hrun, hended, hW, hsame⟩ := X0.leave (v := some (.int (nar .char lo))) (fun h => by rw [Bd.returns] at h; cases h)
      refine ⟨_, _, pre0 _ ?_, hrun, hended, _, _, rfl, ?_, ⟨_, rfl⟩, hW, hsame.mono (by decide) (by decide)⟩
      · show Steps p.tables e below (s₁.setTop (mkF m 0 #[.val (.int raw), .val (.int fl), .val (.int lo), .unset] [])) _
        refine XS.iloadN X0.here hx rfl (hb hby D10_0) rfl ?_
        show Steps p.tables e below (s₁.setTop (mkF m 1 #[.val (.int raw), .val (.int fl), .val (.int lo), .unset] [(.int raw)])) _
        refine XS.sipush X0.here hx rfl (hb hby D10_1) ?_
        show Steps p.tables e below (s₁.setTop (mkF m 4 #[.val (.int raw), .val (.int fl), .val (.int lo), .unset] [(.int 255), (.int raw)])) _
        refine XS.iand X0.here hx rfl (hb hby D10_4) rfl ?_
        show Steps p.tables e below (s₁.setTop (mkF m 5 #[.val (.int raw), .val (.int fl), .val (.int lo), .unset] [(.int (raw &&& (255 : Int32)))])) _
        refine XS.istoreN X0.here hx rfl (hb hby D10_5) rfl (l' := #[.val (.int raw), .val (.int fl), .val (.int lo), .val (.int (raw &&& (255 : Int32)))]) rfl ?_
        show Steps p.tables e below (s₁.setTop (mkF m 6 #[.val (.int raw), .val (.int fl), .val (.int lo), .val (.int (raw &&& (255 : Int32)))] [])) _
        refine XS.iloadN X0.here hx rfl (hb hby D10_6) rfl ?_
        show Steps p.tables e below (s₁.setTop (mkF m 7 #[.val (.int raw), .val (.int fl), .val (.int lo), .val (.int (raw &&& (255 : Int32)))] [(.int fl)])) _
        refine XS.ifNo X0.here hx rfl (hb hby D10_7) rfl ((if0 _ _).trans (feq ha).1) ?_
        show Steps p.tables e below (s₁.setTop (mkF m 10 #[.val (.int raw), .val (.int fl), .val (.int lo), .val (.int (raw &&& (255 : Int32)))] [])) _
        refine XS.iloadN X0.here hx rfl (hb hby D10_10) rfl ?_
        show Steps p.tables e below (s₁.setTop (mkF m 11 #[.val (.int raw), .val (.int fl), .val (.int lo), .val (.int (raw &&& (255 : Int32)))] [(.int (raw &&& (255 : Int32)))])) _
        refine XS.iconst X0.here hx rfl (hb hby D10_11) ?_
        show Steps p.tables e below (s₁.setTop (mkF m 12 #[.val (.int raw), .val (.int fl), .val (.int lo), .val (.int (raw &&& (255 : Int32)))] [(.int 1), (.int (raw &&& (255 : Int32)))])) _
        refine XS.iand X0.here hx rfl (hb hby D10_12) rfl ?_
        show Steps p.tables e below (s₁.setTop (mkF m 13 #[.val (.int raw), .val (.int fl), .val (.int lo), .val (.int (raw &&& (255 : Int32)))] [(.int ((raw &&& (255 : Int32)) &&& (1 : Int32)))])) _
        refine XS.ifYes X0.here hx rfl (pc0 := 13) (pc' := 24) rfl (hb hby D10_13) rfl ((if0 _ _).trans (teq hd).1) (by decide) (by decide) ?_
        show Steps p.tables e below (s₁.setTop (mkF m 24 #[.val (.int raw), .val (.int fl), .val (.int lo), .val (.int (raw &&& (255 : Int32)))] [])) _
        refine XS.iloadN X0.here hx rfl (hb hby D10_24) rfl ?_
        show Steps p.tables e below (s₁.setTop (mkF m 25 #[.val (.int raw), .val (.int fl), .val (.int lo), .val (.int (raw &&& (255 : Int32)))] [(.int lo)])) _
        exact retN X0 hx (t := .char) Bd.returns (by simp) (hb hby D10_25) hr
      · show Q_own_pick Z raw fl lo h0 n0 _ s₁.heap _
        rw [e0]
        exact ⟨_, rfl, N0, rfl, (own_pk1 hlo).1⟩
    case neg =>
      obtain ⟨fs, hr, hrun, hended, hW, hsame⟩ := X0.leave (v := some (.int (nar .char ((lo - (32 : Int32)).toUInt32.toUInt16.toUInt32.toInt32)))) (fun h => by rw [Bd.returns] at h; cases h)
      refine ⟨_, _, pre0 _ ?_, hrun, hended, _, _, rfl, ?_, ⟨_, rfl⟩, hW, hsame.mono (by decide) (by decide)⟩
      · show Steps p.tables e below (s₁.setTop (mkF m 0 #[.val (.int raw), .val (.int fl), .val (.int lo), .unset] [])) _
        refine XS.iloadN X0.here hx rfl (hb hby D10_0) rfl ?_
        show Steps p.tables e below (s₁.setTop (mkF m 1 #[.val (.int raw), .val (.int fl), .val (.int lo), .unset] [(.int raw)])) _
        refine XS.sipush X0.here hx rfl (hb hby D10_1) ?_
        show Steps p.tables e below (s₁.setTop (mkF m 4 #[.val (.int raw), .val (.int fl), .val (.int lo), .unset] [(.int 255), (.int raw)])) _
        refine XS.iand X0.here hx rfl (hb hby D10_4) rfl ?_
        show Steps p.tables e below (s₁.setTop (mkF m 5 #[.val (.int raw), .val (.int fl), .val (.int lo), .unset] [(.int (raw &&& (255 : Int32)))])) _
        refine XS.istoreN X0.here hx rfl (hb hby D10_5) rfl (l' := #[.val (.int raw), .val (.int fl), .val (.int lo), .val (.int (raw &&& (255 : Int32)))]) rfl ?_
        show Steps p.tables e below (s₁.setTop (mkF m 6 #[.val (.int raw), .val (.int fl), .val (.int lo), .val (.int (raw &&& (255 : Int32)))] [])) _
        refine XS.iloadN X0.here hx rfl (hb hby D10_6) rfl ?_
        show Steps p.tables e below (s₁.setTop (mkF m 7 #[.val (.int raw), .val (.int fl), .val (.int lo), .val (.int (raw &&& (255 : Int32)))] [(.int fl)])) _
        refine XS.ifNo X0.here hx rfl (hb hby D10_7) rfl ((if0 _ _).trans (feq ha).1) ?_
        show Steps p.tables e below (s₁.setTop (mkF m 10 #[.val (.int raw), .val (.int fl), .val (.int lo), .val (.int (raw &&& (255 : Int32)))] [])) _
        refine XS.iloadN X0.here hx rfl (hb hby D10_10) rfl ?_
        show Steps p.tables e below (s₁.setTop (mkF m 11 #[.val (.int raw), .val (.int fl), .val (.int lo), .val (.int (raw &&& (255 : Int32)))] [(.int (raw &&& (255 : Int32)))])) _
        refine XS.iconst X0.here hx rfl (hb hby D10_11) ?_
        show Steps p.tables e below (s₁.setTop (mkF m 12 #[.val (.int raw), .val (.int fl), .val (.int lo), .val (.int (raw &&& (255 : Int32)))] [(.int 1), (.int (raw &&& (255 : Int32)))])) _
        refine XS.iand X0.here hx rfl (hb hby D10_12) rfl ?_
        show Steps p.tables e below (s₁.setTop (mkF m 13 #[.val (.int raw), .val (.int fl), .val (.int lo), .val (.int (raw &&& (255 : Int32)))] [(.int ((raw &&& (255 : Int32)) &&& (1 : Int32)))])) _
        refine XS.ifNo X0.here hx rfl (hb hby D10_13) rfl ((if0 _ _).trans (feq hd).1) ?_
        show Steps p.tables e below (s₁.setTop (mkF m 16 #[.val (.int raw), .val (.int fl), .val (.int lo), .val (.int (raw &&& (255 : Int32)))] [])) _
        refine XS.iloadN X0.here hx rfl (hb hby D10_16) rfl ?_
        show Steps p.tables e below (s₁.setTop (mkF m 17 #[.val (.int raw), .val (.int fl), .val (.int lo), .val (.int (raw &&& (255 : Int32)))] [(.int lo)])) _
        refine XS.bipush X0.here hx rfl (hb hby D10_17) ?_
        show Steps p.tables e below (s₁.setTop (mkF m 19 #[.val (.int raw), .val (.int fl), .val (.int lo), .val (.int (raw &&& (255 : Int32)))] [(.int 32), (.int lo)])) _
        refine XS.isub X0.here hx rfl (hb hby D10_19) rfl ?_
        show Steps p.tables e below (s₁.setTop (mkF m 20 #[.val (.int raw), .val (.int fl), .val (.int lo), .val (.int (raw &&& (255 : Int32)))] [(.int (lo - (32 : Int32)))])) _
        refine XS.i2c X0.here hx rfl (hb hby D10_20) rfl ?_
        show Steps p.tables e below (s₁.setTop (mkF m 21 #[.val (.int raw), .val (.int fl), .val (.int lo), .val (.int (raw &&& (255 : Int32)))] [(.int ((lo - (32 : Int32)).toUInt32.toUInt16.toUInt32.toInt32))])) _
        refine XS.goto X0.here hx rfl (pc0 := 21) (pc' := 25) rfl (hb hby D10_21) (by decide) (by decide) ?_
        show Steps p.tables e below (s₁.setTop (mkF m 25 #[.val (.int raw), .val (.int fl), .val (.int lo), .val (.int (raw &&& (255 : Int32)))] [(.int ((lo - (32 : Int32)).toUInt32.toUInt16.toUInt32.toInt32))])) _
        exact retN X0 hx (t := .char) Bd.returns (by simp) (hb hby D10_25) hr
      · show Q_own_pick Z raw fl lo h0 n0 _ s₁.heap _
        rw [e0]
        exact ⟨_, rfl, N0, rfl, (own_pk1 hlo).2⟩
theorem D11_0 : decode method_3_code 0 = .ok (.iload_n 0, 1) := by decide +kernel
theorem own_nc {x : Int32} (h : ¬ x < 0 ∧ ¬ (255 : Int32) < x) : ¬ nar .char x < 0 ∧ ¬ (255 : Int32) < nar .char x := by
  have q := c_i2c x
  have k1 : (255 : Int32).toInt = 255 := by decide
  have k0 : (0 : Int32).toInt = 0 := by decide
  obtain ⟨h1, h2⟩ := h
  rw [Int32.lt_iff_toInt_lt] at h1 h2
  rw [Int32.lt_iff_toInt_lt, Int32.lt_iff_toInt_lt]
  show ¬ (x.toUInt32.toUInt16.toUInt32.toInt32).toInt < _ ∧ ¬ _ < (x.toUInt32.toUInt16.toUInt32.toInt32).toInt
  omega
theorem D11_1 : decode method_3_code 1 = .ok (.ifCond .ne 14, 3) := by decide +kernel
theorem D11_4 : decode method_3_code 4 = .ok (.new 7, 3) := by decide +kernel
theorem D11_7 : decode method_3_code 7 = .ok (.dup, 1) := by decide +kernel
theorem D11_8 : decode method_3_code 8 = .ok (.iconst 0, 1) := by decide +kernel
theorem D11_9 : decode method_3_code 9 = .ok (.newarray .char, 2) := by decide +kernel
theorem pd___C_V : parseMethodDescriptor "([C)V" = some ⟨[(.array .char)], none⟩ := by decide +kernel
theorem D11_11 : decode method_3_code 11 = .ok (.invokespecial 9, 3) := by decide +kernel
theorem D11_14 : decode method_3_code 14 = .ok (.areturn, 1) := by decide +kernel
theorem D11_15 : decode method_3_code 15 = .ok (.iload_n 0, 1) := by decide +kernel
theorem D11_16 : decode method_3_code 16 = .ok (.iconst 1, 1) := by decide +kernel
theorem D11_17 : decode method_3_code 17 = .ok (.if_icmp .ne 8, 3) := by decide +kernel
theorem D11_20 : decode method_3_code 20 = .ok (.iload_n 1, 1) := by decide +kernel
theorem pd__C_Ljava_lang_String_ : parseMethodDescriptor "(C)Ljava/lang/String;" = some ⟨[.char], some (.object "java/lang/String")⟩ := by decide +kernel
theorem D11_21 : decode method_3_code 21 = .ok (.invokestatic 12, 3) := by decide +kernel
theorem D11_24 : decode method_3_code 24 = .ok (.areturn, 1) := by decide +kernel
theorem D11_25 : decode method_3_code 25 = .ok (.iload_n 0, 1) := by decide +kernel
theorem D11_26 : decode method_3_code 26 = .ok (.iconst 2, 1) := by decide +kernel
theorem D11_27 : decode method_3_code 27 = .ok (.if_icmp .ne 22, 3) := by decide +kernel
theorem D11_30 : decode method_3_code 30 = .ok (.new 7, 3) := by decide +kernel
theorem D11_33 : decode method_3_code 33 = .ok (.dup, 1) := by decide +kernel
theorem D11_34 : decode method_3_code 34 = .ok (.iconst 2, 1) := by decide +kernel
theorem D11_35 : decode method_3_code 35 = .ok (.newarray .char, 2) := by decide +kernel
theorem D11_37 : decode method_3_code 37 = .ok (.dup, 1) := by decide +kernel
theorem D11_38 : decode method_3_code 38 = .ok (.iconst 0, 1) := by decide +kernel
theorem D11_39 : decode method_3_code 39 = .ok (.iload_n 1, 1) := by decide +kernel
theorem D11_40 : decode method_3_code 40 = .ok (.castore, 1) := by decide +kernel
theorem D11_41 : decode method_3_code 41 = .ok (.dup, 1) := by decide +kernel
theorem D11_42 : decode method_3_code 42 = .ok (.iconst 1, 1) := by decide +kernel
theorem D11_43 : decode method_3_code 43 = .ok (.iload_n 2, 1) := by decide +kernel
theorem D11_44 : decode method_3_code 44 = .ok (.castore, 1) := by decide +kernel
theorem D11_45 : decode method_3_code 45 = .ok (.invokespecial 9, 3) := by decide +kernel
theorem D11_48 : decode method_3_code 48 = .ok (.areturn, 1) := by decide +kernel
theorem D11_49 : decode method_3_code 49 = .ok (.iload_n 0, 1) := by decide +kernel
theorem D11_50 : decode method_3_code 50 = .ok (.iconst 3, 1) := by decide +kernel
theorem D11_51 : decode method_3_code 51 = .ok (.if_icmp .ne 26, 3) := by decide +kernel
theorem D11_54 : decode method_3_code 54 = .ok (.new 7, 3) := by decide +kernel
theorem D11_57 : decode method_3_code 57 = .ok (.dup, 1) := by decide +kernel
theorem D11_58 : decode method_3_code 58 = .ok (.iconst 3, 1) := by decide +kernel
theorem D11_59 : decode method_3_code 59 = .ok (.newarray .char, 2) := by decide +kernel
theorem D11_61 : decode method_3_code 61 = .ok (.dup, 1) := by decide +kernel
theorem D11_62 : decode method_3_code 62 = .ok (.iconst 0, 1) := by decide +kernel
theorem D11_63 : decode method_3_code 63 = .ok (.iload_n 1, 1) := by decide +kernel
theorem D11_64 : decode method_3_code 64 = .ok (.castore, 1) := by decide +kernel
theorem D11_65 : decode method_3_code 65 = .ok (.dup, 1) := by decide +kernel
theorem D11_66 : decode method_3_code 66 = .ok (.iconst 1, 1) := by decide +kernel
theorem D11_67 : decode method_3_code 67 = .ok (.iload_n 2, 1) := by decide +kernel
theorem D11_68 : decode method_3_code 68 = .ok (.castore, 1) := by decide +kernel
theorem D11_69 : decode method_3_code 69 = .ok (.dup, 1) := by decide +kernel
theorem D11_70 : decode method_3_code 70 = .ok (.iconst 2, 1) := by decide +kernel
theorem D11_71 : decode method_3_code 71 = .ok (.iload_n 3, 1) := by decide +kernel
theorem D11_72 : decode method_3_code 72 = .ok (.castore, 1) := by decide +kernel
theorem D11_73 : decode method_3_code 73 = .ok (.invokespecial 9, 3) := by decide +kernel
theorem D11_76 : decode method_3_code 76 = .ok (.areturn, 1) := by decide +kernel
theorem D11_77 : decode method_3_code 77 = .ok (.iload_n 0, 1) := by decide +kernel
theorem D11_78 : decode method_3_code 78 = .ok (.iconst 4, 1) := by decide +kernel
theorem D11_79 : decode method_3_code 79 = .ok (.if_icmp .ne 31, 3) := by decide +kernel
theorem D11_82 : decode method_3_code 82 = .ok (.new 7, 3) := by decide +kernel
theorem D11_85 : decode method_3_code 85 = .ok (.dup, 1) := by decide +kernel
theorem D11_86 : decode method_3_code 86 = .ok (.iconst 4, 1) := by decide +kernel
theorem D11_87 : decode method_3_code 87 = .ok (.newarray .char, 2) := by decide +kernel
theorem D11_89 : decode method_3_code 89 = .ok (.dup, 1) := by decide +kernel
theorem D11_90 : decode method_3_code 90 = .ok (.iconst 0, 1) := by decide +kernel
theorem D11_91 : decode method_3_code 91 = .ok (.iload_n 1, 1) := by decide +kernel
theorem D11_92 : decode method_3_code 92 = .ok (.castore, 1) := by decide +kernel
theorem D11_93 : decode method_3_code 93 = .ok (.dup, 1) := by decide +kernel
theorem D11_94 : decode method_3_code 94 = .ok (.iconst 1, 1) := by decide +kernel
theorem D11_95 : decode method_3_code 95 = .ok (.iload_n 2, 1) := by decide +kernel
theorem D11_96 : decode method_3_code 96 = .ok (.castore, 1) := by decide +kernel
theorem D11_97 : decode method_3_code 97 = .ok (.dup, 1) := by decide +kernel
theorem D11_98 : decode method_3_code 98 = .ok (.iconst 2, 1) := by decide +kernel
theorem D11_99 : decode method_3_code 99 = .ok (.iload_n 3, 1) := by decide +kernel
theorem D11_100 : decode method_3_code 100 = .ok (.castore, 1) := by decide +kernel
theorem D11_101 : decode method_3_code 101 = .ok (.dup, 1) := by decide +kernel
theorem D11_102 : decode method_3_code 102 = .ok (.iconst 3, 1) := by decide +kernel
theorem D11_103 : decode method_3_code 103 = .ok (.iload 4, 2) := by decide +kernel
theorem D11_105 : decode method_3_code 105 = .ok (.castore, 1) := by decide +kernel
theorem D11_106 : decode method_3_code 106 = .ok (.invokespecial 9, 3) := by decide +kernel
theorem D11_109 : decode method_3_code 109 = .ok (.areturn, 1) := by decide +kernel
theorem D11_110 : decode method_3_code 110 = .ok (.iload_n 0, 1) := by decide +kernel
theorem D11_111 : decode method_3_code 111 = .ok (.iconst 5, 1) := by decide +kernel
theorem D11_112 : decode method_3_code 112 = .ok (.if_icmp .ne 36, 3) := by decide +kernel
theorem D11_115 : decode method_3_code 115 = .ok (.new 7, 3) := by decide +kernel
theorem D11_118 : decode method_3_code 118 = .ok (.dup, 1) := by decide +kernel
theorem D11_119 : decode method_3_code 119 = .ok (.iconst 5, 1) := by decide +kernel
theorem D11_120 : decode method_3_code 120 = .ok (.newarray .char, 2) := by decide +kernel
theorem D11_122 : decode method_3_code 122 = .ok (.dup, 1) := by decide +kernel
theorem D11_123 : decode method_3_code 123 = .ok (.iconst 0, 1) := by decide +kernel
theorem D11_124 : decode method_3_code 124 = .ok (.iload_n 1, 1) := by decide +kernel
theorem D11_125 : decode method_3_code 125 = .ok (.castore, 1) := by decide +kernel
theorem D11_126 : decode method_3_code 126 = .ok (.dup, 1) := by decide +kernel
theorem D11_127 : decode method_3_code 127 = .ok (.iconst 1, 1) := by decide +kernel
theorem D11_128 : decode method_3_code 128 = .ok (.iload_n 2, 1) := by decide +kernel
theorem D11_129 : decode method_3_code 129 = .ok (.castore, 1) := by decide +kernel
theorem D11_130 : decode method_3_code 130 = .ok (.dup, 1) := by decide +kernel
theorem D11_131 : decode method_3_code 131 = .ok (.iconst 2, 1) := by decide +kernel
theorem D11_132 : decode method_3_code 132 = .ok (.iload_n 3, 1) := by decide +kernel
theorem D11_133 : decode method_3_code 133 = .ok (.castore, 1) := by decide +kernel
theorem D11_134 : decode method_3_code 134 = .ok (.dup, 1) := by decide +kernel
theorem D11_135 : decode method_3_code 135 = .ok (.iconst 3, 1) := by decide +kernel
theorem D11_136 : decode method_3_code 136 = .ok (.iload 4, 2) := by decide +kernel
theorem D11_138 : decode method_3_code 138 = .ok (.castore, 1) := by decide +kernel
theorem D11_139 : decode method_3_code 139 = .ok (.dup, 1) := by decide +kernel
theorem D11_140 : decode method_3_code 140 = .ok (.iconst 4, 1) := by decide +kernel
theorem D11_141 : decode method_3_code 141 = .ok (.iload 5, 2) := by decide +kernel
theorem D11_143 : decode method_3_code 143 = .ok (.castore, 1) := by decide +kernel
theorem D11_144 : decode method_3_code 144 = .ok (.invokespecial 9, 3) := by decide +kernel
theorem D11_147 : decode method_3_code 147 = .ok (.areturn, 1) := by decide +kernel
theorem D11_148 : decode method_3_code 148 = .ok (.iload_n 0, 1) := by decide +kernel
theorem D11_149 : decode method_3_code 149 = .ok (.bipush 6, 2) := by decide +kernel
theorem D11_151 : decode method_3_code 151 = .ok (.if_icmp .ne 42, 3) := by decide +kernel
theorem D11_154 : decode method_3_code 154 = .ok (.new 7, 3) := by decide +kernel
theorem D11_157 : decode method_3_code 157 = .ok (.dup, 1) := by decide +kernel
theorem D11_158 : decode method_3_code 158 = .ok (.bipush 6, 2) := by decide +kernel
theorem D11_160 : decode method_3_code 160 = .ok (.newarray .char, 2) := by decide +kernel
theorem D11_162 : decode method_3_code 162 = .ok (.dup, 1) := by decide +kernel
theorem D11_163 : decode method_3_code 163 = .ok (.iconst 0, 1) := by decide +kernel
theorem D11_164 : decode method_3_code 164 = .ok (.iload_n 1, 1) := by decide +kernel
theorem D11_165 : decode method_3_code 165 = .ok (.castore, 1) := by decide +kernel
theorem D11_166 : decode method_3_code 166 = .ok (.dup, 1) := by decide +kernel
theorem D11_167 : decode method_3_code 167 = .ok (.iconst 1, 1) := by decide +kernel
theorem D11_168 : decode method_3_code 168 = .ok (.iload_n 2, 1) := by decide +kernel
theorem D11_169 : decode method_3_code 169 = .ok (.castore, 1) := by decide +kernel
theorem D11_170 : decode method_3_code 170 = .ok (.dup, 1) := by decide +kernel
theorem D11_171 : decode method_3_code 171 = .ok (.iconst 2, 1) := by decide +kernel
theorem D11_172 : decode method_3_code 172 = .ok (.iload_n 3, 1) := by decide +kernel
theorem D11_173 : decode method_3_code 173 = .ok (.castore, 1) := by decide +kernel
theorem D11_174 : decode method_3_code 174 = .ok (.dup, 1) := by decide +kernel
theorem D11_175 : decode method_3_code 175 = .ok (.iconst 3, 1) := by decide +kernel
theorem D11_176 : decode method_3_code 176 = .ok (.iload 4, 2) := by decide +kernel
theorem D11_178 : decode method_3_code 178 = .ok (.castore, 1) := by decide +kernel
theorem D11_179 : decode method_3_code 179 = .ok (.dup, 1) := by decide +kernel
theorem D11_180 : decode method_3_code 180 = .ok (.iconst 4, 1) := by decide +kernel
theorem D11_181 : decode method_3_code 181 = .ok (.iload 5, 2) := by decide +kernel
theorem D11_183 : decode method_3_code 183 = .ok (.castore, 1) := by decide +kernel
theorem D11_184 : decode method_3_code 184 = .ok (.dup, 1) := by decide +kernel
theorem D11_185 : decode method_3_code 185 = .ok (.iconst 5, 1) := by decide +kernel
theorem D11_186 : decode method_3_code 186 = .ok (.iload 6, 2) := by decide +kernel
theorem D11_188 : decode method_3_code 188 = .ok (.castore, 1) := by decide +kernel
theorem D11_189 : decode method_3_code 189 = .ok (.invokespecial 9, 3) := by decide +kernel
theorem D11_192 : decode method_3_code 192 = .ok (.areturn, 1) := by decide +kernel
theorem D11_193 : decode method_3_code 193 = .ok (.aconst_null, 1) := by decide +kernel
theorem D11_194 : decode method_3_code 194 = .ok (.areturn, 1) := by decide +kernel
theorem ef_own_make (m : MethodId) {nn : Int32} {d0 : Int32} {d1 : Int32} {d2 : Int32} {d3 : Int32} {d4 : Int32} {d5 : Int32} : entryFrame m #[(.int nn), (.int d0), (.int d1), (.int d2), (.int d3), (.int d4), (.int d5)] 7 = mkF m 0 #[.val (.int nn), .val (.int d0), .val (.int d1), .val (.int d2), .val (.int d3), .val (.int d4), .val (.int d5)] [] := by first | (simp [entryFrame, mkF, argsToLocals, Value.category]; done) | rfl
def Q_own_make (Z : State) (nn d0 d1 d2 d3 d4 d5 G1 : Int32) (h0 : Heap) (n0 : Nat) (v : Option Value) (h : Heap) (L : List Loc) : Prop := ∃ u : Value, v = some u ∧ Fr n0 L ∧ Keep h0 h [] ∧ (u = .null ∨ ∃ (r b : Addr) (k : ClassId) (cs : List Int32), u = .ref r ∧ h0.size ≤ r ∧ Exa Z h r "java/lang/String" ∧ Fld Z h r "java/lang/String" "value" "[B" (.ref b) ∧ Fld Z h r "java/lang/String" "coder" "B" (.int 0) ∧ Arv Z h b k .byte (Int32.ofNat cs.length) (own_B cs) (.int 0) ∧ cs.length ≤ 6 ∧ own_Lt cs)
set_option maxRecDepth 65536 in
set_option maxHeartbeats 40000000 in
theorem own_make (l : Launch) (Z : State) (a0 : Array Value) (hw : ∀ d ∈ tables_1, d.before a0 Z = true) (ws : List Jvm.Cond) (nn d0 d1 d2 d3 d4 d5 G1 : Int32) (h0 : Heap) (n0 : Nat) (Z0 : n0 ≤ h0.size) (hd0 : ¬ d0 < 0 ∧ ¬ (255 : Int32) < d0) (hd1 : ¬ d1 < 0 ∧ ¬ (255 : Int32) < d1) (hd2 : ¬ d2 < 0 ∧ ¬ (255 : Int32) < d2) (hd3 : ¬ d3 < 0 ∧ ¬ (255 : Int32) < d3) (hd4 : ¬ d4 < 0 ∧ ¬ (255 : Int32) < d4) (hd5 : ¬ d5 < 0 ∧ ¬ (255 : Int32) < d5) (O2 : Sta Z Z.heap "java/lang/String" "COMPACT_STRINGS" "Z" (.int G1)) (P5 : ¬ G1 = (0 : Int32)) (XO : Old Z n0 h0) :
    MetFree l (⟨"com/example/deadline/deadline/CallbackSchemeNamedPinLaw", "make", "(ICCCCCC)Ljava/lang/String;"⟩ : MethodName) (head1 (Jvm.Cond.code (⟨"com/example/deadline/deadline/CallbackSchemeNamedPinLaw", "make", "(ICCCCCC)Ljava/lang/String;"⟩ : MethodName) method_3_code 7 (some (.object "java/lang/String")) :: ws) ({ frames := 4, cells := 6, slots := 16, locals := 66 } : Room)) (fun a U => a = #[(.int nn), (.int d0), (.int d1), (.int d2), (.int d3), (.int d4), (.int d5)] ∧ Z.Warmed39 U.vm ∧ U.heap = h0 ∧ CHv Z own_EL U.vm h0) (fun _ _ _ _ _ => True) (fun _ U o U' => ∃ v L, o = .returned v ∧ Q_own_make Z nn d0 d1 d2 d3 d4 d5 G1 h0 n0 v U'.heap L ∧ CHr Z own_EL U.vm U.heap U'.vm U'.heap ∧ ReturnedEndW U o U' L ({ frames := 4, cells := 6, slots := 16, locals := 66 } : Room).cells ({ frames := 4, cells := 6, slots := 16, locals := 66 } : Room).slots) := by
  refine MetFree.of_bodySF (plainFor_of_name pn_com_example_deadline_deadline_CallbackSchemeNamedPinLaw) hisR ?_
  intro p e s m args below meth c s₁ Bd hml0 hP hK
  obtain ⟨rfl, hZ, hh, hC0⟩ := hP
  have hx := Bd.exec
  have hby := Bd.bytes
  have hml : c.maxLocals = 7 := hml0
  have hown : s.vm.findClass "com/example/deadline/deadline/CallbackSchemeNamedPinLaw" = some m.cls := findClass_of_methodNamed Bd.named
  have hnm := (name_of_methodNamed Bd.named Bd.method).1
  have X0 : Stand p l e ({ frames := 4, cells := 6, slots := 16, locals := 66 } : Room) (s.setVm s.vm) m #[(.int nn), (.int d0), (.int d1), (.int d2), (.int d3), (.int d4), (.int d5)] below meth c s₁ [] 0 0 := Stand.of_body Bd
  have e0 : s₁.heap = h0 := by rw [← hh, Bd.state]; rfl
  have N0 := Fr.nil n0
  have pre0 : ∀ t, Steps p.tables e below (s₁.setTop (mkF m 0 #[.val (.int nn), .val (.int d0), .val (.int d1), .val (.int d2), .val (.int d3), .val (.int d4), .val (.int d5)] [])) t → Steps p.tables e below (s₁.setTop (entryFrame m #[(.int nn), (.int d0), (.int d1), (.int d2), (.int d3), (.int d4), (.int d5)] 7)) t := fun t k => castTop (ef_own_make m) k
  have hown : (s.setVm s.vm).vm.findClass "com/example/deadline/deadline/CallbackSchemeNamedPinLaw" = some m.cls := hown
  have hZ : Z.Warmed39 (s.setVm s.vm).vm := hZ
  have hS0 : s.Since s.vm 0 := (State.WarmedH.refl s).since 0
  have hk0 : 0 ≤ h0.size := Nat.zero_le _
  have CR0 := CHr.refl hC0
  have wS := own_wS hw
  have hEL := own_hEL hw
  have hws : ∀ d ∈ StrChars.Road.words, d.before a0 Z = true := fun d hd => hw d ((by decide +kernel : ∀ d ∈ StrChars.Road.words, d ∈ tables_1) d hd)
  by_cases hn0 : nn = (0 : Int32)
  case pos =>
    obtain ⟨fb1, g1⟩ : ∃ z, z = h0.size := ⟨_, rfl⟩
    have lo_fb1 : n0 ≤ fb1 := Nat.le_trans Z0 (Nat.le_of_eq g1.symm)
    have hi_fb1 : h0.size ≤ fb1 := Nat.le_trans (Keep.refl h0 []).1 (Nat.le_of_eq g1.symm)
    have sf2_fb1 : Safe Z own_EL _ _ fb1 := Safe.new (h := h0) (vm := s.vm) (Nat.le_of_eq g1.symm)
    obtain ⟨T1, h1, X1, e1, E1, A1, D1, B1, st1⟩ := newO X0 hx hZ hown (gw hw 73 rfl) (gw hw 18 rfl) (gw hw 10 rfl) e0 (g := (mkF m 4 #[.val (.int nn), .val (.int d0), .val (.int d1), .val (.int d2), .val (.int d3), .val (.int d4), .val (.int d5)] [])) rfl (hb hby D11_4) (by decide) (by decide)
    rw [← g1] at A1 D1 B1 st1
    have O1 := Obj.of A1 B1
    have CR3 := CHr.trans CR0 (CHr.ext E1 CR0.1)
    have sf3_fb1 := (Safe.ext E1 CR0.1 sf2_fb1)
    have F1_value : Fld Z h1 fb1 "java/lang/String" "value" "[B" .null := D1 (Or.inr (gw hw 31 rfl)) (ty := (.array .byte)) (by decide)
    have F1_coder : Fld Z h1 fb1 "java/lang/String" "coder" "B" (.int 0) := D1 (Or.inr (gw hw 33 rfl)) (ty := .byte) (by decide)
    have pre4 : ∀ t, Steps p.tables e below (T1.setTop (mkF m 7 #[.val (.int nn), .val (.int d0), .val (.int d1), .val (.int d2), .val (.int d3), .val (.int d4), .val (.int d5)] [(.ref fb1)])) t → Steps p.tables e below (s₁.setTop (entryFrame m #[(.int nn), (.int d0), (.int d1), (.int d2), (.int d3), (.int d4), (.int d5)] 7)) t := by
      intro t kk
      refine pre0 t ?_
      show Steps p.tables e below (s₁.setTop (mkF m 0 #[.val (.int nn), .val (.int d0), .val (.int d1), .val (.int d2), .val (.int d3), .val (.int d4), .val (.int d5)] [])) _
      refine XS.iloadN X0.here hx rfl (hb hby D11_0) rfl ?_
      show Steps p.tables e below (s₁.setTop (mkF m 1 #[.val (.int nn), .val (.int d0), .val (.int d1), .val (.int d2), .val (.int d3), .val (.int d4), .val (.int d5)] [(.int nn)])) _
      refine XS.ifNo X0.here hx rfl (hb hby D11_1) rfl ((if0 _ _).trans (teq hn0).2) ?_
      show Steps p.tables e below (s₁.setTop (mkF m 4 #[.val (.int nn), .val (.int d0), .val (.int d1), .val (.int d2), .val (.int d3), .val (.int d4), .val (.int d5)] [])) _
      exact st1 _ kk
    obtain ⟨fb5, g5⟩ : ∃ z, z = h1.size := ⟨_, rfl⟩
    have ne_fb1_fb5 : fb1 ≠ fb5 := Nat.ne_of_lt (Nat.lt_of_lt_of_le O1.lt (Nat.le_of_eq g5.symm))
    have fc6 := (Nat.le_trans Z0 E1.1)
    have lo_fb5 : n0 ≤ fb5 := Nat.le_trans fc6 (Nat.le_of_eq g5.symm)
    have fc7 := ((Keep.refl h0 []).ext E1)
    have hi_fb5 : h0.size ≤ fb5 := Nat.le_trans fc7.1 (Nat.le_of_eq g5.symm)
    obtain ⟨T5, h5, k5, X5, e5, E5, A5, st5⟩ := newP X1 hx hZ (gw hw 74 rfl) e1 (g := (mkF m 9 #[.val (.int nn), .val (.int d0), .val (.int d1), .val (.int d2), .val (.int d3), .val (.int d4), .val (.int d5)] [(.int 0), (.ref fb1), (.ref fb1)])) rfl (hb hby D11_9) rfl (by decide) (cap := 0) (by decide) (by decide) (by decide) (by decide)
    rw [← g5] at A5 st5
    have V5 : Arv Z h5 fb5 k5 .char (0 : Int32) [] (.int 0) := (Arv.new A5 (by decide)).pad (pad_rep [] (.int 0) 0)
    have CR8 := CHr.trans CR3 (CHr.ext E5 CR3.1)
    have sf8_fb1 := (Safe.ext E5 CR3.1 sf3_fb1)
    have pre9 : ∀ t, Steps p.tables e below (T5.setTop (mkF m 11 #[.val (.int nn), .val (.int d0), .val (.int d1), .val (.int d2), .val (.int d3), .val (.int d4), .val (.int d5)] [(.ref fb5), (.ref fb1), (.ref fb1)])) t → Steps p.tables e below (s₁.setTop (entryFrame m #[(.int nn), (.int d0), (.int d1), (.int d2), (.int d3), (.int d4), (.int d5)] 7)) t := by
      intro t kk
      refine pre4 t ?_
      show Steps p.tables e below (T1.setTop (mkF m 7 #[.val (.int nn), .val (.int d0), .val (.int d1), .val (.int d2), .val (.int d3), .val (.int d4), .val (.int d5)] [(.ref fb1)])) _
      refine XS.dup X1.here hx rfl (hb hby D11_7) rfl rfl ?_
      show Steps p.tables e below (T1.setTop (mkF m 8 #[.val (.int nn), .val (.int d0), .val (.int d1), .val (.int d2), .val (.int d3), .val (.int d4), .val (.int d5)] [(.ref fb1), (.ref fb1)])) _
      refine XS.iconst X1.here hx rfl (hb hby D11_8) ?_
      show Steps p.tables e below (T1.setTop (mkF m 9 #[.val (.int nn), .val (.int d0), .val (.int d1), .val (.int d2), .val (.int d3), .val (.int d4), .val (.int d5)] [(.int 0), (.ref fb1), (.ref fb1)])) _
      exact st5 _ kk
    have fc10 := (O1.ext E5)
    have fc11 := (F1_value.ext E5)
    have fc13 := (Nat.le_trans fc6 E5.1)
    obtain ⟨_, _, ⟨T12, L12, k12, n12⟩, -, X12w, hS12w, gr12, ⟨Lc12, hQ12, l12, y12, z12, CQ12⟩, st12⟩ := X5.specialBackS hx (y := (⟨"java/lang/String", "<init>", "([C)V"⟩ : MethodName)) rfl hown (mvT hZ (gw hw 75 rfl)) (mvT hZ (gw hw 76 rfl)) (mvT hZ (gw hw 77 rfl)) (by decide) (backOfSH (W := 1) (own_sc0 l Z a0 hw [] fb1 fb5 k5 h5 n0 fc13 fc10 lo_fb1 fc11 V5) hZ (gw hw 77 rfl) (gw hw 10 rfl) (by decide) (by decide) hEL CR8.1) (g := (mkF m 11 #[.val (.int nn), .val (.int d0), .val (.int d1), .val (.int d2), .val (.int d3), .val (.int d4), .val (.int d5)] [(.ref fb5), (.ref fb1), (.ref fb1)])) rfl (by rw [hml]; rfl) (Steps.refl _) (a := fb1) (argsL := [(.ref fb5)]) (rest := [(.ref fb1)]) (lenOf pd___C_V rfl) rfl (by show 2 * 0 + _ ≤ _; exact Nat.le_of_eq rfl) (hb hby D11_11) (fun _ _ => ⟨rfl, e5, (by decide : 2 + 4 ≤ _), (by decide : 4 + 8 ≤ _)⟩)
    dsimp only [Pt.U, Pt.locs, Pt.cells, Pt.slots] at X12w hS12w gr12 l12 y12 z12 st12 hQ12 CQ12
    subst l12 y12 z12
    obtain ⟨bb12, kb12, rfl, N12q, K12, q12a, q12b, q12c, q12d⟩ := hQ12
    have N12 := Fr.app N0 N12q
    have fc14 := (Nat.le_trans (Nat.le_trans hk0 E1.1) E5.1)
    obtain ⟨X12, hS12, hZ, hown⟩ := rebS hS0 (by rw [e5]; exact fc14) X12w hS12w gr12 hZ hown
    have hk12 : T12.heap.size ≤ T12.heap.size := Nat.le_refl _
    have sf12_fb1 := CQ12.safe fc10.lt sf8_fb1
    have CR12 := CHr.trans CR8 CQ12
    have pre15 : ∀ t, Steps p.tables e below (T12.setTop (mkF m 14 #[.val (.int nn), .val (.int d0), .val (.int d1), .val (.int d2), .val (.int d3), .val (.int d4), .val (.int d5)] [(.ref fb1)])) t → Steps p.tables e below (s₁.setTop (entryFrame m #[(.int nn), (.int d0), (.int d1), (.int d2), (.int d3), (.int d4), (.int d5)] 7)) t := by
      intro t kk
      refine pre9 t ?_
      show Steps p.tables e below (T5.setTop (mkF m 11 #[.val (.int nn), .val (.int d0), .val (.int d1), .val (.int d2), .val (.int d3), .val (.int d4), .val (.int d5)] [(.ref fb5), (.ref fb1), (.ref fb1)])) _
      exact st12.trans kk
    have fc16 := ((fc7.ext E5).trans K12 (allS (Or.inr hi_fb1) all0))
    have fc17 := (fc10.keep K12)
    obtain ⟨fs, hr, hrun, hended, hRW⟩ := X12.leaveW hS12 hk12 (v := some (.ref fb1)) (fun h => by rw [Bd.returns] at h; cases h)
    have CRe := CHr.trans CR12 (CHv.at X12 hZ hEL CR12.1)
    refine ⟨_, _, pre15 _ ?_, hrun, hended, _, _, rfl, ?_, ?_, hRW.1, hRW.2.1, hRW.2.2.1, hRW.2.2.2.mono (by decide) (by decide)⟩
    · show Steps p.tables e below (T12.setTop (mkF m 14 #[.val (.int nn), .val (.int d0), .val (.int d1), .val (.int d2), .val (.int d3), .val (.int d4), .val (.int d5)] [(.ref fb1)])) _
      jvm_step X12.here [X12.here.top, hx, (hb hby D11_14), X12.method', Bd.returns, Value.isRef, FieldType.isReference]
      first | (intro acts; rw [hr _ acts rfl rfl rfl]) | rw [hr _ _ rfl rfl rfl]
      exact Steps.refl _
    · show Q_own_make Z nn d0 d1 d2 d3 d4 d5 G1 h0 n0 _ T12.heap _
      exact ⟨_, rfl, N12, fc16, Or.inr ⟨fb1, bb12, kb12, [], rfl, hi_fb1, fc17.exa, q12a, q12b, q12c, by decide, own_p0⟩⟩
    · show CHr Z own_EL s.vm s.heap T12.vm T12.heap
      rw [hh]
      exact CRe
  case neg =>
    by_cases hn1 : nn = (1 : Int32)
    case pos =>
      obtain ⟨_, _, ⟨T18, L18, k18, n18⟩, -, X18, ⟨Lc18, hQ18, l18, y18, z18⟩, st18⟩ := Jvm.LawKit.callS X0 hx (y := (⟨"java/lang/String", "valueOf", "(C)Ljava/lang/String;"⟩ : MethodName)) hown (mvT hZ (gw hw 8 rfl)) (mvT hZ (gw hw 9 rfl)) (mvT hZ (gw hw 10 rfl)) (mvT hZ (gw hw 11 rfl)) (by decide) (backOf (W := 0) (own_vo l Z a0 hw [] d0 G1 h0 n0 Z0 hd0.2 O2 P5 XO) hZ (gw hw 11 rfl) (gw hw 10 rfl) (by decide) (by decide)) (g := (mkF m 21 #[.val (.int nn), .val (.int d0), .val (.int d1), .val (.int d2), .val (.int d3), .val (.int d4), .val (.int d5)] [(.int d0)])) rfl (by rw [hml]; rfl) (argsL := [(.int d0)]) (rest := []) (lenOf pd__C_Ljava_lang_String_ rfl) rfl (by show 2 * 0 + _ ≤ _; exact Nat.le_of_eq rfl) (hb hby D11_21) (fun _ _ => ⟨rfl, e0, (by decide : 0 + 2 ≤ _), (by decide : 0 + 5 ≤ _)⟩)
      dsimp only [Pt.U, Pt.locs, Pt.cells, Pt.slots] at X18 l18 y18 z18 st18 hQ18
      subst l18 y18 z18
      obtain ⟨r18, b18, kb18, rfl, N18q, K18, q18a, q18b, q18c, q18d, q18e, q18f⟩ := hQ18
      have N18 := Fr.app N0 N18q
      have CR19 := CHr.trans CR0 (CHr.keep K18 sf0 CR0.1)
      have pre20 : ∀ t, Steps p.tables e below (T18.setTop (mkF m 24 #[.val (.int nn), .val (.int d0), .val (.int d1), .val (.int d2), .val (.int d3), .val (.int d4), .val (.int d5)] [(.ref r18)])) t → Steps p.tables e below (s₁.setTop (entryFrame m #[(.int nn), (.int d0), (.int d1), (.int d2), (.int d3), (.int d4), (.int d5)] 7)) t := by
        intro t kk
        refine pre0 t ?_
        show Steps p.tables e below (s₁.setTop (mkF m 0 #[.val (.int nn), .val (.int d0), .val (.int d1), .val (.int d2), .val (.int d3), .val (.int d4), .val (.int d5)] [])) _
        refine XS.iloadN X0.here hx rfl (hb hby D11_0) rfl ?_
        show Steps p.tables e below (s₁.setTop (mkF m 1 #[.val (.int nn), .val (.int d0), .val (.int d1), .val (.int d2), .val (.int d3), .val (.int d4), .val (.int d5)] [(.int nn)])) _
        refine XS.ifYes X0.here hx rfl (pc0 := 1) (pc' := 15) rfl (hb hby D11_1) rfl ((if0 _ _).trans (feq hn0).2) (by decide) (by decide) ?_
        show Steps p.tables e below (s₁.setTop (mkF m 15 #[.val (.int nn), .val (.int d0), .val (.int d1), .val (.int d2), .val (.int d3), .val (.int d4), .val (.int d5)] [])) _
        refine XS.iloadN X0.here hx rfl (hb hby D11_15) rfl ?_
        show Steps p.tables e below (s₁.setTop (mkF m 16 #[.val (.int nn), .val (.int d0), .val (.int d1), .val (.int d2), .val (.int d3), .val (.int d4), .val (.int d5)] [(.int nn)])) _
        refine XS.iconst X0.here hx rfl (hb hby D11_16) ?_
        show Steps p.tables e below (s₁.setTop (mkF m 17 #[.val (.int nn), .val (.int d0), .val (.int d1), .val (.int d2), .val (.int d3), .val (.int d4), .val (.int d5)] [(.int 1), (.int nn)])) _
        refine XS.icmpNo X0.here hx rfl (hb hby D11_17) rfl (teq hn1).2 ?_
        show Steps p.tables e below (s₁.setTop (mkF m 20 #[.val (.int nn), .val (.int d0), .val (.int d1), .val (.int d2), .val (.int d3), .val (.int d4), .val (.int d5)] [])) _
        refine XS.iloadN X0.here hx rfl (hb hby D11_20) rfl ?_
        show Steps p.tables e below (s₁.setTop (mkF m 21 #[.val (.int nn), .val (.int d0), .val (.int d1), .val (.int d2), .val (.int d3), .val (.int d4), .val (.int d5)] [(.int d0)])) _
        exact st18 _ kk
      have fc21 := ((Keep.refl h0 []).trans K18 all0)
      have fc22 := (Nat.le_trans hk0 K18.1)
      obtain ⟨fs, hr, hrun, hended, hRW⟩ := X18.leaveW hS0 fc22 (v := some (.ref r18)) (fun h => by rw [Bd.returns] at h; cases h)
      have CRe := CHr.trans CR19 (CHv.at X18 hZ hEL CR19.1)
      refine ⟨_, _, pre20 _ ?_, hrun, hended, _, _, rfl, ?_, ?_, hRW.1, hRW.2.1, hRW.2.2.1, hRW.2.2.2.mono (by decide) (by decide)⟩
      · show Steps p.tables e below (T18.setTop (mkF m 24 #[.val (.int nn), .val (.int d0), .val (.int d1), .val (.int d2), .val (.int d3), .val (.int d4), .val (.int d5)] [(.ref r18)])) _
        jvm_step X18.here [X18.here.top, hx, (hb hby D11_24), X18.method', Bd.returns, Value.isRef, FieldType.isReference]
        first | (intro acts; rw [hr _ acts rfl rfl rfl]) | rw [hr _ _ rfl rfl rfl]
        exact Steps.refl _
      · show Q_own_make Z nn d0 d1 d2 d3 d4 d5 G1 h0 n0 _ T18.heap _
        exact ⟨_, rfl, N18, fc21, Or.inr ⟨r18, b18, kb18, [d0], rfl, q18a, q18b, q18c, q18d, q18e, Nat.le_of_ble_eq_true rfl, own_pc hd0 own_p0⟩⟩
      · show CHr Z own_EL s.vm s.heap T18.vm T18.heap
        rw [hh]
        exact CRe
    case neg =>
      by_cases hn2 : nn = (2 : Int32)
      case pos =>
        obtain ⟨fb23, g23⟩ : ∃ z, z = h0.size := ⟨_, rfl⟩
        have lo_fb23 : n0 ≤ fb23 := Nat.le_trans Z0 (Nat.le_of_eq g23.symm)
        have hi_fb23 : h0.size ≤ fb23 := Nat.le_trans (Keep.refl h0 []).1 (Nat.le_of_eq g23.symm)
        have sf24_fb23 : Safe Z own_EL _ _ fb23 := Safe.new (h := h0) (vm := s.vm) (Nat.le_of_eq g23.symm)
        obtain ⟨T23, h23, X23, e23, E23, A23, D23, B23, st23⟩ := newO X0 hx hZ hown (gw hw 73 rfl) (gw hw 18 rfl) (gw hw 10 rfl) e0 (g := (mkF m 30 #[.val (.int nn), .val (.int d0), .val (.int d1), .val (.int d2), .val (.int d3), .val (.int d4), .val (.int d5)] [])) rfl (hb hby D11_30) (by decide) (by decide)
        rw [← g23] at A23 D23 B23 st23
        have O23 := Obj.of A23 B23
        have CR25 := CHr.trans CR0 (CHr.ext E23 CR0.1)
        have sf25_fb23 := (Safe.ext E23 CR0.1 sf24_fb23)
        have F23_value : Fld Z h23 fb23 "java/lang/String" "value" "[B" .null := D23 (Or.inr (gw hw 31 rfl)) (ty := (.array .byte)) (by decide)
        have F23_coder : Fld Z h23 fb23 "java/lang/String" "coder" "B" (.int 0) := D23 (Or.inr (gw hw 33 rfl)) (ty := .byte) (by decide)
        have pre26 : ∀ t, Steps p.tables e below (T23.setTop (mkF m 33 #[.val (.int nn), .val (.int d0), .val (.int d1), .val (.int d2), .val (.int d3), .val (.int d4), .val (.int d5)] [(.ref fb23)])) t → Steps p.tables e below (s₁.setTop (entryFrame m #[(.int nn), (.int d0), (.int d1), (.int d2), (.int d3), (.int d4), (.int d5)] 7)) t := by
          intro t kk
          refine pre0 t ?_
          show Steps p.tables e below (s₁.setTop (mkF m 0 #[.val (.int nn), .val (.int d0), .val (.int d1), .val (.int d2), .val (.int d3), .val (.int d4), .val (.int d5)] [])) _
          refine XS.iloadN X0.here hx rfl (hb hby D11_0) rfl ?_
          show Steps p.tables e below (s₁.setTop (mkF m 1 #[.val (.int nn), .val (.int d0), .val (.int d1), .val (.int d2), .val (.int d3), .val (.int d4), .val (.int d5)] [(.int nn)])) _
          refine XS.ifYes X0.here hx rfl (pc0 := 1) (pc' := 15) rfl (hb hby D11_1) rfl ((if0 _ _).trans (feq hn0).2) (by decide) (by decide) ?_
          show Steps p.tables e below (s₁.setTop (mkF m 15 #[.val (.int nn), .val (.int d0), .val (.int d1), .val (.int d2), .val (.int d3), .val (.int d4), .val (.int d5)] [])) _
          refine XS.iloadN X0.here hx rfl (hb hby D11_15) rfl ?_
          show Steps p.tables e below (s₁.setTop (mkF m 16 #[.val (.int nn), .val (.int d0), .val (.int d1), .val (.int d2), .val (.int d3), .val (.int d4), .val (.int d5)] [(.int nn)])) _
          refine XS.iconst X0.here hx rfl (hb hby D11_16) ?_
          show Steps p.tables e below (s₁.setTop (mkF m 17 #[.val (.int nn), .val (.int d0), .val (.int d1), .val (.int d2), .val (.int d3), .val (.int d4), .val (.int d5)] [(.int 1), (.int nn)])) _
          refine XS.icmpYes X0.here hx rfl (pc0 := 17) (pc' := 25) rfl (hb hby D11_17) rfl (feq hn1).2 (by decide) (by decide) ?_
          show Steps p.tables e below (s₁.setTop (mkF m 25 #[.val (.int nn), .val (.int d0), .val (.int d1), .val (.int d2), .val (.int d3), .val (.int d4), .val (.int d5)] [])) _
          refine XS.iloadN X0.here hx rfl (hb hby D11_25) rfl ?_
          show Steps p.tables e below (s₁.setTop (mkF m 26 #[.val (.int nn), .val (.int d0), .val (.int d1), .val (.int d2), .val (.int d3), .val (.int d4), .val (.int d5)] [(.int nn)])) _
          refine XS.iconst X0.here hx rfl (hb hby D11_26) ?_
          show Steps p.tables e below (s₁.setTop (mkF m 27 #[.val (.int nn), .val (.int d0), .val (.int d1), .val (.int d2), .val (.int d3), .val (.int d4), .val (.int d5)] [(.int 2), (.int nn)])) _
          refine XS.icmpNo X0.here hx rfl (hb hby D11_27) rfl (teq hn2).2 ?_
          show Steps p.tables e below (s₁.setTop (mkF m 30 #[.val (.int nn), .val (.int d0), .val (.int d1), .val (.int d2), .val (.int d3), .val (.int d4), .val (.int d5)] [])) _
          exact st23 _ kk
        obtain ⟨fb27, g27⟩ : ∃ z, z = h23.size := ⟨_, rfl⟩
        have ne_fb23_fb27 : fb23 ≠ fb27 := Nat.ne_of_lt (Nat.lt_of_lt_of_le O23.lt (Nat.le_of_eq g27.symm))
        have fc28 := (Nat.le_trans Z0 E23.1)
        have lo_fb27 : n0 ≤ fb27 := Nat.le_trans fc28 (Nat.le_of_eq g27.symm)
        have fc29 := ((Keep.refl h0 []).ext E23)
        have hi_fb27 : h0.size ≤ fb27 := Nat.le_trans fc29.1 (Nat.le_of_eq g27.symm)
        obtain ⟨T27, h27, k27, X27, e27, E27, A27, st27⟩ := newP X23 hx hZ (gw hw 74 rfl) e23 (g := (mkF m 35 #[.val (.int nn), .val (.int d0), .val (.int d1), .val (.int d2), .val (.int d3), .val (.int d4), .val (.int d5)] [(.int 2), (.ref fb23), (.ref fb23)])) rfl (hb hby D11_35) rfl (by decide) (cap := 2) (by decide) (by decide) (by decide) (by decide)
        rw [← g27] at A27 st27
        have V27 : Arv Z h27 fb27 k27 .char (2 : Int32) [(.int 0), (.int 0)] (.int 0) := (Arv.new A27 (by decide)).pad (pad_rep [] (.int 0) 2)
        have CR30 := CHr.trans CR25 (CHr.ext E27 CR25.1)
        have sf30_fb23 := (Safe.ext E27 CR25.1 sf25_fb23)
        have pre31 : ∀ t, Steps p.tables e below (T27.setTop (mkF m 37 #[.val (.int nn), .val (.int d0), .val (.int d1), .val (.int d2), .val (.int d3), .val (.int d4), .val (.int d5)] [(.ref fb27), (.ref fb23), (.ref fb23)])) t → Steps p.tables e below (s₁.setTop (entryFrame m #[(.int nn), (.int d0), (.int d1), (.int d2), (.int d3), (.int d4), (.int d5)] 7)) t := by
          intro t kk
          refine pre26 t ?_
          show Steps p.tables e below (T23.setTop (mkF m 33 #[.val (.int nn), .val (.int d0), .val (.int d1), .val (.int d2), .val (.int d3), .val (.int d4), .val (.int d5)] [(.ref fb23)])) _
          refine XS.dup X23.here hx rfl (hb hby D11_33) rfl rfl ?_
          show Steps p.tables e below (T23.setTop (mkF m 34 #[.val (.int nn), .val (.int d0), .val (.int d1), .val (.int d2), .val (.int d3), .val (.int d4), .val (.int d5)] [(.ref fb23), (.ref fb23)])) _
          refine XS.iconst X23.here hx rfl (hb hby D11_34) ?_
          show Steps p.tables e below (T23.setTop (mkF m 35 #[.val (.int nn), .val (.int d0), .val (.int d1), .val (.int d2), .val (.int d3), .val (.int d4), .val (.int d5)] [(.int 2), (.ref fb23), (.ref fb23)])) _
          exact st27 _ kk
        obtain ⟨cl32, Ar32, q32, S32, M32, H32, G32⟩ := id V27
        obtain ⟨T32, h32, X32, e32, W32, st32⟩ := stC X27 hx hZ e27 Ar32 (j := (0 : Int32)) (inb_of S32 ⟨(by decide), (by decide)⟩) (g := (mkF m 40 #[.val (.int nn), .val (.int d0), .val (.int d1), .val (.int d2), .val (.int d3), .val (.int d4), .val (.int d5)] [(.int d0), (.int 0), (.ref fb27), (.ref fb27), (.ref fb23), (.ref fb23)])) rfl rfl (hb hby D11_40)
        have V32 : Arv Z h32 fb27 k27 .char (2 : Int32) [(.int (nar .char d0)), (.int 0)] (.int 0) := Arv.set Ar32 q32 S32 M32 H32 G32 (fits_nar_char _) W32 0 rfl (Nat.le_of_ble_eq_true rfl)
        have SA33 := (Safe.arv (EL := own_EL) hZ.alike V27 (by decide))
        have CR33 := CHr.trans CR30 (CHr.wr W32 SA33 CR30.1)
        have sf33_fb23 := (Safe.wr W32 SA33 CR30.1 sf30_fb23)
        have N32 := Fr.snoc X32 N0 lo_fb27
        have pre34 : ∀ t, Steps p.tables e below (T32.setTop (mkF m 41 #[.val (.int nn), .val (.int d0), .val (.int d1), .val (.int d2), .val (.int d3), .val (.int d4), .val (.int d5)] [(.ref fb27), (.ref fb23), (.ref fb23)])) t → Steps p.tables e below (s₁.setTop (entryFrame m #[(.int nn), (.int d0), (.int d1), (.int d2), (.int d3), (.int d4), (.int d5)] 7)) t := by
          intro t kk
          refine pre31 t ?_
          show Steps p.tables e below (T27.setTop (mkF m 37 #[.val (.int nn), .val (.int d0), .val (.int d1), .val (.int d2), .val (.int d3), .val (.int d4), .val (.int d5)] [(.ref fb27), (.ref fb23), (.ref fb23)])) _
          refine XS.dup X27.here hx rfl (hb hby D11_37) rfl rfl ?_
          show Steps p.tables e below (T27.setTop (mkF m 38 #[.val (.int nn), .val (.int d0), .val (.int d1), .val (.int d2), .val (.int d3), .val (.int d4), .val (.int d5)] [(.ref fb27), (.ref fb27), (.ref fb23), (.ref fb23)])) _
          refine XS.iconst X27.here hx rfl (hb hby D11_38) ?_
          show Steps p.tables e below (T27.setTop (mkF m 39 #[.val (.int nn), .val (.int d0), .val (.int d1), .val (.int d2), .val (.int d3), .val (.int d4), .val (.int d5)] [(.int 0), (.ref fb27), (.ref fb27), (.ref fb23), (.ref fb23)])) _
          refine XS.iloadN X27.here hx rfl (hb hby D11_39) rfl ?_
          show Steps p.tables e below (T27.setTop (mkF m 40 #[.val (.int nn), .val (.int d0), .val (.int d1), .val (.int d2), .val (.int d3), .val (.int d4), .val (.int d5)] [(.int d0), (.int 0), (.ref fb27), (.ref fb27), (.ref fb23), (.ref fb23)])) _
          exact st32 _ kk
        obtain ⟨cl35, Ar35, q35, S35, M35, H35, G35⟩ := id V32
        obtain ⟨T35, h35, X35, e35, W35, st35⟩ := stC X32 hx hZ e32 Ar35 (j := (1 : Int32)) (inb_of S35 ⟨(by decide), (by decide)⟩) (g := (mkF m 44 #[.val (.int nn), .val (.int d0), .val (.int d1), .val (.int d2), .val (.int d3), .val (.int d4), .val (.int d5)] [(.int d1), (.int 1), (.ref fb27), (.ref fb27), (.ref fb23), (.ref fb23)])) rfl rfl (hb hby D11_44)
        have V35 : Arv Z h35 fb27 k27 .char (2 : Int32) [(.int (nar .char d0)), (.int (nar .char d1))] (.int 0) := Arv.set Ar35 q35 S35 M35 H35 G35 (fits_nar_char _) W35 1 rfl (Nat.le_of_ble_eq_true rfl)
        have SA36 := (Safe.arv (EL := own_EL) hZ.alike V32 (by decide))
        have CR36 := CHr.trans CR33 (CHr.wr W35 SA36 CR33.1)
        have sf36_fb23 := (Safe.wr W35 SA36 CR33.1 sf33_fb23)
        have N35 := Fr.snoc X35 N32 lo_fb27
        have pre37 : ∀ t, Steps p.tables e below (T35.setTop (mkF m 45 #[.val (.int nn), .val (.int d0), .val (.int d1), .val (.int d2), .val (.int d3), .val (.int d4), .val (.int d5)] [(.ref fb27), (.ref fb23), (.ref fb23)])) t → Steps p.tables e below (s₁.setTop (entryFrame m #[(.int nn), (.int d0), (.int d1), (.int d2), (.int d3), (.int d4), (.int d5)] 7)) t := by
          intro t kk
          refine pre34 t ?_
          show Steps p.tables e below (T32.setTop (mkF m 41 #[.val (.int nn), .val (.int d0), .val (.int d1), .val (.int d2), .val (.int d3), .val (.int d4), .val (.int d5)] [(.ref fb27), (.ref fb23), (.ref fb23)])) _
          refine XS.dup X32.here hx rfl (hb hby D11_41) rfl rfl ?_
          show Steps p.tables e below (T32.setTop (mkF m 42 #[.val (.int nn), .val (.int d0), .val (.int d1), .val (.int d2), .val (.int d3), .val (.int d4), .val (.int d5)] [(.ref fb27), (.ref fb27), (.ref fb23), (.ref fb23)])) _
          refine XS.iconst X32.here hx rfl (hb hby D11_42) ?_
          show Steps p.tables e below (T32.setTop (mkF m 43 #[.val (.int nn), .val (.int d0), .val (.int d1), .val (.int d2), .val (.int d3), .val (.int d4), .val (.int d5)] [(.int 1), (.ref fb27), (.ref fb27), (.ref fb23), (.ref fb23)])) _
          refine XS.iloadN X32.here hx rfl (hb hby D11_43) rfl ?_
          show Steps p.tables e below (T32.setTop (mkF m 44 #[.val (.int nn), .val (.int d0), .val (.int d1), .val (.int d2), .val (.int d3), .val (.int d4), .val (.int d5)] [(.int d1), (.int 1), (.ref fb27), (.ref fb27), (.ref fb23), (.ref fb23)])) _
          exact st35 _ kk
        have fc38 := (((O23.ext E27).wr W32).wr W35)
        have fc39 := (((F23_value.ext E27).other W32 (Or.inl ne_fb23_fb27)).other W35 (Or.inl ne_fb23_fb27))
        have fc40 := (((F23_coder.ext E27).other W32 (Or.inl ne_fb23_fb27)).other W35 (Or.inl ne_fb23_fb27))
        have fc41 := ((((XO.ext E23).ext E27).wr W32 lo_fb27).wr W35 lo_fb27)
        have fc43 := (Nat.le_trans (Nat.le_trans (Nat.le_trans fc28 E27.1) (Keep.of_wr W32).1) (Keep.of_wr W35).1)
        obtain ⟨_, _, ⟨T42, L42, k42, n42⟩, -, X42, ⟨Lc42, hQ42, l42, y42, z42⟩, st42⟩ := X35.specialBack hx (y := (⟨"java/lang/String", "<init>", "([C)V"⟩ : MethodName)) rfl hown (mvT hZ (gw hw 75 rfl)) (mvT hZ (gw hw 76 rfl)) (mvT hZ (gw hw 77 rfl)) (by decide) (StrChars.Road.backV (W := 1) hZ hws (kI := 4) (gw hw 18 rfl) (cs := ([(nar .char d0), (nar .char d1)] : List Int32)) (bs := ([(nar .char d0), (nar .char d1)] : List Int32).map (fun c => c.toInt8.toInt32)) (n := 2) lo_fb23 fc43 fc38.exa fc39 fc40 V35 (O2.ext fc41.2) P5 rfl rfl (by decide) (by decide) (own_pc (own_nc hd0) (own_pc (own_nc hd1) own_p0)) rfl (by decide) (by decide)) (g := (mkF m 45 #[.val (.int nn), .val (.int d0), .val (.int d1), .val (.int d2), .val (.int d3), .val (.int d4), .val (.int d5)] [(.ref fb27), (.ref fb23), (.ref fb23)])) rfl (by rw [hml]; rfl) (Steps.refl _) (a := fb23) (argsL := [(.ref fb27)]) (rest := [(.ref fb23)]) (lenOf pd___C_V rfl) rfl (by show 2 * 0 + _ ≤ _; exact Nat.le_of_eq rfl) (hb hby D11_45) (fun _ _ => ⟨rfl, e35, (by decide : 2 + 1 ≤ _), (by decide : 6 + 2 ≤ _)⟩)
        dsimp only [Pt.U, Pt.locs, Pt.cells, Pt.slots] at X42 l42 y42 z42 st42 hQ42
        subst l42 y42 z42
        obtain ⟨rfl, N42q, K42, Ex42, Fc42, t42, kb42, u42, lo42, ne42, Fv42, Vt42⟩ := hQ42
        have N42 := Fr.app N35 N42q
        have SA44 : ∀ y ∈ [fb23], Safe Z own_EL _ _ y := (sfS sf36_fb23 sf0)
        have CR44 := CHr.trans CR36 (CHr.keep K42 SA44 CR36.1)
        have sf44_fb23 := (Safe.keep K42 SA44 CR36.1 sf36_fb23)
        have pre45 : ∀ t, Steps p.tables e below (T42.setTop (mkF m 48 #[.val (.int nn), .val (.int d0), .val (.int d1), .val (.int d2), .val (.int d3), .val (.int d4), .val (.int d5)] [(.ref fb23)])) t → Steps p.tables e below (s₁.setTop (entryFrame m #[(.int nn), (.int d0), (.int d1), (.int d2), (.int d3), (.int d4), (.int d5)] 7)) t := by
          intro t kk
          refine pre37 t ?_
          show Steps p.tables e below (T35.setTop (mkF m 45 #[.val (.int nn), .val (.int d0), .val (.int d1), .val (.int d2), .val (.int d3), .val (.int d4), .val (.int d5)] [(.ref fb27), (.ref fb23), (.ref fb23)])) _
          exact st42.trans kk
        have ne_fb27_t42 : fb27 ≠ t42 := Nat.ne_of_lt (Nat.lt_of_lt_of_le V35.lt lo42)
        have fc46 := ((((fc29.ext E27).wr W32 (Or.inr hi_fb27)).wr W35 (Or.inr hi_fb27)).trans K42 (allS (Or.inr hi_fb23) all0))
        have fc47 := (fc38.keep K42)
        have fc48 := (Nat.le_trans (Nat.le_trans (Nat.le_trans (Nat.le_trans (Nat.le_trans hk0 E23.1) E27.1) (Keep.of_wr W32).1) (Keep.of_wr W35).1) K42.1)
        obtain ⟨fs, hr, hrun, hended, hRW⟩ := X42.leaveW hS0 fc48 (v := some (.ref fb23)) (fun h => by rw [Bd.returns] at h; cases h)
        have CRe := CHr.trans CR44 (CHv.at X42 hZ hEL CR44.1)
        refine ⟨_, _, pre45 _ ?_, hrun, hended, _, _, rfl, ?_, ?_, hRW.1, hRW.2.1, hRW.2.2.1, hRW.2.2.2.mono (by decide) (by decide)⟩
        · show Steps p.tables e below (T42.setTop (mkF m 48 #[.val (.int nn), .val (.int d0), .val (.int d1), .val (.int d2), .val (.int d3), .val (.int d4), .val (.int d5)] [(.ref fb23)])) _
          jvm_step X42.here [X42.here.top, hx, (hb hby D11_48), X42.method', Bd.returns, Value.isRef, FieldType.isReference]
          first | (intro acts; rw [hr _ acts rfl rfl rfl]) | rw [hr _ _ rfl rfl rfl]
          exact Steps.refl _
        · show Q_own_make Z nn d0 d1 d2 d3 d4 d5 G1 h0 n0 _ T42.heap _
          exact ⟨_, rfl, N42, fc46, Or.inr ⟨fb23, t42, kb42, [(nar .char d0), (nar .char d1)], rfl, hi_fb23, fc47.exa, Fv42, Fc42, Vt42, Nat.le_of_ble_eq_true rfl, (own_pc (own_nc hd0) (own_pc (own_nc hd1) own_p0))⟩⟩
        · show CHr Z own_EL s.vm s.heap T42.vm T42.heap
          rw [hh]
          exact CRe
      case neg =>
        by_cases hn3 : nn = (3 : Int32)
        case pos =>
          obtain ⟨fb49, g49⟩ : ∃ z, z = h0.size := ⟨_, rfl⟩
          have lo_fb49 : n0 ≤ fb49 := Nat.le_trans Z0 (Nat.le_of_eq g49.symm)
          have hi_fb49 : h0.size ≤ fb49 := Nat.le_trans (Keep.refl h0 []).1 (Nat.le_of_eq g49.symm)
          have sf50_fb49 : Safe Z own_EL _ _ fb49 := Safe.new (h := h0) (vm := s.vm) (Nat.le_of_eq g49.symm)
          obtain ⟨T49, h49, X49, e49, E49, A49, D49, B49, st49⟩ := newO X0 hx hZ hown (gw hw 73 rfl) (gw hw 18 rfl) (gw hw 10 rfl) e0 (g := (mkF m 54 #[.val (.int nn), .val (.int d0), .val (.int d1), .val (.int d2), .val (.int d3), .val (.int d4), .val (.int d5)] [])) rfl (hb hby D11_54) (by decide) (by decide)
          rw [← g49] at A49 D49 B49 st49
          have O49 := Obj.of A49 B49
          have CR51 := CHr.trans CR0 (CHr.ext E49 CR0.1)
          have sf51_fb49 := (Safe.ext E49 CR0.1 sf50_fb49)
          have F49_value : Fld Z h49 fb49 "java/lang/String" "value" "[B" .null := D49 (Or.inr (gw hw 31 rfl)) (ty := (.array .byte)) (by decide)
          have F49_coder : Fld Z h49 fb49 "java/lang/String" "coder" "B" (.int 0) := D49 (Or.inr (gw hw 33 rfl)) (ty := .byte) (by decide)
          have pre52 : ∀ t, Steps p.tables e below (T49.setTop (mkF m 57 #[.val (.int nn), .val (.int d0), .val (.int d1), .val (.int d2), .val (.int d3), .val (.int d4), .val (.int d5)] [(.ref fb49)])) t → Steps p.tables e below (s₁.setTop (entryFrame m #[(.int nn), (.int d0), (.int d1), (.int d2), (.int d3), (.int d4), (.int d5)] 7)) t := by
            intro t kk
            refine pre0 t ?_
            show Steps p.tables e below (s₁.setTop (mkF m 0 #[.val (.int nn), .val (.int d0), .val (.int d1), .val (.int d2), .val (.int d3), .val (.int d4), .val (.int d5)] [])) _
            refine XS.iloadN X0.here hx rfl (hb hby D11_0) rfl ?_
            show Steps p.tables e below (s₁.setTop (mkF m 1 #[.val (.int nn), .val (.int d0), .val (.int d1), .val (.int d2), .val (.int d3), .val (.int d4), .val (.int d5)] [(.int nn)])) _
            refine XS.ifYes X0.here hx rfl (pc0 := 1) (pc' := 15) rfl (hb hby D11_1) rfl ((if0 _ _).trans (feq hn0).2) (by decide) (by decide) ?_
            show Steps p.tables e below (s₁.setTop (mkF m 15 #[.val (.int nn), .val (.int d0), .val (.int d1), .val (.int d2), .val (.int d3), .val (.int d4), .val (.int d5)] [])) _
            refine XS.iloadN X0.here hx rfl (hb hby D11_15) rfl ?_
            show Steps p.tables e below (s₁.setTop (mkF m 16 #[.val (.int nn), .val (.int d0), .val (.int d1), .val (.int d2), .val (.int d3), .val (.int d4), .val (.int d5)] [(.int nn)])) _
            refine XS.iconst X0.here hx rfl (hb hby D11_16) ?_
            show Steps p.tables e below (s₁.setTop (mkF m 17 #[.val (.int nn), .val (.int d0), .val (.int d1), .val (.int d2), .val (.int d3), .val (.int d4), .val (.int d5)] [(.int 1), (.int nn)])) _
            refine XS.icmpYes X0.here hx rfl (pc0 := 17) (pc' := 25) rfl (hb hby D11_17) rfl (feq hn1).2 (by decide) (by decide) ?_
            show Steps p.tables e below (s₁.setTop (mkF m 25 #[.val (.int nn), .val (.int d0), .val (.int d1), .val (.int d2), .val (.int d3), .val (.int d4), .val (.int d5)] [])) _
            refine XS.iloadN X0.here hx rfl (hb hby D11_25) rfl ?_
            show Steps p.tables e below (s₁.setTop (mkF m 26 #[.val (.int nn), .val (.int d0), .val (.int d1), .val (.int d2), .val (.int d3), .val (.int d4), .val (.int d5)] [(.int nn)])) _
            refine XS.iconst X0.here hx rfl (hb hby D11_26) ?_
            show Steps p.tables e below (s₁.setTop (mkF m 27 #[.val (.int nn), .val (.int d0), .val (.int d1), .val (.int d2), .val (.int d3), .val (.int d4), .val (.int d5)] [(.int 2), (.int nn)])) _
            refine XS.icmpYes X0.here hx rfl (pc0 := 27) (pc' := 49) rfl (hb hby D11_27) rfl (feq hn2).2 (by decide) (by decide) ?_
            show Steps p.tables e below (s₁.setTop (mkF m 49 #[.val (.int nn), .val (.int d0), .val (.int d1), .val (.int d2), .val (.int d3), .val (.int d4), .val (.int d5)] [])) _
            refine XS.iloadN X0.here hx rfl (hb hby D11_49) rfl ?_
            show Steps p.tables e below (s₁.setTop (mkF m 50 #[.val (.int nn), .val (.int d0), .val (.int d1), .val (.int d2), .val (.int d3), .val (.int d4), .val (.int d5)] [(.int nn)])) _
            refine XS.iconst X0.here hx rfl (hb hby D11_50) ?_
            show Steps p.tables e below (s₁.setTop (mkF m 51 #[.val (.int nn), .val (.int d0), .val (.int d1), .val (.int d2), .val (.int d3), .val (.int d4), .val (.int d5)] [(.int 3), (.int nn)])) _
            refine XS.icmpNo X0.here hx rfl (hb hby D11_51) rfl (teq hn3).2 ?_
            show Steps p.tables e below (s₁.setTop (mkF m 54 #[.val (.int nn), .val (.int d0), .val (.int d1), .val (.int d2), .val (.int d3), .val (.int d4), .val (.int d5)] [])) _
            exact st49 _ kk
          obtain ⟨fb53, g53⟩ : ∃ z, z = h49.size := ⟨_, rfl⟩
          have ne_fb49_fb53 : fb49 ≠ fb53 := Nat.ne_of_lt (Nat.lt_of_lt_of_le O49.lt (Nat.le_of_eq g53.symm))
          have fc54 := (Nat.le_trans Z0 E49.1)
          have lo_fb53 : n0 ≤ fb53 := Nat.le_trans fc54 (Nat.le_of_eq g53.symm)
          have fc55 := ((Keep.refl h0 []).ext E49)
          have hi_fb53 : h0.size ≤ fb53 := Nat.le_trans fc55.1 (Nat.le_of_eq g53.symm)
          obtain ⟨T53, h53, k53, X53, e53, E53, A53, st53⟩ := newP X49 hx hZ (gw hw 74 rfl) e49 (g := (mkF m 59 #[.val (.int nn), .val (.int d0), .val (.int d1), .val (.int d2), .val (.int d3), .val (.int d4), .val (.int d5)] [(.int 3), (.ref fb49), (.ref fb49)])) rfl (hb hby D11_59) rfl (by decide) (cap := 3) (by decide) (by decide) (by decide) (by decide)
          rw [← g53] at A53 st53
          have V53 : Arv Z h53 fb53 k53 .char (3 : Int32) [(.int 0), (.int 0), (.int 0)] (.int 0) := (Arv.new A53 (by decide)).pad (pad_rep [] (.int 0) 3)
          have CR56 := CHr.trans CR51 (CHr.ext E53 CR51.1)
          have sf56_fb49 := (Safe.ext E53 CR51.1 sf51_fb49)
          have pre57 : ∀ t, Steps p.tables e below (T53.setTop (mkF m 61 #[.val (.int nn), .val (.int d0), .val (.int d1), .val (.int d2), .val (.int d3), .val (.int d4), .val (.int d5)] [(.ref fb53), (.ref fb49), (.ref fb49)])) t → Steps p.tables e below (s₁.setTop (entryFrame m #[(.int nn), (.int d0), (.int d1), (.int d2), (.int d3), (.int d4), (.int d5)] 7)) t := by
            intro t kk
            refine pre52 t ?_
            show Steps p.tables e below (T49.setTop (mkF m 57 #[.val (.int nn), .val (.int d0), .val (.int d1), .val (.int d2), .val (.int d3), .val (.int d4), .val (.int d5)] [(.ref fb49)])) _
            refine XS.dup X49.here hx rfl (hb hby D11_57) rfl rfl ?_
            show Steps p.tables e below (T49.setTop (mkF m 58 #[.val (.int nn), .val (.int d0), .val (.int d1), .val (.int d2), .val (.int d3), .val (.int d4), .val (.int d5)] [(.ref fb49), (.ref fb49)])) _
            refine XS.iconst X49.here hx rfl (hb hby D11_58) ?_
            show Steps p.tables e below (T49.setTop (mkF m 59 #[.val (.int nn), .val (.int d0), .val (.int d1), .val (.int d2), .val (.int d3), .val (.int d4), .val (.int d5)] [(.int 3), (.ref fb49), (.ref fb49)])) _
            exact st53 _ kk
          obtain ⟨cl58, Ar58, q58, S58, M58, H58, G58⟩ := id V53
          obtain ⟨T58, h58, X58, e58, W58, st58⟩ := stC X53 hx hZ e53 Ar58 (j := (0 : Int32)) (inb_of S58 ⟨(by decide), (by decide)⟩) (g := (mkF m 64 #[.val (.int nn), .val (.int d0), .val (.int d1), .val (.int d2), .val (.int d3), .val (.int d4), .val (.int d5)] [(.int d0), (.int 0), (.ref fb53), (.ref fb53), (.ref fb49), (.ref fb49)])) rfl rfl (hb hby D11_64)
          have V58 : Arv Z h58 fb53 k53 .char (3 : Int32) [(.int (nar .char d0)), (.int 0), (.int 0)] (.int 0) := Arv.set Ar58 q58 S58 M58 H58 G58 (fits_nar_char _) W58 0 rfl (Nat.le_of_ble_eq_true rfl)
          have SA59 := (Safe.arv (EL := own_EL) hZ.alike V53 (by decide))
          have CR59 := CHr.trans CR56 (CHr.wr W58 SA59 CR56.1)
          have sf59_fb49 := (Safe.wr W58 SA59 CR56.1 sf56_fb49)
          have N58 := Fr.snoc X58 N0 lo_fb53
          have pre60 : ∀ t, Steps p.tables e below (T58.setTop (mkF m 65 #[.val (.int nn), .val (.int d0), .val (.int d1), .val (.int d2), .val (.int d3), .val (.int d4), .val (.int d5)] [(.ref fb53), (.ref fb49), (.ref fb49)])) t → Steps p.tables e below (s₁.setTop (entryFrame m #[(.int nn), (.int d0), (.int d1), (.int d2), (.int d3), (.int d4), (.int d5)] 7)) t := by
            intro t kk
            refine pre57 t ?_
            show Steps p.tables e below (T53.setTop (mkF m 61 #[.val (.int nn), .val (.int d0), .val (.int d1), .val (.int d2), .val (.int d3), .val (.int d4), .val (.int d5)] [(.ref fb53), (.ref fb49), (.ref fb49)])) _
            refine XS.dup X53.here hx rfl (hb hby D11_61) rfl rfl ?_
            show Steps p.tables e below (T53.setTop (mkF m 62 #[.val (.int nn), .val (.int d0), .val (.int d1), .val (.int d2), .val (.int d3), .val (.int d4), .val (.int d5)] [(.ref fb53), (.ref fb53), (.ref fb49), (.ref fb49)])) _
            refine XS.iconst X53.here hx rfl (hb hby D11_62) ?_
            show Steps p.tables e below (T53.setTop (mkF m 63 #[.val (.int nn), .val (.int d0), .val (.int d1), .val (.int d2), .val (.int d3), .val (.int d4), .val (.int d5)] [(.int 0), (.ref fb53), (.ref fb53), (.ref fb49), (.ref fb49)])) _
            refine XS.iloadN X53.here hx rfl (hb hby D11_63) rfl ?_
            show Steps p.tables e below (T53.setTop (mkF m 64 #[.val (.int nn), .val (.int d0), .val (.int d1), .val (.int d2), .val (.int d3), .val (.int d4), .val (.int d5)] [(.int d0), (.int 0), (.ref fb53), (.ref fb53), (.ref fb49), (.ref fb49)])) _
            exact st58 _ kk
          obtain ⟨cl61, Ar61, q61, S61, M61, H61, G61⟩ := id V58
          obtain ⟨T61, h61, X61, e61, W61, st61⟩ := stC X58 hx hZ e58 Ar61 (j := (1 : Int32)) (inb_of S61 ⟨(by decide), (by decide)⟩) (g := (mkF m 68 #[.val (.int nn), .val (.int d0), .val (.int d1), .val (.int d2), .val (.int d3), .val (.int d4), .val (.int d5)] [(.int d1), (.int 1), (.ref fb53), (.ref fb53), (.ref fb49), (.ref fb49)])) rfl rfl (hb hby D11_68)
          have V61 : Arv Z h61 fb53 k53 .char (3 : Int32) [(.int (nar .char d0)), (.int (nar .char d1)), (.int 0)] (.int 0) := Arv.set Ar61 q61 S61 M61 H61 G61 (fits_nar_char _) W61 1 rfl (Nat.le_of_ble_eq_true rfl)
          have SA62 := (Safe.arv (EL := own_EL) hZ.alike V58 (by decide))
          have CR62 := CHr.trans CR59 (CHr.wr W61 SA62 CR59.1)
          have sf62_fb49 := (Safe.wr W61 SA62 CR59.1 sf59_fb49)
          have N61 := Fr.snoc X61 N58 lo_fb53
          have pre63 : ∀ t, Steps p.tables e below (T61.setTop (mkF m 69 #[.val (.int nn), .val (.int d0), .val (.int d1), .val (.int d2), .val (.int d3), .val (.int d4), .val (.int d5)] [(.ref fb53), (.ref fb49), (.ref fb49)])) t → Steps p.tables e below (s₁.setTop (entryFrame m #[(.int nn), (.int d0), (.int d1), (.int d2), (.int d3), (.int d4), (.int d5)] 7)) t := by
            intro t kk
            refine pre60 t ?_
            show Steps p.tables e below (T58.setTop (mkF m 65 #[.val (.int nn), .val (.int d0), .val (.int d1), .val (.int d2), .val (.int d3), .val (.int d4), .val (.int d5)] [(.ref fb53), (.ref fb49), (.ref fb49)])) _
            refine XS.dup X58.here hx rfl (hb hby D11_65) rfl rfl ?_
            show Steps p.tables e below (T58.setTop (mkF m 66 #[.val (.int nn), .val (.int d0), .val (.int d1), .val (.int d2), .val (.int d3), .val (.int d4), .val (.int d5)] [(.ref fb53), (.ref fb53), (.ref fb49), (.ref fb49)])) _
            refine XS.iconst X58.here hx rfl (hb hby D11_66) ?_
            show Steps p.tables e below (T58.setTop (mkF m 67 #[.val (.int nn), .val (.int d0), .val (.int d1), .val (.int d2), .val (.int d3), .val (.int d4), .val (.int d5)] [(.int 1), (.ref fb53), (.ref fb53), (.ref fb49), (.ref fb49)])) _
            refine XS.iloadN X58.here hx rfl (hb hby D11_67) rfl ?_
            show Steps p.tables e below (T58.setTop (mkF m 68 #[.val (.int nn), .val (.int d0), .val (.int d1), .val (.int d2), .val (.int d3), .val (.int d4), .val (.int d5)] [(.int d1), (.int 1), (.ref fb53), (.ref fb53), (.ref fb49), (.ref fb49)])) _
            exact st61 _ kk
          obtain ⟨cl64, Ar64, q64, S64, M64, H64, G64⟩ := id V61
          obtain ⟨T64, h64, X64, e64, W64, st64⟩ := stC X61 hx hZ e61 Ar64 (j := (2 : Int32)) (inb_of S64 ⟨(by decide), (by decide)⟩) (g := (mkF m 72 #[.val (.int nn), .val (.int d0), .val (.int d1), .val (.int d2), .val (.int d3), .val (.int d4), .val (.int d5)] [(.int d2), (.int 2), (.ref fb53), (.ref fb53), (.ref fb49), (.ref fb49)])) rfl rfl (hb hby D11_72)
          have V64 : Arv Z h64 fb53 k53 .char (3 : Int32) [(.int (nar .char d0)), (.int (nar .char d1)), (.int (nar .char d2))] (.int 0) := Arv.set Ar64 q64 S64 M64 H64 G64 (fits_nar_char _) W64 2 rfl (Nat.le_of_ble_eq_true rfl)
          have SA65 := (Safe.arv (EL := own_EL) hZ.alike V61 (by decide))
          have CR65 := CHr.trans CR62 (CHr.wr W64 SA65 CR62.1)
          have sf65_fb49 := (Safe.wr W64 SA65 CR62.1 sf62_fb49)
          have N64 := Fr.snoc X64 N61 lo_fb53
          have pre66 : ∀ t, Steps p.tables e below (T64.setTop (mkF m 73 #[.val (.int nn), .val (.int d0), .val (.int d1), .val (.int d2), .val (.int d3), .val (.int d4), .val (.int d5)] [(.ref fb53), (.ref fb49), (.ref fb49)])) t → Steps p.tables e below (s₁.setTop (entryFrame m #[(.int nn), (.int d0), (.int d1), (.int d2), (.int d3), (.int d4), (.int d5)] 7)) t := by
            intro t kk
            refine pre63 t ?_
            show Steps p.tables e below (T61.setTop (mkF m 69 #[.val (.int nn), .val (.int d0), .val (.int d1), .val (.int d2), .val (.int d3), .val (.int d4), .val (.int d5)] [(.ref fb53), (.ref fb49), (.ref fb49)])) _
            refine XS.dup X61.here hx rfl (hb hby D11_69) rfl rfl ?_
            show Steps p.tables e below (T61.setTop (mkF m 70 #[.val (.int nn), .val (.int d0), .val (.int d1), .val (.int d2), .val (.int d3), .val (.int d4), .val (.int d5)] [(.ref fb53), (.ref fb53), (.ref fb49), (.ref fb49)])) _
            refine XS.iconst X61.here hx rfl (hb hby D11_70) ?_
            show Steps p.tables e below (T61.setTop (mkF m 71 #[.val (.int nn), .val (.int d0), .val (.int d1), .val (.int d2), .val (.int d3), .val (.int d4), .val (.int d5)] [(.int 2), (.ref fb53), (.ref fb53), (.ref fb49), (.ref fb49)])) _
            refine XS.iloadN X61.here hx rfl (hb hby D11_71) rfl ?_
            show Steps p.tables e below (T61.setTop (mkF m 72 #[.val (.int nn), .val (.int d0), .val (.int d1), .val (.int d2), .val (.int d3), .val (.int d4), .val (.int d5)] [(.int d2), (.int 2), (.ref fb53), (.ref fb53), (.ref fb49), (.ref fb49)])) _
            exact st64 _ kk
          have fc67 := ((((O49.ext E53).wr W58).wr W61).wr W64)
          have fc68 := ((((F49_value.ext E53).other W58 (Or.inl ne_fb49_fb53)).other W61 (Or.inl ne_fb49_fb53)).other W64 (Or.inl ne_fb49_fb53))
          have fc69 := ((((F49_coder.ext E53).other W58 (Or.inl ne_fb49_fb53)).other W61 (Or.inl ne_fb49_fb53)).other W64 (Or.inl ne_fb49_fb53))
          have fc70 := (((((XO.ext E49).ext E53).wr W58 lo_fb53).wr W61 lo_fb53).wr W64 lo_fb53)
          have fc72 := (Nat.le_trans (Nat.le_trans (Nat.le_trans (Nat.le_trans fc54 E53.1) (Keep.of_wr W58).1) (Keep.of_wr W61).1) (Keep.of_wr W64).1)
          obtain ⟨_, _, ⟨T71, L71, k71, n71⟩, -, X71, ⟨Lc71, hQ71, l71, y71, z71⟩, st71⟩ := X64.specialBack hx (y := (⟨"java/lang/String", "<init>", "([C)V"⟩ : MethodName)) rfl hown (mvT hZ (gw hw 75 rfl)) (mvT hZ (gw hw 76 rfl)) (mvT hZ (gw hw 77 rfl)) (by decide) (StrChars.Road.backV (W := 1) hZ hws (kI := 4) (gw hw 18 rfl) (cs := ([(nar .char d0), (nar .char d1), (nar .char d2)] : List Int32)) (bs := ([(nar .char d0), (nar .char d1), (nar .char d2)] : List Int32).map (fun c => c.toInt8.toInt32)) (n := 3) lo_fb49 fc72 fc67.exa fc68 fc69 V64 (O2.ext fc70.2) P5 rfl rfl (by decide) (by decide) (own_pc (own_nc hd0) (own_pc (own_nc hd1) (own_pc (own_nc hd2) own_p0))) rfl (by decide) (by decide)) (g := (mkF m 73 #[.val (.int nn), .val (.int d0), .val (.int d1), .val (.int d2), .val (.int d3), .val (.int d4), .val (.int d5)] [(.ref fb53), (.ref fb49), (.ref fb49)])) rfl (by rw [hml]; rfl) (Steps.refl _) (a := fb49) (argsL := [(.ref fb53)]) (rest := [(.ref fb49)]) (lenOf pd___C_V rfl) rfl (by show 2 * 0 + _ ≤ _; exact Nat.le_of_eq rfl) (hb hby D11_73) (fun _ _ => ⟨rfl, e64, (by decide : 2 + 1 ≤ _), (by decide : 7 + 3 ≤ _)⟩)
          dsimp only [Pt.U, Pt.locs, Pt.cells, Pt.slots] at X71 l71 y71 z71 st71 hQ71
          subst l71 y71 z71
          obtain ⟨rfl, N71q, K71, Ex71, Fc71, t71, kb71, u71, lo71, ne71, Fv71, Vt71⟩ := hQ71
          have N71 := Fr.app N64 N71q
          have SA73 : ∀ y ∈ [fb49], Safe Z own_EL _ _ y := (sfS sf65_fb49 sf0)
          have CR73 := CHr.trans CR65 (CHr.keep K71 SA73 CR65.1)
          have sf73_fb49 := (Safe.keep K71 SA73 CR65.1 sf65_fb49)
          have pre74 : ∀ t, Steps p.tables e below (T71.setTop (mkF m 76 #[.val (.int nn), .val (.int d0), .val (.int d1), .val (.int d2), .val (.int d3), .val (.int d4), .val (.int d5)] [(.ref fb49)])) t → Steps p.tables e below (s₁.setTop (entryFrame m #[(.int nn), (.int d0), (.int d1), (.int d2), (.int d3), (.int d4), (.int d5)] 7)) t := by
            intro t kk
            refine pre66 t ?_
            show Steps p.tables e below (T64.setTop (mkF m 73 #[.val (.int nn), .val (.int d0), .val (.int d1), .val (.int d2), .val (.int d3), .val (.int d4), .val (.int d5)] [(.ref fb53), (.ref fb49), (.ref fb49)])) _
            exact st71.trans kk
          have ne_fb53_t71 : fb53 ≠ t71 := Nat.ne_of_lt (Nat.lt_of_lt_of_le V64.lt lo71)
          have fc75 := (((((fc55.ext E53).wr W58 (Or.inr hi_fb53)).wr W61 (Or.inr hi_fb53)).wr W64 (Or.inr hi_fb53)).trans K71 (allS (Or.inr hi_fb49) all0))
          have fc76 := (fc67.keep K71)
          have fc77 := (Nat.le_trans (Nat.le_trans (Nat.le_trans (Nat.le_trans (Nat.le_trans (Nat.le_trans hk0 E49.1) E53.1) (Keep.of_wr W58).1) (Keep.of_wr W61).1) (Keep.of_wr W64).1) K71.1)
          obtain ⟨fs, hr, hrun, hended, hRW⟩ := X71.leaveW hS0 fc77 (v := some (.ref fb49)) (fun h => by rw [Bd.returns] at h; cases h)
          have CRe := CHr.trans CR73 (CHv.at X71 hZ hEL CR73.1)
          refine ⟨_, _, pre74 _ ?_, hrun, hended, _, _, rfl, ?_, ?_, hRW.1, hRW.2.1, hRW.2.2.1, hRW.2.2.2.mono (by decide) (by decide)⟩
          · show Steps p.tables e below (T71.setTop (mkF m 76 #[.val (.int nn), .val (.int d0), .val (.int d1), .val (.int d2), .val (.int d3), .val (.int d4), .val (.int d5)] [(.ref fb49)])) _
            jvm_step X71.here [X71.here.top, hx, (hb hby D11_76), X71.method', Bd.returns, Value.isRef, FieldType.isReference]
            first | (intro acts; rw [hr _ acts rfl rfl rfl]) | rw [hr _ _ rfl rfl rfl]
            exact Steps.refl _
          · show Q_own_make Z nn d0 d1 d2 d3 d4 d5 G1 h0 n0 _ T71.heap _
            exact ⟨_, rfl, N71, fc75, Or.inr ⟨fb49, t71, kb71, [(nar .char d0), (nar .char d1), (nar .char d2)], rfl, hi_fb49, fc76.exa, Fv71, Fc71, Vt71, Nat.le_of_ble_eq_true rfl, (own_pc (own_nc hd0) (own_pc (own_nc hd1) (own_pc (own_nc hd2) own_p0)))⟩⟩
          · show CHr Z own_EL s.vm s.heap T71.vm T71.heap
            rw [hh]
            exact CRe
        case neg =>
          by_cases hn4 : nn = (4 : Int32)
          case pos =>
            obtain ⟨fb78, g78⟩ : ∃ z, z = h0.size := ⟨_, rfl⟩
            have lo_fb78 : n0 ≤ fb78 := Nat.le_trans Z0 (Nat.le_of_eq g78.symm)
            have hi_fb78 : h0.size ≤ fb78 := Nat.le_trans (Keep.refl h0 []).1 (Nat.le_of_eq g78.symm)
            have sf79_fb78 : Safe Z own_EL _ _ fb78 := Safe.new (h := h0) (vm := s.vm) (Nat.le_of_eq g78.symm)
            obtain ⟨T78, h78, X78, e78, E78, A78, D78, B78, st78⟩ := newO X0 hx hZ hown (gw hw 73 rfl) (gw hw 18 rfl) (gw hw 10 rfl) e0 (g := (mkF m 82 #[.val (.int nn), .val (.int d0), .val (.int d1), .val (.int d2), .val (.int d3), .val (.int d4), .val (.int d5)] [])) rfl (hb hby D11_82) (by decide) (by decide)
            rw [← g78] at A78 D78 B78 st78
            have O78 := Obj.of A78 B78
            have CR80 := CHr.trans CR0 (CHr.ext E78 CR0.1)
            have sf80_fb78 := (Safe.ext E78 CR0.1 sf79_fb78)
            have F78_value : Fld Z h78 fb78 "java/lang/String" "value" "[B" .null := D78 (Or.inr (gw hw 31 rfl)) (ty := (.array .byte)) (by decide)
            have F78_coder : Fld Z h78 fb78 "java/lang/String" "coder" "B" (.int 0) := D78 (Or.inr (gw hw 33 rfl)) (ty := .byte) (by decide)
            have pre81 : ∀ t, Steps p.tables e below (T78.setTop (mkF m 85 #[.val (.int nn), .val (.int d0), .val (.int d1), .val (.int d2), .val (.int d3), .val (.int d4), .val (.int d5)] [(.ref fb78)])) t → Steps p.tables e below (s₁.setTop (entryFrame m #[(.int nn), (.int d0), (.int d1), (.int d2), (.int d3), (.int d4), (.int d5)] 7)) t := by
              intro t kk
              refine pre0 t ?_
              show Steps p.tables e below (s₁.setTop (mkF m 0 #[.val (.int nn), .val (.int d0), .val (.int d1), .val (.int d2), .val (.int d3), .val (.int d4), .val (.int d5)] [])) _
              refine XS.iloadN X0.here hx rfl (hb hby D11_0) rfl ?_
              show Steps p.tables e below (s₁.setTop (mkF m 1 #[.val (.int nn), .val (.int d0), .val (.int d1), .val (.int d2), .val (.int d3), .val (.int d4), .val (.int d5)] [(.int nn)])) _
              refine XS.ifYes X0.here hx rfl (pc0 := 1) (pc' := 15) rfl (hb hby D11_1) rfl ((if0 _ _).trans (feq hn0).2) (by decide) (by decide) ?_
              show Steps p.tables e below (s₁.setTop (mkF m 15 #[.val (.int nn), .val (.int d0), .val (.int d1), .val (.int d2), .val (.int d3), .val (.int d4), .val (.int d5)] [])) _
              refine XS.iloadN X0.here hx rfl (hb hby D11_15) rfl ?_
              show Steps p.tables e below (s₁.setTop (mkF m 16 #[.val (.int nn), .val (.int d0), .val (.int d1), .val (.int d2), .val (.int d3), .val (.int d4), .val (.int d5)] [(.int nn)])) _
              refine XS.iconst X0.here hx rfl (hb hby D11_16) ?_
              show Steps p.tables e below (s₁.setTop (mkF m 17 #[.val (.int nn), .val (.int d0), .val (.int d1), .val (.int d2), .val (.int d3), .val (.int d4), .val (.int d5)] [(.int 1), (.int nn)])) _
              refine XS.icmpYes X0.here hx rfl (pc0 := 17) (pc' := 25) rfl (hb hby D11_17) rfl (feq hn1).2 (by decide) (by decide) ?_
              show Steps p.tables e below (s₁.setTop (mkF m 25 #[.val (.int nn), .val (.int d0), .val (.int d1), .val (.int d2), .val (.int d3), .val (.int d4), .val (.int d5)] [])) _
              refine XS.iloadN X0.here hx rfl (hb hby D11_25) rfl ?_
              show Steps p.tables e below (s₁.setTop (mkF m 26 #[.val (.int nn), .val (.int d0), .val (.int d1), .val (.int d2), .val (.int d3), .val (.int d4), .val (.int d5)] [(.int nn)])) _
              refine XS.iconst X0.here hx rfl (hb hby D11_26) ?_
              show Steps p.tables e below (s₁.setTop (mkF m 27 #[.val (.int nn), .val (.int d0), .val (.int d1), .val (.int d2), .val (.int d3), .val (.int d4), .val (.int d5)] [(.int 2), (.int nn)])) _
              refine XS.icmpYes X0.here hx rfl (pc0 := 27) (pc' := 49) rfl (hb hby D11_27) rfl (feq hn2).2 (by decide) (by decide) ?_
              show Steps p.tables e below (s₁.setTop (mkF m 49 #[.val (.int nn), .val (.int d0), .val (.int d1), .val (.int d2), .val (.int d3), .val (.int d4), .val (.int d5)] [])) _
              refine XS.iloadN X0.here hx rfl (hb hby D11_49) rfl ?_
              show Steps p.tables e below (s₁.setTop (mkF m 50 #[.val (.int nn), .val (.int d0), .val (.int d1), .val (.int d2), .val (.int d3), .val (.int d4), .val (.int d5)] [(.int nn)])) _
              refine XS.iconst X0.here hx rfl (hb hby D11_50) ?_
              show Steps p.tables e below (s₁.setTop (mkF m 51 #[.val (.int nn), .val (.int d0), .val (.int d1), .val (.int d2), .val (.int d3), .val (.int d4), .val (.int d5)] [(.int 3), (.int nn)])) _
              refine XS.icmpYes X0.here hx rfl (pc0 := 51) (pc' := 77) rfl (hb hby D11_51) rfl (feq hn3).2 (by decide) (by decide) ?_
              show Steps p.tables e below (s₁.setTop (mkF m 77 #[.val (.int nn), .val (.int d0), .val (.int d1), .val (.int d2), .val (.int d3), .val (.int d4), .val (.int d5)] [])) _
              refine XS.iloadN X0.here hx rfl (hb hby D11_77) rfl ?_
              show Steps p.tables e below (s₁.setTop (mkF m 78 #[.val (.int nn), .val (.int d0), .val (.int d1), .val (.int d2), .val (.int d3), .val (.int d4), .val (.int d5)] [(.int nn)])) _
              refine XS.iconst X0.here hx rfl (hb hby D11_78) ?_
              show Steps p.tables e below (s₁.setTop (mkF m 79 #[.val (.int nn), .val (.int d0), .val (.int d1), .val (.int d2), .val (.int d3), .val (.int d4), .val (.int d5)] [(.int 4), (.int nn)])) _
              refine XS.icmpNo X0.here hx rfl (hb hby D11_79) rfl (teq hn4).2 ?_
              show Steps p.tables e below (s₁.setTop (mkF m 82 #[.val (.int nn), .val (.int d0), .val (.int d1), .val (.int d2), .val (.int d3), .val (.int d4), .val (.int d5)] [])) _
              exact st78 _ kk
            obtain ⟨fb82, g82⟩ : ∃ z, z = h78.size := ⟨_, rfl⟩
            have ne_fb78_fb82 : fb78 ≠ fb82 := Nat.ne_of_lt (Nat.lt_of_lt_of_le O78.lt (Nat.le_of_eq g82.symm))
            have fc83 := (Nat.le_trans Z0 E78.1)
            have lo_fb82 : n0 ≤ fb82 := Nat.le_trans fc83 (Nat.le_of_eq g82.symm)
            have fc84 := ((Keep.refl h0 []).ext E78)
            have hi_fb82 : h0.size ≤ fb82 := Nat.le_trans fc84.1 (Nat.le_of_eq g82.symm)
            obtain ⟨T82, h82, k82, X82, e82, E82, A82, st82⟩ := newP X78 hx hZ (gw hw 74 rfl) e78 (g := (mkF m 87 #[.val (.int nn), .val (.int d0), .val (.int d1), .val (.int d2), .val (.int d3), .val (.int d4), .val (.int d5)] [(.int 4), (.ref fb78), (.ref fb78)])) rfl (hb hby D11_87) rfl (by decide) (cap := 4) (by decide) (by decide) (by decide) (by decide)
            rw [← g82] at A82 st82
            have V82 : Arv Z h82 fb82 k82 .char (4 : Int32) [(.int 0), (.int 0), (.int 0), (.int 0)] (.int 0) := (Arv.new A82 (by decide)).pad (pad_rep [] (.int 0) 4)
            have CR85 := CHr.trans CR80 (CHr.ext E82 CR80.1)
            have sf85_fb78 := (Safe.ext E82 CR80.1 sf80_fb78)
            have pre86 : ∀ t, Steps p.tables e below (T82.setTop (mkF m 89 #[.val (.int nn), .val (.int d0), .val (.int d1), .val (.int d2), .val (.int d3), .val (.int d4), .val (.int d5)] [(.ref fb82), (.ref fb78), (.ref fb78)])) t → Steps p.tables e below (s₁.setTop (entryFrame m #[(.int nn), (.int d0), (.int d1), (.int d2), (.int d3), (.int d4), (.int d5)] 7)) t := by
              intro t kk
              refine pre81 t ?_
              show Steps p.tables e below (T78.setTop (mkF m 85 #[.val (.int nn), .val (.int d0), .val (.int d1), .val (.int d2), .val (.int d3), .val (.int d4), .val (.int d5)] [(.ref fb78)])) _
              refine XS.dup X78.here hx rfl (hb hby D11_85) rfl rfl ?_
              show Steps p.tables e below (T78.setTop (mkF m 86 #[.val (.int nn), .val (.int d0), .val (.int d1), .val (.int d2), .val (.int d3), .val (.int d4), .val (.int d5)] [(.ref fb78), (.ref fb78)])) _
              refine XS.iconst X78.here hx rfl (hb hby D11_86) ?_
              show Steps p.tables e below (T78.setTop (mkF m 87 #[.val (.int nn), .val (.int d0), .val (.int d1), .val (.int d2), .val (.int d3), .val (.int d4), .val (.int d5)] [(.int 4), (.ref fb78), (.ref fb78)])) _
              exact st82 _ kk
            obtain ⟨cl87, Ar87, q87, S87, M87, H87, G87⟩ := id V82
            obtain ⟨T87, h87, X87, e87, W87, st87⟩ := stC X82 hx hZ e82 Ar87 (j := (0 : Int32)) (inb_of S87 ⟨(by decide), (by decide)⟩) (g := (mkF m 92 #[.val (.int nn), .val (.int d0), .val (.int d1), .val (.int d2), .val (.int d3), .val (.int d4), .val (.int d5)] [(.int d0), (.int 0), (.ref fb82), (.ref fb82), (.ref fb78), (.ref fb78)])) rfl rfl (hb hby D11_92)
            have V87 : Arv Z h87 fb82 k82 .char (4 : Int32) [(.int (nar .char d0)), (.int 0), (.int 0), (.int 0)] (.int 0) := Arv.set Ar87 q87 S87 M87 H87 G87 (fits_nar_char _) W87 0 rfl (Nat.le_of_ble_eq_true rfl)
            have SA88 := (Safe.arv (EL := own_EL) hZ.alike V82 (by decide))
            have CR88 := CHr.trans CR85 (CHr.wr W87 SA88 CR85.1)
            have sf88_fb78 := (Safe.wr W87 SA88 CR85.1 sf85_fb78)
            have N87 := Fr.snoc X87 N0 lo_fb82
            have pre89 : ∀ t, Steps p.tables e below (T87.setTop (mkF m 93 #[.val (.int nn), .val (.int d0), .val (.int d1), .val (.int d2), .val (.int d3), .val (.int d4), .val (.int d5)] [(.ref fb82), (.ref fb78), (.ref fb78)])) t → Steps p.tables e below (s₁.setTop (entryFrame m #[(.int nn), (.int d0), (.int d1), (.int d2), (.int d3), (.int d4), (.int d5)] 7)) t := by
              intro t kk
              refine pre86 t ?_
              show Steps p.tables e below (T82.setTop (mkF m 89 #[.val (.int nn), .val (.int d0), .val (.int d1), .val (.int d2), .val (.int d3), .val (.int d4), .val (.int d5)] [(.ref fb82), (.ref fb78), (.ref fb78)])) _
              refine XS.dup X82.here hx rfl (hb hby D11_89) rfl rfl ?_
              show Steps p.tables e below (T82.setTop (mkF m 90 #[.val (.int nn), .val (.int d0), .val (.int d1), .val (.int d2), .val (.int d3), .val (.int d4), .val (.int d5)] [(.ref fb82), (.ref fb82), (.ref fb78), (.ref fb78)])) _
              refine XS.iconst X82.here hx rfl (hb hby D11_90) ?_
              show Steps p.tables e below (T82.setTop (mkF m 91 #[.val (.int nn), .val (.int d0), .val (.int d1), .val (.int d2), .val (.int d3), .val (.int d4), .val (.int d5)] [(.int 0), (.ref fb82), (.ref fb82), (.ref fb78), (.ref fb78)])) _
              refine XS.iloadN X82.here hx rfl (hb hby D11_91) rfl ?_
              show Steps p.tables e below (T82.setTop (mkF m 92 #[.val (.int nn), .val (.int d0), .val (.int d1), .val (.int d2), .val (.int d3), .val (.int d4), .val (.int d5)] [(.int d0), (.int 0), (.ref fb82), (.ref fb82), (.ref fb78), (.ref fb78)])) _
              exact st87 _ kk
            obtain ⟨cl90, Ar90, q90, S90, M90, H90, G90⟩ := id V87
            obtain ⟨T90, h90, X90, e90, W90, st90⟩ := stC X87 hx hZ e87 Ar90 (j := (1 : Int32)) (inb_of S90 ⟨(by decide), (by decide)⟩) (g := (mkF m 96 #[.val (.int nn), .val (.int d0), .val (.int d1), .val (.int d2), .val (.int d3), .val (.int d4), .val (.int d5)] [(.int d1), (.int 1), (.ref fb82), (.ref fb82), (.ref fb78), (.ref fb78)])) rfl rfl (hb hby D11_96)
            have V90 : Arv Z h90 fb82 k82 .char (4 : Int32) [(.int (nar .char d0)), (.int (nar .char d1)), (.int 0), (.int 0)] (.int 0) := Arv.set Ar90 q90 S90 M90 H90 G90 (fits_nar_char _) W90 1 rfl (Nat.le_of_ble_eq_true rfl)
            have SA91 := (Safe.arv (EL := own_EL) hZ.alike V87 (by decide))
            have CR91 := CHr.trans CR88 (CHr.wr W90 SA91 CR88.1)
            have sf91_fb78 := (Safe.wr W90 SA91 CR88.1 sf88_fb78)
            have N90 := Fr.snoc X90 N87 lo_fb82
            have pre92 : ∀ t, Steps p.tables e below (T90.setTop (mkF m 97 #[.val (.int nn), .val (.int d0), .val (.int d1), .val (.int d2), .val (.int d3), .val (.int d4), .val (.int d5)] [(.ref fb82), (.ref fb78), (.ref fb78)])) t → Steps p.tables e below (s₁.setTop (entryFrame m #[(.int nn), (.int d0), (.int d1), (.int d2), (.int d3), (.int d4), (.int d5)] 7)) t := by
              intro t kk
              refine pre89 t ?_
              show Steps p.tables e below (T87.setTop (mkF m 93 #[.val (.int nn), .val (.int d0), .val (.int d1), .val (.int d2), .val (.int d3), .val (.int d4), .val (.int d5)] [(.ref fb82), (.ref fb78), (.ref fb78)])) _
              refine XS.dup X87.here hx rfl (hb hby D11_93) rfl rfl ?_
              show Steps p.tables e below (T87.setTop (mkF m 94 #[.val (.int nn), .val (.int d0), .val (.int d1), .val (.int d2), .val (.int d3), .val (.int d4), .val (.int d5)] [(.ref fb82), (.ref fb82), (.ref fb78), (.ref fb78)])) _
              refine XS.iconst X87.here hx rfl (hb hby D11_94) ?_
              show Steps p.tables e below (T87.setTop (mkF m 95 #[.val (.int nn), .val (.int d0), .val (.int d1), .val (.int d2), .val (.int d3), .val (.int d4), .val (.int d5)] [(.int 1), (.ref fb82), (.ref fb82), (.ref fb78), (.ref fb78)])) _
              refine XS.iloadN X87.here hx rfl (hb hby D11_95) rfl ?_
              show Steps p.tables e below (T87.setTop (mkF m 96 #[.val (.int nn), .val (.int d0), .val (.int d1), .val (.int d2), .val (.int d3), .val (.int d4), .val (.int d5)] [(.int d1), (.int 1), (.ref fb82), (.ref fb82), (.ref fb78), (.ref fb78)])) _
              exact st90 _ kk
            obtain ⟨cl93, Ar93, q93, S93, M93, H93, G93⟩ := id V90
            obtain ⟨T93, h93, X93, e93, W93, st93⟩ := stC X90 hx hZ e90 Ar93 (j := (2 : Int32)) (inb_of S93 ⟨(by decide), (by decide)⟩) (g := (mkF m 100 #[.val (.int nn), .val (.int d0), .val (.int d1), .val (.int d2), .val (.int d3), .val (.int d4), .val (.int d5)] [(.int d2), (.int 2), (.ref fb82), (.ref fb82), (.ref fb78), (.ref fb78)])) rfl rfl (hb hby D11_100)
            have V93 : Arv Z h93 fb82 k82 .char (4 : Int32) [(.int (nar .char d0)), (.int (nar .char d1)), (.int (nar .char d2)), (.int 0)] (.int 0) := Arv.set Ar93 q93 S93 M93 H93 G93 (fits_nar_char _) W93 2 rfl (Nat.le_of_ble_eq_true rfl)
            have SA94 := (Safe.arv (EL := own_EL) hZ.alike V90 (by decide))
            have CR94 := CHr.trans CR91 (CHr.wr W93 SA94 CR91.1)
            have sf94_fb78 := (Safe.wr W93 SA94 CR91.1 sf91_fb78)
            have N93 := Fr.snoc X93 N90 lo_fb82
            have pre95 : ∀ t, Steps p.tables e below (T93.setTop (mkF m 101 #[.val (.int nn), .val (.int d0), .val (.int d1), .val (.int d2), .val (.int d3), .val (.int d4), .val (.int d5)] [(.ref fb82), (.ref fb78), (.ref fb78)])) t → Steps p.tables e below (s₁.setTop (entryFrame m #[(.int nn), (.int d0), (.int d1), (.int d2), (.int d3), (.int d4), (.int d5)] 7)) t := by
              intro t kk
              refine pre92 t ?_
              show Steps p.tables e below (T90.setTop (mkF m 97 #[.val (.int nn), .val (.int d0), .val (.int d1), .val (.int d2), .val (.int d3), .val (.int d4), .val (.int d5)] [(.ref fb82), (.ref fb78), (.ref fb78)])) _
              refine XS.dup X90.here hx rfl (hb hby D11_97) rfl rfl ?_
              show Steps p.tables e below (T90.setTop (mkF m 98 #[.val (.int nn), .val (.int d0), .val (.int d1), .val (.int d2), .val (.int d3), .val (.int d4), .val (.int d5)] [(.ref fb82), (.ref fb82), (.ref fb78), (.ref fb78)])) _
              refine XS.iconst X90.here hx rfl (hb hby D11_98) ?_
              show Steps p.tables e below (T90.setTop (mkF m 99 #[.val (.int nn), .val (.int d0), .val (.int d1), .val (.int d2), .val (.int d3), .val (.int d4), .val (.int d5)] [(.int 2), (.ref fb82), (.ref fb82), (.ref fb78), (.ref fb78)])) _
              refine XS.iloadN X90.here hx rfl (hb hby D11_99) rfl ?_
              show Steps p.tables e below (T90.setTop (mkF m 100 #[.val (.int nn), .val (.int d0), .val (.int d1), .val (.int d2), .val (.int d3), .val (.int d4), .val (.int d5)] [(.int d2), (.int 2), (.ref fb82), (.ref fb82), (.ref fb78), (.ref fb78)])) _
              exact st93 _ kk
            obtain ⟨cl96, Ar96, q96, S96, M96, H96, G96⟩ := id V93
            obtain ⟨T96, h96, X96, e96, W96, st96⟩ := stC X93 hx hZ e93 Ar96 (j := (3 : Int32)) (inb_of S96 ⟨(by decide), (by decide)⟩) (g := (mkF m 105 #[.val (.int nn), .val (.int d0), .val (.int d1), .val (.int d2), .val (.int d3), .val (.int d4), .val (.int d5)] [(.int d3), (.int 3), (.ref fb82), (.ref fb82), (.ref fb78), (.ref fb78)])) rfl rfl (hb hby D11_105)
            have V96 : Arv Z h96 fb82 k82 .char (4 : Int32) [(.int (nar .char d0)), (.int (nar .char d1)), (.int (nar .char d2)), (.int (nar .char d3))] (.int 0) := Arv.set Ar96 q96 S96 M96 H96 G96 (fits_nar_char _) W96 3 rfl (Nat.le_of_ble_eq_true rfl)
            have SA97 := (Safe.arv (EL := own_EL) hZ.alike V93 (by decide))
            have CR97 := CHr.trans CR94 (CHr.wr W96 SA97 CR94.1)
            have sf97_fb78 := (Safe.wr W96 SA97 CR94.1 sf94_fb78)
            have N96 := Fr.snoc X96 N93 lo_fb82
            have pre98 : ∀ t, Steps p.tables e below (T96.setTop (mkF m 106 #[.val (.int nn), .val (.int d0), .val (.int d1), .val (.int d2), .val (.int d3), .val (.int d4), .val (.int d5)] [(.ref fb82), (.ref fb78), (.ref fb78)])) t → Steps p.tables e below (s₁.setTop (entryFrame m #[(.int nn), (.int d0), (.int d1), (.int d2), (.int d3), (.int d4), (.int d5)] 7)) t := by
              intro t kk
              refine pre95 t ?_
              show Steps p.tables e below (T93.setTop (mkF m 101 #[.val (.int nn), .val (.int d0), .val (.int d1), .val (.int d2), .val (.int d3), .val (.int d4), .val (.int d5)] [(.ref fb82), (.ref fb78), (.ref fb78)])) _
              refine XS.dup X93.here hx rfl (hb hby D11_101) rfl rfl ?_
              show Steps p.tables e below (T93.setTop (mkF m 102 #[.val (.int nn), .val (.int d0), .val (.int d1), .val (.int d2), .val (.int d3), .val (.int d4), .val (.int d5)] [(.ref fb82), (.ref fb82), (.ref fb78), (.ref fb78)])) _
              refine XS.iconst X93.here hx rfl (hb hby D11_102) ?_
              show Steps p.tables e below (T93.setTop (mkF m 103 #[.val (.int nn), .val (.int d0), .val (.int d1), .val (.int d2), .val (.int d3), .val (.int d4), .val (.int d5)] [(.int 3), (.ref fb82), (.ref fb82), (.ref fb78), (.ref fb78)])) _
              refine XS.iload X93.here hx rfl (hb hby D11_103) rfl ?_
              show Steps p.tables e below (T93.setTop (mkF m 105 #[.val (.int nn), .val (.int d0), .val (.int d1), .val (.int d2), .val (.int d3), .val (.int d4), .val (.int d5)] [(.int d3), (.int 3), (.ref fb82), (.ref fb82), (.ref fb78), (.ref fb78)])) _
              exact st96 _ kk
            have fc99 := (((((O78.ext E82).wr W87).wr W90).wr W93).wr W96)
            have fc100 := (((((F78_value.ext E82).other W87 (Or.inl ne_fb78_fb82)).other W90 (Or.inl ne_fb78_fb82)).other W93 (Or.inl ne_fb78_fb82)).other W96 (Or.inl ne_fb78_fb82))
            have fc101 := (((((F78_coder.ext E82).other W87 (Or.inl ne_fb78_fb82)).other W90 (Or.inl ne_fb78_fb82)).other W93 (Or.inl ne_fb78_fb82)).other W96 (Or.inl ne_fb78_fb82))
            have fc102 := ((((((XO.ext E78).ext E82).wr W87 lo_fb82).wr W90 lo_fb82).wr W93 lo_fb82).wr W96 lo_fb82)
            have fc104 := (Nat.le_trans (Nat.le_trans (Nat.le_trans (Nat.le_trans (Nat.le_trans fc83 E82.1) (Keep.of_wr W87).1) (Keep.of_wr W90).1) (Keep.of_wr W93).1) (Keep.of_wr W96).1)
            obtain ⟨_, _, ⟨T103, L103, k103, n103⟩, -, X103, ⟨Lc103, hQ103, l103, y103, z103⟩, st103⟩ := X96.specialBack hx (y := (⟨"java/lang/String", "<init>", "([C)V"⟩ : MethodName)) rfl hown (mvT hZ (gw hw 75 rfl)) (mvT hZ (gw hw 76 rfl)) (mvT hZ (gw hw 77 rfl)) (by decide) (StrChars.Road.backV (W := 1) hZ hws (kI := 4) (gw hw 18 rfl) (cs := ([(nar .char d0), (nar .char d1), (nar .char d2), (nar .char d3)] : List Int32)) (bs := ([(nar .char d0), (nar .char d1), (nar .char d2), (nar .char d3)] : List Int32).map (fun c => c.toInt8.toInt32)) (n := 4) lo_fb78 fc104 fc99.exa fc100 fc101 V96 (O2.ext fc102.2) P5 rfl rfl (by decide) (by decide) (own_pc (own_nc hd0) (own_pc (own_nc hd1) (own_pc (own_nc hd2) (own_pc (own_nc hd3) own_p0)))) rfl (by decide) (by decide)) (g := (mkF m 106 #[.val (.int nn), .val (.int d0), .val (.int d1), .val (.int d2), .val (.int d3), .val (.int d4), .val (.int d5)] [(.ref fb82), (.ref fb78), (.ref fb78)])) rfl (by rw [hml]; rfl) (Steps.refl _) (a := fb78) (argsL := [(.ref fb82)]) (rest := [(.ref fb78)]) (lenOf pd___C_V rfl) rfl (by show 2 * 0 + _ ≤ _; exact Nat.le_of_eq rfl) (hb hby D11_106) (fun _ _ => ⟨rfl, e96, (by decide : 2 + 1 ≤ _), (by decide : 8 + 4 ≤ _)⟩)
            dsimp only [Pt.U, Pt.locs, Pt.cells, Pt.slots] at X103 l103 y103 z103 st103 hQ103
            subst l103 y103 z103
            obtain ⟨rfl, N103q, K103, Ex103, Fc103, t103, kb103, u103, lo103, ne103, Fv103, Vt103⟩ := hQ103
            have N103 := Fr.app N96 N103q
            have SA105 : ∀ y ∈ [fb78], Safe Z own_EL _ _ y := (sfS sf97_fb78 sf0)
            have CR105 := CHr.trans CR97 (CHr.keep K103 SA105 CR97.1)
            have sf105_fb78 := (Safe.keep K103 SA105 CR97.1 sf97_fb78)
            have pre106 : ∀ t, Steps p.tables e below (T103.setTop (mkF m 109 #[.val (.int nn), .val (.int d0), .val (.int d1), .val (.int d2), .val (.int d3), .val (.int d4), .val (.int d5)] [(.ref fb78)])) t → Steps p.tables e below (s₁.setTop (entryFrame m #[(.int nn), (.int d0), (.int d1), (.int d2), (.int d3), (.int d4), (.int d5)] 7)) t := by
              intro t kk
              refine pre98 t ?_
              show Steps p.tables e below (T96.setTop (mkF m 106 #[.val (.int nn), .val (.int d0), .val (.int d1), .val (.int d2), .val (.int d3), .val (.int d4), .val (.int d5)] [(.ref fb82), (.ref fb78), (.ref fb78)])) _
              exact st103.trans kk
            have ne_fb82_t103 : fb82 ≠ t103 := Nat.ne_of_lt (Nat.lt_of_lt_of_le V96.lt lo103)
            have fc107 := ((((((fc84.ext E82).wr W87 (Or.inr hi_fb82)).wr W90 (Or.inr hi_fb82)).wr W93 (Or.inr hi_fb82)).wr W96 (Or.inr hi_fb82)).trans K103 (allS (Or.inr hi_fb78) all0))
            have fc108 := (fc99.keep K103)
            have fc109 := (Nat.le_trans (Nat.le_trans (Nat.le_trans (Nat.le_trans (Nat.le_trans (Nat.le_trans (Nat.le_trans hk0 E78.1) E82.1) (Keep.of_wr W87).1) (Keep.of_wr W90).1) (Keep.of_wr W93).1) (Keep.of_wr W96).1) K103.1)
            obtain ⟨fs, hr, hrun, hended, hRW⟩ := X103.leaveW hS0 fc109 (v := some (.ref fb78)) (fun h => by rw [Bd.returns] at h; cases h)
            have CRe := CHr.trans CR105 (CHv.at X103 hZ hEL CR105.1)
            refine ⟨_, _, pre106 _ ?_, hrun, hended, _, _, rfl, ?_, ?_, hRW.1, hRW.2.1, hRW.2.2.1, hRW.2.2.2.mono (by decide) (by decide)⟩
            · show Steps p.tables e below (T103.setTop (mkF m 109 #[.val (.int nn), .val (.int d0), .val (.int d1), .val (.int d2), .val (.int d3), .val (.int d4), .val (.int d5)] [(.ref fb78)])) _
              jvm_step X103.here [X103.here.top, hx, (hb hby D11_109), X103.method', Bd.returns, Value.isRef, FieldType.isReference]
              first | (intro acts; rw [hr _ acts rfl rfl rfl]) | rw [hr _ _ rfl rfl rfl]
              exact Steps.refl _
            · show Q_own_make Z nn d0 d1 d2 d3 d4 d5 G1 h0 n0 _ T103.heap _
              exact ⟨_, rfl, N103, fc107, Or.inr ⟨fb78, t103, kb103, [(nar .char d0), (nar .char d1), (nar .char d2), (nar .char d3)], rfl, hi_fb78, fc108.exa, Fv103, Fc103, Vt103, Nat.le_of_ble_eq_true rfl, (own_pc (own_nc hd0) (own_pc (own_nc hd1) (own_pc (own_nc hd2) (own_pc (own_nc hd3) own_p0))))⟩⟩
            · show CHr Z own_EL s.vm s.heap T103.vm T103.heap
              rw [hh]
              exact CRe
          case neg =>
            by_cases hn5 : nn = (5 : Int32)
            case pos =>
              obtain ⟨fb110, g110⟩ : ∃ z, z = h0.size := ⟨_, rfl⟩
              have lo_fb110 : n0 ≤ fb110 := Nat.le_trans Z0 (Nat.le_of_eq g110.symm)
              have hi_fb110 : h0.size ≤ fb110 := Nat.le_trans (Keep.refl h0 []).1 (Nat.le_of_eq g110.symm)
              have sf111_fb110 : Safe Z own_EL _ _ fb110 := Safe.new (h := h0) (vm := s.vm) (Nat.le_of_eq g110.symm)
              obtain ⟨T110, h110, X110, e110, E110, A110, D110, B110, st110⟩ := newO X0 hx hZ hown (gw hw 73 rfl) (gw hw 18 rfl) (gw hw 10 rfl) e0 (g := (mkF m 115 #[.val (.int nn), .val (.int d0), .val (.int d1), .val (.int d2), .val (.int d3), .val (.int d4), .val (.int d5)] [])) rfl (hb hby D11_115) (by decide) (by decide)
              rw [← g110] at A110 D110 B110 st110
              have O110 := Obj.of A110 B110
              have CR112 := CHr.trans CR0 (CHr.ext E110 CR0.1)
              have sf112_fb110 := (Safe.ext E110 CR0.1 sf111_fb110)
              have F110_value : Fld Z h110 fb110 "java/lang/String" "value" "[B" .null := D110 (Or.inr (gw hw 31 rfl)) (ty := (.array .byte)) (by decide)
              have F110_coder : Fld Z h110 fb110 "java/lang/String" "coder" "B" (.int 0) := D110 (Or.inr (gw hw 33 rfl)) (ty := .byte) (by decide)
              have pre113 : ∀ t, Steps p.tables e below (T110.setTop (mkF m 118 #[.val (.int nn), .val (.int d0), .val (.int d1), .val (.int d2), .val (.int d3), .val (.int d4), .val (.int d5)] [(.ref fb110)])) t → Steps p.tables e below (s₁.setTop (entryFrame m #[(.int nn), (.int d0), (.int d1), (.int d2), (.int d3), (.int d4), (.int d5)] 7)) t := by
                intro t kk
                refine pre0 t ?_
                show Steps p.tables e below (s₁.setTop (mkF m 0 #[.val (.int nn), .val (.int d0), .val (.int d1), .val (.int d2), .val (.int d3), .val (.int d4), .val (.int d5)] [])) _
                refine XS.iloadN X0.here hx rfl (hb hby D11_0) rfl ?_
                show Steps p.tables e below (s₁.setTop (mkF m 1 #[.val (.int nn), .val (.int d0), .val (.int d1), .val (.int d2), .val (.int d3), .val (.int d4), .val (.int d5)] [(.int nn)])) _
                refine XS.ifYes X0.here hx rfl (pc0 := 1) (pc' := 15) rfl (hb hby D11_1) rfl ((if0 _ _).trans (feq hn0).2) (by decide) (by decide) ?_
                show Steps p.tables e below (s₁.setTop (mkF m 15 #[.val (.int nn), .val (.int d0), .val (.int d1), .val (.int d2), .val (.int d3), .val (.int d4), .val (.int d5)] [])) _
                refine XS.iloadN X0.here hx rfl (hb hby D11_15) rfl ?_
                show Steps p.tables e below (s₁.setTop (mkF m 16 #[.val (.int nn), .val (.int d0), .val (.int d1), .val (.int d2), .val (.int d3), .val (.int d4), .val (.int d5)] [(.int nn)])) _
                refine XS.iconst X0.here hx rfl (hb hby D11_16) ?_
                show Steps p.tables e below (s₁.setTop (mkF m 17 #[.val (.int nn), .val (.int d0), .val (.int d1), .val (.int d2), .val (.int d3), .val (.int d4), .val (.int d5)] [(.int 1), (.int nn)])) _
                refine XS.icmpYes X0.here hx rfl (pc0 := 17) (pc' := 25) rfl (hb hby D11_17) rfl (feq hn1).2 (by decide) (by decide) ?_
                show Steps p.tables e below (s₁.setTop (mkF m 25 #[.val (.int nn), .val (.int d0), .val (.int d1), .val (.int d2), .val (.int d3), .val (.int d4), .val (.int d5)] [])) _
                refine XS.iloadN X0.here hx rfl (hb hby D11_25) rfl ?_
                show Steps p.tables e below (s₁.setTop (mkF m 26 #[.val (.int nn), .val (.int d0), .val (.int d1), .val (.int d2), .val (.int d3), .val (.int d4), .val (.int d5)] [(.int nn)])) _
                refine XS.iconst X0.here hx rfl (hb hby D11_26) ?_
                show Steps p.tables e below (s₁.setTop (mkF m 27 #[.val (.int nn), .val (.int d0), .val (.int d1), .val (.int d2), .val (.int d3), .val (.int d4), .val (.int d5)] [(.int 2), (.int nn)])) _
                refine XS.icmpYes X0.here hx rfl (pc0 := 27) (pc' := 49) rfl (hb hby D11_27) rfl (feq hn2).2 (by decide) (by decide) ?_
                show Steps p.tables e below (s₁.setTop (mkF m 49 #[.val (.int nn), .val (.int d0), .val (.int d1), .val (.int d2), .val (.int d3), .val (.int d4), .val (.int d5)] [])) _
                refine XS.iloadN X0.here hx rfl (hb hby D11_49) rfl ?_
                show Steps p.tables e below (s₁.setTop (mkF m 50 #[.val (.int nn), .val (.int d0), .val (.int d1), .val (.int d2), .val (.int d3), .val (.int d4), .val (.int d5)] [(.int nn)])) _
                refine XS.iconst X0.here hx rfl (hb hby D11_50) ?_
                show Steps p.tables e below (s₁.setTop (mkF m 51 #[.val (.int nn), .val (.int d0), .val (.int d1), .val (.int d2), .val (.int d3), .val (.int d4), .val (.int d5)] [(.int 3), (.int nn)])) _
                refine XS.icmpYes X0.here hx rfl (pc0 := 51) (pc' := 77) rfl (hb hby D11_51) rfl (feq hn3).2 (by decide) (by decide) ?_
                show Steps p.tables e below (s₁.setTop (mkF m 77 #[.val (.int nn), .val (.int d0), .val (.int d1), .val (.int d2), .val (.int d3), .val (.int d4), .val (.int d5)] [])) _
                refine XS.iloadN X0.here hx rfl (hb hby D11_77) rfl ?_
                show Steps p.tables e below (s₁.setTop (mkF m 78 #[.val (.int nn), .val (.int d0), .val (.int d1), .val (.int d2), .val (.int d3), .val (.int d4), .val (.int d5)] [(.int nn)])) _
                refine XS.iconst X0.here hx rfl (hb hby D11_78) ?_
                show Steps p.tables e below (s₁.setTop (mkF m 79 #[.val (.int nn), .val (.int d0), .val (.int d1), .val (.int d2), .val (.int d3), .val (.int d4), .val (.int d5)] [(.int 4), (.int nn)])) _
                refine XS.icmpYes X0.here hx rfl (pc0 := 79) (pc' := 110) rfl (hb hby D11_79) rfl (feq hn4).2 (by decide) (by decide) ?_
                show Steps p.tables e below (s₁.setTop (mkF m 110 #[.val (.int nn), .val (.int d0), .val (.int d1), .val (.int d2), .val (.int d3), .val (.int d4), .val (.int d5)] [])) _
                refine XS.iloadN X0.here hx rfl (hb hby D11_110) rfl ?_
                show Steps p.tables e below (s₁.setTop (mkF m 111 #[.val (.int nn), .val (.int d0), .val (.int d1), .val (.int d2), .val (.int d3), .val (.int d4), .val (.int d5)] [(.int nn)])) _
                refine XS.iconst X0.here hx rfl (hb hby D11_111) ?_
                show Steps p.tables e below (s₁.setTop (mkF m 112 #[.val (.int nn), .val (.int d0), .val (.int d1), .val (.int d2), .val (.int d3), .val (.int d4), .val (.int d5)] [(.int 5), (.int nn)])) _
                refine XS.icmpNo X0.here hx rfl (hb hby D11_112) rfl (teq hn5).2 ?_
                show Steps p.tables e below (s₁.setTop (mkF m 115 #[.val (.int nn), .val (.int d0), .val (.int d1), .val (.int d2), .val (.int d3), .val (.int d4), .val (.int d5)] [])) _
                exact st110 _ kk
              obtain ⟨fb114, g114⟩ : ∃ z, z = h110.size := ⟨_, rfl⟩
              have ne_fb110_fb114 : fb110 ≠ fb114 := Nat.ne_of_lt (Nat.lt_of_lt_of_le O110.lt (Nat.le_of_eq g114.symm))
              have fc115 := (Nat.le_trans Z0 E110.1)
              have lo_fb114 : n0 ≤ fb114 := Nat.le_trans fc115 (Nat.le_of_eq g114.symm)
              have fc116 := ((Keep.refl h0 []).ext E110)
              have hi_fb114 : h0.size ≤ fb114 := Nat.le_trans fc116.1 (Nat.le_of_eq g114.symm)
              obtain ⟨T114, h114, k114, X114, e114, E114, A114, st114⟩ := newP X110 hx hZ (gw hw 74 rfl) e110 (g := (mkF m 120 #[.val (.int nn), .val (.int d0), .val (.int d1), .val (.int d2), .val (.int d3), .val (.int d4), .val (.int d5)] [(.int 5), (.ref fb110), (.ref fb110)])) rfl (hb hby D11_120) rfl (by decide) (cap := 5) (by decide) (by decide) (by decide) (by decide)
              rw [← g114] at A114 st114
              have V114 : Arv Z h114 fb114 k114 .char (5 : Int32) [(.int 0), (.int 0), (.int 0), (.int 0), (.int 0)] (.int 0) := (Arv.new A114 (by decide)).pad (pad_rep [] (.int 0) 5)
              have CR117 := CHr.trans CR112 (CHr.ext E114 CR112.1)
              have sf117_fb110 := (Safe.ext E114 CR112.1 sf112_fb110)
              have pre118 : ∀ t, Steps p.tables e below (T114.setTop (mkF m 122 #[.val (.int nn), .val (.int d0), .val (.int d1), .val (.int d2), .val (.int d3), .val (.int d4), .val (.int d5)] [(.ref fb114), (.ref fb110), (.ref fb110)])) t → Steps p.tables e below (s₁.setTop (entryFrame m #[(.int nn), (.int d0), (.int d1), (.int d2), (.int d3), (.int d4), (.int d5)] 7)) t := by
                intro t kk
                refine pre113 t ?_
                show Steps p.tables e below (T110.setTop (mkF m 118 #[.val (.int nn), .val (.int d0), .val (.int d1), .val (.int d2), .val (.int d3), .val (.int d4), .val (.int d5)] [(.ref fb110)])) _
                refine XS.dup X110.here hx rfl (hb hby D11_118) rfl rfl ?_
                show Steps p.tables e below (T110.setTop (mkF m 119 #[.val (.int nn), .val (.int d0), .val (.int d1), .val (.int d2), .val (.int d3), .val (.int d4), .val (.int d5)] [(.ref fb110), (.ref fb110)])) _
                refine XS.iconst X110.here hx rfl (hb hby D11_119) ?_
                show Steps p.tables e below (T110.setTop (mkF m 120 #[.val (.int nn), .val (.int d0), .val (.int d1), .val (.int d2), .val (.int d3), .val (.int d4), .val (.int d5)] [(.int 5), (.ref fb110), (.ref fb110)])) _
                exact st114 _ kk
              obtain ⟨cl119, Ar119, q119, S119, M119, H119, G119⟩ := id V114
              obtain ⟨T119, h119, X119, e119, W119, st119⟩ := stC X114 hx hZ e114 Ar119 (j := (0 : Int32)) (inb_of S119 ⟨(by decide), (by decide)⟩) (g := (mkF m 125 #[.val (.int nn), .val (.int d0), .val (.int d1), .val (.int d2), .val (.int d3), .val (.int d4), .val (.int d5)] [(.int d0), (.int 0), (.ref fb114), (.ref fb114), (.ref fb110), (.ref fb110)])) rfl rfl (hb hby D11_125)
              have V119 : Arv Z h119 fb114 k114 .char (5 : Int32) [(.int (nar .char d0)), (.int 0), (.int 0), (.int 0), (.int 0)] (.int 0) := Arv.set Ar119 q119 S119 M119 H119 G119 (fits_nar_char _) W119 0 rfl (Nat.le_of_ble_eq_true rfl)
              have SA120 := (Safe.arv (EL := own_EL) hZ.alike V114 (by decide))
              have CR120 := CHr.trans CR117 (CHr.wr W119 SA120 CR117.1)
              have sf120_fb110 := (Safe.wr W119 SA120 CR117.1 sf117_fb110)
              have N119 := Fr.snoc X119 N0 lo_fb114
              have pre121 : ∀ t, Steps p.tables e below (T119.setTop (mkF m 126 #[.val (.int nn), .val (.int d0), .val (.int d1), .val (.int d2), .val (.int d3), .val (.int d4), .val (.int d5)] [(.ref fb114), (.ref fb110), (.ref fb110)])) t → Steps p.tables e below (s₁.setTop (entryFrame m #[(.int nn), (.int d0), (.int d1), (.int d2), (.int d3), (.int d4), (.int d5)] 7)) t := by
                intro t kk
                refine pre118 t ?_
                show Steps p.tables e below (T114.setTop (mkF m 122 #[.val (.int nn), .val (.int d0), .val (.int d1), .val (.int d2), .val (.int d3), .val (.int d4), .val (.int d5)] [(.ref fb114), (.ref fb110), (.ref fb110)])) _
                refine XS.dup X114.here hx rfl (hb hby D11_122) rfl rfl ?_
                show Steps p.tables e below (T114.setTop (mkF m 123 #[.val (.int nn), .val (.int d0), .val (.int d1), .val (.int d2), .val (.int d3), .val (.int d4), .val (.int d5)] [(.ref fb114), (.ref fb114), (.ref fb110), (.ref fb110)])) _
                refine XS.iconst X114.here hx rfl (hb hby D11_123) ?_
                show Steps p.tables e below (T114.setTop (mkF m 124 #[.val (.int nn), .val (.int d0), .val (.int d1), .val (.int d2), .val (.int d3), .val (.int d4), .val (.int d5)] [(.int 0), (.ref fb114), (.ref fb114), (.ref fb110), (.ref fb110)])) _
                refine XS.iloadN X114.here hx rfl (hb hby D11_124) rfl ?_
                show Steps p.tables e below (T114.setTop (mkF m 125 #[.val (.int nn), .val (.int d0), .val (.int d1), .val (.int d2), .val (.int d3), .val (.int d4), .val (.int d5)] [(.int d0), (.int 0), (.ref fb114), (.ref fb114), (.ref fb110), (.ref fb110)])) _
                exact st119 _ kk
              obtain ⟨cl122, Ar122, q122, S122, M122, H122, G122⟩ := id V119
              obtain ⟨T122, h122, X122, e122, W122, st122⟩ := stC X119 hx hZ e119 Ar122 (j := (1 : Int32)) (inb_of S122 ⟨(by decide), (by decide)⟩) (g := (mkF m 129 #[.val (.int nn), .val (.int d0), .val (.int d1), .val (.int d2), .val (.int d3), .val (.int d4), .val (.int d5)] [(.int d1), (.int 1), (.ref fb114), (.ref fb114), (.ref fb110), (.ref fb110)])) rfl rfl (hb hby D11_129)
              have V122 : Arv Z h122 fb114 k114 .char (5 : Int32) [(.int (nar .char d0)), (.int (nar .char d1)), (.int 0), (.int 0), (.int 0)] (.int 0) := Arv.set Ar122 q122 S122 M122 H122 G122 (fits_nar_char _) W122 1 rfl (Nat.le_of_ble_eq_true rfl)
              have SA123 := (Safe.arv (EL := own_EL) hZ.alike V119 (by decide))
              have CR123 := CHr.trans CR120 (CHr.wr W122 SA123 CR120.1)
              have sf123_fb110 := (Safe.wr W122 SA123 CR120.1 sf120_fb110)
              have N122 := Fr.snoc X122 N119 lo_fb114
              have pre124 : ∀ t, Steps p.tables e below (T122.setTop (mkF m 130 #[.val (.int nn), .val (.int d0), .val (.int d1), .val (.int d2), .val (.int d3), .val (.int d4), .val (.int d5)] [(.ref fb114), (.ref fb110), (.ref fb110)])) t → Steps p.tables e below (s₁.setTop (entryFrame m #[(.int nn), (.int d0), (.int d1), (.int d2), (.int d3), (.int d4), (.int d5)] 7)) t := by
                intro t kk
                refine pre121 t ?_
                show Steps p.tables e below (T119.setTop (mkF m 126 #[.val (.int nn), .val (.int d0), .val (.int d1), .val (.int d2), .val (.int d3), .val (.int d4), .val (.int d5)] [(.ref fb114), (.ref fb110), (.ref fb110)])) _
                refine XS.dup X119.here hx rfl (hb hby D11_126) rfl rfl ?_
                show Steps p.tables e below (T119.setTop (mkF m 127 #[.val (.int nn), .val (.int d0), .val (.int d1), .val (.int d2), .val (.int d3), .val (.int d4), .val (.int d5)] [(.ref fb114), (.ref fb114), (.ref fb110), (.ref fb110)])) _
                refine XS.iconst X119.here hx rfl (hb hby D11_127) ?_
                show Steps p.tables e below (T119.setTop (mkF m 128 #[.val (.int nn), .val (.int d0), .val (.int d1), .val (.int d2), .val (.int d3), .val (.int d4), .val (.int d5)] [(.int 1), (.ref fb114), (.ref fb114), (.ref fb110), (.ref fb110)])) _
                refine XS.iloadN X119.here hx rfl (hb hby D11_128) rfl ?_
                show Steps p.tables e below (T119.setTop (mkF m 129 #[.val (.int nn), .val (.int d0), .val (.int d1), .val (.int d2), .val (.int d3), .val (.int d4), .val (.int d5)] [(.int d1), (.int 1), (.ref fb114), (.ref fb114), (.ref fb110), (.ref fb110)])) _
                exact st122 _ kk
              obtain ⟨cl125, Ar125, q125, S125, M125, H125, G125⟩ := id V122
              obtain ⟨T125, h125, X125, e125, W125, st125⟩ := stC X122 hx hZ e122 Ar125 (j := (2 : Int32)) (inb_of S125 ⟨(by decide), (by decide)⟩) (g := (mkF m 133 #[.val (.int nn), .val (.int d0), .val (.int d1), .val (.int d2), .val (.int d3), .val (.int d4), .val (.int d5)] [(.int d2), (.int 2), (.ref fb114), (.ref fb114), (.ref fb110), (.ref fb110)])) rfl rfl (hb hby D11_133)
              have V125 : Arv Z h125 fb114 k114 .char (5 : Int32) [(.int (nar .char d0)), (.int (nar .char d1)), (.int (nar .char d2)), (.int 0), (.int 0)] (.int 0) := Arv.set Ar125 q125 S125 M125 H125 G125 (fits_nar_char _) W125 2 rfl (Nat.le_of_ble_eq_true rfl)
              have SA126 := (Safe.arv (EL := own_EL) hZ.alike V122 (by decide))
              have CR126 := CHr.trans CR123 (CHr.wr W125 SA126 CR123.1)
              have sf126_fb110 := (Safe.wr W125 SA126 CR123.1 sf123_fb110)
              have N125 := Fr.snoc X125 N122 lo_fb114
              have pre127 : ∀ t, Steps p.tables e below (T125.setTop (mkF m 134 #[.val (.int nn), .val (.int d0), .val (.int d1), .val (.int d2), .val (.int d3), .val (.int d4), .val (.int d5)] [(.ref fb114), (.ref fb110), (.ref fb110)])) t → Steps p.tables e below (s₁.setTop (entryFrame m #[(.int nn), (.int d0), (.int d1), (.int d2), (.int d3), (.int d4), (.int d5)] 7)) t := by
                intro t kk
                refine pre124 t ?_
                show Steps p.tables e below (T122.setTop (mkF m 130 #[.val (.int nn), .val (.int d0), .val (.int d1), .val (.int d2), .val (.int d3), .val (.int d4), .val (.int d5)] [(.ref fb114), (.ref fb110), (.ref fb110)])) _
                refine XS.dup X122.here hx rfl (hb hby D11_130) rfl rfl ?_
                show Steps p.tables e below (T122.setTop (mkF m 131 #[.val (.int nn), .val (.int d0), .val (.int d1), .val (.int d2), .val (.int d3), .val (.int d4), .val (.int d5)] [(.ref fb114), (.ref fb114), (.ref fb110), (.ref fb110)])) _
                refine XS.iconst X122.here hx rfl (hb hby D11_131) ?_
                show Steps p.tables e below (T122.setTop (mkF m 132 #[.val (.int nn), .val (.int d0), .val (.int d1), .val (.int d2), .val (.int d3), .val (.int d4), .val (.int d5)] [(.int 2), (.ref fb114), (.ref fb114), (.ref fb110), (.ref fb110)])) _
                refine XS.iloadN X122.here hx rfl (hb hby D11_132) rfl ?_
                show Steps p.tables e below (T122.setTop (mkF m 133 #[.val (.int nn), .val (.int d0), .val (.int d1), .val (.int d2), .val (.int d3), .val (.int d4), .val (.int d5)] [(.int d2), (.int 2), (.ref fb114), (.ref fb114), (.ref fb110), (.ref fb110)])) _
                exact st125 _ kk
              obtain ⟨cl128, Ar128, q128, S128, M128, H128, G128⟩ := id V125
              obtain ⟨T128, h128, X128, e128, W128, st128⟩ := stC X125 hx hZ e125 Ar128 (j := (3 : Int32)) (inb_of S128 ⟨(by decide), (by decide)⟩) (g := (mkF m 138 #[.val (.int nn), .val (.int d0), .val (.int d1), .val (.int d2), .val (.int d3), .val (.int d4), .val (.int d5)] [(.int d3), (.int 3), (.ref fb114), (.ref fb114), (.ref fb110), (.ref fb110)])) rfl rfl (hb hby D11_138)
              have V128 : Arv Z h128 fb114 k114 .char (5 : Int32) [(.int (nar .char d0)), (.int (nar .char d1)), (.int (nar .char d2)), (.int (nar .char d3)), (.int 0)] (.int 0) := Arv.set Ar128 q128 S128 M128 H128 G128 (fits_nar_char _) W128 3 rfl (Nat.le_of_ble_eq_true rfl)
              have SA129 := (Safe.arv (EL := own_EL) hZ.alike V125 (by decide))
              have CR129 := CHr.trans CR126 (CHr.wr W128 SA129 CR126.1)
              have sf129_fb110 := (Safe.wr W128 SA129 CR126.1 sf126_fb110)
              have N128 := Fr.snoc X128 N125 lo_fb114
              have pre130 : ∀ t, Steps p.tables e below (T128.setTop (mkF m 139 #[.val (.int nn), .val (.int d0), .val (.int d1), .val (.int d2), .val (.int d3), .val (.int d4), .val (.int d5)] [(.ref fb114), (.ref fb110), (.ref fb110)])) t → Steps p.tables e below (s₁.setTop (entryFrame m #[(.int nn), (.int d0), (.int d1), (.int d2), (.int d3), (.int d4), (.int d5)] 7)) t := by
                intro t kk
                refine pre127 t ?_
                show Steps p.tables e below (T125.setTop (mkF m 134 #[.val (.int nn), .val (.int d0), .val (.int d1), .val (.int d2), .val (.int d3), .val (.int d4), .val (.int d5)] [(.ref fb114), (.ref fb110), (.ref fb110)])) _
                refine XS.dup X125.here hx rfl (hb hby D11_134) rfl rfl ?_
                show Steps p.tables e below (T125.setTop (mkF m 135 #[.val (.int nn), .val (.int d0), .val (.int d1), .val (.int d2), .val (.int d3), .val (.int d4), .val (.int d5)] [(.ref fb114), (.ref fb114), (.ref fb110), (.ref fb110)])) _
                refine XS.iconst X125.here hx rfl (hb hby D11_135) ?_
                show Steps p.tables e below (T125.setTop (mkF m 136 #[.val (.int nn), .val (.int d0), .val (.int d1), .val (.int d2), .val (.int d3), .val (.int d4), .val (.int d5)] [(.int 3), (.ref fb114), (.ref fb114), (.ref fb110), (.ref fb110)])) _
                refine XS.iload X125.here hx rfl (hb hby D11_136) rfl ?_
                show Steps p.tables e below (T125.setTop (mkF m 138 #[.val (.int nn), .val (.int d0), .val (.int d1), .val (.int d2), .val (.int d3), .val (.int d4), .val (.int d5)] [(.int d3), (.int 3), (.ref fb114), (.ref fb114), (.ref fb110), (.ref fb110)])) _
                exact st128 _ kk
              obtain ⟨cl131, Ar131, q131, S131, M131, H131, G131⟩ := id V128
              obtain ⟨T131, h131, X131, e131, W131, st131⟩ := stC X128 hx hZ e128 Ar131 (j := (4 : Int32)) (inb_of S131 ⟨(by decide), (by decide)⟩) (g := (mkF m 143 #[.val (.int nn), .val (.int d0), .val (.int d1), .val (.int d2), .val (.int d3), .val (.int d4), .val (.int d5)] [(.int d4), (.int 4), (.ref fb114), (.ref fb114), (.ref fb110), (.ref fb110)])) rfl rfl (hb hby D11_143)
              have V131 : Arv Z h131 fb114 k114 .char (5 : Int32) [(.int (nar .char d0)), (.int (nar .char d1)), (.int (nar .char d2)), (.int (nar .char d3)), (.int (nar .char d4))] (.int 0) := Arv.set Ar131 q131 S131 M131 H131 G131 (fits_nar_char _) W131 4 rfl (Nat.le_of_ble_eq_true rfl)
              have SA132 := (Safe.arv (EL := own_EL) hZ.alike V128 (by decide))
              have CR132 := CHr.trans CR129 (CHr.wr W131 SA132 CR129.1)
              have sf132_fb110 := (Safe.wr W131 SA132 CR129.1 sf129_fb110)
              have N131 := Fr.snoc X131 N128 lo_fb114
              have pre133 : ∀ t, Steps p.tables e below (T131.setTop (mkF m 144 #[.val (.int nn), .val (.int d0), .val (.int d1), .val (.int d2), .val (.int d3), .val (.int d4), .val (.int d5)] [(.ref fb114), (.ref fb110), (.ref fb110)])) t → Steps p.tables e below (s₁.setTop (entryFrame m #[(.int nn), (.int d0), (.int d1), (.int d2), (.int d3), (.int d4), (.int d5)] 7)) t := by
                intro t kk
                refine pre130 t ?_
                show Steps p.tables e below (T128.setTop (mkF m 139 #[.val (.int nn), .val (.int d0), .val (.int d1), .val (.int d2), .val (.int d3), .val (.int d4), .val (.int d5)] [(.ref fb114), (.ref fb110), (.ref fb110)])) _
                refine XS.dup X128.here hx rfl (hb hby D11_139) rfl rfl ?_
                show Steps p.tables e below (T128.setTop (mkF m 140 #[.val (.int nn), .val (.int d0), .val (.int d1), .val (.int d2), .val (.int d3), .val (.int d4), .val (.int d5)] [(.ref fb114), (.ref fb114), (.ref fb110), (.ref fb110)])) _
                refine XS.iconst X128.here hx rfl (hb hby D11_140) ?_
                show Steps p.tables e below (T128.setTop (mkF m 141 #[.val (.int nn), .val (.int d0), .val (.int d1), .val (.int d2), .val (.int d3), .val (.int d4), .val (.int d5)] [(.int 4), (.ref fb114), (.ref fb114), (.ref fb110), (.ref fb110)])) _
                refine XS.iload X128.here hx rfl (hb hby D11_141) rfl ?_
                show Steps p.tables e below (T128.setTop (mkF m 143 #[.val (.int nn), .val (.int d0), .val (.int d1), .val (.int d2), .val (.int d3), .val (.int d4), .val (.int d5)] [(.int d4), (.int 4), (.ref fb114), (.ref fb114), (.ref fb110), (.ref fb110)])) _
                exact st131 _ kk
              have fc134 := ((((((O110.ext E114).wr W119).wr W122).wr W125).wr W128).wr W131)
              have fc135 := ((((((F110_value.ext E114).other W119 (Or.inl ne_fb110_fb114)).other W122 (Or.inl ne_fb110_fb114)).other W125 (Or.inl ne_fb110_fb114)).other W128 (Or.inl ne_fb110_fb114)).other W131 (Or.inl ne_fb110_fb114))
              have fc136 := ((((((F110_coder.ext E114).other W119 (Or.inl ne_fb110_fb114)).other W122 (Or.inl ne_fb110_fb114)).other W125 (Or.inl ne_fb110_fb114)).other W128 (Or.inl ne_fb110_fb114)).other W131 (Or.inl ne_fb110_fb114))
              have fc137 := (((((((XO.ext E110).ext E114).wr W119 lo_fb114).wr W122 lo_fb114).wr W125 lo_fb114).wr W128 lo_fb114).wr W131 lo_fb114)
              have fc139 := (Nat.le_trans (Nat.le_trans (Nat.le_trans (Nat.le_trans (Nat.le_trans (Nat.le_trans fc115 E114.1) (Keep.of_wr W119).1) (Keep.of_wr W122).1) (Keep.of_wr W125).1) (Keep.of_wr W128).1) (Keep.of_wr W131).1)
              obtain ⟨_, _, ⟨T138, L138, k138, n138⟩, -, X138, ⟨Lc138, hQ138, l138, y138, z138⟩, st138⟩ := X131.specialBack hx (y := (⟨"java/lang/String", "<init>", "([C)V"⟩ : MethodName)) rfl hown (mvT hZ (gw hw 75 rfl)) (mvT hZ (gw hw 76 rfl)) (mvT hZ (gw hw 77 rfl)) (by decide) (StrChars.Road.backV (W := 1) hZ hws (kI := 4) (gw hw 18 rfl) (cs := ([(nar .char d0), (nar .char d1), (nar .char d2), (nar .char d3), (nar .char d4)] : List Int32)) (bs := ([(nar .char d0), (nar .char d1), (nar .char d2), (nar .char d3), (nar .char d4)] : List Int32).map (fun c => c.toInt8.toInt32)) (n := 5) lo_fb110 fc139 fc134.exa fc135 fc136 V131 (O2.ext fc137.2) P5 rfl rfl (by decide) (by decide) (own_pc (own_nc hd0) (own_pc (own_nc hd1) (own_pc (own_nc hd2) (own_pc (own_nc hd3) (own_pc (own_nc hd4) own_p0))))) rfl (by decide) (by decide)) (g := (mkF m 144 #[.val (.int nn), .val (.int d0), .val (.int d1), .val (.int d2), .val (.int d3), .val (.int d4), .val (.int d5)] [(.ref fb114), (.ref fb110), (.ref fb110)])) rfl (by rw [hml]; rfl) (Steps.refl _) (a := fb110) (argsL := [(.ref fb114)]) (rest := [(.ref fb110)]) (lenOf pd___C_V rfl) rfl (by show 2 * 0 + _ ≤ _; exact Nat.le_of_eq rfl) (hb hby D11_144) (fun _ _ => ⟨rfl, e131, (by decide : 2 + 1 ≤ _), (by decide : 9 + 5 ≤ _)⟩)
              dsimp only [Pt.U, Pt.locs, Pt.cells, Pt.slots] at X138 l138 y138 z138 st138 hQ138
              subst l138 y138 z138
              obtain ⟨rfl, N138q, K138, Ex138, Fc138, t138, kb138, u138, lo138, ne138, Fv138, Vt138⟩ := hQ138
              have N138 := Fr.app N131 N138q
              have SA140 : ∀ y ∈ [fb110], Safe Z own_EL _ _ y := (sfS sf132_fb110 sf0)
              have CR140 := CHr.trans CR132 (CHr.keep K138 SA140 CR132.1)
              have sf140_fb110 := (Safe.keep K138 SA140 CR132.1 sf132_fb110)
              have pre141 : ∀ t, Steps p.tables e below (T138.setTop (mkF m 147 #[.val (.int nn), .val (.int d0), .val (.int d1), .val (.int d2), .val (.int d3), .val (.int d4), .val (.int d5)] [(.ref fb110)])) t → Steps p.tables e below (s₁.setTop (entryFrame m #[(.int nn), (.int d0), (.int d1), (.int d2), (.int d3), (.int d4), (.int d5)] 7)) t := by
                intro t kk
                refine pre133 t ?_
                show Steps p.tables e below (T131.setTop (mkF m 144 #[.val (.int nn), .val (.int d0), .val (.int d1), .val (.int d2), .val (.int d3), .val (.int d4), .val (.int d5)] [(.ref fb114), (.ref fb110), (.ref fb110)])) _
                exact st138.trans kk
              have ne_fb114_t138 : fb114 ≠ t138 := Nat.ne_of_lt (Nat.lt_of_lt_of_le V131.lt lo138)
              have fc142 := (((((((fc116.ext E114).wr W119 (Or.inr hi_fb114)).wr W122 (Or.inr hi_fb114)).wr W125 (Or.inr hi_fb114)).wr W128 (Or.inr hi_fb114)).wr W131 (Or.inr hi_fb114)).trans K138 (allS (Or.inr hi_fb110) all0))
              have fc143 := (fc134.keep K138)
              have fc144 := (Nat.le_trans (Nat.le_trans (Nat.le_trans (Nat.le_trans (Nat.le_trans (Nat.le_trans (Nat.le_trans (Nat.le_trans hk0 E110.1) E114.1) (Keep.of_wr W119).1) (Keep.of_wr W122).1) (Keep.of_wr W125).1) (Keep.of_wr W128).1) (Keep.of_wr W131).1) K138.1)
              obtain ⟨fs, hr, hrun, hended, hRW⟩ := X138.leaveW hS0 fc144 (v := some (.ref fb110)) (fun h => by rw [Bd.returns] at h; cases h)
              have CRe := CHr.trans CR140 (CHv.at X138 hZ hEL CR140.1)
              refine ⟨_, _, pre141 _ ?_, hrun, hended, _, _, rfl, ?_, ?_, hRW.1, hRW.2.1, hRW.2.2.1, hRW.2.2.2.mono (by decide) (by decide)⟩
              · show Steps p.tables e below (T138.setTop (mkF m 147 #[.val (.int nn), .val (.int d0), .val (.int d1), .val (.int d2), .val (.int d3), .val (.int d4), .val (.int d5)] [(.ref fb110)])) _
                jvm_step X138.here [X138.here.top, hx, (hb hby D11_147), X138.method', Bd.returns, Value.isRef, FieldType.isReference]
                first | (intro acts; rw [hr _ acts rfl rfl rfl]) | rw [hr _ _ rfl rfl rfl]
                exact Steps.refl _
              · show Q_own_make Z nn d0 d1 d2 d3 d4 d5 G1 h0 n0 _ T138.heap _
                exact ⟨_, rfl, N138, fc142, Or.inr ⟨fb110, t138, kb138, [(nar .char d0), (nar .char d1), (nar .char d2), (nar .char d3), (nar .char d4)], rfl, hi_fb110, fc143.exa, Fv138, Fc138, Vt138, Nat.le_of_ble_eq_true rfl, (own_pc (own_nc hd0) (own_pc (own_nc hd1) (own_pc (own_nc hd2) (own_pc (own_nc hd3) (own_pc (own_nc hd4) own_p0)))))⟩⟩
              · show CHr Z own_EL s.vm s.heap T138.vm T138.heap
                rw [hh]
                exact CRe
            case neg =>
              by_cases hn6 : nn = (6 : Int32)
              case pos =>
                obtain ⟨fb145, g145⟩ : ∃ z, z = h0.size := ⟨_, rfl⟩
                have lo_fb145 : n0 ≤ fb145 := Nat.le_trans Z0 (Nat.le_of_eq g145.symm)
                have hi_fb145 : h0.size ≤ fb145 := Nat.le_trans (Keep.refl h0 []).1 (Nat.le_of_eq g145.symm)
                have sf146_fb145 : Safe Z own_EL _ _ fb145 := Safe.new (h := h0) (vm := s.vm) (Nat.le_of_eq g145.symm)
                obtain ⟨T145, h145, X145, e145, E145, A145, D145, B145, st145⟩ := newO X0 hx hZ hown (gw hw 73 rfl) (gw hw 18 rfl) (gw hw 10 rfl) e0 (g := (mkF m 154 #[.val (.int nn), .val (.int d0), .val (.int d1), .val (.int d2), .val (.int d3), .val (.int d4), .val (.int d5)] [])) rfl (hb hby D11_154) (by decide) (by decide)
                rw [← g145] at A145 D145 B145 st145
                have O145 := Obj.of A145 B145
                have CR147 := CHr.trans CR0 (CHr.ext E145 CR0.1)
                have sf147_fb145 := (Safe.ext E145 CR0.1 sf146_fb145)
                have F145_value : Fld Z h145 fb145 "java/lang/String" "value" "[B" .null := D145 (Or.inr (gw hw 31 rfl)) (ty := (.array .byte)) (by decide)
                have F145_coder : Fld Z h145 fb145 "java/lang/String" "coder" "B" (.int 0) := D145 (Or.inr (gw hw 33 rfl)) (ty := .byte) (by decide)
                have pre148 : ∀ t, Steps p.tables e below (T145.setTop (mkF m 157 #[.val (.int nn), .val (.int d0), .val (.int d1), .val (.int d2), .val (.int d3), .val (.int d4), .val (.int d5)] [(.ref fb145)])) t → Steps p.tables e below (s₁.setTop (entryFrame m #[(.int nn), (.int d0), (.int d1), (.int d2), (.int d3), (.int d4), (.int d5)] 7)) t := by
                  intro t kk
                  refine pre0 t ?_
                  show Steps p.tables e below (s₁.setTop (mkF m 0 #[.val (.int nn), .val (.int d0), .val (.int d1), .val (.int d2), .val (.int d3), .val (.int d4), .val (.int d5)] [])) _
                  refine XS.iloadN X0.here hx rfl (hb hby D11_0) rfl ?_
                  show Steps p.tables e below (s₁.setTop (mkF m 1 #[.val (.int nn), .val (.int d0), .val (.int d1), .val (.int d2), .val (.int d3), .val (.int d4), .val (.int d5)] [(.int nn)])) _
                  refine XS.ifYes X0.here hx rfl (pc0 := 1) (pc' := 15) rfl (hb hby D11_1) rfl ((if0 _ _).trans (feq hn0).2) (by decide) (by decide) ?_
                  show Steps p.tables e below (s₁.setTop (mkF m 15 #[.val (.int nn), .val (.int d0), .val (.int d1), .val (.int d2), .val (.int d3), .val (.int d4), .val (.int d5)] [])) _
                  refine XS.iloadN X0.here hx rfl (hb hby D11_15) rfl ?_
                  show Steps p.tables e below (s₁.setTop (mkF m 16 #[.val (.int nn), .val (.int d0), .val (.int d1), .val (.int d2), .val (.int d3), .val (.int d4), .val (.int d5)] [(.int nn)])) _
                  refine XS.iconst X0.here hx rfl (hb hby D11_16) ?_
                  show Steps p.tables e below (s₁.setTop (mkF m 17 #[.val (.int nn), .val (.int d0), .val (.int d1), .val (.int d2), .val (.int d3), .val (.int d4), .val (.int d5)] [(.int 1), (.int nn)])) _
                  refine XS.icmpYes X0.here hx rfl (pc0 := 17) (pc' := 25) rfl (hb hby D11_17) rfl (feq hn1).2 (by decide) (by decide) ?_
                  show Steps p.tables e below (s₁.setTop (mkF m 25 #[.val (.int nn), .val (.int d0), .val (.int d1), .val (.int d2), .val (.int d3), .val (.int d4), .val (.int d5)] [])) _
                  refine XS.iloadN X0.here hx rfl (hb hby D11_25) rfl ?_
                  show Steps p.tables e below (s₁.setTop (mkF m 26 #[.val (.int nn), .val (.int d0), .val (.int d1), .val (.int d2), .val (.int d3), .val (.int d4), .val (.int d5)] [(.int nn)])) _
                  refine XS.iconst X0.here hx rfl (hb hby D11_26) ?_
                  show Steps p.tables e below (s₁.setTop (mkF m 27 #[.val (.int nn), .val (.int d0), .val (.int d1), .val (.int d2), .val (.int d3), .val (.int d4), .val (.int d5)] [(.int 2), (.int nn)])) _
                  refine XS.icmpYes X0.here hx rfl (pc0 := 27) (pc' := 49) rfl (hb hby D11_27) rfl (feq hn2).2 (by decide) (by decide) ?_
                  show Steps p.tables e below (s₁.setTop (mkF m 49 #[.val (.int nn), .val (.int d0), .val (.int d1), .val (.int d2), .val (.int d3), .val (.int d4), .val (.int d5)] [])) _
                  refine XS.iloadN X0.here hx rfl (hb hby D11_49) rfl ?_
                  show Steps p.tables e below (s₁.setTop (mkF m 50 #[.val (.int nn), .val (.int d0), .val (.int d1), .val (.int d2), .val (.int d3), .val (.int d4), .val (.int d5)] [(.int nn)])) _
                  refine XS.iconst X0.here hx rfl (hb hby D11_50) ?_
                  show Steps p.tables e below (s₁.setTop (mkF m 51 #[.val (.int nn), .val (.int d0), .val (.int d1), .val (.int d2), .val (.int d3), .val (.int d4), .val (.int d5)] [(.int 3), (.int nn)])) _
                  refine XS.icmpYes X0.here hx rfl (pc0 := 51) (pc' := 77) rfl (hb hby D11_51) rfl (feq hn3).2 (by decide) (by decide) ?_
                  show Steps p.tables e below (s₁.setTop (mkF m 77 #[.val (.int nn), .val (.int d0), .val (.int d1), .val (.int d2), .val (.int d3), .val (.int d4), .val (.int d5)] [])) _
                  refine XS.iloadN X0.here hx rfl (hb hby D11_77) rfl ?_
                  show Steps p.tables e below (s₁.setTop (mkF m 78 #[.val (.int nn), .val (.int d0), .val (.int d1), .val (.int d2), .val (.int d3), .val (.int d4), .val (.int d5)] [(.int nn)])) _
                  refine XS.iconst X0.here hx rfl (hb hby D11_78) ?_
                  show Steps p.tables e below (s₁.setTop (mkF m 79 #[.val (.int nn), .val (.int d0), .val (.int d1), .val (.int d2), .val (.int d3), .val (.int d4), .val (.int d5)] [(.int 4), (.int nn)])) _
                  refine XS.icmpYes X0.here hx rfl (pc0 := 79) (pc' := 110) rfl (hb hby D11_79) rfl (feq hn4).2 (by decide) (by decide) ?_
                  show Steps p.tables e below (s₁.setTop (mkF m 110 #[.val (.int nn), .val (.int d0), .val (.int d1), .val (.int d2), .val (.int d3), .val (.int d4), .val (.int d5)] [])) _
                  refine XS.iloadN X0.here hx rfl (hb hby D11_110) rfl ?_
                  show Steps p.tables e below (s₁.setTop (mkF m 111 #[.val (.int nn), .val (.int d0), .val (.int d1), .val (.int d2), .val (.int d3), .val (.int d4), .val (.int d5)] [(.int nn)])) _
                  refine XS.iconst X0.here hx rfl (hb hby D11_111) ?_
                  show Steps p.tables e below (s₁.setTop (mkF m 112 #[.val (.int nn), .val (.int d0), .val (.int d1), .val (.int d2), .val (.int d3), .val (.int d4), .val (.int d5)] [(.int 5), (.int nn)])) _
                  refine XS.icmpYes X0.here hx rfl (pc0 := 112) (pc' := 148) rfl (hb hby D11_112) rfl (feq hn5).2 (by decide) (by decide) ?_
                  show Steps p.tables e below (s₁.setTop (mkF m 148 #[.val (.int nn), .val (.int d0), .val (.int d1), .val (.int d2), .val (.int d3), .val (.int d4), .val (.int d5)] [])) _
                  refine XS.iloadN X0.here hx rfl (hb hby D11_148) rfl ?_
                  show Steps p.tables e below (s₁.setTop (mkF m 149 #[.val (.int nn), .val (.int d0), .val (.int d1), .val (.int d2), .val (.int d3), .val (.int d4), .val (.int d5)] [(.int nn)])) _
                  refine XS.bipush X0.here hx rfl (hb hby D11_149) ?_
                  show Steps p.tables e below (s₁.setTop (mkF m 151 #[.val (.int nn), .val (.int d0), .val (.int d1), .val (.int d2), .val (.int d3), .val (.int d4), .val (.int d5)] [(.int 6), (.int nn)])) _
                  refine XS.icmpNo X0.here hx rfl (hb hby D11_151) rfl (teq hn6).2 ?_
                  show Steps p.tables e below (s₁.setTop (mkF m 154 #[.val (.int nn), .val (.int d0), .val (.int d1), .val (.int d2), .val (.int d3), .val (.int d4), .val (.int d5)] [])) _
                  exact st145 _ kk
                obtain ⟨fb149, g149⟩ : ∃ z, z = h145.size := ⟨_, rfl⟩
                have ne_fb145_fb149 : fb145 ≠ fb149 := Nat.ne_of_lt (Nat.lt_of_lt_of_le O145.lt (Nat.le_of_eq g149.symm))
                have fc150 := (Nat.le_trans Z0 E145.1)
                have lo_fb149 : n0 ≤ fb149 := Nat.le_trans fc150 (Nat.le_of_eq g149.symm)
                have fc151 := ((Keep.refl h0 []).ext E145)
                have hi_fb149 : h0.size ≤ fb149 := Nat.le_trans fc151.1 (Nat.le_of_eq g149.symm)
                obtain ⟨T149, h149, k149, X149, e149, E149, A149, st149⟩ := newP X145 hx hZ (gw hw 74 rfl) e145 (g := (mkF m 160 #[.val (.int nn), .val (.int d0), .val (.int d1), .val (.int d2), .val (.int d3), .val (.int d4), .val (.int d5)] [(.int 6), (.ref fb145), (.ref fb145)])) rfl (hb hby D11_160) rfl (by decide) (cap := 6) (by decide) (by decide) (by decide) (by decide)
                rw [← g149] at A149 st149
                have V149 : Arv Z h149 fb149 k149 .char (6 : Int32) [(.int 0), (.int 0), (.int 0), (.int 0), (.int 0), (.int 0)] (.int 0) := (Arv.new A149 (by decide)).pad (pad_rep [] (.int 0) 6)
                have CR152 := CHr.trans CR147 (CHr.ext E149 CR147.1)
                have sf152_fb145 := (Safe.ext E149 CR147.1 sf147_fb145)
                have pre153 : ∀ t, Steps p.tables e below (T149.setTop (mkF m 162 #[.val (.int nn), .val (.int d0), .val (.int d1), .val (.int d2), .val (.int d3), .val (.int d4), .val (.int d5)] [(.ref fb149), (.ref fb145), (.ref fb145)])) t → Steps p.tables e below (s₁.setTop (entryFrame m #[(.int nn), (.int d0), (.int d1), (.int d2), (.int d3), (.int d4), (.int d5)] 7)) t := by
                  intro t kk
                  refine pre148 t ?_
                  show Steps p.tables e below (T145.setTop (mkF m 157 #[.val (.int nn), .val (.int d0), .val (.int d1), .val (.int d2), .val (.int d3), .val (.int d4), .val (.int d5)] [(.ref fb145)])) _
                  refine XS.dup X145.here hx rfl (hb hby D11_157) rfl rfl ?_
                  show Steps p.tables e below (T145.setTop (mkF m 158 #[.val (.int nn), .val (.int d0), .val (.int d1), .val (.int d2), .val (.int d3), .val (.int d4), .val (.int d5)] [(.ref fb145), (.ref fb145)])) _
                  refine XS.bipush X145.here hx rfl (hb hby D11_158) ?_
                  show Steps p.tables e below (T145.setTop (mkF m 160 #[.val (.int nn), .val (.int d0), .val (.int d1), .val (.int d2), .val (.int d3), .val (.int d4), .val (.int d5)] [(.int 6), (.ref fb145), (.ref fb145)])) _
                  exact st149 _ kk
                obtain ⟨cl154, Ar154, q154, S154, M154, H154, G154⟩ := id V149
                obtain ⟨T154, h154, X154, e154, W154, st154⟩ := stC X149 hx hZ e149 Ar154 (j := (0 : Int32)) (inb_of S154 ⟨(by decide), (by decide)⟩) (g := (mkF m 165 #[.val (.int nn), .val (.int d0), .val (.int d1), .val (.int d2), .val (.int d3), .val (.int d4), .val (.int d5)] [(.int d0), (.int 0), (.ref fb149), (.ref fb149), (.ref fb145), (.ref fb145)])) rfl rfl (hb hby D11_165)
                have V154 : Arv Z h154 fb149 k149 .char (6 : Int32) [(.int (nar .char d0)), (.int 0), (.int 0), (.int 0), (.int 0), (.int 0)] (.int 0) := Arv.set Ar154 q154 S154 M154 H154 G154 (fits_nar_char _) W154 0 rfl (Nat.le_of_ble_eq_true rfl)
                have SA155 := (Safe.arv (EL := own_EL) hZ.alike V149 (by decide))
                have CR155 := CHr.trans CR152 (CHr.wr W154 SA155 CR152.1)
                have sf155_fb145 := (Safe.wr W154 SA155 CR152.1 sf152_fb145)
                have N154 := Fr.snoc X154 N0 lo_fb149
                have pre156 : ∀ t, Steps p.tables e below (T154.setTop (mkF m 166 #[.val (.int nn), .val (.int d0), .val (.int d1), .val (.int d2), .val (.int d3), .val (.int d4), .val (.int d5)] [(.ref fb149), (.ref fb145), (.ref fb145)])) t → Steps p.tables e below (s₁.setTop (entryFrame m #[(.int nn), (.int d0), (.int d1), (.int d2), (.int d3), (.int d4), (.int d5)] 7)) t := by
                  intro t kk
                  refine pre153 t ?_
                  show Steps p.tables e below (T149.setTop (mkF m 162 #[.val (.int nn), .val (.int d0), .val (.int d1), .val (.int d2), .val (.int d3), .val (.int d4), .val (.int d5)] [(.ref fb149), (.ref fb145), (.ref fb145)])) _
                  refine XS.dup X149.here hx rfl (hb hby D11_162) rfl rfl ?_
                  show Steps p.tables e below (T149.setTop (mkF m 163 #[.val (.int nn), .val (.int d0), .val (.int d1), .val (.int d2), .val (.int d3), .val (.int d4), .val (.int d5)] [(.ref fb149), (.ref fb149), (.ref fb145), (.ref fb145)])) _
                  refine XS.iconst X149.here hx rfl (hb hby D11_163) ?_
                  show Steps p.tables e below (T149.setTop (mkF m 164 #[.val (.int nn), .val (.int d0), .val (.int d1), .val (.int d2), .val (.int d3), .val (.int d4), .val (.int d5)] [(.int 0), (.ref fb149), (.ref fb149), (.ref fb145), (.ref fb145)])) _
                  refine XS.iloadN X149.here hx rfl (hb hby D11_164) rfl ?_
                  show Steps p.tables e below (T149.setTop (mkF m 165 #[.val (.int nn), .val (.int d0), .val (.int d1), .val (.int d2), .val (.int d3), .val (.int d4), .val (.int d5)] [(.int d0), (.int 0), (.ref fb149), (.ref fb149), (.ref fb145), (.ref fb145)])) _
                  exact st154 _ kk
                obtain ⟨cl157, Ar157, q157, S157, M157, H157, G157⟩ := id V154
                obtain ⟨T157, h157, X157, e157, W157, st157⟩ := stC X154 hx hZ e154 Ar157 (j := (1 : Int32)) (inb_of S157 ⟨(by decide), (by decide)⟩) (g := (mkF m 169 #[.val (.int nn), .val (.int d0), .val (.int d1), .val (.int d2), .val (.int d3), .val (.int d4), .val (.int d5)] [(.int d1), (.int 1), (.ref fb149), (.ref fb149), (.ref fb145), (.ref fb145)])) rfl rfl (hb hby D11_169)
                have V157 : Arv Z h157 fb149 k149 .char (6 : Int32) [(.int (nar .char d0)), (.int (nar .char d1)), (.int 0), (.int 0), (.int 0), (.int 0)] (.int 0) := Arv.set Ar157 q157 S157 M157 H157 G157 (fits_nar_char _) W157 1 rfl (Nat.le_of_ble_eq_true rfl)
                have SA158 := (Safe.arv (EL := own_EL) hZ.alike V154 (by decide))
                have CR158 := CHr.trans CR155 (CHr.wr W157 SA158 CR155.1)
                have sf158_fb145 := (Safe.wr W157 SA158 CR155.1 sf155_fb145)
                have N157 := Fr.snoc X157 N154 lo_fb149
                have pre159 : ∀ t, Steps p.tables e below (T157.setTop (mkF m 170 #[.val (.int nn), .val (.int d0), .val (.int d1), .val (.int d2), .val (.int d3), .val (.int d4), .val (.int d5)] [(.ref fb149), (.ref fb145), (.ref fb145)])) t → Steps p.tables e below (s₁.setTop (entryFrame m #[(.int nn), (.int d0), (.int d1), (.int d2), (.int d3), (.int d4), (.int d5)] 7)) t := by
                  intro t kk
                  refine pre156 t ?_
                  show Steps p.tables e below (T154.setTop (mkF m 166 #[.val (.int nn), .val (.int d0), .val (.int d1), .val (.int d2), .val (.int d3), .val (.int d4), .val (.int d5)] [(.ref fb149), (.ref fb145), (.ref fb145)])) _
                  refine XS.dup X154.here hx rfl (hb hby D11_166) rfl rfl ?_
                  show Steps p.tables e below (T154.setTop (mkF m 167 #[.val (.int nn), .val (.int d0), .val (.int d1), .val (.int d2), .val (.int d3), .val (.int d4), .val (.int d5)] [(.ref fb149), (.ref fb149), (.ref fb145), (.ref fb145)])) _
                  refine XS.iconst X154.here hx rfl (hb hby D11_167) ?_
                  show Steps p.tables e below (T154.setTop (mkF m 168 #[.val (.int nn), .val (.int d0), .val (.int d1), .val (.int d2), .val (.int d3), .val (.int d4), .val (.int d5)] [(.int 1), (.ref fb149), (.ref fb149), (.ref fb145), (.ref fb145)])) _
                  refine XS.iloadN X154.here hx rfl (hb hby D11_168) rfl ?_
                  show Steps p.tables e below (T154.setTop (mkF m 169 #[.val (.int nn), .val (.int d0), .val (.int d1), .val (.int d2), .val (.int d3), .val (.int d4), .val (.int d5)] [(.int d1), (.int 1), (.ref fb149), (.ref fb149), (.ref fb145), (.ref fb145)])) _
                  exact st157 _ kk
                obtain ⟨cl160, Ar160, q160, S160, M160, H160, G160⟩ := id V157
                obtain ⟨T160, h160, X160, e160, W160, st160⟩ := stC X157 hx hZ e157 Ar160 (j := (2 : Int32)) (inb_of S160 ⟨(by decide), (by decide)⟩) (g := (mkF m 173 #[.val (.int nn), .val (.int d0), .val (.int d1), .val (.int d2), .val (.int d3), .val (.int d4), .val (.int d5)] [(.int d2), (.int 2), (.ref fb149), (.ref fb149), (.ref fb145), (.ref fb145)])) rfl rfl (hb hby D11_173)
                have V160 : Arv Z h160 fb149 k149 .char (6 : Int32) [(.int (nar .char d0)), (.int (nar .char d1)), (.int (nar .char d2)), (.int 0), (.int 0), (.int 0)] (.int 0) := Arv.set Ar160 q160 S160 M160 H160 G160 (fits_nar_char _) W160 2 rfl (Nat.le_of_ble_eq_true rfl)
                have SA161 := (Safe.arv (EL := own_EL) hZ.alike V157 (by decide))
                have CR161 := CHr.trans CR158 (CHr.wr W160 SA161 CR158.1)
                have sf161_fb145 := (Safe.wr W160 SA161 CR158.1 sf158_fb145)
                have N160 := Fr.snoc X160 N157 lo_fb149
                have pre162 : ∀ t, Steps p.tables e below (T160.setTop (mkF m 174 #[.val (.int nn), .val (.int d0), .val (.int d1), .val (.int d2), .val (.int d3), .val (.int d4), .val (.int d5)] [(.ref fb149), (.ref fb145), (.ref fb145)])) t → Steps p.tables e below (s₁.setTop (entryFrame m #[(.int nn), (.int d0), (.int d1), (.int d2), (.int d3), (.int d4), (.int d5)] 7)) t := by
                  intro t kk
                  refine pre159 t ?_
                  show Steps p.tables e below (T157.setTop (mkF m 170 #[.val (.int nn), .val (.int d0), .val (.int d1), .val (.int d2), .val (.int d3), .val (.int d4), .val (.int d5)] [(.ref fb149), (.ref fb145), (.ref fb145)])) _
                  refine XS.dup X157.here hx rfl (hb hby D11_170) rfl rfl ?_
                  show Steps p.tables e below (T157.setTop (mkF m 171 #[.val (.int nn), .val (.int d0), .val (.int d1), .val (.int d2), .val (.int d3), .val (.int d4), .val (.int d5)] [(.ref fb149), (.ref fb149), (.ref fb145), (.ref fb145)])) _
                  refine XS.iconst X157.here hx rfl (hb hby D11_171) ?_
                  show Steps p.tables e below (T157.setTop (mkF m 172 #[.val (.int nn), .val (.int d0), .val (.int d1), .val (.int d2), .val (.int d3), .val (.int d4), .val (.int d5)] [(.int 2), (.ref fb149), (.ref fb149), (.ref fb145), (.ref fb145)])) _
                  refine XS.iloadN X157.here hx rfl (hb hby D11_172) rfl ?_
                  show Steps p.tables e below (T157.setTop (mkF m 173 #[.val (.int nn), .val (.int d0), .val (.int d1), .val (.int d2), .val (.int d3), .val (.int d4), .val (.int d5)] [(.int d2), (.int 2), (.ref fb149), (.ref fb149), (.ref fb145), (.ref fb145)])) _
                  exact st160 _ kk
                obtain ⟨cl163, Ar163, q163, S163, M163, H163, G163⟩ := id V160
                obtain ⟨T163, h163, X163, e163, W163, st163⟩ := stC X160 hx hZ e160 Ar163 (j := (3 : Int32)) (inb_of S163 ⟨(by decide), (by decide)⟩) (g := (mkF m 178 #[.val (.int nn), .val (.int d0), .val (.int d1), .val (.int d2), .val (.int d3), .val (.int d4), .val (.int d5)] [(.int d3), (.int 3), (.ref fb149), (.ref fb149), (.ref fb145), (.ref fb145)])) rfl rfl (hb hby D11_178)
                have V163 : Arv Z h163 fb149 k149 .char (6 : Int32) [(.int (nar .char d0)), (.int (nar .char d1)), (.int (nar .char d2)), (.int (nar .char d3)), (.int 0), (.int 0)] (.int 0) := Arv.set Ar163 q163 S163 M163 H163 G163 (fits_nar_char _) W163 3 rfl (Nat.le_of_ble_eq_true rfl)
                have SA164 := (Safe.arv (EL := own_EL) hZ.alike V160 (by decide))
                have CR164 := CHr.trans CR161 (CHr.wr W163 SA164 CR161.1)
                have sf164_fb145 := (Safe.wr W163 SA164 CR161.1 sf161_fb145)
                have N163 := Fr.snoc X163 N160 lo_fb149
                have pre165 : ∀ t, Steps p.tables e below (T163.setTop (mkF m 179 #[.val (.int nn), .val (.int d0), .val (.int d1), .val (.int d2), .val (.int d3), .val (.int d4), .val (.int d5)] [(.ref fb149), (.ref fb145), (.ref fb145)])) t → Steps p.tables e below (s₁.setTop (entryFrame m #[(.int nn), (.int d0), (.int d1), (.int d2), (.int d3), (.int d4), (.int d5)] 7)) t := by
                  intro t kk
                  refine pre162 t ?_
                  show Steps p.tables e below (T160.setTop (mkF m 174 #[.val (.int nn), .val (.int d0), .val (.int d1), .val (.int d2), .val (.int d3), .val (.int d4), .val (.int d5)] [(.ref fb149), (.ref fb145), (.ref fb145)])) _
                  refine XS.dup X160.here hx rfl (hb hby D11_174) rfl rfl ?_
                  show Steps p.tables e below (T160.setTop (mkF m 175 #[.val (.int nn), .val (.int d0), .val (.int d1), .val (.int d2), .val (.int d3), .val (.int d4), .val (.int d5)] [(.ref fb149), (.ref fb149), (.ref fb145), (.ref fb145)])) _
                  refine XS.iconst X160.here hx rfl (hb hby D11_175) ?_
                  show Steps p.tables e below (T160.setTop (mkF m 176 #[.val (.int nn), .val (.int d0), .val (.int d1), .val (.int d2), .val (.int d3), .val (.int d4), .val (.int d5)] [(.int 3), (.ref fb149), (.ref fb149), (.ref fb145), (.ref fb145)])) _
                  refine XS.iload X160.here hx rfl (hb hby D11_176) rfl ?_
                  show Steps p.tables e below (T160.setTop (mkF m 178 #[.val (.int nn), .val (.int d0), .val (.int d1), .val (.int d2), .val (.int d3), .val (.int d4), .val (.int d5)] [(.int d3), (.int 3), (.ref fb149), (.ref fb149), (.ref fb145), (.ref fb145)])) _
                  exact st163 _ kk
                obtain ⟨cl166, Ar166, q166, S166, M166, H166, G166⟩ := id V163
                obtain ⟨T166, h166, X166, e166, W166, st166⟩ := stC X163 hx hZ e163 Ar166 (j := (4 : Int32)) (inb_of S166 ⟨(by decide), (by decide)⟩) (g := (mkF m 183 #[.val (.int nn), .val (.int d0), .val (.int d1), .val (.int d2), .val (.int d3), .val (.int d4), .val (.int d5)] [(.int d4), (.int 4), (.ref fb149), (.ref fb149), (.ref fb145), (.ref fb145)])) rfl rfl (hb hby D11_183)
                have V166 : Arv Z h166 fb149 k149 .char (6 : Int32) [(.int (nar .char d0)), (.int (nar .char d1)), (.int (nar .char d2)), (.int (nar .char d3)), (.int (nar .char d4)), (.int 0)] (.int 0) := Arv.set Ar166 q166 S166 M166 H166 G166 (fits_nar_char _) W166 4 rfl (Nat.le_of_ble_eq_true rfl)
                have SA167 := (Safe.arv (EL := own_EL) hZ.alike V163 (by decide))
                have CR167 := CHr.trans CR164 (CHr.wr W166 SA167 CR164.1)
                have sf167_fb145 := (Safe.wr W166 SA167 CR164.1 sf164_fb145)
                have N166 := Fr.snoc X166 N163 lo_fb149
                have pre168 : ∀ t, Steps p.tables e below (T166.setTop (mkF m 184 #[.val (.int nn), .val (.int d0), .val (.int d1), .val (.int d2), .val (.int d3), .val (.int d4), .val (.int d5)] [(.ref fb149), (.ref fb145), (.ref fb145)])) t → Steps p.tables e below (s₁.setTop (entryFrame m #[(.int nn), (.int d0), (.int d1), (.int d2), (.int d3), (.int d4), (.int d5)] 7)) t := by
                  intro t kk
                  refine pre165 t ?_
                  show Steps p.tables e below (T163.setTop (mkF m 179 #[.val (.int nn), .val (.int d0), .val (.int d1), .val (.int d2), .val (.int d3), .val (.int d4), .val (.int d5)] [(.ref fb149), (.ref fb145), (.ref fb145)])) _
                  refine XS.dup X163.here hx rfl (hb hby D11_179) rfl rfl ?_
                  show Steps p.tables e below (T163.setTop (mkF m 180 #[.val (.int nn), .val (.int d0), .val (.int d1), .val (.int d2), .val (.int d3), .val (.int d4), .val (.int d5)] [(.ref fb149), (.ref fb149), (.ref fb145), (.ref fb145)])) _
                  refine XS.iconst X163.here hx rfl (hb hby D11_180) ?_
                  show Steps p.tables e below (T163.setTop (mkF m 181 #[.val (.int nn), .val (.int d0), .val (.int d1), .val (.int d2), .val (.int d3), .val (.int d4), .val (.int d5)] [(.int 4), (.ref fb149), (.ref fb149), (.ref fb145), (.ref fb145)])) _
                  refine XS.iload X163.here hx rfl (hb hby D11_181) rfl ?_
                  show Steps p.tables e below (T163.setTop (mkF m 183 #[.val (.int nn), .val (.int d0), .val (.int d1), .val (.int d2), .val (.int d3), .val (.int d4), .val (.int d5)] [(.int d4), (.int 4), (.ref fb149), (.ref fb149), (.ref fb145), (.ref fb145)])) _
                  exact st166 _ kk
                obtain ⟨cl169, Ar169, q169, S169, M169, H169, G169⟩ := id V166
                obtain ⟨T169, h169, X169, e169, W169, st169⟩ := stC X166 hx hZ e166 Ar169 (j := (5 : Int32)) (inb_of S169 ⟨(by decide), (by decide)⟩) (g := (mkF m 188 #[.val (.int nn), .val (.int d0), .val (.int d1), .val (.int d2), .val (.int d3), .val (.int d4), .val (.int d5)] [(.int d5), (.int 5), (.ref fb149), (.ref fb149), (.ref fb145), (.ref fb145)])) rfl rfl (hb hby D11_188)
                have V169 : Arv Z h169 fb149 k149 .char (6 : Int32) [(.int (nar .char d0)), (.int (nar .char d1)), (.int (nar .char d2)), (.int (nar .char d3)), (.int (nar .char d4)), (.int (nar .char d5))] (.int 0) := Arv.set Ar169 q169 S169 M169 H169 G169 (fits_nar_char _) W169 5 rfl (Nat.le_of_ble_eq_true rfl)
                have SA170 := (Safe.arv (EL := own_EL) hZ.alike V166 (by decide))
                have CR170 := CHr.trans CR167 (CHr.wr W169 SA170 CR167.1)
                have sf170_fb145 := (Safe.wr W169 SA170 CR167.1 sf167_fb145)
                have N169 := Fr.snoc X169 N166 lo_fb149
                have pre171 : ∀ t, Steps p.tables e below (T169.setTop (mkF m 189 #[.val (.int nn), .val (.int d0), .val (.int d1), .val (.int d2), .val (.int d3), .val (.int d4), .val (.int d5)] [(.ref fb149), (.ref fb145), (.ref fb145)])) t → Steps p.tables e below (s₁.setTop (entryFrame m #[(.int nn), (.int d0), (.int d1), (.int d2), (.int d3), (.int d4), (.int d5)] 7)) t := by
                  intro t kk
                  refine pre168 t ?_
                  show Steps p.tables e below (T166.setTop (mkF m 184 #[.val (.int nn), .val (.int d0), .val (.int d1), .val (.int d2), .val (.int d3), .val (.int d4), .val (.int d5)] [(.ref fb149), (.ref fb145), (.ref fb145)])) _
                  refine XS.dup X166.here hx rfl (hb hby D11_184) rfl rfl ?_
                  show Steps p.tables e below (T166.setTop (mkF m 185 #[.val (.int nn), .val (.int d0), .val (.int d1), .val (.int d2), .val (.int d3), .val (.int d4), .val (.int d5)] [(.ref fb149), (.ref fb149), (.ref fb145), (.ref fb145)])) _
                  refine XS.iconst X166.here hx rfl (hb hby D11_185) ?_
                  show Steps p.tables e below (T166.setTop (mkF m 186 #[.val (.int nn), .val (.int d0), .val (.int d1), .val (.int d2), .val (.int d3), .val (.int d4), .val (.int d5)] [(.int 5), (.ref fb149), (.ref fb149), (.ref fb145), (.ref fb145)])) _
                  refine XS.iload X166.here hx rfl (hb hby D11_186) rfl ?_
                  show Steps p.tables e below (T166.setTop (mkF m 188 #[.val (.int nn), .val (.int d0), .val (.int d1), .val (.int d2), .val (.int d3), .val (.int d4), .val (.int d5)] [(.int d5), (.int 5), (.ref fb149), (.ref fb149), (.ref fb145), (.ref fb145)])) _
                  exact st169 _ kk
                have fc172 := (((((((O145.ext E149).wr W154).wr W157).wr W160).wr W163).wr W166).wr W169)
                have fc173 := (((((((F145_value.ext E149).other W154 (Or.inl ne_fb145_fb149)).other W157 (Or.inl ne_fb145_fb149)).other W160 (Or.inl ne_fb145_fb149)).other W163 (Or.inl ne_fb145_fb149)).other W166 (Or.inl ne_fb145_fb149)).other W169 (Or.inl ne_fb145_fb149))
                have fc174 := (((((((F145_coder.ext E149).other W154 (Or.inl ne_fb145_fb149)).other W157 (Or.inl ne_fb145_fb149)).other W160 (Or.inl ne_fb145_fb149)).other W163 (Or.inl ne_fb145_fb149)).other W166 (Or.inl ne_fb145_fb149)).other W169 (Or.inl ne_fb145_fb149))
                have fc175 := ((((((((XO.ext E145).ext E149).wr W154 lo_fb149).wr W157 lo_fb149).wr W160 lo_fb149).wr W163 lo_fb149).wr W166 lo_fb149).wr W169 lo_fb149)
                have fc177 := (Nat.le_trans (Nat.le_trans (Nat.le_trans (Nat.le_trans (Nat.le_trans (Nat.le_trans (Nat.le_trans fc150 E149.1) (Keep.of_wr W154).1) (Keep.of_wr W157).1) (Keep.of_wr W160).1) (Keep.of_wr W163).1) (Keep.of_wr W166).1) (Keep.of_wr W169).1)
                obtain ⟨_, _, ⟨T176, L176, k176, n176⟩, -, X176, ⟨Lc176, hQ176, l176, y176, z176⟩, st176⟩ := X169.specialBack hx (y := (⟨"java/lang/String", "<init>", "([C)V"⟩ : MethodName)) rfl hown (mvT hZ (gw hw 75 rfl)) (mvT hZ (gw hw 76 rfl)) (mvT hZ (gw hw 77 rfl)) (by decide) (StrChars.Road.backV (W := 1) hZ hws (kI := 4) (gw hw 18 rfl) (cs := ([(nar .char d0), (nar .char d1), (nar .char d2), (nar .char d3), (nar .char d4), (nar .char d5)] : List Int32)) (bs := ([(nar .char d0), (nar .char d1), (nar .char d2), (nar .char d3), (nar .char d4), (nar .char d5)] : List Int32).map (fun c => c.toInt8.toInt32)) (n := 6) lo_fb145 fc177 fc172.exa fc173 fc174 V169 (O2.ext fc175.2) P5 rfl rfl (by decide) (by decide) (own_pc (own_nc hd0) (own_pc (own_nc hd1) (own_pc (own_nc hd2) (own_pc (own_nc hd3) (own_pc (own_nc hd4) (own_pc (own_nc hd5) own_p0)))))) rfl (by decide) (by decide)) (g := (mkF m 189 #[.val (.int nn), .val (.int d0), .val (.int d1), .val (.int d2), .val (.int d3), .val (.int d4), .val (.int d5)] [(.ref fb149), (.ref fb145), (.ref fb145)])) rfl (by rw [hml]; rfl) (Steps.refl _) (a := fb145) (argsL := [(.ref fb149)]) (rest := [(.ref fb145)]) (lenOf pd___C_V rfl) rfl (by show 2 * 0 + _ ≤ _; exact Nat.le_of_eq rfl) (hb hby D11_189) (fun _ _ => ⟨rfl, e169, (by decide : 2 + 1 ≤ _), (by decide : 10 + 6 ≤ _)⟩)
                dsimp only [Pt.U, Pt.locs, Pt.cells, Pt.slots] at X176 l176 y176 z176 st176 hQ176
                subst l176 y176 z176
                obtain ⟨rfl, N176q, K176, Ex176, Fc176, t176, kb176, u176, lo176, ne176, Fv176, Vt176⟩ := hQ176
                have N176 := Fr.app N169 N176q
                have SA178 : ∀ y ∈ [fb145], Safe Z own_EL _ _ y := (sfS sf170_fb145 sf0)
                have CR178 := CHr.trans CR170 (CHr.keep K176 SA178 CR170.1)
                have sf178_fb145 := (Safe.keep K176 SA178 CR170.1 sf170_fb145)
                have pre179 : ∀ t, Steps p.tables e below (T176.setTop (mkF m 192 #[.val (.int nn), .val (.int d0), .val (.int d1), .val (.int d2), .val (.int d3), .val (.int d4), .val (.int d5)] [(.ref fb145)])) t → Steps p.tables e below (s₁.setTop (entryFrame m #[(.int nn), (.int d0), (.int d1), (.int d2), (.int d3), (.int d4), (.int d5)] 7)) t := by
                  intro t kk
                  refine pre171 t ?_
                  show Steps p.tables e below (T169.setTop (mkF m 189 #[.val (.int nn), .val (.int d0), .val (.int d1), .val (.int d2), .val (.int d3), .val (.int d4), .val (.int d5)] [(.ref fb149), (.ref fb145), (.ref fb145)])) _
                  exact st176.trans kk
                have ne_fb149_t176 : fb149 ≠ t176 := Nat.ne_of_lt (Nat.lt_of_lt_of_le V169.lt lo176)
                have fc180 := ((((((((fc151.ext E149).wr W154 (Or.inr hi_fb149)).wr W157 (Or.inr hi_fb149)).wr W160 (Or.inr hi_fb149)).wr W163 (Or.inr hi_fb149)).wr W166 (Or.inr hi_fb149)).wr W169 (Or.inr hi_fb149)).trans K176 (allS (Or.inr hi_fb145) all0))
                have fc181 := (fc172.keep K176)
                have fc182 := (Nat.le_trans (Nat.le_trans (Nat.le_trans (Nat.le_trans (Nat.le_trans (Nat.le_trans (Nat.le_trans (Nat.le_trans (Nat.le_trans hk0 E145.1) E149.1) (Keep.of_wr W154).1) (Keep.of_wr W157).1) (Keep.of_wr W160).1) (Keep.of_wr W163).1) (Keep.of_wr W166).1) (Keep.of_wr W169).1) K176.1)
                obtain ⟨fs, hr, hrun, hended, hRW⟩ := X176.leaveW hS0 fc182 (v := some (.ref fb145)) (fun h => by rw [Bd.returns] at h; cases h)
                have CRe := CHr.trans CR178 (CHv.at X176 hZ hEL CR178.1)
                refine ⟨_, _, pre179 _ ?_, hrun, hended, _, _, rfl, ?_, ?_, hRW.1, hRW.2.1, hRW.2.2.1, hRW.2.2.2.mono (by decide) (by decide)⟩
                · show Steps p.tables e below (T176.setTop (mkF m 192 #[.val (.int nn), .val (.int d0), .val (.int d1), .val (.int d2), .val (.int d3), .val (.int d4), .val (.int d5)] [(.ref fb145)])) _
                  jvm_step X176.here [X176.here.top, hx, (hb hby D11_192), X176.method', Bd.returns, Value.isRef, FieldType.isReference]
                  first | (intro acts; rw [hr _ acts rfl rfl rfl]) | rw [hr _ _ rfl rfl rfl]
                  exact Steps.refl _
                · show Q_own_make Z nn d0 d1 d2 d3 d4 d5 G1 h0 n0 _ T176.heap _
                  exact ⟨_, rfl, N176, fc180, Or.inr ⟨fb145, t176, kb176, [(nar .char d0), (nar .char d1), (nar .char d2), (nar .char d3), (nar .char d4), (nar .char d5)], rfl, hi_fb145, fc181.exa, Fv176, Fc176, Vt176, Nat.le_of_ble_eq_true rfl, (own_pc (own_nc hd0) (own_pc (own_nc hd1) (own_pc (own_nc hd2) (own_pc (own_nc hd3) (own_pc (own_nc hd4) (own_pc (own_nc hd5) own_p0))))))⟩⟩
                · show CHr Z own_EL s.vm s.heap T176.vm T176.heap
                  rw [hh]
                  exact CRe
              case neg =>
                obtain ⟨fs, hr, hrun, hended, hRW⟩ := X0.leaveW hS0 (by rw [e0]; exact hk0) (v := some .null) (fun h => by rw [Bd.returns] at h; cases h)
                have CRe := CHr.trans CR0 (CHv.at X0 hZ hEL CR0.1)
                refine ⟨_, _, pre0 _ ?_, hrun, hended, _, _, rfl, ?_, ?_, hRW.1, hRW.2.1, hRW.2.2.1, hRW.2.2.2.mono (by decide) (by decide)⟩
                · show Steps p.tables e below (s₁.setTop (mkF m 0 #[.val (.int nn), .val (.int d0), .val (.int d1), .val (.int d2), .val (.int d3), .val (.int d4), .val (.int d5)] [])) _
                  refine XS.iloadN X0.here hx rfl (hb hby D11_0) rfl ?_
                  show Steps p.tables e below (s₁.setTop (mkF m 1 #[.val (.int nn), .val (.int d0), .val (.int d1), .val (.int d2), .val (.int d3), .val (.int d4), .val (.int d5)] [(.int nn)])) _
                  refine XS.ifYes X0.here hx rfl (pc0 := 1) (pc' := 15) rfl (hb hby D11_1) rfl ((if0 _ _).trans (feq hn0).2) (by decide) (by decide) ?_
                  show Steps p.tables e below (s₁.setTop (mkF m 15 #[.val (.int nn), .val (.int d0), .val (.int d1), .val (.int d2), .val (.int d3), .val (.int d4), .val (.int d5)] [])) _
                  refine XS.iloadN X0.here hx rfl (hb hby D11_15) rfl ?_
                  show Steps p.tables e below (s₁.setTop (mkF m 16 #[.val (.int nn), .val (.int d0), .val (.int d1), .val (.int d2), .val (.int d3), .val (.int d4), .val (.int d5)] [(.int nn)])) _
                  refine XS.iconst X0.here hx rfl (hb hby D11_16) ?_
                  show Steps p.tables e below (s₁.setTop (mkF m 17 #[.val (.int nn), .val (.int d0), .val (.int d1), .val (.int d2), .val (.int d3), .val (.int d4), .val (.int d5)] [(.int 1), (.int nn)])) _
                  refine XS.icmpYes X0.here hx rfl (pc0 := 17) (pc' := 25) rfl (hb hby D11_17) rfl (feq hn1).2 (by decide) (by decide) ?_
                  show Steps p.tables e below (s₁.setTop (mkF m 25 #[.val (.int nn), .val (.int d0), .val (.int d1), .val (.int d2), .val (.int d3), .val (.int d4), .val (.int d5)] [])) _
                  refine XS.iloadN X0.here hx rfl (hb hby D11_25) rfl ?_
                  show Steps p.tables e below (s₁.setTop (mkF m 26 #[.val (.int nn), .val (.int d0), .val (.int d1), .val (.int d2), .val (.int d3), .val (.int d4), .val (.int d5)] [(.int nn)])) _
                  refine XS.iconst X0.here hx rfl (hb hby D11_26) ?_
                  show Steps p.tables e below (s₁.setTop (mkF m 27 #[.val (.int nn), .val (.int d0), .val (.int d1), .val (.int d2), .val (.int d3), .val (.int d4), .val (.int d5)] [(.int 2), (.int nn)])) _
                  refine XS.icmpYes X0.here hx rfl (pc0 := 27) (pc' := 49) rfl (hb hby D11_27) rfl (feq hn2).2 (by decide) (by decide) ?_
                  show Steps p.tables e below (s₁.setTop (mkF m 49 #[.val (.int nn), .val (.int d0), .val (.int d1), .val (.int d2), .val (.int d3), .val (.int d4), .val (.int d5)] [])) _
                  refine XS.iloadN X0.here hx rfl (hb hby D11_49) rfl ?_
                  show Steps p.tables e below (s₁.setTop (mkF m 50 #[.val (.int nn), .val (.int d0), .val (.int d1), .val (.int d2), .val (.int d3), .val (.int d4), .val (.int d5)] [(.int nn)])) _
                  refine XS.iconst X0.here hx rfl (hb hby D11_50) ?_
                  show Steps p.tables e below (s₁.setTop (mkF m 51 #[.val (.int nn), .val (.int d0), .val (.int d1), .val (.int d2), .val (.int d3), .val (.int d4), .val (.int d5)] [(.int 3), (.int nn)])) _
                  refine XS.icmpYes X0.here hx rfl (pc0 := 51) (pc' := 77) rfl (hb hby D11_51) rfl (feq hn3).2 (by decide) (by decide) ?_
                  show Steps p.tables e below (s₁.setTop (mkF m 77 #[.val (.int nn), .val (.int d0), .val (.int d1), .val (.int d2), .val (.int d3), .val (.int d4), .val (.int d5)] [])) _
                  refine XS.iloadN X0.here hx rfl (hb hby D11_77) rfl ?_
                  show Steps p.tables e below (s₁.setTop (mkF m 78 #[.val (.int nn), .val (.int d0), .val (.int d1), .val (.int d2), .val (.int d3), .val (.int d4), .val (.int d5)] [(.int nn)])) _
                  refine XS.iconst X0.here hx rfl (hb hby D11_78) ?_
                  show Steps p.tables e below (s₁.setTop (mkF m 79 #[.val (.int nn), .val (.int d0), .val (.int d1), .val (.int d2), .val (.int d3), .val (.int d4), .val (.int d5)] [(.int 4), (.int nn)])) _
                  refine XS.icmpYes X0.here hx rfl (pc0 := 79) (pc' := 110) rfl (hb hby D11_79) rfl (feq hn4).2 (by decide) (by decide) ?_
                  show Steps p.tables e below (s₁.setTop (mkF m 110 #[.val (.int nn), .val (.int d0), .val (.int d1), .val (.int d2), .val (.int d3), .val (.int d4), .val (.int d5)] [])) _
                  refine XS.iloadN X0.here hx rfl (hb hby D11_110) rfl ?_
                  show Steps p.tables e below (s₁.setTop (mkF m 111 #[.val (.int nn), .val (.int d0), .val (.int d1), .val (.int d2), .val (.int d3), .val (.int d4), .val (.int d5)] [(.int nn)])) _
                  refine XS.iconst X0.here hx rfl (hb hby D11_111) ?_
                  show Steps p.tables e below (s₁.setTop (mkF m 112 #[.val (.int nn), .val (.int d0), .val (.int d1), .val (.int d2), .val (.int d3), .val (.int d4), .val (.int d5)] [(.int 5), (.int nn)])) _
                  refine XS.icmpYes X0.here hx rfl (pc0 := 112) (pc' := 148) rfl (hb hby D11_112) rfl (feq hn5).2 (by decide) (by decide) ?_
                  show Steps p.tables e below (s₁.setTop (mkF m 148 #[.val (.int nn), .val (.int d0), .val (.int d1), .val (.int d2), .val (.int d3), .val (.int d4), .val (.int d5)] [])) _
                  refine XS.iloadN X0.here hx rfl (hb hby D11_148) rfl ?_
                  show Steps p.tables e below (s₁.setTop (mkF m 149 #[.val (.int nn), .val (.int d0), .val (.int d1), .val (.int d2), .val (.int d3), .val (.int d4), .val (.int d5)] [(.int nn)])) _
                  refine XS.bipush X0.here hx rfl (hb hby D11_149) ?_
                  show Steps p.tables e below (s₁.setTop (mkF m 151 #[.val (.int nn), .val (.int d0), .val (.int d1), .val (.int d2), .val (.int d3), .val (.int d4), .val (.int d5)] [(.int 6), (.int nn)])) _
                  refine XS.icmpYes X0.here hx rfl (pc0 := 151) (pc' := 193) rfl (hb hby D11_151) rfl (feq hn6).2 (by decide) (by decide) ?_
                  show Steps p.tables e below (s₁.setTop (mkF m 193 #[.val (.int nn), .val (.int d0), .val (.int d1), .val (.int d2), .val (.int d3), .val (.int d4), .val (.int d5)] [])) _
                  refine XS.aconstNull X0.here hx rfl (hb hby D11_193) ?_
                  show Steps p.tables e below (s₁.setTop (mkF m 194 #[.val (.int nn), .val (.int d0), .val (.int d1), .val (.int d2), .val (.int d3), .val (.int d4), .val (.int d5)] [.null])) _
                  jvm_step X0.here [X0.here.top, hx, (hb hby D11_194), X0.method', Bd.returns, Value.isRef, FieldType.isReference]
                  first | (intro acts; rw [hr _ acts rfl rfl rfl]) | rw [hr _ _ rfl rfl rfl]
                  exact Steps.refl _
                · show Q_own_make Z nn d0 d1 d2 d3 d4 d5 G1 h0 n0 _ s₁.heap _
                  rw [e0]
                  exact ⟨_, rfl, N0, (Keep.refl h0 []), Or.inl rfl⟩
                · show CHr Z own_EL s.vm s.heap s₁.vm s₁.heap
                  rw [hh]
                  rw [e0]
                  exact CRe
theorem pn_java_lang_CharacterDataLatin1 : plainName "java/lang/CharacterDataLatin1" = true := by first | (simp [plainName, overriddenIn]; done) | decide +kernel
theorem D12_0 : decode jdk_116_method_22_code 0 = .ok (.iload_n 0, 1) := by decide +kernel
theorem D12_1 : decode jdk_116_method_22_code 1 = .ok (.iload_n 1, 1) := by decide +kernel
theorem D12_2 : decode jdk_116_method_22_code 2 = .ok (.if_icmp .ne 5, 3) := by decide +kernel
theorem D12_5 : decode jdk_116_method_22_code 5 = .ok (.iconst 1, 1) := by decide +kernel
theorem D12_6 : decode jdk_116_method_22_code 6 = .ok (.ireturn, 1) := by decide +kernel
theorem D12_7 : decode jdk_116_method_22_code 7 = .ok (.iload_n 0, 1) := by decide +kernel
theorem D12_8 : decode jdk_116_method_22_code 8 = .ok (.sipush 223, 3) := by decide +kernel
theorem D12_11 : decode jdk_116_method_22_code 11 = .ok (.iand, 1) := by decide +kernel
theorem D12_12 : decode jdk_116_method_22_code 12 = .ok (.istore_n 2, 1) := by decide +kernel
theorem D12_13 : decode jdk_116_method_22_code 13 = .ok (.iload_n 2, 1) := by decide +kernel
theorem D12_14 : decode jdk_116_method_22_code 14 = .ok (.bipush 65, 2) := by decide +kernel
theorem D12_16 : decode jdk_116_method_22_code 16 = .ok (.if_icmp .ge 5, 3) := by decide +kernel
theorem D12_21 : decode jdk_116_method_22_code 21 = .ok (.iload_n 2, 1) := by decide +kernel
theorem D12_22 : decode jdk_116_method_22_code 22 = .ok (.bipush 90, 2) := by decide +kernel
theorem D12_24 : decode jdk_116_method_22_code 24 = .ok (.if_icmp .le 24, 3) := by decide +kernel
theorem D12_48 : decode jdk_116_method_22_code 48 = .ok (.iload_n 2, 1) := by decide +kernel
theorem D12_49 : decode jdk_116_method_22_code 49 = .ok (.iload_n 1, 1) := by decide +kernel
theorem D12_50 : decode jdk_116_method_22_code 50 = .ok (.sipush 223, 3) := by decide +kernel
theorem D12_53 : decode jdk_116_method_22_code 53 = .ok (.iand, 1) := by decide +kernel
theorem D12_54 : decode jdk_116_method_22_code 54 = .ok (.if_icmp .ne 7, 3) := by decide +kernel
theorem D12_57 : decode jdk_116_method_22_code 57 = .ok (.iconst 1, 1) := by decide +kernel
theorem D12_58 : decode jdk_116_method_22_code 58 = .ok (.goto 4, 3) := by decide +kernel
theorem D12_62 : decode jdk_116_method_22_code 62 = .ok (.ireturn, 1) := by decide +kernel
theorem D12_61 : decode jdk_116_method_22_code 61 = .ok (.iconst 0, 1) := by decide +kernel
theorem ef_own_eic (m : MethodId) {b1 : Int32} {b2 : Int32} : entryFrame m #[(.int b1), (.int b2)] 3 = mkF m 0 #[.val (.int b1), .val (.int b2), .unset] [] := by first | (simp [entryFrame, mkF, argsToLocals, Value.category]; done) | rfl
def Q_own_eic (Z : State) (b1 b2 : Int32) (h0 : Heap) (n0 : Nat) (v : Option Value) (h : Heap) (L : List Loc) : Prop := ∃ r : Int32, v = some (.int r) ∧ Fr n0 L ∧ h = h0 ∧ ((b1 = b2 ∨ b1 &&& (223 : Int32) = b2 &&& (223 : Int32)) → r = 1) ∧ (¬ (b1 = b2 ∨ b1 &&& (223 : Int32) = b2 &&& (223 : Int32)) → r = 0)
set_option maxRecDepth 65536 in
set_option maxHeartbeats 40000000 in
theorem own_eic (l : Launch) (Z : State) (a0 : Array Value) (hw : ∀ d ∈ tables_1, d.before a0 Z = true) (ws : List Jvm.Cond) (b1 b2 : Int32) (h0 : Heap) (n0 : Nat) (Z0 : n0 ≤ h0.size) (h65 : ¬ (b1 &&& (223 : Int32)) < (65 : Int32)) (h90 : ¬ (90 : Int32) < (b1 &&& (223 : Int32))) :
    MetFree l (⟨"java/lang/CharacterDataLatin1", "equalsIgnoreCase", "(BB)Z"⟩ : MethodName) (head1 (Jvm.Cond.code (⟨"java/lang/CharacterDataLatin1", "equalsIgnoreCase", "(BB)Z"⟩ : MethodName) jdk_116_method_22_code 3 (some .boolean) :: ws) ({ frames := 0, cells := 0, slots := 0, locals := 0 } : Room)) (fun a U => a = #[(.int b1), (.int b2)] ∧ Z.Warmed39 U.vm ∧ U.heap = h0) (fun _ _ _ _ _ => True) (fun _ U o U' => ∃ v L, o = .returned v ∧ Q_own_eic Z b1 b2 h0 n0 v U'.heap L ∧ FrameEnd U o U' L ({ frames := 0, cells := 0, slots := 0, locals := 0 } : Room).cells ({ frames := 0, cells := 0, slots := 0, locals := 0 } : Room).slots) := by
  refine MetFree.of_bodySF (plainFor_of_name pn_java_lang_CharacterDataLatin1) hisR ?_
  intro p e s m args below meth c s₁ Bd hml0 hP hK
  obtain ⟨rfl, hZ, hh⟩ := hP
  have hx := Bd.exec
  have hby := Bd.bytes
  have hml : c.maxLocals = 3 := hml0
  have hown : s.vm.findClass "java/lang/CharacterDataLatin1" = some m.cls := findClass_of_methodNamed Bd.named
  have hnm := (name_of_methodNamed Bd.named Bd.method).1
  have X0 : Stand p l e ({ frames := 0, cells := 0, slots := 0, locals := 0 } : Room) s m #[(.int b1), (.int b2)] below meth c s₁ [] 0 0 := Stand.of_body Bd
  have e0 : s₁.heap = h0 := by rw [← hh, Bd.state]; rfl
  have N0 := Fr.nil n0
  have pre0 : ∀ t, Steps p.tables e below (s₁.setTop (mkF m 0 #[.val (.int b1), .val (.int b2), .unset] [])) t → Steps p.tables e below (s₁.setTop (entryFrame m #[(.int b1), (.int b2)] 3)) t := fun t k => castTop (ef_own_eic m) k
  by_cases ha : b1 = b2
  case pos =>
    obtain ⟨fs, hr, hrun, hended, hW, hsame⟩ := X0.leave (v := some (.int 1)) (fun h => by rw [Bd.returns] at h; cases h)
    refine ⟨_, _, pre0 _ ?_, hrun, hended, _, _, rfl, ?_, ⟨_, rfl⟩, hW, hsame.mono (by decide) (by decide)⟩
    · show Steps p.tables e below (s₁.setTop (mkF m 0 #[.val (.int b1), .val (.int b2), .unset] [])) _
      refine XS.iloadN X0.here hx rfl (hb hby D12_0) rfl ?_
      show Steps p.tables e below (s₁.setTop (mkF m 1 #[.val (.int b1), .val (.int b2), .unset] [(.int b1)])) _
      refine XS.iloadN X0.here hx rfl (hb hby D12_1) rfl ?_
      show Steps p.tables e below (s₁.setTop (mkF m 2 #[.val (.int b1), .val (.int b2), .unset] [(.int b2), (.int b1)])) _
      refine XS.icmpNo X0.here hx rfl (hb hby D12_2) rfl (teq ha).2 ?_
      show Steps p.tables e below (s₁.setTop (mkF m 5 #[.val (.int b1), .val (.int b2), .unset] [])) _
      refine XS.iconst X0.here hx rfl (hb hby D12_5) ?_
      show Steps p.tables e below (s₁.setTop (mkF m 6 #[.val (.int b1), .val (.int b2), .unset] [(.int 1)])) _
      exact retN X0 hx (t := .boolean) Bd.returns (by simp) (hb hby D12_6) hr
    · show Q_own_eic Z b1 b2 h0 n0 _ s₁.heap _
      rw [e0]
      exact ⟨1, rfl, N0, rfl, fun _ => rfl, fun q => absurd (Or.inl ha) q⟩
  case neg =>
    by_cases hd : (b1 &&& (223 : Int32)) = (b2 &&& (223 : Int32))
    case pos =>
      obtain ⟨fs, hr, hrun, hended, hW, hsame⟩ := X0.leave (v := some (.int 1)) (fun h => by rw [Bd.returns] at h; cases h)
      refine ⟨_, _, pre0 _ ?_, hrun, hended, _, _, rfl, ?_, ⟨_, rfl⟩, hW, hsame.mono (by decide) (by decide)⟩
      · show Steps p.tables e below (s₁.setTop (mkF m 0 #[.val (.int b1), .val (.int b2), .unset] [])) _
        refine XS.iloadN X0.here hx rfl (hb hby D12_0) rfl ?_
        show Steps p.tables e below (s₁.setTop (mkF m 1 #[.val (.int b1), .val (.int b2), .unset] [(.int b1)])) _
        refine XS.iloadN X0.here hx rfl (hb hby D12_1) rfl ?_
        show Steps p.tables e below (s₁.setTop (mkF m 2 #[.val (.int b1), .val (.int b2), .unset] [(.int b2), (.int b1)])) _
        refine XS.icmpYes X0.here hx rfl (pc0 := 2) (pc' := 7) rfl (hb hby D12_2) rfl (feq ha).2 (by decide) (by decide) ?_
        show Steps p.tables e below (s₁.setTop (mkF m 7 #[.val (.int b1), .val (.int b2), .unset] [])) _
        refine XS.iloadN X0.here hx rfl (hb hby D12_7) rfl ?_
        show Steps p.tables e below (s₁.setTop (mkF m 8 #[.val (.int b1), .val (.int b2), .unset] [(.int b1)])) _
        refine XS.sipush X0.here hx rfl (hb hby D12_8) ?_
        show Steps p.tables e below (s₁.setTop (mkF m 11 #[.val (.int b1), .val (.int b2), .unset] [(.int 223), (.int b1)])) _
        refine XS.iand X0.here hx rfl (hb hby D12_11) rfl ?_
        show Steps p.tables e below (s₁.setTop (mkF m 12 #[.val (.int b1), .val (.int b2), .unset] [(.int (b1 &&& (223 : Int32)))])) _
        refine XS.istoreN X0.here hx rfl (hb hby D12_12) rfl (l' := #[.val (.int b1), .val (.int b2), .val (.int (b1 &&& (223 : Int32)))]) rfl ?_
        show Steps p.tables e below (s₁.setTop (mkF m 13 #[.val (.int b1), .val (.int b2), .val (.int (b1 &&& (223 : Int32)))] [])) _
        refine XS.iloadN X0.here hx rfl (hb hby D12_13) rfl ?_
        show Steps p.tables e below (s₁.setTop (mkF m 14 #[.val (.int b1), .val (.int b2), .val (.int (b1 &&& (223 : Int32)))] [(.int (b1 &&& (223 : Int32)))])) _
        refine XS.bipush X0.here hx rfl (hb hby D12_14) ?_
        show Steps p.tables e below (s₁.setTop (mkF m 16 #[.val (.int b1), .val (.int b2), .val (.int (b1 &&& (223 : Int32)))] [(.int 65), (.int (b1 &&& (223 : Int32)))])) _
        refine XS.icmpYes X0.here hx rfl (pc0 := 16) (pc' := 21) rfl (hb hby D12_16) rfl (flt h65).2.1 (by decide) (by decide) ?_
        show Steps p.tables e below (s₁.setTop (mkF m 21 #[.val (.int b1), .val (.int b2), .val (.int (b1 &&& (223 : Int32)))] [])) _
        refine XS.iloadN X0.here hx rfl (hb hby D12_21) rfl ?_
        show Steps p.tables e below (s₁.setTop (mkF m 22 #[.val (.int b1), .val (.int b2), .val (.int (b1 &&& (223 : Int32)))] [(.int (b1 &&& (223 : Int32)))])) _
        refine XS.bipush X0.here hx rfl (hb hby D12_22) ?_
        show Steps p.tables e below (s₁.setTop (mkF m 24 #[.val (.int b1), .val (.int b2), .val (.int (b1 &&& (223 : Int32)))] [(.int 90), (.int (b1 &&& (223 : Int32)))])) _
        refine XS.icmpYes X0.here hx rfl (pc0 := 24) (pc' := 48) rfl (hb hby D12_24) rfl (flt h90).2.2.2 (by decide) (by decide) ?_
        show Steps p.tables e below (s₁.setTop (mkF m 48 #[.val (.int b1), .val (.int b2), .val (.int (b1 &&& (223 : Int32)))] [])) _
        refine XS.iloadN X0.here hx rfl (hb hby D12_48) rfl ?_
        show Steps p.tables e below (s₁.setTop (mkF m 49 #[.val (.int b1), .val (.int b2), .val (.int (b1 &&& (223 : Int32)))] [(.int (b1 &&& (223 : Int32)))])) _
        refine XS.iloadN X0.here hx rfl (hb hby D12_49) rfl ?_
        show Steps p.tables e below (s₁.setTop (mkF m 50 #[.val (.int b1), .val (.int b2), .val (.int (b1 &&& (223 : Int32)))] [(.int b2), (.int (b1 &&& (223 : Int32)))])) _
        refine XS.sipush X0.here hx rfl (hb hby D12_50) ?_
        show Steps p.tables e below (s₁.setTop (mkF m 53 #[.val (.int b1), .val (.int b2), .val (.int (b1 &&& (223 : Int32)))] [(.int 223), (.int b2), (.int (b1 &&& (223 : Int32)))])) _
        refine XS.iand X0.here hx rfl (hb hby D12_53) rfl ?_
        show Steps p.tables e below (s₁.setTop (mkF m 54 #[.val (.int b1), .val (.int b2), .val (.int (b1 &&& (223 : Int32)))] [(.int (b2 &&& (223 : Int32))), (.int (b1 &&& (223 : Int32)))])) _
        refine XS.icmpNo X0.here hx rfl (hb hby D12_54) rfl (teq hd).2 ?_
        show Steps p.tables e below (s₁.setTop (mkF m 57 #[.val (.int b1), .val (.int b2), .val (.int (b1 &&& (223 : Int32)))] [])) _
        refine XS.iconst X0.here hx rfl (hb hby D12_57) ?_
        show Steps p.tables e below (s₁.setTop (mkF m 58 #[.val (.int b1), .val (.int b2), .val (.int (b1 &&& (223 : Int32)))] [(.int 1)])) _
        refine XS.goto X0.here hx rfl (pc0 := 58) (pc' := 62) rfl (hb hby D12_58) (by decide) (by decide) ?_
        show Steps p.tables e below (s₁.setTop (mkF m 62 #[.val (.int b1), .val (.int b2), .val (.int (b1 &&& (223 : Int32)))] [(.int 1)])) _
        exact retN X0 hx (t := .boolean) Bd.returns (by simp) (hb hby D12_62) hr
      · show Q_own_eic Z b1 b2 h0 n0 _ s₁.heap _
        rw [e0]
        exact ⟨1, rfl, N0, rfl, fun _ => rfl, fun q => absurd (Or.inr hd) q⟩
    case neg =>
      obtain ⟨fs, hr, hrun, hended, hW, hsame⟩ := X0.leave (v := some (.int 0)) (fun h => by rw [Bd.returns] at h; cases h)
      refine ⟨_, _, pre0 _ ?_, hrun, hended, _, _, rfl, ?_, ⟨_, rfl⟩, hW, hsame.mono (by decide) (by decide)⟩
      · show Steps p.tables e below (s₁.setTop (mkF m 0 #[.val (.int b1), .val (.int b2), .unset] [])) _
        refine XS.iloadN X0.here hx rfl (hb hby D12_0) rfl ?_
        show Steps p.tables e below (s₁.setTop (mkF m 1 #[.val (.int b1), .val (.int b2), .unset] [(.int b1)])) _
        refine XS.iloadN X0.here hx rfl (hb hby D12_1) rfl ?_
        show Steps p.tables e below (s₁.setTop (mkF m 2 #[.val (.int b1), .val (.int b2), .unset] [(.int b2), (.int b1)])) _
        refine XS.icmpYes X0.here hx rfl (pc0 := 2) (pc' := 7) rfl (hb hby D12_2) rfl (feq ha).2 (by decide) (by decide) ?_
        show Steps p.tables e below (s₁.setTop (mkF m 7 #[.val (.int b1), .val (.int b2), .unset] [])) _
        refine XS.iloadN X0.here hx rfl (hb hby D12_7) rfl ?_
        show Steps p.tables e below (s₁.setTop (mkF m 8 #[.val (.int b1), .val (.int b2), .unset] [(.int b1)])) _
        refine XS.sipush X0.here hx rfl (hb hby D12_8) ?_
        show Steps p.tables e below (s₁.setTop (mkF m 11 #[.val (.int b1), .val (.int b2), .unset] [(.int 223), (.int b1)])) _
        refine XS.iand X0.here hx rfl (hb hby D12_11) rfl ?_
        show Steps p.tables e below (s₁.setTop (mkF m 12 #[.val (.int b1), .val (.int b2), .unset] [(.int (b1 &&& (223 : Int32)))])) _
        refine XS.istoreN X0.here hx rfl (hb hby D12_12) rfl (l' := #[.val (.int b1), .val (.int b2), .val (.int (b1 &&& (223 : Int32)))]) rfl ?_
        show Steps p.tables e below (s₁.setTop (mkF m 13 #[.val (.int b1), .val (.int b2), .val (.int (b1 &&& (223 : Int32)))] [])) _
        refine XS.iloadN X0.here hx rfl (hb hby D12_13) rfl ?_
        show Steps p.tables e below (s₁.setTop (mkF m 14 #[.val (.int b1), .val (.int b2), .val (.int (b1 &&& (223 : Int32)))] [(.int (b1 &&& (223 : Int32)))])) _
        refine XS.bipush X0.here hx rfl (hb hby D12_14) ?_
        show Steps p.tables e below (s₁.setTop (mkF m 16 #[.val (.int b1), .val (.int b2), .val (.int (b1 &&& (223 : Int32)))] [(.int 65), (.int (b1 &&& (223 : Int32)))])) _
        refine XS.icmpYes X0.here hx rfl (pc0 := 16) (pc' := 21) rfl (hb hby D12_16) rfl (flt h65).2.1 (by decide) (by decide) ?_
        show Steps p.tables e below (s₁.setTop (mkF m 21 #[.val (.int b1), .val (.int b2), .val (.int (b1 &&& (223 : Int32)))] [])) _
        refine XS.iloadN X0.here hx rfl (hb hby D12_21) rfl ?_
        show Steps p.tables e below (s₁.setTop (mkF m 22 #[.val (.int b1), .val (.int b2), .val (.int (b1 &&& (223 : Int32)))] [(.int (b1 &&& (223 : Int32)))])) _
        refine XS.bipush X0.here hx rfl (hb hby D12_22) ?_
        show Steps p.tables e below (s₁.setTop (mkF m 24 #[.val (.int b1), .val (.int b2), .val (.int (b1 &&& (223 : Int32)))] [(.int 90), (.int (b1 &&& (223 : Int32)))])) _
        refine XS.icmpYes X0.here hx rfl (pc0 := 24) (pc' := 48) rfl (hb hby D12_24) rfl (flt h90).2.2.2 (by decide) (by decide) ?_
        show Steps p.tables e below (s₁.setTop (mkF m 48 #[.val (.int b1), .val (.int b2), .val (.int (b1 &&& (223 : Int32)))] [])) _
        refine XS.iloadN X0.here hx rfl (hb hby D12_48) rfl ?_
        show Steps p.tables e below (s₁.setTop (mkF m 49 #[.val (.int b1), .val (.int b2), .val (.int (b1 &&& (223 : Int32)))] [(.int (b1 &&& (223 : Int32)))])) _
        refine XS.iloadN X0.here hx rfl (hb hby D12_49) rfl ?_
        show Steps p.tables e below (s₁.setTop (mkF m 50 #[.val (.int b1), .val (.int b2), .val (.int (b1 &&& (223 : Int32)))] [(.int b2), (.int (b1 &&& (223 : Int32)))])) _
        refine XS.sipush X0.here hx rfl (hb hby D12_50) ?_
        show Steps p.tables e below (s₁.setTop (mkF m 53 #[.val (.int b1), .val (.int b2), .val (.int (b1 &&& (223 : Int32)))] [(.int 223), (.int b2), (.int (b1 &&& (223 : Int32)))])) _
        refine XS.iand X0.here hx rfl (hb hby D12_53) rfl ?_
        show Steps p.tables e below (s₁.setTop (mkF m 54 #[.val (.int b1), .val (.int b2), .val (.int (b1 &&& (223 : Int32)))] [(.int (b2 &&& (223 : Int32))), (.int (b1 &&& (223 : Int32)))])) _
        refine XS.icmpYes X0.here hx rfl (pc0 := 54) (pc' := 61) rfl (hb hby D12_54) rfl (feq hd).2 (by decide) (by decide) ?_
        show Steps p.tables e below (s₁.setTop (mkF m 61 #[.val (.int b1), .val (.int b2), .val (.int (b1 &&& (223 : Int32)))] [])) _
        refine XS.iconst X0.here hx rfl (hb hby D12_61) ?_
        show Steps p.tables e below (s₁.setTop (mkF m 62 #[.val (.int b1), .val (.int b2), .val (.int (b1 &&& (223 : Int32)))] [(.int 0)])) _
        exact retN X0 hx (t := .boolean) Bd.returns (by simp) (hb hby D12_62) hr
      · show Q_own_eic Z b1 b2 h0 n0 _ s₁.heap _
        rw [e0]
        exact ⟨0, rfl, N0, rfl, fun q => absurd q (not_or.mpr ⟨ha, hd⟩), fun _ => rfl⟩
theorem D13_0 : decode jdk_43_method_30_code 0 = .ok (.iload_n 1, 1) := by decide +kernel
theorem D13_1 : decode jdk_43_method_30_code 1 = .ok (.iload 4, 2) := by decide +kernel
theorem D13_3 : decode jdk_43_method_30_code 3 = .ok (.iadd, 1) := by decide +kernel
theorem D13_4 : decode jdk_43_method_30_code 4 = .ok (.istore 5, 2) := by decide +kernel
theorem D13_6 : decode jdk_43_method_30_code 6 = .ok (.iload_n 1, 1) := by decide +kernel
theorem D13_7 : decode jdk_43_method_30_code 7 = .ok (.iload 5, 2) := by decide +kernel
theorem D13_9 : decode jdk_43_method_30_code 9 = .ok (.if_icmp .ge 34, 3) := by decide +kernel
theorem D13_12 : decode jdk_43_method_30_code 12 = .ok (.aload_n 0, 1) := by decide +kernel
theorem D13_13 : decode jdk_43_method_30_code 13 = .ok (.iload_n 1, 1) := by decide +kernel
theorem D13_14 : decode jdk_43_method_30_code 14 = .ok (.iinc 1 1, 3) := by decide +kernel
theorem D13_17 : decode jdk_43_method_30_code 17 = .ok (.baload, 1) := by decide +kernel
theorem D13_18 : decode jdk_43_method_30_code 18 = .ok (.istore 6, 2) := by decide +kernel
theorem D13_20 : decode jdk_43_method_30_code 20 = .ok (.aload_n 2, 1) := by decide +kernel
theorem D13_21 : decode jdk_43_method_30_code 21 = .ok (.iload_n 3, 1) := by decide +kernel
theorem D13_22 : decode jdk_43_method_30_code 22 = .ok (.iinc 3 1, 3) := by decide +kernel
theorem D13_25 : decode jdk_43_method_30_code 25 = .ok (.baload, 1) := by decide +kernel
theorem D13_26 : decode jdk_43_method_30_code 26 = .ok (.istore 7, 2) := by decide +kernel
theorem D13_28 : decode jdk_43_method_30_code 28 = .ok (.iload 6, 2) := by decide +kernel
theorem D13_30 : decode jdk_43_method_30_code 30 = .ok (.iload 7, 2) := by decide +kernel
theorem pd__BB_Z : parseMethodDescriptor "(BB)Z" = some ⟨[.byte, .byte], some .boolean⟩ := by decide +kernel
theorem D13_32 : decode jdk_43_method_30_code 32 = .ok (.invokestatic 153, 3) := by decide +kernel
theorem D13_35 : decode jdk_43_method_30_code 35 = .ok (.ifCond .eq 6, 3) := by decide +kernel
theorem D13_38 : decode jdk_43_method_30_code 38 = .ok (.goto (-32), 3) := by decide +kernel
theorem D13_43 : decode jdk_43_method_30_code 43 = .ok (.iconst 1, 1) := by decide +kernel
theorem D13_44 : decode jdk_43_method_30_code 44 = .ok (.ireturn, 1) := by decide +kernel
theorem D13_41 : decode jdk_43_method_30_code 41 = .ok (.iconst 0, 1) := by decide +kernel
theorem D13_42 : decode jdk_43_method_30_code 42 = .ok (.ireturn, 1) := by decide +kernel
theorem ef_own_rci4 (m : MethodId) {nb1 : Addr} {nb2 : Addr} : entryFrame m #[(.ref nb1), (.int 0), (.ref nb2), (.int 0), (.int 4)] 8 = mkF m 0 #[.val (.ref nb1), .val (.int 0), .val (.ref nb2), .val (.int 0), .val (.int 4), .unset, .unset, .unset] [] := by first | (simp [entryFrame, mkF, argsToLocals, Value.category]; done) | rfl
def Q_own_rci4 (Z : State) (nb1 nb2 : Addr) (kk1 kk2 : ClassId) (d0 d1 d2 d3 : Int32) (h0 : Heap) (n0 : Nat) (v : Option Value) (h : Heap) (L : List Loc) : Prop := ∃ r : Int32, v = some (.int r) ∧ Fr n0 L ∧ h = h0 ∧ ((own_M (104 : Int32) d0 ∧ own_M (116 : Int32) d1 ∧ own_M (116 : Int32) d2 ∧ own_M (112 : Int32) d3) → r = 1) ∧ (¬ (own_M (104 : Int32) d0 ∧ own_M (116 : Int32) d1 ∧ own_M (116 : Int32) d2 ∧ own_M (112 : Int32) d3) → r = 0)
set_option maxRecDepth 65536 in
set_option maxHeartbeats 40000000 in
theorem own_rci4 (l : Launch) (Z : State) (a0 : Array Value) (hw : ∀ d ∈ tables_1, d.before a0 Z = true) (ws : List Jvm.Cond) (nb1 nb2 : Addr) (kk1 kk2 : ClassId) (d0 d1 d2 d3 : Int32) (h0 : Heap) (n0 : Nat) (Z0 : n0 ≤ h0.size) (xV1 : Arv Z h0 nb1 kk1 .byte (4 : Int32) [(.int 104), (.int 116), (.int 116), (.int 112)] (.int 0)) (xV2 : Arv Z h0 nb2 kk2 .byte (4 : Int32) (own_B [d0, d1, d2, d3]) (.int 0)) :
    MetFree l (⟨"java/lang/StringLatin1", "regionMatchesCI", "([BI[BII)Z"⟩ : MethodName) (head1 (Jvm.Cond.code (⟨"java/lang/StringLatin1", "regionMatchesCI", "([BI[BII)Z"⟩ : MethodName) jdk_43_method_30_code 8 (some .boolean) :: ws) ({ frames := 1, cells := 0, slots := 0, locals := 14 } : Room)) (fun a U => a = #[(.ref nb1), (.int 0), (.ref nb2), (.int 0), (.int 4)] ∧ Z.Warmed39 U.vm ∧ U.heap = h0) (fun _ _ _ _ _ => True) (fun _ U o U' => ∃ v L, o = .returned v ∧ Q_own_rci4 Z nb1 nb2 kk1 kk2 d0 d1 d2 d3 h0 n0 v U'.heap L ∧ FrameEnd U o U' L ({ frames := 1, cells := 0, slots := 0, locals := 14 } : Room).cells ({ frames := 1, cells := 0, slots := 0, locals := 14 } : Room).slots) := by
  refine MetFree.of_bodySF (plainFor_of_name pn_java_lang_StringLatin1) hisR ?_
  intro p e s m args below meth c s₁ Bd hml0 hP hK
  obtain ⟨rfl, hZ, hh⟩ := hP
  have hx := Bd.exec
  have hby := Bd.bytes
  have hml : c.maxLocals = 8 := hml0
  have hown : s.vm.findClass "java/lang/StringLatin1" = some m.cls := findClass_of_methodNamed Bd.named
  have hnm := (name_of_methodNamed Bd.named Bd.method).1
  have X0 : Stand p l e ({ frames := 1, cells := 0, slots := 0, locals := 14 } : Room) s m #[(.ref nb1), (.int 0), (.ref nb2), (.int 0), (.int 4)] below meth c s₁ [] 0 0 := Stand.of_body Bd
  have e0 : s₁.heap = h0 := by rw [← hh, Bd.state]; rfl
  have N0 := Fr.nil n0
  have pre0 : ∀ t, Steps p.tables e below (s₁.setTop (mkF m 0 #[.val (.ref nb1), .val (.int 0), .val (.ref nb2), .val (.int 0), .val (.int 4), .unset, .unset, .unset] [])) t → Steps p.tables e below (s₁.setTop (entryFrame m #[(.ref nb1), (.int 0), (.ref nb2), (.int 0), (.int 4)] 8)) t := fun t k => castTop (ef_own_rci4 m) k
  have hd1 : (0 : Int32) < ((0 : Int32) + (4 : Int32)) := by decide
  obtain ⟨cl2, Ar2, q2, S2, M2, H2, G2⟩ := id xV1
  have hin3 : ¬ ((0 : Int32) < 0 ∨ cl2.slots.size ≤ ((0 : Int32)).toNatClampNeg) := inb_of S2 ⟨by decide, by decide⟩
  have hat3 : cl2.slots[((0 : Int32)).toNatClampNeg]? = some (.int 104) := Has.at H2 (inb_of S2 ⟨by decide, by decide⟩) rfl
  obtain ⟨cl4, Ar4, q4, S4, M4, H4, G4⟩ := id xV2
  have hin5 : ¬ ((0 : Int32) < 0 ∨ cl4.slots.size ≤ ((0 : Int32)).toNatClampNeg) := inb_of S4 ⟨by decide, by decide⟩
  have hat5 : cl4.slots[((0 : Int32)).toNatClampNeg]? = some (.int d0.toInt8.toInt32) := Has.at H4 (inb_of S4 ⟨by decide, by decide⟩) rfl
  obtain ⟨_, _, ⟨T6, L6, k6, n6⟩, -, X6, ⟨Lc6, hQ6, l6, y6, z6⟩, st6⟩ := Jvm.LawKit.callS X0 hx (y := (⟨"java/lang/CharacterDataLatin1", "equalsIgnoreCase", "(BB)Z"⟩ : MethodName)) hown (mvT hZ (gw hw 126 rfl)) (mvT hZ (gw hw 127 rfl)) (mvT hZ (gw hw 128 rfl)) (mvT hZ (gw hw 129 rfl)) (by decide) (backOf (W := 0) (own_eic l Z a0 hw [] (104 : Int32) d0.toInt8.toInt32 h0 n0 Z0 (by decide) (by decide)) hZ (gw hw 129 rfl) (gw hw 128 rfl) (by decide) (by decide)) (g := (mkF m 32 #[.val (.ref nb1), .val (.int ((0 : Int32) + (1 : Int32))), .val (.ref nb2), .val (.int ((0 : Int32) + (1 : Int32))), .val (.int 4), .val (.int ((0 : Int32) + (4 : Int32))), .val (.int 104), .val (.int d0.toInt8.toInt32)] [(.int d0.toInt8.toInt32), (.int 104)])) rfl (by rw [hml]; rfl) (argsL := [(.int 104), (.int d0.toInt8.toInt32)]) (rest := []) (lenOf pd__BB_Z rfl) rfl (by show 2 * 0 + _ ≤ _; exact Nat.le_of_eq rfl) (hb hby D13_32) (fun _ _ => ⟨rfl, e0, (by decide : 0 + 0 ≤ _), (by decide : 0 + 0 ≤ _)⟩)
  dsimp only [Pt.U, Pt.locs, Pt.cells, Pt.slots] at X6 l6 y6 z6 st6 hQ6
  subst l6 y6 z6
  obtain ⟨rr0, rfl, N6q, e6q, ra0, rb0⟩ := hQ6
  have N6 := Fr.app N0 N6q
  have pre7 : ∀ t, Steps p.tables e below (T6.setTop (mkF m 35 #[.val (.ref nb1), .val (.int ((0 : Int32) + (1 : Int32))), .val (.ref nb2), .val (.int ((0 : Int32) + (1 : Int32))), .val (.int 4), .val (.int ((0 : Int32) + (4 : Int32))), .val (.int 104), .val (.int d0.toInt8.toInt32)] [(.int rr0)])) t → Steps p.tables e below (s₁.setTop (entryFrame m #[(.ref nb1), (.int 0), (.ref nb2), (.int 0), (.int 4)] 8)) t := by
    intro t kk
    refine pre0 t ?_
    show Steps p.tables e below (s₁.setTop (mkF m 0 #[.val (.ref nb1), .val (.int 0), .val (.ref nb2), .val (.int 0), .val (.int 4), .unset, .unset, .unset] [])) _
    refine XS.iloadN X0.here hx rfl (hb hby D13_0) rfl ?_
    show Steps p.tables e below (s₁.setTop (mkF m 1 #[.val (.ref nb1), .val (.int 0), .val (.ref nb2), .val (.int 0), .val (.int 4), .unset, .unset, .unset] [(.int 0)])) _
    refine XS.iload X0.here hx rfl (hb hby D13_1) rfl ?_
    show Steps p.tables e below (s₁.setTop (mkF m 3 #[.val (.ref nb1), .val (.int 0), .val (.ref nb2), .val (.int 0), .val (.int 4), .unset, .unset, .unset] [(.int 4), (.int 0)])) _
    refine XS.iadd X0.here hx rfl (hb hby D13_3) rfl ?_
    show Steps p.tables e below (s₁.setTop (mkF m 4 #[.val (.ref nb1), .val (.int 0), .val (.ref nb2), .val (.int 0), .val (.int 4), .unset, .unset, .unset] [(.int ((0 : Int32) + (4 : Int32)))])) _
    refine XS.istore X0.here hx rfl (hb hby D13_4) rfl (l' := #[.val (.ref nb1), .val (.int 0), .val (.ref nb2), .val (.int 0), .val (.int 4), .val (.int ((0 : Int32) + (4 : Int32))), .unset, .unset]) rfl ?_
    show Steps p.tables e below (s₁.setTop (mkF m 6 #[.val (.ref nb1), .val (.int 0), .val (.ref nb2), .val (.int 0), .val (.int 4), .val (.int ((0 : Int32) + (4 : Int32))), .unset, .unset] [])) _
    refine XS.iloadN X0.here hx rfl (hb hby D13_6) rfl ?_
    show Steps p.tables e below (s₁.setTop (mkF m 7 #[.val (.ref nb1), .val (.int 0), .val (.ref nb2), .val (.int 0), .val (.int 4), .val (.int ((0 : Int32) + (4 : Int32))), .unset, .unset] [(.int 0)])) _
    refine XS.iload X0.here hx rfl (hb hby D13_7) rfl ?_
    show Steps p.tables e below (s₁.setTop (mkF m 9 #[.val (.ref nb1), .val (.int 0), .val (.ref nb2), .val (.int 0), .val (.int 4), .val (.int ((0 : Int32) + (4 : Int32))), .unset, .unset] [(.int ((0 : Int32) + (4 : Int32))), (.int 0)])) _
    refine XS.icmpNo X0.here hx rfl (hb hby D13_9) rfl (tlt hd1).2.1 ?_
    show Steps p.tables e below (s₁.setTop (mkF m 12 #[.val (.ref nb1), .val (.int 0), .val (.ref nb2), .val (.int 0), .val (.int 4), .val (.int ((0 : Int32) + (4 : Int32))), .unset, .unset] [])) _
    refine XS.aloadN X0.here hx rfl (hb hby D13_12) rfl rfl ?_
    show Steps p.tables e below (s₁.setTop (mkF m 13 #[.val (.ref nb1), .val (.int 0), .val (.ref nb2), .val (.int 0), .val (.int 4), .val (.int ((0 : Int32) + (4 : Int32))), .unset, .unset] [(.ref nb1)])) _
    refine XS.iloadN X0.here hx rfl (hb hby D13_13) rfl ?_
    show Steps p.tables e below (s₁.setTop (mkF m 14 #[.val (.ref nb1), .val (.int 0), .val (.ref nb2), .val (.int 0), .val (.int 4), .val (.int ((0 : Int32) + (4 : Int32))), .unset, .unset] [(.int 0), (.ref nb1)])) _
    refine XS.iinc X0.here hx rfl (hb hby D13_14) rfl (l' := #[.val (.ref nb1), .val (.int ((0 : Int32) + (1 : Int32))), .val (.ref nb2), .val (.int 0), .val (.int 4), .val (.int ((0 : Int32) + (4 : Int32))), .unset, .unset]) rfl ?_
    show Steps p.tables e below (s₁.setTop (mkF m 17 #[.val (.ref nb1), .val (.int ((0 : Int32) + (1 : Int32))), .val (.ref nb2), .val (.int 0), .val (.int 4), .val (.int ((0 : Int32) + (4 : Int32))), .unset, .unset] [(.int 0), (.ref nb1)])) _
    refine X0.baloadBytes hx (j := (0 : Int32)) (v := (.int 104)) (by rw [e0]; exact Ar2.1) (State.isArrayOf_alike hZ.alike Ar2.2.1) Ar2.2.2 hin3 hat3 (g := (mkF m 17 #[.val (.ref nb1), .val (.int ((0 : Int32) + (1 : Int32))), .val (.ref nb2), .val (.int 0), .val (.int 4), .val (.int ((0 : Int32) + (4 : Int32))), .unset, .unset] [(.int 0), (.ref nb1)])) rfl rfl (hb hby D13_17) _ ?_
    show Steps p.tables e below (s₁.setTop (mkF m 18 #[.val (.ref nb1), .val (.int ((0 : Int32) + (1 : Int32))), .val (.ref nb2), .val (.int 0), .val (.int 4), .val (.int ((0 : Int32) + (4 : Int32))), .unset, .unset] [(.int 104)])) _
    refine XS.istore X0.here hx rfl (hb hby D13_18) rfl (l' := #[.val (.ref nb1), .val (.int ((0 : Int32) + (1 : Int32))), .val (.ref nb2), .val (.int 0), .val (.int 4), .val (.int ((0 : Int32) + (4 : Int32))), .val (.int 104), .unset]) rfl ?_
    show Steps p.tables e below (s₁.setTop (mkF m 20 #[.val (.ref nb1), .val (.int ((0 : Int32) + (1 : Int32))), .val (.ref nb2), .val (.int 0), .val (.int 4), .val (.int ((0 : Int32) + (4 : Int32))), .val (.int 104), .unset] [])) _
    refine XS.aloadN X0.here hx rfl (hb hby D13_20) rfl rfl ?_
    show Steps p.tables e below (s₁.setTop (mkF m 21 #[.val (.ref nb1), .val (.int ((0 : Int32) + (1 : Int32))), .val (.ref nb2), .val (.int 0), .val (.int 4), .val (.int ((0 : Int32) + (4 : Int32))), .val (.int 104), .unset] [(.ref nb2)])) _
    refine XS.iloadN X0.here hx rfl (hb hby D13_21) rfl ?_
    show Steps p.tables e below (s₁.setTop (mkF m 22 #[.val (.ref nb1), .val (.int ((0 : Int32) + (1 : Int32))), .val (.ref nb2), .val (.int 0), .val (.int 4), .val (.int ((0 : Int32) + (4 : Int32))), .val (.int 104), .unset] [(.int 0), (.ref nb2)])) _
    refine XS.iinc X0.here hx rfl (hb hby D13_22) rfl (l' := #[.val (.ref nb1), .val (.int ((0 : Int32) + (1 : Int32))), .val (.ref nb2), .val (.int ((0 : Int32) + (1 : Int32))), .val (.int 4), .val (.int ((0 : Int32) + (4 : Int32))), .val (.int 104), .unset]) rfl ?_
    show Steps p.tables e below (s₁.setTop (mkF m 25 #[.val (.ref nb1), .val (.int ((0 : Int32) + (1 : Int32))), .val (.ref nb2), .val (.int ((0 : Int32) + (1 : Int32))), .val (.int 4), .val (.int ((0 : Int32) + (4 : Int32))), .val (.int 104), .unset] [(.int 0), (.ref nb2)])) _
    refine X0.baloadBytes hx (j := (0 : Int32)) (v := (.int d0.toInt8.toInt32)) (by rw [e0]; exact Ar4.1) (State.isArrayOf_alike hZ.alike Ar4.2.1) Ar4.2.2 hin5 hat5 (g := (mkF m 25 #[.val (.ref nb1), .val (.int ((0 : Int32) + (1 : Int32))), .val (.ref nb2), .val (.int ((0 : Int32) + (1 : Int32))), .val (.int 4), .val (.int ((0 : Int32) + (4 : Int32))), .val (.int 104), .unset] [(.int 0), (.ref nb2)])) rfl rfl (hb hby D13_25) _ ?_
    show Steps p.tables e below (s₁.setTop (mkF m 26 #[.val (.ref nb1), .val (.int ((0 : Int32) + (1 : Int32))), .val (.ref nb2), .val (.int ((0 : Int32) + (1 : Int32))), .val (.int 4), .val (.int ((0 : Int32) + (4 : Int32))), .val (.int 104), .unset] [(.int d0.toInt8.toInt32)])) _
    refine XS.istore X0.here hx rfl (hb hby D13_26) rfl (l' := #[.val (.ref nb1), .val (.int ((0 : Int32) + (1 : Int32))), .val (.ref nb2), .val (.int ((0 : Int32) + (1 : Int32))), .val (.int 4), .val (.int ((0 : Int32) + (4 : Int32))), .val (.int 104), .val (.int d0.toInt8.toInt32)]) rfl ?_
    show Steps p.tables e below (s₁.setTop (mkF m 28 #[.val (.ref nb1), .val (.int ((0 : Int32) + (1 : Int32))), .val (.ref nb2), .val (.int ((0 : Int32) + (1 : Int32))), .val (.int 4), .val (.int ((0 : Int32) + (4 : Int32))), .val (.int 104), .val (.int d0.toInt8.toInt32)] [])) _
    refine XS.iload X0.here hx rfl (hb hby D13_28) rfl ?_
    show Steps p.tables e below (s₁.setTop (mkF m 30 #[.val (.ref nb1), .val (.int ((0 : Int32) + (1 : Int32))), .val (.ref nb2), .val (.int ((0 : Int32) + (1 : Int32))), .val (.int 4), .val (.int ((0 : Int32) + (4 : Int32))), .val (.int 104), .val (.int d0.toInt8.toInt32)] [(.int 104)])) _
    refine XS.iload X0.here hx rfl (hb hby D13_30) rfl ?_
    show Steps p.tables e below (s₁.setTop (mkF m 32 #[.val (.ref nb1), .val (.int ((0 : Int32) + (1 : Int32))), .val (.ref nb2), .val (.int ((0 : Int32) + (1 : Int32))), .val (.int 4), .val (.int ((0 : Int32) + (4 : Int32))), .val (.int 104), .val (.int d0.toInt8.toInt32)] [(.int d0.toInt8.toInt32), (.int 104)])) _
    exact st6 _ kk
  by_cases hm0 : own_M (104 : Int32) d0
  case pos =>
    have hd8 : ¬ (rr0 = (0 : Int32)) := by rw [ra0 hm0]; decide
    have hd9 : ((0 : Int32) + (1 : Int32)) < ((0 : Int32) + (4 : Int32)) := by decide
    obtain ⟨cl10, Ar10, q10, S10, M10, H10, G10⟩ := id xV1
    have hin11 : ¬ (((0 : Int32) + (1 : Int32)) < 0 ∨ cl10.slots.size ≤ (((0 : Int32) + (1 : Int32))).toNatClampNeg) := inb_of S10 ⟨by decide, by decide⟩
    have hat11 : cl10.slots[(((0 : Int32) + (1 : Int32))).toNatClampNeg]? = some (.int 116) := Has.at H10 (inb_of S10 ⟨by decide, by decide⟩) rfl
    obtain ⟨cl12, Ar12, q12, S12, M12, H12, G12⟩ := id xV2
    have hin13 : ¬ (((0 : Int32) + (1 : Int32)) < 0 ∨ cl12.slots.size ≤ (((0 : Int32) + (1 : Int32))).toNatClampNeg) := inb_of S12 ⟨by decide, by decide⟩
    have hat13 : cl12.slots[(((0 : Int32) + (1 : Int32))).toNatClampNeg]? = some (.int d1.toInt8.toInt32) := Has.at H12 (inb_of S12 ⟨by decide, by decide⟩) rfl
    obtain ⟨_, _, ⟨T14, L14, k14, n14⟩, -, X14, ⟨Lc14, hQ14, l14, y14, z14⟩, st14⟩ := Jvm.LawKit.callS X6 hx (y := (⟨"java/lang/CharacterDataLatin1", "equalsIgnoreCase", "(BB)Z"⟩ : MethodName)) hown (mvT hZ (gw hw 126 rfl)) (mvT hZ (gw hw 127 rfl)) (mvT hZ (gw hw 128 rfl)) (mvT hZ (gw hw 129 rfl)) (by decide) (backOf (W := 0) (own_eic l Z a0 hw [] (116 : Int32) d1.toInt8.toInt32 h0 n0 Z0 (by decide) (by decide)) hZ (gw hw 129 rfl) (gw hw 128 rfl) (by decide) (by decide)) (g := (mkF m 32 #[.val (.ref nb1), .val (.int (((0 : Int32) + (1 : Int32)) + (1 : Int32))), .val (.ref nb2), .val (.int (((0 : Int32) + (1 : Int32)) + (1 : Int32))), .val (.int 4), .val (.int ((0 : Int32) + (4 : Int32))), .val (.int 116), .val (.int d1.toInt8.toInt32)] [(.int d1.toInt8.toInt32), (.int 116)])) rfl (by rw [hml]; rfl) (argsL := [(.int 116), (.int d1.toInt8.toInt32)]) (rest := []) (lenOf pd__BB_Z rfl) rfl (by show 2 * 0 + _ ≤ _; exact Nat.le_of_eq rfl) (hb hby D13_32) (fun _ _ => ⟨rfl, e6q, (by decide : 0 + 0 ≤ _), (by decide : 0 + 0 ≤ _)⟩)
    dsimp only [Pt.U, Pt.locs, Pt.cells, Pt.slots] at X14 l14 y14 z14 st14 hQ14
    subst l14 y14 z14
    obtain ⟨rr1, rfl, N14q, e14q, ra1, rb1⟩ := hQ14
    have N14 := Fr.app N6 N14q
    have pre15 : ∀ t, Steps p.tables e below (T14.setTop (mkF m 35 #[.val (.ref nb1), .val (.int (((0 : Int32) + (1 : Int32)) + (1 : Int32))), .val (.ref nb2), .val (.int (((0 : Int32) + (1 : Int32)) + (1 : Int32))), .val (.int 4), .val (.int ((0 : Int32) + (4 : Int32))), .val (.int 116), .val (.int d1.toInt8.toInt32)] [(.int rr1)])) t → Steps p.tables e below (s₁.setTop (entryFrame m #[(.ref nb1), (.int 0), (.ref nb2), (.int 0), (.int 4)] 8)) t := by
      intro t kk
      refine pre7 t ?_
      show Steps p.tables e below (T6.setTop (mkF m 35 #[.val (.ref nb1), .val (.int ((0 : Int32) + (1 : Int32))), .val (.ref nb2), .val (.int ((0 : Int32) + (1 : Int32))), .val (.int 4), .val (.int ((0 : Int32) + (4 : Int32))), .val (.int 104), .val (.int d0.toInt8.toInt32)] [(.int rr0)])) _
      refine XS.ifNo X6.here hx rfl (hb hby D13_35) rfl ((if0 _ _).trans (feq hd8).1) ?_
      show Steps p.tables e below (T6.setTop (mkF m 38 #[.val (.ref nb1), .val (.int ((0 : Int32) + (1 : Int32))), .val (.ref nb2), .val (.int ((0 : Int32) + (1 : Int32))), .val (.int 4), .val (.int ((0 : Int32) + (4 : Int32))), .val (.int 104), .val (.int d0.toInt8.toInt32)] [])) _
      refine XS.goto X6.here hx rfl (pc0 := 38) (pc' := 6) rfl (hb hby D13_38) (by decide) (by decide) ?_
      show Steps p.tables e below (T6.setTop (mkF m 6 #[.val (.ref nb1), .val (.int ((0 : Int32) + (1 : Int32))), .val (.ref nb2), .val (.int ((0 : Int32) + (1 : Int32))), .val (.int 4), .val (.int ((0 : Int32) + (4 : Int32))), .val (.int 104), .val (.int d0.toInt8.toInt32)] [])) _
      refine XS.iloadN X6.here hx rfl (hb hby D13_6) rfl ?_
      show Steps p.tables e below (T6.setTop (mkF m 7 #[.val (.ref nb1), .val (.int ((0 : Int32) + (1 : Int32))), .val (.ref nb2), .val (.int ((0 : Int32) + (1 : Int32))), .val (.int 4), .val (.int ((0 : Int32) + (4 : Int32))), .val (.int 104), .val (.int d0.toInt8.toInt32)] [(.int ((0 : Int32) + (1 : Int32)))])) _
      refine XS.iload X6.here hx rfl (hb hby D13_7) rfl ?_
      show Steps p.tables e below (T6.setTop (mkF m 9 #[.val (.ref nb1), .val (.int ((0 : Int32) + (1 : Int32))), .val (.ref nb2), .val (.int ((0 : Int32) + (1 : Int32))), .val (.int 4), .val (.int ((0 : Int32) + (4 : Int32))), .val (.int 104), .val (.int d0.toInt8.toInt32)] [(.int ((0 : Int32) + (4 : Int32))), (.int ((0 : Int32) + (1 : Int32)))])) _
      refine XS.icmpNo X6.here hx rfl (hb hby D13_9) rfl (tlt hd9).2.1 ?_
      show Steps p.tables e below (T6.setTop (mkF m 12 #[.val (.ref nb1), .val (.int ((0 : Int32) + (1 : Int32))), .val (.ref nb2), .val (.int ((0 : Int32) + (1 : Int32))), .val (.int 4), .val (.int ((0 : Int32) + (4 : Int32))), .val (.int 104), .val (.int d0.toInt8.toInt32)] [])) _
      refine XS.aloadN X6.here hx rfl (hb hby D13_12) rfl rfl ?_
      show Steps p.tables e below (T6.setTop (mkF m 13 #[.val (.ref nb1), .val (.int ((0 : Int32) + (1 : Int32))), .val (.ref nb2), .val (.int ((0 : Int32) + (1 : Int32))), .val (.int 4), .val (.int ((0 : Int32) + (4 : Int32))), .val (.int 104), .val (.int d0.toInt8.toInt32)] [(.ref nb1)])) _
      refine XS.iloadN X6.here hx rfl (hb hby D13_13) rfl ?_
      show Steps p.tables e below (T6.setTop (mkF m 14 #[.val (.ref nb1), .val (.int ((0 : Int32) + (1 : Int32))), .val (.ref nb2), .val (.int ((0 : Int32) + (1 : Int32))), .val (.int 4), .val (.int ((0 : Int32) + (4 : Int32))), .val (.int 104), .val (.int d0.toInt8.toInt32)] [(.int ((0 : Int32) + (1 : Int32))), (.ref nb1)])) _
      refine XS.iinc X6.here hx rfl (hb hby D13_14) rfl (l' := #[.val (.ref nb1), .val (.int (((0 : Int32) + (1 : Int32)) + (1 : Int32))), .val (.ref nb2), .val (.int ((0 : Int32) + (1 : Int32))), .val (.int 4), .val (.int ((0 : Int32) + (4 : Int32))), .val (.int 104), .val (.int d0.toInt8.toInt32)]) rfl ?_
      show Steps p.tables e below (T6.setTop (mkF m 17 #[.val (.ref nb1), .val (.int (((0 : Int32) + (1 : Int32)) + (1 : Int32))), .val (.ref nb2), .val (.int ((0 : Int32) + (1 : Int32))), .val (.int 4), .val (.int ((0 : Int32) + (4 : Int32))), .val (.int 104), .val (.int d0.toInt8.toInt32)] [(.int ((0 : Int32) + (1 : Int32))), (.ref nb1)])) _
      refine X6.baloadBytes hx (j := ((0 : Int32) + (1 : Int32))) (v := (.int 116)) (by rw [e6q]; exact Ar10.1) (State.isArrayOf_alike hZ.alike Ar10.2.1) Ar10.2.2 hin11 hat11 (g := (mkF m 17 #[.val (.ref nb1), .val (.int (((0 : Int32) + (1 : Int32)) + (1 : Int32))), .val (.ref nb2), .val (.int ((0 : Int32) + (1 : Int32))), .val (.int 4), .val (.int ((0 : Int32) + (4 : Int32))), .val (.int 104), .val (.int d0.toInt8.toInt32)] [(.int ((0 : Int32) + (1 : Int32))), (.ref nb1)])) rfl rfl (hb hby D13_17) _ ?_
      show Steps p.tables e below (T6.setTop (mkF m 18 #[.val (.ref nb1), .val (.int (((0 : Int32) + (1 : Int32)) + (1 : Int32))), .val (.ref nb2), .val (.int ((0 : Int32) + (1 : Int32))), .val (.int 4), .val (.int ((0 : Int32) + (4 : Int32))), .val (.int 104), .val (.int d0.toInt8.toInt32)] [(.int 116)])) _
      refine XS.istore X6.here hx rfl (hb hby D13_18) rfl (l' := #[.val (.ref nb1), .val (.int (((0 : Int32) + (1 : Int32)) + (1 : Int32))), .val (.ref nb2), .val (.int ((0 : Int32) + (1 : Int32))), .val (.int 4), .val (.int ((0 : Int32) + (4 : Int32))), .val (.int 116), .val (.int d0.toInt8.toInt32)]) rfl ?_
      show Steps p.tables e below (T6.setTop (mkF m 20 #[.val (.ref nb1), .val (.int (((0 : Int32) + (1 : Int32)) + (1 : Int32))), .val (.ref nb2), .val (.int ((0 : Int32) + (1 : Int32))), .val (.int 4), .val (.int ((0 : Int32) + (4 : Int32))), .val (.int 116), .val (.int d0.toInt8.toInt32)] [])) _
      refine XS.aloadN X6.here hx rfl (hb hby D13_20) rfl rfl ?_
      show Steps p.tables e below (T6.setTop (mkF m 21 #[.val (.ref nb1), .val (.int (((0 : Int32) + (1 : Int32)) + (1 : Int32))), .val (.ref nb2), .val (.int ((0 : Int32) + (1 : Int32))), .val (.int 4), .val (.int ((0 : Int32) + (4 : Int32))), .val (.int 116), .val (.int d0.toInt8.toInt32)] [(.ref nb2)])) _
      refine XS.iloadN X6.here hx rfl (hb hby D13_21) rfl ?_
      show Steps p.tables e below (T6.setTop (mkF m 22 #[.val (.ref nb1), .val (.int (((0 : Int32) + (1 : Int32)) + (1 : Int32))), .val (.ref nb2), .val (.int ((0 : Int32) + (1 : Int32))), .val (.int 4), .val (.int ((0 : Int32) + (4 : Int32))), .val (.int 116), .val (.int d0.toInt8.toInt32)] [(.int ((0 : Int32) + (1 : Int32))), (.ref nb2)])) _
      refine XS.iinc X6.here hx rfl (hb hby D13_22) rfl (l' := #[.val (.ref nb1), .val (.int (((0 : Int32) + (1 : Int32)) + (1 : Int32))), .val (.ref nb2), .val (.int (((0 : Int32) + (1 : Int32)) + (1 : Int32))), .val (.int 4), .val (.int ((0 : Int32) + (4 : Int32))), .val (.int 116), .val (.int d0.toInt8.toInt32)]) rfl ?_
      show Steps p.tables e below (T6.setTop (mkF m 25 #[.val (.ref nb1), .val (.int (((0 : Int32) + (1 : Int32)) + (1 : Int32))), .val (.ref nb2), .val (.int (((0 : Int32) + (1 : Int32)) + (1 : Int32))), .val (.int 4), .val (.int ((0 : Int32) + (4 : Int32))), .val (.int 116), .val (.int d0.toInt8.toInt32)] [(.int ((0 : Int32) + (1 : Int32))), (.ref nb2)])) _
      refine X6.baloadBytes hx (j := ((0 : Int32) + (1 : Int32))) (v := (.int d1.toInt8.toInt32)) (by rw [e6q]; exact Ar12.1) (State.isArrayOf_alike hZ.alike Ar12.2.1) Ar12.2.2 hin13 hat13 (g := (mkF m 25 #[.val (.ref nb1), .val (.int (((0 : Int32) + (1 : Int32)) + (1 : Int32))), .val (.ref nb2), .val (.int (((0 : Int32) + (1 : Int32)) + (1 : Int32))), .val (.int 4), .val (.int ((0 : Int32) + (4 : Int32))), .val (.int 116), .val (.int d0.toInt8.toInt32)] [(.int ((0 : Int32) + (1 : Int32))), (.ref nb2)])) rfl rfl (hb hby D13_25) _ ?_
      show Steps p.tables e below (T6.setTop (mkF m 26 #[.val (.ref nb1), .val (.int (((0 : Int32) + (1 : Int32)) + (1 : Int32))), .val (.ref nb2), .val (.int (((0 : Int32) + (1 : Int32)) + (1 : Int32))), .val (.int 4), .val (.int ((0 : Int32) + (4 : Int32))), .val (.int 116), .val (.int d0.toInt8.toInt32)] [(.int d1.toInt8.toInt32)])) _
      refine XS.istore X6.here hx rfl (hb hby D13_26) rfl (l' := #[.val (.ref nb1), .val (.int (((0 : Int32) + (1 : Int32)) + (1 : Int32))), .val (.ref nb2), .val (.int (((0 : Int32) + (1 : Int32)) + (1 : Int32))), .val (.int 4), .val (.int ((0 : Int32) + (4 : Int32))), .val (.int 116), .val (.int d1.toInt8.toInt32)]) rfl ?_
      show Steps p.tables e below (T6.setTop (mkF m 28 #[.val (.ref nb1), .val (.int (((0 : Int32) + (1 : Int32)) + (1 : Int32))), .val (.ref nb2), .val (.int (((0 : Int32) + (1 : Int32)) + (1 : Int32))), .val (.int 4), .val (.int ((0 : Int32) + (4 : Int32))), .val (.int 116), .val (.int d1.toInt8.toInt32)] [])) _
      refine XS.iload X6.here hx rfl (hb hby D13_28) rfl ?_
      show Steps p.tables e below (T6.setTop (mkF m 30 #[.val (.ref nb1), .val (.int (((0 : Int32) + (1 : Int32)) + (1 : Int32))), .val (.ref nb2), .val (.int (((0 : Int32) + (1 : Int32)) + (1 : Int32))), .val (.int 4), .val (.int ((0 : Int32) + (4 : Int32))), .val (.int 116), .val (.int d1.toInt8.toInt32)] [(.int 116)])) _
      refine XS.iload X6.here hx rfl (hb hby D13_30) rfl ?_
      show Steps p.tables e below (T6.setTop (mkF m 32 #[.val (.ref nb1), .val (.int (((0 : Int32) + (1 : Int32)) + (1 : Int32))), .val (.ref nb2), .val (.int (((0 : Int32) + (1 : Int32)) + (1 : Int32))), .val (.int 4), .val (.int ((0 : Int32) + (4 : Int32))), .val (.int 116), .val (.int d1.toInt8.toInt32)] [(.int d1.toInt8.toInt32), (.int 116)])) _
      exact st14 _ kk
    by_cases hm1 : own_M (116 : Int32) d1
    case pos =>
      have hd16 : ¬ (rr1 = (0 : Int32)) := by rw [ra1 hm1]; decide
      have hd17 : (((0 : Int32) + (1 : Int32)) + (1 : Int32)) < ((0 : Int32) + (4 : Int32)) := by decide
      obtain ⟨cl18, Ar18, q18, S18, M18, H18, G18⟩ := id xV1
      have hin19 : ¬ ((((0 : Int32) + (1 : Int32)) + (1 : Int32)) < 0 ∨ cl18.slots.size ≤ ((((0 : Int32) + (1 : Int32)) + (1 : Int32))).toNatClampNeg) := inb_of S18 ⟨by decide, by decide⟩
      have hat19 : cl18.slots[((((0 : Int32) + (1 : Int32)) + (1 : Int32))).toNatClampNeg]? = some (.int 116) := Has.at H18 (inb_of S18 ⟨by decide, by decide⟩) rfl
      obtain ⟨cl20, Ar20, q20, S20, M20, H20, G20⟩ := id xV2
      have hin21 : ¬ ((((0 : Int32) + (1 : Int32)) + (1 : Int32)) < 0 ∨ cl20.slots.size ≤ ((((0 : Int32) + (1 : Int32)) + (1 : Int32))).toNatClampNeg) := inb_of S20 ⟨by decide, by decide⟩
      have hat21 : cl20.slots[((((0 : Int32) + (1 : Int32)) + (1 : Int32))).toNatClampNeg]? = some (.int d2.toInt8.toInt32) := Has.at H20 (inb_of S20 ⟨by decide, by decide⟩) rfl
      obtain ⟨_, _, ⟨T22, L22, k22, n22⟩, -, X22, ⟨Lc22, hQ22, l22, y22, z22⟩, st22⟩ := Jvm.LawKit.callS X14 hx (y := (⟨"java/lang/CharacterDataLatin1", "equalsIgnoreCase", "(BB)Z"⟩ : MethodName)) hown (mvT hZ (gw hw 126 rfl)) (mvT hZ (gw hw 127 rfl)) (mvT hZ (gw hw 128 rfl)) (mvT hZ (gw hw 129 rfl)) (by decide) (backOf (W := 0) (own_eic l Z a0 hw [] (116 : Int32) d2.toInt8.toInt32 h0 n0 Z0 (by decide) (by decide)) hZ (gw hw 129 rfl) (gw hw 128 rfl) (by decide) (by decide)) (g := (mkF m 32 #[.val (.ref nb1), .val (.int ((((0 : Int32) + (1 : Int32)) + (1 : Int32)) + (1 : Int32))), .val (.ref nb2), .val (.int ((((0 : Int32) + (1 : Int32)) + (1 : Int32)) + (1 : Int32))), .val (.int 4), .val (.int ((0 : Int32) + (4 : Int32))), .val (.int 116), .val (.int d2.toInt8.toInt32)] [(.int d2.toInt8.toInt32), (.int 116)])) rfl (by rw [hml]; rfl) (argsL := [(.int 116), (.int d2.toInt8.toInt32)]) (rest := []) (lenOf pd__BB_Z rfl) rfl (by show 2 * 0 + _ ≤ _; exact Nat.le_of_eq rfl) (hb hby D13_32) (fun _ _ => ⟨rfl, e14q, (by decide : 0 + 0 ≤ _), (by decide : 0 + 0 ≤ _)⟩)
      dsimp only [Pt.U, Pt.locs, Pt.cells, Pt.slots] at X22 l22 y22 z22 st22 hQ22
      subst l22 y22 z22
      obtain ⟨rr2, rfl, N22q, e22q, ra2, rb2⟩ := hQ22
      have N22 := Fr.app N14 N22q
      have pre23 : ∀ t, Steps p.tables e below (T22.setTop (mkF m 35 #[.val (.ref nb1), .val (.int ((((0 : Int32) + (1 : Int32)) + (1 : Int32)) + (1 : Int32))), .val (.ref nb2), .val (.int ((((0 : Int32) + (1 : Int32)) + (1 : Int32)) + (1 : Int32))), .val (.int 4), .val (.int ((0 : Int32) + (4 : Int32))), .val (.int 116), .val (.int d2.toInt8.toInt32)] [(.int rr2)])) t → Steps p.tables e below (s₁.setTop (entryFrame m #[(.ref nb1), (.int 0), (.ref nb2), (.int 0), (.int 4)] 8)) t := by
        intro t kk
        refine pre15 t ?_
        show Steps p.tables e below (T14.setTop (mkF m 35 #[.val (.ref nb1), .val (.int (((0 : Int32) + (1 : Int32)) + (1 : Int32))), .val (.ref nb2), .val (.int (((0 : Int32) + (1 : Int32)) + (1 : Int32))), .val (.int 4), .val (.int ((0 : Int32) + (4 : Int32))), .val (.int 116), .val (.int d1.toInt8.toInt32)] [(.int rr1)])) _
        refine XS.ifNo X14.here hx rfl (hb hby D13_35) rfl ((if0 _ _).trans (feq hd16).1) ?_
        show Steps p.tables e below (T14.setTop (mkF m 38 #[.val (.ref nb1), .val (.int (((0 : Int32) + (1 : Int32)) + (1 : Int32))), .val (.ref nb2), .val (.int (((0 : Int32) + (1 : Int32)) + (1 : Int32))), .val (.int 4), .val (.int ((0 : Int32) + (4 : Int32))), .val (.int 116), .val (.int d1.toInt8.toInt32)] [])) _
        refine XS.goto X14.here hx rfl (pc0 := 38) (pc' := 6) rfl (hb hby D13_38) (by decide) (by decide) ?_
        show Steps p.tables e below (T14.setTop (mkF m 6 #[.val (.ref nb1), .val (.int (((0 : Int32) + (1 : Int32)) + (1 : Int32))), .val (.ref nb2), .val (.int (((0 : Int32) + (1 : Int32)) + (1 : Int32))), .val (.int 4), .val (.int ((0 : Int32) + (4 : Int32))), .val (.int 116), .val (.int d1.toInt8.toInt32)] [])) _
        refine XS.iloadN X14.here hx rfl (hb hby D13_6) rfl ?_
        show Steps p.tables e below (T14.setTop (mkF m 7 #[.val (.ref nb1), .val (.int (((0 : Int32) + (1 : Int32)) + (1 : Int32))), .val (.ref nb2), .val (.int (((0 : Int32) + (1 : Int32)) + (1 : Int32))), .val (.int 4), .val (.int ((0 : Int32) + (4 : Int32))), .val (.int 116), .val (.int d1.toInt8.toInt32)] [(.int (((0 : Int32) + (1 : Int32)) + (1 : Int32)))])) _
        refine XS.iload X14.here hx rfl (hb hby D13_7) rfl ?_
        show Steps p.tables e below (T14.setTop (mkF m 9 #[.val (.ref nb1), .val (.int (((0 : Int32) + (1 : Int32)) + (1 : Int32))), .val (.ref nb2), .val (.int (((0 : Int32) + (1 : Int32)) + (1 : Int32))), .val (.int 4), .val (.int ((0 : Int32) + (4 : Int32))), .val (.int 116), .val (.int d1.toInt8.toInt32)] [(.int ((0 : Int32) + (4 : Int32))), (.int (((0 : Int32) + (1 : Int32)) + (1 : Int32)))])) _
        refine XS.icmpNo X14.here hx rfl (hb hby D13_9) rfl (tlt hd17).2.1 ?_
        show Steps p.tables e below (T14.setTop (mkF m 12 #[.val (.ref nb1), .val (.int (((0 : Int32) + (1 : Int32)) + (1 : Int32))), .val (.ref nb2), .val (.int (((0 : Int32) + (1 : Int32)) + (1 : Int32))), .val (.int 4), .val (.int ((0 : Int32) + (4 : Int32))), .val (.int 116), .val (.int d1.toInt8.toInt32)] [])) _
        refine XS.aloadN X14.here hx rfl (hb hby D13_12) rfl rfl ?_
        show Steps p.tables e below (T14.setTop (mkF m 13 #[.val (.ref nb1), .val (.int (((0 : Int32) + (1 : Int32)) + (1 : Int32))), .val (.ref nb2), .val (.int (((0 : Int32) + (1 : Int32)) + (1 : Int32))), .val (.int 4), .val (.int ((0 : Int32) + (4 : Int32))), .val (.int 116), .val (.int d1.toInt8.toInt32)] [(.ref nb1)])) _
        refine XS.iloadN X14.here hx rfl (hb hby D13_13) rfl ?_
        show Steps p.tables e below (T14.setTop (mkF m 14 #[.val (.ref nb1), .val (.int (((0 : Int32) + (1 : Int32)) + (1 : Int32))), .val (.ref nb2), .val (.int (((0 : Int32) + (1 : Int32)) + (1 : Int32))), .val (.int 4), .val (.int ((0 : Int32) + (4 : Int32))), .val (.int 116), .val (.int d1.toInt8.toInt32)] [(.int (((0 : Int32) + (1 : Int32)) + (1 : Int32))), (.ref nb1)])) _
        refine XS.iinc X14.here hx rfl (hb hby D13_14) rfl (l' := #[.val (.ref nb1), .val (.int ((((0 : Int32) + (1 : Int32)) + (1 : Int32)) + (1 : Int32))), .val (.ref nb2), .val (.int (((0 : Int32) + (1 : Int32)) + (1 : Int32))), .val (.int 4), .val (.int ((0 : Int32) + (4 : Int32))), .val (.int 116), .val (.int d1.toInt8.toInt32)]) rfl ?_
        show Steps p.tables e below (T14.setTop (mkF m 17 #[.val (.ref nb1), .val (.int ((((0 : Int32) + (1 : Int32)) + (1 : Int32)) + (1 : Int32))), .val (.ref nb2), .val (.int (((0 : Int32) + (1 : Int32)) + (1 : Int32))), .val (.int 4), .val (.int ((0 : Int32) + (4 : Int32))), .val (.int 116), .val (.int d1.toInt8.toInt32)] [(.int (((0 : Int32) + (1 : Int32)) + (1 : Int32))), (.ref nb1)])) _
        refine X14.baloadBytes hx (j := (((0 : Int32) + (1 : Int32)) + (1 : Int32))) (v := (.int 116)) (by rw [e14q]; exact Ar18.1) (State.isArrayOf_alike hZ.alike Ar18.2.1) Ar18.2.2 hin19 hat19 (g := (mkF m 17 #[.val (.ref nb1), .val (.int ((((0 : Int32) + (1 : Int32)) + (1 : Int32)) + (1 : Int32))), .val (.ref nb2), .val (.int (((0 : Int32) + (1 : Int32)) + (1 : Int32))), .val (.int 4), .val (.int ((0 : Int32) + (4 : Int32))), .val (.int 116), .val (.int d1.toInt8.toInt32)] [(.int (((0 : Int32) + (1 : Int32)) + (1 : Int32))), (.ref nb1)])) rfl rfl (hb hby D13_17) _ ?_
        show Steps p.tables e below (T14.setTop (mkF m 18 #[.val (.ref nb1), .val (.int ((((0 : Int32) + (1 : Int32)) + (1 : Int32)) + (1 : Int32))), .val (.ref nb2), .val (.int (((0 : Int32) + (1 : Int32)) + (1 : Int32))), .val (.int 4), .val (.int ((0 : Int32) + (4 : Int32))), .val (.int 116), .val (.int d1.toInt8.toInt32)] [(.int 116)])) _
        refine XS.istore X14.here hx rfl (hb hby D13_18) rfl (l' := #[.val (.ref nb1), .val (.int ((((0 : Int32) + (1 : Int32)) + (1 : Int32)) + (1 : Int32))), .val (.ref nb2), .val (.int (((0 : Int32) + (1 : Int32)) + (1 : Int32))), .val (.int 4), .val (.int ((0 : Int32) + (4 : Int32))), .val (.int 116), .val (.int d1.toInt8.toInt32)]) rfl ?_
        show Steps p.tables e below (T14.setTop (mkF m 20 #[.val (.ref nb1), .val (.int ((((0 : Int32) + (1 : Int32)) + (1 : Int32)) + (1 : Int32))), .val (.ref nb2), .val (.int (((0 : Int32) + (1 : Int32)) + (1 : Int32))), .val (.int 4), .val (.int ((0 : Int32) + (4 : Int32))), .val (.int 116), .val (.int d1.toInt8.toInt32)] [])) _
        refine XS.aloadN X14.here hx rfl (hb hby D13_20) rfl rfl ?_
        show Steps p.tables e below (T14.setTop (mkF m 21 #[.val (.ref nb1), .val (.int ((((0 : Int32) + (1 : Int32)) + (1 : Int32)) + (1 : Int32))), .val (.ref nb2), .val (.int (((0 : Int32) + (1 : Int32)) + (1 : Int32))), .val (.int 4), .val (.int ((0 : Int32) + (4 : Int32))), .val (.int 116), .val (.int d1.toInt8.toInt32)] [(.ref nb2)])) _
        refine XS.iloadN X14.here hx rfl (hb hby D13_21) rfl ?_
        show Steps p.tables e below (T14.setTop (mkF m 22 #[.val (.ref nb1), .val (.int ((((0 : Int32) + (1 : Int32)) + (1 : Int32)) + (1 : Int32))), .val (.ref nb2), .val (.int (((0 : Int32) + (1 : Int32)) + (1 : Int32))), .val (.int 4), .val (.int ((0 : Int32) + (4 : Int32))), .val (.int 116), .val (.int d1.toInt8.toInt32)] [(.int (((0 : Int32) + (1 : Int32)) + (1 : Int32))), (.ref nb2)])) _
        refine XS.iinc X14.here hx rfl (hb hby D13_22) rfl (l' := #[.val (.ref nb1), .val (.int ((((0 : Int32) + (1 : Int32)) + (1 : Int32)) + (1 : Int32))), .val (.ref nb2), .val (.int ((((0 : Int32) + (1 : Int32)) + (1 : Int32)) + (1 : Int32))), .val (.int 4), .val (.int ((0 : Int32) + (4 : Int32))), .val (.int 116), .val (.int d1.toInt8.toInt32)]) rfl ?_
        show Steps p.tables e below (T14.setTop (mkF m 25 #[.val (.ref nb1), .val (.int ((((0 : Int32) + (1 : Int32)) + (1 : Int32)) + (1 : Int32))), .val (.ref nb2), .val (.int ((((0 : Int32) + (1 : Int32)) + (1 : Int32)) + (1 : Int32))), .val (.int 4), .val (.int ((0 : Int32) + (4 : Int32))), .val (.int 116), .val (.int d1.toInt8.toInt32)] [(.int (((0 : Int32) + (1 : Int32)) + (1 : Int32))), (.ref nb2)])) _
        refine X14.baloadBytes hx (j := (((0 : Int32) + (1 : Int32)) + (1 : Int32))) (v := (.int d2.toInt8.toInt32)) (by rw [e14q]; exact Ar20.1) (State.isArrayOf_alike hZ.alike Ar20.2.1) Ar20.2.2 hin21 hat21 (g := (mkF m 25 #[.val (.ref nb1), .val (.int ((((0 : Int32) + (1 : Int32)) + (1 : Int32)) + (1 : Int32))), .val (.ref nb2), .val (.int ((((0 : Int32) + (1 : Int32)) + (1 : Int32)) + (1 : Int32))), .val (.int 4), .val (.int ((0 : Int32) + (4 : Int32))), .val (.int 116), .val (.int d1.toInt8.toInt32)] [(.int (((0 : Int32) + (1 : Int32)) + (1 : Int32))), (.ref nb2)])) rfl rfl (hb hby D13_25) _ ?_
        show Steps p.tables e below (T14.setTop (mkF m 26 #[.val (.ref nb1), .val (.int ((((0 : Int32) + (1 : Int32)) + (1 : Int32)) + (1 : Int32))), .val (.ref nb2), .val (.int ((((0 : Int32) + (1 : Int32)) + (1 : Int32)) + (1 : Int32))), .val (.int 4), .val (.int ((0 : Int32) + (4 : Int32))), .val (.int 116), .val (.int d1.toInt8.toInt32)] [(.int d2.toInt8.toInt32)])) _
        refine XS.istore X14.here hx rfl (hb hby D13_26) rfl (l' := #[.val (.ref nb1), .val (.int ((((0 : Int32) + (1 : Int32)) + (1 : Int32)) + (1 : Int32))), .val (.ref nb2), .val (.int ((((0 : Int32) + (1 : Int32)) + (1 : Int32)) + (1 : Int32))), .val (.int 4), .val (.int ((0 : Int32) + (4 : Int32))), .val (.int 116), .val (.int d2.toInt8.toInt32)]) rfl ?_
        show Steps p.tables e below (T14.setTop (mkF m 28 #[.val (.ref nb1), .val (.int ((((0 : Int32) + (1 : Int32)) + (1 : Int32)) + (1 : Int32))), .val (.ref nb2), .val (.int ((((0 : Int32) + (1 : Int32)) + (1 : Int32)) + (1 : Int32))), .val (.int 4), .val (.int ((0 : Int32) + (4 : Int32))), .val (.int 116), .val (.int d2.toInt8.toInt32)] [])) _
        refine XS.iload X14.here hx rfl (hb hby D13_28) rfl ?_
        show Steps p.tables e below (T14.setTop (mkF m 30 #[.val (.ref nb1), .val (.int ((((0 : Int32) + (1 : Int32)) + (1 : Int32)) + (1 : Int32))), .val (.ref nb2), .val (.int ((((0 : Int32) + (1 : Int32)) + (1 : Int32)) + (1 : Int32))), .val (.int 4), .val (.int ((0 : Int32) + (4 : Int32))), .val (.int 116), .val (.int d2.toInt8.toInt32)] [(.int 116)])) _
        refine XS.iload X14.here hx rfl (hb hby D13_30) rfl ?_
        show Steps p.tables e below (T14.setTop (mkF m 32 #[.val (.ref nb1), .val (.int ((((0 : Int32) + (1 : Int32)) + (1 : Int32)) + (1 : Int32))), .val (.ref nb2), .val (.int ((((0 : Int32) + (1 : Int32)) + (1 : Int32)) + (1 : Int32))), .val (.int 4), .val (.int ((0 : Int32) + (4 : Int32))), .val (.int 116), .val (.int d2.toInt8.toInt32)] [(.int d2.toInt8.toInt32), (.int 116)])) _
        exact st22 _ kk
      by_cases hm2 : own_M (116 : Int32) d2
      case pos =>
        have hd24 : ¬ (rr2 = (0 : Int32)) := by rw [ra2 hm2]; decide
        have hd25 : ((((0 : Int32) + (1 : Int32)) + (1 : Int32)) + (1 : Int32)) < ((0 : Int32) + (4 : Int32)) := by decide
        obtain ⟨cl26, Ar26, q26, S26, M26, H26, G26⟩ := id xV1
        have hin27 : ¬ (((((0 : Int32) + (1 : Int32)) + (1 : Int32)) + (1 : Int32)) < 0 ∨ cl26.slots.size ≤ (((((0 : Int32) + (1 : Int32)) + (1 : Int32)) + (1 : Int32))).toNatClampNeg) := inb_of S26 ⟨by decide, by decide⟩
        have hat27 : cl26.slots[(((((0 : Int32) + (1 : Int32)) + (1 : Int32)) + (1 : Int32))).toNatClampNeg]? = some (.int 112) := Has.at H26 (inb_of S26 ⟨by decide, by decide⟩) rfl
        obtain ⟨cl28, Ar28, q28, S28, M28, H28, G28⟩ := id xV2
        have hin29 : ¬ (((((0 : Int32) + (1 : Int32)) + (1 : Int32)) + (1 : Int32)) < 0 ∨ cl28.slots.size ≤ (((((0 : Int32) + (1 : Int32)) + (1 : Int32)) + (1 : Int32))).toNatClampNeg) := inb_of S28 ⟨by decide, by decide⟩
        have hat29 : cl28.slots[(((((0 : Int32) + (1 : Int32)) + (1 : Int32)) + (1 : Int32))).toNatClampNeg]? = some (.int d3.toInt8.toInt32) := Has.at H28 (inb_of S28 ⟨by decide, by decide⟩) rfl
        obtain ⟨_, _, ⟨T30, L30, k30, n30⟩, -, X30, ⟨Lc30, hQ30, l30, y30, z30⟩, st30⟩ := Jvm.LawKit.callS X22 hx (y := (⟨"java/lang/CharacterDataLatin1", "equalsIgnoreCase", "(BB)Z"⟩ : MethodName)) hown (mvT hZ (gw hw 126 rfl)) (mvT hZ (gw hw 127 rfl)) (mvT hZ (gw hw 128 rfl)) (mvT hZ (gw hw 129 rfl)) (by decide) (backOf (W := 0) (own_eic l Z a0 hw [] (112 : Int32) d3.toInt8.toInt32 h0 n0 Z0 (by decide) (by decide)) hZ (gw hw 129 rfl) (gw hw 128 rfl) (by decide) (by decide)) (g := (mkF m 32 #[.val (.ref nb1), .val (.int (((((0 : Int32) + (1 : Int32)) + (1 : Int32)) + (1 : Int32)) + (1 : Int32))), .val (.ref nb2), .val (.int (((((0 : Int32) + (1 : Int32)) + (1 : Int32)) + (1 : Int32)) + (1 : Int32))), .val (.int 4), .val (.int ((0 : Int32) + (4 : Int32))), .val (.int 112), .val (.int d3.toInt8.toInt32)] [(.int d3.toInt8.toInt32), (.int 112)])) rfl (by rw [hml]; rfl) (argsL := [(.int 112), (.int d3.toInt8.toInt32)]) (rest := []) (lenOf pd__BB_Z rfl) rfl (by show 2 * 0 + _ ≤ _; exact Nat.le_of_eq rfl) (hb hby D13_32) (fun _ _ => ⟨rfl, e22q, (by decide : 0 + 0 ≤ _), (by decide : 0 + 0 ≤ _)⟩)
        dsimp only [Pt.U, Pt.locs, Pt.cells, Pt.slots] at X30 l30 y30 z30 st30 hQ30
        subst l30 y30 z30
        obtain ⟨rr3, rfl, N30q, e30q, ra3, rb3⟩ := hQ30
        have N30 := Fr.app N22 N30q
        have pre31 : ∀ t, Steps p.tables e below (T30.setTop (mkF m 35 #[.val (.ref nb1), .val (.int (((((0 : Int32) + (1 : Int32)) + (1 : Int32)) + (1 : Int32)) + (1 : Int32))), .val (.ref nb2), .val (.int (((((0 : Int32) + (1 : Int32)) + (1 : Int32)) + (1 : Int32)) + (1 : Int32))), .val (.int 4), .val (.int ((0 : Int32) + (4 : Int32))), .val (.int 112), .val (.int d3.toInt8.toInt32)] [(.int rr3)])) t → Steps p.tables e below (s₁.setTop (entryFrame m #[(.ref nb1), (.int 0), (.ref nb2), (.int 0), (.int 4)] 8)) t := by
          intro t kk
          refine pre23 t ?_
          show Steps p.tables e below (T22.setTop (mkF m 35 #[.val (.ref nb1), .val (.int ((((0 : Int32) + (1 : Int32)) + (1 : Int32)) + (1 : Int32))), .val (.ref nb2), .val (.int ((((0 : Int32) + (1 : Int32)) + (1 : Int32)) + (1 : Int32))), .val (.int 4), .val (.int ((0 : Int32) + (4 : Int32))), .val (.int 116), .val (.int d2.toInt8.toInt32)] [(.int rr2)])) _
          refine XS.ifNo X22.here hx rfl (hb hby D13_35) rfl ((if0 _ _).trans (feq hd24).1) ?_
          show Steps p.tables e below (T22.setTop (mkF m 38 #[.val (.ref nb1), .val (.int ((((0 : Int32) + (1 : Int32)) + (1 : Int32)) + (1 : Int32))), .val (.ref nb2), .val (.int ((((0 : Int32) + (1 : Int32)) + (1 : Int32)) + (1 : Int32))), .val (.int 4), .val (.int ((0 : Int32) + (4 : Int32))), .val (.int 116), .val (.int d2.toInt8.toInt32)] [])) _
          refine XS.goto X22.here hx rfl (pc0 := 38) (pc' := 6) rfl (hb hby D13_38) (by decide) (by decide) ?_
          show Steps p.tables e below (T22.setTop (mkF m 6 #[.val (.ref nb1), .val (.int ((((0 : Int32) + (1 : Int32)) + (1 : Int32)) + (1 : Int32))), .val (.ref nb2), .val (.int ((((0 : Int32) + (1 : Int32)) + (1 : Int32)) + (1 : Int32))), .val (.int 4), .val (.int ((0 : Int32) + (4 : Int32))), .val (.int 116), .val (.int d2.toInt8.toInt32)] [])) _
          refine XS.iloadN X22.here hx rfl (hb hby D13_6) rfl ?_
          show Steps p.tables e below (T22.setTop (mkF m 7 #[.val (.ref nb1), .val (.int ((((0 : Int32) + (1 : Int32)) + (1 : Int32)) + (1 : Int32))), .val (.ref nb2), .val (.int ((((0 : Int32) + (1 : Int32)) + (1 : Int32)) + (1 : Int32))), .val (.int 4), .val (.int ((0 : Int32) + (4 : Int32))), .val (.int 116), .val (.int d2.toInt8.toInt32)] [(.int ((((0 : Int32) + (1 : Int32)) + (1 : Int32)) + (1 : Int32)))])) _
          refine XS.iload X22.here hx rfl (hb hby D13_7) rfl ?_
          show Steps p.tables e below (T22.setTop (mkF m 9 #[.val (.ref nb1), .val (.int ((((0 : Int32) + (1 : Int32)) + (1 : Int32)) + (1 : Int32))), .val (.ref nb2), .val (.int ((((0 : Int32) + (1 : Int32)) + (1 : Int32)) + (1 : Int32))), .val (.int 4), .val (.int ((0 : Int32) + (4 : Int32))), .val (.int 116), .val (.int d2.toInt8.toInt32)] [(.int ((0 : Int32) + (4 : Int32))), (.int ((((0 : Int32) + (1 : Int32)) + (1 : Int32)) + (1 : Int32)))])) _
          refine XS.icmpNo X22.here hx rfl (hb hby D13_9) rfl (tlt hd25).2.1 ?_
          show Steps p.tables e below (T22.setTop (mkF m 12 #[.val (.ref nb1), .val (.int ((((0 : Int32) + (1 : Int32)) + (1 : Int32)) + (1 : Int32))), .val (.ref nb2), .val (.int ((((0 : Int32) + (1 : Int32)) + (1 : Int32)) + (1 : Int32))), .val (.int 4), .val (.int ((0 : Int32) + (4 : Int32))), .val (.int 116), .val (.int d2.toInt8.toInt32)] [])) _
          refine XS.aloadN X22.here hx rfl (hb hby D13_12) rfl rfl ?_
          show Steps p.tables e below (T22.setTop (mkF m 13 #[.val (.ref nb1), .val (.int ((((0 : Int32) + (1 : Int32)) + (1 : Int32)) + (1 : Int32))), .val (.ref nb2), .val (.int ((((0 : Int32) + (1 : Int32)) + (1 : Int32)) + (1 : Int32))), .val (.int 4), .val (.int ((0 : Int32) + (4 : Int32))), .val (.int 116), .val (.int d2.toInt8.toInt32)] [(.ref nb1)])) _
          refine XS.iloadN X22.here hx rfl (hb hby D13_13) rfl ?_
          show Steps p.tables e below (T22.setTop (mkF m 14 #[.val (.ref nb1), .val (.int ((((0 : Int32) + (1 : Int32)) + (1 : Int32)) + (1 : Int32))), .val (.ref nb2), .val (.int ((((0 : Int32) + (1 : Int32)) + (1 : Int32)) + (1 : Int32))), .val (.int 4), .val (.int ((0 : Int32) + (4 : Int32))), .val (.int 116), .val (.int d2.toInt8.toInt32)] [(.int ((((0 : Int32) + (1 : Int32)) + (1 : Int32)) + (1 : Int32))), (.ref nb1)])) _
          refine XS.iinc X22.here hx rfl (hb hby D13_14) rfl (l' := #[.val (.ref nb1), .val (.int (((((0 : Int32) + (1 : Int32)) + (1 : Int32)) + (1 : Int32)) + (1 : Int32))), .val (.ref nb2), .val (.int ((((0 : Int32) + (1 : Int32)) + (1 : Int32)) + (1 : Int32))), .val (.int 4), .val (.int ((0 : Int32) + (4 : Int32))), .val (.int 116), .val (.int d2.toInt8.toInt32)]) rfl ?_
          show Steps p.tables e below (T22.setTop (mkF m 17 #[.val (.ref nb1), .val (.int (((((0 : Int32) + (1 : Int32)) + (1 : Int32)) + (1 : Int32)) + (1 : Int32))), .val (.ref nb2), .val (.int ((((0 : Int32) + (1 : Int32)) + (1 : Int32)) + (1 : Int32))), .val (.int 4), .val (.int ((0 : Int32) + (4 : Int32))), .val (.int 116), .val (.int d2.toInt8.toInt32)] [(.int ((((0 : Int32) + (1 : Int32)) + (1 : Int32)) + (1 : Int32))), (.ref nb1)])) _
          refine X22.baloadBytes hx (j := ((((0 : Int32) + (1 : Int32)) + (1 : Int32)) + (1 : Int32))) (v := (.int 112)) (by rw [e22q]; exact Ar26.1) (State.isArrayOf_alike hZ.alike Ar26.2.1) Ar26.2.2 hin27 hat27 (g := (mkF m 17 #[.val (.ref nb1), .val (.int (((((0 : Int32) + (1 : Int32)) + (1 : Int32)) + (1 : Int32)) + (1 : Int32))), .val (.ref nb2), .val (.int ((((0 : Int32) + (1 : Int32)) + (1 : Int32)) + (1 : Int32))), .val (.int 4), .val (.int ((0 : Int32) + (4 : Int32))), .val (.int 116), .val (.int d2.toInt8.toInt32)] [(.int ((((0 : Int32) + (1 : Int32)) + (1 : Int32)) + (1 : Int32))), (.ref nb1)])) rfl rfl (hb hby D13_17) _ ?_
          show Steps p.tables e below (T22.setTop (mkF m 18 #[.val (.ref nb1), .val (.int (((((0 : Int32) + (1 : Int32)) + (1 : Int32)) + (1 : Int32)) + (1 : Int32))), .val (.ref nb2), .val (.int ((((0 : Int32) + (1 : Int32)) + (1 : Int32)) + (1 : Int32))), .val (.int 4), .val (.int ((0 : Int32) + (4 : Int32))), .val (.int 116), .val (.int d2.toInt8.toInt32)] [(.int 112)])) _
          refine XS.istore X22.here hx rfl (hb hby D13_18) rfl (l' := #[.val (.ref nb1), .val (.int (((((0 : Int32) + (1 : Int32)) + (1 : Int32)) + (1 : Int32)) + (1 : Int32))), .val (.ref nb2), .val (.int ((((0 : Int32) + (1 : Int32)) + (1 : Int32)) + (1 : Int32))), .val (.int 4), .val (.int ((0 : Int32) + (4 : Int32))), .val (.int 112), .val (.int d2.toInt8.toInt32)]) rfl ?_
          show Steps p.tables e below (T22.setTop (mkF m 20 #[.val (.ref nb1), .val (.int (((((0 : Int32) + (1 : Int32)) + (1 : Int32)) + (1 : Int32)) + (1 : Int32))), .val (.ref nb2), .val (.int ((((0 : Int32) + (1 : Int32)) + (1 : Int32)) + (1 : Int32))), .val (.int 4), .val (.int ((0 : Int32) + (4 : Int32))), .val (.int 112), .val (.int d2.toInt8.toInt32)] [])) _
          refine XS.aloadN X22.here hx rfl (hb hby D13_20) rfl rfl ?_
          show Steps p.tables e below (T22.setTop (mkF m 21 #[.val (.ref nb1), .val (.int (((((0 : Int32) + (1 : Int32)) + (1 : Int32)) + (1 : Int32)) + (1 : Int32))), .val (.ref nb2), .val (.int ((((0 : Int32) + (1 : Int32)) + (1 : Int32)) + (1 : Int32))), .val (.int 4), .val (.int ((0 : Int32) + (4 : Int32))), .val (.int 112), .val (.int d2.toInt8.toInt32)] [(.ref nb2)])) _
          refine XS.iloadN X22.here hx rfl (hb hby D13_21) rfl ?_
          show Steps p.tables e below (T22.setTop (mkF m 22 #[.val (.ref nb1), .val (.int (((((0 : Int32) + (1 : Int32)) + (1 : Int32)) + (1 : Int32)) + (1 : Int32))), .val (.ref nb2), .val (.int ((((0 : Int32) + (1 : Int32)) + (1 : Int32)) + (1 : Int32))), .val (.int 4), .val (.int ((0 : Int32) + (4 : Int32))), .val (.int 112), .val (.int d2.toInt8.toInt32)] [(.int ((((0 : Int32) + (1 : Int32)) + (1 : Int32)) + (1 : Int32))), (.ref nb2)])) _
          refine XS.iinc X22.here hx rfl (hb hby D13_22) rfl (l' := #[.val (.ref nb1), .val (.int (((((0 : Int32) + (1 : Int32)) + (1 : Int32)) + (1 : Int32)) + (1 : Int32))), .val (.ref nb2), .val (.int (((((0 : Int32) + (1 : Int32)) + (1 : Int32)) + (1 : Int32)) + (1 : Int32))), .val (.int 4), .val (.int ((0 : Int32) + (4 : Int32))), .val (.int 112), .val (.int d2.toInt8.toInt32)]) rfl ?_
          show Steps p.tables e below (T22.setTop (mkF m 25 #[.val (.ref nb1), .val (.int (((((0 : Int32) + (1 : Int32)) + (1 : Int32)) + (1 : Int32)) + (1 : Int32))), .val (.ref nb2), .val (.int (((((0 : Int32) + (1 : Int32)) + (1 : Int32)) + (1 : Int32)) + (1 : Int32))), .val (.int 4), .val (.int ((0 : Int32) + (4 : Int32))), .val (.int 112), .val (.int d2.toInt8.toInt32)] [(.int ((((0 : Int32) + (1 : Int32)) + (1 : Int32)) + (1 : Int32))), (.ref nb2)])) _
          refine X22.baloadBytes hx (j := ((((0 : Int32) + (1 : Int32)) + (1 : Int32)) + (1 : Int32))) (v := (.int d3.toInt8.toInt32)) (by rw [e22q]; exact Ar28.1) (State.isArrayOf_alike hZ.alike Ar28.2.1) Ar28.2.2 hin29 hat29 (g := (mkF m 25 #[.val (.ref nb1), .val (.int (((((0 : Int32) + (1 : Int32)) + (1 : Int32)) + (1 : Int32)) + (1 : Int32))), .val (.ref nb2), .val (.int (((((0 : Int32) + (1 : Int32)) + (1 : Int32)) + (1 : Int32)) + (1 : Int32))), .val (.int 4), .val (.int ((0 : Int32) + (4 : Int32))), .val (.int 112), .val (.int d2.toInt8.toInt32)] [(.int ((((0 : Int32) + (1 : Int32)) + (1 : Int32)) + (1 : Int32))), (.ref nb2)])) rfl rfl (hb hby D13_25) _ ?_
          show Steps p.tables e below (T22.setTop (mkF m 26 #[.val (.ref nb1), .val (.int (((((0 : Int32) + (1 : Int32)) + (1 : Int32)) + (1 : Int32)) + (1 : Int32))), .val (.ref nb2), .val (.int (((((0 : Int32) + (1 : Int32)) + (1 : Int32)) + (1 : Int32)) + (1 : Int32))), .val (.int 4), .val (.int ((0 : Int32) + (4 : Int32))), .val (.int 112), .val (.int d2.toInt8.toInt32)] [(.int d3.toInt8.toInt32)])) _
          refine XS.istore X22.here hx rfl (hb hby D13_26) rfl (l' := #[.val (.ref nb1), .val (.int (((((0 : Int32) + (1 : Int32)) + (1 : Int32)) + (1 : Int32)) + (1 : Int32))), .val (.ref nb2), .val (.int (((((0 : Int32) + (1 : Int32)) + (1 : Int32)) + (1 : Int32)) + (1 : Int32))), .val (.int 4), .val (.int ((0 : Int32) + (4 : Int32))), .val (.int 112), .val (.int d3.toInt8.toInt32)]) rfl ?_
          show Steps p.tables e below (T22.setTop (mkF m 28 #[.val (.ref nb1), .val (.int (((((0 : Int32) + (1 : Int32)) + (1 : Int32)) + (1 : Int32)) + (1 : Int32))), .val (.ref nb2), .val (.int (((((0 : Int32) + (1 : Int32)) + (1 : Int32)) + (1 : Int32)) + (1 : Int32))), .val (.int 4), .val (.int ((0 : Int32) + (4 : Int32))), .val (.int 112), .val (.int d3.toInt8.toInt32)] [])) _
          refine XS.iload X22.here hx rfl (hb hby D13_28) rfl ?_
          show Steps p.tables e below (T22.setTop (mkF m 30 #[.val (.ref nb1), .val (.int (((((0 : Int32) + (1 : Int32)) + (1 : Int32)) + (1 : Int32)) + (1 : Int32))), .val (.ref nb2), .val (.int (((((0 : Int32) + (1 : Int32)) + (1 : Int32)) + (1 : Int32)) + (1 : Int32))), .val (.int 4), .val (.int ((0 : Int32) + (4 : Int32))), .val (.int 112), .val (.int d3.toInt8.toInt32)] [(.int 112)])) _
          refine XS.iload X22.here hx rfl (hb hby D13_30) rfl ?_
          show Steps p.tables e below (T22.setTop (mkF m 32 #[.val (.ref nb1), .val (.int (((((0 : Int32) + (1 : Int32)) + (1 : Int32)) + (1 : Int32)) + (1 : Int32))), .val (.ref nb2), .val (.int (((((0 : Int32) + (1 : Int32)) + (1 : Int32)) + (1 : Int32)) + (1 : Int32))), .val (.int 4), .val (.int ((0 : Int32) + (4 : Int32))), .val (.int 112), .val (.int d3.toInt8.toInt32)] [(.int d3.toInt8.toInt32), (.int 112)])) _
          exact st30 _ kk
        by_cases hm3 : own_M (112 : Int32) d3
        case pos =>
          have hd32 : ¬ (rr3 = (0 : Int32)) := by rw [ra3 hm3]; decide
          have hd33 : ¬ ((((((0 : Int32) + (1 : Int32)) + (1 : Int32)) + (1 : Int32)) + (1 : Int32)) < ((0 : Int32) + (4 : Int32))) := by decide
          obtain ⟨fs, hr, hrun, hended, hW, hsame⟩ := X30.leave (v := some (.int 1)) (fun h => by rw [Bd.returns] at h; cases h)
          refine ⟨_, _, pre31 _ ?_, hrun, hended, _, _, rfl, ?_, ⟨_, rfl⟩, hW, hsame.mono (by decide) (by decide)⟩
          · show Steps p.tables e below (T30.setTop (mkF m 35 #[.val (.ref nb1), .val (.int (((((0 : Int32) + (1 : Int32)) + (1 : Int32)) + (1 : Int32)) + (1 : Int32))), .val (.ref nb2), .val (.int (((((0 : Int32) + (1 : Int32)) + (1 : Int32)) + (1 : Int32)) + (1 : Int32))), .val (.int 4), .val (.int ((0 : Int32) + (4 : Int32))), .val (.int 112), .val (.int d3.toInt8.toInt32)] [(.int rr3)])) _
            refine XS.ifNo X30.here hx rfl (hb hby D13_35) rfl ((if0 _ _).trans (feq hd32).1) ?_
            show Steps p.tables e below (T30.setTop (mkF m 38 #[.val (.ref nb1), .val (.int (((((0 : Int32) + (1 : Int32)) + (1 : Int32)) + (1 : Int32)) + (1 : Int32))), .val (.ref nb2), .val (.int (((((0 : Int32) + (1 : Int32)) + (1 : Int32)) + (1 : Int32)) + (1 : Int32))), .val (.int 4), .val (.int ((0 : Int32) + (4 : Int32))), .val (.int 112), .val (.int d3.toInt8.toInt32)] [])) _
            refine XS.goto X30.here hx rfl (pc0 := 38) (pc' := 6) rfl (hb hby D13_38) (by decide) (by decide) ?_
            show Steps p.tables e below (T30.setTop (mkF m 6 #[.val (.ref nb1), .val (.int (((((0 : Int32) + (1 : Int32)) + (1 : Int32)) + (1 : Int32)) + (1 : Int32))), .val (.ref nb2), .val (.int (((((0 : Int32) + (1 : Int32)) + (1 : Int32)) + (1 : Int32)) + (1 : Int32))), .val (.int 4), .val (.int ((0 : Int32) + (4 : Int32))), .val (.int 112), .val (.int d3.toInt8.toInt32)] [])) _
            refine XS.iloadN X30.here hx rfl (hb hby D13_6) rfl ?_
            show Steps p.tables e below (T30.setTop (mkF m 7 #[.val (.ref nb1), .val (.int (((((0 : Int32) + (1 : Int32)) + (1 : Int32)) + (1 : Int32)) + (1 : Int32))), .val (.ref nb2), .val (.int (((((0 : Int32) + (1 : Int32)) + (1 : Int32)) + (1 : Int32)) + (1 : Int32))), .val (.int 4), .val (.int ((0 : Int32) + (4 : Int32))), .val (.int 112), .val (.int d3.toInt8.toInt32)] [(.int (((((0 : Int32) + (1 : Int32)) + (1 : Int32)) + (1 : Int32)) + (1 : Int32)))])) _
            refine XS.iload X30.here hx rfl (hb hby D13_7) rfl ?_
            show Steps p.tables e below (T30.setTop (mkF m 9 #[.val (.ref nb1), .val (.int (((((0 : Int32) + (1 : Int32)) + (1 : Int32)) + (1 : Int32)) + (1 : Int32))), .val (.ref nb2), .val (.int (((((0 : Int32) + (1 : Int32)) + (1 : Int32)) + (1 : Int32)) + (1 : Int32))), .val (.int 4), .val (.int ((0 : Int32) + (4 : Int32))), .val (.int 112), .val (.int d3.toInt8.toInt32)] [(.int ((0 : Int32) + (4 : Int32))), (.int (((((0 : Int32) + (1 : Int32)) + (1 : Int32)) + (1 : Int32)) + (1 : Int32)))])) _
            refine XS.icmpYes X30.here hx rfl (pc0 := 9) (pc' := 43) rfl (hb hby D13_9) rfl (flt hd33).2.1 (by decide) (by decide) ?_
            show Steps p.tables e below (T30.setTop (mkF m 43 #[.val (.ref nb1), .val (.int (((((0 : Int32) + (1 : Int32)) + (1 : Int32)) + (1 : Int32)) + (1 : Int32))), .val (.ref nb2), .val (.int (((((0 : Int32) + (1 : Int32)) + (1 : Int32)) + (1 : Int32)) + (1 : Int32))), .val (.int 4), .val (.int ((0 : Int32) + (4 : Int32))), .val (.int 112), .val (.int d3.toInt8.toInt32)] [])) _
            refine XS.iconst X30.here hx rfl (hb hby D13_43) ?_
            show Steps p.tables e below (T30.setTop (mkF m 44 #[.val (.ref nb1), .val (.int (((((0 : Int32) + (1 : Int32)) + (1 : Int32)) + (1 : Int32)) + (1 : Int32))), .val (.ref nb2), .val (.int (((((0 : Int32) + (1 : Int32)) + (1 : Int32)) + (1 : Int32)) + (1 : Int32))), .val (.int 4), .val (.int ((0 : Int32) + (4 : Int32))), .val (.int 112), .val (.int d3.toInt8.toInt32)] [(.int 1)])) _
            exact retN X30 hx (t := .boolean) Bd.returns (by simp) (hb hby D13_44) hr
          · show Q_own_rci4 Z nb1 nb2 kk1 kk2 d0 d1 d2 d3 h0 n0 _ T30.heap _
            rw [e30q]
            exact ⟨1, rfl, N30, rfl, fun _ => rfl, fun q => absurd ⟨hm0, hm1, hm2, hm3⟩ q⟩
        case neg =>
          have hd34 : rr3 = (0 : Int32) := rb3 hm3
          obtain ⟨fs, hr, hrun, hended, hW, hsame⟩ := X30.leave (v := some (.int 0)) (fun h => by rw [Bd.returns] at h; cases h)
          refine ⟨_, _, pre31 _ ?_, hrun, hended, _, _, rfl, ?_, ⟨_, rfl⟩, hW, hsame.mono (by decide) (by decide)⟩
          · show Steps p.tables e below (T30.setTop (mkF m 35 #[.val (.ref nb1), .val (.int (((((0 : Int32) + (1 : Int32)) + (1 : Int32)) + (1 : Int32)) + (1 : Int32))), .val (.ref nb2), .val (.int (((((0 : Int32) + (1 : Int32)) + (1 : Int32)) + (1 : Int32)) + (1 : Int32))), .val (.int 4), .val (.int ((0 : Int32) + (4 : Int32))), .val (.int 112), .val (.int d3.toInt8.toInt32)] [(.int rr3)])) _
            refine XS.ifYes X30.here hx rfl (pc0 := 35) (pc' := 41) rfl (hb hby D13_35) rfl ((if0 _ _).trans (teq hd34).1) (by decide) (by decide) ?_
            show Steps p.tables e below (T30.setTop (mkF m 41 #[.val (.ref nb1), .val (.int (((((0 : Int32) + (1 : Int32)) + (1 : Int32)) + (1 : Int32)) + (1 : Int32))), .val (.ref nb2), .val (.int (((((0 : Int32) + (1 : Int32)) + (1 : Int32)) + (1 : Int32)) + (1 : Int32))), .val (.int 4), .val (.int ((0 : Int32) + (4 : Int32))), .val (.int 112), .val (.int d3.toInt8.toInt32)] [])) _
            refine XS.iconst X30.here hx rfl (hb hby D13_41) ?_
            show Steps p.tables e below (T30.setTop (mkF m 42 #[.val (.ref nb1), .val (.int (((((0 : Int32) + (1 : Int32)) + (1 : Int32)) + (1 : Int32)) + (1 : Int32))), .val (.ref nb2), .val (.int (((((0 : Int32) + (1 : Int32)) + (1 : Int32)) + (1 : Int32)) + (1 : Int32))), .val (.int 4), .val (.int ((0 : Int32) + (4 : Int32))), .val (.int 112), .val (.int d3.toInt8.toInt32)] [(.int 0)])) _
            exact retN X30 hx (t := .boolean) Bd.returns (by simp) (hb hby D13_42) hr
          · show Q_own_rci4 Z nb1 nb2 kk1 kk2 d0 d1 d2 d3 h0 n0 _ T30.heap _
            rw [e30q]
            exact ⟨0, rfl, N30, rfl, fun q => absurd q.2.2.2 hm3, fun _ => rfl⟩
      case neg =>
        have hd35 : rr2 = (0 : Int32) := rb2 hm2
        obtain ⟨fs, hr, hrun, hended, hW, hsame⟩ := X22.leave (v := some (.int 0)) (fun h => by rw [Bd.returns] at h; cases h)
        refine ⟨_, _, pre23 _ ?_, hrun, hended, _, _, rfl, ?_, ⟨_, rfl⟩, hW, hsame.mono (by decide) (by decide)⟩
        · show Steps p.tables e below (T22.setTop (mkF m 35 #[.val (.ref nb1), .val (.int ((((0 : Int32) + (1 : Int32)) + (1 : Int32)) + (1 : Int32))), .val (.ref nb2), .val (.int ((((0 : Int32) + (1 : Int32)) + (1 : Int32)) + (1 : Int32))), .val (.int 4), .val (.int ((0 : Int32) + (4 : Int32))), .val (.int 116), .val (.int d2.toInt8.toInt32)] [(.int rr2)])) _
          refine XS.ifYes X22.here hx rfl (pc0 := 35) (pc' := 41) rfl (hb hby D13_35) rfl ((if0 _ _).trans (teq hd35).1) (by decide) (by decide) ?_
          show Steps p.tables e below (T22.setTop (mkF m 41 #[.val (.ref nb1), .val (.int ((((0 : Int32) + (1 : Int32)) + (1 : Int32)) + (1 : Int32))), .val (.ref nb2), .val (.int ((((0 : Int32) + (1 : Int32)) + (1 : Int32)) + (1 : Int32))), .val (.int 4), .val (.int ((0 : Int32) + (4 : Int32))), .val (.int 116), .val (.int d2.toInt8.toInt32)] [])) _
          refine XS.iconst X22.here hx rfl (hb hby D13_41) ?_
          show Steps p.tables e below (T22.setTop (mkF m 42 #[.val (.ref nb1), .val (.int ((((0 : Int32) + (1 : Int32)) + (1 : Int32)) + (1 : Int32))), .val (.ref nb2), .val (.int ((((0 : Int32) + (1 : Int32)) + (1 : Int32)) + (1 : Int32))), .val (.int 4), .val (.int ((0 : Int32) + (4 : Int32))), .val (.int 116), .val (.int d2.toInt8.toInt32)] [(.int 0)])) _
          exact retN X22 hx (t := .boolean) Bd.returns (by simp) (hb hby D13_42) hr
        · show Q_own_rci4 Z nb1 nb2 kk1 kk2 d0 d1 d2 d3 h0 n0 _ T22.heap _
          rw [e22q]
          exact ⟨0, rfl, N22, rfl, fun q => absurd q.2.2.1 hm2, fun _ => rfl⟩
    case neg =>
      have hd36 : rr1 = (0 : Int32) := rb1 hm1
      obtain ⟨fs, hr, hrun, hended, hW, hsame⟩ := X14.leave (v := some (.int 0)) (fun h => by rw [Bd.returns] at h; cases h)
      refine ⟨_, _, pre15 _ ?_, hrun, hended, _, _, rfl, ?_, ⟨_, rfl⟩, hW, hsame.mono (by decide) (by decide)⟩
      · show Steps p.tables e below (T14.setTop (mkF m 35 #[.val (.ref nb1), .val (.int (((0 : Int32) + (1 : Int32)) + (1 : Int32))), .val (.ref nb2), .val (.int (((0 : Int32) + (1 : Int32)) + (1 : Int32))), .val (.int 4), .val (.int ((0 : Int32) + (4 : Int32))), .val (.int 116), .val (.int d1.toInt8.toInt32)] [(.int rr1)])) _
        refine XS.ifYes X14.here hx rfl (pc0 := 35) (pc' := 41) rfl (hb hby D13_35) rfl ((if0 _ _).trans (teq hd36).1) (by decide) (by decide) ?_
        show Steps p.tables e below (T14.setTop (mkF m 41 #[.val (.ref nb1), .val (.int (((0 : Int32) + (1 : Int32)) + (1 : Int32))), .val (.ref nb2), .val (.int (((0 : Int32) + (1 : Int32)) + (1 : Int32))), .val (.int 4), .val (.int ((0 : Int32) + (4 : Int32))), .val (.int 116), .val (.int d1.toInt8.toInt32)] [])) _
        refine XS.iconst X14.here hx rfl (hb hby D13_41) ?_
        show Steps p.tables e below (T14.setTop (mkF m 42 #[.val (.ref nb1), .val (.int (((0 : Int32) + (1 : Int32)) + (1 : Int32))), .val (.ref nb2), .val (.int (((0 : Int32) + (1 : Int32)) + (1 : Int32))), .val (.int 4), .val (.int ((0 : Int32) + (4 : Int32))), .val (.int 116), .val (.int d1.toInt8.toInt32)] [(.int 0)])) _
        exact retN X14 hx (t := .boolean) Bd.returns (by simp) (hb hby D13_42) hr
      · show Q_own_rci4 Z nb1 nb2 kk1 kk2 d0 d1 d2 d3 h0 n0 _ T14.heap _
        rw [e14q]
        exact ⟨0, rfl, N14, rfl, fun q => absurd q.2.1 hm1, fun _ => rfl⟩
  case neg =>
    have hd37 : rr0 = (0 : Int32) := rb0 hm0
    obtain ⟨fs, hr, hrun, hended, hW, hsame⟩ := X6.leave (v := some (.int 0)) (fun h => by rw [Bd.returns] at h; cases h)
    refine ⟨_, _, pre7 _ ?_, hrun, hended, _, _, rfl, ?_, ⟨_, rfl⟩, hW, hsame.mono (by decide) (by decide)⟩
    · show Steps p.tables e below (T6.setTop (mkF m 35 #[.val (.ref nb1), .val (.int ((0 : Int32) + (1 : Int32))), .val (.ref nb2), .val (.int ((0 : Int32) + (1 : Int32))), .val (.int 4), .val (.int ((0 : Int32) + (4 : Int32))), .val (.int 104), .val (.int d0.toInt8.toInt32)] [(.int rr0)])) _
      refine XS.ifYes X6.here hx rfl (pc0 := 35) (pc' := 41) rfl (hb hby D13_35) rfl ((if0 _ _).trans (teq hd37).1) (by decide) (by decide) ?_
      show Steps p.tables e below (T6.setTop (mkF m 41 #[.val (.ref nb1), .val (.int ((0 : Int32) + (1 : Int32))), .val (.ref nb2), .val (.int ((0 : Int32) + (1 : Int32))), .val (.int 4), .val (.int ((0 : Int32) + (4 : Int32))), .val (.int 104), .val (.int d0.toInt8.toInt32)] [])) _
      refine XS.iconst X6.here hx rfl (hb hby D13_41) ?_
      show Steps p.tables e below (T6.setTop (mkF m 42 #[.val (.ref nb1), .val (.int ((0 : Int32) + (1 : Int32))), .val (.ref nb2), .val (.int ((0 : Int32) + (1 : Int32))), .val (.int 4), .val (.int ((0 : Int32) + (4 : Int32))), .val (.int 104), .val (.int d0.toInt8.toInt32)] [(.int 0)])) _
      exact retN X6 hx (t := .boolean) Bd.returns (by simp) (hb hby D13_42) hr
    · show Q_own_rci4 Z nb1 nb2 kk1 kk2 d0 d1 d2 d3 h0 n0 _ T6.heap _
      rw [e6q]
      exact ⟨0, rfl, N6, rfl, fun q => absurd q.1 hm0, fun _ => rfl⟩
theorem D14_0 : decode jdk_42_method_74_code 0 = .ok (.iload_n 1, 1) := by decide +kernel
theorem D14_1 : decode jdk_42_method_74_code 1 = .ok (.ifCond .ne 14, 3) := by decide +kernel
theorem D14_15 : decode jdk_42_method_74_code 15 = .ok (.iload 4, 2) := by decide +kernel
theorem D14_17 : decode jdk_42_method_74_code 17 = .ok (.ifCond .lt 38, 3) := by decide +kernel
theorem D14_20 : decode jdk_42_method_74_code 20 = .ok (.iload_n 2, 1) := by decide +kernel
theorem D14_21 : decode jdk_42_method_74_code 21 = .ok (.ifCond .lt 34, 3) := by decide +kernel
theorem D14_24 : decode jdk_42_method_74_code 24 = .ok (.iload_n 2, 1) := by decide +kernel
theorem D14_25 : decode jdk_42_method_74_code 25 = .ok (.i2l, 1) := by decide +kernel
theorem D14_26 : decode jdk_42_method_74_code 26 = .ok (.aload_n 0, 1) := by decide +kernel
theorem pd___I : parseMethodDescriptor "()I" = some ⟨[], some .int⟩ := by decide +kernel
theorem D14_27 : decode jdk_42_method_74_code 27 = .ok (.invokevirtual 505, 3) := by decide +kernel
theorem D14_30 : decode jdk_42_method_74_code 30 = .ok (.i2l, 1) := by decide +kernel
theorem D14_31 : decode jdk_42_method_74_code 31 = .ok (.iload 5, 2) := by decide +kernel
theorem D14_33 : decode jdk_42_method_74_code 33 = .ok (.i2l, 1) := by decide +kernel
theorem D14_34 : decode jdk_42_method_74_code 34 = .ok (.lsub, 1) := by decide +kernel
theorem D14_35 : decode jdk_42_method_74_code 35 = .ok (.lcmp, 1) := by decide +kernel
theorem D14_36 : decode jdk_42_method_74_code 36 = .ok (.ifCond .gt 19, 3) := by decide +kernel
theorem D14_39 : decode jdk_42_method_74_code 39 = .ok (.iload 4, 2) := by decide +kernel
theorem D14_41 : decode jdk_42_method_74_code 41 = .ok (.i2l, 1) := by decide +kernel
theorem D14_42 : decode jdk_42_method_74_code 42 = .ok (.aload_n 3, 1) := by decide +kernel
theorem D14_43 : decode jdk_42_method_74_code 43 = .ok (.invokevirtual 505, 3) := by decide +kernel
theorem D14_46 : decode jdk_42_method_74_code 46 = .ok (.i2l, 1) := by decide +kernel
theorem D14_47 : decode jdk_42_method_74_code 47 = .ok (.iload 5, 2) := by decide +kernel
theorem D14_49 : decode jdk_42_method_74_code 49 = .ok (.i2l, 1) := by decide +kernel
theorem D14_50 : decode jdk_42_method_74_code 50 = .ok (.lsub, 1) := by decide +kernel
theorem D14_51 : decode jdk_42_method_74_code 51 = .ok (.lcmp, 1) := by decide +kernel
theorem D14_52 : decode jdk_42_method_74_code 52 = .ok (.ifCond .le 5, 3) := by decide +kernel
theorem D14_57 : decode jdk_42_method_74_code 57 = .ok (.aload_n 0, 1) := by decide +kernel
theorem D14_58 : decode jdk_42_method_74_code 58 = .ok (.getfield 9, 3) := by decide +kernel
theorem D14_61 : decode jdk_42_method_74_code 61 = .ok (.astore 6, 2) := by decide +kernel
theorem D14_63 : decode jdk_42_method_74_code 63 = .ok (.aload_n 3, 1) := by decide +kernel
theorem D14_64 : decode jdk_42_method_74_code 64 = .ok (.getfield 9, 3) := by decide +kernel
theorem D14_67 : decode jdk_42_method_74_code 67 = .ok (.astore 7, 2) := by decide +kernel
theorem D14_69 : decode jdk_42_method_74_code 69 = .ok (.aload_n 0, 1) := by decide +kernel
theorem D14_70 : decode jdk_42_method_74_code 70 = .ok (.invokevirtual 335, 3) := by decide +kernel
theorem D14_73 : decode jdk_42_method_74_code 73 = .ok (.istore 8, 2) := by decide +kernel
theorem D14_75 : decode jdk_42_method_74_code 75 = .ok (.iload 8, 2) := by decide +kernel
theorem D14_77 : decode jdk_42_method_74_code 77 = .ok (.aload_n 3, 1) := by decide +kernel
theorem D14_78 : decode jdk_42_method_74_code 78 = .ok (.invokevirtual 335, 3) := by decide +kernel
theorem D14_81 : decode jdk_42_method_74_code 81 = .ok (.if_icmp .ne 36, 3) := by decide +kernel
theorem D14_84 : decode jdk_42_method_74_code 84 = .ok (.iload 8, 2) := by decide +kernel
theorem D14_86 : decode jdk_42_method_74_code 86 = .ok (.ifCond .ne 18, 3) := by decide +kernel
theorem D14_89 : decode jdk_42_method_74_code 89 = .ok (.aload 6, 2) := by decide +kernel
theorem D14_91 : decode jdk_42_method_74_code 91 = .ok (.iload_n 2, 1) := by decide +kernel
theorem D14_92 : decode jdk_42_method_74_code 92 = .ok (.aload 7, 2) := by decide +kernel
theorem D14_94 : decode jdk_42_method_74_code 94 = .ok (.iload 4, 2) := by decide +kernel
theorem D14_96 : decode jdk_42_method_74_code 96 = .ok (.iload 5, 2) := by decide +kernel
theorem pd___BI_BII_Z : parseMethodDescriptor "([BI[BII)Z" = some ⟨[(.array .byte), .int, (.array .byte), .int, .int], some .boolean⟩ := by decide +kernel
theorem D14_98 : decode jdk_42_method_74_code 98 = .ok (.invokestatic 613, 3) := by decide +kernel
theorem D14_101 : decode jdk_42_method_74_code 101 = .ok (.goto 15, 3) := by decide +kernel
theorem D14_116 : decode jdk_42_method_74_code 116 = .ok (.ireturn, 1) := by decide +kernel
theorem ef_own_rm4 (m : MethodId) {ss1 : Addr} {ss2 : Addr} : entryFrame m #[(.ref ss1), (.int 1), (.int 0), (.ref ss2), (.int 0), (.int 4)] 9 = mkF m 0 #[.val (.ref ss1), .val (.int 1), .val (.int 0), .val (.ref ss2), .val (.int 0), .val (.int 4), .unset, .unset, .unset] [] := by first | (simp [entryFrame, mkF, argsToLocals, Value.category]; done) | rfl
def Q_own_rm4 (Z : State) (ss1 ss2 nb1 nb2 : Addr) (kk1 kk2 : ClassId) (d0 d1 d2 d3 G1 : Int32) (h0 : Heap) (n0 : Nat) (v : Option Value) (h : Heap) (L : List Loc) : Prop := ∃ r : Int32, v = some (.int r) ∧ Fr n0 L ∧ h = h0 ∧ ((own_M (104 : Int32) d0 ∧ own_M (116 : Int32) d1 ∧ own_M (116 : Int32) d2 ∧ own_M (112 : Int32) d3) → r = 1) ∧ (¬ (own_M (104 : Int32) d0 ∧ own_M (116 : Int32) d1 ∧ own_M (116 : Int32) d2 ∧ own_M (112 : Int32) d3) → r = 0)
set_option maxRecDepth 65536 in
set_option maxHeartbeats 40000000 in
theorem own_rm4 (l : Launch) (Z : State) (a0 : Array Value) (hw : ∀ d ∈ tables_1, d.before a0 Z = true) (ws : List Jvm.Cond) (ss1 ss2 nb1 nb2 : Addr) (kk1 kk2 : ClassId) (d0 d1 d2 d3 G1 : Int32) (h0 : Heap) (n0 : Nat) (Z0 : n0 ≤ h0.size) (xE1 : Exa Z h0 ss1 "java/lang/String") (xF1 : Fld Z h0 ss1 "java/lang/String" "value" "[B" (.ref nb1)) (xC1 : Fld Z h0 ss1 "java/lang/String" "coder" "B" (.int 0)) (xV1 : Arv Z h0 nb1 kk1 .byte (4 : Int32) [(.int 104), (.int 116), (.int 116), (.int 112)] (.int 0)) (xE2 : Exa Z h0 ss2 "java/lang/String") (xF2 : Fld Z h0 ss2 "java/lang/String" "value" "[B" (.ref nb2)) (xC2 : Fld Z h0 ss2 "java/lang/String" "coder" "B" (.int 0)) (xV2 : Arv Z h0 nb2 kk2 .byte (4 : Int32) (own_B [d0, d1, d2, d3]) (.int 0)) (O2 : Sta Z Z.heap "java/lang/String" "COMPACT_STRINGS" "Z" (.int G1)) (P5 : ¬ G1 = (0 : Int32)) (XO : Old Z n0 h0) :
    MetFree l (⟨"java/lang/String", "regionMatches", "(ZILjava/lang/String;II)Z"⟩ : MethodName) (head1 (Jvm.Cond.code (⟨"java/lang/String", "regionMatches", "(ZILjava/lang/String;II)Z"⟩ : MethodName) jdk_42_method_74_code 9 (some .boolean) :: ws) ({ frames := 2, cells := 0, slots := 0, locals := 33 } : Room)) (fun a U => a = #[(.ref ss1), (.int 1), (.int 0), (.ref ss2), (.int 0), (.int 4)] ∧ Z.Warmed39 U.vm ∧ U.heap = h0) (fun _ _ _ _ _ => True) (fun _ U o U' => ∃ v L, o = .returned v ∧ Q_own_rm4 Z ss1 ss2 nb1 nb2 kk1 kk2 d0 d1 d2 d3 G1 h0 n0 v U'.heap L ∧ FrameEnd U o U' L ({ frames := 2, cells := 0, slots := 0, locals := 33 } : Room).cells ({ frames := 2, cells := 0, slots := 0, locals := 33 } : Room).slots) := by
  refine MetFree.of_bodySF (plainFor_of_name pn_java_lang_String) hisR ?_
  intro p e s m args below meth c s₁ Bd hml0 hP hK
  obtain ⟨rfl, hZ, hh⟩ := hP
  have hx := Bd.exec
  have hby := Bd.bytes
  have hml : c.maxLocals = 9 := hml0
  have hown : s.vm.findClass "java/lang/String" = some m.cls := findClass_of_methodNamed Bd.named
  have hnm := (name_of_methodNamed Bd.named Bd.method).1
  have X0 : Stand p l e ({ frames := 2, cells := 0, slots := 0, locals := 33 } : Room) s m #[(.ref ss1), (.int 1), (.int 0), (.ref ss2), (.int 0), (.int 4)] below meth c s₁ [] 0 0 := Stand.of_body Bd
  have e0 : s₁.heap = h0 := by rw [← hh, Bd.state]; rfl
  have N0 := Fr.nil n0
  have pre0 : ∀ t, Steps p.tables e below (s₁.setTop (mkF m 0 #[.val (.ref ss1), .val (.int 1), .val (.int 0), .val (.ref ss2), .val (.int 0), .val (.int 4), .unset, .unset, .unset] [])) t → Steps p.tables e below (s₁.setTop (entryFrame m #[(.ref ss1), (.int 1), (.int 0), (.ref ss2), (.int 0), (.int 4)] 9)) t := fun t k => castTop (ef_own_rm4 m) k
  have hd1 : ¬ ((1 : Int32) = (0 : Int32)) := by decide
  have hd2 : ¬ ((0 : Int32) < (0 : Int32)) := by decide
  have hd3 : ¬ ((0 : Int32) < (0 : Int32)) := by decide
  obtain ⟨cq4, kq4, q4a, q4b, q4c⟩ := isOf hZ e0 xE1
  obtain ⟨_, _, ⟨T4, L4, k4, n4⟩, -, X4, ⟨Lc4, hQ4, l4, y4, z4⟩, st4⟩ := X0.virtualBack hx (y := (⟨"java/lang/String", "length", "()I"⟩ : MethodName)) (z := (⟨"java/lang/String", "length", "()I"⟩ : MethodName)) hown (mvT hZ (gw hw 72 rfl)) (mvT hZ (gw hw 35 rfl)) (notFace_of_selects (args := #[]) (mvT hZ (gw hw 37 rfl))) (mvT hZ (gw hw 37 rfl)) (mvT hZ (gw hw 36 rfl)) (by decide) (backOf (W := 2) (own_slen l Z a0 hw [] ss1 nb1 kk1 (4 : Int32) [(.int 104), (.int 116), (.int 116), (.int 112)] G1 h0 n0 Z0 xE1 xF1 xC1 xV1 O2 P5 XO) hZ (gw hw 38 rfl) (gw hw 10 rfl) (by decide) (by decide)) q4a q4c (g := (mkF m 27 #[.val (.ref ss1), .val (.int 1), .val (.int 0), .val (.ref ss2), .val (.int 0), .val (.int 4), .unset, .unset, .unset] [(.ref ss1), (.long ((0 : Int32).toInt64))])) rfl (by rw [hml]; rfl) (Steps.refl _) (argsL := []) (rest := [(.long ((0 : Int32).toInt64))]) (lenOf pd___I rfl) rfl (by show 2 * 0 + _ ≤ _; exact Nat.le_of_eq rfl) (hb hby D14_27) (fun _ _ => ⟨rfl, e0, (by decide : 0 + 0 ≤ _), (by decide : 0 + 0 ≤ _)⟩)
  dsimp only [Pt.U, Pt.locs, Pt.cells, Pt.slots] at X4 l4 y4 z4 st4 hQ4
  subst l4 y4 z4
  obtain ⟨rfl, N4q, e4q⟩ := hQ4
  have N4 := Fr.app N0 N4q
  have pre5 : ∀ t, Steps p.tables e below (T4.setTop (mkF m 30 #[.val (.ref ss1), .val (.int 1), .val (.int 0), .val (.ref ss2), .val (.int 0), .val (.int 4), .unset, .unset, .unset] [(.int 4), (.long ((0 : Int32).toInt64))])) t → Steps p.tables e below (s₁.setTop (entryFrame m #[(.ref ss1), (.int 1), (.int 0), (.ref ss2), (.int 0), (.int 4)] 9)) t := by
    intro t kk
    refine pre0 t ?_
    show Steps p.tables e below (s₁.setTop (mkF m 0 #[.val (.ref ss1), .val (.int 1), .val (.int 0), .val (.ref ss2), .val (.int 0), .val (.int 4), .unset, .unset, .unset] [])) _
    refine XS.iloadN X0.here hx rfl (hb hby D14_0) rfl ?_
    show Steps p.tables e below (s₁.setTop (mkF m 1 #[.val (.ref ss1), .val (.int 1), .val (.int 0), .val (.ref ss2), .val (.int 0), .val (.int 4), .unset, .unset, .unset] [(.int 1)])) _
    refine XS.ifYes X0.here hx rfl (pc0 := 1) (pc' := 15) rfl (hb hby D14_1) rfl ((if0 _ _).trans (feq hd1).2) (by decide) (by decide) ?_
    show Steps p.tables e below (s₁.setTop (mkF m 15 #[.val (.ref ss1), .val (.int 1), .val (.int 0), .val (.ref ss2), .val (.int 0), .val (.int 4), .unset, .unset, .unset] [])) _
    refine XS.iload X0.here hx rfl (hb hby D14_15) rfl ?_
    show Steps p.tables e below (s₁.setTop (mkF m 17 #[.val (.ref ss1), .val (.int 1), .val (.int 0), .val (.ref ss2), .val (.int 0), .val (.int 4), .unset, .unset, .unset] [(.int 0)])) _
    refine XS.ifNo X0.here hx rfl (hb hby D14_17) rfl ((if0 _ _).trans (flt hd2).1) ?_
    show Steps p.tables e below (s₁.setTop (mkF m 20 #[.val (.ref ss1), .val (.int 1), .val (.int 0), .val (.ref ss2), .val (.int 0), .val (.int 4), .unset, .unset, .unset] [])) _
    refine XS.iloadN X0.here hx rfl (hb hby D14_20) rfl ?_
    show Steps p.tables e below (s₁.setTop (mkF m 21 #[.val (.ref ss1), .val (.int 1), .val (.int 0), .val (.ref ss2), .val (.int 0), .val (.int 4), .unset, .unset, .unset] [(.int 0)])) _
    refine XS.ifNo X0.here hx rfl (hb hby D14_21) rfl ((if0 _ _).trans (flt hd3).1) ?_
    show Steps p.tables e below (s₁.setTop (mkF m 24 #[.val (.ref ss1), .val (.int 1), .val (.int 0), .val (.ref ss2), .val (.int 0), .val (.int 4), .unset, .unset, .unset] [])) _
    refine XS.iloadN X0.here hx rfl (hb hby D14_24) rfl ?_
    show Steps p.tables e below (s₁.setTop (mkF m 25 #[.val (.ref ss1), .val (.int 1), .val (.int 0), .val (.ref ss2), .val (.int 0), .val (.int 4), .unset, .unset, .unset] [(.int 0)])) _
    refine XS.i2l X0.here hx rfl (hb hby D14_25) rfl ?_
    show Steps p.tables e below (s₁.setTop (mkF m 26 #[.val (.ref ss1), .val (.int 1), .val (.int 0), .val (.ref ss2), .val (.int 0), .val (.int 4), .unset, .unset, .unset] [(.long ((0 : Int32).toInt64))])) _
    refine XS.aloadN X0.here hx rfl (hb hby D14_26) rfl rfl ?_
    show Steps p.tables e below (s₁.setTop (mkF m 27 #[.val (.ref ss1), .val (.int 1), .val (.int 0), .val (.ref ss2), .val (.int 0), .val (.int 4), .unset, .unset, .unset] [(.ref ss1), (.long ((0 : Int32).toInt64))])) _
    exact st4.trans kk
  have hd6 : ¬ ((0 : Int32) < (lcmpW ((0 : Int32).toInt64) (((4 : Int32).toInt64) - ((4 : Int32).toInt64)))) := by decide
  obtain ⟨cq7, kq7, q7a, q7b, q7c⟩ := isOf hZ e4q xE2
  obtain ⟨_, _, ⟨T7, L7, k7, n7⟩, -, X7, ⟨Lc7, hQ7, l7, y7, z7⟩, st7⟩ := X4.virtualBack hx (y := (⟨"java/lang/String", "length", "()I"⟩ : MethodName)) (z := (⟨"java/lang/String", "length", "()I"⟩ : MethodName)) hown (mvT hZ (gw hw 72 rfl)) (mvT hZ (gw hw 35 rfl)) (notFace_of_selects (args := #[]) (mvT hZ (gw hw 37 rfl))) (mvT hZ (gw hw 37 rfl)) (mvT hZ (gw hw 36 rfl)) (by decide) (backOf (W := 2) (own_slen l Z a0 hw [] ss2 nb2 kk2 (4 : Int32) (own_B [d0, d1, d2, d3]) G1 h0 n0 Z0 xE2 xF2 xC2 xV2 O2 P5 XO) hZ (gw hw 38 rfl) (gw hw 10 rfl) (by decide) (by decide)) q7a q7c (g := (mkF m 43 #[.val (.ref ss1), .val (.int 1), .val (.int 0), .val (.ref ss2), .val (.int 0), .val (.int 4), .unset, .unset, .unset] [(.ref ss2), (.long ((0 : Int32).toInt64))])) rfl (by rw [hml]; rfl) (Steps.refl _) (argsL := []) (rest := [(.long ((0 : Int32).toInt64))]) (lenOf pd___I rfl) rfl (by show 2 * 0 + _ ≤ _; exact Nat.le_of_eq rfl) (hb hby D14_43) (fun _ _ => ⟨rfl, e4q, (by decide : 0 + 0 ≤ _), (by decide : 0 + 0 ≤ _)⟩)
  dsimp only [Pt.U, Pt.locs, Pt.cells, Pt.slots] at X7 l7 y7 z7 st7 hQ7
  subst l7 y7 z7
  obtain ⟨rfl, N7q, e7q⟩ := hQ7
  have N7 := Fr.app N4 N7q
  have pre8 : ∀ t, Steps p.tables e below (T7.setTop (mkF m 46 #[.val (.ref ss1), .val (.int 1), .val (.int 0), .val (.ref ss2), .val (.int 0), .val (.int 4), .unset, .unset, .unset] [(.int 4), (.long ((0 : Int32).toInt64))])) t → Steps p.tables e below (s₁.setTop (entryFrame m #[(.ref ss1), (.int 1), (.int 0), (.ref ss2), (.int 0), (.int 4)] 9)) t := by
    intro t kk
    refine pre5 t ?_
    show Steps p.tables e below (T4.setTop (mkF m 30 #[.val (.ref ss1), .val (.int 1), .val (.int 0), .val (.ref ss2), .val (.int 0), .val (.int 4), .unset, .unset, .unset] [(.int 4), (.long ((0 : Int32).toInt64))])) _
    refine XS.i2l X4.here hx rfl (hb hby D14_30) rfl ?_
    show Steps p.tables e below (T4.setTop (mkF m 31 #[.val (.ref ss1), .val (.int 1), .val (.int 0), .val (.ref ss2), .val (.int 0), .val (.int 4), .unset, .unset, .unset] [(.long ((4 : Int32).toInt64)), (.long ((0 : Int32).toInt64))])) _
    refine XS.iload X4.here hx rfl (hb hby D14_31) rfl ?_
    show Steps p.tables e below (T4.setTop (mkF m 33 #[.val (.ref ss1), .val (.int 1), .val (.int 0), .val (.ref ss2), .val (.int 0), .val (.int 4), .unset, .unset, .unset] [(.int 4), (.long ((4 : Int32).toInt64)), (.long ((0 : Int32).toInt64))])) _
    refine XS.i2l X4.here hx rfl (hb hby D14_33) rfl ?_
    show Steps p.tables e below (T4.setTop (mkF m 34 #[.val (.ref ss1), .val (.int 1), .val (.int 0), .val (.ref ss2), .val (.int 0), .val (.int 4), .unset, .unset, .unset] [(.long ((4 : Int32).toInt64)), (.long ((4 : Int32).toInt64)), (.long ((0 : Int32).toInt64))])) _
    refine XS.lsub X4.here hx rfl (hb hby D14_34) rfl ?_
    show Steps p.tables e below (T4.setTop (mkF m 35 #[.val (.ref ss1), .val (.int 1), .val (.int 0), .val (.ref ss2), .val (.int 0), .val (.int 4), .unset, .unset, .unset] [(.long (((4 : Int32).toInt64) - ((4 : Int32).toInt64))), (.long ((0 : Int32).toInt64))])) _
    refine XS.lcmp X4.here hx rfl (hb hby D14_35) rfl ?_
    show Steps p.tables e below (T4.setTop (mkF m 36 #[.val (.ref ss1), .val (.int 1), .val (.int 0), .val (.ref ss2), .val (.int 0), .val (.int 4), .unset, .unset, .unset] [(.int (lcmpW ((0 : Int32).toInt64) (((4 : Int32).toInt64) - ((4 : Int32).toInt64))))])) _
    refine XS.ifNo X4.here hx rfl (hb hby D14_36) rfl ((if0 _ _).trans (flt hd6).2.2.1) ?_
    show Steps p.tables e below (T4.setTop (mkF m 39 #[.val (.ref ss1), .val (.int 1), .val (.int 0), .val (.ref ss2), .val (.int 0), .val (.int 4), .unset, .unset, .unset] [])) _
    refine XS.iload X4.here hx rfl (hb hby D14_39) rfl ?_
    show Steps p.tables e below (T4.setTop (mkF m 41 #[.val (.ref ss1), .val (.int 1), .val (.int 0), .val (.ref ss2), .val (.int 0), .val (.int 4), .unset, .unset, .unset] [(.int 0)])) _
    refine XS.i2l X4.here hx rfl (hb hby D14_41) rfl ?_
    show Steps p.tables e below (T4.setTop (mkF m 42 #[.val (.ref ss1), .val (.int 1), .val (.int 0), .val (.ref ss2), .val (.int 0), .val (.int 4), .unset, .unset, .unset] [(.long ((0 : Int32).toInt64))])) _
    refine XS.aloadN X4.here hx rfl (hb hby D14_42) rfl rfl ?_
    show Steps p.tables e below (T4.setTop (mkF m 43 #[.val (.ref ss1), .val (.int 1), .val (.int 0), .val (.ref ss2), .val (.int 0), .val (.int 4), .unset, .unset, .unset] [(.ref ss2), (.long ((0 : Int32).toInt64))])) _
    exact st7.trans kk
  have hd9 : ¬ ((0 : Int32) < (lcmpW ((0 : Int32).toInt64) (((4 : Int32).toInt64) - ((4 : Int32).toInt64)))) := by decide
  obtain ⟨T10, X10, e10, st10⟩ := getF X7 hx hZ hown (host := "") (Or.inl (gw hw 30 rfl)) Via.refl e7q xF1 (g := (mkF m 58 #[.val (.ref ss1), .val (.int 1), .val (.int 0), .val (.ref ss2), .val (.int 0), .val (.int 4), .unset, .unset, .unset] [(.ref ss1)])) rfl rfl (hb hby D14_58)
  have pre11 : ∀ t, Steps p.tables e below (T10.setTop (mkF m 61 #[.val (.ref ss1), .val (.int 1), .val (.int 0), .val (.ref ss2), .val (.int 0), .val (.int 4), .unset, .unset, .unset] [(.ref nb1)])) t → Steps p.tables e below (s₁.setTop (entryFrame m #[(.ref ss1), (.int 1), (.int 0), (.ref ss2), (.int 0), (.int 4)] 9)) t := by
    intro t kk
    refine pre8 t ?_
    show Steps p.tables e below (T7.setTop (mkF m 46 #[.val (.ref ss1), .val (.int 1), .val (.int 0), .val (.ref ss2), .val (.int 0), .val (.int 4), .unset, .unset, .unset] [(.int 4), (.long ((0 : Int32).toInt64))])) _
    refine XS.i2l X7.here hx rfl (hb hby D14_46) rfl ?_
    show Steps p.tables e below (T7.setTop (mkF m 47 #[.val (.ref ss1), .val (.int 1), .val (.int 0), .val (.ref ss2), .val (.int 0), .val (.int 4), .unset, .unset, .unset] [(.long ((4 : Int32).toInt64)), (.long ((0 : Int32).toInt64))])) _
    refine XS.iload X7.here hx rfl (hb hby D14_47) rfl ?_
    show Steps p.tables e below (T7.setTop (mkF m 49 #[.val (.ref ss1), .val (.int 1), .val (.int 0), .val (.ref ss2), .val (.int 0), .val (.int 4), .unset, .unset, .unset] [(.int 4), (.long ((4 : Int32).toInt64)), (.long ((0 : Int32).toInt64))])) _
    refine XS.i2l X7.here hx rfl (hb hby D14_49) rfl ?_
    show Steps p.tables e below (T7.setTop (mkF m 50 #[.val (.ref ss1), .val (.int 1), .val (.int 0), .val (.ref ss2), .val (.int 0), .val (.int 4), .unset, .unset, .unset] [(.long ((4 : Int32).toInt64)), (.long ((4 : Int32).toInt64)), (.long ((0 : Int32).toInt64))])) _
    refine XS.lsub X7.here hx rfl (hb hby D14_50) rfl ?_
    show Steps p.tables e below (T7.setTop (mkF m 51 #[.val (.ref ss1), .val (.int 1), .val (.int 0), .val (.ref ss2), .val (.int 0), .val (.int 4), .unset, .unset, .unset] [(.long (((4 : Int32).toInt64) - ((4 : Int32).toInt64))), (.long ((0 : Int32).toInt64))])) _
    refine XS.lcmp X7.here hx rfl (hb hby D14_51) rfl ?_
    show Steps p.tables e below (T7.setTop (mkF m 52 #[.val (.ref ss1), .val (.int 1), .val (.int 0), .val (.ref ss2), .val (.int 0), .val (.int 4), .unset, .unset, .unset] [(.int (lcmpW ((0 : Int32).toInt64) (((4 : Int32).toInt64) - ((4 : Int32).toInt64))))])) _
    refine XS.ifYes X7.here hx rfl (pc0 := 52) (pc' := 57) rfl (hb hby D14_52) rfl ((if0 _ _).trans (flt hd9).2.2.2) (by decide) (by decide) ?_
    show Steps p.tables e below (T7.setTop (mkF m 57 #[.val (.ref ss1), .val (.int 1), .val (.int 0), .val (.ref ss2), .val (.int 0), .val (.int 4), .unset, .unset, .unset] [])) _
    refine XS.aloadN X7.here hx rfl (hb hby D14_57) rfl rfl ?_
    show Steps p.tables e below (T7.setTop (mkF m 58 #[.val (.ref ss1), .val (.int 1), .val (.int 0), .val (.ref ss2), .val (.int 0), .val (.int 4), .unset, .unset, .unset] [(.ref ss1)])) _
    exact st10 _ kk
  obtain ⟨T12, X12, e12, st12⟩ := getF X10 hx hZ hown (host := "") (Or.inl (gw hw 30 rfl)) Via.refl e10 xF2 (g := (mkF m 64 #[.val (.ref ss1), .val (.int 1), .val (.int 0), .val (.ref ss2), .val (.int 0), .val (.int 4), .val (.ref nb1), .unset, .unset] [(.ref ss2)])) rfl rfl (hb hby D14_64)
  have pre13 : ∀ t, Steps p.tables e below (T12.setTop (mkF m 67 #[.val (.ref ss1), .val (.int 1), .val (.int 0), .val (.ref ss2), .val (.int 0), .val (.int 4), .val (.ref nb1), .unset, .unset] [(.ref nb2)])) t → Steps p.tables e below (s₁.setTop (entryFrame m #[(.ref ss1), (.int 1), (.int 0), (.ref ss2), (.int 0), (.int 4)] 9)) t := by
    intro t kk
    refine pre11 t ?_
    show Steps p.tables e below (T10.setTop (mkF m 61 #[.val (.ref ss1), .val (.int 1), .val (.int 0), .val (.ref ss2), .val (.int 0), .val (.int 4), .unset, .unset, .unset] [(.ref nb1)])) _
    refine XS.astore X10.here hx rfl (hb hby D14_61) rfl rfl (l' := #[.val (.ref ss1), .val (.int 1), .val (.int 0), .val (.ref ss2), .val (.int 0), .val (.int 4), .val (.ref nb1), .unset, .unset]) rfl ?_
    show Steps p.tables e below (T10.setTop (mkF m 63 #[.val (.ref ss1), .val (.int 1), .val (.int 0), .val (.ref ss2), .val (.int 0), .val (.int 4), .val (.ref nb1), .unset, .unset] [])) _
    refine XS.aloadN X10.here hx rfl (hb hby D14_63) rfl rfl ?_
    show Steps p.tables e below (T10.setTop (mkF m 64 #[.val (.ref ss1), .val (.int 1), .val (.int 0), .val (.ref ss2), .val (.int 0), .val (.int 4), .val (.ref nb1), .unset, .unset] [(.ref ss2)])) _
    exact st12 _ kk
  obtain ⟨cq14, kq14, q14a, q14b, q14c⟩ := isOf hZ e12 xE1
  obtain ⟨_, _, ⟨T14, L14, k14, n14⟩, -, X14, ⟨Lc14, hQ14, l14, y14, z14⟩, st14⟩ := X12.virtualBack hx (y := (⟨"java/lang/String", "coder", "()B"⟩ : MethodName)) (z := (⟨"java/lang/String", "coder", "()B"⟩ : MethodName)) hown (mvT hZ (gw hw 39 rfl)) (mvT hZ (gw hw 40 rfl)) (notFace_of_selects (args := #[]) (mvT hZ (gw hw 42 rfl))) (mvT hZ (gw hw 42 rfl)) (mvT hZ (gw hw 41 rfl)) (by decide) (backOf (W := 0) (own_coder l Z a0 hw [] ss1 G1 h0 n0 Z0 xC1 O2 P5 XO) hZ (gw hw 43 rfl) (gw hw 10 rfl) (by decide) (by decide)) q14a q14c (g := (mkF m 70 #[.val (.ref ss1), .val (.int 1), .val (.int 0), .val (.ref ss2), .val (.int 0), .val (.int 4), .val (.ref nb1), .val (.ref nb2), .unset] [(.ref ss1)])) rfl (by rw [hml]; rfl) (Steps.refl _) (argsL := []) (rest := []) (lenOf pd___B rfl) rfl (by show 2 * 0 + _ ≤ _; exact Nat.le_of_eq rfl) (hb hby D14_70) (fun _ _ => ⟨rfl, e12, (by decide : 0 + 0 ≤ _), (by decide : 0 + 0 ≤ _)⟩)
  dsimp only [Pt.U, Pt.locs, Pt.cells, Pt.slots] at X14 l14 y14 z14 st14 hQ14
  subst l14 y14 z14
  obtain ⟨rfl, N14q, e14q⟩ := hQ14
  have N14 := Fr.app N7 N14q
  have pre15 : ∀ t, Steps p.tables e below (T14.setTop (mkF m 73 #[.val (.ref ss1), .val (.int 1), .val (.int 0), .val (.ref ss2), .val (.int 0), .val (.int 4), .val (.ref nb1), .val (.ref nb2), .unset] [(.int 0)])) t → Steps p.tables e below (s₁.setTop (entryFrame m #[(.ref ss1), (.int 1), (.int 0), (.ref ss2), (.int 0), (.int 4)] 9)) t := by
    intro t kk
    refine pre13 t ?_
    show Steps p.tables e below (T12.setTop (mkF m 67 #[.val (.ref ss1), .val (.int 1), .val (.int 0), .val (.ref ss2), .val (.int 0), .val (.int 4), .val (.ref nb1), .unset, .unset] [(.ref nb2)])) _
    refine XS.astore X12.here hx rfl (hb hby D14_67) rfl rfl (l' := #[.val (.ref ss1), .val (.int 1), .val (.int 0), .val (.ref ss2), .val (.int 0), .val (.int 4), .val (.ref nb1), .val (.ref nb2), .unset]) rfl ?_
    show Steps p.tables e below (T12.setTop (mkF m 69 #[.val (.ref ss1), .val (.int 1), .val (.int 0), .val (.ref ss2), .val (.int 0), .val (.int 4), .val (.ref nb1), .val (.ref nb2), .unset] [])) _
    refine XS.aloadN X12.here hx rfl (hb hby D14_69) rfl rfl ?_
    show Steps p.tables e below (T12.setTop (mkF m 70 #[.val (.ref ss1), .val (.int 1), .val (.int 0), .val (.ref ss2), .val (.int 0), .val (.int 4), .val (.ref nb1), .val (.ref nb2), .unset] [(.ref ss1)])) _
    exact st14.trans kk
  obtain ⟨cq16, kq16, q16a, q16b, q16c⟩ := isOf hZ e14q xE2
  obtain ⟨_, _, ⟨T16, L16, k16, n16⟩, -, X16, ⟨Lc16, hQ16, l16, y16, z16⟩, st16⟩ := X14.virtualBack hx (y := (⟨"java/lang/String", "coder", "()B"⟩ : MethodName)) (z := (⟨"java/lang/String", "coder", "()B"⟩ : MethodName)) hown (mvT hZ (gw hw 39 rfl)) (mvT hZ (gw hw 40 rfl)) (notFace_of_selects (args := #[]) (mvT hZ (gw hw 42 rfl))) (mvT hZ (gw hw 42 rfl)) (mvT hZ (gw hw 41 rfl)) (by decide) (backOf (W := 1) (own_coder l Z a0 hw [] ss2 G1 h0 n0 Z0 xC2 O2 P5 XO) hZ (gw hw 43 rfl) (gw hw 10 rfl) (by decide) (by decide)) q16a q16c (g := (mkF m 78 #[.val (.ref ss1), .val (.int 1), .val (.int 0), .val (.ref ss2), .val (.int 0), .val (.int 4), .val (.ref nb1), .val (.ref nb2), .val (.int 0)] [(.ref ss2), (.int 0)])) rfl (by rw [hml]; rfl) (Steps.refl _) (argsL := []) (rest := [(.int 0)]) (lenOf pd___B rfl) rfl (by show 2 * 0 + _ ≤ _; exact Nat.le_of_eq rfl) (hb hby D14_78) (fun _ _ => ⟨rfl, e14q, (by decide : 0 + 0 ≤ _), (by decide : 0 + 0 ≤ _)⟩)
  dsimp only [Pt.U, Pt.locs, Pt.cells, Pt.slots] at X16 l16 y16 z16 st16 hQ16
  subst l16 y16 z16
  obtain ⟨rfl, N16q, e16q⟩ := hQ16
  have N16 := Fr.app N14 N16q
  have pre17 : ∀ t, Steps p.tables e below (T16.setTop (mkF m 81 #[.val (.ref ss1), .val (.int 1), .val (.int 0), .val (.ref ss2), .val (.int 0), .val (.int 4), .val (.ref nb1), .val (.ref nb2), .val (.int 0)] [(.int 0), (.int 0)])) t → Steps p.tables e below (s₁.setTop (entryFrame m #[(.ref ss1), (.int 1), (.int 0), (.ref ss2), (.int 0), (.int 4)] 9)) t := by
    intro t kk
    refine pre15 t ?_
    show Steps p.tables e below (T14.setTop (mkF m 73 #[.val (.ref ss1), .val (.int 1), .val (.int 0), .val (.ref ss2), .val (.int 0), .val (.int 4), .val (.ref nb1), .val (.ref nb2), .unset] [(.int 0)])) _
    refine XS.istore X14.here hx rfl (hb hby D14_73) rfl (l' := #[.val (.ref ss1), .val (.int 1), .val (.int 0), .val (.ref ss2), .val (.int 0), .val (.int 4), .val (.ref nb1), .val (.ref nb2), .val (.int 0)]) rfl ?_
    show Steps p.tables e below (T14.setTop (mkF m 75 #[.val (.ref ss1), .val (.int 1), .val (.int 0), .val (.ref ss2), .val (.int 0), .val (.int 4), .val (.ref nb1), .val (.ref nb2), .val (.int 0)] [])) _
    refine XS.iload X14.here hx rfl (hb hby D14_75) rfl ?_
    show Steps p.tables e below (T14.setTop (mkF m 77 #[.val (.ref ss1), .val (.int 1), .val (.int 0), .val (.ref ss2), .val (.int 0), .val (.int 4), .val (.ref nb1), .val (.ref nb2), .val (.int 0)] [(.int 0)])) _
    refine XS.aloadN X14.here hx rfl (hb hby D14_77) rfl rfl ?_
    show Steps p.tables e below (T14.setTop (mkF m 78 #[.val (.ref ss1), .val (.int 1), .val (.int 0), .val (.ref ss2), .val (.int 0), .val (.int 4), .val (.ref nb1), .val (.ref nb2), .val (.int 0)] [(.ref ss2), (.int 0)])) _
    exact st16.trans kk
  have hd18 : (0 : Int32) = (0 : Int32) := rfl
  have hd19 : (0 : Int32) = (0 : Int32) := rfl
  obtain ⟨_, _, ⟨T20, L20, k20, n20⟩, -, X20, ⟨Lc20, hQ20, l20, y20, z20⟩, st20⟩ := Jvm.LawKit.callS X16 hx (y := (⟨"java/lang/StringLatin1", "regionMatchesCI", "([BI[BII)Z"⟩ : MethodName)) hown (mvT hZ (gw hw 123 rfl)) (mvT hZ (gw hw 124 rfl)) (mvT hZ (gw hw 15 rfl)) (mvT hZ (gw hw 125 rfl)) (by decide) (backOf (W := 0) (own_rci4 l Z a0 hw [] nb1 nb2 kk1 kk2 d0 d1 d2 d3 h0 n0 Z0 xV1 xV2) hZ (gw hw 125 rfl) (gw hw 15 rfl) (by decide) (by decide)) (g := (mkF m 98 #[.val (.ref ss1), .val (.int 1), .val (.int 0), .val (.ref ss2), .val (.int 0), .val (.int 4), .val (.ref nb1), .val (.ref nb2), .val (.int 0)] [(.int 4), (.int 0), (.ref nb2), (.int 0), (.ref nb1)])) rfl (by rw [hml]; rfl) (argsL := [(.ref nb1), (.int 0), (.ref nb2), (.int 0), (.int 4)]) (rest := []) (lenOf pd___BI_BII_Z rfl) rfl (by show 2 * 0 + _ ≤ _; exact Nat.le_of_eq rfl) (hb hby D14_98) (fun _ _ => ⟨rfl, e16q, (by decide : 0 + 0 ≤ _), (by decide : 0 + 0 ≤ _)⟩)
  dsimp only [Pt.U, Pt.locs, Pt.cells, Pt.slots] at X20 l20 y20 z20 st20 hQ20
  subst l20 y20 z20
  obtain ⟨rr, rfl, N20q, e20q, ra, rb⟩ := hQ20
  have N20 := Fr.app N16 N20q
  have pre21 : ∀ t, Steps p.tables e below (T20.setTop (mkF m 101 #[.val (.ref ss1), .val (.int 1), .val (.int 0), .val (.ref ss2), .val (.int 0), .val (.int 4), .val (.ref nb1), .val (.ref nb2), .val (.int 0)] [(.int rr)])) t → Steps p.tables e below (s₁.setTop (entryFrame m #[(.ref ss1), (.int 1), (.int 0), (.ref ss2), (.int 0), (.int 4)] 9)) t := by
    intro t kk
    refine pre17 t ?_
    show Steps p.tables e below (T16.setTop (mkF m 81 #[.val (.ref ss1), .val (.int 1), .val (.int 0), .val (.ref ss2), .val (.int 0), .val (.int 4), .val (.ref nb1), .val (.ref nb2), .val (.int 0)] [(.int 0), (.int 0)])) _
    refine XS.icmpNo X16.here hx rfl (hb hby D14_81) rfl (teq hd18).2 ?_
    show Steps p.tables e below (T16.setTop (mkF m 84 #[.val (.ref ss1), .val (.int 1), .val (.int 0), .val (.ref ss2), .val (.int 0), .val (.int 4), .val (.ref nb1), .val (.ref nb2), .val (.int 0)] [])) _
    refine XS.iload X16.here hx rfl (hb hby D14_84) rfl ?_
    show Steps p.tables e below (T16.setTop (mkF m 86 #[.val (.ref ss1), .val (.int 1), .val (.int 0), .val (.ref ss2), .val (.int 0), .val (.int 4), .val (.ref nb1), .val (.ref nb2), .val (.int 0)] [(.int 0)])) _
    refine XS.ifNo X16.here hx rfl (hb hby D14_86) rfl ((if0 _ _).trans (teq hd19).2) ?_
    show Steps p.tables e below (T16.setTop (mkF m 89 #[.val (.ref ss1), .val (.int 1), .val (.int 0), .val (.ref ss2), .val (.int 0), .val (.int 4), .val (.ref nb1), .val (.ref nb2), .val (.int 0)] [])) _
    refine XS.aload X16.here hx rfl (hb hby D14_89) rfl rfl ?_
    show Steps p.tables e below (T16.setTop (mkF m 91 #[.val (.ref ss1), .val (.int 1), .val (.int 0), .val (.ref ss2), .val (.int 0), .val (.int 4), .val (.ref nb1), .val (.ref nb2), .val (.int 0)] [(.ref nb1)])) _
    refine XS.iloadN X16.here hx rfl (hb hby D14_91) rfl ?_
    show Steps p.tables e below (T16.setTop (mkF m 92 #[.val (.ref ss1), .val (.int 1), .val (.int 0), .val (.ref ss2), .val (.int 0), .val (.int 4), .val (.ref nb1), .val (.ref nb2), .val (.int 0)] [(.int 0), (.ref nb1)])) _
    refine XS.aload X16.here hx rfl (hb hby D14_92) rfl rfl ?_
    show Steps p.tables e below (T16.setTop (mkF m 94 #[.val (.ref ss1), .val (.int 1), .val (.int 0), .val (.ref ss2), .val (.int 0), .val (.int 4), .val (.ref nb1), .val (.ref nb2), .val (.int 0)] [(.ref nb2), (.int 0), (.ref nb1)])) _
    refine XS.iload X16.here hx rfl (hb hby D14_94) rfl ?_
    show Steps p.tables e below (T16.setTop (mkF m 96 #[.val (.ref ss1), .val (.int 1), .val (.int 0), .val (.ref ss2), .val (.int 0), .val (.int 4), .val (.ref nb1), .val (.ref nb2), .val (.int 0)] [(.int 0), (.ref nb2), (.int 0), (.ref nb1)])) _
    refine XS.iload X16.here hx rfl (hb hby D14_96) rfl ?_
    show Steps p.tables e below (T16.setTop (mkF m 98 #[.val (.ref ss1), .val (.int 1), .val (.int 0), .val (.ref ss2), .val (.int 0), .val (.int 4), .val (.ref nb1), .val (.ref nb2), .val (.int 0)] [(.int 4), (.int 0), (.ref nb2), (.int 0), (.ref nb1)])) _
    exact st20 _ kk
  have pre22 : ∀ t, Steps p.tables e below (T20.setTop (mkF m 116 #[.val (.ref ss1), .val (.int 1), .val (.int 0), .val (.ref ss2), .val (.int 0), .val (.int 4), .val (.ref nb1), .val (.ref nb2), .val (.int 0)] [(.int rr)])) t → Steps p.tables e below (s₁.setTop (entryFrame m #[(.ref ss1), (.int 1), (.int 0), (.ref ss2), (.int 0), (.int 4)] 9)) t := by
    intro t kk
    refine pre21 t ?_
    show Steps p.tables e below (T20.setTop (mkF m 101 #[.val (.ref ss1), .val (.int 1), .val (.int 0), .val (.ref ss2), .val (.int 0), .val (.int 4), .val (.ref nb1), .val (.ref nb2), .val (.int 0)] [(.int rr)])) _
    refine XS.goto X20.here hx rfl (pc0 := 101) (pc' := 116) rfl (hb hby D14_101) (by decide) (by decide) ?_
    exact kk
  by_cases hm : own_M (104 : Int32) d0 ∧ own_M (116 : Int32) d1 ∧ own_M (116 : Int32) d2 ∧ own_M (112 : Int32) d3
  case pos =>
    have er := ra hm
    subst er
    obtain ⟨fs, hr, hrun, hended, hW, hsame⟩ := X20.leave (v := some (.int 1)) (fun h => by rw [Bd.returns] at h; cases h)
    refine ⟨_, _, pre22 _ ?_, hrun, hended, _, _, rfl, ?_, ⟨_, rfl⟩, hW, hsame.mono (by decide) (by decide)⟩
    · show Steps p.tables e below (T20.setTop (mkF m 116 #[.val (.ref ss1), .val (.int 1), .val (.int 0), .val (.ref ss2), .val (.int 0), .val (.int 4), .val (.ref nb1), .val (.ref nb2), .val (.int 0)] [(.int 1)])) _
      exact retN X20 hx (t := .boolean) Bd.returns (by simp) (hb hby D14_116) hr
    · show Q_own_rm4 Z ss1 ss2 nb1 nb2 kk1 kk2 d0 d1 d2 d3 G1 h0 n0 _ T20.heap _
      rw [e20q]
      exact ⟨1, rfl, N20, rfl, fun _ => rfl, fun q => absurd hm q⟩
  case neg =>
    have er := rb hm
    subst er
    obtain ⟨fs, hr, hrun, hended, hW, hsame⟩ := X20.leave (v := some (.int 0)) (fun h => by rw [Bd.returns] at h; cases h)
    refine ⟨_, _, pre22 _ ?_, hrun, hended, _, _, rfl, ?_, ⟨_, rfl⟩, hW, hsame.mono (by decide) (by decide)⟩
    · show Steps p.tables e below (T20.setTop (mkF m 116 #[.val (.ref ss1), .val (.int 1), .val (.int 0), .val (.ref ss2), .val (.int 0), .val (.int 4), .val (.ref nb1), .val (.ref nb2), .val (.int 0)] [(.int 0)])) _
      exact retN X20 hx (t := .boolean) Bd.returns (by simp) (hb hby D14_116) hr
    · show Q_own_rm4 Z ss1 ss2 nb1 nb2 kk1 kk2 d0 d1 d2 d3 G1 h0 n0 _ T20.heap _
      rw [e20q]
      exact ⟨0, rfl, N20, rfl, fun q => absurd q hm, fun _ => rfl⟩
theorem D15_0 : decode jdk_42_method_70_code 0 = .ok (.aload_n 0, 1) := by decide +kernel
theorem D15_1 : decode jdk_42_method_70_code 1 = .ok (.aload_n 1, 1) := by decide +kernel
theorem D15_2 : decode jdk_42_method_70_code 2 = .ok (.if_acmp .ne 7, 3) := by decide +kernel
theorem D15_9 : decode jdk_42_method_70_code 9 = .ok (.aload_n 1, 1) := by decide +kernel
theorem D15_10 : decode jdk_42_method_70_code 10 = .ok (.ifnull 33, 3) := by decide +kernel
theorem D15_13 : decode jdk_42_method_70_code 13 = .ok (.aload_n 1, 1) := by decide +kernel
theorem D15_14 : decode jdk_42_method_70_code 14 = .ok (.invokevirtual 505, 3) := by decide +kernel
theorem D15_17 : decode jdk_42_method_70_code 17 = .ok (.aload_n 0, 1) := by decide +kernel
theorem D15_18 : decode jdk_42_method_70_code 18 = .ok (.invokevirtual 505, 3) := by decide +kernel
theorem D15_21 : decode jdk_42_method_70_code 21 = .ok (.if_icmp .ne 22, 3) := by decide +kernel
theorem D15_24 : decode jdk_42_method_70_code 24 = .ok (.aload_n 0, 1) := by decide +kernel
theorem D15_25 : decode jdk_42_method_70_code 25 = .ok (.iconst 1, 1) := by decide +kernel
theorem D15_26 : decode jdk_42_method_70_code 26 = .ok (.iconst 0, 1) := by decide +kernel
theorem D15_27 : decode jdk_42_method_70_code 27 = .ok (.aload_n 1, 1) := by decide +kernel
theorem D15_28 : decode jdk_42_method_70_code 28 = .ok (.iconst 0, 1) := by decide +kernel
theorem D15_29 : decode jdk_42_method_70_code 29 = .ok (.aload_n 0, 1) := by decide +kernel
theorem D15_30 : decode jdk_42_method_70_code 30 = .ok (.invokevirtual 505, 3) := by decide +kernel
theorem pd__ZILjava_lang_String_II_Z : parseMethodDescriptor "(ZILjava/lang/String;II)Z" = some ⟨[.boolean, .int, (.object "java/lang/String"), .int, .int], some .boolean⟩ := by decide +kernel
theorem D15_33 : decode jdk_42_method_70_code 33 = .ok (.invokevirtual 582, 3) := by decide +kernel
theorem D15_36 : decode jdk_42_method_70_code 36 = .ok (.ifCond .eq 7, 3) := by decide +kernel
theorem D15_39 : decode jdk_42_method_70_code 39 = .ok (.iconst 1, 1) := by decide +kernel
theorem D15_40 : decode jdk_42_method_70_code 40 = .ok (.goto 4, 3) := by decide +kernel
theorem D15_44 : decode jdk_42_method_70_code 44 = .ok (.ireturn, 1) := by decide +kernel
theorem D15_43 : decode jdk_42_method_70_code 43 = .ok (.iconst 0, 1) := by decide +kernel
theorem ef_own_ei4 (m : MethodId) {ss1 : Addr} {ss2 : Addr} : entryFrame m #[(.ref ss1), (.ref ss2)] 2 = mkF m 0 #[.val (.ref ss1), .val (.ref ss2)] [] := by first | (simp [entryFrame, mkF, argsToLocals, Value.category]; done) | rfl
def Q_own_ei4 (Z : State) (ss1 ss2 nb1 nb2 : Addr) (kk1 kk2 : ClassId) (cs : List Int32) (G1 : Int32) (h0 : Heap) (n0 : Nat) (v : Option Value) (h : Heap) (L : List Loc) : Prop := ∃ r : Int32, v = some (.int r) ∧ Fr n0 L ∧ h = h0 ∧ ((own_E4 ([104, 116, 116, 112] : List Int32) cs) → r = 1) ∧ (¬ (own_E4 ([104, 116, 116, 112] : List Int32) cs) → r = 0)
set_option maxRecDepth 65536 in
set_option maxHeartbeats 40000000 in
theorem own_ei4 (l : Launch) (Z : State) (a0 : Array Value) (hw : ∀ d ∈ tables_1, d.before a0 Z = true) (ws : List Jvm.Cond) (ss1 ss2 nb1 nb2 : Addr) (kk1 kk2 : ClassId) (cs : List Int32) (G1 : Int32) (h0 : Heap) (n0 : Nat) (Z0 : n0 ≤ h0.size) (xE1 : Exa Z h0 ss1 "java/lang/String") (xF1 : Fld Z h0 ss1 "java/lang/String" "value" "[B" (.ref nb1)) (xC1 : Fld Z h0 ss1 "java/lang/String" "coder" "B" (.int 0)) (xV1 : Arv Z h0 nb1 kk1 .byte (4 : Int32) [(.int 104), (.int 116), (.int 116), (.int 112)] (.int 0)) (xE2 : Exa Z h0 ss2 "java/lang/String") (xF2 : Fld Z h0 ss2 "java/lang/String" "value" "[B" (.ref nb2)) (xC2 : Fld Z h0 ss2 "java/lang/String" "coder" "B" (.int 0)) (xV2 : Arv Z h0 nb2 kk2 .byte (Int32.ofNat cs.length) (own_B cs) (.int 0)) (hne : ¬ ss1 = ss2) (hcl : cs.length ≤ 6) (O2 : Sta Z Z.heap "java/lang/String" "COMPACT_STRINGS" "Z" (.int G1)) (P5 : ¬ G1 = (0 : Int32)) (XO : Old Z n0 h0) :
    MetFree l (⟨"java/lang/String", "equalsIgnoreCase", "(Ljava/lang/String;)Z"⟩ : MethodName) (head1 (Jvm.Cond.code (⟨"java/lang/String", "equalsIgnoreCase", "(Ljava/lang/String;)Z"⟩ : MethodName) jdk_42_method_70_code 2 (some .boolean) :: ws) ({ frames := 3, cells := 0, slots := 0, locals := 53 } : Room)) (fun a U => a = #[(.ref ss1), (.ref ss2)] ∧ Z.Warmed39 U.vm ∧ U.heap = h0) (fun _ _ _ _ _ => True) (fun _ U o U' => ∃ v L, o = .returned v ∧ Q_own_ei4 Z ss1 ss2 nb1 nb2 kk1 kk2 cs G1 h0 n0 v U'.heap L ∧ FrameEnd U o U' L ({ frames := 3, cells := 0, slots := 0, locals := 53 } : Room).cells ({ frames := 3, cells := 0, slots := 0, locals := 53 } : Room).slots) := by
  refine MetFree.of_bodySF (plainFor_of_name pn_java_lang_String) hisR ?_
  intro p e s m args below meth c s₁ Bd hml0 hP hK
  obtain ⟨rfl, hZ, hh⟩ := hP
  have hx := Bd.exec
  have hby := Bd.bytes
  have hml : c.maxLocals = 2 := hml0
  have hown : s.vm.findClass "java/lang/String" = some m.cls := findClass_of_methodNamed Bd.named
  have hnm := (name_of_methodNamed Bd.named Bd.method).1
  have X0 : Stand p l e ({ frames := 3, cells := 0, slots := 0, locals := 53 } : Room) s m #[(.ref ss1), (.ref ss2)] below meth c s₁ [] 0 0 := Stand.of_body Bd
  have e0 : s₁.heap = h0 := by rw [← hh, Bd.state]; rfl
  have N0 := Fr.nil n0
  have pre0 : ∀ t, Steps p.tables e below (s₁.setTop (mkF m 0 #[.val (.ref ss1), .val (.ref ss2)] [])) t → Steps p.tables e below (s₁.setTop (entryFrame m #[(.ref ss1), (.ref ss2)] 2)) t := fun t k => castTop (ef_own_ei4 m) k
  obtain ⟨cq1, kq1, q1a, q1b, q1c⟩ := isOf hZ e0 xE2
  obtain ⟨_, _, ⟨T1, L1, k1, n1⟩, -, X1, ⟨Lc1, hQ1, l1, y1, z1⟩, st1⟩ := X0.virtualBack hx (y := (⟨"java/lang/String", "length", "()I"⟩ : MethodName)) (z := (⟨"java/lang/String", "length", "()I"⟩ : MethodName)) hown (mvT hZ (gw hw 72 rfl)) (mvT hZ (gw hw 35 rfl)) (notFace_of_selects (args := #[]) (mvT hZ (gw hw 37 rfl))) (mvT hZ (gw hw 37 rfl)) (mvT hZ (gw hw 36 rfl)) (by decide) (backOf (W := 0) (own_slen l Z a0 hw [] ss2 nb2 kk2 (Int32.ofNat cs.length) (own_B cs) G1 h0 n0 Z0 xE2 xF2 xC2 xV2 O2 P5 XO) hZ (gw hw 38 rfl) (gw hw 10 rfl) (by decide) (by decide)) q1a q1c (g := (mkF m 14 #[.val (.ref ss1), .val (.ref ss2)] [(.ref ss2)])) rfl (by rw [hml]; rfl) (Steps.refl _) (argsL := []) (rest := []) (lenOf pd___I rfl) rfl (by show 2 * 0 + _ ≤ _; exact Nat.le_of_eq rfl) (hb hby D15_14) (fun _ _ => ⟨rfl, e0, (by decide : 0 + 0 ≤ _), (by decide : 0 + 0 ≤ _)⟩)
  dsimp only [Pt.U, Pt.locs, Pt.cells, Pt.slots] at X1 l1 y1 z1 st1 hQ1
  subst l1 y1 z1
  obtain ⟨rfl, N1q, e1q⟩ := hQ1
  have N1 := Fr.app N0 N1q
  have pre2 : ∀ t, Steps p.tables e below (T1.setTop (mkF m 17 #[.val (.ref ss1), .val (.ref ss2)] [(.int (Int32.ofNat cs.length))])) t → Steps p.tables e below (s₁.setTop (entryFrame m #[(.ref ss1), (.ref ss2)] 2)) t := by
    intro t kk
    refine pre0 t ?_
    show Steps p.tables e below (s₁.setTop (mkF m 0 #[.val (.ref ss1), .val (.ref ss2)] [])) _
    refine XS.aloadN X0.here hx rfl (hb hby D15_0) rfl rfl ?_
    show Steps p.tables e below (s₁.setTop (mkF m 1 #[.val (.ref ss1), .val (.ref ss2)] [(.ref ss1)])) _
    refine XS.aloadN X0.here hx rfl (hb hby D15_1) rfl rfl ?_
    show Steps p.tables e below (s₁.setTop (mkF m 2 #[.val (.ref ss1), .val (.ref ss2)] [(.ref ss2), (.ref ss1)])) _
    refine Jvm.RoadKit.acmp (g := (mkF m 2 #[.val (.ref ss1), .val (.ref ss2)] [(.ref ss2), (.ref ss1)])) X0 hx rfl rfl rfl (pc0 := 2) (pc' := 9) (same := false) rfl (hb hby D15_2) rfl (decide_eq_false fun q => hne (Value.ref.inj q)) (by decide) (by decide) ?_
    show Steps p.tables e below (s₁.setTop (mkF m 9 #[.val (.ref ss1), .val (.ref ss2)] [])) _
    refine XS.aloadN X0.here hx rfl (hb hby D15_9) rfl rfl ?_
    show Steps p.tables e below (s₁.setTop (mkF m 10 #[.val (.ref ss1), .val (.ref ss2)] [(.ref ss2)])) _
    refine XS.ifnullNo X0.here hx rfl (hb hby D15_10) rfl ?_
    show Steps p.tables e below (s₁.setTop (mkF m 13 #[.val (.ref ss1), .val (.ref ss2)] [])) _
    refine XS.aloadN X0.here hx rfl (hb hby D15_13) rfl rfl ?_
    show Steps p.tables e below (s₁.setTop (mkF m 14 #[.val (.ref ss1), .val (.ref ss2)] [(.ref ss2)])) _
    exact st1.trans kk
  obtain ⟨cq3, kq3, q3a, q3b, q3c⟩ := isOf hZ e1q xE1
  obtain ⟨_, _, ⟨T3, L3, k3, n3⟩, -, X3, ⟨Lc3, hQ3, l3, y3, z3⟩, st3⟩ := X1.virtualBack hx (y := (⟨"java/lang/String", "length", "()I"⟩ : MethodName)) (z := (⟨"java/lang/String", "length", "()I"⟩ : MethodName)) hown (mvT hZ (gw hw 72 rfl)) (mvT hZ (gw hw 35 rfl)) (notFace_of_selects (args := #[]) (mvT hZ (gw hw 37 rfl))) (mvT hZ (gw hw 37 rfl)) (mvT hZ (gw hw 36 rfl)) (by decide) (backOf (W := 1) (own_slen l Z a0 hw [] ss1 nb1 kk1 (4 : Int32) [(.int 104), (.int 116), (.int 116), (.int 112)] G1 h0 n0 Z0 xE1 xF1 xC1 xV1 O2 P5 XO) hZ (gw hw 38 rfl) (gw hw 10 rfl) (by decide) (by decide)) q3a q3c (g := (mkF m 18 #[.val (.ref ss1), .val (.ref ss2)] [(.ref ss1), (.int (Int32.ofNat cs.length))])) rfl (by rw [hml]; rfl) (Steps.refl _) (argsL := []) (rest := [(.int (Int32.ofNat cs.length))]) (lenOf pd___I rfl) rfl (by show 2 * 0 + _ ≤ _; exact Nat.le_of_eq rfl) (hb hby D15_18) (fun _ _ => ⟨rfl, e1q, (by decide : 0 + 0 ≤ _), (by decide : 0 + 0 ≤ _)⟩)
  dsimp only [Pt.U, Pt.locs, Pt.cells, Pt.slots] at X3 l3 y3 z3 st3 hQ3
  subst l3 y3 z3
  obtain ⟨rfl, N3q, e3q⟩ := hQ3
  have N3 := Fr.app N1 N3q
  have pre4 : ∀ t, Steps p.tables e below (T3.setTop (mkF m 21 #[.val (.ref ss1), .val (.ref ss2)] [(.int 4), (.int (Int32.ofNat cs.length))])) t → Steps p.tables e below (s₁.setTop (entryFrame m #[(.ref ss1), (.ref ss2)] 2)) t := by
    intro t kk
    refine pre2 t ?_
    show Steps p.tables e below (T1.setTop (mkF m 17 #[.val (.ref ss1), .val (.ref ss2)] [(.int (Int32.ofNat cs.length))])) _
    refine XS.aloadN X1.here hx rfl (hb hby D15_17) rfl rfl ?_
    show Steps p.tables e below (T1.setTop (mkF m 18 #[.val (.ref ss1), .val (.ref ss2)] [(.ref ss1), (.int (Int32.ofNat cs.length))])) _
    exact st3.trans kk
  by_cases hlen : (Int32.ofNat cs.length) = (4 : Int32)
  case pos =>
    have hl' : cs.length = 4 ↔ (Int32.ofNat cs.length) = (4 : Int32) := by
      have o := (own_on (n := cs.length) (by omega)).1
      have k : (4 : Int32).toInt = 4 := by decide
      constructor
      · intro q; rw [q]; rfl
      · intro q; rw [q] at o; omega
    have hl2 := hl'.mpr hlen
    obtain ⟨d0, d1, d2, d3, hcs⟩ : ∃ d0 d1 d2 d3 : Int32, cs = [d0, d1, d2, d3] := by
      match cs, hl2 with
      | [d0, d1, d2, d3], _ => exact ⟨d0, d1, d2, d3, rfl⟩
    have xV2' : Arv Z h0 nb2 kk2 .byte (4 : Int32) (own_B [d0, d1, d2, d3]) (.int 0) := by
      have q := xV2
      rw [hcs] at q
      exact q
    obtain ⟨cq5, kq5, q5a, q5b, q5c⟩ := isOf hZ e3q xE1
    obtain ⟨_, _, ⟨T5, L5, k5, n5⟩, -, X5, ⟨Lc5, hQ5, l5, y5, z5⟩, st5⟩ := X3.virtualBack hx (y := (⟨"java/lang/String", "length", "()I"⟩ : MethodName)) (z := (⟨"java/lang/String", "length", "()I"⟩ : MethodName)) hown (mvT hZ (gw hw 72 rfl)) (mvT hZ (gw hw 35 rfl)) (notFace_of_selects (args := #[]) (mvT hZ (gw hw 37 rfl))) (mvT hZ (gw hw 37 rfl)) (mvT hZ (gw hw 36 rfl)) (by decide) (backOf (W := 5) (own_slen l Z a0 hw [] ss1 nb1 kk1 (4 : Int32) [(.int 104), (.int 116), (.int 116), (.int 112)] G1 h0 n0 Z0 xE1 xF1 xC1 xV1 O2 P5 XO) hZ (gw hw 38 rfl) (gw hw 10 rfl) (by decide) (by decide)) q5a q5c (g := (mkF m 30 #[.val (.ref ss1), .val (.ref ss2)] [(.ref ss1), (.int 0), (.ref ss2), (.int 0), (.int 1), (.ref ss1)])) rfl (by rw [hml]; rfl) (Steps.refl _) (argsL := []) (rest := [(.int 0), (.ref ss2), (.int 0), (.int 1), (.ref ss1)]) (lenOf pd___I rfl) rfl (by show 2 * 0 + _ ≤ _; exact Nat.le_of_eq rfl) (hb hby D15_30) (fun _ _ => ⟨rfl, e3q, (by decide : 0 + 0 ≤ _), (by decide : 0 + 0 ≤ _)⟩)
    dsimp only [Pt.U, Pt.locs, Pt.cells, Pt.slots] at X5 l5 y5 z5 st5 hQ5
    subst l5 y5 z5
    obtain ⟨rfl, N5q, e5q⟩ := hQ5
    have N5 := Fr.app N3 N5q
    have pre6 : ∀ t, Steps p.tables e below (T5.setTop (mkF m 33 #[.val (.ref ss1), .val (.ref ss2)] [(.int 4), (.int 0), (.ref ss2), (.int 0), (.int 1), (.ref ss1)])) t → Steps p.tables e below (s₁.setTop (entryFrame m #[(.ref ss1), (.ref ss2)] 2)) t := by
      intro t kk
      refine pre4 t ?_
      show Steps p.tables e below (T3.setTop (mkF m 21 #[.val (.ref ss1), .val (.ref ss2)] [(.int 4), (.int (Int32.ofNat cs.length))])) _
      refine XS.icmpNo X3.here hx rfl (hb hby D15_21) rfl (teq hlen).2 ?_
      show Steps p.tables e below (T3.setTop (mkF m 24 #[.val (.ref ss1), .val (.ref ss2)] [])) _
      refine XS.aloadN X3.here hx rfl (hb hby D15_24) rfl rfl ?_
      show Steps p.tables e below (T3.setTop (mkF m 25 #[.val (.ref ss1), .val (.ref ss2)] [(.ref ss1)])) _
      refine XS.iconst X3.here hx rfl (hb hby D15_25) ?_
      show Steps p.tables e below (T3.setTop (mkF m 26 #[.val (.ref ss1), .val (.ref ss2)] [(.int 1), (.ref ss1)])) _
      refine XS.iconst X3.here hx rfl (hb hby D15_26) ?_
      show Steps p.tables e below (T3.setTop (mkF m 27 #[.val (.ref ss1), .val (.ref ss2)] [(.int 0), (.int 1), (.ref ss1)])) _
      refine XS.aloadN X3.here hx rfl (hb hby D15_27) rfl rfl ?_
      show Steps p.tables e below (T3.setTop (mkF m 28 #[.val (.ref ss1), .val (.ref ss2)] [(.ref ss2), (.int 0), (.int 1), (.ref ss1)])) _
      refine XS.iconst X3.here hx rfl (hb hby D15_28) ?_
      show Steps p.tables e below (T3.setTop (mkF m 29 #[.val (.ref ss1), .val (.ref ss2)] [(.int 0), (.ref ss2), (.int 0), (.int 1), (.ref ss1)])) _
      refine XS.aloadN X3.here hx rfl (hb hby D15_29) rfl rfl ?_
      show Steps p.tables e below (T3.setTop (mkF m 30 #[.val (.ref ss1), .val (.ref ss2)] [(.ref ss1), (.int 0), (.ref ss2), (.int 0), (.int 1), (.ref ss1)])) _
      exact st5.trans kk
    obtain ⟨cq7, kq7, q7a, q7b, q7c⟩ := isOf hZ e5q xE1
    obtain ⟨_, _, ⟨T7, L7, k7, n7⟩, -, X7, ⟨Lc7, hQ7, l7, y7, z7⟩, st7⟩ := X5.virtualBack hx (y := (⟨"java/lang/String", "regionMatches", "(ZILjava/lang/String;II)Z"⟩ : MethodName)) (z := (⟨"java/lang/String", "regionMatches", "(ZILjava/lang/String;II)Z"⟩ : MethodName)) hown (mvT hZ (gw hw 118 rfl)) (mvT hZ (gw hw 119 rfl)) (notFace_of_selects (args := #[]) (mvT hZ (gw hw 121 rfl))) (mvT hZ (gw hw 121 rfl)) (mvT hZ (gw hw 120 rfl)) (by decide) (backOf (W := 0) (own_rm4 l Z a0 hw [] ss1 ss2 nb1 nb2 kk1 kk2 d0 d1 d2 d3 G1 h0 n0 Z0 xE1 xF1 xC1 xV1 xE2 xF2 xC2 xV2' O2 P5 XO) hZ (gw hw 122 rfl) (gw hw 10 rfl) (by decide) (by decide)) q7a q7c (g := (mkF m 33 #[.val (.ref ss1), .val (.ref ss2)] [(.int 4), (.int 0), (.ref ss2), (.int 0), (.int 1), (.ref ss1)])) rfl (by rw [hml]; rfl) (Steps.refl _) (argsL := [(.int 1), (.int 0), (.ref ss2), (.int 0), (.int 4)]) (rest := []) (lenOf pd__ZILjava_lang_String_II_Z rfl) rfl (by show 2 * 0 + _ ≤ _; exact Nat.le_of_eq rfl) (hb hby D15_33) (fun _ _ => ⟨rfl, e5q, (by decide : 0 + 0 ≤ _), (by decide : 0 + 0 ≤ _)⟩)
    dsimp only [Pt.U, Pt.locs, Pt.cells, Pt.slots] at X7 l7 y7 z7 st7 hQ7
    subst l7 y7 z7
    obtain ⟨rr, rfl, N7q, e7q, ra, rb⟩ := hQ7
    have N7 := Fr.app N5 N7q
    have pre8 : ∀ t, Steps p.tables e below (T7.setTop (mkF m 36 #[.val (.ref ss1), .val (.ref ss2)] [(.int rr)])) t → Steps p.tables e below (s₁.setTop (entryFrame m #[(.ref ss1), (.ref ss2)] 2)) t := by
      intro t kk
      refine pre6 t ?_
      show Steps p.tables e below (T5.setTop (mkF m 33 #[.val (.ref ss1), .val (.ref ss2)] [(.int 4), (.int 0), (.ref ss2), (.int 0), (.int 1), (.ref ss1)])) _
      exact st7.trans kk
    have hE : own_E4 ([104, 116, 116, 112] : List Int32) cs ↔ (own_M (104 : Int32) d0 ∧ own_M (116 : Int32) d1 ∧ own_M (116 : Int32) d2 ∧ own_M (112 : Int32) d3) := by
      rw [hcs]
      constructor
      · intro q; exact ⟨q.2 0 (by decide), q.2 1 (by decide), q.2 2 (by decide), q.2 3 (by decide)⟩
      · intro q
        obtain ⟨q0, q1, q2, q3⟩ := q
        refine ⟨rfl, fun i hi => ?_⟩
        match i, hi with
        | 0, _ => exact q0
        | 1, _ => exact q1
        | 2, _ => exact q2
        | 3, _ => exact q3
    by_cases hm : own_M (104 : Int32) d0 ∧ own_M (116 : Int32) d1 ∧ own_M (116 : Int32) d2 ∧ own_M (112 : Int32) d3
    case pos =>
      have hd9 : ¬ (rr = (0 : Int32)) := by rw [ra hm]; decide
      obtain ⟨fs, hr, hrun, hended, hW, hsame⟩ := X7.leave (v := some (.int 1)) (fun h => by rw [Bd.returns] at h; cases h)
      refine ⟨_, _, pre8 _ ?_, hrun, hended, _, _, rfl, ?_, ⟨_, rfl⟩, hW, hsame.mono (by decide) (by decide)⟩
      · show Steps p.tables e below (T7.setTop (mkF m 36 #[.val (.ref ss1), .val (.ref ss2)] [(.int rr)])) _
        refine XS.ifNo X7.here hx rfl (hb hby D15_36) rfl ((if0 _ _).trans (feq hd9).1) ?_
        show Steps p.tables e below (T7.setTop (mkF m 39 #[.val (.ref ss1), .val (.ref ss2)] [])) _
        refine XS.iconst X7.here hx rfl (hb hby D15_39) ?_
        show Steps p.tables e below (T7.setTop (mkF m 40 #[.val (.ref ss1), .val (.ref ss2)] [(.int 1)])) _
        refine XS.goto X7.here hx rfl (pc0 := 40) (pc' := 44) rfl (hb hby D15_40) (by decide) (by decide) ?_
        show Steps p.tables e below (T7.setTop (mkF m 44 #[.val (.ref ss1), .val (.ref ss2)] [(.int 1)])) _
        exact retN X7 hx (t := .boolean) Bd.returns (by simp) (hb hby D15_44) hr
      · show Q_own_ei4 Z ss1 ss2 nb1 nb2 kk1 kk2 cs G1 h0 n0 _ T7.heap _
        rw [e7q]
        exact ⟨1, rfl, N7, rfl, fun _ => rfl, fun q => absurd (hE.mpr hm) q⟩
    case neg =>
      have hd10 : rr = (0 : Int32) := rb hm
      obtain ⟨fs, hr, hrun, hended, hW, hsame⟩ := X7.leave (v := some (.int 0)) (fun h => by rw [Bd.returns] at h; cases h)
      refine ⟨_, _, pre8 _ ?_, hrun, hended, _, _, rfl, ?_, ⟨_, rfl⟩, hW, hsame.mono (by decide) (by decide)⟩
      · show Steps p.tables e below (T7.setTop (mkF m 36 #[.val (.ref ss1), .val (.ref ss2)] [(.int rr)])) _
        refine XS.ifYes X7.here hx rfl (pc0 := 36) (pc' := 43) rfl (hb hby D15_36) rfl ((if0 _ _).trans (teq hd10).1) (by decide) (by decide) ?_
        show Steps p.tables e below (T7.setTop (mkF m 43 #[.val (.ref ss1), .val (.ref ss2)] [])) _
        refine XS.iconst X7.here hx rfl (hb hby D15_43) ?_
        show Steps p.tables e below (T7.setTop (mkF m 44 #[.val (.ref ss1), .val (.ref ss2)] [(.int 0)])) _
        exact retN X7 hx (t := .boolean) Bd.returns (by simp) (hb hby D15_44) hr
      · show Q_own_ei4 Z ss1 ss2 nb1 nb2 kk1 kk2 cs G1 h0 n0 _ T7.heap _
        rw [e7q]
        exact ⟨0, rfl, N7, rfl, fun q => absurd (hE.mp q) hm, fun _ => rfl⟩
  case neg =>
    have hl' : cs.length = 4 ↔ (Int32.ofNat cs.length) = (4 : Int32) := by
      have o := (own_on (n := cs.length) (by omega)).1
      have k : (4 : Int32).toInt = 4 := by decide
      constructor
      · intro q; rw [q]; rfl
      · intro q; rw [q] at o; omega
    obtain ⟨fs, hr, hrun, hended, hW, hsame⟩ := X3.leave (v := some (.int 0)) (fun h => by rw [Bd.returns] at h; cases h)
    refine ⟨_, _, pre4 _ ?_, hrun, hended, _, _, rfl, ?_, ⟨_, rfl⟩, hW, hsame.mono (by decide) (by decide)⟩
    · show Steps p.tables e below (T3.setTop (mkF m 21 #[.val (.ref ss1), .val (.ref ss2)] [(.int 4), (.int (Int32.ofNat cs.length))])) _
      refine XS.icmpYes X3.here hx rfl (pc0 := 21) (pc' := 43) rfl (hb hby D15_21) rfl (feq hlen).2 (by decide) (by decide) ?_
      show Steps p.tables e below (T3.setTop (mkF m 43 #[.val (.ref ss1), .val (.ref ss2)] [])) _
      refine XS.iconst X3.here hx rfl (hb hby D15_43) ?_
      show Steps p.tables e below (T3.setTop (mkF m 44 #[.val (.ref ss1), .val (.ref ss2)] [(.int 0)])) _
      exact retN X3 hx (t := .boolean) Bd.returns (by simp) (hb hby D15_44) hr
    · show Q_own_ei4 Z ss1 ss2 nb1 nb2 kk1 kk2 cs G1 h0 n0 _ T3.heap _
      rw [e3q]
      exact ⟨0, rfl, N3, rfl, fun q => absurd (hl'.mp q.1) hlen, fun _ => rfl⟩
theorem ef_own_rci5 (m : MethodId) {nb1 : Addr} {nb2 : Addr} : entryFrame m #[(.ref nb1), (.int 0), (.ref nb2), (.int 0), (.int 5)] 8 = mkF m 0 #[.val (.ref nb1), .val (.int 0), .val (.ref nb2), .val (.int 0), .val (.int 5), .unset, .unset, .unset] [] := by first | (simp [entryFrame, mkF, argsToLocals, Value.category]; done) | rfl
def Q_own_rci5 (Z : State) (nb1 nb2 : Addr) (kk1 kk2 : ClassId) (d0 d1 d2 d3 d4 : Int32) (h0 : Heap) (n0 : Nat) (v : Option Value) (h : Heap) (L : List Loc) : Prop := ∃ r : Int32, v = some (.int r) ∧ Fr n0 L ∧ h = h0 ∧ ((own_M (104 : Int32) d0 ∧ own_M (116 : Int32) d1 ∧ own_M (116 : Int32) d2 ∧ own_M (112 : Int32) d3 ∧ own_M (115 : Int32) d4) → r = 1) ∧ (¬ (own_M (104 : Int32) d0 ∧ own_M (116 : Int32) d1 ∧ own_M (116 : Int32) d2 ∧ own_M (112 : Int32) d3 ∧ own_M (115 : Int32) d4) → r = 0)
set_option maxRecDepth 65536 in
set_option maxHeartbeats 40000000 in
theorem own_rci5 (l : Launch) (Z : State) (a0 : Array Value) (hw : ∀ d ∈ tables_1, d.before a0 Z = true) (ws : List Jvm.Cond) (nb1 nb2 : Addr) (kk1 kk2 : ClassId) (d0 d1 d2 d3 d4 : Int32) (h0 : Heap) (n0 : Nat) (Z0 : n0 ≤ h0.size) (xV1 : Arv Z h0 nb1 kk1 .byte (5 : Int32) [(.int 104), (.int 116), (.int 116), (.int 112), (.int 115)] (.int 0)) (xV2 : Arv Z h0 nb2 kk2 .byte (5 : Int32) (own_B [d0, d1, d2, d3, d4]) (.int 0)) :
    MetFree l (⟨"java/lang/StringLatin1", "regionMatchesCI", "([BI[BII)Z"⟩ : MethodName) (head1 (Jvm.Cond.code (⟨"java/lang/StringLatin1", "regionMatchesCI", "([BI[BII)Z"⟩ : MethodName) jdk_43_method_30_code 8 (some .boolean) :: ws) ({ frames := 1, cells := 0, slots := 0, locals := 14 } : Room)) (fun a U => a = #[(.ref nb1), (.int 0), (.ref nb2), (.int 0), (.int 5)] ∧ Z.Warmed39 U.vm ∧ U.heap = h0) (fun _ _ _ _ _ => True) (fun _ U o U' => ∃ v L, o = .returned v ∧ Q_own_rci5 Z nb1 nb2 kk1 kk2 d0 d1 d2 d3 d4 h0 n0 v U'.heap L ∧ FrameEnd U o U' L ({ frames := 1, cells := 0, slots := 0, locals := 14 } : Room).cells ({ frames := 1, cells := 0, slots := 0, locals := 14 } : Room).slots) := by
  refine MetFree.of_bodySF (plainFor_of_name pn_java_lang_StringLatin1) hisR ?_
  intro p e s m args below meth c s₁ Bd hml0 hP hK
  obtain ⟨rfl, hZ, hh⟩ := hP
  have hx := Bd.exec
  have hby := Bd.bytes
  have hml : c.maxLocals = 8 := hml0
  have hown : s.vm.findClass "java/lang/StringLatin1" = some m.cls := findClass_of_methodNamed Bd.named
  have hnm := (name_of_methodNamed Bd.named Bd.method).1
  have X0 : Stand p l e ({ frames := 1, cells := 0, slots := 0, locals := 14 } : Room) s m #[(.ref nb1), (.int 0), (.ref nb2), (.int 0), (.int 5)] below meth c s₁ [] 0 0 := Stand.of_body Bd
  have e0 : s₁.heap = h0 := by rw [← hh, Bd.state]; rfl
  have N0 := Fr.nil n0
  have pre0 : ∀ t, Steps p.tables e below (s₁.setTop (mkF m 0 #[.val (.ref nb1), .val (.int 0), .val (.ref nb2), .val (.int 0), .val (.int 5), .unset, .unset, .unset] [])) t → Steps p.tables e below (s₁.setTop (entryFrame m #[(.ref nb1), (.int 0), (.ref nb2), (.int 0), (.int 5)] 8)) t := fun t k => castTop (ef_own_rci5 m) k
  have hd1 : (0 : Int32) < ((0 : Int32) + (5 : Int32)) := by decide
  obtain ⟨cl2, Ar2, q2, S2, M2, H2, G2⟩ := id xV1
  have hin3 : ¬ ((0 : Int32) < 0 ∨ cl2.slots.size ≤ ((0 : Int32)).toNatClampNeg) := inb_of S2 ⟨by decide, by decide⟩
  have hat3 : cl2.slots[((0 : Int32)).toNatClampNeg]? = some (.int 104) := Has.at H2 (inb_of S2 ⟨by decide, by decide⟩) rfl
  obtain ⟨cl4, Ar4, q4, S4, M4, H4, G4⟩ := id xV2
  have hin5 : ¬ ((0 : Int32) < 0 ∨ cl4.slots.size ≤ ((0 : Int32)).toNatClampNeg) := inb_of S4 ⟨by decide, by decide⟩
  have hat5 : cl4.slots[((0 : Int32)).toNatClampNeg]? = some (.int d0.toInt8.toInt32) := Has.at H4 (inb_of S4 ⟨by decide, by decide⟩) rfl
  obtain ⟨_, _, ⟨T6, L6, k6, n6⟩, -, X6, ⟨Lc6, hQ6, l6, y6, z6⟩, st6⟩ := Jvm.LawKit.callS X0 hx (y := (⟨"java/lang/CharacterDataLatin1", "equalsIgnoreCase", "(BB)Z"⟩ : MethodName)) hown (mvT hZ (gw hw 126 rfl)) (mvT hZ (gw hw 127 rfl)) (mvT hZ (gw hw 128 rfl)) (mvT hZ (gw hw 129 rfl)) (by decide) (backOf (W := 0) (own_eic l Z a0 hw [] (104 : Int32) d0.toInt8.toInt32 h0 n0 Z0 (by decide) (by decide)) hZ (gw hw 129 rfl) (gw hw 128 rfl) (by decide) (by decide)) (g := (mkF m 32 #[.val (.ref nb1), .val (.int ((0 : Int32) + (1 : Int32))), .val (.ref nb2), .val (.int ((0 : Int32) + (1 : Int32))), .val (.int 5), .val (.int ((0 : Int32) + (5 : Int32))), .val (.int 104), .val (.int d0.toInt8.toInt32)] [(.int d0.toInt8.toInt32), (.int 104)])) rfl (by rw [hml]; rfl) (argsL := [(.int 104), (.int d0.toInt8.toInt32)]) (rest := []) (lenOf pd__BB_Z rfl) rfl (by show 2 * 0 + _ ≤ _; exact Nat.le_of_eq rfl) (hb hby D13_32) (fun _ _ => ⟨rfl, e0, (by decide : 0 + 0 ≤ _), (by decide : 0 + 0 ≤ _)⟩)
  dsimp only [Pt.U, Pt.locs, Pt.cells, Pt.slots] at X6 l6 y6 z6 st6 hQ6
  subst l6 y6 z6
  obtain ⟨rr0, rfl, N6q, e6q, ra0, rb0⟩ := hQ6
  have N6 := Fr.app N0 N6q
  have pre7 : ∀ t, Steps p.tables e below (T6.setTop (mkF m 35 #[.val (.ref nb1), .val (.int ((0 : Int32) + (1 : Int32))), .val (.ref nb2), .val (.int ((0 : Int32) + (1 : Int32))), .val (.int 5), .val (.int ((0 : Int32) + (5 : Int32))), .val (.int 104), .val (.int d0.toInt8.toInt32)] [(.int rr0)])) t → Steps p.tables e below (s₁.setTop (entryFrame m #[(.ref nb1), (.int 0), (.ref nb2), (.int 0), (.int 5)] 8)) t := by
    intro t kk
    refine pre0 t ?_
    show Steps p.tables e below (s₁.setTop (mkF m 0 #[.val (.ref nb1), .val (.int 0), .val (.ref nb2), .val (.int 0), .val (.int 5), .unset, .unset, .unset] [])) _
    refine XS.iloadN X0.here hx rfl (hb hby D13_0) rfl ?_
    show Steps p.tables e below (s₁.setTop (mkF m 1 #[.val (.ref nb1), .val (.int 0), .val (.ref nb2), .val (.int 0), .val (.int 5), .unset, .unset, .unset] [(.int 0)])) _
    refine XS.iload X0.here hx rfl (hb hby D13_1) rfl ?_
    show Steps p.tables e below (s₁.setTop (mkF m 3 #[.val (.ref nb1), .val (.int 0), .val (.ref nb2), .val (.int 0), .val (.int 5), .unset, .unset, .unset] [(.int 5), (.int 0)])) _
    refine XS.iadd X0.here hx rfl (hb hby D13_3) rfl ?_
    show Steps p.tables e below (s₁.setTop (mkF m 4 #[.val (.ref nb1), .val (.int 0), .val (.ref nb2), .val (.int 0), .val (.int 5), .unset, .unset, .unset] [(.int ((0 : Int32) + (5 : Int32)))])) _
    refine XS.istore X0.here hx rfl (hb hby D13_4) rfl (l' := #[.val (.ref nb1), .val (.int 0), .val (.ref nb2), .val (.int 0), .val (.int 5), .val (.int ((0 : Int32) + (5 : Int32))), .unset, .unset]) rfl ?_
    show Steps p.tables e below (s₁.setTop (mkF m 6 #[.val (.ref nb1), .val (.int 0), .val (.ref nb2), .val (.int 0), .val (.int 5), .val (.int ((0 : Int32) + (5 : Int32))), .unset, .unset] [])) _
    refine XS.iloadN X0.here hx rfl (hb hby D13_6) rfl ?_
    show Steps p.tables e below (s₁.setTop (mkF m 7 #[.val (.ref nb1), .val (.int 0), .val (.ref nb2), .val (.int 0), .val (.int 5), .val (.int ((0 : Int32) + (5 : Int32))), .unset, .unset] [(.int 0)])) _
    refine XS.iload X0.here hx rfl (hb hby D13_7) rfl ?_
    show Steps p.tables e below (s₁.setTop (mkF m 9 #[.val (.ref nb1), .val (.int 0), .val (.ref nb2), .val (.int 0), .val (.int 5), .val (.int ((0 : Int32) + (5 : Int32))), .unset, .unset] [(.int ((0 : Int32) + (5 : Int32))), (.int 0)])) _
    refine XS.icmpNo X0.here hx rfl (hb hby D13_9) rfl (tlt hd1).2.1 ?_
    show Steps p.tables e below (s₁.setTop (mkF m 12 #[.val (.ref nb1), .val (.int 0), .val (.ref nb2), .val (.int 0), .val (.int 5), .val (.int ((0 : Int32) + (5 : Int32))), .unset, .unset] [])) _
    refine XS.aloadN X0.here hx rfl (hb hby D13_12) rfl rfl ?_
    show Steps p.tables e below (s₁.setTop (mkF m 13 #[.val (.ref nb1), .val (.int 0), .val (.ref nb2), .val (.int 0), .val (.int 5), .val (.int ((0 : Int32) + (5 : Int32))), .unset, .unset] [(.ref nb1)])) _
    refine XS.iloadN X0.here hx rfl (hb hby D13_13) rfl ?_
    show Steps p.tables e below (s₁.setTop (mkF m 14 #[.val (.ref nb1), .val (.int 0), .val (.ref nb2), .val (.int 0), .val (.int 5), .val (.int ((0 : Int32) + (5 : Int32))), .unset, .unset] [(.int 0), (.ref nb1)])) _
    refine XS.iinc X0.here hx rfl (hb hby D13_14) rfl (l' := #[.val (.ref nb1), .val (.int ((0 : Int32) + (1 : Int32))), .val (.ref nb2), .val (.int 0), .val (.int 5), .val (.int ((0 : Int32) + (5 : Int32))), .unset, .unset]) rfl ?_
    show Steps p.tables e below (s₁.setTop (mkF m 17 #[.val (.ref nb1), .val (.int ((0 : Int32) + (1 : Int32))), .val (.ref nb2), .val (.int 0), .val (.int 5), .val (.int ((0 : Int32) + (5 : Int32))), .unset, .unset] [(.int 0), (.ref nb1)])) _
    refine X0.baloadBytes hx (j := (0 : Int32)) (v := (.int 104)) (by rw [e0]; exact Ar2.1) (State.isArrayOf_alike hZ.alike Ar2.2.1) Ar2.2.2 hin3 hat3 (g := (mkF m 17 #[.val (.ref nb1), .val (.int ((0 : Int32) + (1 : Int32))), .val (.ref nb2), .val (.int 0), .val (.int 5), .val (.int ((0 : Int32) + (5 : Int32))), .unset, .unset] [(.int 0), (.ref nb1)])) rfl rfl (hb hby D13_17) _ ?_
    show Steps p.tables e below (s₁.setTop (mkF m 18 #[.val (.ref nb1), .val (.int ((0 : Int32) + (1 : Int32))), .val (.ref nb2), .val (.int 0), .val (.int 5), .val (.int ((0 : Int32) + (5 : Int32))), .unset, .unset] [(.int 104)])) _
    refine XS.istore X0.here hx rfl (hb hby D13_18) rfl (l' := #[.val (.ref nb1), .val (.int ((0 : Int32) + (1 : Int32))), .val (.ref nb2), .val (.int 0), .val (.int 5), .val (.int ((0 : Int32) + (5 : Int32))), .val (.int 104), .unset]) rfl ?_
    show Steps p.tables e below (s₁.setTop (mkF m 20 #[.val (.ref nb1), .val (.int ((0 : Int32) + (1 : Int32))), .val (.ref nb2), .val (.int 0), .val (.int 5), .val (.int ((0 : Int32) + (5 : Int32))), .val (.int 104), .unset] [])) _
    refine XS.aloadN X0.here hx rfl (hb hby D13_20) rfl rfl ?_
    show Steps p.tables e below (s₁.setTop (mkF m 21 #[.val (.ref nb1), .val (.int ((0 : Int32) + (1 : Int32))), .val (.ref nb2), .val (.int 0), .val (.int 5), .val (.int ((0 : Int32) + (5 : Int32))), .val (.int 104), .unset] [(.ref nb2)])) _
    refine XS.iloadN X0.here hx rfl (hb hby D13_21) rfl ?_
    show Steps p.tables e below (s₁.setTop (mkF m 22 #[.val (.ref nb1), .val (.int ((0 : Int32) + (1 : Int32))), .val (.ref nb2), .val (.int 0), .val (.int 5), .val (.int ((0 : Int32) + (5 : Int32))), .val (.int 104), .unset] [(.int 0), (.ref nb2)])) _
    refine XS.iinc X0.here hx rfl (hb hby D13_22) rfl (l' := #[.val (.ref nb1), .val (.int ((0 : Int32) + (1 : Int32))), .val (.ref nb2), .val (.int ((0 : Int32) + (1 : Int32))), .val (.int 5), .val (.int ((0 : Int32) + (5 : Int32))), .val (.int 104), .unset]) rfl ?_
    show Steps p.tables e below (s₁.setTop (mkF m 25 #[.val (.ref nb1), .val (.int ((0 : Int32) + (1 : Int32))), .val (.ref nb2), .val (.int ((0 : Int32) + (1 : Int32))), .val (.int 5), .val (.int ((0 : Int32) + (5 : Int32))), .val (.int 104), .unset] [(.int 0), (.ref nb2)])) _
    refine X0.baloadBytes hx (j := (0 : Int32)) (v := (.int d0.toInt8.toInt32)) (by rw [e0]; exact Ar4.1) (State.isArrayOf_alike hZ.alike Ar4.2.1) Ar4.2.2 hin5 hat5 (g := (mkF m 25 #[.val (.ref nb1), .val (.int ((0 : Int32) + (1 : Int32))), .val (.ref nb2), .val (.int ((0 : Int32) + (1 : Int32))), .val (.int 5), .val (.int ((0 : Int32) + (5 : Int32))), .val (.int 104), .unset] [(.int 0), (.ref nb2)])) rfl rfl (hb hby D13_25) _ ?_
    show Steps p.tables e below (s₁.setTop (mkF m 26 #[.val (.ref nb1), .val (.int ((0 : Int32) + (1 : Int32))), .val (.ref nb2), .val (.int ((0 : Int32) + (1 : Int32))), .val (.int 5), .val (.int ((0 : Int32) + (5 : Int32))), .val (.int 104), .unset] [(.int d0.toInt8.toInt32)])) _
    refine XS.istore X0.here hx rfl (hb hby D13_26) rfl (l' := #[.val (.ref nb1), .val (.int ((0 : Int32) + (1 : Int32))), .val (.ref nb2), .val (.int ((0 : Int32) + (1 : Int32))), .val (.int 5), .val (.int ((0 : Int32) + (5 : Int32))), .val (.int 104), .val (.int d0.toInt8.toInt32)]) rfl ?_
    show Steps p.tables e below (s₁.setTop (mkF m 28 #[.val (.ref nb1), .val (.int ((0 : Int32) + (1 : Int32))), .val (.ref nb2), .val (.int ((0 : Int32) + (1 : Int32))), .val (.int 5), .val (.int ((0 : Int32) + (5 : Int32))), .val (.int 104), .val (.int d0.toInt8.toInt32)] [])) _
    refine XS.iload X0.here hx rfl (hb hby D13_28) rfl ?_
    show Steps p.tables e below (s₁.setTop (mkF m 30 #[.val (.ref nb1), .val (.int ((0 : Int32) + (1 : Int32))), .val (.ref nb2), .val (.int ((0 : Int32) + (1 : Int32))), .val (.int 5), .val (.int ((0 : Int32) + (5 : Int32))), .val (.int 104), .val (.int d0.toInt8.toInt32)] [(.int 104)])) _
    refine XS.iload X0.here hx rfl (hb hby D13_30) rfl ?_
    show Steps p.tables e below (s₁.setTop (mkF m 32 #[.val (.ref nb1), .val (.int ((0 : Int32) + (1 : Int32))), .val (.ref nb2), .val (.int ((0 : Int32) + (1 : Int32))), .val (.int 5), .val (.int ((0 : Int32) + (5 : Int32))), .val (.int 104), .val (.int d0.toInt8.toInt32)] [(.int d0.toInt8.toInt32), (.int 104)])) _
    exact st6 _ kk
  by_cases hm0 : own_M (104 : Int32) d0
  case pos =>
    have hd8 : ¬ (rr0 = (0 : Int32)) := by rw [ra0 hm0]; decide
    have hd9 : ((0 : Int32) + (1 : Int32)) < ((0 : Int32) + (5 : Int32)) := by decide
    obtain ⟨cl10, Ar10, q10, S10, M10, H10, G10⟩ := id xV1
    have hin11 : ¬ (((0 : Int32) + (1 : Int32)) < 0 ∨ cl10.slots.size ≤ (((0 : Int32) + (1 : Int32))).toNatClampNeg) := inb_of S10 ⟨by decide, by decide⟩
    have hat11 : cl10.slots[(((0 : Int32) + (1 : Int32))).toNatClampNeg]? = some (.int 116) := Has.at H10 (inb_of S10 ⟨by decide, by decide⟩) rfl
    obtain ⟨cl12, Ar12, q12, S12, M12, H12, G12⟩ := id xV2
    have hin13 : ¬ (((0 : Int32) + (1 : Int32)) < 0 ∨ cl12.slots.size ≤ (((0 : Int32) + (1 : Int32))).toNatClampNeg) := inb_of S12 ⟨by decide, by decide⟩
    have hat13 : cl12.slots[(((0 : Int32) + (1 : Int32))).toNatClampNeg]? = some (.int d1.toInt8.toInt32) := Has.at H12 (inb_of S12 ⟨by decide, by decide⟩) rfl
    obtain ⟨_, _, ⟨T14, L14, k14, n14⟩, -, X14, ⟨Lc14, hQ14, l14, y14, z14⟩, st14⟩ := Jvm.LawKit.callS X6 hx (y := (⟨"java/lang/CharacterDataLatin1", "equalsIgnoreCase", "(BB)Z"⟩ : MethodName)) hown (mvT hZ (gw hw 126 rfl)) (mvT hZ (gw hw 127 rfl)) (mvT hZ (gw hw 128 rfl)) (mvT hZ (gw hw 129 rfl)) (by decide) (backOf (W := 0) (own_eic l Z a0 hw [] (116 : Int32) d1.toInt8.toInt32 h0 n0 Z0 (by decide) (by decide)) hZ (gw hw 129 rfl) (gw hw 128 rfl) (by decide) (by decide)) (g := (mkF m 32 #[.val (.ref nb1), .val (.int (((0 : Int32) + (1 : Int32)) + (1 : Int32))), .val (.ref nb2), .val (.int (((0 : Int32) + (1 : Int32)) + (1 : Int32))), .val (.int 5), .val (.int ((0 : Int32) + (5 : Int32))), .val (.int 116), .val (.int d1.toInt8.toInt32)] [(.int d1.toInt8.toInt32), (.int 116)])) rfl (by rw [hml]; rfl) (argsL := [(.int 116), (.int d1.toInt8.toInt32)]) (rest := []) (lenOf pd__BB_Z rfl) rfl (by show 2 * 0 + _ ≤ _; exact Nat.le_of_eq rfl) (hb hby D13_32) (fun _ _ => ⟨rfl, e6q, (by decide : 0 + 0 ≤ _), (by decide : 0 + 0 ≤ _)⟩)
    dsimp only [Pt.U, Pt.locs, Pt.cells, Pt.slots] at X14 l14 y14 z14 st14 hQ14
    subst l14 y14 z14
    obtain ⟨rr1, rfl, N14q, e14q, ra1, rb1⟩ := hQ14
    have N14 := Fr.app N6 N14q
    have pre15 : ∀ t, Steps p.tables e below (T14.setTop (mkF m 35 #[.val (.ref nb1), .val (.int (((0 : Int32) + (1 : Int32)) + (1 : Int32))), .val (.ref nb2), .val (.int (((0 : Int32) + (1 : Int32)) + (1 : Int32))), .val (.int 5), .val (.int ((0 : Int32) + (5 : Int32))), .val (.int 116), .val (.int d1.toInt8.toInt32)] [(.int rr1)])) t → Steps p.tables e below (s₁.setTop (entryFrame m #[(.ref nb1), (.int 0), (.ref nb2), (.int 0), (.int 5)] 8)) t := by
      intro t kk
      refine pre7 t ?_
      show Steps p.tables e below (T6.setTop (mkF m 35 #[.val (.ref nb1), .val (.int ((0 : Int32) + (1 : Int32))), .val (.ref nb2), .val (.int ((0 : Int32) + (1 : Int32))), .val (.int 5), .val (.int ((0 : Int32) + (5 : Int32))), .val (.int 104), .val (.int d0.toInt8.toInt32)] [(.int rr0)])) _
      refine XS.ifNo X6.here hx rfl (hb hby D13_35) rfl ((if0 _ _).trans (feq hd8).1) ?_
      show Steps p.tables e below (T6.setTop (mkF m 38 #[.val (.ref nb1), .val (.int ((0 : Int32) + (1 : Int32))), .val (.ref nb2), .val (.int ((0 : Int32) + (1 : Int32))), .val (.int 5), .val (.int ((0 : Int32) + (5 : Int32))), .val (.int 104), .val (.int d0.toInt8.toInt32)] [])) _
      refine XS.goto X6.here hx rfl (pc0 := 38) (pc' := 6) rfl (hb hby D13_38) (by decide) (by decide) ?_
      show Steps p.tables e below (T6.setTop (mkF m 6 #[.val (.ref nb1), .val (.int ((0 : Int32) + (1 : Int32))), .val (.ref nb2), .val (.int ((0 : Int32) + (1 : Int32))), .val (.int 5), .val (.int ((0 : Int32) + (5 : Int32))), .val (.int 104), .val (.int d0.toInt8.toInt32)] [])) _
      refine XS.iloadN X6.here hx rfl (hb hby D13_6) rfl ?_
      show Steps p.tables e below (T6.setTop (mkF m 7 #[.val (.ref nb1), .val (.int ((0 : Int32) + (1 : Int32))), .val (.ref nb2), .val (.int ((0 : Int32) + (1 : Int32))), .val (.int 5), .val (.int ((0 : Int32) + (5 : Int32))), .val (.int 104), .val (.int d0.toInt8.toInt32)] [(.int ((0 : Int32) + (1 : Int32)))])) _
      refine XS.iload X6.here hx rfl (hb hby D13_7) rfl ?_
      show Steps p.tables e below (T6.setTop (mkF m 9 #[.val (.ref nb1), .val (.int ((0 : Int32) + (1 : Int32))), .val (.ref nb2), .val (.int ((0 : Int32) + (1 : Int32))), .val (.int 5), .val (.int ((0 : Int32) + (5 : Int32))), .val (.int 104), .val (.int d0.toInt8.toInt32)] [(.int ((0 : Int32) + (5 : Int32))), (.int ((0 : Int32) + (1 : Int32)))])) _
      refine XS.icmpNo X6.here hx rfl (hb hby D13_9) rfl (tlt hd9).2.1 ?_
      show Steps p.tables e below (T6.setTop (mkF m 12 #[.val (.ref nb1), .val (.int ((0 : Int32) + (1 : Int32))), .val (.ref nb2), .val (.int ((0 : Int32) + (1 : Int32))), .val (.int 5), .val (.int ((0 : Int32) + (5 : Int32))), .val (.int 104), .val (.int d0.toInt8.toInt32)] [])) _
      refine XS.aloadN X6.here hx rfl (hb hby D13_12) rfl rfl ?_
      show Steps p.tables e below (T6.setTop (mkF m 13 #[.val (.ref nb1), .val (.int ((0 : Int32) + (1 : Int32))), .val (.ref nb2), .val (.int ((0 : Int32) + (1 : Int32))), .val (.int 5), .val (.int ((0 : Int32) + (5 : Int32))), .val (.int 104), .val (.int d0.toInt8.toInt32)] [(.ref nb1)])) _
      refine XS.iloadN X6.here hx rfl (hb hby D13_13) rfl ?_
      show Steps p.tables e below (T6.setTop (mkF m 14 #[.val (.ref nb1), .val (.int ((0 : Int32) + (1 : Int32))), .val (.ref nb2), .val (.int ((0 : Int32) + (1 : Int32))), .val (.int 5), .val (.int ((0 : Int32) + (5 : Int32))), .val (.int 104), .val (.int d0.toInt8.toInt32)] [(.int ((0 : Int32) + (1 : Int32))), (.ref nb1)])) _
      refine XS.iinc X6.here hx rfl (hb hby D13_14) rfl (l' := #[.val (.ref nb1), .val (.int (((0 : Int32) + (1 : Int32)) + (1 : Int32))), .val (.ref nb2), .val (.int ((0 : Int32) + (1 : Int32))), .val (.int 5), .val (.int ((0 : Int32) + (5 : Int32))), .val (.int 104), .val (.int d0.toInt8.toInt32)]) rfl ?_
      show Steps p.tables e below (T6.setTop (mkF m 17 #[.val (.ref nb1), .val (.int (((0 : Int32) + (1 : Int32)) + (1 : Int32))), .val (.ref nb2), .val (.int ((0 : Int32) + (1 : Int32))), .val (.int 5), .val (.int ((0 : Int32) + (5 : Int32))), .val (.int 104), .val (.int d0.toInt8.toInt32)] [(.int ((0 : Int32) + (1 : Int32))), (.ref nb1)])) _
      refine X6.baloadBytes hx (j := ((0 : Int32) + (1 : Int32))) (v := (.int 116)) (by rw [e6q]; exact Ar10.1) (State.isArrayOf_alike hZ.alike Ar10.2.1) Ar10.2.2 hin11 hat11 (g := (mkF m 17 #[.val (.ref nb1), .val (.int (((0 : Int32) + (1 : Int32)) + (1 : Int32))), .val (.ref nb2), .val (.int ((0 : Int32) + (1 : Int32))), .val (.int 5), .val (.int ((0 : Int32) + (5 : Int32))), .val (.int 104), .val (.int d0.toInt8.toInt32)] [(.int ((0 : Int32) + (1 : Int32))), (.ref nb1)])) rfl rfl (hb hby D13_17) _ ?_
      show Steps p.tables e below (T6.setTop (mkF m 18 #[.val (.ref nb1), .val (.int (((0 : Int32) + (1 : Int32)) + (1 : Int32))), .val (.ref nb2), .val (.int ((0 : Int32) + (1 : Int32))), .val (.int 5), .val (.int ((0 : Int32) + (5 : Int32))), .val (.int 104), .val (.int d0.toInt8.toInt32)] [(.int 116)])) _
      refine XS.istore X6.here hx rfl (hb hby D13_18) rfl (l' := #[.val (.ref nb1), .val (.int (((0 : Int32) + (1 : Int32)) + (1 : Int32))), .val (.ref nb2), .val (.int ((0 : Int32) + (1 : Int32))), .val (.int 5), .val (.int ((0 : Int32) + (5 : Int32))), .val (.int 116), .val (.int d0.toInt8.toInt32)]) rfl ?_
      show Steps p.tables e below (T6.setTop (mkF m 20 #[.val (.ref nb1), .val (.int (((0 : Int32) + (1 : Int32)) + (1 : Int32))), .val (.ref nb2), .val (.int ((0 : Int32) + (1 : Int32))), .val (.int 5), .val (.int ((0 : Int32) + (5 : Int32))), .val (.int 116), .val (.int d0.toInt8.toInt32)] [])) _
      refine XS.aloadN X6.here hx rfl (hb hby D13_20) rfl rfl ?_
      show Steps p.tables e below (T6.setTop (mkF m 21 #[.val (.ref nb1), .val (.int (((0 : Int32) + (1 : Int32)) + (1 : Int32))), .val (.ref nb2), .val (.int ((0 : Int32) + (1 : Int32))), .val (.int 5), .val (.int ((0 : Int32) + (5 : Int32))), .val (.int 116), .val (.int d0.toInt8.toInt32)] [(.ref nb2)])) _
      refine XS.iloadN X6.here hx rfl (hb hby D13_21) rfl ?_
      show Steps p.tables e below (T6.setTop (mkF m 22 #[.val (.ref nb1), .val (.int (((0 : Int32) + (1 : Int32)) + (1 : Int32))), .val (.ref nb2), .val (.int ((0 : Int32) + (1 : Int32))), .val (.int 5), .val (.int ((0 : Int32) + (5 : Int32))), .val (.int 116), .val (.int d0.toInt8.toInt32)] [(.int ((0 : Int32) + (1 : Int32))), (.ref nb2)])) _
      refine XS.iinc X6.here hx rfl (hb hby D13_22) rfl (l' := #[.val (.ref nb1), .val (.int (((0 : Int32) + (1 : Int32)) + (1 : Int32))), .val (.ref nb2), .val (.int (((0 : Int32) + (1 : Int32)) + (1 : Int32))), .val (.int 5), .val (.int ((0 : Int32) + (5 : Int32))), .val (.int 116), .val (.int d0.toInt8.toInt32)]) rfl ?_
      show Steps p.tables e below (T6.setTop (mkF m 25 #[.val (.ref nb1), .val (.int (((0 : Int32) + (1 : Int32)) + (1 : Int32))), .val (.ref nb2), .val (.int (((0 : Int32) + (1 : Int32)) + (1 : Int32))), .val (.int 5), .val (.int ((0 : Int32) + (5 : Int32))), .val (.int 116), .val (.int d0.toInt8.toInt32)] [(.int ((0 : Int32) + (1 : Int32))), (.ref nb2)])) _
      refine X6.baloadBytes hx (j := ((0 : Int32) + (1 : Int32))) (v := (.int d1.toInt8.toInt32)) (by rw [e6q]; exact Ar12.1) (State.isArrayOf_alike hZ.alike Ar12.2.1) Ar12.2.2 hin13 hat13 (g := (mkF m 25 #[.val (.ref nb1), .val (.int (((0 : Int32) + (1 : Int32)) + (1 : Int32))), .val (.ref nb2), .val (.int (((0 : Int32) + (1 : Int32)) + (1 : Int32))), .val (.int 5), .val (.int ((0 : Int32) + (5 : Int32))), .val (.int 116), .val (.int d0.toInt8.toInt32)] [(.int ((0 : Int32) + (1 : Int32))), (.ref nb2)])) rfl rfl (hb hby D13_25) _ ?_
      show Steps p.tables e below (T6.setTop (mkF m 26 #[.val (.ref nb1), .val (.int (((0 : Int32) + (1 : Int32)) + (1 : Int32))), .val (.ref nb2), .val (.int (((0 : Int32) + (1 : Int32)) + (1 : Int32))), .val (.int 5), .val (.int ((0 : Int32) + (5 : Int32))), .val (.int 116), .val (.int d0.toInt8.toInt32)] [(.int d1.toInt8.toInt32)])) _
      refine XS.istore X6.here hx rfl (hb hby D13_26) rfl (l' := #[.val (.ref nb1), .val (.int (((0 : Int32) + (1 : Int32)) + (1 : Int32))), .val (.ref nb2), .val (.int (((0 : Int32) + (1 : Int32)) + (1 : Int32))), .val (.int 5), .val (.int ((0 : Int32) + (5 : Int32))), .val (.int 116), .val (.int d1.toInt8.toInt32)]) rfl ?_
      show Steps p.tables e below (T6.setTop (mkF m 28 #[.val (.ref nb1), .val (.int (((0 : Int32) + (1 : Int32)) + (1 : Int32))), .val (.ref nb2), .val (.int (((0 : Int32) + (1 : Int32)) + (1 : Int32))), .val (.int 5), .val (.int ((0 : Int32) + (5 : Int32))), .val (.int 116), .val (.int d1.toInt8.toInt32)] [])) _
      refine XS.iload X6.here hx rfl (hb hby D13_28) rfl ?_
      show Steps p.tables e below (T6.setTop (mkF m 30 #[.val (.ref nb1), .val (.int (((0 : Int32) + (1 : Int32)) + (1 : Int32))), .val (.ref nb2), .val (.int (((0 : Int32) + (1 : Int32)) + (1 : Int32))), .val (.int 5), .val (.int ((0 : Int32) + (5 : Int32))), .val (.int 116), .val (.int d1.toInt8.toInt32)] [(.int 116)])) _
      refine XS.iload X6.here hx rfl (hb hby D13_30) rfl ?_
      show Steps p.tables e below (T6.setTop (mkF m 32 #[.val (.ref nb1), .val (.int (((0 : Int32) + (1 : Int32)) + (1 : Int32))), .val (.ref nb2), .val (.int (((0 : Int32) + (1 : Int32)) + (1 : Int32))), .val (.int 5), .val (.int ((0 : Int32) + (5 : Int32))), .val (.int 116), .val (.int d1.toInt8.toInt32)] [(.int d1.toInt8.toInt32), (.int 116)])) _
      exact st14 _ kk
    by_cases hm1 : own_M (116 : Int32) d1
    case pos =>
      have hd16 : ¬ (rr1 = (0 : Int32)) := by rw [ra1 hm1]; decide
      have hd17 : (((0 : Int32) + (1 : Int32)) + (1 : Int32)) < ((0 : Int32) + (5 : Int32)) := by decide
      obtain ⟨cl18, Ar18, q18, S18, M18, H18, G18⟩ := id xV1
      have hin19 : ¬ ((((0 : Int32) + (1 : Int32)) + (1 : Int32)) < 0 ∨ cl18.slots.size ≤ ((((0 : Int32) + (1 : Int32)) + (1 : Int32))).toNatClampNeg) := inb_of S18 ⟨by decide, by decide⟩
      have hat19 : cl18.slots[((((0 : Int32) + (1 : Int32)) + (1 : Int32))).toNatClampNeg]? = some (.int 116) := Has.at H18 (inb_of S18 ⟨by decide, by decide⟩) rfl
      obtain ⟨cl20, Ar20, q20, S20, M20, H20, G20⟩ := id xV2
      have hin21 : ¬ ((((0 : Int32) + (1 : Int32)) + (1 : Int32)) < 0 ∨ cl20.slots.size ≤ ((((0 : Int32) + (1 : Int32)) + (1 : Int32))).toNatClampNeg) := inb_of S20 ⟨by decide, by decide⟩
      have hat21 : cl20.slots[((((0 : Int32) + (1 : Int32)) + (1 : Int32))).toNatClampNeg]? = some (.int d2.toInt8.toInt32) := Has.at H20 (inb_of S20 ⟨by decide, by decide⟩) rfl
      obtain ⟨_, _, ⟨T22, L22, k22, n22⟩, -, X22, ⟨Lc22, hQ22, l22, y22, z22⟩, st22⟩ := Jvm.LawKit.callS X14 hx (y := (⟨"java/lang/CharacterDataLatin1", "equalsIgnoreCase", "(BB)Z"⟩ : MethodName)) hown (mvT hZ (gw hw 126 rfl)) (mvT hZ (gw hw 127 rfl)) (mvT hZ (gw hw 128 rfl)) (mvT hZ (gw hw 129 rfl)) (by decide) (backOf (W := 0) (own_eic l Z a0 hw [] (116 : Int32) d2.toInt8.toInt32 h0 n0 Z0 (by decide) (by decide)) hZ (gw hw 129 rfl) (gw hw 128 rfl) (by decide) (by decide)) (g := (mkF m 32 #[.val (.ref nb1), .val (.int ((((0 : Int32) + (1 : Int32)) + (1 : Int32)) + (1 : Int32))), .val (.ref nb2), .val (.int ((((0 : Int32) + (1 : Int32)) + (1 : Int32)) + (1 : Int32))), .val (.int 5), .val (.int ((0 : Int32) + (5 : Int32))), .val (.int 116), .val (.int d2.toInt8.toInt32)] [(.int d2.toInt8.toInt32), (.int 116)])) rfl (by rw [hml]; rfl) (argsL := [(.int 116), (.int d2.toInt8.toInt32)]) (rest := []) (lenOf pd__BB_Z rfl) rfl (by show 2 * 0 + _ ≤ _; exact Nat.le_of_eq rfl) (hb hby D13_32) (fun _ _ => ⟨rfl, e14q, (by decide : 0 + 0 ≤ _), (by decide : 0 + 0 ≤ _)⟩)
      dsimp only [Pt.U, Pt.locs, Pt.cells, Pt.slots] at X22 l22 y22 z22 st22 hQ22
      subst l22 y22 z22
      obtain ⟨rr2, rfl, N22q, e22q, ra2, rb2⟩ := hQ22
      have N22 := Fr.app N14 N22q
      have pre23 : ∀ t, Steps p.tables e below (T22.setTop (mkF m 35 #[.val (.ref nb1), .val (.int ((((0 : Int32) + (1 : Int32)) + (1 : Int32)) + (1 : Int32))), .val (.ref nb2), .val (.int ((((0 : Int32) + (1 : Int32)) + (1 : Int32)) + (1 : Int32))), .val (.int 5), .val (.int ((0 : Int32) + (5 : Int32))), .val (.int 116), .val (.int d2.toInt8.toInt32)] [(.int rr2)])) t → Steps p.tables e below (s₁.setTop (entryFrame m #[(.ref nb1), (.int 0), (.ref nb2), (.int 0), (.int 5)] 8)) t := by
        intro t kk
        refine pre15 t ?_
        show Steps p.tables e below (T14.setTop (mkF m 35 #[.val (.ref nb1), .val (.int (((0 : Int32) + (1 : Int32)) + (1 : Int32))), .val (.ref nb2), .val (.int (((0 : Int32) + (1 : Int32)) + (1 : Int32))), .val (.int 5), .val (.int ((0 : Int32) + (5 : Int32))), .val (.int 116), .val (.int d1.toInt8.toInt32)] [(.int rr1)])) _
        refine XS.ifNo X14.here hx rfl (hb hby D13_35) rfl ((if0 _ _).trans (feq hd16).1) ?_
        show Steps p.tables e below (T14.setTop (mkF m 38 #[.val (.ref nb1), .val (.int (((0 : Int32) + (1 : Int32)) + (1 : Int32))), .val (.ref nb2), .val (.int (((0 : Int32) + (1 : Int32)) + (1 : Int32))), .val (.int 5), .val (.int ((0 : Int32) + (5 : Int32))), .val (.int 116), .val (.int d1.toInt8.toInt32)] [])) _
        refine XS.goto X14.here hx rfl (pc0 := 38) (pc' := 6) rfl (hb hby D13_38) (by decide) (by decide) ?_
        show Steps p.tables e below (T14.setTop (mkF m 6 #[.val (.ref nb1), .val (.int (((0 : Int32) + (1 : Int32)) + (1 : Int32))), .val (.ref nb2), .val (.int (((0 : Int32) + (1 : Int32)) + (1 : Int32))), .val (.int 5), .val (.int ((0 : Int32) + (5 : Int32))), .val (.int 116), .val (.int d1.toInt8.toInt32)] [])) _
        refine XS.iloadN X14.here hx rfl (hb hby D13_6) rfl ?_
        show Steps p.tables e below (T14.setTop (mkF m 7 #[.val (.ref nb1), .val (.int (((0 : Int32) + (1 : Int32)) + (1 : Int32))), .val (.ref nb2), .val (.int (((0 : Int32) + (1 : Int32)) + (1 : Int32))), .val (.int 5), .val (.int ((0 : Int32) + (5 : Int32))), .val (.int 116), .val (.int d1.toInt8.toInt32)] [(.int (((0 : Int32) + (1 : Int32)) + (1 : Int32)))])) _
        refine XS.iload X14.here hx rfl (hb hby D13_7) rfl ?_
        show Steps p.tables e below (T14.setTop (mkF m 9 #[.val (.ref nb1), .val (.int (((0 : Int32) + (1 : Int32)) + (1 : Int32))), .val (.ref nb2), .val (.int (((0 : Int32) + (1 : Int32)) + (1 : Int32))), .val (.int 5), .val (.int ((0 : Int32) + (5 : Int32))), .val (.int 116), .val (.int d1.toInt8.toInt32)] [(.int ((0 : Int32) + (5 : Int32))), (.int (((0 : Int32) + (1 : Int32)) + (1 : Int32)))])) _
        refine XS.icmpNo X14.here hx rfl (hb hby D13_9) rfl (tlt hd17).2.1 ?_
        show Steps p.tables e below (T14.setTop (mkF m 12 #[.val (.ref nb1), .val (.int (((0 : Int32) + (1 : Int32)) + (1 : Int32))), .val (.ref nb2), .val (.int (((0 : Int32) + (1 : Int32)) + (1 : Int32))), .val (.int 5), .val (.int ((0 : Int32) + (5 : Int32))), .val (.int 116), .val (.int d1.toInt8.toInt32)] [])) _
        refine XS.aloadN X14.here hx rfl (hb hby D13_12) rfl rfl ?_
        show Steps p.tables e below (T14.setTop (mkF m 13 #[.val (.ref nb1), .val (.int (((0 : Int32) + (1 : Int32)) + (1 : Int32))), .val (.ref nb2), .val (.int (((0 : Int32) + (1 : Int32)) + (1 : Int32))), .val (.int 5), .val (.int ((0 : Int32) + (5 : Int32))), .val (.int 116), .val (.int d1.toInt8.toInt32)] [(.ref nb1)])) _
        refine XS.iloadN X14.here hx rfl (hb hby D13_13) rfl ?_
        show Steps p.tables e below (T14.setTop (mkF m 14 #[.val (.ref nb1), .val (.int (((0 : Int32) + (1 : Int32)) + (1 : Int32))), .val (.ref nb2), .val (.int (((0 : Int32) + (1 : Int32)) + (1 : Int32))), .val (.int 5), .val (.int ((0 : Int32) + (5 : Int32))), .val (.int 116), .val (.int d1.toInt8.toInt32)] [(.int (((0 : Int32) + (1 : Int32)) + (1 : Int32))), (.ref nb1)])) _
        refine XS.iinc X14.here hx rfl (hb hby D13_14) rfl (l' := #[.val (.ref nb1), .val (.int ((((0 : Int32) + (1 : Int32)) + (1 : Int32)) + (1 : Int32))), .val (.ref nb2), .val (.int (((0 : Int32) + (1 : Int32)) + (1 : Int32))), .val (.int 5), .val (.int ((0 : Int32) + (5 : Int32))), .val (.int 116), .val (.int d1.toInt8.toInt32)]) rfl ?_
        show Steps p.tables e below (T14.setTop (mkF m 17 #[.val (.ref nb1), .val (.int ((((0 : Int32) + (1 : Int32)) + (1 : Int32)) + (1 : Int32))), .val (.ref nb2), .val (.int (((0 : Int32) + (1 : Int32)) + (1 : Int32))), .val (.int 5), .val (.int ((0 : Int32) + (5 : Int32))), .val (.int 116), .val (.int d1.toInt8.toInt32)] [(.int (((0 : Int32) + (1 : Int32)) + (1 : Int32))), (.ref nb1)])) _
        refine X14.baloadBytes hx (j := (((0 : Int32) + (1 : Int32)) + (1 : Int32))) (v := (.int 116)) (by rw [e14q]; exact Ar18.1) (State.isArrayOf_alike hZ.alike Ar18.2.1) Ar18.2.2 hin19 hat19 (g := (mkF m 17 #[.val (.ref nb1), .val (.int ((((0 : Int32) + (1 : Int32)) + (1 : Int32)) + (1 : Int32))), .val (.ref nb2), .val (.int (((0 : Int32) + (1 : Int32)) + (1 : Int32))), .val (.int 5), .val (.int ((0 : Int32) + (5 : Int32))), .val (.int 116), .val (.int d1.toInt8.toInt32)] [(.int (((0 : Int32) + (1 : Int32)) + (1 : Int32))), (.ref nb1)])) rfl rfl (hb hby D13_17) _ ?_
        show Steps p.tables e below (T14.setTop (mkF m 18 #[.val (.ref nb1), .val (.int ((((0 : Int32) + (1 : Int32)) + (1 : Int32)) + (1 : Int32))), .val (.ref nb2), .val (.int (((0 : Int32) + (1 : Int32)) + (1 : Int32))), .val (.int 5), .val (.int ((0 : Int32) + (5 : Int32))), .val (.int 116), .val (.int d1.toInt8.toInt32)] [(.int 116)])) _
        refine XS.istore X14.here hx rfl (hb hby D13_18) rfl (l' := #[.val (.ref nb1), .val (.int ((((0 : Int32) + (1 : Int32)) + (1 : Int32)) + (1 : Int32))), .val (.ref nb2), .val (.int (((0 : Int32) + (1 : Int32)) + (1 : Int32))), .val (.int 5), .val (.int ((0 : Int32) + (5 : Int32))), .val (.int 116), .val (.int d1.toInt8.toInt32)]) rfl ?_
        show Steps p.tables e below (T14.setTop (mkF m 20 #[.val (.ref nb1), .val (.int ((((0 : Int32) + (1 : Int32)) + (1 : Int32)) + (1 : Int32))), .val (.ref nb2), .val (.int (((0 : Int32) + (1 : Int32)) + (1 : Int32))), .val (.int 5), .val (.int ((0 : Int32) + (5 : Int32))), .val (.int 116), .val (.int d1.toInt8.toInt32)] [])) _
        refine XS.aloadN X14.here hx rfl (hb hby D13_20) rfl rfl ?_
        show Steps p.tables e below (T14.setTop (mkF m 21 #[.val (.ref nb1), .val (.int ((((0 : Int32) + (1 : Int32)) + (1 : Int32)) + (1 : Int32))), .val (.ref nb2), .val (.int (((0 : Int32) + (1 : Int32)) + (1 : Int32))), .val (.int 5), .val (.int ((0 : Int32) + (5 : Int32))), .val (.int 116), .val (.int d1.toInt8.toInt32)] [(.ref nb2)])) _
        refine XS.iloadN X14.here hx rfl (hb hby D13_21) rfl ?_
        show Steps p.tables e below (T14.setTop (mkF m 22 #[.val (.ref nb1), .val (.int ((((0 : Int32) + (1 : Int32)) + (1 : Int32)) + (1 : Int32))), .val (.ref nb2), .val (.int (((0 : Int32) + (1 : Int32)) + (1 : Int32))), .val (.int 5), .val (.int ((0 : Int32) + (5 : Int32))), .val (.int 116), .val (.int d1.toInt8.toInt32)] [(.int (((0 : Int32) + (1 : Int32)) + (1 : Int32))), (.ref nb2)])) _
        refine XS.iinc X14.here hx rfl (hb hby D13_22) rfl (l' := #[.val (.ref nb1), .val (.int ((((0 : Int32) + (1 : Int32)) + (1 : Int32)) + (1 : Int32))), .val (.ref nb2), .val (.int ((((0 : Int32) + (1 : Int32)) + (1 : Int32)) + (1 : Int32))), .val (.int 5), .val (.int ((0 : Int32) + (5 : Int32))), .val (.int 116), .val (.int d1.toInt8.toInt32)]) rfl ?_
        show Steps p.tables e below (T14.setTop (mkF m 25 #[.val (.ref nb1), .val (.int ((((0 : Int32) + (1 : Int32)) + (1 : Int32)) + (1 : Int32))), .val (.ref nb2), .val (.int ((((0 : Int32) + (1 : Int32)) + (1 : Int32)) + (1 : Int32))), .val (.int 5), .val (.int ((0 : Int32) + (5 : Int32))), .val (.int 116), .val (.int d1.toInt8.toInt32)] [(.int (((0 : Int32) + (1 : Int32)) + (1 : Int32))), (.ref nb2)])) _
        refine X14.baloadBytes hx (j := (((0 : Int32) + (1 : Int32)) + (1 : Int32))) (v := (.int d2.toInt8.toInt32)) (by rw [e14q]; exact Ar20.1) (State.isArrayOf_alike hZ.alike Ar20.2.1) Ar20.2.2 hin21 hat21 (g := (mkF m 25 #[.val (.ref nb1), .val (.int ((((0 : Int32) + (1 : Int32)) + (1 : Int32)) + (1 : Int32))), .val (.ref nb2), .val (.int ((((0 : Int32) + (1 : Int32)) + (1 : Int32)) + (1 : Int32))), .val (.int 5), .val (.int ((0 : Int32) + (5 : Int32))), .val (.int 116), .val (.int d1.toInt8.toInt32)] [(.int (((0 : Int32) + (1 : Int32)) + (1 : Int32))), (.ref nb2)])) rfl rfl (hb hby D13_25) _ ?_
        show Steps p.tables e below (T14.setTop (mkF m 26 #[.val (.ref nb1), .val (.int ((((0 : Int32) + (1 : Int32)) + (1 : Int32)) + (1 : Int32))), .val (.ref nb2), .val (.int ((((0 : Int32) + (1 : Int32)) + (1 : Int32)) + (1 : Int32))), .val (.int 5), .val (.int ((0 : Int32) + (5 : Int32))), .val (.int 116), .val (.int d1.toInt8.toInt32)] [(.int d2.toInt8.toInt32)])) _
        refine XS.istore X14.here hx rfl (hb hby D13_26) rfl (l' := #[.val (.ref nb1), .val (.int ((((0 : Int32) + (1 : Int32)) + (1 : Int32)) + (1 : Int32))), .val (.ref nb2), .val (.int ((((0 : Int32) + (1 : Int32)) + (1 : Int32)) + (1 : Int32))), .val (.int 5), .val (.int ((0 : Int32) + (5 : Int32))), .val (.int 116), .val (.int d2.toInt8.toInt32)]) rfl ?_
        show Steps p.tables e below (T14.setTop (mkF m 28 #[.val (.ref nb1), .val (.int ((((0 : Int32) + (1 : Int32)) + (1 : Int32)) + (1 : Int32))), .val (.ref nb2), .val (.int ((((0 : Int32) + (1 : Int32)) + (1 : Int32)) + (1 : Int32))), .val (.int 5), .val (.int ((0 : Int32) + (5 : Int32))), .val (.int 116), .val (.int d2.toInt8.toInt32)] [])) _
        refine XS.iload X14.here hx rfl (hb hby D13_28) rfl ?_
        show Steps p.tables e below (T14.setTop (mkF m 30 #[.val (.ref nb1), .val (.int ((((0 : Int32) + (1 : Int32)) + (1 : Int32)) + (1 : Int32))), .val (.ref nb2), .val (.int ((((0 : Int32) + (1 : Int32)) + (1 : Int32)) + (1 : Int32))), .val (.int 5), .val (.int ((0 : Int32) + (5 : Int32))), .val (.int 116), .val (.int d2.toInt8.toInt32)] [(.int 116)])) _
        refine XS.iload X14.here hx rfl (hb hby D13_30) rfl ?_
        show Steps p.tables e below (T14.setTop (mkF m 32 #[.val (.ref nb1), .val (.int ((((0 : Int32) + (1 : Int32)) + (1 : Int32)) + (1 : Int32))), .val (.ref nb2), .val (.int ((((0 : Int32) + (1 : Int32)) + (1 : Int32)) + (1 : Int32))), .val (.int 5), .val (.int ((0 : Int32) + (5 : Int32))), .val (.int 116), .val (.int d2.toInt8.toInt32)] [(.int d2.toInt8.toInt32), (.int 116)])) _
        exact st22 _ kk
      by_cases hm2 : own_M (116 : Int32) d2
      case pos =>
        have hd24 : ¬ (rr2 = (0 : Int32)) := by rw [ra2 hm2]; decide
        have hd25 : ((((0 : Int32) + (1 : Int32)) + (1 : Int32)) + (1 : Int32)) < ((0 : Int32) + (5 : Int32)) := by decide
        obtain ⟨cl26, Ar26, q26, S26, M26, H26, G26⟩ := id xV1
        have hin27 : ¬ (((((0 : Int32) + (1 : Int32)) + (1 : Int32)) + (1 : Int32)) < 0 ∨ cl26.slots.size ≤ (((((0 : Int32) + (1 : Int32)) + (1 : Int32)) + (1 : Int32))).toNatClampNeg) := inb_of S26 ⟨by decide, by decide⟩
        have hat27 : cl26.slots[(((((0 : Int32) + (1 : Int32)) + (1 : Int32)) + (1 : Int32))).toNatClampNeg]? = some (.int 112) := Has.at H26 (inb_of S26 ⟨by decide, by decide⟩) rfl
        obtain ⟨cl28, Ar28, q28, S28, M28, H28, G28⟩ := id xV2
        have hin29 : ¬ (((((0 : Int32) + (1 : Int32)) + (1 : Int32)) + (1 : Int32)) < 0 ∨ cl28.slots.size ≤ (((((0 : Int32) + (1 : Int32)) + (1 : Int32)) + (1 : Int32))).toNatClampNeg) := inb_of S28 ⟨by decide, by decide⟩
        have hat29 : cl28.slots[(((((0 : Int32) + (1 : Int32)) + (1 : Int32)) + (1 : Int32))).toNatClampNeg]? = some (.int d3.toInt8.toInt32) := Has.at H28 (inb_of S28 ⟨by decide, by decide⟩) rfl
        obtain ⟨_, _, ⟨T30, L30, k30, n30⟩, -, X30, ⟨Lc30, hQ30, l30, y30, z30⟩, st30⟩ := Jvm.LawKit.callS X22 hx (y := (⟨"java/lang/CharacterDataLatin1", "equalsIgnoreCase", "(BB)Z"⟩ : MethodName)) hown (mvT hZ (gw hw 126 rfl)) (mvT hZ (gw hw 127 rfl)) (mvT hZ (gw hw 128 rfl)) (mvT hZ (gw hw 129 rfl)) (by decide) (backOf (W := 0) (own_eic l Z a0 hw [] (112 : Int32) d3.toInt8.toInt32 h0 n0 Z0 (by decide) (by decide)) hZ (gw hw 129 rfl) (gw hw 128 rfl) (by decide) (by decide)) (g := (mkF m 32 #[.val (.ref nb1), .val (.int (((((0 : Int32) + (1 : Int32)) + (1 : Int32)) + (1 : Int32)) + (1 : Int32))), .val (.ref nb2), .val (.int (((((0 : Int32) + (1 : Int32)) + (1 : Int32)) + (1 : Int32)) + (1 : Int32))), .val (.int 5), .val (.int ((0 : Int32) + (5 : Int32))), .val (.int 112), .val (.int d3.toInt8.toInt32)] [(.int d3.toInt8.toInt32), (.int 112)])) rfl (by rw [hml]; rfl) (argsL := [(.int 112), (.int d3.toInt8.toInt32)]) (rest := []) (lenOf pd__BB_Z rfl) rfl (by show 2 * 0 + _ ≤ _; exact Nat.le_of_eq rfl) (hb hby D13_32) (fun _ _ => ⟨rfl, e22q, (by decide : 0 + 0 ≤ _), (by decide : 0 + 0 ≤ _)⟩)
        dsimp only [Pt.U, Pt.locs, Pt.cells, Pt.slots] at X30 l30 y30 z30 st30 hQ30
        subst l30 y30 z30
        obtain ⟨rr3, rfl, N30q, e30q, ra3, rb3⟩ := hQ30
        have N30 := Fr.app N22 N30q
        have pre31 : ∀ t, Steps p.tables e below (T30.setTop (mkF m 35 #[.val (.ref nb1), .val (.int (((((0 : Int32) + (1 : Int32)) + (1 : Int32)) + (1 : Int32)) + (1 : Int32))), .val (.ref nb2), .val (.int (((((0 : Int32) + (1 : Int32)) + (1 : Int32)) + (1 : Int32)) + (1 : Int32))), .val (.int 5), .val (.int ((0 : Int32) + (5 : Int32))), .val (.int 112), .val (.int d3.toInt8.toInt32)] [(.int rr3)])) t → Steps p.tables e below (s₁.setTop (entryFrame m #[(.ref nb1), (.int 0), (.ref nb2), (.int 0), (.int 5)] 8)) t := by
          intro t kk
          refine pre23 t ?_
          show Steps p.tables e below (T22.setTop (mkF m 35 #[.val (.ref nb1), .val (.int ((((0 : Int32) + (1 : Int32)) + (1 : Int32)) + (1 : Int32))), .val (.ref nb2), .val (.int ((((0 : Int32) + (1 : Int32)) + (1 : Int32)) + (1 : Int32))), .val (.int 5), .val (.int ((0 : Int32) + (5 : Int32))), .val (.int 116), .val (.int d2.toInt8.toInt32)] [(.int rr2)])) _
          refine XS.ifNo X22.here hx rfl (hb hby D13_35) rfl ((if0 _ _).trans (feq hd24).1) ?_
          show Steps p.tables e below (T22.setTop (mkF m 38 #[.val (.ref nb1), .val (.int ((((0 : Int32) + (1 : Int32)) + (1 : Int32)) + (1 : Int32))), .val (.ref nb2), .val (.int ((((0 : Int32) + (1 : Int32)) + (1 : Int32)) + (1 : Int32))), .val (.int 5), .val (.int ((0 : Int32) + (5 : Int32))), .val (.int 116), .val (.int d2.toInt8.toInt32)] [])) _
          refine XS.goto X22.here hx rfl (pc0 := 38) (pc' := 6) rfl (hb hby D13_38) (by decide) (by decide) ?_
          show Steps p.tables e below (T22.setTop (mkF m 6 #[.val (.ref nb1), .val (.int ((((0 : Int32) + (1 : Int32)) + (1 : Int32)) + (1 : Int32))), .val (.ref nb2), .val (.int ((((0 : Int32) + (1 : Int32)) + (1 : Int32)) + (1 : Int32))), .val (.int 5), .val (.int ((0 : Int32) + (5 : Int32))), .val (.int 116), .val (.int d2.toInt8.toInt32)] [])) _
          refine XS.iloadN X22.here hx rfl (hb hby D13_6) rfl ?_
          show Steps p.tables e below (T22.setTop (mkF m 7 #[.val (.ref nb1), .val (.int ((((0 : Int32) + (1 : Int32)) + (1 : Int32)) + (1 : Int32))), .val (.ref nb2), .val (.int ((((0 : Int32) + (1 : Int32)) + (1 : Int32)) + (1 : Int32))), .val (.int 5), .val (.int ((0 : Int32) + (5 : Int32))), .val (.int 116), .val (.int d2.toInt8.toInt32)] [(.int ((((0 : Int32) + (1 : Int32)) + (1 : Int32)) + (1 : Int32)))])) _
          refine XS.iload X22.here hx rfl (hb hby D13_7) rfl ?_
          show Steps p.tables e below (T22.setTop (mkF m 9 #[.val (.ref nb1), .val (.int ((((0 : Int32) + (1 : Int32)) + (1 : Int32)) + (1 : Int32))), .val (.ref nb2), .val (.int ((((0 : Int32) + (1 : Int32)) + (1 : Int32)) + (1 : Int32))), .val (.int 5), .val (.int ((0 : Int32) + (5 : Int32))), .val (.int 116), .val (.int d2.toInt8.toInt32)] [(.int ((0 : Int32) + (5 : Int32))), (.int ((((0 : Int32) + (1 : Int32)) + (1 : Int32)) + (1 : Int32)))])) _
          refine XS.icmpNo X22.here hx rfl (hb hby D13_9) rfl (tlt hd25).2.1 ?_
          show Steps p.tables e below (T22.setTop (mkF m 12 #[.val (.ref nb1), .val (.int ((((0 : Int32) + (1 : Int32)) + (1 : Int32)) + (1 : Int32))), .val (.ref nb2), .val (.int ((((0 : Int32) + (1 : Int32)) + (1 : Int32)) + (1 : Int32))), .val (.int 5), .val (.int ((0 : Int32) + (5 : Int32))), .val (.int 116), .val (.int d2.toInt8.toInt32)] [])) _
          refine XS.aloadN X22.here hx rfl (hb hby D13_12) rfl rfl ?_
          show Steps p.tables e below (T22.setTop (mkF m 13 #[.val (.ref nb1), .val (.int ((((0 : Int32) + (1 : Int32)) + (1 : Int32)) + (1 : Int32))), .val (.ref nb2), .val (.int ((((0 : Int32) + (1 : Int32)) + (1 : Int32)) + (1 : Int32))), .val (.int 5), .val (.int ((0 : Int32) + (5 : Int32))), .val (.int 116), .val (.int d2.toInt8.toInt32)] [(.ref nb1)])) _
          refine XS.iloadN X22.here hx rfl (hb hby D13_13) rfl ?_
          show Steps p.tables e below (T22.setTop (mkF m 14 #[.val (.ref nb1), .val (.int ((((0 : Int32) + (1 : Int32)) + (1 : Int32)) + (1 : Int32))), .val (.ref nb2), .val (.int ((((0 : Int32) + (1 : Int32)) + (1 : Int32)) + (1 : Int32))), .val (.int 5), .val (.int ((0 : Int32) + (5 : Int32))), .val (.int 116), .val (.int d2.toInt8.toInt32)] [(.int ((((0 : Int32) + (1 : Int32)) + (1 : Int32)) + (1 : Int32))), (.ref nb1)])) _
          refine XS.iinc X22.here hx rfl (hb hby D13_14) rfl (l' := #[.val (.ref nb1), .val (.int (((((0 : Int32) + (1 : Int32)) + (1 : Int32)) + (1 : Int32)) + (1 : Int32))), .val (.ref nb2), .val (.int ((((0 : Int32) + (1 : Int32)) + (1 : Int32)) + (1 : Int32))), .val (.int 5), .val (.int ((0 : Int32) + (5 : Int32))), .val (.int 116), .val (.int d2.toInt8.toInt32)]) rfl ?_
          show Steps p.tables e below (T22.setTop (mkF m 17 #[.val (.ref nb1), .val (.int (((((0 : Int32) + (1 : Int32)) + (1 : Int32)) + (1 : Int32)) + (1 : Int32))), .val (.ref nb2), .val (.int ((((0 : Int32) + (1 : Int32)) + (1 : Int32)) + (1 : Int32))), .val (.int 5), .val (.int ((0 : Int32) + (5 : Int32))), .val (.int 116), .val (.int d2.toInt8.toInt32)] [(.int ((((0 : Int32) + (1 : Int32)) + (1 : Int32)) + (1 : Int32))), (.ref nb1)])) _
          refine X22.baloadBytes hx (j := ((((0 : Int32) + (1 : Int32)) + (1 : Int32)) + (1 : Int32))) (v := (.int 112)) (by rw [e22q]; exact Ar26.1) (State.isArrayOf_alike hZ.alike Ar26.2.1) Ar26.2.2 hin27 hat27 (g := (mkF m 17 #[.val (.ref nb1), .val (.int (((((0 : Int32) + (1 : Int32)) + (1 : Int32)) + (1 : Int32)) + (1 : Int32))), .val (.ref nb2), .val (.int ((((0 : Int32) + (1 : Int32)) + (1 : Int32)) + (1 : Int32))), .val (.int 5), .val (.int ((0 : Int32) + (5 : Int32))), .val (.int 116), .val (.int d2.toInt8.toInt32)] [(.int ((((0 : Int32) + (1 : Int32)) + (1 : Int32)) + (1 : Int32))), (.ref nb1)])) rfl rfl (hb hby D13_17) _ ?_
          show Steps p.tables e below (T22.setTop (mkF m 18 #[.val (.ref nb1), .val (.int (((((0 : Int32) + (1 : Int32)) + (1 : Int32)) + (1 : Int32)) + (1 : Int32))), .val (.ref nb2), .val (.int ((((0 : Int32) + (1 : Int32)) + (1 : Int32)) + (1 : Int32))), .val (.int 5), .val (.int ((0 : Int32) + (5 : Int32))), .val (.int 116), .val (.int d2.toInt8.toInt32)] [(.int 112)])) _
          refine XS.istore X22.here hx rfl (hb hby D13_18) rfl (l' := #[.val (.ref nb1), .val (.int (((((0 : Int32) + (1 : Int32)) + (1 : Int32)) + (1 : Int32)) + (1 : Int32))), .val (.ref nb2), .val (.int ((((0 : Int32) + (1 : Int32)) + (1 : Int32)) + (1 : Int32))), .val (.int 5), .val (.int ((0 : Int32) + (5 : Int32))), .val (.int 112), .val (.int d2.toInt8.toInt32)]) rfl ?_
          show Steps p.tables e below (T22.setTop (mkF m 20 #[.val (.ref nb1), .val (.int (((((0 : Int32) + (1 : Int32)) + (1 : Int32)) + (1 : Int32)) + (1 : Int32))), .val (.ref nb2), .val (.int ((((0 : Int32) + (1 : Int32)) + (1 : Int32)) + (1 : Int32))), .val (.int 5), .val (.int ((0 : Int32) + (5 : Int32))), .val (.int 112), .val (.int d2.toInt8.toInt32)] [])) _
          refine XS.aloadN X22.here hx rfl (hb hby D13_20) rfl rfl ?_
          show Steps p.tables e below (T22.setTop (mkF m 21 #[.val (.ref nb1), .val (.int (((((0 : Int32) + (1 : Int32)) + (1 : Int32)) + (1 : Int32)) + (1 : Int32))), .val (.ref nb2), .val (.int ((((0 : Int32) + (1 : Int32)) + (1 : Int32)) + (1 : Int32))), .val (.int 5), .val (.int ((0 : Int32) + (5 : Int32))), .val (.int 112), .val (.int d2.toInt8.toInt32)] [(.ref nb2)])) _
          refine XS.iloadN X22.here hx rfl (hb hby D13_21) rfl ?_
          show Steps p.tables e below (T22.setTop (mkF m 22 #[.val (.ref nb1), .val (.int (((((0 : Int32) + (1 : Int32)) + (1 : Int32)) + (1 : Int32)) + (1 : Int32))), .val (.ref nb2), .val (.int ((((0 : Int32) + (1 : Int32)) + (1 : Int32)) + (1 : Int32))), .val (.int 5), .val (.int ((0 : Int32) + (5 : Int32))), .val (.int 112), .val (.int d2.toInt8.toInt32)] [(.int ((((0 : Int32) + (1 : Int32)) + (1 : Int32)) + (1 : Int32))), (.ref nb2)])) _
          refine XS.iinc X22.here hx rfl (hb hby D13_22) rfl (l' := #[.val (.ref nb1), .val (.int (((((0 : Int32) + (1 : Int32)) + (1 : Int32)) + (1 : Int32)) + (1 : Int32))), .val (.ref nb2), .val (.int (((((0 : Int32) + (1 : Int32)) + (1 : Int32)) + (1 : Int32)) + (1 : Int32))), .val (.int 5), .val (.int ((0 : Int32) + (5 : Int32))), .val (.int 112), .val (.int d2.toInt8.toInt32)]) rfl ?_
          show Steps p.tables e below (T22.setTop (mkF m 25 #[.val (.ref nb1), .val (.int (((((0 : Int32) + (1 : Int32)) + (1 : Int32)) + (1 : Int32)) + (1 : Int32))), .val (.ref nb2), .val (.int (((((0 : Int32) + (1 : Int32)) + (1 : Int32)) + (1 : Int32)) + (1 : Int32))), .val (.int 5), .val (.int ((0 : Int32) + (5 : Int32))), .val (.int 112), .val (.int d2.toInt8.toInt32)] [(.int ((((0 : Int32) + (1 : Int32)) + (1 : Int32)) + (1 : Int32))), (.ref nb2)])) _
          refine X22.baloadBytes hx (j := ((((0 : Int32) + (1 : Int32)) + (1 : Int32)) + (1 : Int32))) (v := (.int d3.toInt8.toInt32)) (by rw [e22q]; exact Ar28.1) (State.isArrayOf_alike hZ.alike Ar28.2.1) Ar28.2.2 hin29 hat29 (g := (mkF m 25 #[.val (.ref nb1), .val (.int (((((0 : Int32) + (1 : Int32)) + (1 : Int32)) + (1 : Int32)) + (1 : Int32))), .val (.ref nb2), .val (.int (((((0 : Int32) + (1 : Int32)) + (1 : Int32)) + (1 : Int32)) + (1 : Int32))), .val (.int 5), .val (.int ((0 : Int32) + (5 : Int32))), .val (.int 112), .val (.int d2.toInt8.toInt32)] [(.int ((((0 : Int32) + (1 : Int32)) + (1 : Int32)) + (1 : Int32))), (.ref nb2)])) rfl rfl (hb hby D13_25) _ ?_
          show Steps p.tables e below (T22.setTop (mkF m 26 #[.val (.ref nb1), .val (.int (((((0 : Int32) + (1 : Int32)) + (1 : Int32)) + (1 : Int32)) + (1 : Int32))), .val (.ref nb2), .val (.int (((((0 : Int32) + (1 : Int32)) + (1 : Int32)) + (1 : Int32)) + (1 : Int32))), .val (.int 5), .val (.int ((0 : Int32) + (5 : Int32))), .val (.int 112), .val (.int d2.toInt8.toInt32)] [(.int d3.toInt8.toInt32)])) _
          refine XS.istore X22.here hx rfl (hb hby D13_26) rfl (l' := #[.val (.ref nb1), .val (.int (((((0 : Int32) + (1 : Int32)) + (1 : Int32)) + (1 : Int32)) + (1 : Int32))), .val (.ref nb2), .val (.int (((((0 : Int32) + (1 : Int32)) + (1 : Int32)) + (1 : Int32)) + (1 : Int32))), .val (.int 5), .val (.int ((0 : Int32) + (5 : Int32))), .val (.int 112), .val (.int d3.toInt8.toInt32)]) rfl ?_
          show Steps p.tables e below (T22.setTop (mkF m 28 #[.val (.ref nb1), .val (.int (((((0 : Int32) + (1 : Int32)) + (1 : Int32)) + (1 : Int32)) + (1 : Int32))), .val (.ref nb2), .val (.int (((((0 : Int32) + (1 : Int32)) + (1 : Int32)) + (1 : Int32)) + (1 : Int32))), .val (.int 5), .val (.int ((0 : Int32) + (5 : Int32))), .val (.int 112), .val (.int d3.toInt8.toInt32)] [])) _
          refine XS.iload X22.here hx rfl (hb hby D13_28) rfl ?_
          show Steps p.tables e below (T22.setTop (mkF m 30 #[.val (.ref nb1), .val (.int (((((0 : Int32) + (1 : Int32)) + (1 : Int32)) + (1 : Int32)) + (1 : Int32))), .val (.ref nb2), .val (.int (((((0 : Int32) + (1 : Int32)) + (1 : Int32)) + (1 : Int32)) + (1 : Int32))), .val (.int 5), .val (.int ((0 : Int32) + (5 : Int32))), .val (.int 112), .val (.int d3.toInt8.toInt32)] [(.int 112)])) _
          refine XS.iload X22.here hx rfl (hb hby D13_30) rfl ?_
          show Steps p.tables e below (T22.setTop (mkF m 32 #[.val (.ref nb1), .val (.int (((((0 : Int32) + (1 : Int32)) + (1 : Int32)) + (1 : Int32)) + (1 : Int32))), .val (.ref nb2), .val (.int (((((0 : Int32) + (1 : Int32)) + (1 : Int32)) + (1 : Int32)) + (1 : Int32))), .val (.int 5), .val (.int ((0 : Int32) + (5 : Int32))), .val (.int 112), .val (.int d3.toInt8.toInt32)] [(.int d3.toInt8.toInt32), (.int 112)])) _
          exact st30 _ kk
        by_cases hm3 : own_M (112 : Int32) d3
        case pos =>
          have hd32 : ¬ (rr3 = (0 : Int32)) := by rw [ra3 hm3]; decide
          have hd33 : (((((0 : Int32) + (1 : Int32)) + (1 : Int32)) + (1 : Int32)) + (1 : Int32)) < ((0 : Int32) + (5 : Int32)) := by decide
          obtain ⟨cl34, Ar34, q34, S34, M34, H34, G34⟩ := id xV1
          have hin35 : ¬ ((((((0 : Int32) + (1 : Int32)) + (1 : Int32)) + (1 : Int32)) + (1 : Int32)) < 0 ∨ cl34.slots.size ≤ ((((((0 : Int32) + (1 : Int32)) + (1 : Int32)) + (1 : Int32)) + (1 : Int32))).toNatClampNeg) := inb_of S34 ⟨by decide, by decide⟩
          have hat35 : cl34.slots[((((((0 : Int32) + (1 : Int32)) + (1 : Int32)) + (1 : Int32)) + (1 : Int32))).toNatClampNeg]? = some (.int 115) := Has.at H34 (inb_of S34 ⟨by decide, by decide⟩) rfl
          obtain ⟨cl36, Ar36, q36, S36, M36, H36, G36⟩ := id xV2
          have hin37 : ¬ ((((((0 : Int32) + (1 : Int32)) + (1 : Int32)) + (1 : Int32)) + (1 : Int32)) < 0 ∨ cl36.slots.size ≤ ((((((0 : Int32) + (1 : Int32)) + (1 : Int32)) + (1 : Int32)) + (1 : Int32))).toNatClampNeg) := inb_of S36 ⟨by decide, by decide⟩
          have hat37 : cl36.slots[((((((0 : Int32) + (1 : Int32)) + (1 : Int32)) + (1 : Int32)) + (1 : Int32))).toNatClampNeg]? = some (.int d4.toInt8.toInt32) := Has.at H36 (inb_of S36 ⟨by decide, by decide⟩) rfl
          obtain ⟨_, _, ⟨T38, L38, k38, n38⟩, -, X38, ⟨Lc38, hQ38, l38, y38, z38⟩, st38⟩ := Jvm.LawKit.callS X30 hx (y := (⟨"java/lang/CharacterDataLatin1", "equalsIgnoreCase", "(BB)Z"⟩ : MethodName)) hown (mvT hZ (gw hw 126 rfl)) (mvT hZ (gw hw 127 rfl)) (mvT hZ (gw hw 128 rfl)) (mvT hZ (gw hw 129 rfl)) (by decide) (backOf (W := 0) (own_eic l Z a0 hw [] (115 : Int32) d4.toInt8.toInt32 h0 n0 Z0 (by decide) (by decide)) hZ (gw hw 129 rfl) (gw hw 128 rfl) (by decide) (by decide)) (g := (mkF m 32 #[.val (.ref nb1), .val (.int ((((((0 : Int32) + (1 : Int32)) + (1 : Int32)) + (1 : Int32)) + (1 : Int32)) + (1 : Int32))), .val (.ref nb2), .val (.int ((((((0 : Int32) + (1 : Int32)) + (1 : Int32)) + (1 : Int32)) + (1 : Int32)) + (1 : Int32))), .val (.int 5), .val (.int ((0 : Int32) + (5 : Int32))), .val (.int 115), .val (.int d4.toInt8.toInt32)] [(.int d4.toInt8.toInt32), (.int 115)])) rfl (by rw [hml]; rfl) (argsL := [(.int 115), (.int d4.toInt8.toInt32)]) (rest := []) (lenOf pd__BB_Z rfl) rfl (by show 2 * 0 + _ ≤ _; exact Nat.le_of_eq rfl) (hb hby D13_32) (fun _ _ => ⟨rfl, e30q, (by decide : 0 + 0 ≤ _), (by decide : 0 + 0 ≤ _)⟩)
          dsimp only [Pt.U, Pt.locs, Pt.cells, Pt.slots] at X38 l38 y38 z38 st38 hQ38
          subst l38 y38 z38
          obtain ⟨rr4, rfl, N38q, e38q, ra4, rb4⟩ := hQ38
          have N38 := Fr.app N30 N38q
          have pre39 : ∀ t, Steps p.tables e below (T38.setTop (mkF m 35 #[.val (.ref nb1), .val (.int ((((((0 : Int32) + (1 : Int32)) + (1 : Int32)) + (1 : Int32)) + (1 : Int32)) + (1 : Int32))), .val (.ref nb2), .val (.int ((((((0 : Int32) + (1 : Int32)) + (1 : Int32)) + (1 : Int32)) + (1 : Int32)) + (1 : Int32))), .val (.int 5), .val (.int ((0 : Int32) + (5 : Int32))), .val (.int 115), .val (.int d4.toInt8.toInt32)] [(.int rr4)])) t → Steps p.tables e below (s₁.setTop (entryFrame m #[(.ref nb1), (.int 0), (.ref nb2), (.int 0), (.int 5)] 8)) t := by
            intro t kk
            refine pre31 t ?_
            show Steps p.tables e below (T30.setTop (mkF m 35 #[.val (.ref nb1), .val (.int (((((0 : Int32) + (1 : Int32)) + (1 : Int32)) + (1 : Int32)) + (1 : Int32))), .val (.ref nb2), .val (.int (((((0 : Int32) + (1 : Int32)) + (1 : Int32)) + (1 : Int32)) + (1 : Int32))), .val (.int 5), .val (.int ((0 : Int32) + (5 : Int32))), .val (.int 112), .val (.int d3.toInt8.toInt32)] [(.int rr3)])) _
            refine XS.ifNo X30.here hx rfl (hb hby D13_35) rfl ((if0 _ _).trans (feq hd32).1) ?_
            show Steps p.tables e below (T30.setTop (mkF m 38 #[.val (.ref nb1), .val (.int (((((0 : Int32) + (1 : Int32)) + (1 : Int32)) + (1 : Int32)) + (1 : Int32))), .val (.ref nb2), .val (.int (((((0 : Int32) + (1 : Int32)) + (1 : Int32)) + (1 : Int32)) + (1 : Int32))), .val (.int 5), .val (.int ((0 : Int32) + (5 : Int32))), .val (.int 112), .val (.int d3.toInt8.toInt32)] [])) _
            refine XS.goto X30.here hx rfl (pc0 := 38) (pc' := 6) rfl (hb hby D13_38) (by decide) (by decide) ?_
            show Steps p.tables e below (T30.setTop (mkF m 6 #[.val (.ref nb1), .val (.int (((((0 : Int32) + (1 : Int32)) + (1 : Int32)) + (1 : Int32)) + (1 : Int32))), .val (.ref nb2), .val (.int (((((0 : Int32) + (1 : Int32)) + (1 : Int32)) + (1 : Int32)) + (1 : Int32))), .val (.int 5), .val (.int ((0 : Int32) + (5 : Int32))), .val (.int 112), .val (.int d3.toInt8.toInt32)] [])) _
            refine XS.iloadN X30.here hx rfl (hb hby D13_6) rfl ?_
            show Steps p.tables e below (T30.setTop (mkF m 7 #[.val (.ref nb1), .val (.int (((((0 : Int32) + (1 : Int32)) + (1 : Int32)) + (1 : Int32)) + (1 : Int32))), .val (.ref nb2), .val (.int (((((0 : Int32) + (1 : Int32)) + (1 : Int32)) + (1 : Int32)) + (1 : Int32))), .val (.int 5), .val (.int ((0 : Int32) + (5 : Int32))), .val (.int 112), .val (.int d3.toInt8.toInt32)] [(.int (((((0 : Int32) + (1 : Int32)) + (1 : Int32)) + (1 : Int32)) + (1 : Int32)))])) _
            refine XS.iload X30.here hx rfl (hb hby D13_7) rfl ?_
            show Steps p.tables e below (T30.setTop (mkF m 9 #[.val (.ref nb1), .val (.int (((((0 : Int32) + (1 : Int32)) + (1 : Int32)) + (1 : Int32)) + (1 : Int32))), .val (.ref nb2), .val (.int (((((0 : Int32) + (1 : Int32)) + (1 : Int32)) + (1 : Int32)) + (1 : Int32))), .val (.int 5), .val (.int ((0 : Int32) + (5 : Int32))), .val (.int 112), .val (.int d3.toInt8.toInt32)] [(.int ((0 : Int32) + (5 : Int32))), (.int (((((0 : Int32) + (1 : Int32)) + (1 : Int32)) + (1 : Int32)) + (1 : Int32)))])) _
            refine XS.icmpNo X30.here hx rfl (hb hby D13_9) rfl (tlt hd33).2.1 ?_
            show Steps p.tables e below (T30.setTop (mkF m 12 #[.val (.ref nb1), .val (.int (((((0 : Int32) + (1 : Int32)) + (1 : Int32)) + (1 : Int32)) + (1 : Int32))), .val (.ref nb2), .val (.int (((((0 : Int32) + (1 : Int32)) + (1 : Int32)) + (1 : Int32)) + (1 : Int32))), .val (.int 5), .val (.int ((0 : Int32) + (5 : Int32))), .val (.int 112), .val (.int d3.toInt8.toInt32)] [])) _
            refine XS.aloadN X30.here hx rfl (hb hby D13_12) rfl rfl ?_
            show Steps p.tables e below (T30.setTop (mkF m 13 #[.val (.ref nb1), .val (.int (((((0 : Int32) + (1 : Int32)) + (1 : Int32)) + (1 : Int32)) + (1 : Int32))), .val (.ref nb2), .val (.int (((((0 : Int32) + (1 : Int32)) + (1 : Int32)) + (1 : Int32)) + (1 : Int32))), .val (.int 5), .val (.int ((0 : Int32) + (5 : Int32))), .val (.int 112), .val (.int d3.toInt8.toInt32)] [(.ref nb1)])) _
            refine XS.iloadN X30.here hx rfl (hb hby D13_13) rfl ?_
            show Steps p.tables e below (T30.setTop (mkF m 14 #[.val (.ref nb1), .val (.int (((((0 : Int32) + (1 : Int32)) + (1 : Int32)) + (1 : Int32)) + (1 : Int32))), .val (.ref nb2), .val (.int (((((0 : Int32) + (1 : Int32)) + (1 : Int32)) + (1 : Int32)) + (1 : Int32))), .val (.int 5), .val (.int ((0 : Int32) + (5 : Int32))), .val (.int 112), .val (.int d3.toInt8.toInt32)] [(.int (((((0 : Int32) + (1 : Int32)) + (1 : Int32)) + (1 : Int32)) + (1 : Int32))), (.ref nb1)])) _
            refine XS.iinc X30.here hx rfl (hb hby D13_14) rfl (l' := #[.val (.ref nb1), .val (.int ((((((0 : Int32) + (1 : Int32)) + (1 : Int32)) + (1 : Int32)) + (1 : Int32)) + (1 : Int32))), .val (.ref nb2), .val (.int (((((0 : Int32) + (1 : Int32)) + (1 : Int32)) + (1 : Int32)) + (1 : Int32))), .val (.int 5), .val (.int ((0 : Int32) + (5 : Int32))), .val (.int 112), .val (.int d3.toInt8.toInt32)]) rfl ?_
            show Steps p.tables e below (T30.setTop (mkF m 17 #[.val (.ref nb1), .val (.int ((((((0 : Int32) + (1 : Int32)) + (1 : Int32)) + (1 : Int32)) + (1 : Int32)) + (1 : Int32))), .val (.ref nb2), .val (.int (((((0 : Int32) + (1 : Int32)) + (1 : Int32)) + (1 : Int32)) + (1 : Int32))), .val (.int 5), .val (.int ((0 : Int32) + (5 : Int32))), .val (.int 112), .val (.int d3.toInt8.toInt32)] [(.int (((((0 : Int32) + (1 : Int32)) + (1 : Int32)) + (1 : Int32)) + (1 : Int32))), (.ref nb1)])) _
            refine X30.baloadBytes hx (j := (((((0 : Int32) + (1 : Int32)) + (1 : Int32)) + (1 : Int32)) + (1 : Int32))) (v := (.int 115)) (by rw [e30q]; exact Ar34.1) (State.isArrayOf_alike hZ.alike Ar34.2.1) Ar34.2.2 hin35 hat35 (g := (mkF m 17 #[.val (.ref nb1), .val (.int ((((((0 : Int32) + (1 : Int32)) + (1 : Int32)) + (1 : Int32)) + (1 : Int32)) + (1 : Int32))), .val (.ref nb2), .val (.int (((((0 : Int32) + (1 : Int32)) + (1 : Int32)) + (1 : Int32)) + (1 : Int32))), .val (.int 5), .val (.int ((0 : Int32) + (5 : Int32))), .val (.int 112), .val (.int d3.toInt8.toInt32)] [(.int (((((0 : Int32) + (1 : Int32)) + (1 : Int32)) + (1 : Int32)) + (1 : Int32))), (.ref nb1)])) rfl rfl (hb hby D13_17) _ ?_
            show Steps p.tables e below (T30.setTop (mkF m 18 #[.val (.ref nb1), .val (.int ((((((0 : Int32) + (1 : Int32)) + (1 : Int32)) + (1 : Int32)) + (1 : Int32)) + (1 : Int32))), .val (.ref nb2), .val (.int (((((0 : Int32) + (1 : Int32)) + (1 : Int32)) + (1 : Int32)) + (1 : Int32))), .val (.int 5), .val (.int ((0 : Int32) + (5 : Int32))), .val (.int 112), .val (.int d3.toInt8.toInt32)] [(.int 115)])) _
            refine XS.istore X30.here hx rfl (hb hby D13_18) rfl (l' := #[.val (.ref nb1), .val (.int ((((((0 : Int32) + (1 : Int32)) + (1 : Int32)) + (1 : Int32)) + (1 : Int32)) + (1 : Int32))), .val (.ref nb2), .val (.int (((((0 : Int32) + (1 : Int32)) + (1 : Int32)) + (1 : Int32)) + (1 : Int32))), .val (.int 5), .val (.int ((0 : Int32) + (5 : Int32))), .val (.int 115), .val (.int d3.toInt8.toInt32)]) rfl ?_
            show Steps p.tables e below (T30.setTop (mkF m 20 #[.val (.ref nb1), .val (.int ((((((0 : Int32) + (1 : Int32)) + (1 : Int32)) + (1 : Int32)) + (1 : Int32)) + (1 : Int32))), .val (.ref nb2), .val (.int (((((0 : Int32) + (1 : Int32)) + (1 : Int32)) + (1 : Int32)) + (1 : Int32))), .val (.int 5), .val (.int ((0 : Int32) + (5 : Int32))), .val (.int 115), .val (.int d3.toInt8.toInt32)] [])) _
            refine XS.aloadN X30.here hx rfl (hb hby D13_20) rfl rfl ?_
            show Steps p.tables e below (T30.setTop (mkF m 21 #[.val (.ref nb1), .val (.int ((((((0 : Int32) + (1 : Int32)) + (1 : Int32)) + (1 : Int32)) + (1 : Int32)) + (1 : Int32))), .val (.ref nb2), .val (.int (((((0 : Int32) + (1 : Int32)) + (1 : Int32)) + (1 : Int32)) + (1 : Int32))), .val (.int 5), .val (.int ((0 : Int32) + (5 : Int32))), .val (.int 115), .val (.int d3.toInt8.toInt32)] [(.ref nb2)])) _
            refine XS.iloadN X30.here hx rfl (hb hby D13_21) rfl ?_
            show Steps p.tables e below (T30.setTop (mkF m 22 #[.val (.ref nb1), .val (.int ((((((0 : Int32) + (1 : Int32)) + (1 : Int32)) + (1 : Int32)) + (1 : Int32)) + (1 : Int32))), .val (.ref nb2), .val (.int (((((0 : Int32) + (1 : Int32)) + (1 : Int32)) + (1 : Int32)) + (1 : Int32))), .val (.int 5), .val (.int ((0 : Int32) + (5 : Int32))), .val (.int 115), .val (.int d3.toInt8.toInt32)] [(.int (((((0 : Int32) + (1 : Int32)) + (1 : Int32)) + (1 : Int32)) + (1 : Int32))), (.ref nb2)])) _
            refine XS.iinc X30.here hx rfl (hb hby D13_22) rfl (l' := #[.val (.ref nb1), .val (.int ((((((0 : Int32) + (1 : Int32)) + (1 : Int32)) + (1 : Int32)) + (1 : Int32)) + (1 : Int32))), .val (.ref nb2), .val (.int ((((((0 : Int32) + (1 : Int32)) + (1 : Int32)) + (1 : Int32)) + (1 : Int32)) + (1 : Int32))), .val (.int 5), .val (.int ((0 : Int32) + (5 : Int32))), .val (.int 115), .val (.int d3.toInt8.toInt32)]) rfl ?_
            show Steps p.tables e below (T30.setTop (mkF m 25 #[.val (.ref nb1), .val (.int ((((((0 : Int32) + (1 : Int32)) + (1 : Int32)) + (1 : Int32)) + (1 : Int32)) + (1 : Int32))), .val (.ref nb2), .val (.int ((((((0 : Int32) + (1 : Int32)) + (1 : Int32)) + (1 : Int32)) + (1 : Int32)) + (1 : Int32))), .val (.int 5), .val (.int ((0 : Int32) + (5 : Int32))), .val (.int 115), .val (.int d3.toInt8.toInt32)] [(.int (((((0 : Int32) + (1 : Int32)) + (1 : Int32)) + (1 : Int32)) + (1 : Int32))), (.ref nb2)])) _
            refine X30.baloadBytes hx (j := (((((0 : Int32) + (1 : Int32)) + (1 : Int32)) + (1 : Int32)) + (1 : Int32))) (v := (.int d4.toInt8.toInt32)) (by rw [e30q]; exact Ar36.1) (State.isArrayOf_alike hZ.alike Ar36.2.1) Ar36.2.2 hin37 hat37 (g := (mkF m 25 #[.val (.ref nb1), .val (.int ((((((0 : Int32) + (1 : Int32)) + (1 : Int32)) + (1 : Int32)) + (1 : Int32)) + (1 : Int32))), .val (.ref nb2), .val (.int ((((((0 : Int32) + (1 : Int32)) + (1 : Int32)) + (1 : Int32)) + (1 : Int32)) + (1 : Int32))), .val (.int 5), .val (.int ((0 : Int32) + (5 : Int32))), .val (.int 115), .val (.int d3.toInt8.toInt32)] [(.int (((((0 : Int32) + (1 : Int32)) + (1 : Int32)) + (1 : Int32)) + (1 : Int32))), (.ref nb2)])) rfl rfl (hb hby D13_25) _ ?_
            show Steps p.tables e below (T30.setTop (mkF m 26 #[.val (.ref nb1), .val (.int ((((((0 : Int32) + (1 : Int32)) + (1 : Int32)) + (1 : Int32)) + (1 : Int32)) + (1 : Int32))), .val (.ref nb2), .val (.int ((((((0 : Int32) + (1 : Int32)) + (1 : Int32)) + (1 : Int32)) + (1 : Int32)) + (1 : Int32))), .val (.int 5), .val (.int ((0 : Int32) + (5 : Int32))), .val (.int 115), .val (.int d3.toInt8.toInt32)] [(.int d4.toInt8.toInt32)])) _
            refine XS.istore X30.here hx rfl (hb hby D13_26) rfl (l' := #[.val (.ref nb1), .val (.int ((((((0 : Int32) + (1 : Int32)) + (1 : Int32)) + (1 : Int32)) + (1 : Int32)) + (1 : Int32))), .val (.ref nb2), .val (.int ((((((0 : Int32) + (1 : Int32)) + (1 : Int32)) + (1 : Int32)) + (1 : Int32)) + (1 : Int32))), .val (.int 5), .val (.int ((0 : Int32) + (5 : Int32))), .val (.int 115), .val (.int d4.toInt8.toInt32)]) rfl ?_
            show Steps p.tables e below (T30.setTop (mkF m 28 #[.val (.ref nb1), .val (.int ((((((0 : Int32) + (1 : Int32)) + (1 : Int32)) + (1 : Int32)) + (1 : Int32)) + (1 : Int32))), .val (.ref nb2), .val (.int ((((((0 : Int32) + (1 : Int32)) + (1 : Int32)) + (1 : Int32)) + (1 : Int32)) + (1 : Int32))), .val (.int 5), .val (.int ((0 : Int32) + (5 : Int32))), .val (.int 115), .val (.int d4.toInt8.toInt32)] [])) _
            refine XS.iload X30.here hx rfl (hb hby D13_28) rfl ?_
            show Steps p.tables e below (T30.setTop (mkF m 30 #[.val (.ref nb1), .val (.int ((((((0 : Int32) + (1 : Int32)) + (1 : Int32)) + (1 : Int32)) + (1 : Int32)) + (1 : Int32))), .val (.ref nb2), .val (.int ((((((0 : Int32) + (1 : Int32)) + (1 : Int32)) + (1 : Int32)) + (1 : Int32)) + (1 : Int32))), .val (.int 5), .val (.int ((0 : Int32) + (5 : Int32))), .val (.int 115), .val (.int d4.toInt8.toInt32)] [(.int 115)])) _
            refine XS.iload X30.here hx rfl (hb hby D13_30) rfl ?_
            show Steps p.tables e below (T30.setTop (mkF m 32 #[.val (.ref nb1), .val (.int ((((((0 : Int32) + (1 : Int32)) + (1 : Int32)) + (1 : Int32)) + (1 : Int32)) + (1 : Int32))), .val (.ref nb2), .val (.int ((((((0 : Int32) + (1 : Int32)) + (1 : Int32)) + (1 : Int32)) + (1 : Int32)) + (1 : Int32))), .val (.int 5), .val (.int ((0 : Int32) + (5 : Int32))), .val (.int 115), .val (.int d4.toInt8.toInt32)] [(.int d4.toInt8.toInt32), (.int 115)])) _
            exact st38 _ kk
          by_cases hm4 : own_M (115 : Int32) d4
          case pos =>
            have hd40 : ¬ (rr4 = (0 : Int32)) := by rw [ra4 hm4]; decide
            have hd41 : ¬ (((((((0 : Int32) + (1 : Int32)) + (1 : Int32)) + (1 : Int32)) + (1 : Int32)) + (1 : Int32)) < ((0 : Int32) + (5 : Int32))) := by decide
            obtain ⟨fs, hr, hrun, hended, hW, hsame⟩ := X38.leave (v := some (.int 1)) (fun h => by rw [Bd.returns] at h; cases h)
            refine ⟨_, _, pre39 _ ?_, hrun, hended, _, _, rfl, ?_, ⟨_, rfl⟩, hW, hsame.mono (by decide) (by decide)⟩
            · show Steps p.tables e below (T38.setTop (mkF m 35 #[.val (.ref nb1), .val (.int ((((((0 : Int32) + (1 : Int32)) + (1 : Int32)) + (1 : Int32)) + (1 : Int32)) + (1 : Int32))), .val (.ref nb2), .val (.int ((((((0 : Int32) + (1 : Int32)) + (1 : Int32)) + (1 : Int32)) + (1 : Int32)) + (1 : Int32))), .val (.int 5), .val (.int ((0 : Int32) + (5 : Int32))), .val (.int 115), .val (.int d4.toInt8.toInt32)] [(.int rr4)])) _
              refine XS.ifNo X38.here hx rfl (hb hby D13_35) rfl ((if0 _ _).trans (feq hd40).1) ?_
              show Steps p.tables e below (T38.setTop (mkF m 38 #[.val (.ref nb1), .val (.int ((((((0 : Int32) + (1 : Int32)) + (1 : Int32)) + (1 : Int32)) + (1 : Int32)) + (1 : Int32))), .val (.ref nb2), .val (.int ((((((0 : Int32) + (1 : Int32)) + (1 : Int32)) + (1 : Int32)) + (1 : Int32)) + (1 : Int32))), .val (.int 5), .val (.int ((0 : Int32) + (5 : Int32))), .val (.int 115), .val (.int d4.toInt8.toInt32)] [])) _
              refine XS.goto X38.here hx rfl (pc0 := 38) (pc' := 6) rfl (hb hby D13_38) (by decide) (by decide) ?_
              show Steps p.tables e below (T38.setTop (mkF m 6 #[.val (.ref nb1), .val (.int ((((((0 : Int32) + (1 : Int32)) + (1 : Int32)) + (1 : Int32)) + (1 : Int32)) + (1 : Int32))), .val (.ref nb2), .val (.int ((((((0 : Int32) + (1 : Int32)) + (1 : Int32)) + (1 : Int32)) + (1 : Int32)) + (1 : Int32))), .val (.int 5), .val (.int ((0 : Int32) + (5 : Int32))), .val (.int 115), .val (.int d4.toInt8.toInt32)] [])) _
              refine XS.iloadN X38.here hx rfl (hb hby D13_6) rfl ?_
              show Steps p.tables e below (T38.setTop (mkF m 7 #[.val (.ref nb1), .val (.int ((((((0 : Int32) + (1 : Int32)) + (1 : Int32)) + (1 : Int32)) + (1 : Int32)) + (1 : Int32))), .val (.ref nb2), .val (.int ((((((0 : Int32) + (1 : Int32)) + (1 : Int32)) + (1 : Int32)) + (1 : Int32)) + (1 : Int32))), .val (.int 5), .val (.int ((0 : Int32) + (5 : Int32))), .val (.int 115), .val (.int d4.toInt8.toInt32)] [(.int ((((((0 : Int32) + (1 : Int32)) + (1 : Int32)) + (1 : Int32)) + (1 : Int32)) + (1 : Int32)))])) _
              refine XS.iload X38.here hx rfl (hb hby D13_7) rfl ?_
              show Steps p.tables e below (T38.setTop (mkF m 9 #[.val (.ref nb1), .val (.int ((((((0 : Int32) + (1 : Int32)) + (1 : Int32)) + (1 : Int32)) + (1 : Int32)) + (1 : Int32))), .val (.ref nb2), .val (.int ((((((0 : Int32) + (1 : Int32)) + (1 : Int32)) + (1 : Int32)) + (1 : Int32)) + (1 : Int32))), .val (.int 5), .val (.int ((0 : Int32) + (5 : Int32))), .val (.int 115), .val (.int d4.toInt8.toInt32)] [(.int ((0 : Int32) + (5 : Int32))), (.int ((((((0 : Int32) + (1 : Int32)) + (1 : Int32)) + (1 : Int32)) + (1 : Int32)) + (1 : Int32)))])) _
              refine XS.icmpYes X38.here hx rfl (pc0 := 9) (pc' := 43) rfl (hb hby D13_9) rfl (flt hd41).2.1 (by decide) (by decide) ?_
              show Steps p.tables e below (T38.setTop (mkF m 43 #[.val (.ref nb1), .val (.int ((((((0 : Int32) + (1 : Int32)) + (1 : Int32)) + (1 : Int32)) + (1 : Int32)) + (1 : Int32))), .val (.ref nb2), .val (.int ((((((0 : Int32) + (1 : Int32)) + (1 : Int32)) + (1 : Int32)) + (1 : Int32)) + (1 : Int32))), .val (.int 5), .val (.int ((0 : Int32) + (5 : Int32))), .val (.int 115), .val (.int d4.toInt8.toInt32)] [])) _
              refine XS.iconst X38.here hx rfl (hb hby D13_43) ?_
              show Steps p.tables e below (T38.setTop (mkF m 44 #[.val (.ref nb1), .val (.int ((((((0 : Int32) + (1 : Int32)) + (1 : Int32)) + (1 : Int32)) + (1 : Int32)) + (1 : Int32))), .val (.ref nb2), .val (.int ((((((0 : Int32) + (1 : Int32)) + (1 : Int32)) + (1 : Int32)) + (1 : Int32)) + (1 : Int32))), .val (.int 5), .val (.int ((0 : Int32) + (5 : Int32))), .val (.int 115), .val (.int d4.toInt8.toInt32)] [(.int 1)])) _
              exact retN X38 hx (t := .boolean) Bd.returns (by simp) (hb hby D13_44) hr
            · show Q_own_rci5 Z nb1 nb2 kk1 kk2 d0 d1 d2 d3 d4 h0 n0 _ T38.heap _
              rw [e38q]
              exact ⟨1, rfl, N38, rfl, fun _ => rfl, fun q => absurd ⟨hm0, hm1, hm2, hm3, hm4⟩ q⟩
          case neg =>
            have hd42 : rr4 = (0 : Int32) := rb4 hm4
            obtain ⟨fs, hr, hrun, hended, hW, hsame⟩ := X38.leave (v := some (.int 0)) (fun h => by rw [Bd.returns] at h; cases h)
            refine ⟨_, _, pre39 _ ?_, hrun, hended, _, _, rfl, ?_, ⟨_, rfl⟩, hW, hsame.mono (by decide) (by decide)⟩
            · show Steps p.tables e below (T38.setTop (mkF m 35 #[.val (.ref nb1), .val (.int ((((((0 : Int32) + (1 : Int32)) + (1 : Int32)) + (1 : Int32)) + (1 : Int32)) + (1 : Int32))), .val (.ref nb2), .val (.int ((((((0 : Int32) + (1 : Int32)) + (1 : Int32)) + (1 : Int32)) + (1 : Int32)) + (1 : Int32))), .val (.int 5), .val (.int ((0 : Int32) + (5 : Int32))), .val (.int 115), .val (.int d4.toInt8.toInt32)] [(.int rr4)])) _
              refine XS.ifYes X38.here hx rfl (pc0 := 35) (pc' := 41) rfl (hb hby D13_35) rfl ((if0 _ _).trans (teq hd42).1) (by decide) (by decide) ?_
              show Steps p.tables e below (T38.setTop (mkF m 41 #[.val (.ref nb1), .val (.int ((((((0 : Int32) + (1 : Int32)) + (1 : Int32)) + (1 : Int32)) + (1 : Int32)) + (1 : Int32))), .val (.ref nb2), .val (.int ((((((0 : Int32) + (1 : Int32)) + (1 : Int32)) + (1 : Int32)) + (1 : Int32)) + (1 : Int32))), .val (.int 5), .val (.int ((0 : Int32) + (5 : Int32))), .val (.int 115), .val (.int d4.toInt8.toInt32)] [])) _
              refine XS.iconst X38.here hx rfl (hb hby D13_41) ?_
              show Steps p.tables e below (T38.setTop (mkF m 42 #[.val (.ref nb1), .val (.int ((((((0 : Int32) + (1 : Int32)) + (1 : Int32)) + (1 : Int32)) + (1 : Int32)) + (1 : Int32))), .val (.ref nb2), .val (.int ((((((0 : Int32) + (1 : Int32)) + (1 : Int32)) + (1 : Int32)) + (1 : Int32)) + (1 : Int32))), .val (.int 5), .val (.int ((0 : Int32) + (5 : Int32))), .val (.int 115), .val (.int d4.toInt8.toInt32)] [(.int 0)])) _
              exact retN X38 hx (t := .boolean) Bd.returns (by simp) (hb hby D13_42) hr
            · show Q_own_rci5 Z nb1 nb2 kk1 kk2 d0 d1 d2 d3 d4 h0 n0 _ T38.heap _
              rw [e38q]
              exact ⟨0, rfl, N38, rfl, fun q => absurd q.2.2.2.2 hm4, fun _ => rfl⟩
        case neg =>
          have hd43 : rr3 = (0 : Int32) := rb3 hm3
          obtain ⟨fs, hr, hrun, hended, hW, hsame⟩ := X30.leave (v := some (.int 0)) (fun h => by rw [Bd.returns] at h; cases h)
          refine ⟨_, _, pre31 _ ?_, hrun, hended, _, _, rfl, ?_, ⟨_, rfl⟩, hW, hsame.mono (by decide) (by decide)⟩
          · show Steps p.tables e below (T30.setTop (mkF m 35 #[.val (.ref nb1), .val (.int (((((0 : Int32) + (1 : Int32)) + (1 : Int32)) + (1 : Int32)) + (1 : Int32))), .val (.ref nb2), .val (.int (((((0 : Int32) + (1 : Int32)) + (1 : Int32)) + (1 : Int32)) + (1 : Int32))), .val (.int 5), .val (.int ((0 : Int32) + (5 : Int32))), .val (.int 112), .val (.int d3.toInt8.toInt32)] [(.int rr3)])) _
            refine XS.ifYes X30.here hx rfl (pc0 := 35) (pc' := 41) rfl (hb hby D13_35) rfl ((if0 _ _).trans (teq hd43).1) (by decide) (by decide) ?_
            show Steps p.tables e below (T30.setTop (mkF m 41 #[.val (.ref nb1), .val (.int (((((0 : Int32) + (1 : Int32)) + (1 : Int32)) + (1 : Int32)) + (1 : Int32))), .val (.ref nb2), .val (.int (((((0 : Int32) + (1 : Int32)) + (1 : Int32)) + (1 : Int32)) + (1 : Int32))), .val (.int 5), .val (.int ((0 : Int32) + (5 : Int32))), .val (.int 112), .val (.int d3.toInt8.toInt32)] [])) _
            refine XS.iconst X30.here hx rfl (hb hby D13_41) ?_
            show Steps p.tables e below (T30.setTop (mkF m 42 #[.val (.ref nb1), .val (.int (((((0 : Int32) + (1 : Int32)) + (1 : Int32)) + (1 : Int32)) + (1 : Int32))), .val (.ref nb2), .val (.int (((((0 : Int32) + (1 : Int32)) + (1 : Int32)) + (1 : Int32)) + (1 : Int32))), .val (.int 5), .val (.int ((0 : Int32) + (5 : Int32))), .val (.int 112), .val (.int d3.toInt8.toInt32)] [(.int 0)])) _
            exact retN X30 hx (t := .boolean) Bd.returns (by simp) (hb hby D13_42) hr
          · show Q_own_rci5 Z nb1 nb2 kk1 kk2 d0 d1 d2 d3 d4 h0 n0 _ T30.heap _
            rw [e30q]
            exact ⟨0, rfl, N30, rfl, fun q => absurd q.2.2.2.1 hm3, fun _ => rfl⟩
      case neg =>
        have hd44 : rr2 = (0 : Int32) := rb2 hm2
        obtain ⟨fs, hr, hrun, hended, hW, hsame⟩ := X22.leave (v := some (.int 0)) (fun h => by rw [Bd.returns] at h; cases h)
        refine ⟨_, _, pre23 _ ?_, hrun, hended, _, _, rfl, ?_, ⟨_, rfl⟩, hW, hsame.mono (by decide) (by decide)⟩
        · show Steps p.tables e below (T22.setTop (mkF m 35 #[.val (.ref nb1), .val (.int ((((0 : Int32) + (1 : Int32)) + (1 : Int32)) + (1 : Int32))), .val (.ref nb2), .val (.int ((((0 : Int32) + (1 : Int32)) + (1 : Int32)) + (1 : Int32))), .val (.int 5), .val (.int ((0 : Int32) + (5 : Int32))), .val (.int 116), .val (.int d2.toInt8.toInt32)] [(.int rr2)])) _
          refine XS.ifYes X22.here hx rfl (pc0 := 35) (pc' := 41) rfl (hb hby D13_35) rfl ((if0 _ _).trans (teq hd44).1) (by decide) (by decide) ?_
          show Steps p.tables e below (T22.setTop (mkF m 41 #[.val (.ref nb1), .val (.int ((((0 : Int32) + (1 : Int32)) + (1 : Int32)) + (1 : Int32))), .val (.ref nb2), .val (.int ((((0 : Int32) + (1 : Int32)) + (1 : Int32)) + (1 : Int32))), .val (.int 5), .val (.int ((0 : Int32) + (5 : Int32))), .val (.int 116), .val (.int d2.toInt8.toInt32)] [])) _
          refine XS.iconst X22.here hx rfl (hb hby D13_41) ?_
          show Steps p.tables e below (T22.setTop (mkF m 42 #[.val (.ref nb1), .val (.int ((((0 : Int32) + (1 : Int32)) + (1 : Int32)) + (1 : Int32))), .val (.ref nb2), .val (.int ((((0 : Int32) + (1 : Int32)) + (1 : Int32)) + (1 : Int32))), .val (.int 5), .val (.int ((0 : Int32) + (5 : Int32))), .val (.int 116), .val (.int d2.toInt8.toInt32)] [(.int 0)])) _
          exact retN X22 hx (t := .boolean) Bd.returns (by simp) (hb hby D13_42) hr
        · show Q_own_rci5 Z nb1 nb2 kk1 kk2 d0 d1 d2 d3 d4 h0 n0 _ T22.heap _
          rw [e22q]
          exact ⟨0, rfl, N22, rfl, fun q => absurd q.2.2.1 hm2, fun _ => rfl⟩
    case neg =>
      have hd45 : rr1 = (0 : Int32) := rb1 hm1
      obtain ⟨fs, hr, hrun, hended, hW, hsame⟩ := X14.leave (v := some (.int 0)) (fun h => by rw [Bd.returns] at h; cases h)
      refine ⟨_, _, pre15 _ ?_, hrun, hended, _, _, rfl, ?_, ⟨_, rfl⟩, hW, hsame.mono (by decide) (by decide)⟩
      · show Steps p.tables e below (T14.setTop (mkF m 35 #[.val (.ref nb1), .val (.int (((0 : Int32) + (1 : Int32)) + (1 : Int32))), .val (.ref nb2), .val (.int (((0 : Int32) + (1 : Int32)) + (1 : Int32))), .val (.int 5), .val (.int ((0 : Int32) + (5 : Int32))), .val (.int 116), .val (.int d1.toInt8.toInt32)] [(.int rr1)])) _
        refine XS.ifYes X14.here hx rfl (pc0 := 35) (pc' := 41) rfl (hb hby D13_35) rfl ((if0 _ _).trans (teq hd45).1) (by decide) (by decide) ?_
        show Steps p.tables e below (T14.setTop (mkF m 41 #[.val (.ref nb1), .val (.int (((0 : Int32) + (1 : Int32)) + (1 : Int32))), .val (.ref nb2), .val (.int (((0 : Int32) + (1 : Int32)) + (1 : Int32))), .val (.int 5), .val (.int ((0 : Int32) + (5 : Int32))), .val (.int 116), .val (.int d1.toInt8.toInt32)] [])) _
        refine XS.iconst X14.here hx rfl (hb hby D13_41) ?_
        show Steps p.tables e below (T14.setTop (mkF m 42 #[.val (.ref nb1), .val (.int (((0 : Int32) + (1 : Int32)) + (1 : Int32))), .val (.ref nb2), .val (.int (((0 : Int32) + (1 : Int32)) + (1 : Int32))), .val (.int 5), .val (.int ((0 : Int32) + (5 : Int32))), .val (.int 116), .val (.int d1.toInt8.toInt32)] [(.int 0)])) _
        exact retN X14 hx (t := .boolean) Bd.returns (by simp) (hb hby D13_42) hr
      · show Q_own_rci5 Z nb1 nb2 kk1 kk2 d0 d1 d2 d3 d4 h0 n0 _ T14.heap _
        rw [e14q]
        exact ⟨0, rfl, N14, rfl, fun q => absurd q.2.1 hm1, fun _ => rfl⟩
  case neg =>
    have hd46 : rr0 = (0 : Int32) := rb0 hm0
    obtain ⟨fs, hr, hrun, hended, hW, hsame⟩ := X6.leave (v := some (.int 0)) (fun h => by rw [Bd.returns] at h; cases h)
    refine ⟨_, _, pre7 _ ?_, hrun, hended, _, _, rfl, ?_, ⟨_, rfl⟩, hW, hsame.mono (by decide) (by decide)⟩
    · show Steps p.tables e below (T6.setTop (mkF m 35 #[.val (.ref nb1), .val (.int ((0 : Int32) + (1 : Int32))), .val (.ref nb2), .val (.int ((0 : Int32) + (1 : Int32))), .val (.int 5), .val (.int ((0 : Int32) + (5 : Int32))), .val (.int 104), .val (.int d0.toInt8.toInt32)] [(.int rr0)])) _
      refine XS.ifYes X6.here hx rfl (pc0 := 35) (pc' := 41) rfl (hb hby D13_35) rfl ((if0 _ _).trans (teq hd46).1) (by decide) (by decide) ?_
      show Steps p.tables e below (T6.setTop (mkF m 41 #[.val (.ref nb1), .val (.int ((0 : Int32) + (1 : Int32))), .val (.ref nb2), .val (.int ((0 : Int32) + (1 : Int32))), .val (.int 5), .val (.int ((0 : Int32) + (5 : Int32))), .val (.int 104), .val (.int d0.toInt8.toInt32)] [])) _
      refine XS.iconst X6.here hx rfl (hb hby D13_41) ?_
      show Steps p.tables e below (T6.setTop (mkF m 42 #[.val (.ref nb1), .val (.int ((0 : Int32) + (1 : Int32))), .val (.ref nb2), .val (.int ((0 : Int32) + (1 : Int32))), .val (.int 5), .val (.int ((0 : Int32) + (5 : Int32))), .val (.int 104), .val (.int d0.toInt8.toInt32)] [(.int 0)])) _
      exact retN X6 hx (t := .boolean) Bd.returns (by simp) (hb hby D13_42) hr
    · show Q_own_rci5 Z nb1 nb2 kk1 kk2 d0 d1 d2 d3 d4 h0 n0 _ T6.heap _
      rw [e6q]
      exact ⟨0, rfl, N6, rfl, fun q => absurd q.1 hm0, fun _ => rfl⟩
theorem ef_own_rm5 (m : MethodId) {ss1 : Addr} {ss2 : Addr} : entryFrame m #[(.ref ss1), (.int 1), (.int 0), (.ref ss2), (.int 0), (.int 5)] 9 = mkF m 0 #[.val (.ref ss1), .val (.int 1), .val (.int 0), .val (.ref ss2), .val (.int 0), .val (.int 5), .unset, .unset, .unset] [] := by first | (simp [entryFrame, mkF, argsToLocals, Value.category]; done) | rfl
def Q_own_rm5 (Z : State) (ss1 ss2 nb1 nb2 : Addr) (kk1 kk2 : ClassId) (d0 d1 d2 d3 d4 G1 : Int32) (h0 : Heap) (n0 : Nat) (v : Option Value) (h : Heap) (L : List Loc) : Prop := ∃ r : Int32, v = some (.int r) ∧ Fr n0 L ∧ h = h0 ∧ ((own_M (104 : Int32) d0 ∧ own_M (116 : Int32) d1 ∧ own_M (116 : Int32) d2 ∧ own_M (112 : Int32) d3 ∧ own_M (115 : Int32) d4) → r = 1) ∧ (¬ (own_M (104 : Int32) d0 ∧ own_M (116 : Int32) d1 ∧ own_M (116 : Int32) d2 ∧ own_M (112 : Int32) d3 ∧ own_M (115 : Int32) d4) → r = 0)
set_option maxRecDepth 65536 in
set_option maxHeartbeats 40000000 in
theorem own_rm5 (l : Launch) (Z : State) (a0 : Array Value) (hw : ∀ d ∈ tables_1, d.before a0 Z = true) (ws : List Jvm.Cond) (ss1 ss2 nb1 nb2 : Addr) (kk1 kk2 : ClassId) (d0 d1 d2 d3 d4 G1 : Int32) (h0 : Heap) (n0 : Nat) (Z0 : n0 ≤ h0.size) (xE1 : Exa Z h0 ss1 "java/lang/String") (xF1 : Fld Z h0 ss1 "java/lang/String" "value" "[B" (.ref nb1)) (xC1 : Fld Z h0 ss1 "java/lang/String" "coder" "B" (.int 0)) (xV1 : Arv Z h0 nb1 kk1 .byte (5 : Int32) [(.int 104), (.int 116), (.int 116), (.int 112), (.int 115)] (.int 0)) (xE2 : Exa Z h0 ss2 "java/lang/String") (xF2 : Fld Z h0 ss2 "java/lang/String" "value" "[B" (.ref nb2)) (xC2 : Fld Z h0 ss2 "java/lang/String" "coder" "B" (.int 0)) (xV2 : Arv Z h0 nb2 kk2 .byte (5 : Int32) (own_B [d0, d1, d2, d3, d4]) (.int 0)) (O2 : Sta Z Z.heap "java/lang/String" "COMPACT_STRINGS" "Z" (.int G1)) (P5 : ¬ G1 = (0 : Int32)) (XO : Old Z n0 h0) :
    MetFree l (⟨"java/lang/String", "regionMatches", "(ZILjava/lang/String;II)Z"⟩ : MethodName) (head1 (Jvm.Cond.code (⟨"java/lang/String", "regionMatches", "(ZILjava/lang/String;II)Z"⟩ : MethodName) jdk_42_method_74_code 9 (some .boolean) :: ws) ({ frames := 2, cells := 0, slots := 0, locals := 33 } : Room)) (fun a U => a = #[(.ref ss1), (.int 1), (.int 0), (.ref ss2), (.int 0), (.int 5)] ∧ Z.Warmed39 U.vm ∧ U.heap = h0) (fun _ _ _ _ _ => True) (fun _ U o U' => ∃ v L, o = .returned v ∧ Q_own_rm5 Z ss1 ss2 nb1 nb2 kk1 kk2 d0 d1 d2 d3 d4 G1 h0 n0 v U'.heap L ∧ FrameEnd U o U' L ({ frames := 2, cells := 0, slots := 0, locals := 33 } : Room).cells ({ frames := 2, cells := 0, slots := 0, locals := 33 } : Room).slots) := by
  refine MetFree.of_bodySF (plainFor_of_name pn_java_lang_String) hisR ?_
  intro p e s m args below meth c s₁ Bd hml0 hP hK
  obtain ⟨rfl, hZ, hh⟩ := hP
  have hx := Bd.exec
  have hby := Bd.bytes
  have hml : c.maxLocals = 9 := hml0
  have hown : s.vm.findClass "java/lang/String" = some m.cls := findClass_of_methodNamed Bd.named
  have hnm := (name_of_methodNamed Bd.named Bd.method).1
  have X0 : Stand p l e ({ frames := 2, cells := 0, slots := 0, locals := 33 } : Room) s m #[(.ref ss1), (.int 1), (.int 0), (.ref ss2), (.int 0), (.int 5)] below meth c s₁ [] 0 0 := Stand.of_body Bd
  have e0 : s₁.heap = h0 := by rw [← hh, Bd.state]; rfl
  have N0 := Fr.nil n0
  have pre0 : ∀ t, Steps p.tables e below (s₁.setTop (mkF m 0 #[.val (.ref ss1), .val (.int 1), .val (.int 0), .val (.ref ss2), .val (.int 0), .val (.int 5), .unset, .unset, .unset] [])) t → Steps p.tables e below (s₁.setTop (entryFrame m #[(.ref ss1), (.int 1), (.int 0), (.ref ss2), (.int 0), (.int 5)] 9)) t := fun t k => castTop (ef_own_rm5 m) k
  have hd1 : ¬ ((1 : Int32) = (0 : Int32)) := by decide
  have hd2 : ¬ ((0 : Int32) < (0 : Int32)) := by decide
  have hd3 : ¬ ((0 : Int32) < (0 : Int32)) := by decide
  obtain ⟨cq4, kq4, q4a, q4b, q4c⟩ := isOf hZ e0 xE1
  obtain ⟨_, _, ⟨T4, L4, k4, n4⟩, -, X4, ⟨Lc4, hQ4, l4, y4, z4⟩, st4⟩ := X0.virtualBack hx (y := (⟨"java/lang/String", "length", "()I"⟩ : MethodName)) (z := (⟨"java/lang/String", "length", "()I"⟩ : MethodName)) hown (mvT hZ (gw hw 72 rfl)) (mvT hZ (gw hw 35 rfl)) (notFace_of_selects (args := #[]) (mvT hZ (gw hw 37 rfl))) (mvT hZ (gw hw 37 rfl)) (mvT hZ (gw hw 36 rfl)) (by decide) (backOf (W := 2) (own_slen l Z a0 hw [] ss1 nb1 kk1 (5 : Int32) [(.int 104), (.int 116), (.int 116), (.int 112), (.int 115)] G1 h0 n0 Z0 xE1 xF1 xC1 xV1 O2 P5 XO) hZ (gw hw 38 rfl) (gw hw 10 rfl) (by decide) (by decide)) q4a q4c (g := (mkF m 27 #[.val (.ref ss1), .val (.int 1), .val (.int 0), .val (.ref ss2), .val (.int 0), .val (.int 5), .unset, .unset, .unset] [(.ref ss1), (.long ((0 : Int32).toInt64))])) rfl (by rw [hml]; rfl) (Steps.refl _) (argsL := []) (rest := [(.long ((0 : Int32).toInt64))]) (lenOf pd___I rfl) rfl (by show 2 * 0 + _ ≤ _; exact Nat.le_of_eq rfl) (hb hby D14_27) (fun _ _ => ⟨rfl, e0, (by decide : 0 + 0 ≤ _), (by decide : 0 + 0 ≤ _)⟩)
  dsimp only [Pt.U, Pt.locs, Pt.cells, Pt.slots] at X4 l4 y4 z4 st4 hQ4
  subst l4 y4 z4
  obtain ⟨rfl, N4q, e4q⟩ := hQ4
  have N4 := Fr.app N0 N4q
  have pre5 : ∀ t, Steps p.tables e below (T4.setTop (mkF m 30 #[.val (.ref ss1), .val (.int 1), .val (.int 0), .val (.ref ss2), .val (.int 0), .val (.int 5), .unset, .unset, .unset] [(.int 5), (.long ((0 : Int32).toInt64))])) t → Steps p.tables e below (s₁.setTop (entryFrame m #[(.ref ss1), (.int 1), (.int 0), (.ref ss2), (.int 0), (.int 5)] 9)) t := by
    intro t kk
    refine pre0 t ?_
    show Steps p.tables e below (s₁.setTop (mkF m 0 #[.val (.ref ss1), .val (.int 1), .val (.int 0), .val (.ref ss2), .val (.int 0), .val (.int 5), .unset, .unset, .unset] [])) _
    refine XS.iloadN X0.here hx rfl (hb hby D14_0) rfl ?_
    show Steps p.tables e below (s₁.setTop (mkF m 1 #[.val (.ref ss1), .val (.int 1), .val (.int 0), .val (.ref ss2), .val (.int 0), .val (.int 5), .unset, .unset, .unset] [(.int 1)])) _
    refine XS.ifYes X0.here hx rfl (pc0 := 1) (pc' := 15) rfl (hb hby D14_1) rfl ((if0 _ _).trans (feq hd1).2) (by decide) (by decide) ?_
    show Steps p.tables e below (s₁.setTop (mkF m 15 #[.val (.ref ss1), .val (.int 1), .val (.int 0), .val (.ref ss2), .val (.int 0), .val (.int 5), .unset, .unset, .unset] [])) _
    refine XS.iload X0.here hx rfl (hb hby D14_15) rfl ?_
    show Steps p.tables e below (s₁.setTop (mkF m 17 #[.val (.ref ss1), .val (.int 1), .val (.int 0), .val (.ref ss2), .val (.int 0), .val (.int 5), .unset, .unset, .unset] [(.int 0)])) _
    refine XS.ifNo X0.here hx rfl (hb hby D14_17) rfl ((if0 _ _).trans (flt hd2).1) ?_
    show Steps p.tables e below (s₁.setTop (mkF m 20 #[.val (.ref ss1), .val (.int 1), .val (.int 0), .val (.ref ss2), .val (.int 0), .val (.int 5), .unset, .unset, .unset] [])) _
    refine XS.iloadN X0.here hx rfl (hb hby D14_20) rfl ?_
    show Steps p.tables e below (s₁.setTop (mkF m 21 #[.val (.ref ss1), .val (.int 1), .val (.int 0), .val (.ref ss2), .val (.int 0), .val (.int 5), .unset, .unset, .unset] [(.int 0)])) _
    refine XS.ifNo X0.here hx rfl (hb hby D14_21) rfl ((if0 _ _).trans (flt hd3).1) ?_
    show Steps p.tables e below (s₁.setTop (mkF m 24 #[.val (.ref ss1), .val (.int 1), .val (.int 0), .val (.ref ss2), .val (.int 0), .val (.int 5), .unset, .unset, .unset] [])) _
    refine XS.iloadN X0.here hx rfl (hb hby D14_24) rfl ?_
    show Steps p.tables e below (s₁.setTop (mkF m 25 #[.val (.ref ss1), .val (.int 1), .val (.int 0), .val (.ref ss2), .val (.int 0), .val (.int 5), .unset, .unset, .unset] [(.int 0)])) _
    refine XS.i2l X0.here hx rfl (hb hby D14_25) rfl ?_
    show Steps p.tables e below (s₁.setTop (mkF m 26 #[.val (.ref ss1), .val (.int 1), .val (.int 0), .val (.ref ss2), .val (.int 0), .val (.int 5), .unset, .unset, .unset] [(.long ((0 : Int32).toInt64))])) _
    refine XS.aloadN X0.here hx rfl (hb hby D14_26) rfl rfl ?_
    show Steps p.tables e below (s₁.setTop (mkF m 27 #[.val (.ref ss1), .val (.int 1), .val (.int 0), .val (.ref ss2), .val (.int 0), .val (.int 5), .unset, .unset, .unset] [(.ref ss1), (.long ((0 : Int32).toInt64))])) _
    exact st4.trans kk
  have hd6 : ¬ ((0 : Int32) < (lcmpW ((0 : Int32).toInt64) (((5 : Int32).toInt64) - ((5 : Int32).toInt64)))) := by decide
  obtain ⟨cq7, kq7, q7a, q7b, q7c⟩ := isOf hZ e4q xE2
  obtain ⟨_, _, ⟨T7, L7, k7, n7⟩, -, X7, ⟨Lc7, hQ7, l7, y7, z7⟩, st7⟩ := X4.virtualBack hx (y := (⟨"java/lang/String", "length", "()I"⟩ : MethodName)) (z := (⟨"java/lang/String", "length", "()I"⟩ : MethodName)) hown (mvT hZ (gw hw 72 rfl)) (mvT hZ (gw hw 35 rfl)) (notFace_of_selects (args := #[]) (mvT hZ (gw hw 37 rfl))) (mvT hZ (gw hw 37 rfl)) (mvT hZ (gw hw 36 rfl)) (by decide) (backOf (W := 2) (own_slen l Z a0 hw [] ss2 nb2 kk2 (5 : Int32) (own_B [d0, d1, d2, d3, d4]) G1 h0 n0 Z0 xE2 xF2 xC2 xV2 O2 P5 XO) hZ (gw hw 38 rfl) (gw hw 10 rfl) (by decide) (by decide)) q7a q7c (g := (mkF m 43 #[.val (.ref ss1), .val (.int 1), .val (.int 0), .val (.ref ss2), .val (.int 0), .val (.int 5), .unset, .unset, .unset] [(.ref ss2), (.long ((0 : Int32).toInt64))])) rfl (by rw [hml]; rfl) (Steps.refl _) (argsL := []) (rest := [(.long ((0 : Int32).toInt64))]) (lenOf pd___I rfl) rfl (by show 2 * 0 + _ ≤ _; exact Nat.le_of_eq rfl) (hb hby D14_43) (fun _ _ => ⟨rfl, e4q, (by decide : 0 + 0 ≤ _), (by decide : 0 + 0 ≤ _)⟩)
  dsimp only [Pt.U, Pt.locs, Pt.cells, Pt.slots] at X7 l7 y7 z7 st7 hQ7
  subst l7 y7 z7
  obtain ⟨rfl, N7q, e7q⟩ := hQ7
  have N7 := Fr.app N4 N7q
  have pre8 : ∀ t, Steps p.tables e below (T7.setTop (mkF m 46 #[.val (.ref ss1), .val (.int 1), .val (.int 0), .val (.ref ss2), .val (.int 0), .val (.int 5), .unset, .unset, .unset] [(.int 5), (.long ((0 : Int32).toInt64))])) t → Steps p.tables e below (s₁.setTop (entryFrame m #[(.ref ss1), (.int 1), (.int 0), (.ref ss2), (.int 0), (.int 5)] 9)) t := by
    intro t kk
    refine pre5 t ?_
    show Steps p.tables e below (T4.setTop (mkF m 30 #[.val (.ref ss1), .val (.int 1), .val (.int 0), .val (.ref ss2), .val (.int 0), .val (.int 5), .unset, .unset, .unset] [(.int 5), (.long ((0 : Int32).toInt64))])) _
    refine XS.i2l X4.here hx rfl (hb hby D14_30) rfl ?_
    show Steps p.tables e below (T4.setTop (mkF m 31 #[.val (.ref ss1), .val (.int 1), .val (.int 0), .val (.ref ss2), .val (.int 0), .val (.int 5), .unset, .unset, .unset] [(.long ((5 : Int32).toInt64)), (.long ((0 : Int32).toInt64))])) _
    refine XS.iload X4.here hx rfl (hb hby D14_31) rfl ?_
    show Steps p.tables e below (T4.setTop (mkF m 33 #[.val (.ref ss1), .val (.int 1), .val (.int 0), .val (.ref ss2), .val (.int 0), .val (.int 5), .unset, .unset, .unset] [(.int 5), (.long ((5 : Int32).toInt64)), (.long ((0 : Int32).toInt64))])) _
    refine XS.i2l X4.here hx rfl (hb hby D14_33) rfl ?_
    show Steps p.tables e below (T4.setTop (mkF m 34 #[.val (.ref ss1), .val (.int 1), .val (.int 0), .val (.ref ss2), .val (.int 0), .val (.int 5), .unset, .unset, .unset] [(.long ((5 : Int32).toInt64)), (.long ((5 : Int32).toInt64)), (.long ((0 : Int32).toInt64))])) _
    refine XS.lsub X4.here hx rfl (hb hby D14_34) rfl ?_
    show Steps p.tables e below (T4.setTop (mkF m 35 #[.val (.ref ss1), .val (.int 1), .val (.int 0), .val (.ref ss2), .val (.int 0), .val (.int 5), .unset, .unset, .unset] [(.long (((5 : Int32).toInt64) - ((5 : Int32).toInt64))), (.long ((0 : Int32).toInt64))])) _
    refine XS.lcmp X4.here hx rfl (hb hby D14_35) rfl ?_
    show Steps p.tables e below (T4.setTop (mkF m 36 #[.val (.ref ss1), .val (.int 1), .val (.int 0), .val (.ref ss2), .val (.int 0), .val (.int 5), .unset, .unset, .unset] [(.int (lcmpW ((0 : Int32).toInt64) (((5 : Int32).toInt64) - ((5 : Int32).toInt64))))])) _
    refine XS.ifNo X4.here hx rfl (hb hby D14_36) rfl ((if0 _ _).trans (flt hd6).2.2.1) ?_
    show Steps p.tables e below (T4.setTop (mkF m 39 #[.val (.ref ss1), .val (.int 1), .val (.int 0), .val (.ref ss2), .val (.int 0), .val (.int 5), .unset, .unset, .unset] [])) _
    refine XS.iload X4.here hx rfl (hb hby D14_39) rfl ?_
    show Steps p.tables e below (T4.setTop (mkF m 41 #[.val (.ref ss1), .val (.int 1), .val (.int 0), .val (.ref ss2), .val (.int 0), .val (.int 5), .unset, .unset, .unset] [(.int 0)])) _
    refine XS.i2l X4.here hx rfl (hb hby D14_41) rfl ?_
    show Steps p.tables e below (T4.setTop (mkF m 42 #[.val (.ref ss1), .val (.int 1), .val (.int 0), .val (.ref ss2), .val (.int 0), .val (.int 5), .unset, .unset, .unset] [(.long ((0 : Int32).toInt64))])) _
    refine XS.aloadN X4.here hx rfl (hb hby D14_42) rfl rfl ?_
    show Steps p.tables e below (T4.setTop (mkF m 43 #[.val (.ref ss1), .val (.int 1), .val (.int 0), .val (.ref ss2), .val (.int 0), .val (.int 5), .unset, .unset, .unset] [(.ref ss2), (.long ((0 : Int32).toInt64))])) _
    exact st7.trans kk
  have hd9 : ¬ ((0 : Int32) < (lcmpW ((0 : Int32).toInt64) (((5 : Int32).toInt64) - ((5 : Int32).toInt64)))) := by decide
  obtain ⟨T10, X10, e10, st10⟩ := getF X7 hx hZ hown (host := "") (Or.inl (gw hw 30 rfl)) Via.refl e7q xF1 (g := (mkF m 58 #[.val (.ref ss1), .val (.int 1), .val (.int 0), .val (.ref ss2), .val (.int 0), .val (.int 5), .unset, .unset, .unset] [(.ref ss1)])) rfl rfl (hb hby D14_58)
  have pre11 : ∀ t, Steps p.tables e below (T10.setTop (mkF m 61 #[.val (.ref ss1), .val (.int 1), .val (.int 0), .val (.ref ss2), .val (.int 0), .val (.int 5), .unset, .unset, .unset] [(.ref nb1)])) t → Steps p.tables e below (s₁.setTop (entryFrame m #[(.ref ss1), (.int 1), (.int 0), (.ref ss2), (.int 0), (.int 5)] 9)) t := by
    intro t kk
    refine pre8 t ?_
    show Steps p.tables e below (T7.setTop (mkF m 46 #[.val (.ref ss1), .val (.int 1), .val (.int 0), .val (.ref ss2), .val (.int 0), .val (.int 5), .unset, .unset, .unset] [(.int 5), (.long ((0 : Int32).toInt64))])) _
    refine XS.i2l X7.here hx rfl (hb hby D14_46) rfl ?_
    show Steps p.tables e below (T7.setTop (mkF m 47 #[.val (.ref ss1), .val (.int 1), .val (.int 0), .val (.ref ss2), .val (.int 0), .val (.int 5), .unset, .unset, .unset] [(.long ((5 : Int32).toInt64)), (.long ((0 : Int32).toInt64))])) _
    refine XS.iload X7.here hx rfl (hb hby D14_47) rfl ?_
    show Steps p.tables e below (T7.setTop (mkF m 49 #[.val (.ref ss1), .val (.int 1), .val (.int 0), .val (.ref ss2), .val (.int 0), .val (.int 5), .unset, .unset, .unset] [(.int 5), (.long ((5 : Int32).toInt64)), (.long ((0 : Int32).toInt64))])) _
    refine XS.i2l X7.here hx rfl (hb hby D14_49) rfl ?_
    show Steps p.tables e below (T7.setTop (mkF m 50 #[.val (.ref ss1), .val (.int 1), .val (.int 0), .val (.ref ss2), .val (.int 0), .val (.int 5), .unset, .unset, .unset] [(.long ((5 : Int32).toInt64)), (.long ((5 : Int32).toInt64)), (.long ((0 : Int32).toInt64))])) _
    refine XS.lsub X7.here hx rfl (hb hby D14_50) rfl ?_
    show Steps p.tables e below (T7.setTop (mkF m 51 #[.val (.ref ss1), .val (.int 1), .val (.int 0), .val (.ref ss2), .val (.int 0), .val (.int 5), .unset, .unset, .unset] [(.long (((5 : Int32).toInt64) - ((5 : Int32).toInt64))), (.long ((0 : Int32).toInt64))])) _
    refine XS.lcmp X7.here hx rfl (hb hby D14_51) rfl ?_
    show Steps p.tables e below (T7.setTop (mkF m 52 #[.val (.ref ss1), .val (.int 1), .val (.int 0), .val (.ref ss2), .val (.int 0), .val (.int 5), .unset, .unset, .unset] [(.int (lcmpW ((0 : Int32).toInt64) (((5 : Int32).toInt64) - ((5 : Int32).toInt64))))])) _
    refine XS.ifYes X7.here hx rfl (pc0 := 52) (pc' := 57) rfl (hb hby D14_52) rfl ((if0 _ _).trans (flt hd9).2.2.2) (by decide) (by decide) ?_
    show Steps p.tables e below (T7.setTop (mkF m 57 #[.val (.ref ss1), .val (.int 1), .val (.int 0), .val (.ref ss2), .val (.int 0), .val (.int 5), .unset, .unset, .unset] [])) _
    refine XS.aloadN X7.here hx rfl (hb hby D14_57) rfl rfl ?_
    show Steps p.tables e below (T7.setTop (mkF m 58 #[.val (.ref ss1), .val (.int 1), .val (.int 0), .val (.ref ss2), .val (.int 0), .val (.int 5), .unset, .unset, .unset] [(.ref ss1)])) _
    exact st10 _ kk
  obtain ⟨T12, X12, e12, st12⟩ := getF X10 hx hZ hown (host := "") (Or.inl (gw hw 30 rfl)) Via.refl e10 xF2 (g := (mkF m 64 #[.val (.ref ss1), .val (.int 1), .val (.int 0), .val (.ref ss2), .val (.int 0), .val (.int 5), .val (.ref nb1), .unset, .unset] [(.ref ss2)])) rfl rfl (hb hby D14_64)
  have pre13 : ∀ t, Steps p.tables e below (T12.setTop (mkF m 67 #[.val (.ref ss1), .val (.int 1), .val (.int 0), .val (.ref ss2), .val (.int 0), .val (.int 5), .val (.ref nb1), .unset, .unset] [(.ref nb2)])) t → Steps p.tables e below (s₁.setTop (entryFrame m #[(.ref ss1), (.int 1), (.int 0), (.ref ss2), (.int 0), (.int 5)] 9)) t := by
    intro t kk
    refine pre11 t ?_
    show Steps p.tables e below (T10.setTop (mkF m 61 #[.val (.ref ss1), .val (.int 1), .val (.int 0), .val (.ref ss2), .val (.int 0), .val (.int 5), .unset, .unset, .unset] [(.ref nb1)])) _
    refine XS.astore X10.here hx rfl (hb hby D14_61) rfl rfl (l' := #[.val (.ref ss1), .val (.int 1), .val (.int 0), .val (.ref ss2), .val (.int 0), .val (.int 5), .val (.ref nb1), .unset, .unset]) rfl ?_
    show Steps p.tables e below (T10.setTop (mkF m 63 #[.val (.ref ss1), .val (.int 1), .val (.int 0), .val (.ref ss2), .val (.int 0), .val (.int 5), .val (.ref nb1), .unset, .unset] [])) _
    refine XS.aloadN X10.here hx rfl (hb hby D14_63) rfl rfl ?_
    show Steps p.tables e below (T10.setTop (mkF m 64 #[.val (.ref ss1), .val (.int 1), .val (.int 0), .val (.ref ss2), .val (.int 0), .val (.int 5), .val (.ref nb1), .unset, .unset] [(.ref ss2)])) _
    exact st12 _ kk
  obtain ⟨cq14, kq14, q14a, q14b, q14c⟩ := isOf hZ e12 xE1
  obtain ⟨_, _, ⟨T14, L14, k14, n14⟩, -, X14, ⟨Lc14, hQ14, l14, y14, z14⟩, st14⟩ := X12.virtualBack hx (y := (⟨"java/lang/String", "coder", "()B"⟩ : MethodName)) (z := (⟨"java/lang/String", "coder", "()B"⟩ : MethodName)) hown (mvT hZ (gw hw 39 rfl)) (mvT hZ (gw hw 40 rfl)) (notFace_of_selects (args := #[]) (mvT hZ (gw hw 42 rfl))) (mvT hZ (gw hw 42 rfl)) (mvT hZ (gw hw 41 rfl)) (by decide) (backOf (W := 0) (own_coder l Z a0 hw [] ss1 G1 h0 n0 Z0 xC1 O2 P5 XO) hZ (gw hw 43 rfl) (gw hw 10 rfl) (by decide) (by decide)) q14a q14c (g := (mkF m 70 #[.val (.ref ss1), .val (.int 1), .val (.int 0), .val (.ref ss2), .val (.int 0), .val (.int 5), .val (.ref nb1), .val (.ref nb2), .unset] [(.ref ss1)])) rfl (by rw [hml]; rfl) (Steps.refl _) (argsL := []) (rest := []) (lenOf pd___B rfl) rfl (by show 2 * 0 + _ ≤ _; exact Nat.le_of_eq rfl) (hb hby D14_70) (fun _ _ => ⟨rfl, e12, (by decide : 0 + 0 ≤ _), (by decide : 0 + 0 ≤ _)⟩)
  dsimp only [Pt.U, Pt.locs, Pt.cells, Pt.slots] at X14 l14 y14 z14 st14 hQ14
  subst l14 y14 z14
  obtain ⟨rfl, N14q, e14q⟩ := hQ14
  have N14 := Fr.app N7 N14q
  have pre15 : ∀ t, Steps p.tables e below (T14.setTop (mkF m 73 #[.val (.ref ss1), .val (.int 1), .val (.int 0), .val (.ref ss2), .val (.int 0), .val (.int 5), .val (.ref nb1), .val (.ref nb2), .unset] [(.int 0)])) t → Steps p.tables e below (s₁.setTop (entryFrame m #[(.ref ss1), (.int 1), (.int 0), (.ref ss2), (.int 0), (.int 5)] 9)) t := by
    intro t kk
    refine pre13 t ?_
    show Steps p.tables e below (T12.setTop (mkF m 67 #[.val (.ref ss1), .val (.int 1), .val (.int 0), .val (.ref ss2), .val (.int 0), .val (.int 5), .val (.ref nb1), .unset, .unset] [(.ref nb2)])) _
    refine XS.astore X12.here hx rfl (hb hby D14_67) rfl rfl (l' := #[.val (.ref ss1), .val (.int 1), .val (.int 0), .val (.ref ss2), .val (.int 0), .val (.int 5), .val (.ref nb1), .val (.ref nb2), .unset]) rfl ?_
    show Steps p.tables e below (T12.setTop (mkF m 69 #[.val (.ref ss1), .val (.int 1), .val (.int 0), .val (.ref ss2), .val (.int 0), .val (.int 5), .val (.ref nb1), .val (.ref nb2), .unset] [])) _
    refine XS.aloadN X12.here hx rfl (hb hby D14_69) rfl rfl ?_
    show Steps p.tables e below (T12.setTop (mkF m 70 #[.val (.ref ss1), .val (.int 1), .val (.int 0), .val (.ref ss2), .val (.int 0), .val (.int 5), .val (.ref nb1), .val (.ref nb2), .unset] [(.ref ss1)])) _
    exact st14.trans kk
  obtain ⟨cq16, kq16, q16a, q16b, q16c⟩ := isOf hZ e14q xE2
  obtain ⟨_, _, ⟨T16, L16, k16, n16⟩, -, X16, ⟨Lc16, hQ16, l16, y16, z16⟩, st16⟩ := X14.virtualBack hx (y := (⟨"java/lang/String", "coder", "()B"⟩ : MethodName)) (z := (⟨"java/lang/String", "coder", "()B"⟩ : MethodName)) hown (mvT hZ (gw hw 39 rfl)) (mvT hZ (gw hw 40 rfl)) (notFace_of_selects (args := #[]) (mvT hZ (gw hw 42 rfl))) (mvT hZ (gw hw 42 rfl)) (mvT hZ (gw hw 41 rfl)) (by decide) (backOf (W := 1) (own_coder l Z a0 hw [] ss2 G1 h0 n0 Z0 xC2 O2 P5 XO) hZ (gw hw 43 rfl) (gw hw 10 rfl) (by decide) (by decide)) q16a q16c (g := (mkF m 78 #[.val (.ref ss1), .val (.int 1), .val (.int 0), .val (.ref ss2), .val (.int 0), .val (.int 5), .val (.ref nb1), .val (.ref nb2), .val (.int 0)] [(.ref ss2), (.int 0)])) rfl (by rw [hml]; rfl) (Steps.refl _) (argsL := []) (rest := [(.int 0)]) (lenOf pd___B rfl) rfl (by show 2 * 0 + _ ≤ _; exact Nat.le_of_eq rfl) (hb hby D14_78) (fun _ _ => ⟨rfl, e14q, (by decide : 0 + 0 ≤ _), (by decide : 0 + 0 ≤ _)⟩)
  dsimp only [Pt.U, Pt.locs, Pt.cells, Pt.slots] at X16 l16 y16 z16 st16 hQ16
  subst l16 y16 z16
  obtain ⟨rfl, N16q, e16q⟩ := hQ16
  have N16 := Fr.app N14 N16q
  have pre17 : ∀ t, Steps p.tables e below (T16.setTop (mkF m 81 #[.val (.ref ss1), .val (.int 1), .val (.int 0), .val (.ref ss2), .val (.int 0), .val (.int 5), .val (.ref nb1), .val (.ref nb2), .val (.int 0)] [(.int 0), (.int 0)])) t → Steps p.tables e below (s₁.setTop (entryFrame m #[(.ref ss1), (.int 1), (.int 0), (.ref ss2), (.int 0), (.int 5)] 9)) t := by
    intro t kk
    refine pre15 t ?_
    show Steps p.tables e below (T14.setTop (mkF m 73 #[.val (.ref ss1), .val (.int 1), .val (.int 0), .val (.ref ss2), .val (.int 0), .val (.int 5), .val (.ref nb1), .val (.ref nb2), .unset] [(.int 0)])) _
    refine XS.istore X14.here hx rfl (hb hby D14_73) rfl (l' := #[.val (.ref ss1), .val (.int 1), .val (.int 0), .val (.ref ss2), .val (.int 0), .val (.int 5), .val (.ref nb1), .val (.ref nb2), .val (.int 0)]) rfl ?_
    show Steps p.tables e below (T14.setTop (mkF m 75 #[.val (.ref ss1), .val (.int 1), .val (.int 0), .val (.ref ss2), .val (.int 0), .val (.int 5), .val (.ref nb1), .val (.ref nb2), .val (.int 0)] [])) _
    refine XS.iload X14.here hx rfl (hb hby D14_75) rfl ?_
    show Steps p.tables e below (T14.setTop (mkF m 77 #[.val (.ref ss1), .val (.int 1), .val (.int 0), .val (.ref ss2), .val (.int 0), .val (.int 5), .val (.ref nb1), .val (.ref nb2), .val (.int 0)] [(.int 0)])) _
    refine XS.aloadN X14.here hx rfl (hb hby D14_77) rfl rfl ?_
    show Steps p.tables e below (T14.setTop (mkF m 78 #[.val (.ref ss1), .val (.int 1), .val (.int 0), .val (.ref ss2), .val (.int 0), .val (.int 5), .val (.ref nb1), .val (.ref nb2), .val (.int 0)] [(.ref ss2), (.int 0)])) _
    exact st16.trans kk
  have hd18 : (0 : Int32) = (0 : Int32) := rfl
  have hd19 : (0 : Int32) = (0 : Int32) := rfl
  obtain ⟨_, _, ⟨T20, L20, k20, n20⟩, -, X20, ⟨Lc20, hQ20, l20, y20, z20⟩, st20⟩ := Jvm.LawKit.callS X16 hx (y := (⟨"java/lang/StringLatin1", "regionMatchesCI", "([BI[BII)Z"⟩ : MethodName)) hown (mvT hZ (gw hw 123 rfl)) (mvT hZ (gw hw 124 rfl)) (mvT hZ (gw hw 15 rfl)) (mvT hZ (gw hw 125 rfl)) (by decide) (backOf (W := 0) (own_rci5 l Z a0 hw [] nb1 nb2 kk1 kk2 d0 d1 d2 d3 d4 h0 n0 Z0 xV1 xV2) hZ (gw hw 125 rfl) (gw hw 15 rfl) (by decide) (by decide)) (g := (mkF m 98 #[.val (.ref ss1), .val (.int 1), .val (.int 0), .val (.ref ss2), .val (.int 0), .val (.int 5), .val (.ref nb1), .val (.ref nb2), .val (.int 0)] [(.int 5), (.int 0), (.ref nb2), (.int 0), (.ref nb1)])) rfl (by rw [hml]; rfl) (argsL := [(.ref nb1), (.int 0), (.ref nb2), (.int 0), (.int 5)]) (rest := []) (lenOf pd___BI_BII_Z rfl) rfl (by show 2 * 0 + _ ≤ _; exact Nat.le_of_eq rfl) (hb hby D14_98) (fun _ _ => ⟨rfl, e16q, (by decide : 0 + 0 ≤ _), (by decide : 0 + 0 ≤ _)⟩)
  dsimp only [Pt.U, Pt.locs, Pt.cells, Pt.slots] at X20 l20 y20 z20 st20 hQ20
  subst l20 y20 z20
  obtain ⟨rr, rfl, N20q, e20q, ra, rb⟩ := hQ20
  have N20 := Fr.app N16 N20q
  have pre21 : ∀ t, Steps p.tables e below (T20.setTop (mkF m 101 #[.val (.ref ss1), .val (.int 1), .val (.int 0), .val (.ref ss2), .val (.int 0), .val (.int 5), .val (.ref nb1), .val (.ref nb2), .val (.int 0)] [(.int rr)])) t → Steps p.tables e below (s₁.setTop (entryFrame m #[(.ref ss1), (.int 1), (.int 0), (.ref ss2), (.int 0), (.int 5)] 9)) t := by
    intro t kk
    refine pre17 t ?_
    show Steps p.tables e below (T16.setTop (mkF m 81 #[.val (.ref ss1), .val (.int 1), .val (.int 0), .val (.ref ss2), .val (.int 0), .val (.int 5), .val (.ref nb1), .val (.ref nb2), .val (.int 0)] [(.int 0), (.int 0)])) _
    refine XS.icmpNo X16.here hx rfl (hb hby D14_81) rfl (teq hd18).2 ?_
    show Steps p.tables e below (T16.setTop (mkF m 84 #[.val (.ref ss1), .val (.int 1), .val (.int 0), .val (.ref ss2), .val (.int 0), .val (.int 5), .val (.ref nb1), .val (.ref nb2), .val (.int 0)] [])) _
    refine XS.iload X16.here hx rfl (hb hby D14_84) rfl ?_
    show Steps p.tables e below (T16.setTop (mkF m 86 #[.val (.ref ss1), .val (.int 1), .val (.int 0), .val (.ref ss2), .val (.int 0), .val (.int 5), .val (.ref nb1), .val (.ref nb2), .val (.int 0)] [(.int 0)])) _
    refine XS.ifNo X16.here hx rfl (hb hby D14_86) rfl ((if0 _ _).trans (teq hd19).2) ?_
    show Steps p.tables e below (T16.setTop (mkF m 89 #[.val (.ref ss1), .val (.int 1), .val (.int 0), .val (.ref ss2), .val (.int 0), .val (.int 5), .val (.ref nb1), .val (.ref nb2), .val (.int 0)] [])) _
    refine XS.aload X16.here hx rfl (hb hby D14_89) rfl rfl ?_
    show Steps p.tables e below (T16.setTop (mkF m 91 #[.val (.ref ss1), .val (.int 1), .val (.int 0), .val (.ref ss2), .val (.int 0), .val (.int 5), .val (.ref nb1), .val (.ref nb2), .val (.int 0)] [(.ref nb1)])) _
    refine XS.iloadN X16.here hx rfl (hb hby D14_91) rfl ?_
    show Steps p.tables e below (T16.setTop (mkF m 92 #[.val (.ref ss1), .val (.int 1), .val (.int 0), .val (.ref ss2), .val (.int 0), .val (.int 5), .val (.ref nb1), .val (.ref nb2), .val (.int 0)] [(.int 0), (.ref nb1)])) _
    refine XS.aload X16.here hx rfl (hb hby D14_92) rfl rfl ?_
    show Steps p.tables e below (T16.setTop (mkF m 94 #[.val (.ref ss1), .val (.int 1), .val (.int 0), .val (.ref ss2), .val (.int 0), .val (.int 5), .val (.ref nb1), .val (.ref nb2), .val (.int 0)] [(.ref nb2), (.int 0), (.ref nb1)])) _
    refine XS.iload X16.here hx rfl (hb hby D14_94) rfl ?_
    show Steps p.tables e below (T16.setTop (mkF m 96 #[.val (.ref ss1), .val (.int 1), .val (.int 0), .val (.ref ss2), .val (.int 0), .val (.int 5), .val (.ref nb1), .val (.ref nb2), .val (.int 0)] [(.int 0), (.ref nb2), (.int 0), (.ref nb1)])) _
    refine XS.iload X16.here hx rfl (hb hby D14_96) rfl ?_
    show Steps p.tables e below (T16.setTop (mkF m 98 #[.val (.ref ss1), .val (.int 1), .val (.int 0), .val (.ref ss2), .val (.int 0), .val (.int 5), .val (.ref nb1), .val (.ref nb2), .val (.int 0)] [(.int 5), (.int 0), (.ref nb2), (.int 0), (.ref nb1)])) _
    exact st20 _ kk
  have pre22 : ∀ t, Steps p.tables e below (T20.setTop (mkF m 116 #[.val (.ref ss1), .val (.int 1), .val (.int 0), .val (.ref ss2), .val (.int 0), .val (.int 5), .val (.ref nb1), .val (.ref nb2), .val (.int 0)] [(.int rr)])) t → Steps p.tables e below (s₁.setTop (entryFrame m #[(.ref ss1), (.int 1), (.int 0), (.ref ss2), (.int 0), (.int 5)] 9)) t := by
    intro t kk
    refine pre21 t ?_
    show Steps p.tables e below (T20.setTop (mkF m 101 #[.val (.ref ss1), .val (.int 1), .val (.int 0), .val (.ref ss2), .val (.int 0), .val (.int 5), .val (.ref nb1), .val (.ref nb2), .val (.int 0)] [(.int rr)])) _
    refine XS.goto X20.here hx rfl (pc0 := 101) (pc' := 116) rfl (hb hby D14_101) (by decide) (by decide) ?_
    exact kk
  by_cases hm : own_M (104 : Int32) d0 ∧ own_M (116 : Int32) d1 ∧ own_M (116 : Int32) d2 ∧ own_M (112 : Int32) d3 ∧ own_M (115 : Int32) d4
  case pos =>
    have er := ra hm
    subst er
    obtain ⟨fs, hr, hrun, hended, hW, hsame⟩ := X20.leave (v := some (.int 1)) (fun h => by rw [Bd.returns] at h; cases h)
    refine ⟨_, _, pre22 _ ?_, hrun, hended, _, _, rfl, ?_, ⟨_, rfl⟩, hW, hsame.mono (by decide) (by decide)⟩
    · show Steps p.tables e below (T20.setTop (mkF m 116 #[.val (.ref ss1), .val (.int 1), .val (.int 0), .val (.ref ss2), .val (.int 0), .val (.int 5), .val (.ref nb1), .val (.ref nb2), .val (.int 0)] [(.int 1)])) _
      exact retN X20 hx (t := .boolean) Bd.returns (by simp) (hb hby D14_116) hr
    · show Q_own_rm5 Z ss1 ss2 nb1 nb2 kk1 kk2 d0 d1 d2 d3 d4 G1 h0 n0 _ T20.heap _
      rw [e20q]
      exact ⟨1, rfl, N20, rfl, fun _ => rfl, fun q => absurd hm q⟩
  case neg =>
    have er := rb hm
    subst er
    obtain ⟨fs, hr, hrun, hended, hW, hsame⟩ := X20.leave (v := some (.int 0)) (fun h => by rw [Bd.returns] at h; cases h)
    refine ⟨_, _, pre22 _ ?_, hrun, hended, _, _, rfl, ?_, ⟨_, rfl⟩, hW, hsame.mono (by decide) (by decide)⟩
    · show Steps p.tables e below (T20.setTop (mkF m 116 #[.val (.ref ss1), .val (.int 1), .val (.int 0), .val (.ref ss2), .val (.int 0), .val (.int 5), .val (.ref nb1), .val (.ref nb2), .val (.int 0)] [(.int 0)])) _
      exact retN X20 hx (t := .boolean) Bd.returns (by simp) (hb hby D14_116) hr
    · show Q_own_rm5 Z ss1 ss2 nb1 nb2 kk1 kk2 d0 d1 d2 d3 d4 G1 h0 n0 _ T20.heap _
      rw [e20q]
      exact ⟨0, rfl, N20, rfl, fun q => absurd q hm, fun _ => rfl⟩
theorem ef_own_ei5 (m : MethodId) {ss1 : Addr} {ss2 : Addr} : entryFrame m #[(.ref ss1), (.ref ss2)] 2 = mkF m 0 #[.val (.ref ss1), .val (.ref ss2)] [] := by first | (simp [entryFrame, mkF, argsToLocals, Value.category]; done) | rfl
def Q_own_ei5 (Z : State) (ss1 ss2 nb1 nb2 : Addr) (kk1 kk2 : ClassId) (cs : List Int32) (G1 : Int32) (h0 : Heap) (n0 : Nat) (v : Option Value) (h : Heap) (L : List Loc) : Prop := ∃ r : Int32, v = some (.int r) ∧ Fr n0 L ∧ h = h0 ∧ ((own_E4 ([104, 116, 116, 112, 115] : List Int32) cs) → r = 1) ∧ (¬ (own_E4 ([104, 116, 116, 112, 115] : List Int32) cs) → r = 0)
set_option maxRecDepth 65536 in
set_option maxHeartbeats 40000000 in
theorem own_ei5 (l : Launch) (Z : State) (a0 : Array Value) (hw : ∀ d ∈ tables_1, d.before a0 Z = true) (ws : List Jvm.Cond) (ss1 ss2 nb1 nb2 : Addr) (kk1 kk2 : ClassId) (cs : List Int32) (G1 : Int32) (h0 : Heap) (n0 : Nat) (Z0 : n0 ≤ h0.size) (xE1 : Exa Z h0 ss1 "java/lang/String") (xF1 : Fld Z h0 ss1 "java/lang/String" "value" "[B" (.ref nb1)) (xC1 : Fld Z h0 ss1 "java/lang/String" "coder" "B" (.int 0)) (xV1 : Arv Z h0 nb1 kk1 .byte (5 : Int32) [(.int 104), (.int 116), (.int 116), (.int 112), (.int 115)] (.int 0)) (xE2 : Exa Z h0 ss2 "java/lang/String") (xF2 : Fld Z h0 ss2 "java/lang/String" "value" "[B" (.ref nb2)) (xC2 : Fld Z h0 ss2 "java/lang/String" "coder" "B" (.int 0)) (xV2 : Arv Z h0 nb2 kk2 .byte (Int32.ofNat cs.length) (own_B cs) (.int 0)) (hne : ¬ ss1 = ss2) (hcl : cs.length ≤ 6) (O2 : Sta Z Z.heap "java/lang/String" "COMPACT_STRINGS" "Z" (.int G1)) (P5 : ¬ G1 = (0 : Int32)) (XO : Old Z n0 h0) :
    MetFree l (⟨"java/lang/String", "equalsIgnoreCase", "(Ljava/lang/String;)Z"⟩ : MethodName) (head1 (Jvm.Cond.code (⟨"java/lang/String", "equalsIgnoreCase", "(Ljava/lang/String;)Z"⟩ : MethodName) jdk_42_method_70_code 2 (some .boolean) :: ws) ({ frames := 3, cells := 0, slots := 0, locals := 53 } : Room)) (fun a U => a = #[(.ref ss1), (.ref ss2)] ∧ Z.Warmed39 U.vm ∧ U.heap = h0) (fun _ _ _ _ _ => True) (fun _ U o U' => ∃ v L, o = .returned v ∧ Q_own_ei5 Z ss1 ss2 nb1 nb2 kk1 kk2 cs G1 h0 n0 v U'.heap L ∧ FrameEnd U o U' L ({ frames := 3, cells := 0, slots := 0, locals := 53 } : Room).cells ({ frames := 3, cells := 0, slots := 0, locals := 53 } : Room).slots) := by
  refine MetFree.of_bodySF (plainFor_of_name pn_java_lang_String) hisR ?_
  intro p e s m args below meth c s₁ Bd hml0 hP hK
  obtain ⟨rfl, hZ, hh⟩ := hP
  have hx := Bd.exec
  have hby := Bd.bytes
  have hml : c.maxLocals = 2 := hml0
  have hown : s.vm.findClass "java/lang/String" = some m.cls := findClass_of_methodNamed Bd.named
  have hnm := (name_of_methodNamed Bd.named Bd.method).1
  have X0 : Stand p l e ({ frames := 3, cells := 0, slots := 0, locals := 53 } : Room) s m #[(.ref ss1), (.ref ss2)] below meth c s₁ [] 0 0 := Stand.of_body Bd
  have e0 : s₁.heap = h0 := by rw [← hh, Bd.state]; rfl
  have N0 := Fr.nil n0
  have pre0 : ∀ t, Steps p.tables e below (s₁.setTop (mkF m 0 #[.val (.ref ss1), .val (.ref ss2)] [])) t → Steps p.tables e below (s₁.setTop (entryFrame m #[(.ref ss1), (.ref ss2)] 2)) t := fun t k => castTop (ef_own_ei5 m) k
  obtain ⟨cq1, kq1, q1a, q1b, q1c⟩ := isOf hZ e0 xE2
  obtain ⟨_, _, ⟨T1, L1, k1, n1⟩, -, X1, ⟨Lc1, hQ1, l1, y1, z1⟩, st1⟩ := X0.virtualBack hx (y := (⟨"java/lang/String", "length", "()I"⟩ : MethodName)) (z := (⟨"java/lang/String", "length", "()I"⟩ : MethodName)) hown (mvT hZ (gw hw 72 rfl)) (mvT hZ (gw hw 35 rfl)) (notFace_of_selects (args := #[]) (mvT hZ (gw hw 37 rfl))) (mvT hZ (gw hw 37 rfl)) (mvT hZ (gw hw 36 rfl)) (by decide) (backOf (W := 0) (own_slen l Z a0 hw [] ss2 nb2 kk2 (Int32.ofNat cs.length) (own_B cs) G1 h0 n0 Z0 xE2 xF2 xC2 xV2 O2 P5 XO) hZ (gw hw 38 rfl) (gw hw 10 rfl) (by decide) (by decide)) q1a q1c (g := (mkF m 14 #[.val (.ref ss1), .val (.ref ss2)] [(.ref ss2)])) rfl (by rw [hml]; rfl) (Steps.refl _) (argsL := []) (rest := []) (lenOf pd___I rfl) rfl (by show 2 * 0 + _ ≤ _; exact Nat.le_of_eq rfl) (hb hby D15_14) (fun _ _ => ⟨rfl, e0, (by decide : 0 + 0 ≤ _), (by decide : 0 + 0 ≤ _)⟩)
  dsimp only [Pt.U, Pt.locs, Pt.cells, Pt.slots] at X1 l1 y1 z1 st1 hQ1
  subst l1 y1 z1
  obtain ⟨rfl, N1q, e1q⟩ := hQ1
  have N1 := Fr.app N0 N1q
  have pre2 : ∀ t, Steps p.tables e below (T1.setTop (mkF m 17 #[.val (.ref ss1), .val (.ref ss2)] [(.int (Int32.ofNat cs.length))])) t → Steps p.tables e below (s₁.setTop (entryFrame m #[(.ref ss1), (.ref ss2)] 2)) t := by
    intro t kk
    refine pre0 t ?_
    show Steps p.tables e below (s₁.setTop (mkF m 0 #[.val (.ref ss1), .val (.ref ss2)] [])) _
    refine XS.aloadN X0.here hx rfl (hb hby D15_0) rfl rfl ?_
    show Steps p.tables e below (s₁.setTop (mkF m 1 #[.val (.ref ss1), .val (.ref ss2)] [(.ref ss1)])) _
    refine XS.aloadN X0.here hx rfl (hb hby D15_1) rfl rfl ?_
    show Steps p.tables e below (s₁.setTop (mkF m 2 #[.val (.ref ss1), .val (.ref ss2)] [(.ref ss2), (.ref ss1)])) _
    refine Jvm.RoadKit.acmp (g := (mkF m 2 #[.val (.ref ss1), .val (.ref ss2)] [(.ref ss2), (.ref ss1)])) X0 hx rfl rfl rfl (pc0 := 2) (pc' := 9) (same := false) rfl (hb hby D15_2) rfl (decide_eq_false fun q => hne (Value.ref.inj q)) (by decide) (by decide) ?_
    show Steps p.tables e below (s₁.setTop (mkF m 9 #[.val (.ref ss1), .val (.ref ss2)] [])) _
    refine XS.aloadN X0.here hx rfl (hb hby D15_9) rfl rfl ?_
    show Steps p.tables e below (s₁.setTop (mkF m 10 #[.val (.ref ss1), .val (.ref ss2)] [(.ref ss2)])) _
    refine XS.ifnullNo X0.here hx rfl (hb hby D15_10) rfl ?_
    show Steps p.tables e below (s₁.setTop (mkF m 13 #[.val (.ref ss1), .val (.ref ss2)] [])) _
    refine XS.aloadN X0.here hx rfl (hb hby D15_13) rfl rfl ?_
    show Steps p.tables e below (s₁.setTop (mkF m 14 #[.val (.ref ss1), .val (.ref ss2)] [(.ref ss2)])) _
    exact st1.trans kk
  obtain ⟨cq3, kq3, q3a, q3b, q3c⟩ := isOf hZ e1q xE1
  obtain ⟨_, _, ⟨T3, L3, k3, n3⟩, -, X3, ⟨Lc3, hQ3, l3, y3, z3⟩, st3⟩ := X1.virtualBack hx (y := (⟨"java/lang/String", "length", "()I"⟩ : MethodName)) (z := (⟨"java/lang/String", "length", "()I"⟩ : MethodName)) hown (mvT hZ (gw hw 72 rfl)) (mvT hZ (gw hw 35 rfl)) (notFace_of_selects (args := #[]) (mvT hZ (gw hw 37 rfl))) (mvT hZ (gw hw 37 rfl)) (mvT hZ (gw hw 36 rfl)) (by decide) (backOf (W := 1) (own_slen l Z a0 hw [] ss1 nb1 kk1 (5 : Int32) [(.int 104), (.int 116), (.int 116), (.int 112), (.int 115)] G1 h0 n0 Z0 xE1 xF1 xC1 xV1 O2 P5 XO) hZ (gw hw 38 rfl) (gw hw 10 rfl) (by decide) (by decide)) q3a q3c (g := (mkF m 18 #[.val (.ref ss1), .val (.ref ss2)] [(.ref ss1), (.int (Int32.ofNat cs.length))])) rfl (by rw [hml]; rfl) (Steps.refl _) (argsL := []) (rest := [(.int (Int32.ofNat cs.length))]) (lenOf pd___I rfl) rfl (by show 2 * 0 + _ ≤ _; exact Nat.le_of_eq rfl) (hb hby D15_18) (fun _ _ => ⟨rfl, e1q, (by decide : 0 + 0 ≤ _), (by decide : 0 + 0 ≤ _)⟩)
  dsimp only [Pt.U, Pt.locs, Pt.cells, Pt.slots] at X3 l3 y3 z3 st3 hQ3
  subst l3 y3 z3
  obtain ⟨rfl, N3q, e3q⟩ := hQ3
  have N3 := Fr.app N1 N3q
  have pre4 : ∀ t, Steps p.tables e below (T3.setTop (mkF m 21 #[.val (.ref ss1), .val (.ref ss2)] [(.int 5), (.int (Int32.ofNat cs.length))])) t → Steps p.tables e below (s₁.setTop (entryFrame m #[(.ref ss1), (.ref ss2)] 2)) t := by
    intro t kk
    refine pre2 t ?_
    show Steps p.tables e below (T1.setTop (mkF m 17 #[.val (.ref ss1), .val (.ref ss2)] [(.int (Int32.ofNat cs.length))])) _
    refine XS.aloadN X1.here hx rfl (hb hby D15_17) rfl rfl ?_
    show Steps p.tables e below (T1.setTop (mkF m 18 #[.val (.ref ss1), .val (.ref ss2)] [(.ref ss1), (.int (Int32.ofNat cs.length))])) _
    exact st3.trans kk
  by_cases hlen : (Int32.ofNat cs.length) = (5 : Int32)
  case pos =>
    have hl' : cs.length = 5 ↔ (Int32.ofNat cs.length) = (5 : Int32) := by
      have o := (own_on (n := cs.length) (by omega)).1
      have k : (5 : Int32).toInt = 5 := by decide
      constructor
      · intro q; rw [q]; rfl
      · intro q; rw [q] at o; omega
    have hl2 := hl'.mpr hlen
    obtain ⟨d0, d1, d2, d3, d4, hcs⟩ : ∃ d0 d1 d2 d3 d4 : Int32, cs = [d0, d1, d2, d3, d4] := by
      match cs, hl2 with
      | [d0, d1, d2, d3, d4], _ => exact ⟨d0, d1, d2, d3, d4, rfl⟩
    have xV2' : Arv Z h0 nb2 kk2 .byte (5 : Int32) (own_B [d0, d1, d2, d3, d4]) (.int 0) := by
      have q := xV2
      rw [hcs] at q
      exact q
    obtain ⟨cq5, kq5, q5a, q5b, q5c⟩ := isOf hZ e3q xE1
    obtain ⟨_, _, ⟨T5, L5, k5, n5⟩, -, X5, ⟨Lc5, hQ5, l5, y5, z5⟩, st5⟩ := X3.virtualBack hx (y := (⟨"java/lang/String", "length", "()I"⟩ : MethodName)) (z := (⟨"java/lang/String", "length", "()I"⟩ : MethodName)) hown (mvT hZ (gw hw 72 rfl)) (mvT hZ (gw hw 35 rfl)) (notFace_of_selects (args := #[]) (mvT hZ (gw hw 37 rfl))) (mvT hZ (gw hw 37 rfl)) (mvT hZ (gw hw 36 rfl)) (by decide) (backOf (W := 5) (own_slen l Z a0 hw [] ss1 nb1 kk1 (5 : Int32) [(.int 104), (.int 116), (.int 116), (.int 112), (.int 115)] G1 h0 n0 Z0 xE1 xF1 xC1 xV1 O2 P5 XO) hZ (gw hw 38 rfl) (gw hw 10 rfl) (by decide) (by decide)) q5a q5c (g := (mkF m 30 #[.val (.ref ss1), .val (.ref ss2)] [(.ref ss1), (.int 0), (.ref ss2), (.int 0), (.int 1), (.ref ss1)])) rfl (by rw [hml]; rfl) (Steps.refl _) (argsL := []) (rest := [(.int 0), (.ref ss2), (.int 0), (.int 1), (.ref ss1)]) (lenOf pd___I rfl) rfl (by show 2 * 0 + _ ≤ _; exact Nat.le_of_eq rfl) (hb hby D15_30) (fun _ _ => ⟨rfl, e3q, (by decide : 0 + 0 ≤ _), (by decide : 0 + 0 ≤ _)⟩)
    dsimp only [Pt.U, Pt.locs, Pt.cells, Pt.slots] at X5 l5 y5 z5 st5 hQ5
    subst l5 y5 z5
    obtain ⟨rfl, N5q, e5q⟩ := hQ5
    have N5 := Fr.app N3 N5q
    have pre6 : ∀ t, Steps p.tables e below (T5.setTop (mkF m 33 #[.val (.ref ss1), .val (.ref ss2)] [(.int 5), (.int 0), (.ref ss2), (.int 0), (.int 1), (.ref ss1)])) t → Steps p.tables e below (s₁.setTop (entryFrame m #[(.ref ss1), (.ref ss2)] 2)) t := by
      intro t kk
      refine pre4 t ?_
      show Steps p.tables e below (T3.setTop (mkF m 21 #[.val (.ref ss1), .val (.ref ss2)] [(.int 5), (.int (Int32.ofNat cs.length))])) _
      refine XS.icmpNo X3.here hx rfl (hb hby D15_21) rfl (teq hlen).2 ?_
      show Steps p.tables e below (T3.setTop (mkF m 24 #[.val (.ref ss1), .val (.ref ss2)] [])) _
      refine XS.aloadN X3.here hx rfl (hb hby D15_24) rfl rfl ?_
      show Steps p.tables e below (T3.setTop (mkF m 25 #[.val (.ref ss1), .val (.ref ss2)] [(.ref ss1)])) _
      refine XS.iconst X3.here hx rfl (hb hby D15_25) ?_
      show Steps p.tables e below (T3.setTop (mkF m 26 #[.val (.ref ss1), .val (.ref ss2)] [(.int 1), (.ref ss1)])) _
      refine XS.iconst X3.here hx rfl (hb hby D15_26) ?_
      show Steps p.tables e below (T3.setTop (mkF m 27 #[.val (.ref ss1), .val (.ref ss2)] [(.int 0), (.int 1), (.ref ss1)])) _
      refine XS.aloadN X3.here hx rfl (hb hby D15_27) rfl rfl ?_
      show Steps p.tables e below (T3.setTop (mkF m 28 #[.val (.ref ss1), .val (.ref ss2)] [(.ref ss2), (.int 0), (.int 1), (.ref ss1)])) _
      refine XS.iconst X3.here hx rfl (hb hby D15_28) ?_
      show Steps p.tables e below (T3.setTop (mkF m 29 #[.val (.ref ss1), .val (.ref ss2)] [(.int 0), (.ref ss2), (.int 0), (.int 1), (.ref ss1)])) _
      refine XS.aloadN X3.here hx rfl (hb hby D15_29) rfl rfl ?_
      show Steps p.tables e below (T3.setTop (mkF m 30 #[.val (.ref ss1), .val (.ref ss2)] [(.ref ss1), (.int 0), (.ref ss2), (.int 0), (.int 1), (.ref ss1)])) _
      exact st5.trans kk
    obtain ⟨cq7, kq7, q7a, q7b, q7c⟩ := isOf hZ e5q xE1
    obtain ⟨_, _, ⟨T7, L7, k7, n7⟩, -, X7, ⟨Lc7, hQ7, l7, y7, z7⟩, st7⟩ := X5.virtualBack hx (y := (⟨"java/lang/String", "regionMatches", "(ZILjava/lang/String;II)Z"⟩ : MethodName)) (z := (⟨"java/lang/String", "regionMatches", "(ZILjava/lang/String;II)Z"⟩ : MethodName)) hown (mvT hZ (gw hw 118 rfl)) (mvT hZ (gw hw 119 rfl)) (notFace_of_selects (args := #[]) (mvT hZ (gw hw 121 rfl))) (mvT hZ (gw hw 121 rfl)) (mvT hZ (gw hw 120 rfl)) (by decide) (backOf (W := 0) (own_rm5 l Z a0 hw [] ss1 ss2 nb1 nb2 kk1 kk2 d0 d1 d2 d3 d4 G1 h0 n0 Z0 xE1 xF1 xC1 xV1 xE2 xF2 xC2 xV2' O2 P5 XO) hZ (gw hw 122 rfl) (gw hw 10 rfl) (by decide) (by decide)) q7a q7c (g := (mkF m 33 #[.val (.ref ss1), .val (.ref ss2)] [(.int 5), (.int 0), (.ref ss2), (.int 0), (.int 1), (.ref ss1)])) rfl (by rw [hml]; rfl) (Steps.refl _) (argsL := [(.int 1), (.int 0), (.ref ss2), (.int 0), (.int 5)]) (rest := []) (lenOf pd__ZILjava_lang_String_II_Z rfl) rfl (by show 2 * 0 + _ ≤ _; exact Nat.le_of_eq rfl) (hb hby D15_33) (fun _ _ => ⟨rfl, e5q, (by decide : 0 + 0 ≤ _), (by decide : 0 + 0 ≤ _)⟩)
    dsimp only [Pt.U, Pt.locs, Pt.cells, Pt.slots] at X7 l7 y7 z7 st7 hQ7
    subst l7 y7 z7
    obtain ⟨rr, rfl, N7q, e7q, ra, rb⟩ := hQ7
    have N7 := Fr.app N5 N7q
    have pre8 : ∀ t, Steps p.tables e below (T7.setTop (mkF m 36 #[.val (.ref ss1), .val (.ref ss2)] [(.int rr)])) t → Steps p.tables e below (s₁.setTop (entryFrame m #[(.ref ss1), (.ref ss2)] 2)) t := by
      intro t kk
      refine pre6 t ?_
      show Steps p.tables e below (T5.setTop (mkF m 33 #[.val (.ref ss1), .val (.ref ss2)] [(.int 5), (.int 0), (.ref ss2), (.int 0), (.int 1), (.ref ss1)])) _
      exact st7.trans kk
    have hE : own_E4 ([104, 116, 116, 112, 115] : List Int32) cs ↔ (own_M (104 : Int32) d0 ∧ own_M (116 : Int32) d1 ∧ own_M (116 : Int32) d2 ∧ own_M (112 : Int32) d3 ∧ own_M (115 : Int32) d4) := by
      rw [hcs]
      constructor
      · intro q; exact ⟨q.2 0 (by decide), q.2 1 (by decide), q.2 2 (by decide), q.2 3 (by decide), q.2 4 (by decide)⟩
      · intro q
        obtain ⟨q0, q1, q2, q3, q4⟩ := q
        refine ⟨rfl, fun i hi => ?_⟩
        match i, hi with
        | 0, _ => exact q0
        | 1, _ => exact q1
        | 2, _ => exact q2
        | 3, _ => exact q3
        | 4, _ => exact q4
    by_cases hm : own_M (104 : Int32) d0 ∧ own_M (116 : Int32) d1 ∧ own_M (116 : Int32) d2 ∧ own_M (112 : Int32) d3 ∧ own_M (115 : Int32) d4
    case pos =>
      have hd9 : ¬ (rr = (0 : Int32)) := by rw [ra hm]; decide
      obtain ⟨fs, hr, hrun, hended, hW, hsame⟩ := X7.leave (v := some (.int 1)) (fun h => by rw [Bd.returns] at h; cases h)
      refine ⟨_, _, pre8 _ ?_, hrun, hended, _, _, rfl, ?_, ⟨_, rfl⟩, hW, hsame.mono (by decide) (by decide)⟩
      · show Steps p.tables e below (T7.setTop (mkF m 36 #[.val (.ref ss1), .val (.ref ss2)] [(.int rr)])) _
        refine XS.ifNo X7.here hx rfl (hb hby D15_36) rfl ((if0 _ _).trans (feq hd9).1) ?_
        show Steps p.tables e below (T7.setTop (mkF m 39 #[.val (.ref ss1), .val (.ref ss2)] [])) _
        refine XS.iconst X7.here hx rfl (hb hby D15_39) ?_
        show Steps p.tables e below (T7.setTop (mkF m 40 #[.val (.ref ss1), .val (.ref ss2)] [(.int 1)])) _
        refine XS.goto X7.here hx rfl (pc0 := 40) (pc' := 44) rfl (hb hby D15_40) (by decide) (by decide) ?_
        show Steps p.tables e below (T7.setTop (mkF m 44 #[.val (.ref ss1), .val (.ref ss2)] [(.int 1)])) _
        exact retN X7 hx (t := .boolean) Bd.returns (by simp) (hb hby D15_44) hr
      · show Q_own_ei5 Z ss1 ss2 nb1 nb2 kk1 kk2 cs G1 h0 n0 _ T7.heap _
        rw [e7q]
        exact ⟨1, rfl, N7, rfl, fun _ => rfl, fun q => absurd (hE.mpr hm) q⟩
    case neg =>
      have hd10 : rr = (0 : Int32) := rb hm
      obtain ⟨fs, hr, hrun, hended, hW, hsame⟩ := X7.leave (v := some (.int 0)) (fun h => by rw [Bd.returns] at h; cases h)
      refine ⟨_, _, pre8 _ ?_, hrun, hended, _, _, rfl, ?_, ⟨_, rfl⟩, hW, hsame.mono (by decide) (by decide)⟩
      · show Steps p.tables e below (T7.setTop (mkF m 36 #[.val (.ref ss1), .val (.ref ss2)] [(.int rr)])) _
        refine XS.ifYes X7.here hx rfl (pc0 := 36) (pc' := 43) rfl (hb hby D15_36) rfl ((if0 _ _).trans (teq hd10).1) (by decide) (by decide) ?_
        show Steps p.tables e below (T7.setTop (mkF m 43 #[.val (.ref ss1), .val (.ref ss2)] [])) _
        refine XS.iconst X7.here hx rfl (hb hby D15_43) ?_
        show Steps p.tables e below (T7.setTop (mkF m 44 #[.val (.ref ss1), .val (.ref ss2)] [(.int 0)])) _
        exact retN X7 hx (t := .boolean) Bd.returns (by simp) (hb hby D15_44) hr
      · show Q_own_ei5 Z ss1 ss2 nb1 nb2 kk1 kk2 cs G1 h0 n0 _ T7.heap _
        rw [e7q]
        exact ⟨0, rfl, N7, rfl, fun q => absurd (hE.mp q) hm, fun _ => rfl⟩
  case neg =>
    have hl' : cs.length = 5 ↔ (Int32.ofNat cs.length) = (5 : Int32) := by
      have o := (own_on (n := cs.length) (by omega)).1
      have k : (5 : Int32).toInt = 5 := by decide
      constructor
      · intro q; rw [q]; rfl
      · intro q; rw [q] at o; omega
    obtain ⟨fs, hr, hrun, hended, hW, hsame⟩ := X3.leave (v := some (.int 0)) (fun h => by rw [Bd.returns] at h; cases h)
    refine ⟨_, _, pre4 _ ?_, hrun, hended, _, _, rfl, ?_, ⟨_, rfl⟩, hW, hsame.mono (by decide) (by decide)⟩
    · show Steps p.tables e below (T3.setTop (mkF m 21 #[.val (.ref ss1), .val (.ref ss2)] [(.int 5), (.int (Int32.ofNat cs.length))])) _
      refine XS.icmpYes X3.here hx rfl (pc0 := 21) (pc' := 43) rfl (hb hby D15_21) rfl (feq hlen).2 (by decide) (by decide) ?_
      show Steps p.tables e below (T3.setTop (mkF m 43 #[.val (.ref ss1), .val (.ref ss2)] [])) _
      refine XS.iconst X3.here hx rfl (hb hby D15_43) ?_
      show Steps p.tables e below (T3.setTop (mkF m 44 #[.val (.ref ss1), .val (.ref ss2)] [(.int 0)])) _
      exact retN X3 hx (t := .boolean) Bd.returns (by simp) (hb hby D15_44) hr
    · show Q_own_ei5 Z ss1 ss2 nb1 nb2 kk1 kk2 cs G1 h0 n0 _ T3.heap _
      rw [e3q]
      exact ⟨0, rfl, N3, rfl, fun q => absurd (hl'.mp q.1) hlen, fun _ => rfl⟩
theorem ef_own_ein (m : MethodId) {ss1 : Addr} : entryFrame m #[(.ref ss1), .null] 2 = mkF m 0 #[.val (.ref ss1), .val .null] [] := by first | (simp [entryFrame, mkF, argsToLocals, Value.category]; done) | rfl
def Q_own_ein (Z : State) (ss1 : Addr) (h0 : Heap) (n0 : Nat) (v : Option Value) (h : Heap) (L : List Loc) : Prop := v = some (.int 0) ∧ Fr n0 L ∧ h = h0
set_option maxRecDepth 65536 in
set_option maxHeartbeats 40000000 in
theorem own_ein (l : Launch) (Z : State) (a0 : Array Value) (hw : ∀ d ∈ tables_1, d.before a0 Z = true) (ws : List Jvm.Cond) (ss1 : Addr) (h0 : Heap) (n0 : Nat) (Z0 : n0 ≤ h0.size)  :
    MetFree l (⟨"java/lang/String", "equalsIgnoreCase", "(Ljava/lang/String;)Z"⟩ : MethodName) (head1 (Jvm.Cond.code (⟨"java/lang/String", "equalsIgnoreCase", "(Ljava/lang/String;)Z"⟩ : MethodName) jdk_42_method_70_code 2 (some .boolean) :: ws) ({ frames := 0, cells := 0, slots := 0, locals := 0 } : Room)) (fun a U => a = #[(.ref ss1), .null] ∧ Z.Warmed39 U.vm ∧ U.heap = h0) (fun _ _ _ _ _ => True) (fun _ U o U' => ∃ v L, o = .returned v ∧ Q_own_ein Z ss1 h0 n0 v U'.heap L ∧ FrameEnd U o U' L ({ frames := 0, cells := 0, slots := 0, locals := 0 } : Room).cells ({ frames := 0, cells := 0, slots := 0, locals := 0 } : Room).slots) := by
  refine MetFree.of_bodySF (plainFor_of_name pn_java_lang_String) hisR ?_
  intro p e s m args below meth c s₁ Bd hml0 hP hK
  obtain ⟨rfl, hZ, hh⟩ := hP
  have hx := Bd.exec
  have hby := Bd.bytes
  have hml : c.maxLocals = 2 := hml0
  have hown : s.vm.findClass "java/lang/String" = some m.cls := findClass_of_methodNamed Bd.named
  have hnm := (name_of_methodNamed Bd.named Bd.method).1
  have X0 : Stand p l e ({ frames := 0, cells := 0, slots := 0, locals := 0 } : Room) s m #[(.ref ss1), .null] below meth c s₁ [] 0 0 := Stand.of_body Bd
  have e0 : s₁.heap = h0 := by rw [← hh, Bd.state]; rfl
  have N0 := Fr.nil n0
  have pre0 : ∀ t, Steps p.tables e below (s₁.setTop (mkF m 0 #[.val (.ref ss1), .val .null] [])) t → Steps p.tables e below (s₁.setTop (entryFrame m #[(.ref ss1), .null] 2)) t := fun t k => castTop (ef_own_ein m) k
  obtain ⟨fs, hr, hrun, hended, hW, hsame⟩ := X0.leave (v := some (.int 0)) (fun h => by rw [Bd.returns] at h; cases h)
  refine ⟨_, _, pre0 _ ?_, hrun, hended, _, _, rfl, ?_, ⟨_, rfl⟩, hW, hsame.mono (by decide) (by decide)⟩
  · show Steps p.tables e below (s₁.setTop (mkF m 0 #[.val (.ref ss1), .val .null] [])) _
    refine XS.aloadN X0.here hx rfl (hb hby D15_0) rfl rfl ?_
    show Steps p.tables e below (s₁.setTop (mkF m 1 #[.val (.ref ss1), .val .null] [(.ref ss1)])) _
    refine XS.aloadN X0.here hx rfl (hb hby D15_1) rfl rfl ?_
    show Steps p.tables e below (s₁.setTop (mkF m 2 #[.val (.ref ss1), .val .null] [.null, (.ref ss1)])) _
    refine Jvm.RoadKit.acmp (g := (mkF m 2 #[.val (.ref ss1), .val .null] [.null, (.ref ss1)])) X0 hx rfl rfl rfl (pc0 := 2) (pc' := 9) (same := false) rfl (hb hby D15_2) rfl (decide_eq_false nofun) (by decide) (by decide) ?_
    show Steps p.tables e below (s₁.setTop (mkF m 9 #[.val (.ref ss1), .val .null] [])) _
    refine XS.aloadN X0.here hx rfl (hb hby D15_9) rfl rfl ?_
    show Steps p.tables e below (s₁.setTop (mkF m 10 #[.val (.ref ss1), .val .null] [.null])) _
    refine XS.ifnullYes X0.here hx rfl (pc0 := 10) (pc' := 43) rfl (hb hby D15_10) rfl (by decide) (by decide) ?_
    show Steps p.tables e below (s₁.setTop (mkF m 43 #[.val (.ref ss1), .val .null] [])) _
    refine XS.iconst X0.here hx rfl (hb hby D15_43) ?_
    show Steps p.tables e below (s₁.setTop (mkF m 44 #[.val (.ref ss1), .val .null] [(.int 0)])) _
    exact retN X0 hx (t := .boolean) Bd.returns (by simp) (hb hby D15_44) hr
  · show Q_own_ein Z ss1 h0 n0 _ s₁.heap _
    rw [e0]
    exact ⟨rfl, N0, rfl⟩
theorem D16_0 : decode prog_17_method_4_code 0 = .ok (.aconst_null, 1) := by decide +kernel
theorem D16_1 : decode prog_17_method_4_code 1 = .ok (.astore_n 1, 1) := by decide +kernel
theorem pd____Lcom_example_deadline_deadline_CallbackScheme_ : parseMethodDescriptor "()[Lcom/example/deadline/deadline/CallbackScheme;" = some ⟨[], some (.array (.object "com/example/deadline/deadline/CallbackScheme"))⟩ := by decide +kernel
theorem D16_2 : decode prog_17_method_4_code 2 = .ok (.invokestatic 41, 3) := by decide +kernel
theorem D16_5 : decode prog_17_method_4_code 5 = .ok (.astore_n 2, 1) := by decide +kernel
theorem D16_6 : decode prog_17_method_4_code 6 = .ok (.aload_n 2, 1) := by decide +kernel
theorem D16_7 : decode prog_17_method_4_code 7 = .ok (.arraylength, 1) := by decide +kernel
theorem D16_8 : decode prog_17_method_4_code 8 = .ok (.istore_n 3, 1) := by decide +kernel
theorem D16_9 : decode prog_17_method_4_code 9 = .ok (.iconst 0, 1) := by decide +kernel
theorem D16_10 : decode prog_17_method_4_code 10 = .ok (.istore 4, 2) := by decide +kernel
theorem D16_12 : decode prog_17_method_4_code 12 = .ok (.iload 4, 2) := by decide +kernel
theorem D16_14 : decode prog_17_method_4_code 14 = .ok (.iload_n 3, 1) := by decide +kernel
theorem D16_15 : decode prog_17_method_4_code 15 = .ok (.if_icmp .ge 30, 3) := by decide +kernel
theorem D16_18 : decode prog_17_method_4_code 18 = .ok (.aload_n 2, 1) := by decide +kernel
theorem D16_19 : decode prog_17_method_4_code 19 = .ok (.iload 4, 2) := by decide +kernel
theorem D16_21 : decode prog_17_method_4_code 21 = .ok (.aaload, 1) := by decide +kernel
theorem D16_22 : decode prog_17_method_4_code 22 = .ok (.astore 5, 2) := by decide +kernel
theorem D16_24 : decode prog_17_method_4_code 24 = .ok (.aload 5, 2) := by decide +kernel
theorem D16_26 : decode prog_17_method_4_code 26 = .ok (.getfield 29, 3) := by decide +kernel
theorem D16_29 : decode prog_17_method_4_code 29 = .ok (.aload_n 0, 1) := by decide +kernel
theorem pd__Ljava_lang_String__Z : parseMethodDescriptor "(Ljava/lang/String;)Z" = some ⟨[(.object "java/lang/String")], some .boolean⟩ := by decide +kernel
theorem D16_30 : decode prog_17_method_4_code 30 = .ok (.invokevirtual 45, 3) := by decide +kernel
theorem D16_33 : decode prog_17_method_4_code 33 = .ok (.ifCond .eq 6, 3) := by decide +kernel
theorem D16_39 : decode prog_17_method_4_code 39 = .ok (.iinc 4 1, 3) := by decide +kernel
theorem D16_42 : decode prog_17_method_4_code 42 = .ok (.goto (-30), 3) := by decide +kernel
theorem D16_45 : decode prog_17_method_4_code 45 = .ok (.aload_n 1, 1) := by decide +kernel
theorem D16_46 : decode prog_17_method_4_code 46 = .ok (.areturn, 1) := by decide +kernel
theorem ef_own_nmn (m : MethodId)  : entryFrame m #[.null] 6 = mkF m 0 #[.val .null, .unset, .unset, .unset, .unset, .unset] [] := by first | (simp [entryFrame, mkF, argsToLocals, Value.category]; done) | rfl
def Q_own_nmn (Z : State) (va en1 en2 nm1 nm2 nv1 nv2 : Addr) (kv kn1 kn2 : ClassId) (G1 : Int32) (h0 : Heap) (n0 : Nat) (v : Option Value) (h : Heap) (L : List Loc) : Prop := v = some .null ∧ Fr n0 L ∧ Keep h0 h []
set_option maxRecDepth 65536 in
set_option maxHeartbeats 40000000 in
theorem own_nmn (l : Launch) (Z : State) (a0 : Array Value) (hw : ∀ d ∈ tables_1, d.before a0 Z = true) (ws : List Jvm.Cond) (va en1 en2 nm1 nm2 nv1 nv2 : Addr) (kv kn1 kn2 : ClassId) (G1 : Int32) (h0 : Heap) (n0 : Nat) (Z0 : n0 ≤ h0.size) (SV : Sta Z Z.heap "com/example/deadline/deadline/CallbackScheme" "$VALUES" "[Lcom/example/deadline/deadline/CallbackScheme;" (.ref va)) (KV : Arv Z Z.heap va kv (.object "com/example/deadline/deadline/CallbackScheme") (2 : Int32) [(.ref en1), (.ref en2)] .null) (EV : Exa Z Z.heap va "[Lcom/example/deadline/deadline/CallbackScheme;") (FN1 : Fld Z Z.heap en1 "com/example/deadline/deadline/CallbackScheme" "name" "Ljava/lang/String;" (.ref nm1)) (FN2 : Fld Z Z.heap en2 "com/example/deadline/deadline/CallbackScheme" "name" "Ljava/lang/String;" (.ref nm2)) (EN1 : Exa Z Z.heap nm1 "java/lang/String") (VN1 : Fld Z Z.heap nm1 "java/lang/String" "value" "[B" (.ref nv1)) (CN1 : Fld Z Z.heap nm1 "java/lang/String" "coder" "B" (.int 0)) (KN1 : Arv Z Z.heap nv1 kn1 .byte (4 : Int32) [(.int 104), (.int 116), (.int 116), (.int 112)] (.int 0)) (EN2 : Exa Z Z.heap nm2 "java/lang/String") (VN2 : Fld Z Z.heap nm2 "java/lang/String" "value" "[B" (.ref nv2)) (CN2 : Fld Z Z.heap nm2 "java/lang/String" "coder" "B" (.int 0)) (KN2 : Arv Z Z.heap nv2 kn2 .byte (5 : Int32) [(.int 104), (.int 116), (.int 116), (.int 112), (.int 115)] (.int 0)) (O2 : Sta Z Z.heap "java/lang/String" "COMPACT_STRINGS" "Z" (.int G1)) (P5 : ¬ G1 = (0 : Int32)) (XO : Old Z n0 h0) :
    MetFree l (⟨"com/example/deadline/deadline/CallbackScheme", "named", "(Ljava/lang/String;)Lcom/example/deadline/deadline/CallbackScheme;"⟩ : MethodName) (head1 (Jvm.Cond.code (⟨"com/example/deadline/deadline/CallbackScheme", "named", "(Ljava/lang/String;)Lcom/example/deadline/deadline/CallbackScheme;"⟩ : MethodName) prog_17_method_4_code 6 (some (.object "com/example/deadline/deadline/CallbackScheme")) :: ws) ({ frames := 2, cells := 1, slots := 2, locals := 25 } : Room)) (fun a U => a = #[.null] ∧ Z.Warmed39 U.vm ∧ U.heap = h0) (fun _ _ _ _ _ => True) (fun _ U o U' => ∃ v L, o = .returned v ∧ Q_own_nmn Z va en1 en2 nm1 nm2 nv1 nv2 kv kn1 kn2 G1 h0 n0 v U'.heap L ∧ FrameEnd U o U' L ({ frames := 2, cells := 1, slots := 2, locals := 25 } : Room).cells ({ frames := 2, cells := 1, slots := 2, locals := 25 } : Room).slots) := by
  refine MetFree.of_bodySF (plainFor_of_name pn_com_example_deadline_deadline_CallbackScheme) hisR ?_
  intro p e s m args below meth c s₁ Bd hml0 hP hK
  obtain ⟨rfl, hZ, hh⟩ := hP
  have hx := Bd.exec
  have hby := Bd.bytes
  have hml : c.maxLocals = 6 := hml0
  have hown : s.vm.findClass "com/example/deadline/deadline/CallbackScheme" = some m.cls := findClass_of_methodNamed Bd.named
  have hnm := (name_of_methodNamed Bd.named Bd.method).1
  have X0 : Stand p l e ({ frames := 2, cells := 1, slots := 2, locals := 25 } : Room) s m #[.null] below meth c s₁ [] 0 0 := Stand.of_body Bd
  have e0 : s₁.heap = h0 := by rw [← hh, Bd.state]; rfl
  have N0 := Fr.nil n0
  have pre0 : ∀ t, Steps p.tables e below (s₁.setTop (mkF m 0 #[.val .null, .unset, .unset, .unset, .unset, .unset] [])) t → Steps p.tables e below (s₁.setTop (entryFrame m #[.null] 6)) t := fun t k => castTop (ef_own_nmn m) k
  obtain ⟨_, _, ⟨T1, L1, k1, n1⟩, -, X1, ⟨Lc1, hQ1, l1, y1, z1⟩, st1⟩ := Jvm.LawKit.callS X0 hx (y := (⟨"com/example/deadline/deadline/CallbackScheme", "values", "()[Lcom/example/deadline/deadline/CallbackScheme;"⟩ : MethodName)) hown (mvT hZ (gw hw 48 rfl)) (mvT hZ (gw hw 49 rfl)) (mvT hZ (gw hw 46 rfl)) (mvT hZ (gw hw 50 rfl)) (by decide) (backOf (W := 0) (own_values l Z a0 hw [] va en1 en2 kv h0 n0 Z0 SV KV EV XO) hZ (gw hw 50 rfl) (gw hw 46 rfl) (by decide) (by decide)) (g := (mkF m 2 #[.val .null, .val .null, .unset, .unset, .unset, .unset] [])) rfl (by rw [hml]; rfl) (argsL := []) (rest := []) (lenOf pd____Lcom_example_deadline_deadline_CallbackScheme_ rfl) rfl (by show 2 * 0 + _ ≤ _; exact Nat.le_of_eq rfl) (hb hby D16_2) (fun _ _ => ⟨rfl, e0, (by decide : 0 + 1 ≤ _), (by decide : 0 + 2 ≤ _)⟩)
  dsimp only [Pt.U, Pt.locs, Pt.cells, Pt.slots] at X1 l1 y1 z1 st1 hQ1
  subst l1 y1 z1
  obtain ⟨bv1, rfl, N1q, K1, lo1, V1⟩ := hQ1
  have N1 := Fr.app N0 N1q
  have pre2 : ∀ t, Steps p.tables e below (T1.setTop (mkF m 5 #[.val .null, .val .null, .unset, .unset, .unset, .unset] [(.ref bv1)])) t → Steps p.tables e below (s₁.setTop (entryFrame m #[.null] 6)) t := by
    intro t kk
    refine pre0 t ?_
    show Steps p.tables e below (s₁.setTop (mkF m 0 #[.val .null, .unset, .unset, .unset, .unset, .unset] [])) _
    refine XS.aconstNull X0.here hx rfl (hb hby D16_0) ?_
    show Steps p.tables e below (s₁.setTop (mkF m 1 #[.val .null, .unset, .unset, .unset, .unset, .unset] [.null])) _
    refine XS.astoreN X0.here hx rfl (hb hby D16_1) rfl rfl (l' := #[.val .null, .val .null, .unset, .unset, .unset, .unset]) rfl ?_
    show Steps p.tables e below (s₁.setTop (mkF m 2 #[.val .null, .val .null, .unset, .unset, .unset, .unset] [])) _
    exact st1 _ kk
  obtain ⟨cl3, Ar3, q3, S3, M3, H3, G3⟩ := id V1
  have hd4 : (0 : Int32) < (2 : Int32) := by decide
  obtain ⟨cl5, Ar5, q5, S5, M5, H5, G5⟩ := id V1
  have hin6 : ¬ ((0 : Int32) < 0 ∨ cl5.slots.size ≤ ((0 : Int32)).toNatClampNeg) := inb_of S5 ⟨by decide, by decide⟩
  have hat6 : cl5.slots[((0 : Int32)).toNatClampNeg]? = some (.ref en1) := Has.at H5 (inb_of S5 ⟨by decide, by decide⟩) rfl
  have fc7 := (XO.keep K1 all0)
  obtain ⟨T8, X8, e8, st8⟩ := getF X1 hx hZ hown (host := "") (Or.inl (gw hw 65 rfl)) Via.refl rfl (FN1.ext fc7.2) (g := (mkF m 26 #[.val .null, .val .null, .val (.ref bv1), .val (.int 2), .val (.int 0), .val (.ref en1)] [(.ref en1)])) rfl rfl (hb hby D16_26)
  have pre9 : ∀ t, Steps p.tables e below (T8.setTop (mkF m 29 #[.val .null, .val .null, .val (.ref bv1), .val (.int 2), .val (.int 0), .val (.ref en1)] [(.ref nm1)])) t → Steps p.tables e below (s₁.setTop (entryFrame m #[.null] 6)) t := by
    intro t kk
    refine pre2 t ?_
    show Steps p.tables e below (T1.setTop (mkF m 5 #[.val .null, .val .null, .unset, .unset, .unset, .unset] [(.ref bv1)])) _
    refine XS.astoreN X1.here hx rfl (hb hby D16_5) rfl rfl (l' := #[.val .null, .val .null, .val (.ref bv1), .unset, .unset, .unset]) rfl ?_
    show Steps p.tables e below (T1.setTop (mkF m 6 #[.val .null, .val .null, .val (.ref bv1), .unset, .unset, .unset] [])) _
    refine XS.aloadN X1.here hx rfl (hb hby D16_6) rfl rfl ?_
    show Steps p.tables e below (T1.setTop (mkF m 7 #[.val .null, .val .null, .val (.ref bv1), .unset, .unset, .unset] [(.ref bv1)])) _
    refine X1.arraylength hx (by exact Ar3.1) (State.isArrayOf_alike hZ.alike Ar3.2.1) (g := (mkF m 7 #[.val .null, .val .null, .val (.ref bv1), .unset, .unset, .unset] [(.ref bv1)])) rfl rfl (hb hby D16_7) _ ?_
    rw [len_of S3 M3]
    show Steps p.tables e below (T1.setTop (mkF m 8 #[.val .null, .val .null, .val (.ref bv1), .unset, .unset, .unset] [(.int 2)])) _
    refine XS.istoreN X1.here hx rfl (hb hby D16_8) rfl (l' := #[.val .null, .val .null, .val (.ref bv1), .val (.int 2), .unset, .unset]) rfl ?_
    show Steps p.tables e below (T1.setTop (mkF m 9 #[.val .null, .val .null, .val (.ref bv1), .val (.int 2), .unset, .unset] [])) _
    refine XS.iconst X1.here hx rfl (hb hby D16_9) ?_
    show Steps p.tables e below (T1.setTop (mkF m 10 #[.val .null, .val .null, .val (.ref bv1), .val (.int 2), .unset, .unset] [(.int 0)])) _
    refine XS.istore X1.here hx rfl (hb hby D16_10) rfl (l' := #[.val .null, .val .null, .val (.ref bv1), .val (.int 2), .val (.int 0), .unset]) rfl ?_
    show Steps p.tables e below (T1.setTop (mkF m 12 #[.val .null, .val .null, .val (.ref bv1), .val (.int 2), .val (.int 0), .unset] [])) _
    refine XS.iload X1.here hx rfl (hb hby D16_12) rfl ?_
    show Steps p.tables e below (T1.setTop (mkF m 14 #[.val .null, .val .null, .val (.ref bv1), .val (.int 2), .val (.int 0), .unset] [(.int 0)])) _
    refine XS.iloadN X1.here hx rfl (hb hby D16_14) rfl ?_
    show Steps p.tables e below (T1.setTop (mkF m 15 #[.val .null, .val .null, .val (.ref bv1), .val (.int 2), .val (.int 0), .unset] [(.int 2), (.int 0)])) _
    refine XS.icmpNo X1.here hx rfl (hb hby D16_15) rfl (tlt hd4).2.1 ?_
    show Steps p.tables e below (T1.setTop (mkF m 18 #[.val .null, .val .null, .val (.ref bv1), .val (.int 2), .val (.int 0), .unset] [])) _
    refine XS.aloadN X1.here hx rfl (hb hby D16_18) rfl rfl ?_
    show Steps p.tables e below (T1.setTop (mkF m 19 #[.val .null, .val .null, .val (.ref bv1), .val (.int 2), .val (.int 0), .unset] [(.ref bv1)])) _
    refine XS.iload X1.here hx rfl (hb hby D16_19) rfl ?_
    show Steps p.tables e below (T1.setTop (mkF m 21 #[.val .null, .val .null, .val (.ref bv1), .val (.int 2), .val (.int 0), .unset] [(.int 0), (.ref bv1)])) _
    refine X1.aaload hx (j := (0 : Int32)) (v := (.ref en1)) (by exact Ar5.1) (State.isArrayOf_alike hZ.alike Ar5.2.1) rfl Ar5.2.2 hin6 hat6 (g := (mkF m 21 #[.val .null, .val .null, .val (.ref bv1), .val (.int 2), .val (.int 0), .unset] [(.int 0), (.ref bv1)])) rfl rfl (hb hby D16_21) _ ?_
    show Steps p.tables e below (T1.setTop (mkF m 22 #[.val .null, .val .null, .val (.ref bv1), .val (.int 2), .val (.int 0), .unset] [(.ref en1)])) _
    refine XS.astore X1.here hx rfl (hb hby D16_22) rfl rfl (l' := #[.val .null, .val .null, .val (.ref bv1), .val (.int 2), .val (.int 0), .val (.ref en1)]) rfl ?_
    show Steps p.tables e below (T1.setTop (mkF m 24 #[.val .null, .val .null, .val (.ref bv1), .val (.int 2), .val (.int 0), .val (.ref en1)] [])) _
    refine XS.aload X1.here hx rfl (hb hby D16_24) rfl rfl ?_
    show Steps p.tables e below (T1.setTop (mkF m 26 #[.val .null, .val .null, .val (.ref bv1), .val (.int 2), .val (.int 0), .val (.ref en1)] [(.ref en1)])) _
    exact st8 _ kk
  have fc11 := (Nat.le_trans Z0 K1.1)
  obtain ⟨cq10, kq10, q10a, q10b, q10c⟩ := isOf hZ e8 (EN1.ext fc7.2)
  obtain ⟨_, _, ⟨T10, L10, k10, n10⟩, -, X10, ⟨Lc10, hQ10, l10, y10, z10⟩, st10⟩ := X8.virtualBack hx (y := (⟨"java/lang/String", "equalsIgnoreCase", "(Ljava/lang/String;)Z"⟩ : MethodName)) (z := (⟨"java/lang/String", "equalsIgnoreCase", "(Ljava/lang/String;)Z"⟩ : MethodName)) hown (mvT hZ (gw hw 67 rfl)) (mvT hZ (gw hw 68 rfl)) (notFace_of_selects (args := #[]) (mvT hZ (gw hw 70 rfl))) (mvT hZ (gw hw 70 rfl)) (mvT hZ (gw hw 69 rfl)) (by decide) (backOf (W := 0) (own_ein l Z a0 hw [] nm1 T1.heap n0 fc11) hZ (gw hw 71 rfl) (gw hw 10 rfl) (by decide) (by decide)) q10a q10c (g := (mkF m 30 #[.val .null, .val .null, .val (.ref bv1), .val (.int 2), .val (.int 0), .val (.ref en1)] [.null, (.ref nm1)])) rfl (by rw [hml]; rfl) (Steps.refl _) (argsL := [.null]) (rest := []) (lenOf pd__Ljava_lang_String__Z rfl) rfl (by show 2 * 0 + _ ≤ _; exact Nat.le_of_eq rfl) (hb hby D16_30) (fun _ _ => ⟨rfl, e8, (by decide : 1 + 0 ≤ _), (by decide : 2 + 0 ≤ _)⟩)
  dsimp only [Pt.U, Pt.locs, Pt.cells, Pt.slots] at X10 l10 y10 z10 st10 hQ10
  subst l10 y10 z10
  obtain ⟨rfl, N10q, e10q⟩ := hQ10
  have N10 := Fr.app N1 N10q
  have pre12 : ∀ t, Steps p.tables e below (T10.setTop (mkF m 33 #[.val .null, .val .null, .val (.ref bv1), .val (.int 2), .val (.int 0), .val (.ref en1)] [(.int 0)])) t → Steps p.tables e below (s₁.setTop (entryFrame m #[.null] 6)) t := by
    intro t kk
    refine pre9 t ?_
    show Steps p.tables e below (T8.setTop (mkF m 29 #[.val .null, .val .null, .val (.ref bv1), .val (.int 2), .val (.int 0), .val (.ref en1)] [(.ref nm1)])) _
    refine XS.aloadN X8.here hx rfl (hb hby D16_29) rfl rfl ?_
    show Steps p.tables e below (T8.setTop (mkF m 30 #[.val .null, .val .null, .val (.ref bv1), .val (.int 2), .val (.int 0), .val (.ref en1)] [.null, (.ref nm1)])) _
    exact st10.trans kk
  have hd13 : (0 : Int32) = (0 : Int32) := rfl
  have hd14 : ((0 : Int32) + (1 : Int32)) < (2 : Int32) := by decide
  obtain ⟨cl15, Ar15, q15, S15, M15, H15, G15⟩ := id V1
  have hin16 : ¬ (((0 : Int32) + (1 : Int32)) < 0 ∨ cl15.slots.size ≤ (((0 : Int32) + (1 : Int32))).toNatClampNeg) := inb_of S15 ⟨by decide, by decide⟩
  have hat16 : cl15.slots[(((0 : Int32) + (1 : Int32))).toNatClampNeg]? = some (.ref en2) := Has.at H15 (inb_of S15 ⟨by decide, by decide⟩) rfl
  obtain ⟨T17, X17, e17, st17⟩ := getF X10 hx hZ hown (host := "") (Or.inl (gw hw 65 rfl)) Via.refl e10q (FN2.ext fc7.2) (g := (mkF m 26 #[.val .null, .val .null, .val (.ref bv1), .val (.int 2), .val (.int ((0 : Int32) + (1 : Int32))), .val (.ref en2)] [(.ref en2)])) rfl rfl (hb hby D16_26)
  have pre18 : ∀ t, Steps p.tables e below (T17.setTop (mkF m 29 #[.val .null, .val .null, .val (.ref bv1), .val (.int 2), .val (.int ((0 : Int32) + (1 : Int32))), .val (.ref en2)] [(.ref nm2)])) t → Steps p.tables e below (s₁.setTop (entryFrame m #[.null] 6)) t := by
    intro t kk
    refine pre12 t ?_
    show Steps p.tables e below (T10.setTop (mkF m 33 #[.val .null, .val .null, .val (.ref bv1), .val (.int 2), .val (.int 0), .val (.ref en1)] [(.int 0)])) _
    refine XS.ifYes X10.here hx rfl (pc0 := 33) (pc' := 39) rfl (hb hby D16_33) rfl ((if0 _ _).trans (teq hd13).1) (by decide) (by decide) ?_
    show Steps p.tables e below (T10.setTop (mkF m 39 #[.val .null, .val .null, .val (.ref bv1), .val (.int 2), .val (.int 0), .val (.ref en1)] [])) _
    refine XS.iinc X10.here hx rfl (hb hby D16_39) rfl (l' := #[.val .null, .val .null, .val (.ref bv1), .val (.int 2), .val (.int ((0 : Int32) + (1 : Int32))), .val (.ref en1)]) rfl ?_
    show Steps p.tables e below (T10.setTop (mkF m 42 #[.val .null, .val .null, .val (.ref bv1), .val (.int 2), .val (.int ((0 : Int32) + (1 : Int32))), .val (.ref en1)] [])) _
    refine XS.goto X10.here hx rfl (pc0 := 42) (pc' := 12) rfl (hb hby D16_42) (by decide) (by decide) ?_
    show Steps p.tables e below (T10.setTop (mkF m 12 #[.val .null, .val .null, .val (.ref bv1), .val (.int 2), .val (.int ((0 : Int32) + (1 : Int32))), .val (.ref en1)] [])) _
    refine XS.iload X10.here hx rfl (hb hby D16_12) rfl ?_
    show Steps p.tables e below (T10.setTop (mkF m 14 #[.val .null, .val .null, .val (.ref bv1), .val (.int 2), .val (.int ((0 : Int32) + (1 : Int32))), .val (.ref en1)] [(.int ((0 : Int32) + (1 : Int32)))])) _
    refine XS.iloadN X10.here hx rfl (hb hby D16_14) rfl ?_
    show Steps p.tables e below (T10.setTop (mkF m 15 #[.val .null, .val .null, .val (.ref bv1), .val (.int 2), .val (.int ((0 : Int32) + (1 : Int32))), .val (.ref en1)] [(.int 2), (.int ((0 : Int32) + (1 : Int32)))])) _
    refine XS.icmpNo X10.here hx rfl (hb hby D16_15) rfl (tlt hd14).2.1 ?_
    show Steps p.tables e below (T10.setTop (mkF m 18 #[.val .null, .val .null, .val (.ref bv1), .val (.int 2), .val (.int ((0 : Int32) + (1 : Int32))), .val (.ref en1)] [])) _
    refine XS.aloadN X10.here hx rfl (hb hby D16_18) rfl rfl ?_
    show Steps p.tables e below (T10.setTop (mkF m 19 #[.val .null, .val .null, .val (.ref bv1), .val (.int 2), .val (.int ((0 : Int32) + (1 : Int32))), .val (.ref en1)] [(.ref bv1)])) _
    refine XS.iload X10.here hx rfl (hb hby D16_19) rfl ?_
    show Steps p.tables e below (T10.setTop (mkF m 21 #[.val .null, .val .null, .val (.ref bv1), .val (.int 2), .val (.int ((0 : Int32) + (1 : Int32))), .val (.ref en1)] [(.int ((0 : Int32) + (1 : Int32))), (.ref bv1)])) _
    refine X10.aaload hx (j := ((0 : Int32) + (1 : Int32))) (v := (.ref en2)) (by rw [e10q]; exact Ar15.1) (State.isArrayOf_alike hZ.alike Ar15.2.1) rfl Ar15.2.2 hin16 hat16 (g := (mkF m 21 #[.val .null, .val .null, .val (.ref bv1), .val (.int 2), .val (.int ((0 : Int32) + (1 : Int32))), .val (.ref en1)] [(.int ((0 : Int32) + (1 : Int32))), (.ref bv1)])) rfl rfl (hb hby D16_21) _ ?_
    show Steps p.tables e below (T10.setTop (mkF m 22 #[.val .null, .val .null, .val (.ref bv1), .val (.int 2), .val (.int ((0 : Int32) + (1 : Int32))), .val (.ref en1)] [(.ref en2)])) _
    refine XS.astore X10.here hx rfl (hb hby D16_22) rfl rfl (l' := #[.val .null, .val .null, .val (.ref bv1), .val (.int 2), .val (.int ((0 : Int32) + (1 : Int32))), .val (.ref en2)]) rfl ?_
    show Steps p.tables e below (T10.setTop (mkF m 24 #[.val .null, .val .null, .val (.ref bv1), .val (.int 2), .val (.int ((0 : Int32) + (1 : Int32))), .val (.ref en2)] [])) _
    refine XS.aload X10.here hx rfl (hb hby D16_24) rfl rfl ?_
    show Steps p.tables e below (T10.setTop (mkF m 26 #[.val .null, .val .null, .val (.ref bv1), .val (.int 2), .val (.int ((0 : Int32) + (1 : Int32))), .val (.ref en2)] [(.ref en2)])) _
    exact st17 _ kk
  obtain ⟨cq19, kq19, q19a, q19b, q19c⟩ := isOf hZ e17 (EN2.ext fc7.2)
  obtain ⟨_, _, ⟨T19, L19, k19, n19⟩, -, X19, ⟨Lc19, hQ19, l19, y19, z19⟩, st19⟩ := X17.virtualBack hx (y := (⟨"java/lang/String", "equalsIgnoreCase", "(Ljava/lang/String;)Z"⟩ : MethodName)) (z := (⟨"java/lang/String", "equalsIgnoreCase", "(Ljava/lang/String;)Z"⟩ : MethodName)) hown (mvT hZ (gw hw 67 rfl)) (mvT hZ (gw hw 68 rfl)) (notFace_of_selects (args := #[]) (mvT hZ (gw hw 70 rfl))) (mvT hZ (gw hw 70 rfl)) (mvT hZ (gw hw 69 rfl)) (by decide) (backOf (W := 0) (own_ein l Z a0 hw [] nm2 T1.heap n0 fc11) hZ (gw hw 71 rfl) (gw hw 10 rfl) (by decide) (by decide)) q19a q19c (g := (mkF m 30 #[.val .null, .val .null, .val (.ref bv1), .val (.int 2), .val (.int ((0 : Int32) + (1 : Int32))), .val (.ref en2)] [.null, (.ref nm2)])) rfl (by rw [hml]; rfl) (Steps.refl _) (argsL := [.null]) (rest := []) (lenOf pd__Ljava_lang_String__Z rfl) rfl (by show 2 * 0 + _ ≤ _; exact Nat.le_of_eq rfl) (hb hby D16_30) (fun _ _ => ⟨rfl, e17, (by decide : 1 + 0 ≤ _), (by decide : 2 + 0 ≤ _)⟩)
  dsimp only [Pt.U, Pt.locs, Pt.cells, Pt.slots] at X19 l19 y19 z19 st19 hQ19
  subst l19 y19 z19
  obtain ⟨rfl, N19q, e19q⟩ := hQ19
  have N19 := Fr.app N10 N19q
  have pre20 : ∀ t, Steps p.tables e below (T19.setTop (mkF m 33 #[.val .null, .val .null, .val (.ref bv1), .val (.int 2), .val (.int ((0 : Int32) + (1 : Int32))), .val (.ref en2)] [(.int 0)])) t → Steps p.tables e below (s₁.setTop (entryFrame m #[.null] 6)) t := by
    intro t kk
    refine pre18 t ?_
    show Steps p.tables e below (T17.setTop (mkF m 29 #[.val .null, .val .null, .val (.ref bv1), .val (.int 2), .val (.int ((0 : Int32) + (1 : Int32))), .val (.ref en2)] [(.ref nm2)])) _
    refine XS.aloadN X17.here hx rfl (hb hby D16_29) rfl rfl ?_
    show Steps p.tables e below (T17.setTop (mkF m 30 #[.val .null, .val .null, .val (.ref bv1), .val (.int 2), .val (.int ((0 : Int32) + (1 : Int32))), .val (.ref en2)] [.null, (.ref nm2)])) _
    exact st19.trans kk
  have hd21 : (0 : Int32) = (0 : Int32) := rfl
  have hd22 : ¬ ((((0 : Int32) + (1 : Int32)) + (1 : Int32)) < (2 : Int32)) := by decide
  have fc23 := ((Keep.refl h0 []).trans K1 all0)
  obtain ⟨fs, hr, hrun, hended, hW, hsame⟩ := X19.leave (v := some .null) (fun h => by rw [Bd.returns] at h; cases h)
  refine ⟨_, _, pre20 _ ?_, hrun, hended, _, _, rfl, ?_, ⟨_, rfl⟩, hW, hsame.mono (by decide) (by decide)⟩
  · show Steps p.tables e below (T19.setTop (mkF m 33 #[.val .null, .val .null, .val (.ref bv1), .val (.int 2), .val (.int ((0 : Int32) + (1 : Int32))), .val (.ref en2)] [(.int 0)])) _
    refine XS.ifYes X19.here hx rfl (pc0 := 33) (pc' := 39) rfl (hb hby D16_33) rfl ((if0 _ _).trans (teq hd21).1) (by decide) (by decide) ?_
    show Steps p.tables e below (T19.setTop (mkF m 39 #[.val .null, .val .null, .val (.ref bv1), .val (.int 2), .val (.int ((0 : Int32) + (1 : Int32))), .val (.ref en2)] [])) _
    refine XS.iinc X19.here hx rfl (hb hby D16_39) rfl (l' := #[.val .null, .val .null, .val (.ref bv1), .val (.int 2), .val (.int (((0 : Int32) + (1 : Int32)) + (1 : Int32))), .val (.ref en2)]) rfl ?_
    show Steps p.tables e below (T19.setTop (mkF m 42 #[.val .null, .val .null, .val (.ref bv1), .val (.int 2), .val (.int (((0 : Int32) + (1 : Int32)) + (1 : Int32))), .val (.ref en2)] [])) _
    refine XS.goto X19.here hx rfl (pc0 := 42) (pc' := 12) rfl (hb hby D16_42) (by decide) (by decide) ?_
    show Steps p.tables e below (T19.setTop (mkF m 12 #[.val .null, .val .null, .val (.ref bv1), .val (.int 2), .val (.int (((0 : Int32) + (1 : Int32)) + (1 : Int32))), .val (.ref en2)] [])) _
    refine XS.iload X19.here hx rfl (hb hby D16_12) rfl ?_
    show Steps p.tables e below (T19.setTop (mkF m 14 #[.val .null, .val .null, .val (.ref bv1), .val (.int 2), .val (.int (((0 : Int32) + (1 : Int32)) + (1 : Int32))), .val (.ref en2)] [(.int (((0 : Int32) + (1 : Int32)) + (1 : Int32)))])) _
    refine XS.iloadN X19.here hx rfl (hb hby D16_14) rfl ?_
    show Steps p.tables e below (T19.setTop (mkF m 15 #[.val .null, .val .null, .val (.ref bv1), .val (.int 2), .val (.int (((0 : Int32) + (1 : Int32)) + (1 : Int32))), .val (.ref en2)] [(.int 2), (.int (((0 : Int32) + (1 : Int32)) + (1 : Int32)))])) _
    refine XS.icmpYes X19.here hx rfl (pc0 := 15) (pc' := 45) rfl (hb hby D16_15) rfl (flt hd22).2.1 (by decide) (by decide) ?_
    show Steps p.tables e below (T19.setTop (mkF m 45 #[.val .null, .val .null, .val (.ref bv1), .val (.int 2), .val (.int (((0 : Int32) + (1 : Int32)) + (1 : Int32))), .val (.ref en2)] [])) _
    refine XS.aloadN X19.here hx rfl (hb hby D16_45) rfl rfl ?_
    show Steps p.tables e below (T19.setTop (mkF m 46 #[.val .null, .val .null, .val (.ref bv1), .val (.int 2), .val (.int (((0 : Int32) + (1 : Int32)) + (1 : Int32))), .val (.ref en2)] [.null])) _
    jvm_step X19.here [X19.here.top, hx, (hb hby D16_46), X19.method', Bd.returns, Value.isRef, FieldType.isReference]
    first | (intro acts; rw [hr _ acts rfl rfl rfl]) | rw [hr _ _ rfl rfl rfl]
    exact Steps.refl _
  · show Q_own_nmn Z va en1 en2 nm1 nm2 nv1 nv2 kv kn1 kn2 G1 h0 n0 _ T19.heap _
    rw [e19q]
    exact ⟨rfl, N19, fc23⟩
theorem D16_36 : decode prog_17_method_4_code 36 = .ok (.aload 5, 2) := by decide +kernel
theorem D16_38 : decode prog_17_method_4_code 38 = .ok (.astore_n 1, 1) := by decide +kernel
theorem ef_own_named (m : MethodId) {ss2 : Addr} : entryFrame m #[(.ref ss2)] 6 = mkF m 0 #[.val (.ref ss2), .unset, .unset, .unset, .unset, .unset] [] := by first | (simp [entryFrame, mkF, argsToLocals, Value.category]; done) | rfl
def Q_own_named (Z : State) (va en1 en2 nm1 nm2 nv1 nv2 : Addr) (kv kn1 kn2 : ClassId) (ss2 nb2 : Addr) (kk2 : ClassId) (cs : List Int32) (G1 : Int32) (h0 : Heap) (n0 : Nat) (v : Option Value) (h : Heap) (L : List Loc) : Prop := ∃ u : Value, v = some u ∧ Fr n0 L ∧ Keep h0 h [] ∧ ((own_E4 ([104, 116, 116, 112] : List Int32) cs) → u = .ref en1) ∧ ((own_E4 ([104, 116, 116, 112, 115] : List Int32) cs) → u = .ref en2) ∧ (¬ (own_E4 ([104, 116, 116, 112] : List Int32) cs) → ¬ (own_E4 ([104, 116, 116, 112, 115] : List Int32) cs) → u = .null)
set_option maxRecDepth 65536 in
set_option maxHeartbeats 40000000 in
theorem own_named (l : Launch) (Z : State) (a0 : Array Value) (hw : ∀ d ∈ tables_1, d.before a0 Z = true) (ws : List Jvm.Cond) (va en1 en2 nm1 nm2 nv1 nv2 : Addr) (kv kn1 kn2 : ClassId) (ss2 nb2 : Addr) (kk2 : ClassId) (cs : List Int32) (G1 : Int32) (h0 : Heap) (n0 : Nat) (Z0 : n0 ≤ h0.size) (SV : Sta Z Z.heap "com/example/deadline/deadline/CallbackScheme" "$VALUES" "[Lcom/example/deadline/deadline/CallbackScheme;" (.ref va)) (KV : Arv Z Z.heap va kv (.object "com/example/deadline/deadline/CallbackScheme") (2 : Int32) [(.ref en1), (.ref en2)] .null) (EV : Exa Z Z.heap va "[Lcom/example/deadline/deadline/CallbackScheme;") (FN1 : Fld Z Z.heap en1 "com/example/deadline/deadline/CallbackScheme" "name" "Ljava/lang/String;" (.ref nm1)) (FN2 : Fld Z Z.heap en2 "com/example/deadline/deadline/CallbackScheme" "name" "Ljava/lang/String;" (.ref nm2)) (EN1 : Exa Z Z.heap nm1 "java/lang/String") (VN1 : Fld Z Z.heap nm1 "java/lang/String" "value" "[B" (.ref nv1)) (CN1 : Fld Z Z.heap nm1 "java/lang/String" "coder" "B" (.int 0)) (KN1 : Arv Z Z.heap nv1 kn1 .byte (4 : Int32) [(.int 104), (.int 116), (.int 116), (.int 112)] (.int 0)) (EN2 : Exa Z Z.heap nm2 "java/lang/String") (VN2 : Fld Z Z.heap nm2 "java/lang/String" "value" "[B" (.ref nv2)) (CN2 : Fld Z Z.heap nm2 "java/lang/String" "coder" "B" (.int 0)) (KN2 : Arv Z Z.heap nv2 kn2 .byte (5 : Int32) [(.int 104), (.int 116), (.int 116), (.int 112), (.int 115)] (.int 0)) (xE2 : Exa Z h0 ss2 "java/lang/String") (xF2 : Fld Z h0 ss2 "java/lang/String" "value" "[B" (.ref nb2)) (xC2 : Fld Z h0 ss2 "java/lang/String" "coder" "B" (.int 0)) (xV2 : Arv Z h0 nb2 kk2 .byte (Int32.ofNat cs.length) (own_B cs) (.int 0)) (hs0 : n0 ≤ ss2) (hcl : cs.length ≤ 6) (O2 : Sta Z Z.heap "java/lang/String" "COMPACT_STRINGS" "Z" (.int G1)) (P5 : ¬ G1 = (0 : Int32)) (XO : Old Z n0 h0) :
    MetFree l (⟨"com/example/deadline/deadline/CallbackScheme", "named", "(Ljava/lang/String;)Lcom/example/deadline/deadline/CallbackScheme;"⟩ : MethodName) (head1 (Jvm.Cond.code (⟨"com/example/deadline/deadline/CallbackScheme", "named", "(Ljava/lang/String;)Lcom/example/deadline/deadline/CallbackScheme;"⟩ : MethodName) prog_17_method_4_code 6 (some (.object "com/example/deadline/deadline/CallbackScheme")) :: ws) ({ frames := 4, cells := 1, slots := 2, locals := 66 } : Room)) (fun a U => a = #[(.ref ss2)] ∧ Z.Warmed39 U.vm ∧ U.heap = h0) (fun _ _ _ _ _ => True) (fun _ U o U' => ∃ v L, o = .returned v ∧ Q_own_named Z va en1 en2 nm1 nm2 nv1 nv2 kv kn1 kn2 ss2 nb2 kk2 cs G1 h0 n0 v U'.heap L ∧ FrameEnd U o U' L ({ frames := 4, cells := 1, slots := 2, locals := 66 } : Room).cells ({ frames := 4, cells := 1, slots := 2, locals := 66 } : Room).slots) := by
  refine MetFree.of_bodySF (plainFor_of_name pn_com_example_deadline_deadline_CallbackScheme) hisR ?_
  intro p e s m args below meth c s₁ Bd hml0 hP hK
  obtain ⟨rfl, hZ, hh⟩ := hP
  have hx := Bd.exec
  have hby := Bd.bytes
  have hml : c.maxLocals = 6 := hml0
  have hown : s.vm.findClass "com/example/deadline/deadline/CallbackScheme" = some m.cls := findClass_of_methodNamed Bd.named
  have hnm := (name_of_methodNamed Bd.named Bd.method).1
  have X0 : Stand p l e ({ frames := 4, cells := 1, slots := 2, locals := 66 } : Room) s m #[(.ref ss2)] below meth c s₁ [] 0 0 := Stand.of_body Bd
  have e0 : s₁.heap = h0 := by rw [← hh, Bd.state]; rfl
  have N0 := Fr.nil n0
  have pre0 : ∀ t, Steps p.tables e below (s₁.setTop (mkF m 0 #[.val (.ref ss2), .unset, .unset, .unset, .unset, .unset] [])) t → Steps p.tables e below (s₁.setTop (entryFrame m #[(.ref ss2)] 6)) t := fun t k => castTop (ef_own_named m) k
  have hE12 : (own_E4 ([104, 116, 116, 112] : List Int32) cs) → ¬ (own_E4 ([104, 116, 116, 112, 115] : List Int32) cs) := fun q1 q2 => by
    have z1 : cs.length = 4 := q1.1
    have z2 : cs.length = 5 := q2.1
    omega
  obtain ⟨_, _, ⟨T1, L1, k1, n1⟩, -, X1, ⟨Lc1, hQ1, l1, y1, z1⟩, st1⟩ := Jvm.LawKit.callS X0 hx (y := (⟨"com/example/deadline/deadline/CallbackScheme", "values", "()[Lcom/example/deadline/deadline/CallbackScheme;"⟩ : MethodName)) hown (mvT hZ (gw hw 48 rfl)) (mvT hZ (gw hw 49 rfl)) (mvT hZ (gw hw 46 rfl)) (mvT hZ (gw hw 50 rfl)) (by decide) (backOf (W := 0) (own_values l Z a0 hw [] va en1 en2 kv h0 n0 Z0 SV KV EV XO) hZ (gw hw 50 rfl) (gw hw 46 rfl) (by decide) (by decide)) (g := (mkF m 2 #[.val (.ref ss2), .val .null, .unset, .unset, .unset, .unset] [])) rfl (by rw [hml]; rfl) (argsL := []) (rest := []) (lenOf pd____Lcom_example_deadline_deadline_CallbackScheme_ rfl) rfl (by show 2 * 0 + _ ≤ _; exact Nat.le_of_eq rfl) (hb hby D16_2) (fun _ _ => ⟨rfl, e0, (by decide : 0 + 1 ≤ _), (by decide : 0 + 2 ≤ _)⟩)
  dsimp only [Pt.U, Pt.locs, Pt.cells, Pt.slots] at X1 l1 y1 z1 st1 hQ1
  subst l1 y1 z1
  obtain ⟨bv1, rfl, N1q, K1, lo1, V1⟩ := hQ1
  have N1 := Fr.app N0 N1q
  have pre2 : ∀ t, Steps p.tables e below (T1.setTop (mkF m 5 #[.val (.ref ss2), .val .null, .unset, .unset, .unset, .unset] [(.ref bv1)])) t → Steps p.tables e below (s₁.setTop (entryFrame m #[(.ref ss2)] 6)) t := by
    intro t kk
    refine pre0 t ?_
    show Steps p.tables e below (s₁.setTop (mkF m 0 #[.val (.ref ss2), .unset, .unset, .unset, .unset, .unset] [])) _
    refine XS.aconstNull X0.here hx rfl (hb hby D16_0) ?_
    show Steps p.tables e below (s₁.setTop (mkF m 1 #[.val (.ref ss2), .unset, .unset, .unset, .unset, .unset] [.null])) _
    refine XS.astoreN X0.here hx rfl (hb hby D16_1) rfl rfl (l' := #[.val (.ref ss2), .val .null, .unset, .unset, .unset, .unset]) rfl ?_
    show Steps p.tables e below (s₁.setTop (mkF m 2 #[.val (.ref ss2), .val .null, .unset, .unset, .unset, .unset] [])) _
    exact st1 _ kk
  obtain ⟨cl3, Ar3, q3, S3, M3, H3, G3⟩ := id V1
  have hd4 : (0 : Int32) < (2 : Int32) := by decide
  obtain ⟨cl5, Ar5, q5, S5, M5, H5, G5⟩ := id V1
  have hin6 : ¬ ((0 : Int32) < 0 ∨ cl5.slots.size ≤ ((0 : Int32)).toNatClampNeg) := inb_of S5 ⟨by decide, by decide⟩
  have hat6 : cl5.slots[((0 : Int32)).toNatClampNeg]? = some (.ref en1) := Has.at H5 (inb_of S5 ⟨by decide, by decide⟩) rfl
  have fc7 := (XO.keep K1 all0)
  obtain ⟨T8, X8, e8, st8⟩ := getF X1 hx hZ hown (host := "") (Or.inl (gw hw 65 rfl)) Via.refl rfl (FN1.ext fc7.2) (g := (mkF m 26 #[.val (.ref ss2), .val .null, .val (.ref bv1), .val (.int 2), .val (.int 0), .val (.ref en1)] [(.ref en1)])) rfl rfl (hb hby D16_26)
  have pre9 : ∀ t, Steps p.tables e below (T8.setTop (mkF m 29 #[.val (.ref ss2), .val .null, .val (.ref bv1), .val (.int 2), .val (.int 0), .val (.ref en1)] [(.ref nm1)])) t → Steps p.tables e below (s₁.setTop (entryFrame m #[(.ref ss2)] 6)) t := by
    intro t kk
    refine pre2 t ?_
    show Steps p.tables e below (T1.setTop (mkF m 5 #[.val (.ref ss2), .val .null, .unset, .unset, .unset, .unset] [(.ref bv1)])) _
    refine XS.astoreN X1.here hx rfl (hb hby D16_5) rfl rfl (l' := #[.val (.ref ss2), .val .null, .val (.ref bv1), .unset, .unset, .unset]) rfl ?_
    show Steps p.tables e below (T1.setTop (mkF m 6 #[.val (.ref ss2), .val .null, .val (.ref bv1), .unset, .unset, .unset] [])) _
    refine XS.aloadN X1.here hx rfl (hb hby D16_6) rfl rfl ?_
    show Steps p.tables e below (T1.setTop (mkF m 7 #[.val (.ref ss2), .val .null, .val (.ref bv1), .unset, .unset, .unset] [(.ref bv1)])) _
    refine X1.arraylength hx (by exact Ar3.1) (State.isArrayOf_alike hZ.alike Ar3.2.1) (g := (mkF m 7 #[.val (.ref ss2), .val .null, .val (.ref bv1), .unset, .unset, .unset] [(.ref bv1)])) rfl rfl (hb hby D16_7) _ ?_
    rw [len_of S3 M3]
    show Steps p.tables e below (T1.setTop (mkF m 8 #[.val (.ref ss2), .val .null, .val (.ref bv1), .unset, .unset, .unset] [(.int 2)])) _
    refine XS.istoreN X1.here hx rfl (hb hby D16_8) rfl (l' := #[.val (.ref ss2), .val .null, .val (.ref bv1), .val (.int 2), .unset, .unset]) rfl ?_
    show Steps p.tables e below (T1.setTop (mkF m 9 #[.val (.ref ss2), .val .null, .val (.ref bv1), .val (.int 2), .unset, .unset] [])) _
    refine XS.iconst X1.here hx rfl (hb hby D16_9) ?_
    show Steps p.tables e below (T1.setTop (mkF m 10 #[.val (.ref ss2), .val .null, .val (.ref bv1), .val (.int 2), .unset, .unset] [(.int 0)])) _
    refine XS.istore X1.here hx rfl (hb hby D16_10) rfl (l' := #[.val (.ref ss2), .val .null, .val (.ref bv1), .val (.int 2), .val (.int 0), .unset]) rfl ?_
    show Steps p.tables e below (T1.setTop (mkF m 12 #[.val (.ref ss2), .val .null, .val (.ref bv1), .val (.int 2), .val (.int 0), .unset] [])) _
    refine XS.iload X1.here hx rfl (hb hby D16_12) rfl ?_
    show Steps p.tables e below (T1.setTop (mkF m 14 #[.val (.ref ss2), .val .null, .val (.ref bv1), .val (.int 2), .val (.int 0), .unset] [(.int 0)])) _
    refine XS.iloadN X1.here hx rfl (hb hby D16_14) rfl ?_
    show Steps p.tables e below (T1.setTop (mkF m 15 #[.val (.ref ss2), .val .null, .val (.ref bv1), .val (.int 2), .val (.int 0), .unset] [(.int 2), (.int 0)])) _
    refine XS.icmpNo X1.here hx rfl (hb hby D16_15) rfl (tlt hd4).2.1 ?_
    show Steps p.tables e below (T1.setTop (mkF m 18 #[.val (.ref ss2), .val .null, .val (.ref bv1), .val (.int 2), .val (.int 0), .unset] [])) _
    refine XS.aloadN X1.here hx rfl (hb hby D16_18) rfl rfl ?_
    show Steps p.tables e below (T1.setTop (mkF m 19 #[.val (.ref ss2), .val .null, .val (.ref bv1), .val (.int 2), .val (.int 0), .unset] [(.ref bv1)])) _
    refine XS.iload X1.here hx rfl (hb hby D16_19) rfl ?_
    show Steps p.tables e below (T1.setTop (mkF m 21 #[.val (.ref ss2), .val .null, .val (.ref bv1), .val (.int 2), .val (.int 0), .unset] [(.int 0), (.ref bv1)])) _
    refine X1.aaload hx (j := (0 : Int32)) (v := (.ref en1)) (by exact Ar5.1) (State.isArrayOf_alike hZ.alike Ar5.2.1) rfl Ar5.2.2 hin6 hat6 (g := (mkF m 21 #[.val (.ref ss2), .val .null, .val (.ref bv1), .val (.int 2), .val (.int 0), .unset] [(.int 0), (.ref bv1)])) rfl rfl (hb hby D16_21) _ ?_
    show Steps p.tables e below (T1.setTop (mkF m 22 #[.val (.ref ss2), .val .null, .val (.ref bv1), .val (.int 2), .val (.int 0), .unset] [(.ref en1)])) _
    refine XS.astore X1.here hx rfl (hb hby D16_22) rfl rfl (l' := #[.val (.ref ss2), .val .null, .val (.ref bv1), .val (.int 2), .val (.int 0), .val (.ref en1)]) rfl ?_
    show Steps p.tables e below (T1.setTop (mkF m 24 #[.val (.ref ss2), .val .null, .val (.ref bv1), .val (.int 2), .val (.int 0), .val (.ref en1)] [])) _
    refine XS.aload X1.here hx rfl (hb hby D16_24) rfl rfl ?_
    show Steps p.tables e below (T1.setTop (mkF m 26 #[.val (.ref ss2), .val .null, .val (.ref bv1), .val (.int 2), .val (.int 0), .val (.ref en1)] [(.ref en1)])) _
    exact st8 _ kk
  have fc10 := (xE2.keep K1)
  have fc11 := (xF2.keep K1 nin0)
  have fc12 := (xC2.keep K1 nin0)
  have fc13 := (xV2.keep K1 nin0)
  have fc15 := (Nat.le_trans Z0 K1.1)
  obtain ⟨cq14, kq14, q14a, q14b, q14c⟩ := isOf hZ e8 (EN1.ext fc7.2)
  obtain ⟨_, _, ⟨T14, L14, k14, n14⟩, -, X14, ⟨Lc14, hQ14, l14, y14, z14⟩, st14⟩ := X8.virtualBack hx (y := (⟨"java/lang/String", "equalsIgnoreCase", "(Ljava/lang/String;)Z"⟩ : MethodName)) (z := (⟨"java/lang/String", "equalsIgnoreCase", "(Ljava/lang/String;)Z"⟩ : MethodName)) hown (mvT hZ (gw hw 67 rfl)) (mvT hZ (gw hw 68 rfl)) (notFace_of_selects (args := #[]) (mvT hZ (gw hw 70 rfl))) (mvT hZ (gw hw 70 rfl)) (mvT hZ (gw hw 69 rfl)) (by decide) (backOf (W := 0) (own_ei4 l Z a0 hw [] nm1 ss2 nv1 nb2 kn1 kk2 cs G1 T1.heap n0 fc15 (EN1.ext fc7.2) (VN1.ext fc7.2) (CN1.ext fc7.2) (KN1.ext fc7.2) fc10 fc11 fc12 fc13 (Old.ne XO EN1.lt hs0) hcl O2 P5 fc7) hZ (gw hw 71 rfl) (gw hw 10 rfl) (by decide) (by decide)) q14a q14c (g := (mkF m 30 #[.val (.ref ss2), .val .null, .val (.ref bv1), .val (.int 2), .val (.int 0), .val (.ref en1)] [(.ref ss2), (.ref nm1)])) rfl (by rw [hml]; rfl) (Steps.refl _) (argsL := [(.ref ss2)]) (rest := []) (lenOf pd__Ljava_lang_String__Z rfl) rfl (by show 2 * 0 + _ ≤ _; exact Nat.le_of_eq rfl) (hb hby D16_30) (fun _ _ => ⟨rfl, e8, (by decide : 1 + 0 ≤ _), (by decide : 2 + 0 ≤ _)⟩)
  dsimp only [Pt.U, Pt.locs, Pt.cells, Pt.slots] at X14 l14 y14 z14 st14 hQ14
  subst l14 y14 z14
  obtain ⟨rr1, rfl, N14q, e14q, ra1, rb1⟩ := hQ14
  have N14 := Fr.app N1 N14q
  have pre16 : ∀ t, Steps p.tables e below (T14.setTop (mkF m 33 #[.val (.ref ss2), .val .null, .val (.ref bv1), .val (.int 2), .val (.int 0), .val (.ref en1)] [(.int rr1)])) t → Steps p.tables e below (s₁.setTop (entryFrame m #[(.ref ss2)] 6)) t := by
    intro t kk
    refine pre9 t ?_
    show Steps p.tables e below (T8.setTop (mkF m 29 #[.val (.ref ss2), .val .null, .val (.ref bv1), .val (.int 2), .val (.int 0), .val (.ref en1)] [(.ref nm1)])) _
    refine XS.aloadN X8.here hx rfl (hb hby D16_29) rfl rfl ?_
    show Steps p.tables e below (T8.setTop (mkF m 30 #[.val (.ref ss2), .val .null, .val (.ref bv1), .val (.int 2), .val (.int 0), .val (.ref en1)] [(.ref ss2), (.ref nm1)])) _
    exact st14.trans kk
  by_cases m1 : (own_E4 ([104, 116, 116, 112] : List Int32) cs)
  case pos =>
    have hd17 : ¬ (rr1 = (0 : Int32)) := by rw [ra1 m1]; decide
    have hd18 : ((0 : Int32) + (1 : Int32)) < (2 : Int32) := by decide
    obtain ⟨cl19, Ar19, q19, S19, M19, H19, G19⟩ := id V1
    have hin20 : ¬ (((0 : Int32) + (1 : Int32)) < 0 ∨ cl19.slots.size ≤ (((0 : Int32) + (1 : Int32))).toNatClampNeg) := inb_of S19 ⟨by decide, by decide⟩
    have hat20 : cl19.slots[(((0 : Int32) + (1 : Int32))).toNatClampNeg]? = some (.ref en2) := Has.at H19 (inb_of S19 ⟨by decide, by decide⟩) rfl
    obtain ⟨T21, X21, e21, st21⟩ := getF X14 hx hZ hown (host := "") (Or.inl (gw hw 65 rfl)) Via.refl e14q (FN2.ext fc7.2) (g := (mkF m 26 #[.val (.ref ss2), .val (.ref en1), .val (.ref bv1), .val (.int 2), .val (.int ((0 : Int32) + (1 : Int32))), .val (.ref en2)] [(.ref en2)])) rfl rfl (hb hby D16_26)
    have pre22 : ∀ t, Steps p.tables e below (T21.setTop (mkF m 29 #[.val (.ref ss2), .val (.ref en1), .val (.ref bv1), .val (.int 2), .val (.int ((0 : Int32) + (1 : Int32))), .val (.ref en2)] [(.ref nm2)])) t → Steps p.tables e below (s₁.setTop (entryFrame m #[(.ref ss2)] 6)) t := by
      intro t kk
      refine pre16 t ?_
      show Steps p.tables e below (T14.setTop (mkF m 33 #[.val (.ref ss2), .val .null, .val (.ref bv1), .val (.int 2), .val (.int 0), .val (.ref en1)] [(.int rr1)])) _
      refine XS.ifNo X14.here hx rfl (hb hby D16_33) rfl ((if0 _ _).trans (feq hd17).1) ?_
      show Steps p.tables e below (T14.setTop (mkF m 36 #[.val (.ref ss2), .val .null, .val (.ref bv1), .val (.int 2), .val (.int 0), .val (.ref en1)] [])) _
      refine XS.aload X14.here hx rfl (hb hby D16_36) rfl rfl ?_
      show Steps p.tables e below (T14.setTop (mkF m 38 #[.val (.ref ss2), .val .null, .val (.ref bv1), .val (.int 2), .val (.int 0), .val (.ref en1)] [(.ref en1)])) _
      refine XS.astoreN X14.here hx rfl (hb hby D16_38) rfl rfl (l' := #[.val (.ref ss2), .val (.ref en1), .val (.ref bv1), .val (.int 2), .val (.int 0), .val (.ref en1)]) rfl ?_
      show Steps p.tables e below (T14.setTop (mkF m 39 #[.val (.ref ss2), .val (.ref en1), .val (.ref bv1), .val (.int 2), .val (.int 0), .val (.ref en1)] [])) _
      refine XS.iinc X14.here hx rfl (hb hby D16_39) rfl (l' := #[.val (.ref ss2), .val (.ref en1), .val (.ref bv1), .val (.int 2), .val (.int ((0 : Int32) + (1 : Int32))), .val (.ref en1)]) rfl ?_
      show Steps p.tables e below (T14.setTop (mkF m 42 #[.val (.ref ss2), .val (.ref en1), .val (.ref bv1), .val (.int 2), .val (.int ((0 : Int32) + (1 : Int32))), .val (.ref en1)] [])) _
      refine XS.goto X14.here hx rfl (pc0 := 42) (pc' := 12) rfl (hb hby D16_42) (by decide) (by decide) ?_
      show Steps p.tables e below (T14.setTop (mkF m 12 #[.val (.ref ss2), .val (.ref en1), .val (.ref bv1), .val (.int 2), .val (.int ((0 : Int32) + (1 : Int32))), .val (.ref en1)] [])) _
      refine XS.iload X14.here hx rfl (hb hby D16_12) rfl ?_
      show Steps p.tables e below (T14.setTop (mkF m 14 #[.val (.ref ss2), .val (.ref en1), .val (.ref bv1), .val (.int 2), .val (.int ((0 : Int32) + (1 : Int32))), .val (.ref en1)] [(.int ((0 : Int32) + (1 : Int32)))])) _
      refine XS.iloadN X14.here hx rfl (hb hby D16_14) rfl ?_
      show Steps p.tables e below (T14.setTop (mkF m 15 #[.val (.ref ss2), .val (.ref en1), .val (.ref bv1), .val (.int 2), .val (.int ((0 : Int32) + (1 : Int32))), .val (.ref en1)] [(.int 2), (.int ((0 : Int32) + (1 : Int32)))])) _
      refine XS.icmpNo X14.here hx rfl (hb hby D16_15) rfl (tlt hd18).2.1 ?_
      show Steps p.tables e below (T14.setTop (mkF m 18 #[.val (.ref ss2), .val (.ref en1), .val (.ref bv1), .val (.int 2), .val (.int ((0 : Int32) + (1 : Int32))), .val (.ref en1)] [])) _
      refine XS.aloadN X14.here hx rfl (hb hby D16_18) rfl rfl ?_
      show Steps p.tables e below (T14.setTop (mkF m 19 #[.val (.ref ss2), .val (.ref en1), .val (.ref bv1), .val (.int 2), .val (.int ((0 : Int32) + (1 : Int32))), .val (.ref en1)] [(.ref bv1)])) _
      refine XS.iload X14.here hx rfl (hb hby D16_19) rfl ?_
      show Steps p.tables e below (T14.setTop (mkF m 21 #[.val (.ref ss2), .val (.ref en1), .val (.ref bv1), .val (.int 2), .val (.int ((0 : Int32) + (1 : Int32))), .val (.ref en1)] [(.int ((0 : Int32) + (1 : Int32))), (.ref bv1)])) _
      refine X14.aaload hx (j := ((0 : Int32) + (1 : Int32))) (v := (.ref en2)) (by rw [e14q]; exact Ar19.1) (State.isArrayOf_alike hZ.alike Ar19.2.1) rfl Ar19.2.2 hin20 hat20 (g := (mkF m 21 #[.val (.ref ss2), .val (.ref en1), .val (.ref bv1), .val (.int 2), .val (.int ((0 : Int32) + (1 : Int32))), .val (.ref en1)] [(.int ((0 : Int32) + (1 : Int32))), (.ref bv1)])) rfl rfl (hb hby D16_21) _ ?_
      show Steps p.tables e below (T14.setTop (mkF m 22 #[.val (.ref ss2), .val (.ref en1), .val (.ref bv1), .val (.int 2), .val (.int ((0 : Int32) + (1 : Int32))), .val (.ref en1)] [(.ref en2)])) _
      refine XS.astore X14.here hx rfl (hb hby D16_22) rfl rfl (l' := #[.val (.ref ss2), .val (.ref en1), .val (.ref bv1), .val (.int 2), .val (.int ((0 : Int32) + (1 : Int32))), .val (.ref en2)]) rfl ?_
      show Steps p.tables e below (T14.setTop (mkF m 24 #[.val (.ref ss2), .val (.ref en1), .val (.ref bv1), .val (.int 2), .val (.int ((0 : Int32) + (1 : Int32))), .val (.ref en2)] [])) _
      refine XS.aload X14.here hx rfl (hb hby D16_24) rfl rfl ?_
      show Steps p.tables e below (T14.setTop (mkF m 26 #[.val (.ref ss2), .val (.ref en1), .val (.ref bv1), .val (.int 2), .val (.int ((0 : Int32) + (1 : Int32))), .val (.ref en2)] [(.ref en2)])) _
      exact st21 _ kk
    obtain ⟨cq23, kq23, q23a, q23b, q23c⟩ := isOf hZ e21 (EN2.ext fc7.2)
    obtain ⟨_, _, ⟨T23, L23, k23, n23⟩, -, X23, ⟨Lc23, hQ23, l23, y23, z23⟩, st23⟩ := X21.virtualBack hx (y := (⟨"java/lang/String", "equalsIgnoreCase", "(Ljava/lang/String;)Z"⟩ : MethodName)) (z := (⟨"java/lang/String", "equalsIgnoreCase", "(Ljava/lang/String;)Z"⟩ : MethodName)) hown (mvT hZ (gw hw 67 rfl)) (mvT hZ (gw hw 68 rfl)) (notFace_of_selects (args := #[]) (mvT hZ (gw hw 70 rfl))) (mvT hZ (gw hw 70 rfl)) (mvT hZ (gw hw 69 rfl)) (by decide) (backOf (W := 0) (own_ei5 l Z a0 hw [] nm2 ss2 nv2 nb2 kn2 kk2 cs G1 T1.heap n0 fc15 (EN2.ext fc7.2) (VN2.ext fc7.2) (CN2.ext fc7.2) (KN2.ext fc7.2) fc10 fc11 fc12 fc13 (Old.ne XO EN2.lt hs0) hcl O2 P5 fc7) hZ (gw hw 71 rfl) (gw hw 10 rfl) (by decide) (by decide)) q23a q23c (g := (mkF m 30 #[.val (.ref ss2), .val (.ref en1), .val (.ref bv1), .val (.int 2), .val (.int ((0 : Int32) + (1 : Int32))), .val (.ref en2)] [(.ref ss2), (.ref nm2)])) rfl (by rw [hml]; rfl) (Steps.refl _) (argsL := [(.ref ss2)]) (rest := []) (lenOf pd__Ljava_lang_String__Z rfl) rfl (by show 2 * 0 + _ ≤ _; exact Nat.le_of_eq rfl) (hb hby D16_30) (fun _ _ => ⟨rfl, e21, (by decide : 1 + 0 ≤ _), (by decide : 2 + 0 ≤ _)⟩)
    dsimp only [Pt.U, Pt.locs, Pt.cells, Pt.slots] at X23 l23 y23 z23 st23 hQ23
    subst l23 y23 z23
    obtain ⟨rr2, rfl, N23q, e23q, ra2, rb2⟩ := hQ23
    have N23 := Fr.app N14 N23q
    have pre24 : ∀ t, Steps p.tables e below (T23.setTop (mkF m 33 #[.val (.ref ss2), .val (.ref en1), .val (.ref bv1), .val (.int 2), .val (.int ((0 : Int32) + (1 : Int32))), .val (.ref en2)] [(.int rr2)])) t → Steps p.tables e below (s₁.setTop (entryFrame m #[(.ref ss2)] 6)) t := by
      intro t kk
      refine pre22 t ?_
      show Steps p.tables e below (T21.setTop (mkF m 29 #[.val (.ref ss2), .val (.ref en1), .val (.ref bv1), .val (.int 2), .val (.int ((0 : Int32) + (1 : Int32))), .val (.ref en2)] [(.ref nm2)])) _
      refine XS.aloadN X21.here hx rfl (hb hby D16_29) rfl rfl ?_
      show Steps p.tables e below (T21.setTop (mkF m 30 #[.val (.ref ss2), .val (.ref en1), .val (.ref bv1), .val (.int 2), .val (.int ((0 : Int32) + (1 : Int32))), .val (.ref en2)] [(.ref ss2), (.ref nm2)])) _
      exact st23.trans kk
    by_cases m2 : (own_E4 ([104, 116, 116, 112, 115] : List Int32) cs)
    case pos => exact absurd m2 (hE12 m1)
    case neg =>
      have hd25 : rr2 = (0 : Int32) := rb2 m2
      have hd26 : ¬ ((((0 : Int32) + (1 : Int32)) + (1 : Int32)) < (2 : Int32)) := by decide
      have fc27 := ((Keep.refl h0 []).trans K1 all0)
      obtain ⟨fs, hr, hrun, hended, hW, hsame⟩ := X23.leave (v := some (.ref en1)) (fun h => by rw [Bd.returns] at h; cases h)
      refine ⟨_, _, pre24 _ ?_, hrun, hended, _, _, rfl, ?_, ⟨_, rfl⟩, hW, hsame.mono (by decide) (by decide)⟩
      · show Steps p.tables e below (T23.setTop (mkF m 33 #[.val (.ref ss2), .val (.ref en1), .val (.ref bv1), .val (.int 2), .val (.int ((0 : Int32) + (1 : Int32))), .val (.ref en2)] [(.int rr2)])) _
        refine XS.ifYes X23.here hx rfl (pc0 := 33) (pc' := 39) rfl (hb hby D16_33) rfl ((if0 _ _).trans (teq hd25).1) (by decide) (by decide) ?_
        show Steps p.tables e below (T23.setTop (mkF m 39 #[.val (.ref ss2), .val (.ref en1), .val (.ref bv1), .val (.int 2), .val (.int ((0 : Int32) + (1 : Int32))), .val (.ref en2)] [])) _
        refine XS.iinc X23.here hx rfl (hb hby D16_39) rfl (l' := #[.val (.ref ss2), .val (.ref en1), .val (.ref bv1), .val (.int 2), .val (.int (((0 : Int32) + (1 : Int32)) + (1 : Int32))), .val (.ref en2)]) rfl ?_
        show Steps p.tables e below (T23.setTop (mkF m 42 #[.val (.ref ss2), .val (.ref en1), .val (.ref bv1), .val (.int 2), .val (.int (((0 : Int32) + (1 : Int32)) + (1 : Int32))), .val (.ref en2)] [])) _
        refine XS.goto X23.here hx rfl (pc0 := 42) (pc' := 12) rfl (hb hby D16_42) (by decide) (by decide) ?_
        show Steps p.tables e below (T23.setTop (mkF m 12 #[.val (.ref ss2), .val (.ref en1), .val (.ref bv1), .val (.int 2), .val (.int (((0 : Int32) + (1 : Int32)) + (1 : Int32))), .val (.ref en2)] [])) _
        refine XS.iload X23.here hx rfl (hb hby D16_12) rfl ?_
        show Steps p.tables e below (T23.setTop (mkF m 14 #[.val (.ref ss2), .val (.ref en1), .val (.ref bv1), .val (.int 2), .val (.int (((0 : Int32) + (1 : Int32)) + (1 : Int32))), .val (.ref en2)] [(.int (((0 : Int32) + (1 : Int32)) + (1 : Int32)))])) _
        refine XS.iloadN X23.here hx rfl (hb hby D16_14) rfl ?_
        show Steps p.tables e below (T23.setTop (mkF m 15 #[.val (.ref ss2), .val (.ref en1), .val (.ref bv1), .val (.int 2), .val (.int (((0 : Int32) + (1 : Int32)) + (1 : Int32))), .val (.ref en2)] [(.int 2), (.int (((0 : Int32) + (1 : Int32)) + (1 : Int32)))])) _
        refine XS.icmpYes X23.here hx rfl (pc0 := 15) (pc' := 45) rfl (hb hby D16_15) rfl (flt hd26).2.1 (by decide) (by decide) ?_
        show Steps p.tables e below (T23.setTop (mkF m 45 #[.val (.ref ss2), .val (.ref en1), .val (.ref bv1), .val (.int 2), .val (.int (((0 : Int32) + (1 : Int32)) + (1 : Int32))), .val (.ref en2)] [])) _
        refine XS.aloadN X23.here hx rfl (hb hby D16_45) rfl rfl ?_
        show Steps p.tables e below (T23.setTop (mkF m 46 #[.val (.ref ss2), .val (.ref en1), .val (.ref bv1), .val (.int 2), .val (.int (((0 : Int32) + (1 : Int32)) + (1 : Int32))), .val (.ref en2)] [(.ref en1)])) _
        jvm_step X23.here [X23.here.top, hx, (hb hby D16_46), X23.method', Bd.returns, Value.isRef, FieldType.isReference]
        first | (intro acts; rw [hr _ acts rfl rfl rfl]) | rw [hr _ _ rfl rfl rfl]
        exact Steps.refl _
      · show Q_own_named Z va en1 en2 nm1 nm2 nv1 nv2 kv kn1 kn2 ss2 nb2 kk2 cs G1 h0 n0 _ T23.heap _
        rw [e23q]
        exact ⟨_, rfl, N23, fc27, fun _ => rfl, fun q => absurd q m2, fun q => absurd m1 q⟩
  case neg =>
    have hd28 : rr1 = (0 : Int32) := rb1 m1
    have hd29 : ((0 : Int32) + (1 : Int32)) < (2 : Int32) := by decide
    obtain ⟨cl30, Ar30, q30, S30, M30, H30, G30⟩ := id V1
    have hin31 : ¬ (((0 : Int32) + (1 : Int32)) < 0 ∨ cl30.slots.size ≤ (((0 : Int32) + (1 : Int32))).toNatClampNeg) := inb_of S30 ⟨by decide, by decide⟩
    have hat31 : cl30.slots[(((0 : Int32) + (1 : Int32))).toNatClampNeg]? = some (.ref en2) := Has.at H30 (inb_of S30 ⟨by decide, by decide⟩) rfl
    obtain ⟨T32, X32, e32, st32⟩ := getF X14 hx hZ hown (host := "") (Or.inl (gw hw 65 rfl)) Via.refl e14q (FN2.ext fc7.2) (g := (mkF m 26 #[.val (.ref ss2), .val .null, .val (.ref bv1), .val (.int 2), .val (.int ((0 : Int32) + (1 : Int32))), .val (.ref en2)] [(.ref en2)])) rfl rfl (hb hby D16_26)
    have pre33 : ∀ t, Steps p.tables e below (T32.setTop (mkF m 29 #[.val (.ref ss2), .val .null, .val (.ref bv1), .val (.int 2), .val (.int ((0 : Int32) + (1 : Int32))), .val (.ref en2)] [(.ref nm2)])) t → Steps p.tables e below (s₁.setTop (entryFrame m #[(.ref ss2)] 6)) t := by
      intro t kk
      refine pre16 t ?_
      show Steps p.tables e below (T14.setTop (mkF m 33 #[.val (.ref ss2), .val .null, .val (.ref bv1), .val (.int 2), .val (.int 0), .val (.ref en1)] [(.int rr1)])) _
      refine XS.ifYes X14.here hx rfl (pc0 := 33) (pc' := 39) rfl (hb hby D16_33) rfl ((if0 _ _).trans (teq hd28).1) (by decide) (by decide) ?_
      show Steps p.tables e below (T14.setTop (mkF m 39 #[.val (.ref ss2), .val .null, .val (.ref bv1), .val (.int 2), .val (.int 0), .val (.ref en1)] [])) _
      refine XS.iinc X14.here hx rfl (hb hby D16_39) rfl (l' := #[.val (.ref ss2), .val .null, .val (.ref bv1), .val (.int 2), .val (.int ((0 : Int32) + (1 : Int32))), .val (.ref en1)]) rfl ?_
      show Steps p.tables e below (T14.setTop (mkF m 42 #[.val (.ref ss2), .val .null, .val (.ref bv1), .val (.int 2), .val (.int ((0 : Int32) + (1 : Int32))), .val (.ref en1)] [])) _
      refine XS.goto X14.here hx rfl (pc0 := 42) (pc' := 12) rfl (hb hby D16_42) (by decide) (by decide) ?_
      show Steps p.tables e below (T14.setTop (mkF m 12 #[.val (.ref ss2), .val .null, .val (.ref bv1), .val (.int 2), .val (.int ((0 : Int32) + (1 : Int32))), .val (.ref en1)] [])) _
      refine XS.iload X14.here hx rfl (hb hby D16_12) rfl ?_
      show Steps p.tables e below (T14.setTop (mkF m 14 #[.val (.ref ss2), .val .null, .val (.ref bv1), .val (.int 2), .val (.int ((0 : Int32) + (1 : Int32))), .val (.ref en1)] [(.int ((0 : Int32) + (1 : Int32)))])) _
      refine XS.iloadN X14.here hx rfl (hb hby D16_14) rfl ?_
      show Steps p.tables e below (T14.setTop (mkF m 15 #[.val (.ref ss2), .val .null, .val (.ref bv1), .val (.int 2), .val (.int ((0 : Int32) + (1 : Int32))), .val (.ref en1)] [(.int 2), (.int ((0 : Int32) + (1 : Int32)))])) _
      refine XS.icmpNo X14.here hx rfl (hb hby D16_15) rfl (tlt hd29).2.1 ?_
      show Steps p.tables e below (T14.setTop (mkF m 18 #[.val (.ref ss2), .val .null, .val (.ref bv1), .val (.int 2), .val (.int ((0 : Int32) + (1 : Int32))), .val (.ref en1)] [])) _
      refine XS.aloadN X14.here hx rfl (hb hby D16_18) rfl rfl ?_
      show Steps p.tables e below (T14.setTop (mkF m 19 #[.val (.ref ss2), .val .null, .val (.ref bv1), .val (.int 2), .val (.int ((0 : Int32) + (1 : Int32))), .val (.ref en1)] [(.ref bv1)])) _
      refine XS.iload X14.here hx rfl (hb hby D16_19) rfl ?_
      show Steps p.tables e below (T14.setTop (mkF m 21 #[.val (.ref ss2), .val .null, .val (.ref bv1), .val (.int 2), .val (.int ((0 : Int32) + (1 : Int32))), .val (.ref en1)] [(.int ((0 : Int32) + (1 : Int32))), (.ref bv1)])) _
      refine X14.aaload hx (j := ((0 : Int32) + (1 : Int32))) (v := (.ref en2)) (by rw [e14q]; exact Ar30.1) (State.isArrayOf_alike hZ.alike Ar30.2.1) rfl Ar30.2.2 hin31 hat31 (g := (mkF m 21 #[.val (.ref ss2), .val .null, .val (.ref bv1), .val (.int 2), .val (.int ((0 : Int32) + (1 : Int32))), .val (.ref en1)] [(.int ((0 : Int32) + (1 : Int32))), (.ref bv1)])) rfl rfl (hb hby D16_21) _ ?_
      show Steps p.tables e below (T14.setTop (mkF m 22 #[.val (.ref ss2), .val .null, .val (.ref bv1), .val (.int 2), .val (.int ((0 : Int32) + (1 : Int32))), .val (.ref en1)] [(.ref en2)])) _
      refine XS.astore X14.here hx rfl (hb hby D16_22) rfl rfl (l' := #[.val (.ref ss2), .val .null, .val (.ref bv1), .val (.int 2), .val (.int ((0 : Int32) + (1 : Int32))), .val (.ref en2)]) rfl ?_
      show Steps p.tables e below (T14.setTop (mkF m 24 #[.val (.ref ss2), .val .null, .val (.ref bv1), .val (.int 2), .val (.int ((0 : Int32) + (1 : Int32))), .val (.ref en2)] [])) _
      refine XS.aload X14.here hx rfl (hb hby D16_24) rfl rfl ?_
      show Steps p.tables e below (T14.setTop (mkF m 26 #[.val (.ref ss2), .val .null, .val (.ref bv1), .val (.int 2), .val (.int ((0 : Int32) + (1 : Int32))), .val (.ref en2)] [(.ref en2)])) _
      exact st32 _ kk
    obtain ⟨cq34, kq34, q34a, q34b, q34c⟩ := isOf hZ e32 (EN2.ext fc7.2)
    obtain ⟨_, _, ⟨T34, L34, k34, n34⟩, -, X34, ⟨Lc34, hQ34, l34, y34, z34⟩, st34⟩ := X32.virtualBack hx (y := (⟨"java/lang/String", "equalsIgnoreCase", "(Ljava/lang/String;)Z"⟩ : MethodName)) (z := (⟨"java/lang/String", "equalsIgnoreCase", "(Ljava/lang/String;)Z"⟩ : MethodName)) hown (mvT hZ (gw hw 67 rfl)) (mvT hZ (gw hw 68 rfl)) (notFace_of_selects (args := #[]) (mvT hZ (gw hw 70 rfl))) (mvT hZ (gw hw 70 rfl)) (mvT hZ (gw hw 69 rfl)) (by decide) (backOf (W := 0) (own_ei5 l Z a0 hw [] nm2 ss2 nv2 nb2 kn2 kk2 cs G1 T1.heap n0 fc15 (EN2.ext fc7.2) (VN2.ext fc7.2) (CN2.ext fc7.2) (KN2.ext fc7.2) fc10 fc11 fc12 fc13 (Old.ne XO EN2.lt hs0) hcl O2 P5 fc7) hZ (gw hw 71 rfl) (gw hw 10 rfl) (by decide) (by decide)) q34a q34c (g := (mkF m 30 #[.val (.ref ss2), .val .null, .val (.ref bv1), .val (.int 2), .val (.int ((0 : Int32) + (1 : Int32))), .val (.ref en2)] [(.ref ss2), (.ref nm2)])) rfl (by rw [hml]; rfl) (Steps.refl _) (argsL := [(.ref ss2)]) (rest := []) (lenOf pd__Ljava_lang_String__Z rfl) rfl (by show 2 * 0 + _ ≤ _; exact Nat.le_of_eq rfl) (hb hby D16_30) (fun _ _ => ⟨rfl, e32, (by decide : 1 + 0 ≤ _), (by decide : 2 + 0 ≤ _)⟩)
    dsimp only [Pt.U, Pt.locs, Pt.cells, Pt.slots] at X34 l34 y34 z34 st34 hQ34
    subst l34 y34 z34
    obtain ⟨rr2, rfl, N34q, e34q, ra2, rb2⟩ := hQ34
    have N34 := Fr.app N14 N34q
    have pre35 : ∀ t, Steps p.tables e below (T34.setTop (mkF m 33 #[.val (.ref ss2), .val .null, .val (.ref bv1), .val (.int 2), .val (.int ((0 : Int32) + (1 : Int32))), .val (.ref en2)] [(.int rr2)])) t → Steps p.tables e below (s₁.setTop (entryFrame m #[(.ref ss2)] 6)) t := by
      intro t kk
      refine pre33 t ?_
      show Steps p.tables e below (T32.setTop (mkF m 29 #[.val (.ref ss2), .val .null, .val (.ref bv1), .val (.int 2), .val (.int ((0 : Int32) + (1 : Int32))), .val (.ref en2)] [(.ref nm2)])) _
      refine XS.aloadN X32.here hx rfl (hb hby D16_29) rfl rfl ?_
      show Steps p.tables e below (T32.setTop (mkF m 30 #[.val (.ref ss2), .val .null, .val (.ref bv1), .val (.int 2), .val (.int ((0 : Int32) + (1 : Int32))), .val (.ref en2)] [(.ref ss2), (.ref nm2)])) _
      exact st34.trans kk
    by_cases m2 : (own_E4 ([104, 116, 116, 112, 115] : List Int32) cs)
    case pos =>
      have hd36 : ¬ (rr2 = (0 : Int32)) := by rw [ra2 m2]; decide
      have hd37 : ¬ ((((0 : Int32) + (1 : Int32)) + (1 : Int32)) < (2 : Int32)) := by decide
      have fc38 := ((Keep.refl h0 []).trans K1 all0)
      obtain ⟨fs, hr, hrun, hended, hW, hsame⟩ := X34.leave (v := some (.ref en2)) (fun h => by rw [Bd.returns] at h; cases h)
      refine ⟨_, _, pre35 _ ?_, hrun, hended, _, _, rfl, ?_, ⟨_, rfl⟩, hW, hsame.mono (by decide) (by decide)⟩
      · show Steps p.tables e below (T34.setTop (mkF m 33 #[.val (.ref ss2), .val .null, .val (.ref bv1), .val (.int 2), .val (.int ((0 : Int32) + (1 : Int32))), .val (.ref en2)] [(.int rr2)])) _
        refine XS.ifNo X34.here hx rfl (hb hby D16_33) rfl ((if0 _ _).trans (feq hd36).1) ?_
        show Steps p.tables e below (T34.setTop (mkF m 36 #[.val (.ref ss2), .val .null, .val (.ref bv1), .val (.int 2), .val (.int ((0 : Int32) + (1 : Int32))), .val (.ref en2)] [])) _
        refine XS.aload X34.here hx rfl (hb hby D16_36) rfl rfl ?_
        show Steps p.tables e below (T34.setTop (mkF m 38 #[.val (.ref ss2), .val .null, .val (.ref bv1), .val (.int 2), .val (.int ((0 : Int32) + (1 : Int32))), .val (.ref en2)] [(.ref en2)])) _
        refine XS.astoreN X34.here hx rfl (hb hby D16_38) rfl rfl (l' := #[.val (.ref ss2), .val (.ref en2), .val (.ref bv1), .val (.int 2), .val (.int ((0 : Int32) + (1 : Int32))), .val (.ref en2)]) rfl ?_
        show Steps p.tables e below (T34.setTop (mkF m 39 #[.val (.ref ss2), .val (.ref en2), .val (.ref bv1), .val (.int 2), .val (.int ((0 : Int32) + (1 : Int32))), .val (.ref en2)] [])) _
        refine XS.iinc X34.here hx rfl (hb hby D16_39) rfl (l' := #[.val (.ref ss2), .val (.ref en2), .val (.ref bv1), .val (.int 2), .val (.int (((0 : Int32) + (1 : Int32)) + (1 : Int32))), .val (.ref en2)]) rfl ?_
        show Steps p.tables e below (T34.setTop (mkF m 42 #[.val (.ref ss2), .val (.ref en2), .val (.ref bv1), .val (.int 2), .val (.int (((0 : Int32) + (1 : Int32)) + (1 : Int32))), .val (.ref en2)] [])) _
        refine XS.goto X34.here hx rfl (pc0 := 42) (pc' := 12) rfl (hb hby D16_42) (by decide) (by decide) ?_
        show Steps p.tables e below (T34.setTop (mkF m 12 #[.val (.ref ss2), .val (.ref en2), .val (.ref bv1), .val (.int 2), .val (.int (((0 : Int32) + (1 : Int32)) + (1 : Int32))), .val (.ref en2)] [])) _
        refine XS.iload X34.here hx rfl (hb hby D16_12) rfl ?_
        show Steps p.tables e below (T34.setTop (mkF m 14 #[.val (.ref ss2), .val (.ref en2), .val (.ref bv1), .val (.int 2), .val (.int (((0 : Int32) + (1 : Int32)) + (1 : Int32))), .val (.ref en2)] [(.int (((0 : Int32) + (1 : Int32)) + (1 : Int32)))])) _
        refine XS.iloadN X34.here hx rfl (hb hby D16_14) rfl ?_
        show Steps p.tables e below (T34.setTop (mkF m 15 #[.val (.ref ss2), .val (.ref en2), .val (.ref bv1), .val (.int 2), .val (.int (((0 : Int32) + (1 : Int32)) + (1 : Int32))), .val (.ref en2)] [(.int 2), (.int (((0 : Int32) + (1 : Int32)) + (1 : Int32)))])) _
        refine XS.icmpYes X34.here hx rfl (pc0 := 15) (pc' := 45) rfl (hb hby D16_15) rfl (flt hd37).2.1 (by decide) (by decide) ?_
        show Steps p.tables e below (T34.setTop (mkF m 45 #[.val (.ref ss2), .val (.ref en2), .val (.ref bv1), .val (.int 2), .val (.int (((0 : Int32) + (1 : Int32)) + (1 : Int32))), .val (.ref en2)] [])) _
        refine XS.aloadN X34.here hx rfl (hb hby D16_45) rfl rfl ?_
        show Steps p.tables e below (T34.setTop (mkF m 46 #[.val (.ref ss2), .val (.ref en2), .val (.ref bv1), .val (.int 2), .val (.int (((0 : Int32) + (1 : Int32)) + (1 : Int32))), .val (.ref en2)] [(.ref en2)])) _
        jvm_step X34.here [X34.here.top, hx, (hb hby D16_46), X34.method', Bd.returns, Value.isRef, FieldType.isReference]
        first | (intro acts; rw [hr _ acts rfl rfl rfl]) | rw [hr _ _ rfl rfl rfl]
        exact Steps.refl _
      · show Q_own_named Z va en1 en2 nm1 nm2 nv1 nv2 kv kn1 kn2 ss2 nb2 kk2 cs G1 h0 n0 _ T34.heap _
        rw [e34q]
        exact ⟨_, rfl, N34, fc38, fun q => absurd m2 (hE12 q), fun _ => rfl, fun _ q => absurd m2 q⟩
    case neg =>
      have hd39 : rr2 = (0 : Int32) := rb2 m2
      have hd40 : ¬ ((((0 : Int32) + (1 : Int32)) + (1 : Int32)) < (2 : Int32)) := by decide
      have fc41 := ((Keep.refl h0 []).trans K1 all0)
      obtain ⟨fs, hr, hrun, hended, hW, hsame⟩ := X34.leave (v := some .null) (fun h => by rw [Bd.returns] at h; cases h)
      refine ⟨_, _, pre35 _ ?_, hrun, hended, _, _, rfl, ?_, ⟨_, rfl⟩, hW, hsame.mono (by decide) (by decide)⟩
      · show Steps p.tables e below (T34.setTop (mkF m 33 #[.val (.ref ss2), .val .null, .val (.ref bv1), .val (.int 2), .val (.int ((0 : Int32) + (1 : Int32))), .val (.ref en2)] [(.int rr2)])) _
        refine XS.ifYes X34.here hx rfl (pc0 := 33) (pc' := 39) rfl (hb hby D16_33) rfl ((if0 _ _).trans (teq hd39).1) (by decide) (by decide) ?_
        show Steps p.tables e below (T34.setTop (mkF m 39 #[.val (.ref ss2), .val .null, .val (.ref bv1), .val (.int 2), .val (.int ((0 : Int32) + (1 : Int32))), .val (.ref en2)] [])) _
        refine XS.iinc X34.here hx rfl (hb hby D16_39) rfl (l' := #[.val (.ref ss2), .val .null, .val (.ref bv1), .val (.int 2), .val (.int (((0 : Int32) + (1 : Int32)) + (1 : Int32))), .val (.ref en2)]) rfl ?_
        show Steps p.tables e below (T34.setTop (mkF m 42 #[.val (.ref ss2), .val .null, .val (.ref bv1), .val (.int 2), .val (.int (((0 : Int32) + (1 : Int32)) + (1 : Int32))), .val (.ref en2)] [])) _
        refine XS.goto X34.here hx rfl (pc0 := 42) (pc' := 12) rfl (hb hby D16_42) (by decide) (by decide) ?_
        show Steps p.tables e below (T34.setTop (mkF m 12 #[.val (.ref ss2), .val .null, .val (.ref bv1), .val (.int 2), .val (.int (((0 : Int32) + (1 : Int32)) + (1 : Int32))), .val (.ref en2)] [])) _
        refine XS.iload X34.here hx rfl (hb hby D16_12) rfl ?_
        show Steps p.tables e below (T34.setTop (mkF m 14 #[.val (.ref ss2), .val .null, .val (.ref bv1), .val (.int 2), .val (.int (((0 : Int32) + (1 : Int32)) + (1 : Int32))), .val (.ref en2)] [(.int (((0 : Int32) + (1 : Int32)) + (1 : Int32)))])) _
        refine XS.iloadN X34.here hx rfl (hb hby D16_14) rfl ?_
        show Steps p.tables e below (T34.setTop (mkF m 15 #[.val (.ref ss2), .val .null, .val (.ref bv1), .val (.int 2), .val (.int (((0 : Int32) + (1 : Int32)) + (1 : Int32))), .val (.ref en2)] [(.int 2), (.int (((0 : Int32) + (1 : Int32)) + (1 : Int32)))])) _
        refine XS.icmpYes X34.here hx rfl (pc0 := 15) (pc' := 45) rfl (hb hby D16_15) rfl (flt hd40).2.1 (by decide) (by decide) ?_
        show Steps p.tables e below (T34.setTop (mkF m 45 #[.val (.ref ss2), .val .null, .val (.ref bv1), .val (.int 2), .val (.int (((0 : Int32) + (1 : Int32)) + (1 : Int32))), .val (.ref en2)] [])) _
        refine XS.aloadN X34.here hx rfl (hb hby D16_45) rfl rfl ?_
        show Steps p.tables e below (T34.setTop (mkF m 46 #[.val (.ref ss2), .val .null, .val (.ref bv1), .val (.int 2), .val (.int (((0 : Int32) + (1 : Int32)) + (1 : Int32))), .val (.ref en2)] [.null])) _
        jvm_step X34.here [X34.here.top, hx, (hb hby D16_46), X34.method', Bd.returns, Value.isRef, FieldType.isReference]
        first | (intro acts; rw [hr _ acts rfl rfl rfl]) | rw [hr _ _ rfl rfl rfl]
        exact Steps.refl _
      · show Q_own_named Z va en1 en2 nm1 nm2 nv1 nv2 kv kn1 kn2 ss2 nb2 kk2 cs G1 h0 n0 _ T34.heap _
        rw [e34q]
        exact ⟨_, rfl, N34, fc41, fun q => absurd q m1, fun q => absurd q m2, fun _ _ => rfl⟩
theorem own_gl {cs : List Int32} (h : own_Lt cs) {i : Nat} (hi : i < cs.length) : ¬ cs.getD i 0 < 0 ∧ ¬ (255 : Int32) < cs.getD i 0 := by
  have e : cs.getD i 0 = cs[i] := by simp [List.getD_eq_getElem?_getD, hi]
  rw [e]
  exact h _ (List.getElem_mem hi)
theorem pd__IIC_C : parseMethodDescriptor "(IIC)C" = some ⟨[.int, .int, .char], some .char⟩ := by decide +kernel
theorem pd__ICCCCCC_Ljava_lang_String_ : parseMethodDescriptor "(ICCCCCC)Ljava/lang/String;" = some ⟨[.int, .char, .char, .char, .char, .char, .char], some (.object "java/lang/String")⟩ := by decide +kernel
theorem pd_60121638 : parseMethodDescriptor "(Ljava/lang/String;)Lcom/example/deadline/deadline/CallbackScheme;" = some ⟨[(.object "java/lang/String")], some (.object "com/example/deadline/deadline/CallbackScheme")⟩ := by decide +kernel
theorem pd__I_C : parseMethodDescriptor "(I)C" = some ⟨[.int], some .char⟩ := by decide +kernel
theorem pd__CC_Z : parseMethodDescriptor "(CC)Z" = some ⟨[.char, .char], some .boolean⟩ := by decide +kernel
theorem ef_own_law (m : MethodId) {p0 : Int32} {p1 : Int32} {p2 : Int32} {p3 : Int32} : entryFrame m #[(.int p0), (.int p1), (.int p2), (.int p3)] maxLocals = mkF m 0 #[.val (.int p0), .val (.int p1), .val (.int p2), .val (.int p3), .unset, .unset, .unset, .unset, .unset, .unset, .unset, .unset, .unset, .unset, .unset, .unset] [] := by first | (simp [entryFrame, mkF, argsToLocals, Value.category, maxLocals]; done) | rfl
def Q_own_law (Z : State) (p0 p1 p2 p3 : Int32) (va en1 en2 nm1 nm2 nv1 nv2 : Addr) (kv kn1 kn2 : ClassId) (G1 : Int32) (G3 : Value) (h0 : Heap) (n0 : Nat) (v : Option Value) (h : Heap) (L : List Loc) : Prop := v = some (.int 1) ∧ Fr n0 L
set_option maxRecDepth 65536 in
set_option maxHeartbeats 40000000 in
theorem own_law (l : Launch) (Z : State) (a0 : Array Value) (hw : ∀ d ∈ tables_1, d.before a0 Z = true) (ws : List Jvm.Cond) (p0 p1 p2 p3 : Int32) (va en1 en2 nm1 nm2 nv1 nv2 : Addr) (kv kn1 kn2 : ClassId) (G1 : Int32) (G3 : Value) (h0 : Heap) (n0 : Nat) (Z0 : n0 ≤ h0.size) (SV : Sta Z Z.heap "com/example/deadline/deadline/CallbackScheme" "$VALUES" "[Lcom/example/deadline/deadline/CallbackScheme;" (.ref va)) (KV : Arv Z Z.heap va kv (.object "com/example/deadline/deadline/CallbackScheme") (2 : Int32) [(.ref en1), (.ref en2)] .null) (EV : Exa Z Z.heap va "[Lcom/example/deadline/deadline/CallbackScheme;") (FN1 : Fld Z Z.heap en1 "com/example/deadline/deadline/CallbackScheme" "name" "Ljava/lang/String;" (.ref nm1)) (FN2 : Fld Z Z.heap en2 "com/example/deadline/deadline/CallbackScheme" "name" "Ljava/lang/String;" (.ref nm2)) (EN1 : Exa Z Z.heap nm1 "java/lang/String") (VN1 : Fld Z Z.heap nm1 "java/lang/String" "value" "[B" (.ref nv1)) (CN1 : Fld Z Z.heap nm1 "java/lang/String" "coder" "B" (.int 0)) (KN1 : Arv Z Z.heap nv1 kn1 .byte (4 : Int32) [(.int 104), (.int 116), (.int 116), (.int 112)] (.int 0)) (EN2 : Exa Z Z.heap nm2 "java/lang/String") (VN2 : Fld Z Z.heap nm2 "java/lang/String" "value" "[B" (.ref nv2)) (CN2 : Fld Z Z.heap nm2 "java/lang/String" "coder" "B" (.int 0)) (KN2 : Arv Z Z.heap nv2 kn2 .byte (5 : Int32) [(.int 104), (.int 116), (.int 116), (.int 112), (.int 115)] (.int 0)) (SH1 : Sta Z Z.heap "com/example/deadline/deadline/CallbackScheme" "HTTP" "Lcom/example/deadline/deadline/CallbackScheme;" (.ref en1)) (SH2 : Sta Z Z.heap "com/example/deadline/deadline/CallbackScheme" "HTTPS" "Lcom/example/deadline/deadline/CallbackScheme;" (.ref en2)) (O2 : Sta Z Z.heap "java/lang/String" "COMPACT_STRINGS" "Z" (.int G1)) (P5 : ¬ G1 = (0 : Int32)) (O4 : Sta Z Z.heap "jdk/internal/util/Preconditions" "SIOOBE_FORMATTER" "Ljava/util/function/BiFunction;" G3) (rG3 : G3.isRef = true) (XO : Old Z n0 h0) :
    MetFree l x (head1 (Jvm.Cond.code x code maxLocals ret :: ws) room_1) (fun a U => a = #[(.int p0), (.int p1), (.int p2), (.int p3)] ∧ Z.Warmed39 U.vm ∧ U.heap = h0 ∧ CHv Z own_EL U.vm h0) (fun _ _ _ _ _ => True) (fun _ U o U' => ∃ v L, o = .returned v ∧ Q_own_law Z p0 p1 p2 p3 va en1 en2 nm1 nm2 nv1 nv2 kv kn1 kn2 G1 G3 h0 n0 v U'.heap L ∧ CHr Z own_EL U.vm U.heap U'.vm U'.heap ∧ ReturnedEndW U o U' L 24 1152) := by
  refine MetFree.of_bodySF (plainFor_of_name pn_com_example_deadline_deadline_CallbackSchemeNamedPinLaw) hisR ?_
  intro p e s m args below meth c s₁ Bd hml0 hP hK
  obtain ⟨rfl, hZ, hh, hC0⟩ := hP
  have hx := Bd.exec
  have hby := Bd.bytes
  have hml : c.maxLocals = 16 := hml0
  have hown : s.vm.findClass "com/example/deadline/deadline/CallbackSchemeNamedPinLaw" = some m.cls := findClass_of_methodNamed Bd.named
  have hnm := (name_of_methodNamed Bd.named Bd.method).1
  have X0 : Stand p l e room_1 (s.setVm s.vm) m #[(.int p0), (.int p1), (.int p2), (.int p3)] below meth c s₁ [] 0 0 := Stand.of_body Bd
  have e0 : s₁.heap = h0 := by rw [← hh, Bd.state]; rfl
  have N0 := Fr.nil n0
  have pre0 : ∀ t, Steps p.tables e below (s₁.setTop (mkF m 0 #[.val (.int p0), .val (.int p1), .val (.int p2), .val (.int p3), .unset, .unset, .unset, .unset, .unset, .unset, .unset, .unset, .unset, .unset, .unset, .unset] [])) t → Steps p.tables e below (s₁.setTop (entryFrame m #[(.int p0), (.int p1), (.int p2), (.int p3)] maxLocals)) t := fun t k => castTop (ef_own_law m) k
  have hown : (s.setVm s.vm).vm.findClass "com/example/deadline/deadline/CallbackSchemeNamedPinLaw" = some m.cls := hown
  have hZ : Z.Warmed39 (s.setVm s.vm).vm := hZ
  have hS0 : s.Since s.vm 0 := (State.WarmedH.refl s).since 0
  have hk0 : 0 ≤ h0.size := Nat.zero_le _
  have CR0 := CHr.refl hC0
  have wS := own_wS hw
  have hEL := own_hEL hw
  have hch : ∀ d ∈ StrChars.Road.wordsChN, d.before a0 Z = true := fun d hd => hw d ((by decide +kernel : ∀ d ∈ StrChars.Road.wordsChN, d ∈ tables_1) d hd)
  obtain ⟨_, _, ⟨T1, L1, k1, n1⟩, -, X1, ⟨Lc1, hQ1, l1, y1, z1⟩, st1⟩ := Jvm.LawKit.callS X0 hx (y := (⟨"com/example/deadline/deadline/CallbackSchemeNamedPinLaw", "pick", "(IIC)C"⟩ : MethodName)) hown (mvT hZ (gw hw 0 rfl)) (mvT hZ (gw hw 1 rfl)) (mvT hZ (gw hw 2 rfl)) (mvT hZ (gw hw 3 rfl)) (by decide) (backOf (W := 0) (own_pick l Z a0 hw [] p0 (p2 &&& (1 : Int32)) (104 : Int32) h0 n0 Z0 (by decide)) hZ (gw hw 3 rfl) (gw hw 2 rfl) (by decide) (by decide)) (g := (mkF m 6 #[.val (.int p0), .val (.int p1), .val (.int p2), .val (.int p3), .unset, .unset, .unset, .unset, .unset, .unset, .unset, .unset, .unset, .unset, .unset, .unset] [(.int 104), (.int (p2 &&& (1 : Int32))), (.int p0)])) rfl (by rw [hml]; rfl) (argsL := [(.int p0), (.int (p2 &&& (1 : Int32))), (.int 104)]) (rest := []) (lenOf pd__IIC_C rfl) rfl (by show 2 * 0 + _ ≤ _; exact Nat.le_of_eq rfl) (hb hby at_6) (fun _ _ => ⟨rfl, e0, (by decide : 0 + 0 ≤ _), (by decide : 0 + 0 ≤ _)⟩)
  dsimp only [Pt.U, Pt.locs, Pt.cells, Pt.slots] at X1 l1 y1 z1 st1 hQ1
  subst l1 y1 z1
  obtain ⟨d0, rfl, N1q, e1q, hd0⟩ := hQ1
  have N1 := Fr.app N0 N1q
  have pre2 : ∀ t, Steps p.tables e below (T1.setTop (mkF m 9 #[.val (.int p0), .val (.int p1), .val (.int p2), .val (.int p3), .unset, .unset, .unset, .unset, .unset, .unset, .unset, .unset, .unset, .unset, .unset, .unset] [(.int d0)])) t → Steps p.tables e below (s₁.setTop (entryFrame m #[(.int p0), (.int p1), (.int p2), (.int p3)] maxLocals)) t := by
    intro t kk
    refine pre0 t ?_
    show Steps p.tables e below (s₁.setTop (mkF m 0 #[.val (.int p0), .val (.int p1), .val (.int p2), .val (.int p3), .unset, .unset, .unset, .unset, .unset, .unset, .unset, .unset, .unset, .unset, .unset, .unset] [])) _
    refine XS.iloadN X0.here hx rfl (hb hby at_0) rfl ?_
    show Steps p.tables e below (s₁.setTop (mkF m 1 #[.val (.int p0), .val (.int p1), .val (.int p2), .val (.int p3), .unset, .unset, .unset, .unset, .unset, .unset, .unset, .unset, .unset, .unset, .unset, .unset] [(.int p0)])) _
    refine XS.iloadN X0.here hx rfl (hb hby at_1) rfl ?_
    show Steps p.tables e below (s₁.setTop (mkF m 2 #[.val (.int p0), .val (.int p1), .val (.int p2), .val (.int p3), .unset, .unset, .unset, .unset, .unset, .unset, .unset, .unset, .unset, .unset, .unset, .unset] [(.int p2), (.int p0)])) _
    refine XS.iconst X0.here hx rfl (hb hby at_2) ?_
    show Steps p.tables e below (s₁.setTop (mkF m 3 #[.val (.int p0), .val (.int p1), .val (.int p2), .val (.int p3), .unset, .unset, .unset, .unset, .unset, .unset, .unset, .unset, .unset, .unset, .unset, .unset] [(.int 1), (.int p2), (.int p0)])) _
    refine XS.iand X0.here hx rfl (hb hby at_3) rfl ?_
    show Steps p.tables e below (s₁.setTop (mkF m 4 #[.val (.int p0), .val (.int p1), .val (.int p2), .val (.int p3), .unset, .unset, .unset, .unset, .unset, .unset, .unset, .unset, .unset, .unset, .unset, .unset] [(.int (p2 &&& (1 : Int32))), (.int p0)])) _
    refine XS.bipush X0.here hx rfl (hb hby at_4) ?_
    show Steps p.tables e below (s₁.setTop (mkF m 6 #[.val (.int p0), .val (.int p1), .val (.int p2), .val (.int p3), .unset, .unset, .unset, .unset, .unset, .unset, .unset, .unset, .unset, .unset, .unset, .unset] [(.int 104), (.int (p2 &&& (1 : Int32))), (.int p0)])) _
    exact st1 _ kk
  obtain ⟨_, _, ⟨T3, L3, k3, n3⟩, -, X3, ⟨Lc3, hQ3, l3, y3, z3⟩, st3⟩ := Jvm.LawKit.callS X1 hx (y := (⟨"com/example/deadline/deadline/CallbackSchemeNamedPinLaw", "pick", "(IIC)C"⟩ : MethodName)) hown (mvT hZ (gw hw 0 rfl)) (mvT hZ (gw hw 1 rfl)) (mvT hZ (gw hw 2 rfl)) (mvT hZ (gw hw 3 rfl)) (by decide) (backOf (W := 0) (own_pick l Z a0 hw [] ((p0.toUInt32 >>> ((8 : Int32) &&& 31).toUInt32).toInt32) (p2 &&& (2 : Int32)) (116 : Int32) h0 n0 Z0 (by decide)) hZ (gw hw 3 rfl) (gw hw 2 rfl) (by decide) (by decide)) (g := (mkF m 20 #[.val (.int p0), .val (.int p1), .val (.int p2), .val (.int p3), .val (.int d0), .unset, .unset, .unset, .unset, .unset, .unset, .unset, .unset, .unset, .unset, .unset] [(.int 116), (.int (p2 &&& (2 : Int32))), (.int ((p0.toUInt32 >>> ((8 : Int32) &&& 31).toUInt32).toInt32))])) rfl (by rw [hml]; rfl) (argsL := [(.int ((p0.toUInt32 >>> ((8 : Int32) &&& 31).toUInt32).toInt32)), (.int (p2 &&& (2 : Int32))), (.int 116)]) (rest := []) (lenOf pd__IIC_C rfl) rfl (by show 2 * 0 + _ ≤ _; exact Nat.le_of_eq rfl) (hb hby at_20) (fun _ _ => ⟨rfl, e1q, (by decide : 0 + 0 ≤ _), (by decide : 0 + 0 ≤ _)⟩)
  dsimp only [Pt.U, Pt.locs, Pt.cells, Pt.slots] at X3 l3 y3 z3 st3 hQ3
  subst l3 y3 z3
  obtain ⟨d1, rfl, N3q, e3q, hd1⟩ := hQ3
  have N3 := Fr.app N1 N3q
  have pre4 : ∀ t, Steps p.tables e below (T3.setTop (mkF m 23 #[.val (.int p0), .val (.int p1), .val (.int p2), .val (.int p3), .val (.int d0), .unset, .unset, .unset, .unset, .unset, .unset, .unset, .unset, .unset, .unset, .unset] [(.int d1)])) t → Steps p.tables e below (s₁.setTop (entryFrame m #[(.int p0), (.int p1), (.int p2), (.int p3)] maxLocals)) t := by
    intro t kk
    refine pre2 t ?_
    show Steps p.tables e below (T1.setTop (mkF m 9 #[.val (.int p0), .val (.int p1), .val (.int p2), .val (.int p3), .unset, .unset, .unset, .unset, .unset, .unset, .unset, .unset, .unset, .unset, .unset, .unset] [(.int d0)])) _
    refine XS.istore X1.here hx rfl (hb hby at_9) rfl (l' := #[.val (.int p0), .val (.int p1), .val (.int p2), .val (.int p3), .val (.int d0), .unset, .unset, .unset, .unset, .unset, .unset, .unset, .unset, .unset, .unset, .unset]) rfl ?_
    show Steps p.tables e below (T1.setTop (mkF m 11 #[.val (.int p0), .val (.int p1), .val (.int p2), .val (.int p3), .val (.int d0), .unset, .unset, .unset, .unset, .unset, .unset, .unset, .unset, .unset, .unset, .unset] [])) _
    refine XS.iloadN X1.here hx rfl (hb hby at_11) rfl ?_
    show Steps p.tables e below (T1.setTop (mkF m 12 #[.val (.int p0), .val (.int p1), .val (.int p2), .val (.int p3), .val (.int d0), .unset, .unset, .unset, .unset, .unset, .unset, .unset, .unset, .unset, .unset, .unset] [(.int p0)])) _
    refine XS.bipush X1.here hx rfl (hb hby at_12) ?_
    show Steps p.tables e below (T1.setTop (mkF m 14 #[.val (.int p0), .val (.int p1), .val (.int p2), .val (.int p3), .val (.int d0), .unset, .unset, .unset, .unset, .unset, .unset, .unset, .unset, .unset, .unset, .unset] [(.int 8), (.int p0)])) _
    refine XS.iushr X1.here hx rfl (hb hby at_14) rfl ?_
    show Steps p.tables e below (T1.setTop (mkF m 15 #[.val (.int p0), .val (.int p1), .val (.int p2), .val (.int p3), .val (.int d0), .unset, .unset, .unset, .unset, .unset, .unset, .unset, .unset, .unset, .unset, .unset] [(.int ((p0.toUInt32 >>> ((8 : Int32) &&& 31).toUInt32).toInt32))])) _
    refine XS.iloadN X1.here hx rfl (hb hby at_15) rfl ?_
    show Steps p.tables e below (T1.setTop (mkF m 16 #[.val (.int p0), .val (.int p1), .val (.int p2), .val (.int p3), .val (.int d0), .unset, .unset, .unset, .unset, .unset, .unset, .unset, .unset, .unset, .unset, .unset] [(.int p2), (.int ((p0.toUInt32 >>> ((8 : Int32) &&& 31).toUInt32).toInt32))])) _
    refine XS.iconst X1.here hx rfl (hb hby at_16) ?_
    show Steps p.tables e below (T1.setTop (mkF m 17 #[.val (.int p0), .val (.int p1), .val (.int p2), .val (.int p3), .val (.int d0), .unset, .unset, .unset, .unset, .unset, .unset, .unset, .unset, .unset, .unset, .unset] [(.int 2), (.int p2), (.int ((p0.toUInt32 >>> ((8 : Int32) &&& 31).toUInt32).toInt32))])) _
    refine XS.iand X1.here hx rfl (hb hby at_17) rfl ?_
    show Steps p.tables e below (T1.setTop (mkF m 18 #[.val (.int p0), .val (.int p1), .val (.int p2), .val (.int p3), .val (.int d0), .unset, .unset, .unset, .unset, .unset, .unset, .unset, .unset, .unset, .unset, .unset] [(.int (p2 &&& (2 : Int32))), (.int ((p0.toUInt32 >>> ((8 : Int32) &&& 31).toUInt32).toInt32))])) _
    refine XS.bipush X1.here hx rfl (hb hby at_18) ?_
    show Steps p.tables e below (T1.setTop (mkF m 20 #[.val (.int p0), .val (.int p1), .val (.int p2), .val (.int p3), .val (.int d0), .unset, .unset, .unset, .unset, .unset, .unset, .unset, .unset, .unset, .unset, .unset] [(.int 116), (.int (p2 &&& (2 : Int32))), (.int ((p0.toUInt32 >>> ((8 : Int32) &&& 31).toUInt32).toInt32))])) _
    exact st3 _ kk
  obtain ⟨_, _, ⟨T5, L5, k5, n5⟩, -, X5, ⟨Lc5, hQ5, l5, y5, z5⟩, st5⟩ := Jvm.LawKit.callS X3 hx (y := (⟨"com/example/deadline/deadline/CallbackSchemeNamedPinLaw", "pick", "(IIC)C"⟩ : MethodName)) hown (mvT hZ (gw hw 0 rfl)) (mvT hZ (gw hw 1 rfl)) (mvT hZ (gw hw 2 rfl)) (mvT hZ (gw hw 3 rfl)) (by decide) (backOf (W := 0) (own_pick l Z a0 hw [] ((p0.toUInt32 >>> ((16 : Int32) &&& 31).toUInt32).toInt32) (p2 &&& (4 : Int32)) (116 : Int32) h0 n0 Z0 (by decide)) hZ (gw hw 3 rfl) (gw hw 2 rfl) (by decide) (by decide)) (g := (mkF m 34 #[.val (.int p0), .val (.int p1), .val (.int p2), .val (.int p3), .val (.int d0), .val (.int d1), .unset, .unset, .unset, .unset, .unset, .unset, .unset, .unset, .unset, .unset] [(.int 116), (.int (p2 &&& (4 : Int32))), (.int ((p0.toUInt32 >>> ((16 : Int32) &&& 31).toUInt32).toInt32))])) rfl (by rw [hml]; rfl) (argsL := [(.int ((p0.toUInt32 >>> ((16 : Int32) &&& 31).toUInt32).toInt32)), (.int (p2 &&& (4 : Int32))), (.int 116)]) (rest := []) (lenOf pd__IIC_C rfl) rfl (by show 2 * 0 + _ ≤ _; exact Nat.le_of_eq rfl) (hb hby at_34) (fun _ _ => ⟨rfl, e3q, (by decide : 0 + 0 ≤ _), (by decide : 0 + 0 ≤ _)⟩)
  dsimp only [Pt.U, Pt.locs, Pt.cells, Pt.slots] at X5 l5 y5 z5 st5 hQ5
  subst l5 y5 z5
  obtain ⟨d2, rfl, N5q, e5q, hd2⟩ := hQ5
  have N5 := Fr.app N3 N5q
  have pre6 : ∀ t, Steps p.tables e below (T5.setTop (mkF m 37 #[.val (.int p0), .val (.int p1), .val (.int p2), .val (.int p3), .val (.int d0), .val (.int d1), .unset, .unset, .unset, .unset, .unset, .unset, .unset, .unset, .unset, .unset] [(.int d2)])) t → Steps p.tables e below (s₁.setTop (entryFrame m #[(.int p0), (.int p1), (.int p2), (.int p3)] maxLocals)) t := by
    intro t kk
    refine pre4 t ?_
    show Steps p.tables e below (T3.setTop (mkF m 23 #[.val (.int p0), .val (.int p1), .val (.int p2), .val (.int p3), .val (.int d0), .unset, .unset, .unset, .unset, .unset, .unset, .unset, .unset, .unset, .unset, .unset] [(.int d1)])) _
    refine XS.istore X3.here hx rfl (hb hby at_23) rfl (l' := #[.val (.int p0), .val (.int p1), .val (.int p2), .val (.int p3), .val (.int d0), .val (.int d1), .unset, .unset, .unset, .unset, .unset, .unset, .unset, .unset, .unset, .unset]) rfl ?_
    show Steps p.tables e below (T3.setTop (mkF m 25 #[.val (.int p0), .val (.int p1), .val (.int p2), .val (.int p3), .val (.int d0), .val (.int d1), .unset, .unset, .unset, .unset, .unset, .unset, .unset, .unset, .unset, .unset] [])) _
    refine XS.iloadN X3.here hx rfl (hb hby at_25) rfl ?_
    show Steps p.tables e below (T3.setTop (mkF m 26 #[.val (.int p0), .val (.int p1), .val (.int p2), .val (.int p3), .val (.int d0), .val (.int d1), .unset, .unset, .unset, .unset, .unset, .unset, .unset, .unset, .unset, .unset] [(.int p0)])) _
    refine XS.bipush X3.here hx rfl (hb hby at_26) ?_
    show Steps p.tables e below (T3.setTop (mkF m 28 #[.val (.int p0), .val (.int p1), .val (.int p2), .val (.int p3), .val (.int d0), .val (.int d1), .unset, .unset, .unset, .unset, .unset, .unset, .unset, .unset, .unset, .unset] [(.int 16), (.int p0)])) _
    refine XS.iushr X3.here hx rfl (hb hby at_28) rfl ?_
    show Steps p.tables e below (T3.setTop (mkF m 29 #[.val (.int p0), .val (.int p1), .val (.int p2), .val (.int p3), .val (.int d0), .val (.int d1), .unset, .unset, .unset, .unset, .unset, .unset, .unset, .unset, .unset, .unset] [(.int ((p0.toUInt32 >>> ((16 : Int32) &&& 31).toUInt32).toInt32))])) _
    refine XS.iloadN X3.here hx rfl (hb hby at_29) rfl ?_
    show Steps p.tables e below (T3.setTop (mkF m 30 #[.val (.int p0), .val (.int p1), .val (.int p2), .val (.int p3), .val (.int d0), .val (.int d1), .unset, .unset, .unset, .unset, .unset, .unset, .unset, .unset, .unset, .unset] [(.int p2), (.int ((p0.toUInt32 >>> ((16 : Int32) &&& 31).toUInt32).toInt32))])) _
    refine XS.iconst X3.here hx rfl (hb hby at_30) ?_
    show Steps p.tables e below (T3.setTop (mkF m 31 #[.val (.int p0), .val (.int p1), .val (.int p2), .val (.int p3), .val (.int d0), .val (.int d1), .unset, .unset, .unset, .unset, .unset, .unset, .unset, .unset, .unset, .unset] [(.int 4), (.int p2), (.int ((p0.toUInt32 >>> ((16 : Int32) &&& 31).toUInt32).toInt32))])) _
    refine XS.iand X3.here hx rfl (hb hby at_31) rfl ?_
    show Steps p.tables e below (T3.setTop (mkF m 32 #[.val (.int p0), .val (.int p1), .val (.int p2), .val (.int p3), .val (.int d0), .val (.int d1), .unset, .unset, .unset, .unset, .unset, .unset, .unset, .unset, .unset, .unset] [(.int (p2 &&& (4 : Int32))), (.int ((p0.toUInt32 >>> ((16 : Int32) &&& 31).toUInt32).toInt32))])) _
    refine XS.bipush X3.here hx rfl (hb hby at_32) ?_
    show Steps p.tables e below (T3.setTop (mkF m 34 #[.val (.int p0), .val (.int p1), .val (.int p2), .val (.int p3), .val (.int d0), .val (.int d1), .unset, .unset, .unset, .unset, .unset, .unset, .unset, .unset, .unset, .unset] [(.int 116), (.int (p2 &&& (4 : Int32))), (.int ((p0.toUInt32 >>> ((16 : Int32) &&& 31).toUInt32).toInt32))])) _
    exact st5 _ kk
  obtain ⟨_, _, ⟨T7, L7, k7, n7⟩, -, X7, ⟨Lc7, hQ7, l7, y7, z7⟩, st7⟩ := Jvm.LawKit.callS X5 hx (y := (⟨"com/example/deadline/deadline/CallbackSchemeNamedPinLaw", "pick", "(IIC)C"⟩ : MethodName)) hown (mvT hZ (gw hw 0 rfl)) (mvT hZ (gw hw 1 rfl)) (mvT hZ (gw hw 2 rfl)) (mvT hZ (gw hw 3 rfl)) (by decide) (backOf (W := 0) (own_pick l Z a0 hw [] ((p0.toUInt32 >>> ((24 : Int32) &&& 31).toUInt32).toInt32) (p2 &&& (8 : Int32)) (112 : Int32) h0 n0 Z0 (by decide)) hZ (gw hw 3 rfl) (gw hw 2 rfl) (by decide) (by decide)) (g := (mkF m 49 #[.val (.int p0), .val (.int p1), .val (.int p2), .val (.int p3), .val (.int d0), .val (.int d1), .val (.int d2), .unset, .unset, .unset, .unset, .unset, .unset, .unset, .unset, .unset] [(.int 112), (.int (p2 &&& (8 : Int32))), (.int ((p0.toUInt32 >>> ((24 : Int32) &&& 31).toUInt32).toInt32))])) rfl (by rw [hml]; rfl) (argsL := [(.int ((p0.toUInt32 >>> ((24 : Int32) &&& 31).toUInt32).toInt32)), (.int (p2 &&& (8 : Int32))), (.int 112)]) (rest := []) (lenOf pd__IIC_C rfl) rfl (by show 2 * 0 + _ ≤ _; exact Nat.le_of_eq rfl) (hb hby at_49) (fun _ _ => ⟨rfl, e5q, (by decide : 0 + 0 ≤ _), (by decide : 0 + 0 ≤ _)⟩)
  dsimp only [Pt.U, Pt.locs, Pt.cells, Pt.slots] at X7 l7 y7 z7 st7 hQ7
  subst l7 y7 z7
  obtain ⟨d3, rfl, N7q, e7q, hd3⟩ := hQ7
  have N7 := Fr.app N5 N7q
  have pre8 : ∀ t, Steps p.tables e below (T7.setTop (mkF m 52 #[.val (.int p0), .val (.int p1), .val (.int p2), .val (.int p3), .val (.int d0), .val (.int d1), .val (.int d2), .unset, .unset, .unset, .unset, .unset, .unset, .unset, .unset, .unset] [(.int d3)])) t → Steps p.tables e below (s₁.setTop (entryFrame m #[(.int p0), (.int p1), (.int p2), (.int p3)] maxLocals)) t := by
    intro t kk
    refine pre6 t ?_
    show Steps p.tables e below (T5.setTop (mkF m 37 #[.val (.int p0), .val (.int p1), .val (.int p2), .val (.int p3), .val (.int d0), .val (.int d1), .unset, .unset, .unset, .unset, .unset, .unset, .unset, .unset, .unset, .unset] [(.int d2)])) _
    refine XS.istore X5.here hx rfl (hb hby at_37) rfl (l' := #[.val (.int p0), .val (.int p1), .val (.int p2), .val (.int p3), .val (.int d0), .val (.int d1), .val (.int d2), .unset, .unset, .unset, .unset, .unset, .unset, .unset, .unset, .unset]) rfl ?_
    show Steps p.tables e below (T5.setTop (mkF m 39 #[.val (.int p0), .val (.int p1), .val (.int p2), .val (.int p3), .val (.int d0), .val (.int d1), .val (.int d2), .unset, .unset, .unset, .unset, .unset, .unset, .unset, .unset, .unset] [])) _
    refine XS.iloadN X5.here hx rfl (hb hby at_39) rfl ?_
    show Steps p.tables e below (T5.setTop (mkF m 40 #[.val (.int p0), .val (.int p1), .val (.int p2), .val (.int p3), .val (.int d0), .val (.int d1), .val (.int d2), .unset, .unset, .unset, .unset, .unset, .unset, .unset, .unset, .unset] [(.int p0)])) _
    refine XS.bipush X5.here hx rfl (hb hby at_40) ?_
    show Steps p.tables e below (T5.setTop (mkF m 42 #[.val (.int p0), .val (.int p1), .val (.int p2), .val (.int p3), .val (.int d0), .val (.int d1), .val (.int d2), .unset, .unset, .unset, .unset, .unset, .unset, .unset, .unset, .unset] [(.int 24), (.int p0)])) _
    refine XS.iushr X5.here hx rfl (hb hby at_42) rfl ?_
    show Steps p.tables e below (T5.setTop (mkF m 43 #[.val (.int p0), .val (.int p1), .val (.int p2), .val (.int p3), .val (.int d0), .val (.int d1), .val (.int d2), .unset, .unset, .unset, .unset, .unset, .unset, .unset, .unset, .unset] [(.int ((p0.toUInt32 >>> ((24 : Int32) &&& 31).toUInt32).toInt32))])) _
    refine XS.iloadN X5.here hx rfl (hb hby at_43) rfl ?_
    show Steps p.tables e below (T5.setTop (mkF m 44 #[.val (.int p0), .val (.int p1), .val (.int p2), .val (.int p3), .val (.int d0), .val (.int d1), .val (.int d2), .unset, .unset, .unset, .unset, .unset, .unset, .unset, .unset, .unset] [(.int p2), (.int ((p0.toUInt32 >>> ((24 : Int32) &&& 31).toUInt32).toInt32))])) _
    refine XS.bipush X5.here hx rfl (hb hby at_44) ?_
    show Steps p.tables e below (T5.setTop (mkF m 46 #[.val (.int p0), .val (.int p1), .val (.int p2), .val (.int p3), .val (.int d0), .val (.int d1), .val (.int d2), .unset, .unset, .unset, .unset, .unset, .unset, .unset, .unset, .unset] [(.int 8), (.int p2), (.int ((p0.toUInt32 >>> ((24 : Int32) &&& 31).toUInt32).toInt32))])) _
    refine XS.iand X5.here hx rfl (hb hby at_46) rfl ?_
    show Steps p.tables e below (T5.setTop (mkF m 47 #[.val (.int p0), .val (.int p1), .val (.int p2), .val (.int p3), .val (.int d0), .val (.int d1), .val (.int d2), .unset, .unset, .unset, .unset, .unset, .unset, .unset, .unset, .unset] [(.int (p2 &&& (8 : Int32))), (.int ((p0.toUInt32 >>> ((24 : Int32) &&& 31).toUInt32).toInt32))])) _
    refine XS.bipush X5.here hx rfl (hb hby at_47) ?_
    show Steps p.tables e below (T5.setTop (mkF m 49 #[.val (.int p0), .val (.int p1), .val (.int p2), .val (.int p3), .val (.int d0), .val (.int d1), .val (.int d2), .unset, .unset, .unset, .unset, .unset, .unset, .unset, .unset, .unset] [(.int 112), (.int (p2 &&& (8 : Int32))), (.int ((p0.toUInt32 >>> ((24 : Int32) &&& 31).toUInt32).toInt32))])) _
    exact st7 _ kk
  obtain ⟨_, _, ⟨T9, L9, k9, n9⟩, -, X9, ⟨Lc9, hQ9, l9, y9, z9⟩, st9⟩ := Jvm.LawKit.callS X7 hx (y := (⟨"com/example/deadline/deadline/CallbackSchemeNamedPinLaw", "pick", "(IIC)C"⟩ : MethodName)) hown (mvT hZ (gw hw 0 rfl)) (mvT hZ (gw hw 1 rfl)) (mvT hZ (gw hw 2 rfl)) (mvT hZ (gw hw 3 rfl)) (by decide) (backOf (W := 0) (own_pick l Z a0 hw [] p1 (p2 &&& (16 : Int32)) (115 : Int32) h0 n0 Z0 (by decide)) hZ (gw hw 3 rfl) (gw hw 2 rfl) (by decide) (by decide)) (g := (mkF m 61 #[.val (.int p0), .val (.int p1), .val (.int p2), .val (.int p3), .val (.int d0), .val (.int d1), .val (.int d2), .val (.int d3), .unset, .unset, .unset, .unset, .unset, .unset, .unset, .unset] [(.int 115), (.int (p2 &&& (16 : Int32))), (.int p1)])) rfl (by rw [hml]; rfl) (argsL := [(.int p1), (.int (p2 &&& (16 : Int32))), (.int 115)]) (rest := []) (lenOf pd__IIC_C rfl) rfl (by show 2 * 0 + _ ≤ _; exact Nat.le_of_eq rfl) (hb hby at_61) (fun _ _ => ⟨rfl, e7q, (by decide : 0 + 0 ≤ _), (by decide : 0 + 0 ≤ _)⟩)
  dsimp only [Pt.U, Pt.locs, Pt.cells, Pt.slots] at X9 l9 y9 z9 st9 hQ9
  subst l9 y9 z9
  obtain ⟨d4, rfl, N9q, e9q, hd4⟩ := hQ9
  have N9 := Fr.app N7 N9q
  have pre10 : ∀ t, Steps p.tables e below (T9.setTop (mkF m 64 #[.val (.int p0), .val (.int p1), .val (.int p2), .val (.int p3), .val (.int d0), .val (.int d1), .val (.int d2), .val (.int d3), .unset, .unset, .unset, .unset, .unset, .unset, .unset, .unset] [(.int d4)])) t → Steps p.tables e below (s₁.setTop (entryFrame m #[(.int p0), (.int p1), (.int p2), (.int p3)] maxLocals)) t := by
    intro t kk
    refine pre8 t ?_
    show Steps p.tables e below (T7.setTop (mkF m 52 #[.val (.int p0), .val (.int p1), .val (.int p2), .val (.int p3), .val (.int d0), .val (.int d1), .val (.int d2), .unset, .unset, .unset, .unset, .unset, .unset, .unset, .unset, .unset] [(.int d3)])) _
    refine XS.istore X7.here hx rfl (hb hby at_52) rfl (l' := #[.val (.int p0), .val (.int p1), .val (.int p2), .val (.int p3), .val (.int d0), .val (.int d1), .val (.int d2), .val (.int d3), .unset, .unset, .unset, .unset, .unset, .unset, .unset, .unset]) rfl ?_
    show Steps p.tables e below (T7.setTop (mkF m 54 #[.val (.int p0), .val (.int p1), .val (.int p2), .val (.int p3), .val (.int d0), .val (.int d1), .val (.int d2), .val (.int d3), .unset, .unset, .unset, .unset, .unset, .unset, .unset, .unset] [])) _
    refine XS.iloadN X7.here hx rfl (hb hby at_54) rfl ?_
    show Steps p.tables e below (T7.setTop (mkF m 55 #[.val (.int p0), .val (.int p1), .val (.int p2), .val (.int p3), .val (.int d0), .val (.int d1), .val (.int d2), .val (.int d3), .unset, .unset, .unset, .unset, .unset, .unset, .unset, .unset] [(.int p1)])) _
    refine XS.iloadN X7.here hx rfl (hb hby at_55) rfl ?_
    show Steps p.tables e below (T7.setTop (mkF m 56 #[.val (.int p0), .val (.int p1), .val (.int p2), .val (.int p3), .val (.int d0), .val (.int d1), .val (.int d2), .val (.int d3), .unset, .unset, .unset, .unset, .unset, .unset, .unset, .unset] [(.int p2), (.int p1)])) _
    refine XS.bipush X7.here hx rfl (hb hby at_56) ?_
    show Steps p.tables e below (T7.setTop (mkF m 58 #[.val (.int p0), .val (.int p1), .val (.int p2), .val (.int p3), .val (.int d0), .val (.int d1), .val (.int d2), .val (.int d3), .unset, .unset, .unset, .unset, .unset, .unset, .unset, .unset] [(.int 16), (.int p2), (.int p1)])) _
    refine XS.iand X7.here hx rfl (hb hby at_58) rfl ?_
    show Steps p.tables e below (T7.setTop (mkF m 59 #[.val (.int p0), .val (.int p1), .val (.int p2), .val (.int p3), .val (.int d0), .val (.int d1), .val (.int d2), .val (.int d3), .unset, .unset, .unset, .unset, .unset, .unset, .unset, .unset] [(.int (p2 &&& (16 : Int32))), (.int p1)])) _
    refine XS.bipush X7.here hx rfl (hb hby at_59) ?_
    show Steps p.tables e below (T7.setTop (mkF m 61 #[.val (.int p0), .val (.int p1), .val (.int p2), .val (.int p3), .val (.int d0), .val (.int d1), .val (.int d2), .val (.int d3), .unset, .unset, .unset, .unset, .unset, .unset, .unset, .unset] [(.int 115), (.int (p2 &&& (16 : Int32))), (.int p1)])) _
    exact st9 _ kk
  obtain ⟨_, _, ⟨T11, L11, k11, n11⟩, -, X11, ⟨Lc11, hQ11, l11, y11, z11⟩, st11⟩ := Jvm.LawKit.callS X9 hx (y := (⟨"com/example/deadline/deadline/CallbackSchemeNamedPinLaw", "pick", "(IIC)C"⟩ : MethodName)) hown (mvT hZ (gw hw 0 rfl)) (mvT hZ (gw hw 1 rfl)) (mvT hZ (gw hw 2 rfl)) (mvT hZ (gw hw 3 rfl)) (by decide) (backOf (W := 0) (own_pick l Z a0 hw [] ((p1.toUInt32 >>> ((8 : Int32) &&& 31).toUInt32).toInt32) (p2 &&& (32 : Int32)) (115 : Int32) h0 n0 Z0 (by decide)) hZ (gw hw 3 rfl) (gw hw 2 rfl) (by decide) (by decide)) (g := (mkF m 76 #[.val (.int p0), .val (.int p1), .val (.int p2), .val (.int p3), .val (.int d0), .val (.int d1), .val (.int d2), .val (.int d3), .val (.int d4), .unset, .unset, .unset, .unset, .unset, .unset, .unset] [(.int 115), (.int (p2 &&& (32 : Int32))), (.int ((p1.toUInt32 >>> ((8 : Int32) &&& 31).toUInt32).toInt32))])) rfl (by rw [hml]; rfl) (argsL := [(.int ((p1.toUInt32 >>> ((8 : Int32) &&& 31).toUInt32).toInt32)), (.int (p2 &&& (32 : Int32))), (.int 115)]) (rest := []) (lenOf pd__IIC_C rfl) rfl (by show 2 * 0 + _ ≤ _; exact Nat.le_of_eq rfl) (hb hby at_76) (fun _ _ => ⟨rfl, e9q, (by decide : 0 + 0 ≤ _), (by decide : 0 + 0 ≤ _)⟩)
  dsimp only [Pt.U, Pt.locs, Pt.cells, Pt.slots] at X11 l11 y11 z11 st11 hQ11
  subst l11 y11 z11
  obtain ⟨d5, rfl, N11q, e11q, hd5⟩ := hQ11
  have N11 := Fr.app N9 N11q
  have pre12 : ∀ t, Steps p.tables e below (T11.setTop (mkF m 79 #[.val (.int p0), .val (.int p1), .val (.int p2), .val (.int p3), .val (.int d0), .val (.int d1), .val (.int d2), .val (.int d3), .val (.int d4), .unset, .unset, .unset, .unset, .unset, .unset, .unset] [(.int d5)])) t → Steps p.tables e below (s₁.setTop (entryFrame m #[(.int p0), (.int p1), (.int p2), (.int p3)] maxLocals)) t := by
    intro t kk
    refine pre10 t ?_
    show Steps p.tables e below (T9.setTop (mkF m 64 #[.val (.int p0), .val (.int p1), .val (.int p2), .val (.int p3), .val (.int d0), .val (.int d1), .val (.int d2), .val (.int d3), .unset, .unset, .unset, .unset, .unset, .unset, .unset, .unset] [(.int d4)])) _
    refine XS.istore X9.here hx rfl (hb hby at_64) rfl (l' := #[.val (.int p0), .val (.int p1), .val (.int p2), .val (.int p3), .val (.int d0), .val (.int d1), .val (.int d2), .val (.int d3), .val (.int d4), .unset, .unset, .unset, .unset, .unset, .unset, .unset]) rfl ?_
    show Steps p.tables e below (T9.setTop (mkF m 66 #[.val (.int p0), .val (.int p1), .val (.int p2), .val (.int p3), .val (.int d0), .val (.int d1), .val (.int d2), .val (.int d3), .val (.int d4), .unset, .unset, .unset, .unset, .unset, .unset, .unset] [])) _
    refine XS.iloadN X9.here hx rfl (hb hby at_66) rfl ?_
    show Steps p.tables e below (T9.setTop (mkF m 67 #[.val (.int p0), .val (.int p1), .val (.int p2), .val (.int p3), .val (.int d0), .val (.int d1), .val (.int d2), .val (.int d3), .val (.int d4), .unset, .unset, .unset, .unset, .unset, .unset, .unset] [(.int p1)])) _
    refine XS.bipush X9.here hx rfl (hb hby at_67) ?_
    show Steps p.tables e below (T9.setTop (mkF m 69 #[.val (.int p0), .val (.int p1), .val (.int p2), .val (.int p3), .val (.int d0), .val (.int d1), .val (.int d2), .val (.int d3), .val (.int d4), .unset, .unset, .unset, .unset, .unset, .unset, .unset] [(.int 8), (.int p1)])) _
    refine XS.iushr X9.here hx rfl (hb hby at_69) rfl ?_
    show Steps p.tables e below (T9.setTop (mkF m 70 #[.val (.int p0), .val (.int p1), .val (.int p2), .val (.int p3), .val (.int d0), .val (.int d1), .val (.int d2), .val (.int d3), .val (.int d4), .unset, .unset, .unset, .unset, .unset, .unset, .unset] [(.int ((p1.toUInt32 >>> ((8 : Int32) &&& 31).toUInt32).toInt32))])) _
    refine XS.iloadN X9.here hx rfl (hb hby at_70) rfl ?_
    show Steps p.tables e below (T9.setTop (mkF m 71 #[.val (.int p0), .val (.int p1), .val (.int p2), .val (.int p3), .val (.int d0), .val (.int d1), .val (.int d2), .val (.int d3), .val (.int d4), .unset, .unset, .unset, .unset, .unset, .unset, .unset] [(.int p2), (.int ((p1.toUInt32 >>> ((8 : Int32) &&& 31).toUInt32).toInt32))])) _
    refine XS.bipush X9.here hx rfl (hb hby at_71) ?_
    show Steps p.tables e below (T9.setTop (mkF m 73 #[.val (.int p0), .val (.int p1), .val (.int p2), .val (.int p3), .val (.int d0), .val (.int d1), .val (.int d2), .val (.int d3), .val (.int d4), .unset, .unset, .unset, .unset, .unset, .unset, .unset] [(.int 32), (.int p2), (.int ((p1.toUInt32 >>> ((8 : Int32) &&& 31).toUInt32).toInt32))])) _
    refine XS.iand X9.here hx rfl (hb hby at_73) rfl ?_
    show Steps p.tables e below (T9.setTop (mkF m 74 #[.val (.int p0), .val (.int p1), .val (.int p2), .val (.int p3), .val (.int d0), .val (.int d1), .val (.int d2), .val (.int d3), .val (.int d4), .unset, .unset, .unset, .unset, .unset, .unset, .unset] [(.int (p2 &&& (32 : Int32))), (.int ((p1.toUInt32 >>> ((8 : Int32) &&& 31).toUInt32).toInt32))])) _
    refine XS.bipush X9.here hx rfl (hb hby at_74) ?_
    show Steps p.tables e below (T9.setTop (mkF m 76 #[.val (.int p0), .val (.int p1), .val (.int p2), .val (.int p3), .val (.int d0), .val (.int d1), .val (.int d2), .val (.int d3), .val (.int d4), .unset, .unset, .unset, .unset, .unset, .unset, .unset] [(.int 115), (.int (p2 &&& (32 : Int32))), (.int ((p1.toUInt32 >>> ((8 : Int32) &&& 31).toUInt32).toInt32))])) _
    exact st11 _ kk
  have pre13 : ∀ t, Steps p.tables e below (T11.setTop (mkF m 104 #[.val (.int p0), .val (.int p1), .val (.int p2), .val (.int p3), .val (.int d0), .val (.int d1), .val (.int d2), .val (.int d3), .val (.int d4), .val (.int d5), .val (.int ((p3 &&& (2147483647 : Int32)) % (8 : Int32))), .unset, .unset, .unset, .unset, .unset] [(.int d5), (.int d4), (.int d3), (.int d2), (.int d1), (.int d0), (.int ((p3 &&& (2147483647 : Int32)) % (8 : Int32)))])) t → Steps p.tables e below (s₁.setTop (entryFrame m #[(.int p0), (.int p1), (.int p2), (.int p3)] maxLocals)) t := by
    intro t kk
    refine pre12 t ?_
    show Steps p.tables e below (T11.setTop (mkF m 79 #[.val (.int p0), .val (.int p1), .val (.int p2), .val (.int p3), .val (.int d0), .val (.int d1), .val (.int d2), .val (.int d3), .val (.int d4), .unset, .unset, .unset, .unset, .unset, .unset, .unset] [(.int d5)])) _
    refine XS.istore X11.here hx rfl (hb hby at_79) rfl (l' := #[.val (.int p0), .val (.int p1), .val (.int p2), .val (.int p3), .val (.int d0), .val (.int d1), .val (.int d2), .val (.int d3), .val (.int d4), .val (.int d5), .unset, .unset, .unset, .unset, .unset, .unset]) rfl ?_
    show Steps p.tables e below (T11.setTop (mkF m 81 #[.val (.int p0), .val (.int p1), .val (.int p2), .val (.int p3), .val (.int d0), .val (.int d1), .val (.int d2), .val (.int d3), .val (.int d4), .val (.int d5), .unset, .unset, .unset, .unset, .unset, .unset] [])) _
    refine XS.iloadN X11.here hx rfl (hb hby at_81) rfl ?_
    show Steps p.tables e below (T11.setTop (mkF m 82 #[.val (.int p0), .val (.int p1), .val (.int p2), .val (.int p3), .val (.int d0), .val (.int d1), .val (.int d2), .val (.int d3), .val (.int d4), .val (.int d5), .unset, .unset, .unset, .unset, .unset, .unset] [(.int p3)])) _
    refine X11.ldcI hx hown (mvT hZ (gw hw 4 rfl)) (g := (mkF m 82 #[.val (.int p0), .val (.int p1), .val (.int p2), .val (.int p3), .val (.int d0), .val (.int d1), .val (.int d2), .val (.int d3), .val (.int d4), .val (.int d5), .unset, .unset, .unset, .unset, .unset, .unset] [(.int p3)])) rfl (hb hby at_82) ?_
    show Steps p.tables e below (T11.setTop (mkF m 84 #[.val (.int p0), .val (.int p1), .val (.int p2), .val (.int p3), .val (.int d0), .val (.int d1), .val (.int d2), .val (.int d3), .val (.int d4), .val (.int d5), .unset, .unset, .unset, .unset, .unset, .unset] [(.int 2147483647), (.int p3)])) _
    refine XS.iand X11.here hx rfl (hb hby at_84) rfl ?_
    show Steps p.tables e below (T11.setTop (mkF m 85 #[.val (.int p0), .val (.int p1), .val (.int p2), .val (.int p3), .val (.int d0), .val (.int d1), .val (.int d2), .val (.int d3), .val (.int d4), .val (.int d5), .unset, .unset, .unset, .unset, .unset, .unset] [(.int (p3 &&& (2147483647 : Int32)))])) _
    refine XS.bipush X11.here hx rfl (hb hby at_85) ?_
    show Steps p.tables e below (T11.setTop (mkF m 87 #[.val (.int p0), .val (.int p1), .val (.int p2), .val (.int p3), .val (.int d0), .val (.int d1), .val (.int d2), .val (.int d3), .val (.int d4), .val (.int d5), .unset, .unset, .unset, .unset, .unset, .unset] [(.int 8), (.int (p3 &&& (2147483647 : Int32)))])) _
    refine iremM (g := (mkF m 87 #[.val (.int p0), .val (.int p1), .val (.int p2), .val (.int p3), .val (.int d0), .val (.int d1), .val (.int d2), .val (.int d3), .val (.int d4), .val (.int d5), .unset, .unset, .unset, .unset, .unset, .unset] [(.int 8), (.int (p3 &&& (2147483647 : Int32)))])) X11 hx rfl (hb hby at_87) rfl (by decide) ?_
    show Steps p.tables e below (T11.setTop (mkF m 88 #[.val (.int p0), .val (.int p1), .val (.int p2), .val (.int p3), .val (.int d0), .val (.int d1), .val (.int d2), .val (.int d3), .val (.int d4), .val (.int d5), .unset, .unset, .unset, .unset, .unset, .unset] [(.int ((p3 &&& (2147483647 : Int32)) % (8 : Int32)))])) _
    refine XS.istore X11.here hx rfl (hb hby at_88) rfl (l' := #[.val (.int p0), .val (.int p1), .val (.int p2), .val (.int p3), .val (.int d0), .val (.int d1), .val (.int d2), .val (.int d3), .val (.int d4), .val (.int d5), .val (.int ((p3 &&& (2147483647 : Int32)) % (8 : Int32))), .unset, .unset, .unset, .unset, .unset]) rfl ?_
    show Steps p.tables e below (T11.setTop (mkF m 90 #[.val (.int p0), .val (.int p1), .val (.int p2), .val (.int p3), .val (.int d0), .val (.int d1), .val (.int d2), .val (.int d3), .val (.int d4), .val (.int d5), .val (.int ((p3 &&& (2147483647 : Int32)) % (8 : Int32))), .unset, .unset, .unset, .unset, .unset] [])) _
    refine XS.iload X11.here hx rfl (hb hby at_90) rfl ?_
    show Steps p.tables e below (T11.setTop (mkF m 92 #[.val (.int p0), .val (.int p1), .val (.int p2), .val (.int p3), .val (.int d0), .val (.int d1), .val (.int d2), .val (.int d3), .val (.int d4), .val (.int d5), .val (.int ((p3 &&& (2147483647 : Int32)) % (8 : Int32))), .unset, .unset, .unset, .unset, .unset] [(.int ((p3 &&& (2147483647 : Int32)) % (8 : Int32)))])) _
    refine XS.iload X11.here hx rfl (hb hby at_92) rfl ?_
    show Steps p.tables e below (T11.setTop (mkF m 94 #[.val (.int p0), .val (.int p1), .val (.int p2), .val (.int p3), .val (.int d0), .val (.int d1), .val (.int d2), .val (.int d3), .val (.int d4), .val (.int d5), .val (.int ((p3 &&& (2147483647 : Int32)) % (8 : Int32))), .unset, .unset, .unset, .unset, .unset] [(.int d0), (.int ((p3 &&& (2147483647 : Int32)) % (8 : Int32)))])) _
    refine XS.iload X11.here hx rfl (hb hby at_94) rfl ?_
    show Steps p.tables e below (T11.setTop (mkF m 96 #[.val (.int p0), .val (.int p1), .val (.int p2), .val (.int p3), .val (.int d0), .val (.int d1), .val (.int d2), .val (.int d3), .val (.int d4), .val (.int d5), .val (.int ((p3 &&& (2147483647 : Int32)) % (8 : Int32))), .unset, .unset, .unset, .unset, .unset] [(.int d1), (.int d0), (.int ((p3 &&& (2147483647 : Int32)) % (8 : Int32)))])) _
    refine XS.iload X11.here hx rfl (hb hby at_96) rfl ?_
    show Steps p.tables e below (T11.setTop (mkF m 98 #[.val (.int p0), .val (.int p1), .val (.int p2), .val (.int p3), .val (.int d0), .val (.int d1), .val (.int d2), .val (.int d3), .val (.int d4), .val (.int d5), .val (.int ((p3 &&& (2147483647 : Int32)) % (8 : Int32))), .unset, .unset, .unset, .unset, .unset] [(.int d2), (.int d1), (.int d0), (.int ((p3 &&& (2147483647 : Int32)) % (8 : Int32)))])) _
    refine XS.iload X11.here hx rfl (hb hby at_98) rfl ?_
    show Steps p.tables e below (T11.setTop (mkF m 100 #[.val (.int p0), .val (.int p1), .val (.int p2), .val (.int p3), .val (.int d0), .val (.int d1), .val (.int d2), .val (.int d3), .val (.int d4), .val (.int d5), .val (.int ((p3 &&& (2147483647 : Int32)) % (8 : Int32))), .unset, .unset, .unset, .unset, .unset] [(.int d3), (.int d2), (.int d1), (.int d0), (.int ((p3 &&& (2147483647 : Int32)) % (8 : Int32)))])) _
    refine XS.iload X11.here hx rfl (hb hby at_100) rfl ?_
    show Steps p.tables e below (T11.setTop (mkF m 102 #[.val (.int p0), .val (.int p1), .val (.int p2), .val (.int p3), .val (.int d0), .val (.int d1), .val (.int d2), .val (.int d3), .val (.int d4), .val (.int d5), .val (.int ((p3 &&& (2147483647 : Int32)) % (8 : Int32))), .unset, .unset, .unset, .unset, .unset] [(.int d4), (.int d3), (.int d2), (.int d1), (.int d0), (.int ((p3 &&& (2147483647 : Int32)) % (8 : Int32)))])) _
    refine XS.iload X11.here hx rfl (hb hby at_102) rfl ?_
    exact kk
  obtain ⟨_, _, ⟨T14, L14, k14, n14⟩, -, X14w, hS14w, gr14, ⟨Lc14, hQ14, l14, y14, z14, CQ14⟩, st14⟩ := callSS X11 hx (y := (⟨"com/example/deadline/deadline/CallbackSchemeNamedPinLaw", "make", "(ICCCCCC)Ljava/lang/String;"⟩ : MethodName)) hown (mvT hZ (gw hw 5 rfl)) (mvT hZ (gw hw 6 rfl)) (mvT hZ (gw hw 2 rfl)) (mvT hZ (gw hw 7 rfl)) (by decide) (backOfSH (W := 0) (own_make l Z a0 hw [] ((p3 &&& (2147483647 : Int32)) % (8 : Int32)) d0 d1 d2 d3 d4 d5 G1 h0 n0 Z0 hd0 hd1 hd2 hd3 hd4 hd5 O2 P5 XO) hZ (gw hw 7 rfl) (gw hw 2 rfl) (by decide) (by decide) hEL CR0.1) (g := (mkF m 104 #[.val (.int p0), .val (.int p1), .val (.int p2), .val (.int p3), .val (.int d0), .val (.int d1), .val (.int d2), .val (.int d3), .val (.int d4), .val (.int d5), .val (.int ((p3 &&& (2147483647 : Int32)) % (8 : Int32))), .unset, .unset, .unset, .unset, .unset] [(.int d5), (.int d4), (.int d3), (.int d2), (.int d1), (.int d0), (.int ((p3 &&& (2147483647 : Int32)) % (8 : Int32)))])) rfl (by rw [hml]; rfl) (argsL := [(.int ((p3 &&& (2147483647 : Int32)) % (8 : Int32))), (.int d0), (.int d1), (.int d2), (.int d3), (.int d4), (.int d5)]) (rest := []) (lenOf pd__ICCCCCC_Ljava_lang_String_ rfl) rfl (by show 2 * 0 + _ ≤ _; exact Nat.le_of_eq rfl) (hb hby at_104) (fun _ _ => ⟨rfl, e11q, (by decide : 0 + 6 ≤ _), (by decide : 0 + 16 ≤ _)⟩)
  dsimp only [Pt.U, Pt.locs, Pt.cells, Pt.slots] at X14w hS14w gr14 l14 y14 z14 st14 hQ14 CQ14
  subst l14 y14 z14
  obtain ⟨u14, rfl, N14q, K14, hu⟩ := hQ14
  have N14 := Fr.app N11 N14q
  obtain ⟨X14, hS14, hZ, hown⟩ := rebS hS0 (by rw [e11q]; exact hk0) X14w hS14w gr14 hZ hown
  have hk14 : T14.heap.size ≤ T14.heap.size := Nat.le_refl _
  have CR14 := CHr.trans CR0 CQ14
  have pre15 : ∀ t, Steps p.tables e below (T14.setTop (mkF m 107 #[.val (.int p0), .val (.int p1), .val (.int p2), .val (.int p3), .val (.int d0), .val (.int d1), .val (.int d2), .val (.int d3), .val (.int d4), .val (.int d5), .val (.int ((p3 &&& (2147483647 : Int32)) % (8 : Int32))), .unset, .unset, .unset, .unset, .unset] [u14])) t → Steps p.tables e below (s₁.setTop (entryFrame m #[(.int p0), (.int p1), (.int p2), (.int p3)] maxLocals)) t := by
    intro t kk
    refine pre13 t ?_
    show Steps p.tables e below (T11.setTop (mkF m 104 #[.val (.int p0), .val (.int p1), .val (.int p2), .val (.int p3), .val (.int d0), .val (.int d1), .val (.int d2), .val (.int d3), .val (.int d4), .val (.int d5), .val (.int ((p3 &&& (2147483647 : Int32)) % (8 : Int32))), .unset, .unset, .unset, .unset, .unset] [(.int d5), (.int d4), (.int d3), (.int d2), (.int d1), (.int d0), (.int ((p3 &&& (2147483647 : Int32)) % (8 : Int32)))])) _
    exact st14.trans kk
  rcases hu with rfl | ⟨ss2, nb2, kk2, cs, rfl, hsr, xE2, xF2, xC2, xV2, hcl, lt2⟩
  · skip
    have hd16 : (0 : Int32) = (0 : Int32) := rfl
    have hd17 : (0 : Int32) = (0 : Int32) := rfl
    have fc18 := (XO.keep K14 all0)
    have fc20 := (Nat.le_trans Z0 K14.1)
    obtain ⟨_, _, ⟨T19, L19, k19, n19⟩, -, X19, ⟨Lc19, hQ19, l19, y19, z19⟩, st19⟩ := Jvm.LawKit.callS X14 hx (y := (⟨"com/example/deadline/deadline/CallbackScheme", "named", "(Ljava/lang/String;)Lcom/example/deadline/deadline/CallbackScheme;"⟩ : MethodName)) hown (mvT hZ (gw hw 44 rfl)) (mvT hZ (gw hw 45 rfl)) (mvT hZ (gw hw 46 rfl)) (mvT hZ (gw hw 47 rfl)) (by decide) (backOf (W := 0) (own_nmn l Z a0 hw [] va en1 en2 nm1 nm2 nv1 nv2 kv kn1 kn2 G1 T14.heap n0 fc20 SV KV EV FN1 FN2 EN1 VN1 CN1 KN1 EN2 VN2 CN2 KN2 O2 P5 fc18) hZ (gw hw 47 rfl) (gw hw 46 rfl) (by decide) (by decide)) (g := (mkF m 304 #[.val (.int p0), .val (.int p1), .val (.int p2), .val (.int p3), .val (.int d0), .val (.int d1), .val (.int d2), .val (.int d3), .val (.int d4), .val (.int d5), .val (.int ((p3 &&& (2147483647 : Int32)) % (8 : Int32))), .val .null, .val (.int 0), .val (.int 0), .val .null, .unset] [.null])) rfl (by rw [hml]; rfl) (argsL := [.null]) (rest := []) (lenOf pd_60121638 rfl) rfl (by show 2 * 0 + _ ≤ _; exact Nat.le_of_eq rfl) (hb hby at_304) (fun _ _ => ⟨rfl, rfl, (by decide : 6 + 1 ≤ _), (by decide : 16 + 2 ≤ _)⟩)
    dsimp only [Pt.U, Pt.locs, Pt.cells, Pt.slots] at X19 l19 y19 z19 st19 hQ19
    subst l19 y19 z19
    obtain ⟨rfl, N19q, K19⟩ := hQ19
    have N19 := Fr.app N14 N19q
    have CR21 := CHr.trans CR14 (CHr.keep K19 sf0 CR14.1)
    have pre22 : ∀ t, Steps p.tables e below (T19.setTop (mkF m 307 #[.val (.int p0), .val (.int p1), .val (.int p2), .val (.int p3), .val (.int d0), .val (.int d1), .val (.int d2), .val (.int d3), .val (.int d4), .val (.int d5), .val (.int ((p3 &&& (2147483647 : Int32)) % (8 : Int32))), .val .null, .val (.int 0), .val (.int 0), .val .null, .unset] [.null])) t → Steps p.tables e below (s₁.setTop (entryFrame m #[(.int p0), (.int p1), (.int p2), (.int p3)] maxLocals)) t := by
      intro t kk
      refine pre15 t ?_
      show Steps p.tables e below (T14.setTop (mkF m 107 #[.val (.int p0), .val (.int p1), .val (.int p2), .val (.int p3), .val (.int d0), .val (.int d1), .val (.int d2), .val (.int d3), .val (.int d4), .val (.int d5), .val (.int ((p3 &&& (2147483647 : Int32)) % (8 : Int32))), .unset, .unset, .unset, .unset, .unset] [.null])) _
      refine XS.astore X14.here hx rfl (hb hby at_107) rfl rfl (l' := #[.val (.int p0), .val (.int p1), .val (.int p2), .val (.int p3), .val (.int d0), .val (.int d1), .val (.int d2), .val (.int d3), .val (.int d4), .val (.int d5), .val (.int ((p3 &&& (2147483647 : Int32)) % (8 : Int32))), .val .null, .unset, .unset, .unset, .unset]) rfl ?_
      show Steps p.tables e below (T14.setTop (mkF m 109 #[.val (.int p0), .val (.int p1), .val (.int p2), .val (.int p3), .val (.int d0), .val (.int d1), .val (.int d2), .val (.int d3), .val (.int d4), .val (.int d5), .val (.int ((p3 &&& (2147483647 : Int32)) % (8 : Int32))), .val .null, .unset, .unset, .unset, .unset] [])) _
      refine XS.aload X14.here hx rfl (hb hby at_109) rfl rfl ?_
      show Steps p.tables e below (T14.setTop (mkF m 111 #[.val (.int p0), .val (.int p1), .val (.int p2), .val (.int p3), .val (.int d0), .val (.int d1), .val (.int d2), .val (.int d3), .val (.int d4), .val (.int d5), .val (.int ((p3 &&& (2147483647 : Int32)) % (8 : Int32))), .val .null, .unset, .unset, .unset, .unset] [.null])) _
      refine XS.ifnullYes X14.here hx rfl (pc0 := 111) (pc' := 183) rfl (hb hby at_111) rfl (by decide) (by decide) ?_
      show Steps p.tables e below (T14.setTop (mkF m 183 #[.val (.int p0), .val (.int p1), .val (.int p2), .val (.int p3), .val (.int d0), .val (.int d1), .val (.int d2), .val (.int d3), .val (.int d4), .val (.int d5), .val (.int ((p3 &&& (2147483647 : Int32)) % (8 : Int32))), .val .null, .unset, .unset, .unset, .unset] [])) _
      refine XS.iconst X14.here hx rfl (hb hby at_183) ?_
      show Steps p.tables e below (T14.setTop (mkF m 184 #[.val (.int p0), .val (.int p1), .val (.int p2), .val (.int p3), .val (.int d0), .val (.int d1), .val (.int d2), .val (.int d3), .val (.int d4), .val (.int d5), .val (.int ((p3 &&& (2147483647 : Int32)) % (8 : Int32))), .val .null, .unset, .unset, .unset, .unset] [(.int 0)])) _
      refine XS.istore X14.here hx rfl (hb hby at_184) rfl (l' := #[.val (.int p0), .val (.int p1), .val (.int p2), .val (.int p3), .val (.int d0), .val (.int d1), .val (.int d2), .val (.int d3), .val (.int d4), .val (.int d5), .val (.int ((p3 &&& (2147483647 : Int32)) % (8 : Int32))), .val .null, .val (.int 0), .unset, .unset, .unset]) rfl ?_
      show Steps p.tables e below (T14.setTop (mkF m 186 #[.val (.int p0), .val (.int p1), .val (.int p2), .val (.int p3), .val (.int d0), .val (.int d1), .val (.int d2), .val (.int d3), .val (.int d4), .val (.int d5), .val (.int ((p3 &&& (2147483647 : Int32)) % (8 : Int32))), .val .null, .val (.int 0), .unset, .unset, .unset] [])) _
      refine XS.aload X14.here hx rfl (hb hby at_186) rfl rfl ?_
      show Steps p.tables e below (T14.setTop (mkF m 188 #[.val (.int p0), .val (.int p1), .val (.int p2), .val (.int p3), .val (.int d0), .val (.int d1), .val (.int d2), .val (.int d3), .val (.int d4), .val (.int d5), .val (.int ((p3 &&& (2147483647 : Int32)) % (8 : Int32))), .val .null, .val (.int 0), .unset, .unset, .unset] [.null])) _
      refine XS.ifnullYes X14.here hx rfl (pc0 := 188) (pc' := 274) rfl (hb hby at_188) rfl (by decide) (by decide) ?_
      show Steps p.tables e below (T14.setTop (mkF m 274 #[.val (.int p0), .val (.int p1), .val (.int p2), .val (.int p3), .val (.int d0), .val (.int d1), .val (.int d2), .val (.int d3), .val (.int d4), .val (.int d5), .val (.int ((p3 &&& (2147483647 : Int32)) % (8 : Int32))), .val .null, .val (.int 0), .unset, .unset, .unset] [])) _
      refine XS.iconst X14.here hx rfl (hb hby at_274) ?_
      show Steps p.tables e below (T14.setTop (mkF m 275 #[.val (.int p0), .val (.int p1), .val (.int p2), .val (.int p3), .val (.int d0), .val (.int d1), .val (.int d2), .val (.int d3), .val (.int d4), .val (.int d5), .val (.int ((p3 &&& (2147483647 : Int32)) % (8 : Int32))), .val .null, .val (.int 0), .unset, .unset, .unset] [(.int 0)])) _
      refine XS.istore X14.here hx rfl (hb hby at_275) rfl (l' := #[.val (.int p0), .val (.int p1), .val (.int p2), .val (.int p3), .val (.int d0), .val (.int d1), .val (.int d2), .val (.int d3), .val (.int d4), .val (.int d5), .val (.int ((p3 &&& (2147483647 : Int32)) % (8 : Int32))), .val .null, .val (.int 0), .val (.int 0), .unset, .unset]) rfl ?_
      show Steps p.tables e below (T14.setTop (mkF m 277 #[.val (.int p0), .val (.int p1), .val (.int p2), .val (.int p3), .val (.int d0), .val (.int d1), .val (.int d2), .val (.int d3), .val (.int d4), .val (.int d5), .val (.int ((p3 &&& (2147483647 : Int32)) % (8 : Int32))), .val .null, .val (.int 0), .val (.int 0), .unset, .unset] [])) _
      refine XS.iload X14.here hx rfl (hb hby at_277) rfl ?_
      show Steps p.tables e below (T14.setTop (mkF m 279 #[.val (.int p0), .val (.int p1), .val (.int p2), .val (.int p3), .val (.int d0), .val (.int d1), .val (.int d2), .val (.int d3), .val (.int d4), .val (.int d5), .val (.int ((p3 &&& (2147483647 : Int32)) % (8 : Int32))), .val .null, .val (.int 0), .val (.int 0), .unset, .unset] [(.int 0)])) _
      refine XS.ifYes X14.here hx rfl (pc0 := 279) (pc' := 288) rfl (hb hby at_279) rfl ((if0 _ _).trans (teq hd16).1) (by decide) (by decide) ?_
      show Steps p.tables e below (T14.setTop (mkF m 288 #[.val (.int p0), .val (.int p1), .val (.int p2), .val (.int p3), .val (.int d0), .val (.int d1), .val (.int d2), .val (.int d3), .val (.int d4), .val (.int d5), .val (.int ((p3 &&& (2147483647 : Int32)) % (8 : Int32))), .val .null, .val (.int 0), .val (.int 0), .unset, .unset] [])) _
      refine XS.iload X14.here hx rfl (hb hby at_288) rfl ?_
      show Steps p.tables e below (T14.setTop (mkF m 290 #[.val (.int p0), .val (.int p1), .val (.int p2), .val (.int p3), .val (.int d0), .val (.int d1), .val (.int d2), .val (.int d3), .val (.int d4), .val (.int d5), .val (.int ((p3 &&& (2147483647 : Int32)) % (8 : Int32))), .val .null, .val (.int 0), .val (.int 0), .unset, .unset] [(.int 0)])) _
      refine XS.ifYes X14.here hx rfl (pc0 := 290) (pc' := 299) rfl (hb hby at_290) rfl ((if0 _ _).trans (teq hd17).1) (by decide) (by decide) ?_
      show Steps p.tables e below (T14.setTop (mkF m 299 #[.val (.int p0), .val (.int p1), .val (.int p2), .val (.int p3), .val (.int d0), .val (.int d1), .val (.int d2), .val (.int d3), .val (.int d4), .val (.int d5), .val (.int ((p3 &&& (2147483647 : Int32)) % (8 : Int32))), .val .null, .val (.int 0), .val (.int 0), .unset, .unset] [])) _
      refine XS.aconstNull X14.here hx rfl (hb hby at_299) ?_
      show Steps p.tables e below (T14.setTop (mkF m 300 #[.val (.int p0), .val (.int p1), .val (.int p2), .val (.int p3), .val (.int d0), .val (.int d1), .val (.int d2), .val (.int d3), .val (.int d4), .val (.int d5), .val (.int ((p3 &&& (2147483647 : Int32)) % (8 : Int32))), .val .null, .val (.int 0), .val (.int 0), .unset, .unset] [.null])) _
      refine XS.astore X14.here hx rfl (hb hby at_300) rfl rfl (l' := #[.val (.int p0), .val (.int p1), .val (.int p2), .val (.int p3), .val (.int d0), .val (.int d1), .val (.int d2), .val (.int d3), .val (.int d4), .val (.int d5), .val (.int ((p3 &&& (2147483647 : Int32)) % (8 : Int32))), .val .null, .val (.int 0), .val (.int 0), .val .null, .unset]) rfl ?_
      show Steps p.tables e below (T14.setTop (mkF m 302 #[.val (.int p0), .val (.int p1), .val (.int p2), .val (.int p3), .val (.int d0), .val (.int d1), .val (.int d2), .val (.int d3), .val (.int d4), .val (.int d5), .val (.int ((p3 &&& (2147483647 : Int32)) % (8 : Int32))), .val .null, .val (.int 0), .val (.int 0), .val .null, .unset] [])) _
      refine XS.aload X14.here hx rfl (hb hby at_302) rfl rfl ?_
      show Steps p.tables e below (T14.setTop (mkF m 304 #[.val (.int p0), .val (.int p1), .val (.int p2), .val (.int p3), .val (.int d0), .val (.int d1), .val (.int d2), .val (.int d3), .val (.int d4), .val (.int d5), .val (.int ((p3 &&& (2147483647 : Int32)) % (8 : Int32))), .val .null, .val (.int 0), .val (.int 0), .val .null, .unset] [.null])) _
      exact st19 _ kk
    have fc23 := (Nat.le_trans hk14 K19.1)
    obtain ⟨fs, hr, hrun, hended, hRW⟩ := X19.leaveW hS14 fc23 (v := some (.int 1)) (fun h => by rw [Bd.returns] at h; cases h)
    have CRe := CHr.trans CR21 (CHv.at X19 hZ hEL CR21.1)
    refine ⟨_, _, pre22 _ ?_, hrun, hended, _, _, rfl, ?_, ?_, hRW.1, hRW.2.1, hRW.2.2.1, hRW.2.2.2.mono (by decide) (by decide)⟩
    · show Steps p.tables e below (T19.setTop (mkF m 307 #[.val (.int p0), .val (.int p1), .val (.int p2), .val (.int p3), .val (.int d0), .val (.int d1), .val (.int d2), .val (.int d3), .val (.int d4), .val (.int d5), .val (.int ((p3 &&& (2147483647 : Int32)) % (8 : Int32))), .val .null, .val (.int 0), .val (.int 0), .val .null, .unset] [.null])) _
      refine XS.astore X19.here hx rfl (hb hby at_307) rfl rfl (l' := #[.val (.int p0), .val (.int p1), .val (.int p2), .val (.int p3), .val (.int d0), .val (.int d1), .val (.int d2), .val (.int d3), .val (.int d4), .val (.int d5), .val (.int ((p3 &&& (2147483647 : Int32)) % (8 : Int32))), .val .null, .val (.int 0), .val (.int 0), .val .null, .val .null]) rfl ?_
      show Steps p.tables e below (T19.setTop (mkF m 309 #[.val (.int p0), .val (.int p1), .val (.int p2), .val (.int p3), .val (.int d0), .val (.int d1), .val (.int d2), .val (.int d3), .val (.int d4), .val (.int d5), .val (.int ((p3 &&& (2147483647 : Int32)) % (8 : Int32))), .val .null, .val (.int 0), .val (.int 0), .val .null, .val .null] [])) _
      refine XS.aload X19.here hx rfl (hb hby at_309) rfl rfl ?_
      show Steps p.tables e below (T19.setTop (mkF m 311 #[.val (.int p0), .val (.int p1), .val (.int p2), .val (.int p3), .val (.int d0), .val (.int d1), .val (.int d2), .val (.int d3), .val (.int d4), .val (.int d5), .val (.int ((p3 &&& (2147483647 : Int32)) % (8 : Int32))), .val .null, .val (.int 0), .val (.int 0), .val .null, .val .null] [.null])) _
      refine XS.aload X19.here hx rfl (hb hby at_311) rfl rfl ?_
      show Steps p.tables e below (T19.setTop (mkF m 313 #[.val (.int p0), .val (.int p1), .val (.int p2), .val (.int p3), .val (.int d0), .val (.int d1), .val (.int d2), .val (.int d3), .val (.int d4), .val (.int d5), .val (.int ((p3 &&& (2147483647 : Int32)) % (8 : Int32))), .val .null, .val (.int 0), .val (.int 0), .val .null, .val .null] [.null, .null])) _
      refine Jvm.RoadKit.acmp (g := (mkF m 313 #[.val (.int p0), .val (.int p1), .val (.int p2), .val (.int p3), .val (.int d0), .val (.int d1), .val (.int d2), .val (.int d3), .val (.int d4), .val (.int d5), .val (.int ((p3 &&& (2147483647 : Int32)) % (8 : Int32))), .val .null, .val (.int 0), .val (.int 0), .val .null, .val .null] [.null, .null])) X19 hx rfl rfl rfl (pc0 := 313) (pc' := 316) (same := true) rfl (hb hby at_313) rfl (decide_eq_true rfl) (by decide) (by decide) ?_
      show Steps p.tables e below (T19.setTop (mkF m 316 #[.val (.int p0), .val (.int p1), .val (.int p2), .val (.int p3), .val (.int d0), .val (.int d1), .val (.int d2), .val (.int d3), .val (.int d4), .val (.int d5), .val (.int ((p3 &&& (2147483647 : Int32)) % (8 : Int32))), .val .null, .val (.int 0), .val (.int 0), .val .null, .val .null] [])) _
      refine XS.iconst X19.here hx rfl (hb hby at_316) ?_
      show Steps p.tables e below (T19.setTop (mkF m 317 #[.val (.int p0), .val (.int p1), .val (.int p2), .val (.int p3), .val (.int d0), .val (.int d1), .val (.int d2), .val (.int d3), .val (.int d4), .val (.int d5), .val (.int ((p3 &&& (2147483647 : Int32)) % (8 : Int32))), .val .null, .val (.int 0), .val (.int 0), .val .null, .val .null] [(.int 1)])) _
      refine XS.goto X19.here hx rfl (pc0 := 317) (pc' := 321) rfl (hb hby at_317) (by decide) (by decide) ?_
      show Steps p.tables e below (T19.setTop (mkF m 321 #[.val (.int p0), .val (.int p1), .val (.int p2), .val (.int p3), .val (.int d0), .val (.int d1), .val (.int d2), .val (.int d3), .val (.int d4), .val (.int d5), .val (.int ((p3 &&& (2147483647 : Int32)) % (8 : Int32))), .val .null, .val (.int 0), .val (.int 0), .val .null, .val .null] [(.int 1)])) _
      exact retN X19 hx (t := .boolean) Bd.returns (by simp) (hb hby at_321) hr
    · show Q_own_law Z p0 p1 p2 p3 va en1 en2 nm1 nm2 nv1 nv2 kv kn1 kn2 G1 G3 h0 n0 _ T19.heap _
      exact ⟨rfl, N19⟩
    · show CHr Z own_EL s.vm s.heap T19.vm T19.heap
      rw [hh]
      exact CRe
  · skip
    have hs0 : n0 ≤ ss2 := Nat.le_trans Z0 hsr
    have pre24 : ∀ t, Steps p.tables e below (T14.setTop (mkF m 109 #[.val (.int p0), .val (.int p1), .val (.int p2), .val (.int p3), .val (.int d0), .val (.int d1), .val (.int d2), .val (.int d3), .val (.int d4), .val (.int d5), .val (.int ((p3 &&& (2147483647 : Int32)) % (8 : Int32))), .val (.ref ss2), .unset, .unset, .unset, .unset] [])) t → Steps p.tables e below (s₁.setTop (entryFrame m #[(.int p0), (.int p1), (.int p2), (.int p3)] maxLocals)) t := by
      intro t kk
      refine pre15 t ?_
      show Steps p.tables e below (T14.setTop (mkF m 107 #[.val (.int p0), .val (.int p1), .val (.int p2), .val (.int p3), .val (.int d0), .val (.int d1), .val (.int d2), .val (.int d3), .val (.int d4), .val (.int d5), .val (.int ((p3 &&& (2147483647 : Int32)) % (8 : Int32))), .unset, .unset, .unset, .unset, .unset] [(.ref ss2)])) _
      refine XS.astore X14.here hx rfl (hb hby at_107) rfl rfl (l' := #[.val (.int p0), .val (.int p1), .val (.int p2), .val (.int p3), .val (.int d0), .val (.int d1), .val (.int d2), .val (.int d3), .val (.int d4), .val (.int d5), .val (.int ((p3 &&& (2147483647 : Int32)) % (8 : Int32))), .val (.ref ss2), .unset, .unset, .unset, .unset]) rfl ?_
      exact kk
    obtain ⟨T25, Lj25, is1, X25, e25, N25, his1, pre25⟩ : ∃ (T' : State) (lc : List Loc) (is1 : Int32), Stand p l e room_1 (s.setVm T14.vm) m #[(.int p0), (.int p1), (.int p2), (.int p3)] below meth c T' lc 6 16 ∧ T'.heap = T14.heap ∧ Fr n0 lc ∧ (((own_E4 ([104, 116, 116, 112] : List Int32) cs) → is1 = 1) ∧ (¬ (own_E4 ([104, 116, 116, 112] : List Int32) cs) → is1 = 0)) ∧ ∀ t, Steps p.tables e below (T'.setTop (mkF m 184 #[.val (.int p0), .val (.int p1), .val (.int p2), .val (.int p3), .val (.int d0), .val (.int d1), .val (.int d2), .val (.int d3), .val (.int d4), .val (.int d5), .val (.int ((p3 &&& (2147483647 : Int32)) % (8 : Int32))), .val (.ref ss2), .unset, .unset, .unset, .unset] [(.int is1)])) t → Steps p.tables e below (s₁.setTop (entryFrame m #[(.int p0), (.int p1), (.int p2), (.int p3)] maxLocals)) t := by
      have fc26 := (XO.keep K14 all0)
      have fc28 := (Nat.le_trans Z0 K14.1)
      obtain ⟨cq27, kq27, q27a, q27b, q27c⟩ := isOf hZ rfl xE2
      obtain ⟨_, _, ⟨T27, L27, k27, n27⟩, -, X27, ⟨Lc27, hQ27, l27, y27, z27⟩, st27⟩ := X14.virtualBack hx (y := (⟨"java/lang/String", "length", "()I"⟩ : MethodName)) (z := (⟨"java/lang/String", "length", "()I"⟩ : MethodName)) hown (mvT hZ (gw hw 34 rfl)) (mvT hZ (gw hw 35 rfl)) (notFace_of_selects (args := #[]) (mvT hZ (gw hw 37 rfl))) (mvT hZ (gw hw 37 rfl)) (mvT hZ (gw hw 36 rfl)) (by decide) (backOf (W := 0) (own_slen l Z a0 hw [] ss2 nb2 kk2 (Int32.ofNat cs.length) (own_B cs) G1 T14.heap n0 fc28 xE2 xF2 xC2 xV2 O2 P5 fc26) hZ (gw hw 38 rfl) (gw hw 10 rfl) (by decide) (by decide)) q27a q27c (g := (mkF m 116 #[.val (.int p0), .val (.int p1), .val (.int p2), .val (.int p3), .val (.int d0), .val (.int d1), .val (.int d2), .val (.int d3), .val (.int d4), .val (.int d5), .val (.int ((p3 &&& (2147483647 : Int32)) % (8 : Int32))), .val (.ref ss2), .unset, .unset, .unset, .unset] [(.ref ss2)])) rfl (by rw [hml]; rfl) (Steps.refl _) (argsL := []) (rest := []) (lenOf pd___I rfl) rfl (by show 2 * 0 + _ ≤ _; exact Nat.le_of_eq rfl) (hb hby at_116) (fun _ _ => ⟨rfl, rfl, (by decide : 6 + 0 ≤ _), (by decide : 16 + 0 ≤ _)⟩)
      dsimp only [Pt.U, Pt.locs, Pt.cells, Pt.slots] at X27 l27 y27 z27 st27 hQ27
      subst l27 y27 z27
      obtain ⟨rfl, N27q, e27q⟩ := hQ27
      have N27 := Fr.app N14 N27q
      have pre29 : ∀ t, Steps p.tables e below (T27.setTop (mkF m 119 #[.val (.int p0), .val (.int p1), .val (.int p2), .val (.int p3), .val (.int d0), .val (.int d1), .val (.int d2), .val (.int d3), .val (.int d4), .val (.int d5), .val (.int ((p3 &&& (2147483647 : Int32)) % (8 : Int32))), .val (.ref ss2), .unset, .unset, .unset, .unset] [(.int (Int32.ofNat cs.length))])) t → Steps p.tables e below (s₁.setTop (entryFrame m #[(.int p0), (.int p1), (.int p2), (.int p3)] maxLocals)) t := by
        intro t kk
        refine pre24 t ?_
        show Steps p.tables e below (T14.setTop (mkF m 109 #[.val (.int p0), .val (.int p1), .val (.int p2), .val (.int p3), .val (.int d0), .val (.int d1), .val (.int d2), .val (.int d3), .val (.int d4), .val (.int d5), .val (.int ((p3 &&& (2147483647 : Int32)) % (8 : Int32))), .val (.ref ss2), .unset, .unset, .unset, .unset] [])) _
        refine XS.aload X14.here hx rfl (hb hby at_109) rfl rfl ?_
        show Steps p.tables e below (T14.setTop (mkF m 111 #[.val (.int p0), .val (.int p1), .val (.int p2), .val (.int p3), .val (.int d0), .val (.int d1), .val (.int d2), .val (.int d3), .val (.int d4), .val (.int d5), .val (.int ((p3 &&& (2147483647 : Int32)) % (8 : Int32))), .val (.ref ss2), .unset, .unset, .unset, .unset] [(.ref ss2)])) _
        refine XS.ifnullNo X14.here hx rfl (hb hby at_111) rfl ?_
        show Steps p.tables e below (T14.setTop (mkF m 114 #[.val (.int p0), .val (.int p1), .val (.int p2), .val (.int p3), .val (.int d0), .val (.int d1), .val (.int d2), .val (.int d3), .val (.int d4), .val (.int d5), .val (.int ((p3 &&& (2147483647 : Int32)) % (8 : Int32))), .val (.ref ss2), .unset, .unset, .unset, .unset] [])) _
        refine XS.aload X14.here hx rfl (hb hby at_114) rfl rfl ?_
        show Steps p.tables e below (T14.setTop (mkF m 116 #[.val (.int p0), .val (.int p1), .val (.int p2), .val (.int p3), .val (.int d0), .val (.int d1), .val (.int d2), .val (.int d3), .val (.int d4), .val (.int d5), .val (.int ((p3 &&& (2147483647 : Int32)) % (8 : Int32))), .val (.ref ss2), .unset, .unset, .unset, .unset] [(.ref ss2)])) _
        exact st27.trans kk
      by_cases hlen : (Int32.ofNat cs.length) = (4 : Int32)
      case pos =>
        have hl' : cs.length = 4 ↔ (Int32.ofNat cs.length) = (4 : Int32) := by
          have o := (own_on (n := cs.length) (by omega)).1
          have k : (4 : Int32).toInt = 4 := by decide
          constructor
          · intro q; rw [q]; rfl
          · intro q; rw [q] at o; omega
        have hl2 := hl'.mpr hlen
        obtain ⟨cq30, kq30, q30a, q30b, q30c⟩ := isOf hZ e27q xE2
        obtain ⟨_, _, ⟨T30, L30, k30, n30⟩, -, X30, ⟨Lc30, hQ30, l30, y30, z30⟩, st30⟩ := X27.virtualBack hx (y := (⟨"java/lang/String", "charAt", "(I)C"⟩ : MethodName)) (z := (⟨"java/lang/String", "charAt", "(I)C"⟩ : MethodName)) hown (mvT hZ (gw hw 94 rfl)) (mvT hZ (gw hw 95 rfl)) (notFace_of_selects (args := #[]) (mvT hZ (gw hw 97 rfl))) (mvT hZ (gw hw 97 rfl)) (mvT hZ (gw hw 96 rfl)) (by decide) (StrChars.Road.chN (W := 0) hZ hch (kI := 4) (gw hw 18 rfl) xE2 xF2 xC2 xV2 (own_cod lt2) (own_up lt2) (O2.ext fc26.2) P5 (O4.ext fc26.2) rG3 (by omega) (i := 0) (by omega) (j := (0 : Int32)) rfl (by decide) (by decide)) q30a q30c (g := (mkF m 126 #[.val (.int p0), .val (.int p1), .val (.int p2), .val (.int p3), .val (.int d0), .val (.int d1), .val (.int d2), .val (.int d3), .val (.int d4), .val (.int d5), .val (.int ((p3 &&& (2147483647 : Int32)) % (8 : Int32))), .val (.ref ss2), .unset, .unset, .unset, .unset] [(.int 0), (.ref ss2)])) rfl (by rw [hml]; rfl) (Steps.refl _) (argsL := [(.int 0)]) (rest := []) (lenOf pd__I_C rfl) rfl (by show 2 * 0 + _ ≤ _; exact Nat.le_of_eq rfl) (hb hby at_126) (fun _ _ => ⟨rfl, e27q, (by decide : 6 + 0 ≤ _), (by decide : 16 + 0 ≤ _)⟩)
        dsimp only [Pt.U, Pt.locs, Pt.cells, Pt.slots] at X30 l30 y30 z30 st30 hQ30
        subst l30 y30 z30
        obtain ⟨rfl, rfl, e30q⟩ := hQ30
        have N30q : Fr n0 ([] : List Loc) := Fr.nil n0
        have N30 := Fr.app N27 N30q
        have pre31 : ∀ t, Steps p.tables e below (T30.setTop (mkF m 129 #[.val (.int p0), .val (.int p1), .val (.int p2), .val (.int p3), .val (.int d0), .val (.int d1), .val (.int d2), .val (.int d3), .val (.int d4), .val (.int d5), .val (.int ((p3 &&& (2147483647 : Int32)) % (8 : Int32))), .val (.ref ss2), .unset, .unset, .unset, .unset] [(.int (cs.getD 0 0))])) t → Steps p.tables e below (s₁.setTop (entryFrame m #[(.int p0), (.int p1), (.int p2), (.int p3)] maxLocals)) t := by
          intro t kk
          refine pre29 t ?_
          show Steps p.tables e below (T27.setTop (mkF m 119 #[.val (.int p0), .val (.int p1), .val (.int p2), .val (.int p3), .val (.int d0), .val (.int d1), .val (.int d2), .val (.int d3), .val (.int d4), .val (.int d5), .val (.int ((p3 &&& (2147483647 : Int32)) % (8 : Int32))), .val (.ref ss2), .unset, .unset, .unset, .unset] [(.int (Int32.ofNat cs.length))])) _
          refine XS.iconst X27.here hx rfl (hb hby at_119) ?_
          show Steps p.tables e below (T27.setTop (mkF m 120 #[.val (.int p0), .val (.int p1), .val (.int p2), .val (.int p3), .val (.int d0), .val (.int d1), .val (.int d2), .val (.int d3), .val (.int d4), .val (.int d5), .val (.int ((p3 &&& (2147483647 : Int32)) % (8 : Int32))), .val (.ref ss2), .unset, .unset, .unset, .unset] [(.int 4), (.int (Int32.ofNat cs.length))])) _
          refine XS.icmpNo X27.here hx rfl (hb hby at_120) rfl (teq hlen).2 ?_
          show Steps p.tables e below (T27.setTop (mkF m 123 #[.val (.int p0), .val (.int p1), .val (.int p2), .val (.int p3), .val (.int d0), .val (.int d1), .val (.int d2), .val (.int d3), .val (.int d4), .val (.int d5), .val (.int ((p3 &&& (2147483647 : Int32)) % (8 : Int32))), .val (.ref ss2), .unset, .unset, .unset, .unset] [])) _
          refine XS.aload X27.here hx rfl (hb hby at_123) rfl rfl ?_
          show Steps p.tables e below (T27.setTop (mkF m 125 #[.val (.int p0), .val (.int p1), .val (.int p2), .val (.int p3), .val (.int d0), .val (.int d1), .val (.int d2), .val (.int d3), .val (.int d4), .val (.int d5), .val (.int ((p3 &&& (2147483647 : Int32)) % (8 : Int32))), .val (.ref ss2), .unset, .unset, .unset, .unset] [(.ref ss2)])) _
          refine XS.iconst X27.here hx rfl (hb hby at_125) ?_
          show Steps p.tables e below (T27.setTop (mkF m 126 #[.val (.int p0), .val (.int p1), .val (.int p2), .val (.int p3), .val (.int d0), .val (.int d1), .val (.int d2), .val (.int d3), .val (.int d4), .val (.int d5), .val (.int ((p3 &&& (2147483647 : Int32)) % (8 : Int32))), .val (.ref ss2), .unset, .unset, .unset, .unset] [(.int 0), (.ref ss2)])) _
          exact st30.trans kk
        obtain ⟨_, _, ⟨T32, L32, k32, n32⟩, -, X32, ⟨Lc32, hQ32, l32, y32, z32⟩, st32⟩ := Jvm.LawKit.callS X30 hx (y := (⟨"com/example/deadline/deadline/CallbackSchemeNamedPinLaw", "ci", "(CC)Z"⟩ : MethodName)) hown (mvT hZ (gw hw 115 rfl)) (mvT hZ (gw hw 116 rfl)) (mvT hZ (gw hw 2 rfl)) (mvT hZ (gw hw 117 rfl)) (by decide) (backOf (W := 0) (own_ci l Z a0 hw [] (cs.getD 0 0) (104 : Int32) T14.heap n0 fc28) hZ (gw hw 117 rfl) (gw hw 2 rfl) (by decide) (by decide)) (g := (mkF m 131 #[.val (.int p0), .val (.int p1), .val (.int p2), .val (.int p3), .val (.int d0), .val (.int d1), .val (.int d2), .val (.int d3), .val (.int d4), .val (.int d5), .val (.int ((p3 &&& (2147483647 : Int32)) % (8 : Int32))), .val (.ref ss2), .unset, .unset, .unset, .unset] [(.int 104), (.int (cs.getD 0 0))])) rfl (by rw [hml]; rfl) (argsL := [(.int (cs.getD 0 0)), (.int 104)]) (rest := []) (lenOf pd__CC_Z rfl) rfl (by show 2 * 0 + _ ≤ _; exact Nat.le_of_eq rfl) (hb hby at_131) (fun _ _ => ⟨rfl, e30q, (by decide : 6 + 0 ≤ _), (by decide : 16 + 0 ≤ _)⟩)
        dsimp only [Pt.U, Pt.locs, Pt.cells, Pt.slots] at X32 l32 y32 z32 st32 hQ32
        subst l32 y32 z32
        obtain ⟨rr0, rfl, N32q, e32q, ra0, rb0⟩ := hQ32
        have N32 := Fr.app N30 N32q
        have pre33 : ∀ t, Steps p.tables e below (T32.setTop (mkF m 134 #[.val (.int p0), .val (.int p1), .val (.int p2), .val (.int p3), .val (.int d0), .val (.int d1), .val (.int d2), .val (.int d3), .val (.int d4), .val (.int d5), .val (.int ((p3 &&& (2147483647 : Int32)) % (8 : Int32))), .val (.ref ss2), .unset, .unset, .unset, .unset] [(.int rr0)])) t → Steps p.tables e below (s₁.setTop (entryFrame m #[(.int p0), (.int p1), (.int p2), (.int p3)] maxLocals)) t := by
          intro t kk
          refine pre31 t ?_
          show Steps p.tables e below (T30.setTop (mkF m 129 #[.val (.int p0), .val (.int p1), .val (.int p2), .val (.int p3), .val (.int d0), .val (.int d1), .val (.int d2), .val (.int d3), .val (.int d4), .val (.int d5), .val (.int ((p3 &&& (2147483647 : Int32)) % (8 : Int32))), .val (.ref ss2), .unset, .unset, .unset, .unset] [(.int (cs.getD 0 0))])) _
          refine XS.bipush X30.here hx rfl (hb hby at_129) ?_
          show Steps p.tables e below (T30.setTop (mkF m 131 #[.val (.int p0), .val (.int p1), .val (.int p2), .val (.int p3), .val (.int d0), .val (.int d1), .val (.int d2), .val (.int d3), .val (.int d4), .val (.int d5), .val (.int ((p3 &&& (2147483647 : Int32)) % (8 : Int32))), .val (.ref ss2), .unset, .unset, .unset, .unset] [(.int 104), (.int (cs.getD 0 0))])) _
          exact st32 _ kk
        have mc0 := own_Mc (a := (104 : Int32)) (by decide) (own_gl lt2 (i := 0) (by omega))
        rw [← mc0] at ra0 rb0
        by_cases mm0 : own_M (104 : Int32) (cs.getD 0 0)
        case pos =>
          have hd34 : ¬ (rr0 = (0 : Int32)) := by rw [ra0 mm0]; decide
          obtain ⟨cq35, kq35, q35a, q35b, q35c⟩ := isOf hZ e32q xE2
          obtain ⟨_, _, ⟨T35, L35, k35, n35⟩, -, X35, ⟨Lc35, hQ35, l35, y35, z35⟩, st35⟩ := X32.virtualBack hx (y := (⟨"java/lang/String", "charAt", "(I)C"⟩ : MethodName)) (z := (⟨"java/lang/String", "charAt", "(I)C"⟩ : MethodName)) hown (mvT hZ (gw hw 94 rfl)) (mvT hZ (gw hw 95 rfl)) (notFace_of_selects (args := #[]) (mvT hZ (gw hw 97 rfl))) (mvT hZ (gw hw 97 rfl)) (mvT hZ (gw hw 96 rfl)) (by decide) (StrChars.Road.chN (W := 0) hZ hch (kI := 4) (gw hw 18 rfl) xE2 xF2 xC2 xV2 (own_cod lt2) (own_up lt2) (O2.ext fc26.2) P5 (O4.ext fc26.2) rG3 (by omega) (i := 1) (by omega) (j := (1 : Int32)) rfl (by decide) (by decide)) q35a q35c (g := (mkF m 140 #[.val (.int p0), .val (.int p1), .val (.int p2), .val (.int p3), .val (.int d0), .val (.int d1), .val (.int d2), .val (.int d3), .val (.int d4), .val (.int d5), .val (.int ((p3 &&& (2147483647 : Int32)) % (8 : Int32))), .val (.ref ss2), .unset, .unset, .unset, .unset] [(.int 1), (.ref ss2)])) rfl (by rw [hml]; rfl) (Steps.refl _) (argsL := [(.int 1)]) (rest := []) (lenOf pd__I_C rfl) rfl (by show 2 * 0 + _ ≤ _; exact Nat.le_of_eq rfl) (hb hby at_140) (fun _ _ => ⟨rfl, e32q, (by decide : 6 + 0 ≤ _), (by decide : 16 + 0 ≤ _)⟩)
          dsimp only [Pt.U, Pt.locs, Pt.cells, Pt.slots] at X35 l35 y35 z35 st35 hQ35
          subst l35 y35 z35
          obtain ⟨rfl, rfl, e35q⟩ := hQ35
          have N35q : Fr n0 ([] : List Loc) := Fr.nil n0
          have N35 := Fr.app N32 N35q
          have pre36 : ∀ t, Steps p.tables e below (T35.setTop (mkF m 143 #[.val (.int p0), .val (.int p1), .val (.int p2), .val (.int p3), .val (.int d0), .val (.int d1), .val (.int d2), .val (.int d3), .val (.int d4), .val (.int d5), .val (.int ((p3 &&& (2147483647 : Int32)) % (8 : Int32))), .val (.ref ss2), .unset, .unset, .unset, .unset] [(.int (cs.getD 1 0))])) t → Steps p.tables e below (s₁.setTop (entryFrame m #[(.int p0), (.int p1), (.int p2), (.int p3)] maxLocals)) t := by
            intro t kk
            refine pre33 t ?_
            show Steps p.tables e below (T32.setTop (mkF m 134 #[.val (.int p0), .val (.int p1), .val (.int p2), .val (.int p3), .val (.int d0), .val (.int d1), .val (.int d2), .val (.int d3), .val (.int d4), .val (.int d5), .val (.int ((p3 &&& (2147483647 : Int32)) % (8 : Int32))), .val (.ref ss2), .unset, .unset, .unset, .unset] [(.int rr0)])) _
            refine XS.ifNo X32.here hx rfl (hb hby at_134) rfl ((if0 _ _).trans (feq hd34).1) ?_
            show Steps p.tables e below (T32.setTop (mkF m 137 #[.val (.int p0), .val (.int p1), .val (.int p2), .val (.int p3), .val (.int d0), .val (.int d1), .val (.int d2), .val (.int d3), .val (.int d4), .val (.int d5), .val (.int ((p3 &&& (2147483647 : Int32)) % (8 : Int32))), .val (.ref ss2), .unset, .unset, .unset, .unset] [])) _
            refine XS.aload X32.here hx rfl (hb hby at_137) rfl rfl ?_
            show Steps p.tables e below (T32.setTop (mkF m 139 #[.val (.int p0), .val (.int p1), .val (.int p2), .val (.int p3), .val (.int d0), .val (.int d1), .val (.int d2), .val (.int d3), .val (.int d4), .val (.int d5), .val (.int ((p3 &&& (2147483647 : Int32)) % (8 : Int32))), .val (.ref ss2), .unset, .unset, .unset, .unset] [(.ref ss2)])) _
            refine XS.iconst X32.here hx rfl (hb hby at_139) ?_
            show Steps p.tables e below (T32.setTop (mkF m 140 #[.val (.int p0), .val (.int p1), .val (.int p2), .val (.int p3), .val (.int d0), .val (.int d1), .val (.int d2), .val (.int d3), .val (.int d4), .val (.int d5), .val (.int ((p3 &&& (2147483647 : Int32)) % (8 : Int32))), .val (.ref ss2), .unset, .unset, .unset, .unset] [(.int 1), (.ref ss2)])) _
            exact st35.trans kk
          obtain ⟨_, _, ⟨T37, L37, k37, n37⟩, -, X37, ⟨Lc37, hQ37, l37, y37, z37⟩, st37⟩ := Jvm.LawKit.callS X35 hx (y := (⟨"com/example/deadline/deadline/CallbackSchemeNamedPinLaw", "ci", "(CC)Z"⟩ : MethodName)) hown (mvT hZ (gw hw 115 rfl)) (mvT hZ (gw hw 116 rfl)) (mvT hZ (gw hw 2 rfl)) (mvT hZ (gw hw 117 rfl)) (by decide) (backOf (W := 0) (own_ci l Z a0 hw [] (cs.getD 1 0) (116 : Int32) T14.heap n0 fc28) hZ (gw hw 117 rfl) (gw hw 2 rfl) (by decide) (by decide)) (g := (mkF m 145 #[.val (.int p0), .val (.int p1), .val (.int p2), .val (.int p3), .val (.int d0), .val (.int d1), .val (.int d2), .val (.int d3), .val (.int d4), .val (.int d5), .val (.int ((p3 &&& (2147483647 : Int32)) % (8 : Int32))), .val (.ref ss2), .unset, .unset, .unset, .unset] [(.int 116), (.int (cs.getD 1 0))])) rfl (by rw [hml]; rfl) (argsL := [(.int (cs.getD 1 0)), (.int 116)]) (rest := []) (lenOf pd__CC_Z rfl) rfl (by show 2 * 0 + _ ≤ _; exact Nat.le_of_eq rfl) (hb hby at_145) (fun _ _ => ⟨rfl, e35q, (by decide : 6 + 0 ≤ _), (by decide : 16 + 0 ≤ _)⟩)
          dsimp only [Pt.U, Pt.locs, Pt.cells, Pt.slots] at X37 l37 y37 z37 st37 hQ37
          subst l37 y37 z37
          obtain ⟨rr1, rfl, N37q, e37q, ra1, rb1⟩ := hQ37
          have N37 := Fr.app N35 N37q
          have pre38 : ∀ t, Steps p.tables e below (T37.setTop (mkF m 148 #[.val (.int p0), .val (.int p1), .val (.int p2), .val (.int p3), .val (.int d0), .val (.int d1), .val (.int d2), .val (.int d3), .val (.int d4), .val (.int d5), .val (.int ((p3 &&& (2147483647 : Int32)) % (8 : Int32))), .val (.ref ss2), .unset, .unset, .unset, .unset] [(.int rr1)])) t → Steps p.tables e below (s₁.setTop (entryFrame m #[(.int p0), (.int p1), (.int p2), (.int p3)] maxLocals)) t := by
            intro t kk
            refine pre36 t ?_
            show Steps p.tables e below (T35.setTop (mkF m 143 #[.val (.int p0), .val (.int p1), .val (.int p2), .val (.int p3), .val (.int d0), .val (.int d1), .val (.int d2), .val (.int d3), .val (.int d4), .val (.int d5), .val (.int ((p3 &&& (2147483647 : Int32)) % (8 : Int32))), .val (.ref ss2), .unset, .unset, .unset, .unset] [(.int (cs.getD 1 0))])) _
            refine XS.bipush X35.here hx rfl (hb hby at_143) ?_
            show Steps p.tables e below (T35.setTop (mkF m 145 #[.val (.int p0), .val (.int p1), .val (.int p2), .val (.int p3), .val (.int d0), .val (.int d1), .val (.int d2), .val (.int d3), .val (.int d4), .val (.int d5), .val (.int ((p3 &&& (2147483647 : Int32)) % (8 : Int32))), .val (.ref ss2), .unset, .unset, .unset, .unset] [(.int 116), (.int (cs.getD 1 0))])) _
            exact st37 _ kk
          have mc1 := own_Mc (a := (116 : Int32)) (by decide) (own_gl lt2 (i := 1) (by omega))
          rw [← mc1] at ra1 rb1
          by_cases mm1 : own_M (116 : Int32) (cs.getD 1 0)
          case pos =>
            have hd39 : ¬ (rr1 = (0 : Int32)) := by rw [ra1 mm1]; decide
            obtain ⟨cq40, kq40, q40a, q40b, q40c⟩ := isOf hZ e37q xE2
            obtain ⟨_, _, ⟨T40, L40, k40, n40⟩, -, X40, ⟨Lc40, hQ40, l40, y40, z40⟩, st40⟩ := X37.virtualBack hx (y := (⟨"java/lang/String", "charAt", "(I)C"⟩ : MethodName)) (z := (⟨"java/lang/String", "charAt", "(I)C"⟩ : MethodName)) hown (mvT hZ (gw hw 94 rfl)) (mvT hZ (gw hw 95 rfl)) (notFace_of_selects (args := #[]) (mvT hZ (gw hw 97 rfl))) (mvT hZ (gw hw 97 rfl)) (mvT hZ (gw hw 96 rfl)) (by decide) (StrChars.Road.chN (W := 0) hZ hch (kI := 4) (gw hw 18 rfl) xE2 xF2 xC2 xV2 (own_cod lt2) (own_up lt2) (O2.ext fc26.2) P5 (O4.ext fc26.2) rG3 (by omega) (i := 2) (by omega) (j := (2 : Int32)) rfl (by decide) (by decide)) q40a q40c (g := (mkF m 154 #[.val (.int p0), .val (.int p1), .val (.int p2), .val (.int p3), .val (.int d0), .val (.int d1), .val (.int d2), .val (.int d3), .val (.int d4), .val (.int d5), .val (.int ((p3 &&& (2147483647 : Int32)) % (8 : Int32))), .val (.ref ss2), .unset, .unset, .unset, .unset] [(.int 2), (.ref ss2)])) rfl (by rw [hml]; rfl) (Steps.refl _) (argsL := [(.int 2)]) (rest := []) (lenOf pd__I_C rfl) rfl (by show 2 * 0 + _ ≤ _; exact Nat.le_of_eq rfl) (hb hby at_154) (fun _ _ => ⟨rfl, e37q, (by decide : 6 + 0 ≤ _), (by decide : 16 + 0 ≤ _)⟩)
            dsimp only [Pt.U, Pt.locs, Pt.cells, Pt.slots] at X40 l40 y40 z40 st40 hQ40
            subst l40 y40 z40
            obtain ⟨rfl, rfl, e40q⟩ := hQ40
            have N40q : Fr n0 ([] : List Loc) := Fr.nil n0
            have N40 := Fr.app N37 N40q
            have pre41 : ∀ t, Steps p.tables e below (T40.setTop (mkF m 157 #[.val (.int p0), .val (.int p1), .val (.int p2), .val (.int p3), .val (.int d0), .val (.int d1), .val (.int d2), .val (.int d3), .val (.int d4), .val (.int d5), .val (.int ((p3 &&& (2147483647 : Int32)) % (8 : Int32))), .val (.ref ss2), .unset, .unset, .unset, .unset] [(.int (cs.getD 2 0))])) t → Steps p.tables e below (s₁.setTop (entryFrame m #[(.int p0), (.int p1), (.int p2), (.int p3)] maxLocals)) t := by
              intro t kk
              refine pre38 t ?_
              show Steps p.tables e below (T37.setTop (mkF m 148 #[.val (.int p0), .val (.int p1), .val (.int p2), .val (.int p3), .val (.int d0), .val (.int d1), .val (.int d2), .val (.int d3), .val (.int d4), .val (.int d5), .val (.int ((p3 &&& (2147483647 : Int32)) % (8 : Int32))), .val (.ref ss2), .unset, .unset, .unset, .unset] [(.int rr1)])) _
              refine XS.ifNo X37.here hx rfl (hb hby at_148) rfl ((if0 _ _).trans (feq hd39).1) ?_
              show Steps p.tables e below (T37.setTop (mkF m 151 #[.val (.int p0), .val (.int p1), .val (.int p2), .val (.int p3), .val (.int d0), .val (.int d1), .val (.int d2), .val (.int d3), .val (.int d4), .val (.int d5), .val (.int ((p3 &&& (2147483647 : Int32)) % (8 : Int32))), .val (.ref ss2), .unset, .unset, .unset, .unset] [])) _
              refine XS.aload X37.here hx rfl (hb hby at_151) rfl rfl ?_
              show Steps p.tables e below (T37.setTop (mkF m 153 #[.val (.int p0), .val (.int p1), .val (.int p2), .val (.int p3), .val (.int d0), .val (.int d1), .val (.int d2), .val (.int d3), .val (.int d4), .val (.int d5), .val (.int ((p3 &&& (2147483647 : Int32)) % (8 : Int32))), .val (.ref ss2), .unset, .unset, .unset, .unset] [(.ref ss2)])) _
              refine XS.iconst X37.here hx rfl (hb hby at_153) ?_
              show Steps p.tables e below (T37.setTop (mkF m 154 #[.val (.int p0), .val (.int p1), .val (.int p2), .val (.int p3), .val (.int d0), .val (.int d1), .val (.int d2), .val (.int d3), .val (.int d4), .val (.int d5), .val (.int ((p3 &&& (2147483647 : Int32)) % (8 : Int32))), .val (.ref ss2), .unset, .unset, .unset, .unset] [(.int 2), (.ref ss2)])) _
              exact st40.trans kk
            obtain ⟨_, _, ⟨T42, L42, k42, n42⟩, -, X42, ⟨Lc42, hQ42, l42, y42, z42⟩, st42⟩ := Jvm.LawKit.callS X40 hx (y := (⟨"com/example/deadline/deadline/CallbackSchemeNamedPinLaw", "ci", "(CC)Z"⟩ : MethodName)) hown (mvT hZ (gw hw 115 rfl)) (mvT hZ (gw hw 116 rfl)) (mvT hZ (gw hw 2 rfl)) (mvT hZ (gw hw 117 rfl)) (by decide) (backOf (W := 0) (own_ci l Z a0 hw [] (cs.getD 2 0) (116 : Int32) T14.heap n0 fc28) hZ (gw hw 117 rfl) (gw hw 2 rfl) (by decide) (by decide)) (g := (mkF m 159 #[.val (.int p0), .val (.int p1), .val (.int p2), .val (.int p3), .val (.int d0), .val (.int d1), .val (.int d2), .val (.int d3), .val (.int d4), .val (.int d5), .val (.int ((p3 &&& (2147483647 : Int32)) % (8 : Int32))), .val (.ref ss2), .unset, .unset, .unset, .unset] [(.int 116), (.int (cs.getD 2 0))])) rfl (by rw [hml]; rfl) (argsL := [(.int (cs.getD 2 0)), (.int 116)]) (rest := []) (lenOf pd__CC_Z rfl) rfl (by show 2 * 0 + _ ≤ _; exact Nat.le_of_eq rfl) (hb hby at_159) (fun _ _ => ⟨rfl, e40q, (by decide : 6 + 0 ≤ _), (by decide : 16 + 0 ≤ _)⟩)
            dsimp only [Pt.U, Pt.locs, Pt.cells, Pt.slots] at X42 l42 y42 z42 st42 hQ42
            subst l42 y42 z42
            obtain ⟨rr2, rfl, N42q, e42q, ra2, rb2⟩ := hQ42
            have N42 := Fr.app N40 N42q
            have pre43 : ∀ t, Steps p.tables e below (T42.setTop (mkF m 162 #[.val (.int p0), .val (.int p1), .val (.int p2), .val (.int p3), .val (.int d0), .val (.int d1), .val (.int d2), .val (.int d3), .val (.int d4), .val (.int d5), .val (.int ((p3 &&& (2147483647 : Int32)) % (8 : Int32))), .val (.ref ss2), .unset, .unset, .unset, .unset] [(.int rr2)])) t → Steps p.tables e below (s₁.setTop (entryFrame m #[(.int p0), (.int p1), (.int p2), (.int p3)] maxLocals)) t := by
              intro t kk
              refine pre41 t ?_
              show Steps p.tables e below (T40.setTop (mkF m 157 #[.val (.int p0), .val (.int p1), .val (.int p2), .val (.int p3), .val (.int d0), .val (.int d1), .val (.int d2), .val (.int d3), .val (.int d4), .val (.int d5), .val (.int ((p3 &&& (2147483647 : Int32)) % (8 : Int32))), .val (.ref ss2), .unset, .unset, .unset, .unset] [(.int (cs.getD 2 0))])) _
              refine XS.bipush X40.here hx rfl (hb hby at_157) ?_
              show Steps p.tables e below (T40.setTop (mkF m 159 #[.val (.int p0), .val (.int p1), .val (.int p2), .val (.int p3), .val (.int d0), .val (.int d1), .val (.int d2), .val (.int d3), .val (.int d4), .val (.int d5), .val (.int ((p3 &&& (2147483647 : Int32)) % (8 : Int32))), .val (.ref ss2), .unset, .unset, .unset, .unset] [(.int 116), (.int (cs.getD 2 0))])) _
              exact st42 _ kk
            have mc2 := own_Mc (a := (116 : Int32)) (by decide) (own_gl lt2 (i := 2) (by omega))
            rw [← mc2] at ra2 rb2
            by_cases mm2 : own_M (116 : Int32) (cs.getD 2 0)
            case pos =>
              have hd44 : ¬ (rr2 = (0 : Int32)) := by rw [ra2 mm2]; decide
              obtain ⟨cq45, kq45, q45a, q45b, q45c⟩ := isOf hZ e42q xE2
              obtain ⟨_, _, ⟨T45, L45, k45, n45⟩, -, X45, ⟨Lc45, hQ45, l45, y45, z45⟩, st45⟩ := X42.virtualBack hx (y := (⟨"java/lang/String", "charAt", "(I)C"⟩ : MethodName)) (z := (⟨"java/lang/String", "charAt", "(I)C"⟩ : MethodName)) hown (mvT hZ (gw hw 94 rfl)) (mvT hZ (gw hw 95 rfl)) (notFace_of_selects (args := #[]) (mvT hZ (gw hw 97 rfl))) (mvT hZ (gw hw 97 rfl)) (mvT hZ (gw hw 96 rfl)) (by decide) (StrChars.Road.chN (W := 0) hZ hch (kI := 4) (gw hw 18 rfl) xE2 xF2 xC2 xV2 (own_cod lt2) (own_up lt2) (O2.ext fc26.2) P5 (O4.ext fc26.2) rG3 (by omega) (i := 3) (by omega) (j := (3 : Int32)) rfl (by decide) (by decide)) q45a q45c (g := (mkF m 168 #[.val (.int p0), .val (.int p1), .val (.int p2), .val (.int p3), .val (.int d0), .val (.int d1), .val (.int d2), .val (.int d3), .val (.int d4), .val (.int d5), .val (.int ((p3 &&& (2147483647 : Int32)) % (8 : Int32))), .val (.ref ss2), .unset, .unset, .unset, .unset] [(.int 3), (.ref ss2)])) rfl (by rw [hml]; rfl) (Steps.refl _) (argsL := [(.int 3)]) (rest := []) (lenOf pd__I_C rfl) rfl (by show 2 * 0 + _ ≤ _; exact Nat.le_of_eq rfl) (hb hby at_168) (fun _ _ => ⟨rfl, e42q, (by decide : 6 + 0 ≤ _), (by decide : 16 + 0 ≤ _)⟩)
              dsimp only [Pt.U, Pt.locs, Pt.cells, Pt.slots] at X45 l45 y45 z45 st45 hQ45
              subst l45 y45 z45
              obtain ⟨rfl, rfl, e45q⟩ := hQ45
              have N45q : Fr n0 ([] : List Loc) := Fr.nil n0
              have N45 := Fr.app N42 N45q
              have pre46 : ∀ t, Steps p.tables e below (T45.setTop (mkF m 171 #[.val (.int p0), .val (.int p1), .val (.int p2), .val (.int p3), .val (.int d0), .val (.int d1), .val (.int d2), .val (.int d3), .val (.int d4), .val (.int d5), .val (.int ((p3 &&& (2147483647 : Int32)) % (8 : Int32))), .val (.ref ss2), .unset, .unset, .unset, .unset] [(.int (cs.getD 3 0))])) t → Steps p.tables e below (s₁.setTop (entryFrame m #[(.int p0), (.int p1), (.int p2), (.int p3)] maxLocals)) t := by
                intro t kk
                refine pre43 t ?_
                show Steps p.tables e below (T42.setTop (mkF m 162 #[.val (.int p0), .val (.int p1), .val (.int p2), .val (.int p3), .val (.int d0), .val (.int d1), .val (.int d2), .val (.int d3), .val (.int d4), .val (.int d5), .val (.int ((p3 &&& (2147483647 : Int32)) % (8 : Int32))), .val (.ref ss2), .unset, .unset, .unset, .unset] [(.int rr2)])) _
                refine XS.ifNo X42.here hx rfl (hb hby at_162) rfl ((if0 _ _).trans (feq hd44).1) ?_
                show Steps p.tables e below (T42.setTop (mkF m 165 #[.val (.int p0), .val (.int p1), .val (.int p2), .val (.int p3), .val (.int d0), .val (.int d1), .val (.int d2), .val (.int d3), .val (.int d4), .val (.int d5), .val (.int ((p3 &&& (2147483647 : Int32)) % (8 : Int32))), .val (.ref ss2), .unset, .unset, .unset, .unset] [])) _
                refine XS.aload X42.here hx rfl (hb hby at_165) rfl rfl ?_
                show Steps p.tables e below (T42.setTop (mkF m 167 #[.val (.int p0), .val (.int p1), .val (.int p2), .val (.int p3), .val (.int d0), .val (.int d1), .val (.int d2), .val (.int d3), .val (.int d4), .val (.int d5), .val (.int ((p3 &&& (2147483647 : Int32)) % (8 : Int32))), .val (.ref ss2), .unset, .unset, .unset, .unset] [(.ref ss2)])) _
                refine XS.iconst X42.here hx rfl (hb hby at_167) ?_
                show Steps p.tables e below (T42.setTop (mkF m 168 #[.val (.int p0), .val (.int p1), .val (.int p2), .val (.int p3), .val (.int d0), .val (.int d1), .val (.int d2), .val (.int d3), .val (.int d4), .val (.int d5), .val (.int ((p3 &&& (2147483647 : Int32)) % (8 : Int32))), .val (.ref ss2), .unset, .unset, .unset, .unset] [(.int 3), (.ref ss2)])) _
                exact st45.trans kk
              obtain ⟨_, _, ⟨T47, L47, k47, n47⟩, -, X47, ⟨Lc47, hQ47, l47, y47, z47⟩, st47⟩ := Jvm.LawKit.callS X45 hx (y := (⟨"com/example/deadline/deadline/CallbackSchemeNamedPinLaw", "ci", "(CC)Z"⟩ : MethodName)) hown (mvT hZ (gw hw 115 rfl)) (mvT hZ (gw hw 116 rfl)) (mvT hZ (gw hw 2 rfl)) (mvT hZ (gw hw 117 rfl)) (by decide) (backOf (W := 0) (own_ci l Z a0 hw [] (cs.getD 3 0) (112 : Int32) T14.heap n0 fc28) hZ (gw hw 117 rfl) (gw hw 2 rfl) (by decide) (by decide)) (g := (mkF m 173 #[.val (.int p0), .val (.int p1), .val (.int p2), .val (.int p3), .val (.int d0), .val (.int d1), .val (.int d2), .val (.int d3), .val (.int d4), .val (.int d5), .val (.int ((p3 &&& (2147483647 : Int32)) % (8 : Int32))), .val (.ref ss2), .unset, .unset, .unset, .unset] [(.int 112), (.int (cs.getD 3 0))])) rfl (by rw [hml]; rfl) (argsL := [(.int (cs.getD 3 0)), (.int 112)]) (rest := []) (lenOf pd__CC_Z rfl) rfl (by show 2 * 0 + _ ≤ _; exact Nat.le_of_eq rfl) (hb hby at_173) (fun _ _ => ⟨rfl, e45q, (by decide : 6 + 0 ≤ _), (by decide : 16 + 0 ≤ _)⟩)
              dsimp only [Pt.U, Pt.locs, Pt.cells, Pt.slots] at X47 l47 y47 z47 st47 hQ47
              subst l47 y47 z47
              obtain ⟨rr3, rfl, N47q, e47q, ra3, rb3⟩ := hQ47
              have N47 := Fr.app N45 N47q
              have pre48 : ∀ t, Steps p.tables e below (T47.setTop (mkF m 176 #[.val (.int p0), .val (.int p1), .val (.int p2), .val (.int p3), .val (.int d0), .val (.int d1), .val (.int d2), .val (.int d3), .val (.int d4), .val (.int d5), .val (.int ((p3 &&& (2147483647 : Int32)) % (8 : Int32))), .val (.ref ss2), .unset, .unset, .unset, .unset] [(.int rr3)])) t → Steps p.tables e below (s₁.setTop (entryFrame m #[(.int p0), (.int p1), (.int p2), (.int p3)] maxLocals)) t := by
                intro t kk
                refine pre46 t ?_
                show Steps p.tables e below (T45.setTop (mkF m 171 #[.val (.int p0), .val (.int p1), .val (.int p2), .val (.int p3), .val (.int d0), .val (.int d1), .val (.int d2), .val (.int d3), .val (.int d4), .val (.int d5), .val (.int ((p3 &&& (2147483647 : Int32)) % (8 : Int32))), .val (.ref ss2), .unset, .unset, .unset, .unset] [(.int (cs.getD 3 0))])) _
                refine XS.bipush X45.here hx rfl (hb hby at_171) ?_
                show Steps p.tables e below (T45.setTop (mkF m 173 #[.val (.int p0), .val (.int p1), .val (.int p2), .val (.int p3), .val (.int d0), .val (.int d1), .val (.int d2), .val (.int d3), .val (.int d4), .val (.int d5), .val (.int ((p3 &&& (2147483647 : Int32)) % (8 : Int32))), .val (.ref ss2), .unset, .unset, .unset, .unset] [(.int 112), (.int (cs.getD 3 0))])) _
                exact st47 _ kk
              have mc3 := own_Mc (a := (112 : Int32)) (by decide) (own_gl lt2 (i := 3) (by omega))
              rw [← mc3] at ra3 rb3
              by_cases mm3 : own_M (112 : Int32) (cs.getD 3 0)
              case pos =>
                have hd49 : ¬ (rr3 = (0 : Int32)) := by rw [ra3 mm3]; decide
                have pre50 : ∀ t, Steps p.tables e below (T47.setTop (mkF m 184 #[.val (.int p0), .val (.int p1), .val (.int p2), .val (.int p3), .val (.int d0), .val (.int d1), .val (.int d2), .val (.int d3), .val (.int d4), .val (.int d5), .val (.int ((p3 &&& (2147483647 : Int32)) % (8 : Int32))), .val (.ref ss2), .unset, .unset, .unset, .unset] [(.int 1)])) t → Steps p.tables e below (s₁.setTop (entryFrame m #[(.int p0), (.int p1), (.int p2), (.int p3)] maxLocals)) t := by
                  intro t kk
                  refine pre48 t ?_
                  show Steps p.tables e below (T47.setTop (mkF m 176 #[.val (.int p0), .val (.int p1), .val (.int p2), .val (.int p3), .val (.int d0), .val (.int d1), .val (.int d2), .val (.int d3), .val (.int d4), .val (.int d5), .val (.int ((p3 &&& (2147483647 : Int32)) % (8 : Int32))), .val (.ref ss2), .unset, .unset, .unset, .unset] [(.int rr3)])) _
                  refine XS.ifNo X47.here hx rfl (hb hby at_176) rfl ((if0 _ _).trans (feq hd49).1) ?_
                  show Steps p.tables e below (T47.setTop (mkF m 179 #[.val (.int p0), .val (.int p1), .val (.int p2), .val (.int p3), .val (.int d0), .val (.int d1), .val (.int d2), .val (.int d3), .val (.int d4), .val (.int d5), .val (.int ((p3 &&& (2147483647 : Int32)) % (8 : Int32))), .val (.ref ss2), .unset, .unset, .unset, .unset] [])) _
                  refine XS.iconst X47.here hx rfl (hb hby at_179) ?_
                  show Steps p.tables e below (T47.setTop (mkF m 180 #[.val (.int p0), .val (.int p1), .val (.int p2), .val (.int p3), .val (.int d0), .val (.int d1), .val (.int d2), .val (.int d3), .val (.int d4), .val (.int d5), .val (.int ((p3 &&& (2147483647 : Int32)) % (8 : Int32))), .val (.ref ss2), .unset, .unset, .unset, .unset] [(.int 1)])) _
                  refine XS.goto X47.here hx rfl (pc0 := 180) (pc' := 184) rfl (hb hby at_180) (by decide) (by decide) ?_
                  exact kk
                exact ⟨_, _, (1 : Int32), X47, e47q, N47, ⟨fun _ => rfl, fun q => absurd (⟨hl2, fun i hi => by
                  match i, hi with
                  | 0, _ => exact mm0
                  | 1, _ => exact mm1
                  | 2, _ => exact mm2
                  | 3, _ => exact mm3⟩ : own_E4 ([104, 116, 116, 112] : List Int32) cs) q⟩, pre50⟩
              case neg =>
                have hd51 : rr3 = (0 : Int32) := rb3 mm3
                have pre52 : ∀ t, Steps p.tables e below (T47.setTop (mkF m 184 #[.val (.int p0), .val (.int p1), .val (.int p2), .val (.int p3), .val (.int d0), .val (.int d1), .val (.int d2), .val (.int d3), .val (.int d4), .val (.int d5), .val (.int ((p3 &&& (2147483647 : Int32)) % (8 : Int32))), .val (.ref ss2), .unset, .unset, .unset, .unset] [(.int 0)])) t → Steps p.tables e below (s₁.setTop (entryFrame m #[(.int p0), (.int p1), (.int p2), (.int p3)] maxLocals)) t := by
                  intro t kk
                  refine pre48 t ?_
                  show Steps p.tables e below (T47.setTop (mkF m 176 #[.val (.int p0), .val (.int p1), .val (.int p2), .val (.int p3), .val (.int d0), .val (.int d1), .val (.int d2), .val (.int d3), .val (.int d4), .val (.int d5), .val (.int ((p3 &&& (2147483647 : Int32)) % (8 : Int32))), .val (.ref ss2), .unset, .unset, .unset, .unset] [(.int rr3)])) _
                  refine XS.ifYes X47.here hx rfl (pc0 := 176) (pc' := 183) rfl (hb hby at_176) rfl ((if0 _ _).trans (teq hd51).1) (by decide) (by decide) ?_
                  show Steps p.tables e below (T47.setTop (mkF m 183 #[.val (.int p0), .val (.int p1), .val (.int p2), .val (.int p3), .val (.int d0), .val (.int d1), .val (.int d2), .val (.int d3), .val (.int d4), .val (.int d5), .val (.int ((p3 &&& (2147483647 : Int32)) % (8 : Int32))), .val (.ref ss2), .unset, .unset, .unset, .unset] [])) _
                  refine XS.iconst X47.here hx rfl (hb hby at_183) ?_
                  exact kk
                exact ⟨_, _, (0 : Int32), X47, e47q, N47, ⟨fun q => absurd (q.2 3 (by decide)) mm3, fun _ => rfl⟩, pre52⟩
            case neg =>
              have hd53 : rr2 = (0 : Int32) := rb2 mm2
              have pre54 : ∀ t, Steps p.tables e below (T42.setTop (mkF m 184 #[.val (.int p0), .val (.int p1), .val (.int p2), .val (.int p3), .val (.int d0), .val (.int d1), .val (.int d2), .val (.int d3), .val (.int d4), .val (.int d5), .val (.int ((p3 &&& (2147483647 : Int32)) % (8 : Int32))), .val (.ref ss2), .unset, .unset, .unset, .unset] [(.int 0)])) t → Steps p.tables e below (s₁.setTop (entryFrame m #[(.int p0), (.int p1), (.int p2), (.int p3)] maxLocals)) t := by
                intro t kk
                refine pre43 t ?_
                show Steps p.tables e below (T42.setTop (mkF m 162 #[.val (.int p0), .val (.int p1), .val (.int p2), .val (.int p3), .val (.int d0), .val (.int d1), .val (.int d2), .val (.int d3), .val (.int d4), .val (.int d5), .val (.int ((p3 &&& (2147483647 : Int32)) % (8 : Int32))), .val (.ref ss2), .unset, .unset, .unset, .unset] [(.int rr2)])) _
                refine XS.ifYes X42.here hx rfl (pc0 := 162) (pc' := 183) rfl (hb hby at_162) rfl ((if0 _ _).trans (teq hd53).1) (by decide) (by decide) ?_
                show Steps p.tables e below (T42.setTop (mkF m 183 #[.val (.int p0), .val (.int p1), .val (.int p2), .val (.int p3), .val (.int d0), .val (.int d1), .val (.int d2), .val (.int d3), .val (.int d4), .val (.int d5), .val (.int ((p3 &&& (2147483647 : Int32)) % (8 : Int32))), .val (.ref ss2), .unset, .unset, .unset, .unset] [])) _
                refine XS.iconst X42.here hx rfl (hb hby at_183) ?_
                exact kk
              exact ⟨_, _, (0 : Int32), X42, e42q, N42, ⟨fun q => absurd (q.2 2 (by decide)) mm2, fun _ => rfl⟩, pre54⟩
          case neg =>
            have hd55 : rr1 = (0 : Int32) := rb1 mm1
            have pre56 : ∀ t, Steps p.tables e below (T37.setTop (mkF m 184 #[.val (.int p0), .val (.int p1), .val (.int p2), .val (.int p3), .val (.int d0), .val (.int d1), .val (.int d2), .val (.int d3), .val (.int d4), .val (.int d5), .val (.int ((p3 &&& (2147483647 : Int32)) % (8 : Int32))), .val (.ref ss2), .unset, .unset, .unset, .unset] [(.int 0)])) t → Steps p.tables e below (s₁.setTop (entryFrame m #[(.int p0), (.int p1), (.int p2), (.int p3)] maxLocals)) t := by
              intro t kk
              refine pre38 t ?_
              show Steps p.tables e below (T37.setTop (mkF m 148 #[.val (.int p0), .val (.int p1), .val (.int p2), .val (.int p3), .val (.int d0), .val (.int d1), .val (.int d2), .val (.int d3), .val (.int d4), .val (.int d5), .val (.int ((p3 &&& (2147483647 : Int32)) % (8 : Int32))), .val (.ref ss2), .unset, .unset, .unset, .unset] [(.int rr1)])) _
              refine XS.ifYes X37.here hx rfl (pc0 := 148) (pc' := 183) rfl (hb hby at_148) rfl ((if0 _ _).trans (teq hd55).1) (by decide) (by decide) ?_
              show Steps p.tables e below (T37.setTop (mkF m 183 #[.val (.int p0), .val (.int p1), .val (.int p2), .val (.int p3), .val (.int d0), .val (.int d1), .val (.int d2), .val (.int d3), .val (.int d4), .val (.int d5), .val (.int ((p3 &&& (2147483647 : Int32)) % (8 : Int32))), .val (.ref ss2), .unset, .unset, .unset, .unset] [])) _
              refine XS.iconst X37.here hx rfl (hb hby at_183) ?_
              exact kk
            exact ⟨_, _, (0 : Int32), X37, e37q, N37, ⟨fun q => absurd (q.2 1 (by decide)) mm1, fun _ => rfl⟩, pre56⟩
        case neg =>
          have hd57 : rr0 = (0 : Int32) := rb0 mm0
          have pre58 : ∀ t, Steps p.tables e below (T32.setTop (mkF m 184 #[.val (.int p0), .val (.int p1), .val (.int p2), .val (.int p3), .val (.int d0), .val (.int d1), .val (.int d2), .val (.int d3), .val (.int d4), .val (.int d5), .val (.int ((p3 &&& (2147483647 : Int32)) % (8 : Int32))), .val (.ref ss2), .unset, .unset, .unset, .unset] [(.int 0)])) t → Steps p.tables e below (s₁.setTop (entryFrame m #[(.int p0), (.int p1), (.int p2), (.int p3)] maxLocals)) t := by
            intro t kk
            refine pre33 t ?_
            show Steps p.tables e below (T32.setTop (mkF m 134 #[.val (.int p0), .val (.int p1), .val (.int p2), .val (.int p3), .val (.int d0), .val (.int d1), .val (.int d2), .val (.int d3), .val (.int d4), .val (.int d5), .val (.int ((p3 &&& (2147483647 : Int32)) % (8 : Int32))), .val (.ref ss2), .unset, .unset, .unset, .unset] [(.int rr0)])) _
            refine XS.ifYes X32.here hx rfl (pc0 := 134) (pc' := 183) rfl (hb hby at_134) rfl ((if0 _ _).trans (teq hd57).1) (by decide) (by decide) ?_
            show Steps p.tables e below (T32.setTop (mkF m 183 #[.val (.int p0), .val (.int p1), .val (.int p2), .val (.int p3), .val (.int d0), .val (.int d1), .val (.int d2), .val (.int d3), .val (.int d4), .val (.int d5), .val (.int ((p3 &&& (2147483647 : Int32)) % (8 : Int32))), .val (.ref ss2), .unset, .unset, .unset, .unset] [])) _
            refine XS.iconst X32.here hx rfl (hb hby at_183) ?_
            exact kk
          exact ⟨_, _, (0 : Int32), X32, e32q, N32, ⟨fun q => absurd (q.2 0 (by decide)) mm0, fun _ => rfl⟩, pre58⟩
      case neg =>
        have hl' : cs.length = 4 ↔ (Int32.ofNat cs.length) = (4 : Int32) := by
          have o := (own_on (n := cs.length) (by omega)).1
          have k : (4 : Int32).toInt = 4 := by decide
          constructor
          · intro q; rw [q]; rfl
          · intro q; rw [q] at o; omega
        have pre59 : ∀ t, Steps p.tables e below (T27.setTop (mkF m 184 #[.val (.int p0), .val (.int p1), .val (.int p2), .val (.int p3), .val (.int d0), .val (.int d1), .val (.int d2), .val (.int d3), .val (.int d4), .val (.int d5), .val (.int ((p3 &&& (2147483647 : Int32)) % (8 : Int32))), .val (.ref ss2), .unset, .unset, .unset, .unset] [(.int 0)])) t → Steps p.tables e below (s₁.setTop (entryFrame m #[(.int p0), (.int p1), (.int p2), (.int p3)] maxLocals)) t := by
          intro t kk
          refine pre29 t ?_
          show Steps p.tables e below (T27.setTop (mkF m 119 #[.val (.int p0), .val (.int p1), .val (.int p2), .val (.int p3), .val (.int d0), .val (.int d1), .val (.int d2), .val (.int d3), .val (.int d4), .val (.int d5), .val (.int ((p3 &&& (2147483647 : Int32)) % (8 : Int32))), .val (.ref ss2), .unset, .unset, .unset, .unset] [(.int (Int32.ofNat cs.length))])) _
          refine XS.iconst X27.here hx rfl (hb hby at_119) ?_
          show Steps p.tables e below (T27.setTop (mkF m 120 #[.val (.int p0), .val (.int p1), .val (.int p2), .val (.int p3), .val (.int d0), .val (.int d1), .val (.int d2), .val (.int d3), .val (.int d4), .val (.int d5), .val (.int ((p3 &&& (2147483647 : Int32)) % (8 : Int32))), .val (.ref ss2), .unset, .unset, .unset, .unset] [(.int 4), (.int (Int32.ofNat cs.length))])) _
          refine XS.icmpYes X27.here hx rfl (pc0 := 120) (pc' := 183) rfl (hb hby at_120) rfl (feq hlen).2 (by decide) (by decide) ?_
          show Steps p.tables e below (T27.setTop (mkF m 183 #[.val (.int p0), .val (.int p1), .val (.int p2), .val (.int p3), .val (.int d0), .val (.int d1), .val (.int d2), .val (.int d3), .val (.int d4), .val (.int d5), .val (.int ((p3 &&& (2147483647 : Int32)) % (8 : Int32))), .val (.ref ss2), .unset, .unset, .unset, .unset] [])) _
          refine XS.iconst X27.here hx rfl (hb hby at_183) ?_
          exact kk
        exact ⟨_, _, (0 : Int32), X27, e27q, N27, ⟨fun q => absurd (hl'.mp q.1) hlen, fun _ => rfl⟩, pre59⟩
    have pre460 : ∀ t, Steps p.tables e below (T25.setTop (mkF m 186 #[.val (.int p0), .val (.int p1), .val (.int p2), .val (.int p3), .val (.int d0), .val (.int d1), .val (.int d2), .val (.int d3), .val (.int d4), .val (.int d5), .val (.int ((p3 &&& (2147483647 : Int32)) % (8 : Int32))), .val (.ref ss2), .val (.int is1), .unset, .unset, .unset] [])) t → Steps p.tables e below (s₁.setTop (entryFrame m #[(.int p0), (.int p1), (.int p2), (.int p3)] maxLocals)) t := by
      intro t kk
      refine pre25 t ?_
      show Steps p.tables e below (T25.setTop (mkF m 184 #[.val (.int p0), .val (.int p1), .val (.int p2), .val (.int p3), .val (.int d0), .val (.int d1), .val (.int d2), .val (.int d3), .val (.int d4), .val (.int d5), .val (.int ((p3 &&& (2147483647 : Int32)) % (8 : Int32))), .val (.ref ss2), .unset, .unset, .unset, .unset] [(.int is1)])) _
      refine XS.istore X25.here hx rfl (hb hby at_184) rfl (l' := #[.val (.int p0), .val (.int p1), .val (.int p2), .val (.int p3), .val (.int d0), .val (.int d1), .val (.int d2), .val (.int d3), .val (.int d4), .val (.int d5), .val (.int ((p3 &&& (2147483647 : Int32)) % (8 : Int32))), .val (.ref ss2), .val (.int is1), .unset, .unset, .unset]) rfl ?_
      exact kk
    obtain ⟨T461, Lj461, is2, X461, e461, N461, his2, pre461⟩ : ∃ (T' : State) (lc : List Loc) (is2 : Int32), Stand p l e room_1 (s.setVm T14.vm) m #[(.int p0), (.int p1), (.int p2), (.int p3)] below meth c T' lc 6 16 ∧ T'.heap = T14.heap ∧ Fr n0 lc ∧ (((own_E4 ([104, 116, 116, 112, 115] : List Int32) cs) → is2 = 1) ∧ (¬ (own_E4 ([104, 116, 116, 112, 115] : List Int32) cs) → is2 = 0)) ∧ ∀ t, Steps p.tables e below (T'.setTop (mkF m 275 #[.val (.int p0), .val (.int p1), .val (.int p2), .val (.int p3), .val (.int d0), .val (.int d1), .val (.int d2), .val (.int d3), .val (.int d4), .val (.int d5), .val (.int ((p3 &&& (2147483647 : Int32)) % (8 : Int32))), .val (.ref ss2), .val (.int is1), .unset, .unset, .unset] [(.int is2)])) t → Steps p.tables e below (s₁.setTop (entryFrame m #[(.int p0), (.int p1), (.int p2), (.int p3)] maxLocals)) t := by
      have fc462 := (XO.keep K14 all0)
      have fc464 := (Nat.le_trans Z0 K14.1)
      obtain ⟨cq463, kq463, q463a, q463b, q463c⟩ := isOf hZ e25 xE2
      obtain ⟨_, _, ⟨T463, L463, k463, n463⟩, -, X463, ⟨Lc463, hQ463, l463, y463, z463⟩, st463⟩ := X25.virtualBack hx (y := (⟨"java/lang/String", "length", "()I"⟩ : MethodName)) (z := (⟨"java/lang/String", "length", "()I"⟩ : MethodName)) hown (mvT hZ (gw hw 34 rfl)) (mvT hZ (gw hw 35 rfl)) (notFace_of_selects (args := #[]) (mvT hZ (gw hw 37 rfl))) (mvT hZ (gw hw 37 rfl)) (mvT hZ (gw hw 36 rfl)) (by decide) (backOf (W := 0) (own_slen l Z a0 hw [] ss2 nb2 kk2 (Int32.ofNat cs.length) (own_B cs) G1 T14.heap n0 fc464 xE2 xF2 xC2 xV2 O2 P5 fc462) hZ (gw hw 38 rfl) (gw hw 10 rfl) (by decide) (by decide)) q463a q463c (g := (mkF m 193 #[.val (.int p0), .val (.int p1), .val (.int p2), .val (.int p3), .val (.int d0), .val (.int d1), .val (.int d2), .val (.int d3), .val (.int d4), .val (.int d5), .val (.int ((p3 &&& (2147483647 : Int32)) % (8 : Int32))), .val (.ref ss2), .val (.int is1), .unset, .unset, .unset] [(.ref ss2)])) rfl (by rw [hml]; rfl) (Steps.refl _) (argsL := []) (rest := []) (lenOf pd___I rfl) rfl (by show 2 * 0 + _ ≤ _; exact Nat.le_of_eq rfl) (hb hby at_193) (fun _ _ => ⟨rfl, e25, (by decide : 6 + 0 ≤ _), (by decide : 16 + 0 ≤ _)⟩)
      dsimp only [Pt.U, Pt.locs, Pt.cells, Pt.slots] at X463 l463 y463 z463 st463 hQ463
      subst l463 y463 z463
      obtain ⟨rfl, N463q, e463q⟩ := hQ463
      have N463 := Fr.app N25 N463q
      have pre465 : ∀ t, Steps p.tables e below (T463.setTop (mkF m 196 #[.val (.int p0), .val (.int p1), .val (.int p2), .val (.int p3), .val (.int d0), .val (.int d1), .val (.int d2), .val (.int d3), .val (.int d4), .val (.int d5), .val (.int ((p3 &&& (2147483647 : Int32)) % (8 : Int32))), .val (.ref ss2), .val (.int is1), .unset, .unset, .unset] [(.int (Int32.ofNat cs.length))])) t → Steps p.tables e below (s₁.setTop (entryFrame m #[(.int p0), (.int p1), (.int p2), (.int p3)] maxLocals)) t := by
        intro t kk
        refine pre460 t ?_
        show Steps p.tables e below (T25.setTop (mkF m 186 #[.val (.int p0), .val (.int p1), .val (.int p2), .val (.int p3), .val (.int d0), .val (.int d1), .val (.int d2), .val (.int d3), .val (.int d4), .val (.int d5), .val (.int ((p3 &&& (2147483647 : Int32)) % (8 : Int32))), .val (.ref ss2), .val (.int is1), .unset, .unset, .unset] [])) _
        refine XS.aload X25.here hx rfl (hb hby at_186) rfl rfl ?_
        show Steps p.tables e below (T25.setTop (mkF m 188 #[.val (.int p0), .val (.int p1), .val (.int p2), .val (.int p3), .val (.int d0), .val (.int d1), .val (.int d2), .val (.int d3), .val (.int d4), .val (.int d5), .val (.int ((p3 &&& (2147483647 : Int32)) % (8 : Int32))), .val (.ref ss2), .val (.int is1), .unset, .unset, .unset] [(.ref ss2)])) _
        refine XS.ifnullNo X25.here hx rfl (hb hby at_188) rfl ?_
        show Steps p.tables e below (T25.setTop (mkF m 191 #[.val (.int p0), .val (.int p1), .val (.int p2), .val (.int p3), .val (.int d0), .val (.int d1), .val (.int d2), .val (.int d3), .val (.int d4), .val (.int d5), .val (.int ((p3 &&& (2147483647 : Int32)) % (8 : Int32))), .val (.ref ss2), .val (.int is1), .unset, .unset, .unset] [])) _
        refine XS.aload X25.here hx rfl (hb hby at_191) rfl rfl ?_
        show Steps p.tables e below (T25.setTop (mkF m 193 #[.val (.int p0), .val (.int p1), .val (.int p2), .val (.int p3), .val (.int d0), .val (.int d1), .val (.int d2), .val (.int d3), .val (.int d4), .val (.int d5), .val (.int ((p3 &&& (2147483647 : Int32)) % (8 : Int32))), .val (.ref ss2), .val (.int is1), .unset, .unset, .unset] [(.ref ss2)])) _
        exact st463.trans kk
      by_cases hlen : (Int32.ofNat cs.length) = (5 : Int32)
      case pos =>
        have hl' : cs.length = 5 ↔ (Int32.ofNat cs.length) = (5 : Int32) := by
          have o := (own_on (n := cs.length) (by omega)).1
          have k : (5 : Int32).toInt = 5 := by decide
          constructor
          · intro q; rw [q]; rfl
          · intro q; rw [q] at o; omega
        have hl2 := hl'.mpr hlen
        obtain ⟨cq466, kq466, q466a, q466b, q466c⟩ := isOf hZ e463q xE2
        obtain ⟨_, _, ⟨T466, L466, k466, n466⟩, -, X466, ⟨Lc466, hQ466, l466, y466, z466⟩, st466⟩ := X463.virtualBack hx (y := (⟨"java/lang/String", "charAt", "(I)C"⟩ : MethodName)) (z := (⟨"java/lang/String", "charAt", "(I)C"⟩ : MethodName)) hown (mvT hZ (gw hw 94 rfl)) (mvT hZ (gw hw 95 rfl)) (notFace_of_selects (args := #[]) (mvT hZ (gw hw 97 rfl))) (mvT hZ (gw hw 97 rfl)) (mvT hZ (gw hw 96 rfl)) (by decide) (StrChars.Road.chN (W := 0) hZ hch (kI := 4) (gw hw 18 rfl) xE2 xF2 xC2 xV2 (own_cod lt2) (own_up lt2) (O2.ext fc462.2) P5 (O4.ext fc462.2) rG3 (by omega) (i := 0) (by omega) (j := (0 : Int32)) rfl (by decide) (by decide)) q466a q466c (g := (mkF m 203 #[.val (.int p0), .val (.int p1), .val (.int p2), .val (.int p3), .val (.int d0), .val (.int d1), .val (.int d2), .val (.int d3), .val (.int d4), .val (.int d5), .val (.int ((p3 &&& (2147483647 : Int32)) % (8 : Int32))), .val (.ref ss2), .val (.int is1), .unset, .unset, .unset] [(.int 0), (.ref ss2)])) rfl (by rw [hml]; rfl) (Steps.refl _) (argsL := [(.int 0)]) (rest := []) (lenOf pd__I_C rfl) rfl (by show 2 * 0 + _ ≤ _; exact Nat.le_of_eq rfl) (hb hby at_203) (fun _ _ => ⟨rfl, e463q, (by decide : 6 + 0 ≤ _), (by decide : 16 + 0 ≤ _)⟩)
        dsimp only [Pt.U, Pt.locs, Pt.cells, Pt.slots] at X466 l466 y466 z466 st466 hQ466
        subst l466 y466 z466
        obtain ⟨rfl, rfl, e466q⟩ := hQ466
        have N466q : Fr n0 ([] : List Loc) := Fr.nil n0
        have N466 := Fr.app N463 N466q
        have pre467 : ∀ t, Steps p.tables e below (T466.setTop (mkF m 206 #[.val (.int p0), .val (.int p1), .val (.int p2), .val (.int p3), .val (.int d0), .val (.int d1), .val (.int d2), .val (.int d3), .val (.int d4), .val (.int d5), .val (.int ((p3 &&& (2147483647 : Int32)) % (8 : Int32))), .val (.ref ss2), .val (.int is1), .unset, .unset, .unset] [(.int (cs.getD 0 0))])) t → Steps p.tables e below (s₁.setTop (entryFrame m #[(.int p0), (.int p1), (.int p2), (.int p3)] maxLocals)) t := by
          intro t kk
          refine pre465 t ?_
          show Steps p.tables e below (T463.setTop (mkF m 196 #[.val (.int p0), .val (.int p1), .val (.int p2), .val (.int p3), .val (.int d0), .val (.int d1), .val (.int d2), .val (.int d3), .val (.int d4), .val (.int d5), .val (.int ((p3 &&& (2147483647 : Int32)) % (8 : Int32))), .val (.ref ss2), .val (.int is1), .unset, .unset, .unset] [(.int (Int32.ofNat cs.length))])) _
          refine XS.iconst X463.here hx rfl (hb hby at_196) ?_
          show Steps p.tables e below (T463.setTop (mkF m 197 #[.val (.int p0), .val (.int p1), .val (.int p2), .val (.int p3), .val (.int d0), .val (.int d1), .val (.int d2), .val (.int d3), .val (.int d4), .val (.int d5), .val (.int ((p3 &&& (2147483647 : Int32)) % (8 : Int32))), .val (.ref ss2), .val (.int is1), .unset, .unset, .unset] [(.int 5), (.int (Int32.ofNat cs.length))])) _
          refine XS.icmpNo X463.here hx rfl (hb hby at_197) rfl (teq hlen).2 ?_
          show Steps p.tables e below (T463.setTop (mkF m 200 #[.val (.int p0), .val (.int p1), .val (.int p2), .val (.int p3), .val (.int d0), .val (.int d1), .val (.int d2), .val (.int d3), .val (.int d4), .val (.int d5), .val (.int ((p3 &&& (2147483647 : Int32)) % (8 : Int32))), .val (.ref ss2), .val (.int is1), .unset, .unset, .unset] [])) _
          refine XS.aload X463.here hx rfl (hb hby at_200) rfl rfl ?_
          show Steps p.tables e below (T463.setTop (mkF m 202 #[.val (.int p0), .val (.int p1), .val (.int p2), .val (.int p3), .val (.int d0), .val (.int d1), .val (.int d2), .val (.int d3), .val (.int d4), .val (.int d5), .val (.int ((p3 &&& (2147483647 : Int32)) % (8 : Int32))), .val (.ref ss2), .val (.int is1), .unset, .unset, .unset] [(.ref ss2)])) _
          refine XS.iconst X463.here hx rfl (hb hby at_202) ?_
          show Steps p.tables e below (T463.setTop (mkF m 203 #[.val (.int p0), .val (.int p1), .val (.int p2), .val (.int p3), .val (.int d0), .val (.int d1), .val (.int d2), .val (.int d3), .val (.int d4), .val (.int d5), .val (.int ((p3 &&& (2147483647 : Int32)) % (8 : Int32))), .val (.ref ss2), .val (.int is1), .unset, .unset, .unset] [(.int 0), (.ref ss2)])) _
          exact st466.trans kk
        obtain ⟨_, _, ⟨T468, L468, k468, n468⟩, -, X468, ⟨Lc468, hQ468, l468, y468, z468⟩, st468⟩ := Jvm.LawKit.callS X466 hx (y := (⟨"com/example/deadline/deadline/CallbackSchemeNamedPinLaw", "ci", "(CC)Z"⟩ : MethodName)) hown (mvT hZ (gw hw 115 rfl)) (mvT hZ (gw hw 116 rfl)) (mvT hZ (gw hw 2 rfl)) (mvT hZ (gw hw 117 rfl)) (by decide) (backOf (W := 0) (own_ci l Z a0 hw [] (cs.getD 0 0) (104 : Int32) T14.heap n0 fc464) hZ (gw hw 117 rfl) (gw hw 2 rfl) (by decide) (by decide)) (g := (mkF m 208 #[.val (.int p0), .val (.int p1), .val (.int p2), .val (.int p3), .val (.int d0), .val (.int d1), .val (.int d2), .val (.int d3), .val (.int d4), .val (.int d5), .val (.int ((p3 &&& (2147483647 : Int32)) % (8 : Int32))), .val (.ref ss2), .val (.int is1), .unset, .unset, .unset] [(.int 104), (.int (cs.getD 0 0))])) rfl (by rw [hml]; rfl) (argsL := [(.int (cs.getD 0 0)), (.int 104)]) (rest := []) (lenOf pd__CC_Z rfl) rfl (by show 2 * 0 + _ ≤ _; exact Nat.le_of_eq rfl) (hb hby at_208) (fun _ _ => ⟨rfl, e466q, (by decide : 6 + 0 ≤ _), (by decide : 16 + 0 ≤ _)⟩)
        dsimp only [Pt.U, Pt.locs, Pt.cells, Pt.slots] at X468 l468 y468 z468 st468 hQ468
        subst l468 y468 z468
        obtain ⟨rr0, rfl, N468q, e468q, ra0, rb0⟩ := hQ468
        have N468 := Fr.app N466 N468q
        have pre469 : ∀ t, Steps p.tables e below (T468.setTop (mkF m 211 #[.val (.int p0), .val (.int p1), .val (.int p2), .val (.int p3), .val (.int d0), .val (.int d1), .val (.int d2), .val (.int d3), .val (.int d4), .val (.int d5), .val (.int ((p3 &&& (2147483647 : Int32)) % (8 : Int32))), .val (.ref ss2), .val (.int is1), .unset, .unset, .unset] [(.int rr0)])) t → Steps p.tables e below (s₁.setTop (entryFrame m #[(.int p0), (.int p1), (.int p2), (.int p3)] maxLocals)) t := by
          intro t kk
          refine pre467 t ?_
          show Steps p.tables e below (T466.setTop (mkF m 206 #[.val (.int p0), .val (.int p1), .val (.int p2), .val (.int p3), .val (.int d0), .val (.int d1), .val (.int d2), .val (.int d3), .val (.int d4), .val (.int d5), .val (.int ((p3 &&& (2147483647 : Int32)) % (8 : Int32))), .val (.ref ss2), .val (.int is1), .unset, .unset, .unset] [(.int (cs.getD 0 0))])) _
          refine XS.bipush X466.here hx rfl (hb hby at_206) ?_
          show Steps p.tables e below (T466.setTop (mkF m 208 #[.val (.int p0), .val (.int p1), .val (.int p2), .val (.int p3), .val (.int d0), .val (.int d1), .val (.int d2), .val (.int d3), .val (.int d4), .val (.int d5), .val (.int ((p3 &&& (2147483647 : Int32)) % (8 : Int32))), .val (.ref ss2), .val (.int is1), .unset, .unset, .unset] [(.int 104), (.int (cs.getD 0 0))])) _
          exact st468 _ kk
        have mc0 := own_Mc (a := (104 : Int32)) (by decide) (own_gl lt2 (i := 0) (by omega))
        rw [← mc0] at ra0 rb0
        by_cases mm0 : own_M (104 : Int32) (cs.getD 0 0)
        case pos =>
          have hd470 : ¬ (rr0 = (0 : Int32)) := by rw [ra0 mm0]; decide
          obtain ⟨cq471, kq471, q471a, q471b, q471c⟩ := isOf hZ e468q xE2
          obtain ⟨_, _, ⟨T471, L471, k471, n471⟩, -, X471, ⟨Lc471, hQ471, l471, y471, z471⟩, st471⟩ := X468.virtualBack hx (y := (⟨"java/lang/String", "charAt", "(I)C"⟩ : MethodName)) (z := (⟨"java/lang/String", "charAt", "(I)C"⟩ : MethodName)) hown (mvT hZ (gw hw 94 rfl)) (mvT hZ (gw hw 95 rfl)) (notFace_of_selects (args := #[]) (mvT hZ (gw hw 97 rfl))) (mvT hZ (gw hw 97 rfl)) (mvT hZ (gw hw 96 rfl)) (by decide) (StrChars.Road.chN (W := 0) hZ hch (kI := 4) (gw hw 18 rfl) xE2 xF2 xC2 xV2 (own_cod lt2) (own_up lt2) (O2.ext fc462.2) P5 (O4.ext fc462.2) rG3 (by omega) (i := 1) (by omega) (j := (1 : Int32)) rfl (by decide) (by decide)) q471a q471c (g := (mkF m 217 #[.val (.int p0), .val (.int p1), .val (.int p2), .val (.int p3), .val (.int d0), .val (.int d1), .val (.int d2), .val (.int d3), .val (.int d4), .val (.int d5), .val (.int ((p3 &&& (2147483647 : Int32)) % (8 : Int32))), .val (.ref ss2), .val (.int is1), .unset, .unset, .unset] [(.int 1), (.ref ss2)])) rfl (by rw [hml]; rfl) (Steps.refl _) (argsL := [(.int 1)]) (rest := []) (lenOf pd__I_C rfl) rfl (by show 2 * 0 + _ ≤ _; exact Nat.le_of_eq rfl) (hb hby at_217) (fun _ _ => ⟨rfl, e468q, (by decide : 6 + 0 ≤ _), (by decide : 16 + 0 ≤ _)⟩)
          dsimp only [Pt.U, Pt.locs, Pt.cells, Pt.slots] at X471 l471 y471 z471 st471 hQ471
          subst l471 y471 z471
          obtain ⟨rfl, rfl, e471q⟩ := hQ471
          have N471q : Fr n0 ([] : List Loc) := Fr.nil n0
          have N471 := Fr.app N468 N471q
          have pre472 : ∀ t, Steps p.tables e below (T471.setTop (mkF m 220 #[.val (.int p0), .val (.int p1), .val (.int p2), .val (.int p3), .val (.int d0), .val (.int d1), .val (.int d2), .val (.int d3), .val (.int d4), .val (.int d5), .val (.int ((p3 &&& (2147483647 : Int32)) % (8 : Int32))), .val (.ref ss2), .val (.int is1), .unset, .unset, .unset] [(.int (cs.getD 1 0))])) t → Steps p.tables e below (s₁.setTop (entryFrame m #[(.int p0), (.int p1), (.int p2), (.int p3)] maxLocals)) t := by
            intro t kk
            refine pre469 t ?_
            show Steps p.tables e below (T468.setTop (mkF m 211 #[.val (.int p0), .val (.int p1), .val (.int p2), .val (.int p3), .val (.int d0), .val (.int d1), .val (.int d2), .val (.int d3), .val (.int d4), .val (.int d5), .val (.int ((p3 &&& (2147483647 : Int32)) % (8 : Int32))), .val (.ref ss2), .val (.int is1), .unset, .unset, .unset] [(.int rr0)])) _
            refine XS.ifNo X468.here hx rfl (hb hby at_211) rfl ((if0 _ _).trans (feq hd470).1) ?_
            show Steps p.tables e below (T468.setTop (mkF m 214 #[.val (.int p0), .val (.int p1), .val (.int p2), .val (.int p3), .val (.int d0), .val (.int d1), .val (.int d2), .val (.int d3), .val (.int d4), .val (.int d5), .val (.int ((p3 &&& (2147483647 : Int32)) % (8 : Int32))), .val (.ref ss2), .val (.int is1), .unset, .unset, .unset] [])) _
            refine XS.aload X468.here hx rfl (hb hby at_214) rfl rfl ?_
            show Steps p.tables e below (T468.setTop (mkF m 216 #[.val (.int p0), .val (.int p1), .val (.int p2), .val (.int p3), .val (.int d0), .val (.int d1), .val (.int d2), .val (.int d3), .val (.int d4), .val (.int d5), .val (.int ((p3 &&& (2147483647 : Int32)) % (8 : Int32))), .val (.ref ss2), .val (.int is1), .unset, .unset, .unset] [(.ref ss2)])) _
            refine XS.iconst X468.here hx rfl (hb hby at_216) ?_
            show Steps p.tables e below (T468.setTop (mkF m 217 #[.val (.int p0), .val (.int p1), .val (.int p2), .val (.int p3), .val (.int d0), .val (.int d1), .val (.int d2), .val (.int d3), .val (.int d4), .val (.int d5), .val (.int ((p3 &&& (2147483647 : Int32)) % (8 : Int32))), .val (.ref ss2), .val (.int is1), .unset, .unset, .unset] [(.int 1), (.ref ss2)])) _
            exact st471.trans kk
          obtain ⟨_, _, ⟨T473, L473, k473, n473⟩, -, X473, ⟨Lc473, hQ473, l473, y473, z473⟩, st473⟩ := Jvm.LawKit.callS X471 hx (y := (⟨"com/example/deadline/deadline/CallbackSchemeNamedPinLaw", "ci", "(CC)Z"⟩ : MethodName)) hown (mvT hZ (gw hw 115 rfl)) (mvT hZ (gw hw 116 rfl)) (mvT hZ (gw hw 2 rfl)) (mvT hZ (gw hw 117 rfl)) (by decide) (backOf (W := 0) (own_ci l Z a0 hw [] (cs.getD 1 0) (116 : Int32) T14.heap n0 fc464) hZ (gw hw 117 rfl) (gw hw 2 rfl) (by decide) (by decide)) (g := (mkF m 222 #[.val (.int p0), .val (.int p1), .val (.int p2), .val (.int p3), .val (.int d0), .val (.int d1), .val (.int d2), .val (.int d3), .val (.int d4), .val (.int d5), .val (.int ((p3 &&& (2147483647 : Int32)) % (8 : Int32))), .val (.ref ss2), .val (.int is1), .unset, .unset, .unset] [(.int 116), (.int (cs.getD 1 0))])) rfl (by rw [hml]; rfl) (argsL := [(.int (cs.getD 1 0)), (.int 116)]) (rest := []) (lenOf pd__CC_Z rfl) rfl (by show 2 * 0 + _ ≤ _; exact Nat.le_of_eq rfl) (hb hby at_222) (fun _ _ => ⟨rfl, e471q, (by decide : 6 + 0 ≤ _), (by decide : 16 + 0 ≤ _)⟩)
          dsimp only [Pt.U, Pt.locs, Pt.cells, Pt.slots] at X473 l473 y473 z473 st473 hQ473
          subst l473 y473 z473
          obtain ⟨rr1, rfl, N473q, e473q, ra1, rb1⟩ := hQ473
          have N473 := Fr.app N471 N473q
          have pre474 : ∀ t, Steps p.tables e below (T473.setTop (mkF m 225 #[.val (.int p0), .val (.int p1), .val (.int p2), .val (.int p3), .val (.int d0), .val (.int d1), .val (.int d2), .val (.int d3), .val (.int d4), .val (.int d5), .val (.int ((p3 &&& (2147483647 : Int32)) % (8 : Int32))), .val (.ref ss2), .val (.int is1), .unset, .unset, .unset] [(.int rr1)])) t → Steps p.tables e below (s₁.setTop (entryFrame m #[(.int p0), (.int p1), (.int p2), (.int p3)] maxLocals)) t := by
            intro t kk
            refine pre472 t ?_
            show Steps p.tables e below (T471.setTop (mkF m 220 #[.val (.int p0), .val (.int p1), .val (.int p2), .val (.int p3), .val (.int d0), .val (.int d1), .val (.int d2), .val (.int d3), .val (.int d4), .val (.int d5), .val (.int ((p3 &&& (2147483647 : Int32)) % (8 : Int32))), .val (.ref ss2), .val (.int is1), .unset, .unset, .unset] [(.int (cs.getD 1 0))])) _
            refine XS.bipush X471.here hx rfl (hb hby at_220) ?_
            show Steps p.tables e below (T471.setTop (mkF m 222 #[.val (.int p0), .val (.int p1), .val (.int p2), .val (.int p3), .val (.int d0), .val (.int d1), .val (.int d2), .val (.int d3), .val (.int d4), .val (.int d5), .val (.int ((p3 &&& (2147483647 : Int32)) % (8 : Int32))), .val (.ref ss2), .val (.int is1), .unset, .unset, .unset] [(.int 116), (.int (cs.getD 1 0))])) _
            exact st473 _ kk
          have mc1 := own_Mc (a := (116 : Int32)) (by decide) (own_gl lt2 (i := 1) (by omega))
          rw [← mc1] at ra1 rb1
          by_cases mm1 : own_M (116 : Int32) (cs.getD 1 0)
          case pos =>
            have hd475 : ¬ (rr1 = (0 : Int32)) := by rw [ra1 mm1]; decide
            obtain ⟨cq476, kq476, q476a, q476b, q476c⟩ := isOf hZ e473q xE2
            obtain ⟨_, _, ⟨T476, L476, k476, n476⟩, -, X476, ⟨Lc476, hQ476, l476, y476, z476⟩, st476⟩ := X473.virtualBack hx (y := (⟨"java/lang/String", "charAt", "(I)C"⟩ : MethodName)) (z := (⟨"java/lang/String", "charAt", "(I)C"⟩ : MethodName)) hown (mvT hZ (gw hw 94 rfl)) (mvT hZ (gw hw 95 rfl)) (notFace_of_selects (args := #[]) (mvT hZ (gw hw 97 rfl))) (mvT hZ (gw hw 97 rfl)) (mvT hZ (gw hw 96 rfl)) (by decide) (StrChars.Road.chN (W := 0) hZ hch (kI := 4) (gw hw 18 rfl) xE2 xF2 xC2 xV2 (own_cod lt2) (own_up lt2) (O2.ext fc462.2) P5 (O4.ext fc462.2) rG3 (by omega) (i := 2) (by omega) (j := (2 : Int32)) rfl (by decide) (by decide)) q476a q476c (g := (mkF m 231 #[.val (.int p0), .val (.int p1), .val (.int p2), .val (.int p3), .val (.int d0), .val (.int d1), .val (.int d2), .val (.int d3), .val (.int d4), .val (.int d5), .val (.int ((p3 &&& (2147483647 : Int32)) % (8 : Int32))), .val (.ref ss2), .val (.int is1), .unset, .unset, .unset] [(.int 2), (.ref ss2)])) rfl (by rw [hml]; rfl) (Steps.refl _) (argsL := [(.int 2)]) (rest := []) (lenOf pd__I_C rfl) rfl (by show 2 * 0 + _ ≤ _; exact Nat.le_of_eq rfl) (hb hby at_231) (fun _ _ => ⟨rfl, e473q, (by decide : 6 + 0 ≤ _), (by decide : 16 + 0 ≤ _)⟩)
            dsimp only [Pt.U, Pt.locs, Pt.cells, Pt.slots] at X476 l476 y476 z476 st476 hQ476
            subst l476 y476 z476
            obtain ⟨rfl, rfl, e476q⟩ := hQ476
            have N476q : Fr n0 ([] : List Loc) := Fr.nil n0
            have N476 := Fr.app N473 N476q
            have pre477 : ∀ t, Steps p.tables e below (T476.setTop (mkF m 234 #[.val (.int p0), .val (.int p1), .val (.int p2), .val (.int p3), .val (.int d0), .val (.int d1), .val (.int d2), .val (.int d3), .val (.int d4), .val (.int d5), .val (.int ((p3 &&& (2147483647 : Int32)) % (8 : Int32))), .val (.ref ss2), .val (.int is1), .unset, .unset, .unset] [(.int (cs.getD 2 0))])) t → Steps p.tables e below (s₁.setTop (entryFrame m #[(.int p0), (.int p1), (.int p2), (.int p3)] maxLocals)) t := by
              intro t kk
              refine pre474 t ?_
              show Steps p.tables e below (T473.setTop (mkF m 225 #[.val (.int p0), .val (.int p1), .val (.int p2), .val (.int p3), .val (.int d0), .val (.int d1), .val (.int d2), .val (.int d3), .val (.int d4), .val (.int d5), .val (.int ((p3 &&& (2147483647 : Int32)) % (8 : Int32))), .val (.ref ss2), .val (.int is1), .unset, .unset, .unset] [(.int rr1)])) _
              refine XS.ifNo X473.here hx rfl (hb hby at_225) rfl ((if0 _ _).trans (feq hd475).1) ?_
              show Steps p.tables e below (T473.setTop (mkF m 228 #[.val (.int p0), .val (.int p1), .val (.int p2), .val (.int p3), .val (.int d0), .val (.int d1), .val (.int d2), .val (.int d3), .val (.int d4), .val (.int d5), .val (.int ((p3 &&& (2147483647 : Int32)) % (8 : Int32))), .val (.ref ss2), .val (.int is1), .unset, .unset, .unset] [])) _
              refine XS.aload X473.here hx rfl (hb hby at_228) rfl rfl ?_
              show Steps p.tables e below (T473.setTop (mkF m 230 #[.val (.int p0), .val (.int p1), .val (.int p2), .val (.int p3), .val (.int d0), .val (.int d1), .val (.int d2), .val (.int d3), .val (.int d4), .val (.int d5), .val (.int ((p3 &&& (2147483647 : Int32)) % (8 : Int32))), .val (.ref ss2), .val (.int is1), .unset, .unset, .unset] [(.ref ss2)])) _
              refine XS.iconst X473.here hx rfl (hb hby at_230) ?_
              show Steps p.tables e below (T473.setTop (mkF m 231 #[.val (.int p0), .val (.int p1), .val (.int p2), .val (.int p3), .val (.int d0), .val (.int d1), .val (.int d2), .val (.int d3), .val (.int d4), .val (.int d5), .val (.int ((p3 &&& (2147483647 : Int32)) % (8 : Int32))), .val (.ref ss2), .val (.int is1), .unset, .unset, .unset] [(.int 2), (.ref ss2)])) _
              exact st476.trans kk
            obtain ⟨_, _, ⟨T478, L478, k478, n478⟩, -, X478, ⟨Lc478, hQ478, l478, y478, z478⟩, st478⟩ := Jvm.LawKit.callS X476 hx (y := (⟨"com/example/deadline/deadline/CallbackSchemeNamedPinLaw", "ci", "(CC)Z"⟩ : MethodName)) hown (mvT hZ (gw hw 115 rfl)) (mvT hZ (gw hw 116 rfl)) (mvT hZ (gw hw 2 rfl)) (mvT hZ (gw hw 117 rfl)) (by decide) (backOf (W := 0) (own_ci l Z a0 hw [] (cs.getD 2 0) (116 : Int32) T14.heap n0 fc464) hZ (gw hw 117 rfl) (gw hw 2 rfl) (by decide) (by decide)) (g := (mkF m 236 #[.val (.int p0), .val (.int p1), .val (.int p2), .val (.int p3), .val (.int d0), .val (.int d1), .val (.int d2), .val (.int d3), .val (.int d4), .val (.int d5), .val (.int ((p3 &&& (2147483647 : Int32)) % (8 : Int32))), .val (.ref ss2), .val (.int is1), .unset, .unset, .unset] [(.int 116), (.int (cs.getD 2 0))])) rfl (by rw [hml]; rfl) (argsL := [(.int (cs.getD 2 0)), (.int 116)]) (rest := []) (lenOf pd__CC_Z rfl) rfl (by show 2 * 0 + _ ≤ _; exact Nat.le_of_eq rfl) (hb hby at_236) (fun _ _ => ⟨rfl, e476q, (by decide : 6 + 0 ≤ _), (by decide : 16 + 0 ≤ _)⟩)
            dsimp only [Pt.U, Pt.locs, Pt.cells, Pt.slots] at X478 l478 y478 z478 st478 hQ478
            subst l478 y478 z478
            obtain ⟨rr2, rfl, N478q, e478q, ra2, rb2⟩ := hQ478
            have N478 := Fr.app N476 N478q
            have pre479 : ∀ t, Steps p.tables e below (T478.setTop (mkF m 239 #[.val (.int p0), .val (.int p1), .val (.int p2), .val (.int p3), .val (.int d0), .val (.int d1), .val (.int d2), .val (.int d3), .val (.int d4), .val (.int d5), .val (.int ((p3 &&& (2147483647 : Int32)) % (8 : Int32))), .val (.ref ss2), .val (.int is1), .unset, .unset, .unset] [(.int rr2)])) t → Steps p.tables e below (s₁.setTop (entryFrame m #[(.int p0), (.int p1), (.int p2), (.int p3)] maxLocals)) t := by
              intro t kk
              refine pre477 t ?_
              show Steps p.tables e below (T476.setTop (mkF m 234 #[.val (.int p0), .val (.int p1), .val (.int p2), .val (.int p3), .val (.int d0), .val (.int d1), .val (.int d2), .val (.int d3), .val (.int d4), .val (.int d5), .val (.int ((p3 &&& (2147483647 : Int32)) % (8 : Int32))), .val (.ref ss2), .val (.int is1), .unset, .unset, .unset] [(.int (cs.getD 2 0))])) _
              refine XS.bipush X476.here hx rfl (hb hby at_234) ?_
              show Steps p.tables e below (T476.setTop (mkF m 236 #[.val (.int p0), .val (.int p1), .val (.int p2), .val (.int p3), .val (.int d0), .val (.int d1), .val (.int d2), .val (.int d3), .val (.int d4), .val (.int d5), .val (.int ((p3 &&& (2147483647 : Int32)) % (8 : Int32))), .val (.ref ss2), .val (.int is1), .unset, .unset, .unset] [(.int 116), (.int (cs.getD 2 0))])) _
              exact st478 _ kk
            have mc2 := own_Mc (a := (116 : Int32)) (by decide) (own_gl lt2 (i := 2) (by omega))
            rw [← mc2] at ra2 rb2
            by_cases mm2 : own_M (116 : Int32) (cs.getD 2 0)
            case pos =>
              have hd480 : ¬ (rr2 = (0 : Int32)) := by rw [ra2 mm2]; decide
              obtain ⟨cq481, kq481, q481a, q481b, q481c⟩ := isOf hZ e478q xE2
              obtain ⟨_, _, ⟨T481, L481, k481, n481⟩, -, X481, ⟨Lc481, hQ481, l481, y481, z481⟩, st481⟩ := X478.virtualBack hx (y := (⟨"java/lang/String", "charAt", "(I)C"⟩ : MethodName)) (z := (⟨"java/lang/String", "charAt", "(I)C"⟩ : MethodName)) hown (mvT hZ (gw hw 94 rfl)) (mvT hZ (gw hw 95 rfl)) (notFace_of_selects (args := #[]) (mvT hZ (gw hw 97 rfl))) (mvT hZ (gw hw 97 rfl)) (mvT hZ (gw hw 96 rfl)) (by decide) (StrChars.Road.chN (W := 0) hZ hch (kI := 4) (gw hw 18 rfl) xE2 xF2 xC2 xV2 (own_cod lt2) (own_up lt2) (O2.ext fc462.2) P5 (O4.ext fc462.2) rG3 (by omega) (i := 3) (by omega) (j := (3 : Int32)) rfl (by decide) (by decide)) q481a q481c (g := (mkF m 245 #[.val (.int p0), .val (.int p1), .val (.int p2), .val (.int p3), .val (.int d0), .val (.int d1), .val (.int d2), .val (.int d3), .val (.int d4), .val (.int d5), .val (.int ((p3 &&& (2147483647 : Int32)) % (8 : Int32))), .val (.ref ss2), .val (.int is1), .unset, .unset, .unset] [(.int 3), (.ref ss2)])) rfl (by rw [hml]; rfl) (Steps.refl _) (argsL := [(.int 3)]) (rest := []) (lenOf pd__I_C rfl) rfl (by show 2 * 0 + _ ≤ _; exact Nat.le_of_eq rfl) (hb hby at_245) (fun _ _ => ⟨rfl, e478q, (by decide : 6 + 0 ≤ _), (by decide : 16 + 0 ≤ _)⟩)
              dsimp only [Pt.U, Pt.locs, Pt.cells, Pt.slots] at X481 l481 y481 z481 st481 hQ481
              subst l481 y481 z481
              obtain ⟨rfl, rfl, e481q⟩ := hQ481
              have N481q : Fr n0 ([] : List Loc) := Fr.nil n0
              have N481 := Fr.app N478 N481q
              have pre482 : ∀ t, Steps p.tables e below (T481.setTop (mkF m 248 #[.val (.int p0), .val (.int p1), .val (.int p2), .val (.int p3), .val (.int d0), .val (.int d1), .val (.int d2), .val (.int d3), .val (.int d4), .val (.int d5), .val (.int ((p3 &&& (2147483647 : Int32)) % (8 : Int32))), .val (.ref ss2), .val (.int is1), .unset, .unset, .unset] [(.int (cs.getD 3 0))])) t → Steps p.tables e below (s₁.setTop (entryFrame m #[(.int p0), (.int p1), (.int p2), (.int p3)] maxLocals)) t := by
                intro t kk
                refine pre479 t ?_
                show Steps p.tables e below (T478.setTop (mkF m 239 #[.val (.int p0), .val (.int p1), .val (.int p2), .val (.int p3), .val (.int d0), .val (.int d1), .val (.int d2), .val (.int d3), .val (.int d4), .val (.int d5), .val (.int ((p3 &&& (2147483647 : Int32)) % (8 : Int32))), .val (.ref ss2), .val (.int is1), .unset, .unset, .unset] [(.int rr2)])) _
                refine XS.ifNo X478.here hx rfl (hb hby at_239) rfl ((if0 _ _).trans (feq hd480).1) ?_
                show Steps p.tables e below (T478.setTop (mkF m 242 #[.val (.int p0), .val (.int p1), .val (.int p2), .val (.int p3), .val (.int d0), .val (.int d1), .val (.int d2), .val (.int d3), .val (.int d4), .val (.int d5), .val (.int ((p3 &&& (2147483647 : Int32)) % (8 : Int32))), .val (.ref ss2), .val (.int is1), .unset, .unset, .unset] [])) _
                refine XS.aload X478.here hx rfl (hb hby at_242) rfl rfl ?_
                show Steps p.tables e below (T478.setTop (mkF m 244 #[.val (.int p0), .val (.int p1), .val (.int p2), .val (.int p3), .val (.int d0), .val (.int d1), .val (.int d2), .val (.int d3), .val (.int d4), .val (.int d5), .val (.int ((p3 &&& (2147483647 : Int32)) % (8 : Int32))), .val (.ref ss2), .val (.int is1), .unset, .unset, .unset] [(.ref ss2)])) _
                refine XS.iconst X478.here hx rfl (hb hby at_244) ?_
                show Steps p.tables e below (T478.setTop (mkF m 245 #[.val (.int p0), .val (.int p1), .val (.int p2), .val (.int p3), .val (.int d0), .val (.int d1), .val (.int d2), .val (.int d3), .val (.int d4), .val (.int d5), .val (.int ((p3 &&& (2147483647 : Int32)) % (8 : Int32))), .val (.ref ss2), .val (.int is1), .unset, .unset, .unset] [(.int 3), (.ref ss2)])) _
                exact st481.trans kk
              obtain ⟨_, _, ⟨T483, L483, k483, n483⟩, -, X483, ⟨Lc483, hQ483, l483, y483, z483⟩, st483⟩ := Jvm.LawKit.callS X481 hx (y := (⟨"com/example/deadline/deadline/CallbackSchemeNamedPinLaw", "ci", "(CC)Z"⟩ : MethodName)) hown (mvT hZ (gw hw 115 rfl)) (mvT hZ (gw hw 116 rfl)) (mvT hZ (gw hw 2 rfl)) (mvT hZ (gw hw 117 rfl)) (by decide) (backOf (W := 0) (own_ci l Z a0 hw [] (cs.getD 3 0) (112 : Int32) T14.heap n0 fc464) hZ (gw hw 117 rfl) (gw hw 2 rfl) (by decide) (by decide)) (g := (mkF m 250 #[.val (.int p0), .val (.int p1), .val (.int p2), .val (.int p3), .val (.int d0), .val (.int d1), .val (.int d2), .val (.int d3), .val (.int d4), .val (.int d5), .val (.int ((p3 &&& (2147483647 : Int32)) % (8 : Int32))), .val (.ref ss2), .val (.int is1), .unset, .unset, .unset] [(.int 112), (.int (cs.getD 3 0))])) rfl (by rw [hml]; rfl) (argsL := [(.int (cs.getD 3 0)), (.int 112)]) (rest := []) (lenOf pd__CC_Z rfl) rfl (by show 2 * 0 + _ ≤ _; exact Nat.le_of_eq rfl) (hb hby at_250) (fun _ _ => ⟨rfl, e481q, (by decide : 6 + 0 ≤ _), (by decide : 16 + 0 ≤ _)⟩)
              dsimp only [Pt.U, Pt.locs, Pt.cells, Pt.slots] at X483 l483 y483 z483 st483 hQ483
              subst l483 y483 z483
              obtain ⟨rr3, rfl, N483q, e483q, ra3, rb3⟩ := hQ483
              have N483 := Fr.app N481 N483q
              have pre484 : ∀ t, Steps p.tables e below (T483.setTop (mkF m 253 #[.val (.int p0), .val (.int p1), .val (.int p2), .val (.int p3), .val (.int d0), .val (.int d1), .val (.int d2), .val (.int d3), .val (.int d4), .val (.int d5), .val (.int ((p3 &&& (2147483647 : Int32)) % (8 : Int32))), .val (.ref ss2), .val (.int is1), .unset, .unset, .unset] [(.int rr3)])) t → Steps p.tables e below (s₁.setTop (entryFrame m #[(.int p0), (.int p1), (.int p2), (.int p3)] maxLocals)) t := by
                intro t kk
                refine pre482 t ?_
                show Steps p.tables e below (T481.setTop (mkF m 248 #[.val (.int p0), .val (.int p1), .val (.int p2), .val (.int p3), .val (.int d0), .val (.int d1), .val (.int d2), .val (.int d3), .val (.int d4), .val (.int d5), .val (.int ((p3 &&& (2147483647 : Int32)) % (8 : Int32))), .val (.ref ss2), .val (.int is1), .unset, .unset, .unset] [(.int (cs.getD 3 0))])) _
                refine XS.bipush X481.here hx rfl (hb hby at_248) ?_
                show Steps p.tables e below (T481.setTop (mkF m 250 #[.val (.int p0), .val (.int p1), .val (.int p2), .val (.int p3), .val (.int d0), .val (.int d1), .val (.int d2), .val (.int d3), .val (.int d4), .val (.int d5), .val (.int ((p3 &&& (2147483647 : Int32)) % (8 : Int32))), .val (.ref ss2), .val (.int is1), .unset, .unset, .unset] [(.int 112), (.int (cs.getD 3 0))])) _
                exact st483 _ kk
              have mc3 := own_Mc (a := (112 : Int32)) (by decide) (own_gl lt2 (i := 3) (by omega))
              rw [← mc3] at ra3 rb3
              by_cases mm3 : own_M (112 : Int32) (cs.getD 3 0)
              case pos =>
                have hd485 : ¬ (rr3 = (0 : Int32)) := by rw [ra3 mm3]; decide
                obtain ⟨cq486, kq486, q486a, q486b, q486c⟩ := isOf hZ e483q xE2
                obtain ⟨_, _, ⟨T486, L486, k486, n486⟩, -, X486, ⟨Lc486, hQ486, l486, y486, z486⟩, st486⟩ := X483.virtualBack hx (y := (⟨"java/lang/String", "charAt", "(I)C"⟩ : MethodName)) (z := (⟨"java/lang/String", "charAt", "(I)C"⟩ : MethodName)) hown (mvT hZ (gw hw 94 rfl)) (mvT hZ (gw hw 95 rfl)) (notFace_of_selects (args := #[]) (mvT hZ (gw hw 97 rfl))) (mvT hZ (gw hw 97 rfl)) (mvT hZ (gw hw 96 rfl)) (by decide) (StrChars.Road.chN (W := 0) hZ hch (kI := 4) (gw hw 18 rfl) xE2 xF2 xC2 xV2 (own_cod lt2) (own_up lt2) (O2.ext fc462.2) P5 (O4.ext fc462.2) rG3 (by omega) (i := 4) (by omega) (j := (4 : Int32)) rfl (by decide) (by decide)) q486a q486c (g := (mkF m 259 #[.val (.int p0), .val (.int p1), .val (.int p2), .val (.int p3), .val (.int d0), .val (.int d1), .val (.int d2), .val (.int d3), .val (.int d4), .val (.int d5), .val (.int ((p3 &&& (2147483647 : Int32)) % (8 : Int32))), .val (.ref ss2), .val (.int is1), .unset, .unset, .unset] [(.int 4), (.ref ss2)])) rfl (by rw [hml]; rfl) (Steps.refl _) (argsL := [(.int 4)]) (rest := []) (lenOf pd__I_C rfl) rfl (by show 2 * 0 + _ ≤ _; exact Nat.le_of_eq rfl) (hb hby at_259) (fun _ _ => ⟨rfl, e483q, (by decide : 6 + 0 ≤ _), (by decide : 16 + 0 ≤ _)⟩)
                dsimp only [Pt.U, Pt.locs, Pt.cells, Pt.slots] at X486 l486 y486 z486 st486 hQ486
                subst l486 y486 z486
                obtain ⟨rfl, rfl, e486q⟩ := hQ486
                have N486q : Fr n0 ([] : List Loc) := Fr.nil n0
                have N486 := Fr.app N483 N486q
                have pre487 : ∀ t, Steps p.tables e below (T486.setTop (mkF m 262 #[.val (.int p0), .val (.int p1), .val (.int p2), .val (.int p3), .val (.int d0), .val (.int d1), .val (.int d2), .val (.int d3), .val (.int d4), .val (.int d5), .val (.int ((p3 &&& (2147483647 : Int32)) % (8 : Int32))), .val (.ref ss2), .val (.int is1), .unset, .unset, .unset] [(.int (cs.getD 4 0))])) t → Steps p.tables e below (s₁.setTop (entryFrame m #[(.int p0), (.int p1), (.int p2), (.int p3)] maxLocals)) t := by
                  intro t kk
                  refine pre484 t ?_
                  show Steps p.tables e below (T483.setTop (mkF m 253 #[.val (.int p0), .val (.int p1), .val (.int p2), .val (.int p3), .val (.int d0), .val (.int d1), .val (.int d2), .val (.int d3), .val (.int d4), .val (.int d5), .val (.int ((p3 &&& (2147483647 : Int32)) % (8 : Int32))), .val (.ref ss2), .val (.int is1), .unset, .unset, .unset] [(.int rr3)])) _
                  refine XS.ifNo X483.here hx rfl (hb hby at_253) rfl ((if0 _ _).trans (feq hd485).1) ?_
                  show Steps p.tables e below (T483.setTop (mkF m 256 #[.val (.int p0), .val (.int p1), .val (.int p2), .val (.int p3), .val (.int d0), .val (.int d1), .val (.int d2), .val (.int d3), .val (.int d4), .val (.int d5), .val (.int ((p3 &&& (2147483647 : Int32)) % (8 : Int32))), .val (.ref ss2), .val (.int is1), .unset, .unset, .unset] [])) _
                  refine XS.aload X483.here hx rfl (hb hby at_256) rfl rfl ?_
                  show Steps p.tables e below (T483.setTop (mkF m 258 #[.val (.int p0), .val (.int p1), .val (.int p2), .val (.int p3), .val (.int d0), .val (.int d1), .val (.int d2), .val (.int d3), .val (.int d4), .val (.int d5), .val (.int ((p3 &&& (2147483647 : Int32)) % (8 : Int32))), .val (.ref ss2), .val (.int is1), .unset, .unset, .unset] [(.ref ss2)])) _
                  refine XS.iconst X483.here hx rfl (hb hby at_258) ?_
                  show Steps p.tables e below (T483.setTop (mkF m 259 #[.val (.int p0), .val (.int p1), .val (.int p2), .val (.int p3), .val (.int d0), .val (.int d1), .val (.int d2), .val (.int d3), .val (.int d4), .val (.int d5), .val (.int ((p3 &&& (2147483647 : Int32)) % (8 : Int32))), .val (.ref ss2), .val (.int is1), .unset, .unset, .unset] [(.int 4), (.ref ss2)])) _
                  exact st486.trans kk
                obtain ⟨_, _, ⟨T488, L488, k488, n488⟩, -, X488, ⟨Lc488, hQ488, l488, y488, z488⟩, st488⟩ := Jvm.LawKit.callS X486 hx (y := (⟨"com/example/deadline/deadline/CallbackSchemeNamedPinLaw", "ci", "(CC)Z"⟩ : MethodName)) hown (mvT hZ (gw hw 115 rfl)) (mvT hZ (gw hw 116 rfl)) (mvT hZ (gw hw 2 rfl)) (mvT hZ (gw hw 117 rfl)) (by decide) (backOf (W := 0) (own_ci l Z a0 hw [] (cs.getD 4 0) (115 : Int32) T14.heap n0 fc464) hZ (gw hw 117 rfl) (gw hw 2 rfl) (by decide) (by decide)) (g := (mkF m 264 #[.val (.int p0), .val (.int p1), .val (.int p2), .val (.int p3), .val (.int d0), .val (.int d1), .val (.int d2), .val (.int d3), .val (.int d4), .val (.int d5), .val (.int ((p3 &&& (2147483647 : Int32)) % (8 : Int32))), .val (.ref ss2), .val (.int is1), .unset, .unset, .unset] [(.int 115), (.int (cs.getD 4 0))])) rfl (by rw [hml]; rfl) (argsL := [(.int (cs.getD 4 0)), (.int 115)]) (rest := []) (lenOf pd__CC_Z rfl) rfl (by show 2 * 0 + _ ≤ _; exact Nat.le_of_eq rfl) (hb hby at_264) (fun _ _ => ⟨rfl, e486q, (by decide : 6 + 0 ≤ _), (by decide : 16 + 0 ≤ _)⟩)
                dsimp only [Pt.U, Pt.locs, Pt.cells, Pt.slots] at X488 l488 y488 z488 st488 hQ488
                subst l488 y488 z488
                obtain ⟨rr4, rfl, N488q, e488q, ra4, rb4⟩ := hQ488
                have N488 := Fr.app N486 N488q
                have pre489 : ∀ t, Steps p.tables e below (T488.setTop (mkF m 267 #[.val (.int p0), .val (.int p1), .val (.int p2), .val (.int p3), .val (.int d0), .val (.int d1), .val (.int d2), .val (.int d3), .val (.int d4), .val (.int d5), .val (.int ((p3 &&& (2147483647 : Int32)) % (8 : Int32))), .val (.ref ss2), .val (.int is1), .unset, .unset, .unset] [(.int rr4)])) t → Steps p.tables e below (s₁.setTop (entryFrame m #[(.int p0), (.int p1), (.int p2), (.int p3)] maxLocals)) t := by
                  intro t kk
                  refine pre487 t ?_
                  show Steps p.tables e below (T486.setTop (mkF m 262 #[.val (.int p0), .val (.int p1), .val (.int p2), .val (.int p3), .val (.int d0), .val (.int d1), .val (.int d2), .val (.int d3), .val (.int d4), .val (.int d5), .val (.int ((p3 &&& (2147483647 : Int32)) % (8 : Int32))), .val (.ref ss2), .val (.int is1), .unset, .unset, .unset] [(.int (cs.getD 4 0))])) _
                  refine XS.bipush X486.here hx rfl (hb hby at_262) ?_
                  show Steps p.tables e below (T486.setTop (mkF m 264 #[.val (.int p0), .val (.int p1), .val (.int p2), .val (.int p3), .val (.int d0), .val (.int d1), .val (.int d2), .val (.int d3), .val (.int d4), .val (.int d5), .val (.int ((p3 &&& (2147483647 : Int32)) % (8 : Int32))), .val (.ref ss2), .val (.int is1), .unset, .unset, .unset] [(.int 115), (.int (cs.getD 4 0))])) _
                  exact st488 _ kk
                have mc4 := own_Mc (a := (115 : Int32)) (by decide) (own_gl lt2 (i := 4) (by omega))
                rw [← mc4] at ra4 rb4
                by_cases mm4 : own_M (115 : Int32) (cs.getD 4 0)
                case pos =>
                  have hd490 : ¬ (rr4 = (0 : Int32)) := by rw [ra4 mm4]; decide
                  have pre491 : ∀ t, Steps p.tables e below (T488.setTop (mkF m 275 #[.val (.int p0), .val (.int p1), .val (.int p2), .val (.int p3), .val (.int d0), .val (.int d1), .val (.int d2), .val (.int d3), .val (.int d4), .val (.int d5), .val (.int ((p3 &&& (2147483647 : Int32)) % (8 : Int32))), .val (.ref ss2), .val (.int is1), .unset, .unset, .unset] [(.int 1)])) t → Steps p.tables e below (s₁.setTop (entryFrame m #[(.int p0), (.int p1), (.int p2), (.int p3)] maxLocals)) t := by
                    intro t kk
                    refine pre489 t ?_
                    show Steps p.tables e below (T488.setTop (mkF m 267 #[.val (.int p0), .val (.int p1), .val (.int p2), .val (.int p3), .val (.int d0), .val (.int d1), .val (.int d2), .val (.int d3), .val (.int d4), .val (.int d5), .val (.int ((p3 &&& (2147483647 : Int32)) % (8 : Int32))), .val (.ref ss2), .val (.int is1), .unset, .unset, .unset] [(.int rr4)])) _
                    refine XS.ifNo X488.here hx rfl (hb hby at_267) rfl ((if0 _ _).trans (feq hd490).1) ?_
                    show Steps p.tables e below (T488.setTop (mkF m 270 #[.val (.int p0), .val (.int p1), .val (.int p2), .val (.int p3), .val (.int d0), .val (.int d1), .val (.int d2), .val (.int d3), .val (.int d4), .val (.int d5), .val (.int ((p3 &&& (2147483647 : Int32)) % (8 : Int32))), .val (.ref ss2), .val (.int is1), .unset, .unset, .unset] [])) _
                    refine XS.iconst X488.here hx rfl (hb hby at_270) ?_
                    show Steps p.tables e below (T488.setTop (mkF m 271 #[.val (.int p0), .val (.int p1), .val (.int p2), .val (.int p3), .val (.int d0), .val (.int d1), .val (.int d2), .val (.int d3), .val (.int d4), .val (.int d5), .val (.int ((p3 &&& (2147483647 : Int32)) % (8 : Int32))), .val (.ref ss2), .val (.int is1), .unset, .unset, .unset] [(.int 1)])) _
                    refine XS.goto X488.here hx rfl (pc0 := 271) (pc' := 275) rfl (hb hby at_271) (by decide) (by decide) ?_
                    exact kk
                  exact ⟨_, _, (1 : Int32), X488, e488q, N488, ⟨fun _ => rfl, fun q => absurd (⟨hl2, fun i hi => by
                    match i, hi with
                    | 0, _ => exact mm0
                    | 1, _ => exact mm1
                    | 2, _ => exact mm2
                    | 3, _ => exact mm3
                    | 4, _ => exact mm4⟩ : own_E4 ([104, 116, 116, 112, 115] : List Int32) cs) q⟩, pre491⟩
                case neg =>
                  have hd492 : rr4 = (0 : Int32) := rb4 mm4
                  have pre493 : ∀ t, Steps p.tables e below (T488.setTop (mkF m 275 #[.val (.int p0), .val (.int p1), .val (.int p2), .val (.int p3), .val (.int d0), .val (.int d1), .val (.int d2), .val (.int d3), .val (.int d4), .val (.int d5), .val (.int ((p3 &&& (2147483647 : Int32)) % (8 : Int32))), .val (.ref ss2), .val (.int is1), .unset, .unset, .unset] [(.int 0)])) t → Steps p.tables e below (s₁.setTop (entryFrame m #[(.int p0), (.int p1), (.int p2), (.int p3)] maxLocals)) t := by
                    intro t kk
                    refine pre489 t ?_
                    show Steps p.tables e below (T488.setTop (mkF m 267 #[.val (.int p0), .val (.int p1), .val (.int p2), .val (.int p3), .val (.int d0), .val (.int d1), .val (.int d2), .val (.int d3), .val (.int d4), .val (.int d5), .val (.int ((p3 &&& (2147483647 : Int32)) % (8 : Int32))), .val (.ref ss2), .val (.int is1), .unset, .unset, .unset] [(.int rr4)])) _
                    refine XS.ifYes X488.here hx rfl (pc0 := 267) (pc' := 274) rfl (hb hby at_267) rfl ((if0 _ _).trans (teq hd492).1) (by decide) (by decide) ?_
                    show Steps p.tables e below (T488.setTop (mkF m 274 #[.val (.int p0), .val (.int p1), .val (.int p2), .val (.int p3), .val (.int d0), .val (.int d1), .val (.int d2), .val (.int d3), .val (.int d4), .val (.int d5), .val (.int ((p3 &&& (2147483647 : Int32)) % (8 : Int32))), .val (.ref ss2), .val (.int is1), .unset, .unset, .unset] [])) _
                    refine XS.iconst X488.here hx rfl (hb hby at_274) ?_
                    exact kk
                  exact ⟨_, _, (0 : Int32), X488, e488q, N488, ⟨fun q => absurd (q.2 4 (by decide)) mm4, fun _ => rfl⟩, pre493⟩
              case neg =>
                have hd494 : rr3 = (0 : Int32) := rb3 mm3
                have pre495 : ∀ t, Steps p.tables e below (T483.setTop (mkF m 275 #[.val (.int p0), .val (.int p1), .val (.int p2), .val (.int p3), .val (.int d0), .val (.int d1), .val (.int d2), .val (.int d3), .val (.int d4), .val (.int d5), .val (.int ((p3 &&& (2147483647 : Int32)) % (8 : Int32))), .val (.ref ss2), .val (.int is1), .unset, .unset, .unset] [(.int 0)])) t → Steps p.tables e below (s₁.setTop (entryFrame m #[(.int p0), (.int p1), (.int p2), (.int p3)] maxLocals)) t := by
                  intro t kk
                  refine pre484 t ?_
                  show Steps p.tables e below (T483.setTop (mkF m 253 #[.val (.int p0), .val (.int p1), .val (.int p2), .val (.int p3), .val (.int d0), .val (.int d1), .val (.int d2), .val (.int d3), .val (.int d4), .val (.int d5), .val (.int ((p3 &&& (2147483647 : Int32)) % (8 : Int32))), .val (.ref ss2), .val (.int is1), .unset, .unset, .unset] [(.int rr3)])) _
                  refine XS.ifYes X483.here hx rfl (pc0 := 253) (pc' := 274) rfl (hb hby at_253) rfl ((if0 _ _).trans (teq hd494).1) (by decide) (by decide) ?_
                  show Steps p.tables e below (T483.setTop (mkF m 274 #[.val (.int p0), .val (.int p1), .val (.int p2), .val (.int p3), .val (.int d0), .val (.int d1), .val (.int d2), .val (.int d3), .val (.int d4), .val (.int d5), .val (.int ((p3 &&& (2147483647 : Int32)) % (8 : Int32))), .val (.ref ss2), .val (.int is1), .unset, .unset, .unset] [])) _
                  refine XS.iconst X483.here hx rfl (hb hby at_274) ?_
                  exact kk
                exact ⟨_, _, (0 : Int32), X483, e483q, N483, ⟨fun q => absurd (q.2 3 (by decide)) mm3, fun _ => rfl⟩, pre495⟩
            case neg =>
              have hd496 : rr2 = (0 : Int32) := rb2 mm2
              have pre497 : ∀ t, Steps p.tables e below (T478.setTop (mkF m 275 #[.val (.int p0), .val (.int p1), .val (.int p2), .val (.int p3), .val (.int d0), .val (.int d1), .val (.int d2), .val (.int d3), .val (.int d4), .val (.int d5), .val (.int ((p3 &&& (2147483647 : Int32)) % (8 : Int32))), .val (.ref ss2), .val (.int is1), .unset, .unset, .unset] [(.int 0)])) t → Steps p.tables e below (s₁.setTop (entryFrame m #[(.int p0), (.int p1), (.int p2), (.int p3)] maxLocals)) t := by
                intro t kk
                refine pre479 t ?_
                show Steps p.tables e below (T478.setTop (mkF m 239 #[.val (.int p0), .val (.int p1), .val (.int p2), .val (.int p3), .val (.int d0), .val (.int d1), .val (.int d2), .val (.int d3), .val (.int d4), .val (.int d5), .val (.int ((p3 &&& (2147483647 : Int32)) % (8 : Int32))), .val (.ref ss2), .val (.int is1), .unset, .unset, .unset] [(.int rr2)])) _
                refine XS.ifYes X478.here hx rfl (pc0 := 239) (pc' := 274) rfl (hb hby at_239) rfl ((if0 _ _).trans (teq hd496).1) (by decide) (by decide) ?_
                show Steps p.tables e below (T478.setTop (mkF m 274 #[.val (.int p0), .val (.int p1), .val (.int p2), .val (.int p3), .val (.int d0), .val (.int d1), .val (.int d2), .val (.int d3), .val (.int d4), .val (.int d5), .val (.int ((p3 &&& (2147483647 : Int32)) % (8 : Int32))), .val (.ref ss2), .val (.int is1), .unset, .unset, .unset] [])) _
                refine XS.iconst X478.here hx rfl (hb hby at_274) ?_
                exact kk
              exact ⟨_, _, (0 : Int32), X478, e478q, N478, ⟨fun q => absurd (q.2 2 (by decide)) mm2, fun _ => rfl⟩, pre497⟩
          case neg =>
            have hd498 : rr1 = (0 : Int32) := rb1 mm1
            have pre499 : ∀ t, Steps p.tables e below (T473.setTop (mkF m 275 #[.val (.int p0), .val (.int p1), .val (.int p2), .val (.int p3), .val (.int d0), .val (.int d1), .val (.int d2), .val (.int d3), .val (.int d4), .val (.int d5), .val (.int ((p3 &&& (2147483647 : Int32)) % (8 : Int32))), .val (.ref ss2), .val (.int is1), .unset, .unset, .unset] [(.int 0)])) t → Steps p.tables e below (s₁.setTop (entryFrame m #[(.int p0), (.int p1), (.int p2), (.int p3)] maxLocals)) t := by
              intro t kk
              refine pre474 t ?_
              show Steps p.tables e below (T473.setTop (mkF m 225 #[.val (.int p0), .val (.int p1), .val (.int p2), .val (.int p3), .val (.int d0), .val (.int d1), .val (.int d2), .val (.int d3), .val (.int d4), .val (.int d5), .val (.int ((p3 &&& (2147483647 : Int32)) % (8 : Int32))), .val (.ref ss2), .val (.int is1), .unset, .unset, .unset] [(.int rr1)])) _
              refine XS.ifYes X473.here hx rfl (pc0 := 225) (pc' := 274) rfl (hb hby at_225) rfl ((if0 _ _).trans (teq hd498).1) (by decide) (by decide) ?_
              show Steps p.tables e below (T473.setTop (mkF m 274 #[.val (.int p0), .val (.int p1), .val (.int p2), .val (.int p3), .val (.int d0), .val (.int d1), .val (.int d2), .val (.int d3), .val (.int d4), .val (.int d5), .val (.int ((p3 &&& (2147483647 : Int32)) % (8 : Int32))), .val (.ref ss2), .val (.int is1), .unset, .unset, .unset] [])) _
              refine XS.iconst X473.here hx rfl (hb hby at_274) ?_
              exact kk
            exact ⟨_, _, (0 : Int32), X473, e473q, N473, ⟨fun q => absurd (q.2 1 (by decide)) mm1, fun _ => rfl⟩, pre499⟩
        case neg =>
          have hd500 : rr0 = (0 : Int32) := rb0 mm0
          have pre501 : ∀ t, Steps p.tables e below (T468.setTop (mkF m 275 #[.val (.int p0), .val (.int p1), .val (.int p2), .val (.int p3), .val (.int d0), .val (.int d1), .val (.int d2), .val (.int d3), .val (.int d4), .val (.int d5), .val (.int ((p3 &&& (2147483647 : Int32)) % (8 : Int32))), .val (.ref ss2), .val (.int is1), .unset, .unset, .unset] [(.int 0)])) t → Steps p.tables e below (s₁.setTop (entryFrame m #[(.int p0), (.int p1), (.int p2), (.int p3)] maxLocals)) t := by
            intro t kk
            refine pre469 t ?_
            show Steps p.tables e below (T468.setTop (mkF m 211 #[.val (.int p0), .val (.int p1), .val (.int p2), .val (.int p3), .val (.int d0), .val (.int d1), .val (.int d2), .val (.int d3), .val (.int d4), .val (.int d5), .val (.int ((p3 &&& (2147483647 : Int32)) % (8 : Int32))), .val (.ref ss2), .val (.int is1), .unset, .unset, .unset] [(.int rr0)])) _
            refine XS.ifYes X468.here hx rfl (pc0 := 211) (pc' := 274) rfl (hb hby at_211) rfl ((if0 _ _).trans (teq hd500).1) (by decide) (by decide) ?_
            show Steps p.tables e below (T468.setTop (mkF m 274 #[.val (.int p0), .val (.int p1), .val (.int p2), .val (.int p3), .val (.int d0), .val (.int d1), .val (.int d2), .val (.int d3), .val (.int d4), .val (.int d5), .val (.int ((p3 &&& (2147483647 : Int32)) % (8 : Int32))), .val (.ref ss2), .val (.int is1), .unset, .unset, .unset] [])) _
            refine XS.iconst X468.here hx rfl (hb hby at_274) ?_
            exact kk
          exact ⟨_, _, (0 : Int32), X468, e468q, N468, ⟨fun q => absurd (q.2 0 (by decide)) mm0, fun _ => rfl⟩, pre501⟩
      case neg =>
        have hl' : cs.length = 5 ↔ (Int32.ofNat cs.length) = (5 : Int32) := by
          have o := (own_on (n := cs.length) (by omega)).1
          have k : (5 : Int32).toInt = 5 := by decide
          constructor
          · intro q; rw [q]; rfl
          · intro q; rw [q] at o; omega
        have pre502 : ∀ t, Steps p.tables e below (T463.setTop (mkF m 275 #[.val (.int p0), .val (.int p1), .val (.int p2), .val (.int p3), .val (.int d0), .val (.int d1), .val (.int d2), .val (.int d3), .val (.int d4), .val (.int d5), .val (.int ((p3 &&& (2147483647 : Int32)) % (8 : Int32))), .val (.ref ss2), .val (.int is1), .unset, .unset, .unset] [(.int 0)])) t → Steps p.tables e below (s₁.setTop (entryFrame m #[(.int p0), (.int p1), (.int p2), (.int p3)] maxLocals)) t := by
          intro t kk
          refine pre465 t ?_
          show Steps p.tables e below (T463.setTop (mkF m 196 #[.val (.int p0), .val (.int p1), .val (.int p2), .val (.int p3), .val (.int d0), .val (.int d1), .val (.int d2), .val (.int d3), .val (.int d4), .val (.int d5), .val (.int ((p3 &&& (2147483647 : Int32)) % (8 : Int32))), .val (.ref ss2), .val (.int is1), .unset, .unset, .unset] [(.int (Int32.ofNat cs.length))])) _
          refine XS.iconst X463.here hx rfl (hb hby at_196) ?_
          show Steps p.tables e below (T463.setTop (mkF m 197 #[.val (.int p0), .val (.int p1), .val (.int p2), .val (.int p3), .val (.int d0), .val (.int d1), .val (.int d2), .val (.int d3), .val (.int d4), .val (.int d5), .val (.int ((p3 &&& (2147483647 : Int32)) % (8 : Int32))), .val (.ref ss2), .val (.int is1), .unset, .unset, .unset] [(.int 5), (.int (Int32.ofNat cs.length))])) _
          refine XS.icmpYes X463.here hx rfl (pc0 := 197) (pc' := 274) rfl (hb hby at_197) rfl (feq hlen).2 (by decide) (by decide) ?_
          show Steps p.tables e below (T463.setTop (mkF m 274 #[.val (.int p0), .val (.int p1), .val (.int p2), .val (.int p3), .val (.int d0), .val (.int d1), .val (.int d2), .val (.int d3), .val (.int d4), .val (.int d5), .val (.int ((p3 &&& (2147483647 : Int32)) % (8 : Int32))), .val (.ref ss2), .val (.int is1), .unset, .unset, .unset] [])) _
          refine XS.iconst X463.here hx rfl (hb hby at_274) ?_
          exact kk
        exact ⟨_, _, (0 : Int32), X463, e463q, N463, ⟨fun q => absurd (hl'.mp q.1) hlen, fun _ => rfl⟩, pre502⟩
    have pre903 : ∀ t, Steps p.tables e below (T461.setTop (mkF m 277 #[.val (.int p0), .val (.int p1), .val (.int p2), .val (.int p3), .val (.int d0), .val (.int d1), .val (.int d2), .val (.int d3), .val (.int d4), .val (.int d5), .val (.int ((p3 &&& (2147483647 : Int32)) % (8 : Int32))), .val (.ref ss2), .val (.int is1), .val (.int is2), .unset, .unset] [])) t → Steps p.tables e below (s₁.setTop (entryFrame m #[(.int p0), (.int p1), (.int p2), (.int p3)] maxLocals)) t := by
      intro t kk
      refine pre461 t ?_
      show Steps p.tables e below (T461.setTop (mkF m 275 #[.val (.int p0), .val (.int p1), .val (.int p2), .val (.int p3), .val (.int d0), .val (.int d1), .val (.int d2), .val (.int d3), .val (.int d4), .val (.int d5), .val (.int ((p3 &&& (2147483647 : Int32)) % (8 : Int32))), .val (.ref ss2), .val (.int is1), .unset, .unset, .unset] [(.int is2)])) _
      refine XS.istore X461.here hx rfl (hb hby at_275) rfl (l' := #[.val (.int p0), .val (.int p1), .val (.int p2), .val (.int p3), .val (.int d0), .val (.int d1), .val (.int d2), .val (.int d3), .val (.int d4), .val (.int d5), .val (.int ((p3 &&& (2147483647 : Int32)) % (8 : Int32))), .val (.ref ss2), .val (.int is1), .val (.int is2), .unset, .unset]) rfl ?_
      exact kk
    have hE12 : (own_E4 ([104, 116, 116, 112] : List Int32) cs) → ¬ (own_E4 ([104, 116, 116, 112, 115] : List Int32) cs) := fun q1 q2 => by
      have z1 : cs.length = 4 := q1.1
      have z2 : cs.length = 5 := q2.1
      omega
    by_cases m1 : (own_E4 ([104, 116, 116, 112] : List Int32) cs)
    case pos =>
      have hd904 : ¬ (is1 = (0 : Int32)) := by rw [his1.1 m1]; decide
      have fc905 := (XO.keep K14 all0)
      obtain ⟨T906, X906, e906, st906⟩ := getS2 X461 hx hZ hown (host := "") (Or.inl (gw hw 130 rfl)) Via.refl e461 (SH1.ext fc905.2) (g := (mkF m 282 #[.val (.int p0), .val (.int p1), .val (.int p2), .val (.int p3), .val (.int d0), .val (.int d1), .val (.int d2), .val (.int d3), .val (.int d4), .val (.int d5), .val (.int ((p3 &&& (2147483647 : Int32)) % (8 : Int32))), .val (.ref ss2), .val (.int is1), .val (.int is2), .unset, .unset] [])) rfl (hb hby at_282)
      have pre907 : ∀ t, Steps p.tables e below (T906.setTop (mkF m 285 #[.val (.int p0), .val (.int p1), .val (.int p2), .val (.int p3), .val (.int d0), .val (.int d1), .val (.int d2), .val (.int d3), .val (.int d4), .val (.int d5), .val (.int ((p3 &&& (2147483647 : Int32)) % (8 : Int32))), .val (.ref ss2), .val (.int is1), .val (.int is2), .unset, .unset] [(.ref en1)])) t → Steps p.tables e below (s₁.setTop (entryFrame m #[(.int p0), (.int p1), (.int p2), (.int p3)] maxLocals)) t := by
        intro t kk
        refine pre903 t ?_
        show Steps p.tables e below (T461.setTop (mkF m 277 #[.val (.int p0), .val (.int p1), .val (.int p2), .val (.int p3), .val (.int d0), .val (.int d1), .val (.int d2), .val (.int d3), .val (.int d4), .val (.int d5), .val (.int ((p3 &&& (2147483647 : Int32)) % (8 : Int32))), .val (.ref ss2), .val (.int is1), .val (.int is2), .unset, .unset] [])) _
        refine XS.iload X461.here hx rfl (hb hby at_277) rfl ?_
        show Steps p.tables e below (T461.setTop (mkF m 279 #[.val (.int p0), .val (.int p1), .val (.int p2), .val (.int p3), .val (.int d0), .val (.int d1), .val (.int d2), .val (.int d3), .val (.int d4), .val (.int d5), .val (.int ((p3 &&& (2147483647 : Int32)) % (8 : Int32))), .val (.ref ss2), .val (.int is1), .val (.int is2), .unset, .unset] [(.int is1)])) _
        refine XS.ifNo X461.here hx rfl (hb hby at_279) rfl ((if0 _ _).trans (feq hd904).1) ?_
        show Steps p.tables e below (T461.setTop (mkF m 282 #[.val (.int p0), .val (.int p1), .val (.int p2), .val (.int p3), .val (.int d0), .val (.int d1), .val (.int d2), .val (.int d3), .val (.int d4), .val (.int d5), .val (.int ((p3 &&& (2147483647 : Int32)) % (8 : Int32))), .val (.ref ss2), .val (.int is1), .val (.int is2), .unset, .unset] [])) _
        exact st906 _ kk
      have fc909 := (Nat.le_trans Z0 K14.1)
      obtain ⟨_, _, ⟨T908, L908, k908, n908⟩, -, X908, ⟨Lc908, hQ908, l908, y908, z908⟩, st908⟩ := Jvm.LawKit.callS X906 hx (y := (⟨"com/example/deadline/deadline/CallbackScheme", "named", "(Ljava/lang/String;)Lcom/example/deadline/deadline/CallbackScheme;"⟩ : MethodName)) hown (mvT hZ (gw hw 44 rfl)) (mvT hZ (gw hw 45 rfl)) (mvT hZ (gw hw 46 rfl)) (mvT hZ (gw hw 47 rfl)) (by decide) (backOf (W := 0) (own_named l Z a0 hw [] va en1 en2 nm1 nm2 nv1 nv2 kv kn1 kn2 ss2 nb2 kk2 cs G1 T14.heap n0 fc909 SV KV EV FN1 FN2 EN1 VN1 CN1 KN1 EN2 VN2 CN2 KN2 xE2 xF2 xC2 xV2 hs0 hcl O2 P5 fc905) hZ (gw hw 47 rfl) (gw hw 46 rfl) (by decide) (by decide)) (g := (mkF m 304 #[.val (.int p0), .val (.int p1), .val (.int p2), .val (.int p3), .val (.int d0), .val (.int d1), .val (.int d2), .val (.int d3), .val (.int d4), .val (.int d5), .val (.int ((p3 &&& (2147483647 : Int32)) % (8 : Int32))), .val (.ref ss2), .val (.int is1), .val (.int is2), .val (.ref en1), .unset] [(.ref ss2)])) rfl (by rw [hml]; rfl) (argsL := [(.ref ss2)]) (rest := []) (lenOf pd_60121638 rfl) rfl (by show 2 * 0 + _ ≤ _; exact Nat.le_of_eq rfl) (hb hby at_304) (fun _ _ => ⟨rfl, e906, (by decide : 6 + 1 ≤ _), (by decide : 16 + 2 ≤ _)⟩)
      dsimp only [Pt.U, Pt.locs, Pt.cells, Pt.slots] at X908 l908 y908 z908 st908 hQ908
      subst l908 y908 z908
      obtain ⟨u908, rfl, N908q, K908, v1, v2, v3⟩ := hQ908
      have N908 := Fr.app N461 N908q
      have CR910 := CHr.trans CR14 (CHr.keep K908 sf0 CR14.1)
      have pre911 : ∀ t, Steps p.tables e below (T908.setTop (mkF m 307 #[.val (.int p0), .val (.int p1), .val (.int p2), .val (.int p3), .val (.int d0), .val (.int d1), .val (.int d2), .val (.int d3), .val (.int d4), .val (.int d5), .val (.int ((p3 &&& (2147483647 : Int32)) % (8 : Int32))), .val (.ref ss2), .val (.int is1), .val (.int is2), .val (.ref en1), .unset] [u908])) t → Steps p.tables e below (s₁.setTop (entryFrame m #[(.int p0), (.int p1), (.int p2), (.int p3)] maxLocals)) t := by
        intro t kk
        refine pre907 t ?_
        show Steps p.tables e below (T906.setTop (mkF m 285 #[.val (.int p0), .val (.int p1), .val (.int p2), .val (.int p3), .val (.int d0), .val (.int d1), .val (.int d2), .val (.int d3), .val (.int d4), .val (.int d5), .val (.int ((p3 &&& (2147483647 : Int32)) % (8 : Int32))), .val (.ref ss2), .val (.int is1), .val (.int is2), .unset, .unset] [(.ref en1)])) _
        refine XS.goto X906.here hx rfl (pc0 := 285) (pc' := 300) rfl (hb hby at_285) (by decide) (by decide) ?_
        show Steps p.tables e below (T906.setTop (mkF m 300 #[.val (.int p0), .val (.int p1), .val (.int p2), .val (.int p3), .val (.int d0), .val (.int d1), .val (.int d2), .val (.int d3), .val (.int d4), .val (.int d5), .val (.int ((p3 &&& (2147483647 : Int32)) % (8 : Int32))), .val (.ref ss2), .val (.int is1), .val (.int is2), .unset, .unset] [(.ref en1)])) _
        refine XS.astore X906.here hx rfl (hb hby at_300) rfl rfl (l' := #[.val (.int p0), .val (.int p1), .val (.int p2), .val (.int p3), .val (.int d0), .val (.int d1), .val (.int d2), .val (.int d3), .val (.int d4), .val (.int d5), .val (.int ((p3 &&& (2147483647 : Int32)) % (8 : Int32))), .val (.ref ss2), .val (.int is1), .val (.int is2), .val (.ref en1), .unset]) rfl ?_
        show Steps p.tables e below (T906.setTop (mkF m 302 #[.val (.int p0), .val (.int p1), .val (.int p2), .val (.int p3), .val (.int d0), .val (.int d1), .val (.int d2), .val (.int d3), .val (.int d4), .val (.int d5), .val (.int ((p3 &&& (2147483647 : Int32)) % (8 : Int32))), .val (.ref ss2), .val (.int is1), .val (.int is2), .val (.ref en1), .unset] [])) _
        refine XS.aload X906.here hx rfl (hb hby at_302) rfl rfl ?_
        show Steps p.tables e below (T906.setTop (mkF m 304 #[.val (.int p0), .val (.int p1), .val (.int p2), .val (.int p3), .val (.int d0), .val (.int d1), .val (.int d2), .val (.int d3), .val (.int d4), .val (.int d5), .val (.int ((p3 &&& (2147483647 : Int32)) % (8 : Int32))), .val (.ref ss2), .val (.int is1), .val (.int is2), .val (.ref en1), .unset] [(.ref ss2)])) _
        exact st908 _ kk
      have hv := v1 m1
      subst hv
      have fc912 := (Nat.le_trans hk14 K908.1)
      obtain ⟨fs, hr, hrun, hended, hRW⟩ := X908.leaveW hS14 fc912 (v := some (.int 1)) (fun h => by rw [Bd.returns] at h; cases h)
      have CRe := CHr.trans CR910 (CHv.at X908 hZ hEL CR910.1)
      refine ⟨_, _, pre911 _ ?_, hrun, hended, _, _, rfl, ?_, ?_, hRW.1, hRW.2.1, hRW.2.2.1, hRW.2.2.2.mono (by decide) (by decide)⟩
      · show Steps p.tables e below (T908.setTop (mkF m 307 #[.val (.int p0), .val (.int p1), .val (.int p2), .val (.int p3), .val (.int d0), .val (.int d1), .val (.int d2), .val (.int d3), .val (.int d4), .val (.int d5), .val (.int ((p3 &&& (2147483647 : Int32)) % (8 : Int32))), .val (.ref ss2), .val (.int is1), .val (.int is2), .val (.ref en1), .unset] [(.ref en1)])) _
        refine XS.astore X908.here hx rfl (hb hby at_307) rfl rfl (l' := #[.val (.int p0), .val (.int p1), .val (.int p2), .val (.int p3), .val (.int d0), .val (.int d1), .val (.int d2), .val (.int d3), .val (.int d4), .val (.int d5), .val (.int ((p3 &&& (2147483647 : Int32)) % (8 : Int32))), .val (.ref ss2), .val (.int is1), .val (.int is2), .val (.ref en1), .val (.ref en1)]) rfl ?_
        show Steps p.tables e below (T908.setTop (mkF m 309 #[.val (.int p0), .val (.int p1), .val (.int p2), .val (.int p3), .val (.int d0), .val (.int d1), .val (.int d2), .val (.int d3), .val (.int d4), .val (.int d5), .val (.int ((p3 &&& (2147483647 : Int32)) % (8 : Int32))), .val (.ref ss2), .val (.int is1), .val (.int is2), .val (.ref en1), .val (.ref en1)] [])) _
        refine XS.aload X908.here hx rfl (hb hby at_309) rfl rfl ?_
        show Steps p.tables e below (T908.setTop (mkF m 311 #[.val (.int p0), .val (.int p1), .val (.int p2), .val (.int p3), .val (.int d0), .val (.int d1), .val (.int d2), .val (.int d3), .val (.int d4), .val (.int d5), .val (.int ((p3 &&& (2147483647 : Int32)) % (8 : Int32))), .val (.ref ss2), .val (.int is1), .val (.int is2), .val (.ref en1), .val (.ref en1)] [(.ref en1)])) _
        refine XS.aload X908.here hx rfl (hb hby at_311) rfl rfl ?_
        show Steps p.tables e below (T908.setTop (mkF m 313 #[.val (.int p0), .val (.int p1), .val (.int p2), .val (.int p3), .val (.int d0), .val (.int d1), .val (.int d2), .val (.int d3), .val (.int d4), .val (.int d5), .val (.int ((p3 &&& (2147483647 : Int32)) % (8 : Int32))), .val (.ref ss2), .val (.int is1), .val (.int is2), .val (.ref en1), .val (.ref en1)] [(.ref en1), (.ref en1)])) _
        refine Jvm.RoadKit.acmp (g := (mkF m 313 #[.val (.int p0), .val (.int p1), .val (.int p2), .val (.int p3), .val (.int d0), .val (.int d1), .val (.int d2), .val (.int d3), .val (.int d4), .val (.int d5), .val (.int ((p3 &&& (2147483647 : Int32)) % (8 : Int32))), .val (.ref ss2), .val (.int is1), .val (.int is2), .val (.ref en1), .val (.ref en1)] [(.ref en1), (.ref en1)])) X908 hx rfl rfl rfl (pc0 := 313) (pc' := 316) (same := true) rfl (hb hby at_313) rfl (decide_eq_true rfl) (by decide) (by decide) ?_
        show Steps p.tables e below (T908.setTop (mkF m 316 #[.val (.int p0), .val (.int p1), .val (.int p2), .val (.int p3), .val (.int d0), .val (.int d1), .val (.int d2), .val (.int d3), .val (.int d4), .val (.int d5), .val (.int ((p3 &&& (2147483647 : Int32)) % (8 : Int32))), .val (.ref ss2), .val (.int is1), .val (.int is2), .val (.ref en1), .val (.ref en1)] [])) _
        refine XS.iconst X908.here hx rfl (hb hby at_316) ?_
        show Steps p.tables e below (T908.setTop (mkF m 317 #[.val (.int p0), .val (.int p1), .val (.int p2), .val (.int p3), .val (.int d0), .val (.int d1), .val (.int d2), .val (.int d3), .val (.int d4), .val (.int d5), .val (.int ((p3 &&& (2147483647 : Int32)) % (8 : Int32))), .val (.ref ss2), .val (.int is1), .val (.int is2), .val (.ref en1), .val (.ref en1)] [(.int 1)])) _
        refine XS.goto X908.here hx rfl (pc0 := 317) (pc' := 321) rfl (hb hby at_317) (by decide) (by decide) ?_
        show Steps p.tables e below (T908.setTop (mkF m 321 #[.val (.int p0), .val (.int p1), .val (.int p2), .val (.int p3), .val (.int d0), .val (.int d1), .val (.int d2), .val (.int d3), .val (.int d4), .val (.int d5), .val (.int ((p3 &&& (2147483647 : Int32)) % (8 : Int32))), .val (.ref ss2), .val (.int is1), .val (.int is2), .val (.ref en1), .val (.ref en1)] [(.int 1)])) _
        exact retN X908 hx (t := .boolean) Bd.returns (by simp) (hb hby at_321) hr
      · show Q_own_law Z p0 p1 p2 p3 va en1 en2 nm1 nm2 nv1 nv2 kv kn1 kn2 G1 G3 h0 n0 _ T908.heap _
        exact ⟨rfl, N908⟩
      · show CHr Z own_EL s.vm s.heap T908.vm T908.heap
        rw [hh]
        exact CRe
    case neg =>
      have hd913 : is1 = (0 : Int32) := his1.2 m1
      by_cases m2 : (own_E4 ([104, 116, 116, 112, 115] : List Int32) cs)
      case pos =>
        have hd914 : ¬ (is2 = (0 : Int32)) := by rw [his2.1 m2]; decide
        have fc915 := (XO.keep K14 all0)
        obtain ⟨T916, X916, e916, st916⟩ := getS2 X461 hx hZ hown (host := "") (Or.inl (gw hw 131 rfl)) Via.refl e461 (SH2.ext fc915.2) (g := (mkF m 293 #[.val (.int p0), .val (.int p1), .val (.int p2), .val (.int p3), .val (.int d0), .val (.int d1), .val (.int d2), .val (.int d3), .val (.int d4), .val (.int d5), .val (.int ((p3 &&& (2147483647 : Int32)) % (8 : Int32))), .val (.ref ss2), .val (.int is1), .val (.int is2), .unset, .unset] [])) rfl (hb hby at_293)
        have pre917 : ∀ t, Steps p.tables e below (T916.setTop (mkF m 296 #[.val (.int p0), .val (.int p1), .val (.int p2), .val (.int p3), .val (.int d0), .val (.int d1), .val (.int d2), .val (.int d3), .val (.int d4), .val (.int d5), .val (.int ((p3 &&& (2147483647 : Int32)) % (8 : Int32))), .val (.ref ss2), .val (.int is1), .val (.int is2), .unset, .unset] [(.ref en2)])) t → Steps p.tables e below (s₁.setTop (entryFrame m #[(.int p0), (.int p1), (.int p2), (.int p3)] maxLocals)) t := by
          intro t kk
          refine pre903 t ?_
          show Steps p.tables e below (T461.setTop (mkF m 277 #[.val (.int p0), .val (.int p1), .val (.int p2), .val (.int p3), .val (.int d0), .val (.int d1), .val (.int d2), .val (.int d3), .val (.int d4), .val (.int d5), .val (.int ((p3 &&& (2147483647 : Int32)) % (8 : Int32))), .val (.ref ss2), .val (.int is1), .val (.int is2), .unset, .unset] [])) _
          refine XS.iload X461.here hx rfl (hb hby at_277) rfl ?_
          show Steps p.tables e below (T461.setTop (mkF m 279 #[.val (.int p0), .val (.int p1), .val (.int p2), .val (.int p3), .val (.int d0), .val (.int d1), .val (.int d2), .val (.int d3), .val (.int d4), .val (.int d5), .val (.int ((p3 &&& (2147483647 : Int32)) % (8 : Int32))), .val (.ref ss2), .val (.int is1), .val (.int is2), .unset, .unset] [(.int is1)])) _
          refine XS.ifYes X461.here hx rfl (pc0 := 279) (pc' := 288) rfl (hb hby at_279) rfl ((if0 _ _).trans (teq hd913).1) (by decide) (by decide) ?_
          show Steps p.tables e below (T461.setTop (mkF m 288 #[.val (.int p0), .val (.int p1), .val (.int p2), .val (.int p3), .val (.int d0), .val (.int d1), .val (.int d2), .val (.int d3), .val (.int d4), .val (.int d5), .val (.int ((p3 &&& (2147483647 : Int32)) % (8 : Int32))), .val (.ref ss2), .val (.int is1), .val (.int is2), .unset, .unset] [])) _
          refine XS.iload X461.here hx rfl (hb hby at_288) rfl ?_
          show Steps p.tables e below (T461.setTop (mkF m 290 #[.val (.int p0), .val (.int p1), .val (.int p2), .val (.int p3), .val (.int d0), .val (.int d1), .val (.int d2), .val (.int d3), .val (.int d4), .val (.int d5), .val (.int ((p3 &&& (2147483647 : Int32)) % (8 : Int32))), .val (.ref ss2), .val (.int is1), .val (.int is2), .unset, .unset] [(.int is2)])) _
          refine XS.ifNo X461.here hx rfl (hb hby at_290) rfl ((if0 _ _).trans (feq hd914).1) ?_
          show Steps p.tables e below (T461.setTop (mkF m 293 #[.val (.int p0), .val (.int p1), .val (.int p2), .val (.int p3), .val (.int d0), .val (.int d1), .val (.int d2), .val (.int d3), .val (.int d4), .val (.int d5), .val (.int ((p3 &&& (2147483647 : Int32)) % (8 : Int32))), .val (.ref ss2), .val (.int is1), .val (.int is2), .unset, .unset] [])) _
          exact st916 _ kk
        have fc919 := (Nat.le_trans Z0 K14.1)
        obtain ⟨_, _, ⟨T918, L918, k918, n918⟩, -, X918, ⟨Lc918, hQ918, l918, y918, z918⟩, st918⟩ := Jvm.LawKit.callS X916 hx (y := (⟨"com/example/deadline/deadline/CallbackScheme", "named", "(Ljava/lang/String;)Lcom/example/deadline/deadline/CallbackScheme;"⟩ : MethodName)) hown (mvT hZ (gw hw 44 rfl)) (mvT hZ (gw hw 45 rfl)) (mvT hZ (gw hw 46 rfl)) (mvT hZ (gw hw 47 rfl)) (by decide) (backOf (W := 0) (own_named l Z a0 hw [] va en1 en2 nm1 nm2 nv1 nv2 kv kn1 kn2 ss2 nb2 kk2 cs G1 T14.heap n0 fc919 SV KV EV FN1 FN2 EN1 VN1 CN1 KN1 EN2 VN2 CN2 KN2 xE2 xF2 xC2 xV2 hs0 hcl O2 P5 fc915) hZ (gw hw 47 rfl) (gw hw 46 rfl) (by decide) (by decide)) (g := (mkF m 304 #[.val (.int p0), .val (.int p1), .val (.int p2), .val (.int p3), .val (.int d0), .val (.int d1), .val (.int d2), .val (.int d3), .val (.int d4), .val (.int d5), .val (.int ((p3 &&& (2147483647 : Int32)) % (8 : Int32))), .val (.ref ss2), .val (.int is1), .val (.int is2), .val (.ref en2), .unset] [(.ref ss2)])) rfl (by rw [hml]; rfl) (argsL := [(.ref ss2)]) (rest := []) (lenOf pd_60121638 rfl) rfl (by show 2 * 0 + _ ≤ _; exact Nat.le_of_eq rfl) (hb hby at_304) (fun _ _ => ⟨rfl, e916, (by decide : 6 + 1 ≤ _), (by decide : 16 + 2 ≤ _)⟩)
        dsimp only [Pt.U, Pt.locs, Pt.cells, Pt.slots] at X918 l918 y918 z918 st918 hQ918
        subst l918 y918 z918
        obtain ⟨u918, rfl, N918q, K918, v1, v2, v3⟩ := hQ918
        have N918 := Fr.app N461 N918q
        have CR920 := CHr.trans CR14 (CHr.keep K918 sf0 CR14.1)
        have pre921 : ∀ t, Steps p.tables e below (T918.setTop (mkF m 307 #[.val (.int p0), .val (.int p1), .val (.int p2), .val (.int p3), .val (.int d0), .val (.int d1), .val (.int d2), .val (.int d3), .val (.int d4), .val (.int d5), .val (.int ((p3 &&& (2147483647 : Int32)) % (8 : Int32))), .val (.ref ss2), .val (.int is1), .val (.int is2), .val (.ref en2), .unset] [u918])) t → Steps p.tables e below (s₁.setTop (entryFrame m #[(.int p0), (.int p1), (.int p2), (.int p3)] maxLocals)) t := by
          intro t kk
          refine pre917 t ?_
          show Steps p.tables e below (T916.setTop (mkF m 296 #[.val (.int p0), .val (.int p1), .val (.int p2), .val (.int p3), .val (.int d0), .val (.int d1), .val (.int d2), .val (.int d3), .val (.int d4), .val (.int d5), .val (.int ((p3 &&& (2147483647 : Int32)) % (8 : Int32))), .val (.ref ss2), .val (.int is1), .val (.int is2), .unset, .unset] [(.ref en2)])) _
          refine XS.goto X916.here hx rfl (pc0 := 296) (pc' := 300) rfl (hb hby at_296) (by decide) (by decide) ?_
          show Steps p.tables e below (T916.setTop (mkF m 300 #[.val (.int p0), .val (.int p1), .val (.int p2), .val (.int p3), .val (.int d0), .val (.int d1), .val (.int d2), .val (.int d3), .val (.int d4), .val (.int d5), .val (.int ((p3 &&& (2147483647 : Int32)) % (8 : Int32))), .val (.ref ss2), .val (.int is1), .val (.int is2), .unset, .unset] [(.ref en2)])) _
          refine XS.astore X916.here hx rfl (hb hby at_300) rfl rfl (l' := #[.val (.int p0), .val (.int p1), .val (.int p2), .val (.int p3), .val (.int d0), .val (.int d1), .val (.int d2), .val (.int d3), .val (.int d4), .val (.int d5), .val (.int ((p3 &&& (2147483647 : Int32)) % (8 : Int32))), .val (.ref ss2), .val (.int is1), .val (.int is2), .val (.ref en2), .unset]) rfl ?_
          show Steps p.tables e below (T916.setTop (mkF m 302 #[.val (.int p0), .val (.int p1), .val (.int p2), .val (.int p3), .val (.int d0), .val (.int d1), .val (.int d2), .val (.int d3), .val (.int d4), .val (.int d5), .val (.int ((p3 &&& (2147483647 : Int32)) % (8 : Int32))), .val (.ref ss2), .val (.int is1), .val (.int is2), .val (.ref en2), .unset] [])) _
          refine XS.aload X916.here hx rfl (hb hby at_302) rfl rfl ?_
          show Steps p.tables e below (T916.setTop (mkF m 304 #[.val (.int p0), .val (.int p1), .val (.int p2), .val (.int p3), .val (.int d0), .val (.int d1), .val (.int d2), .val (.int d3), .val (.int d4), .val (.int d5), .val (.int ((p3 &&& (2147483647 : Int32)) % (8 : Int32))), .val (.ref ss2), .val (.int is1), .val (.int is2), .val (.ref en2), .unset] [(.ref ss2)])) _
          exact st918 _ kk
        have hv := v2 m2
        subst hv
        have fc922 := (Nat.le_trans hk14 K918.1)
        obtain ⟨fs, hr, hrun, hended, hRW⟩ := X918.leaveW hS14 fc922 (v := some (.int 1)) (fun h => by rw [Bd.returns] at h; cases h)
        have CRe := CHr.trans CR920 (CHv.at X918 hZ hEL CR920.1)
        refine ⟨_, _, pre921 _ ?_, hrun, hended, _, _, rfl, ?_, ?_, hRW.1, hRW.2.1, hRW.2.2.1, hRW.2.2.2.mono (by decide) (by decide)⟩
        · show Steps p.tables e below (T918.setTop (mkF m 307 #[.val (.int p0), .val (.int p1), .val (.int p2), .val (.int p3), .val (.int d0), .val (.int d1), .val (.int d2), .val (.int d3), .val (.int d4), .val (.int d5), .val (.int ((p3 &&& (2147483647 : Int32)) % (8 : Int32))), .val (.ref ss2), .val (.int is1), .val (.int is2), .val (.ref en2), .unset] [(.ref en2)])) _
          refine XS.astore X918.here hx rfl (hb hby at_307) rfl rfl (l' := #[.val (.int p0), .val (.int p1), .val (.int p2), .val (.int p3), .val (.int d0), .val (.int d1), .val (.int d2), .val (.int d3), .val (.int d4), .val (.int d5), .val (.int ((p3 &&& (2147483647 : Int32)) % (8 : Int32))), .val (.ref ss2), .val (.int is1), .val (.int is2), .val (.ref en2), .val (.ref en2)]) rfl ?_
          show Steps p.tables e below (T918.setTop (mkF m 309 #[.val (.int p0), .val (.int p1), .val (.int p2), .val (.int p3), .val (.int d0), .val (.int d1), .val (.int d2), .val (.int d3), .val (.int d4), .val (.int d5), .val (.int ((p3 &&& (2147483647 : Int32)) % (8 : Int32))), .val (.ref ss2), .val (.int is1), .val (.int is2), .val (.ref en2), .val (.ref en2)] [])) _
          refine XS.aload X918.here hx rfl (hb hby at_309) rfl rfl ?_
          show Steps p.tables e below (T918.setTop (mkF m 311 #[.val (.int p0), .val (.int p1), .val (.int p2), .val (.int p3), .val (.int d0), .val (.int d1), .val (.int d2), .val (.int d3), .val (.int d4), .val (.int d5), .val (.int ((p3 &&& (2147483647 : Int32)) % (8 : Int32))), .val (.ref ss2), .val (.int is1), .val (.int is2), .val (.ref en2), .val (.ref en2)] [(.ref en2)])) _
          refine XS.aload X918.here hx rfl (hb hby at_311) rfl rfl ?_
          show Steps p.tables e below (T918.setTop (mkF m 313 #[.val (.int p0), .val (.int p1), .val (.int p2), .val (.int p3), .val (.int d0), .val (.int d1), .val (.int d2), .val (.int d3), .val (.int d4), .val (.int d5), .val (.int ((p3 &&& (2147483647 : Int32)) % (8 : Int32))), .val (.ref ss2), .val (.int is1), .val (.int is2), .val (.ref en2), .val (.ref en2)] [(.ref en2), (.ref en2)])) _
          refine Jvm.RoadKit.acmp (g := (mkF m 313 #[.val (.int p0), .val (.int p1), .val (.int p2), .val (.int p3), .val (.int d0), .val (.int d1), .val (.int d2), .val (.int d3), .val (.int d4), .val (.int d5), .val (.int ((p3 &&& (2147483647 : Int32)) % (8 : Int32))), .val (.ref ss2), .val (.int is1), .val (.int is2), .val (.ref en2), .val (.ref en2)] [(.ref en2), (.ref en2)])) X918 hx rfl rfl rfl (pc0 := 313) (pc' := 316) (same := true) rfl (hb hby at_313) rfl (decide_eq_true rfl) (by decide) (by decide) ?_
          show Steps p.tables e below (T918.setTop (mkF m 316 #[.val (.int p0), .val (.int p1), .val (.int p2), .val (.int p3), .val (.int d0), .val (.int d1), .val (.int d2), .val (.int d3), .val (.int d4), .val (.int d5), .val (.int ((p3 &&& (2147483647 : Int32)) % (8 : Int32))), .val (.ref ss2), .val (.int is1), .val (.int is2), .val (.ref en2), .val (.ref en2)] [])) _
          refine XS.iconst X918.here hx rfl (hb hby at_316) ?_
          show Steps p.tables e below (T918.setTop (mkF m 317 #[.val (.int p0), .val (.int p1), .val (.int p2), .val (.int p3), .val (.int d0), .val (.int d1), .val (.int d2), .val (.int d3), .val (.int d4), .val (.int d5), .val (.int ((p3 &&& (2147483647 : Int32)) % (8 : Int32))), .val (.ref ss2), .val (.int is1), .val (.int is2), .val (.ref en2), .val (.ref en2)] [(.int 1)])) _
          refine XS.goto X918.here hx rfl (pc0 := 317) (pc' := 321) rfl (hb hby at_317) (by decide) (by decide) ?_
          show Steps p.tables e below (T918.setTop (mkF m 321 #[.val (.int p0), .val (.int p1), .val (.int p2), .val (.int p3), .val (.int d0), .val (.int d1), .val (.int d2), .val (.int d3), .val (.int d4), .val (.int d5), .val (.int ((p3 &&& (2147483647 : Int32)) % (8 : Int32))), .val (.ref ss2), .val (.int is1), .val (.int is2), .val (.ref en2), .val (.ref en2)] [(.int 1)])) _
          exact retN X918 hx (t := .boolean) Bd.returns (by simp) (hb hby at_321) hr
        · show Q_own_law Z p0 p1 p2 p3 va en1 en2 nm1 nm2 nv1 nv2 kv kn1 kn2 G1 G3 h0 n0 _ T918.heap _
          exact ⟨rfl, N918⟩
        · show CHr Z own_EL s.vm s.heap T918.vm T918.heap
          rw [hh]
          exact CRe
      case neg =>
        have hd923 : is2 = (0 : Int32) := his2.2 m2
        have fc924 := (XO.keep K14 all0)
        have fc926 := (Nat.le_trans Z0 K14.1)
        obtain ⟨_, _, ⟨T925, L925, k925, n925⟩, -, X925, ⟨Lc925, hQ925, l925, y925, z925⟩, st925⟩ := Jvm.LawKit.callS X461 hx (y := (⟨"com/example/deadline/deadline/CallbackScheme", "named", "(Ljava/lang/String;)Lcom/example/deadline/deadline/CallbackScheme;"⟩ : MethodName)) hown (mvT hZ (gw hw 44 rfl)) (mvT hZ (gw hw 45 rfl)) (mvT hZ (gw hw 46 rfl)) (mvT hZ (gw hw 47 rfl)) (by decide) (backOf (W := 0) (own_named l Z a0 hw [] va en1 en2 nm1 nm2 nv1 nv2 kv kn1 kn2 ss2 nb2 kk2 cs G1 T14.heap n0 fc926 SV KV EV FN1 FN2 EN1 VN1 CN1 KN1 EN2 VN2 CN2 KN2 xE2 xF2 xC2 xV2 hs0 hcl O2 P5 fc924) hZ (gw hw 47 rfl) (gw hw 46 rfl) (by decide) (by decide)) (g := (mkF m 304 #[.val (.int p0), .val (.int p1), .val (.int p2), .val (.int p3), .val (.int d0), .val (.int d1), .val (.int d2), .val (.int d3), .val (.int d4), .val (.int d5), .val (.int ((p3 &&& (2147483647 : Int32)) % (8 : Int32))), .val (.ref ss2), .val (.int is1), .val (.int is2), .val .null, .unset] [(.ref ss2)])) rfl (by rw [hml]; rfl) (argsL := [(.ref ss2)]) (rest := []) (lenOf pd_60121638 rfl) rfl (by show 2 * 0 + _ ≤ _; exact Nat.le_of_eq rfl) (hb hby at_304) (fun _ _ => ⟨rfl, e461, (by decide : 6 + 1 ≤ _), (by decide : 16 + 2 ≤ _)⟩)
        dsimp only [Pt.U, Pt.locs, Pt.cells, Pt.slots] at X925 l925 y925 z925 st925 hQ925
        subst l925 y925 z925
        obtain ⟨u925, rfl, N925q, K925, v1, v2, v3⟩ := hQ925
        have N925 := Fr.app N461 N925q
        have CR927 := CHr.trans CR14 (CHr.keep K925 sf0 CR14.1)
        have pre928 : ∀ t, Steps p.tables e below (T925.setTop (mkF m 307 #[.val (.int p0), .val (.int p1), .val (.int p2), .val (.int p3), .val (.int d0), .val (.int d1), .val (.int d2), .val (.int d3), .val (.int d4), .val (.int d5), .val (.int ((p3 &&& (2147483647 : Int32)) % (8 : Int32))), .val (.ref ss2), .val (.int is1), .val (.int is2), .val .null, .unset] [u925])) t → Steps p.tables e below (s₁.setTop (entryFrame m #[(.int p0), (.int p1), (.int p2), (.int p3)] maxLocals)) t := by
          intro t kk
          refine pre903 t ?_
          show Steps p.tables e below (T461.setTop (mkF m 277 #[.val (.int p0), .val (.int p1), .val (.int p2), .val (.int p3), .val (.int d0), .val (.int d1), .val (.int d2), .val (.int d3), .val (.int d4), .val (.int d5), .val (.int ((p3 &&& (2147483647 : Int32)) % (8 : Int32))), .val (.ref ss2), .val (.int is1), .val (.int is2), .unset, .unset] [])) _
          refine XS.iload X461.here hx rfl (hb hby at_277) rfl ?_
          show Steps p.tables e below (T461.setTop (mkF m 279 #[.val (.int p0), .val (.int p1), .val (.int p2), .val (.int p3), .val (.int d0), .val (.int d1), .val (.int d2), .val (.int d3), .val (.int d4), .val (.int d5), .val (.int ((p3 &&& (2147483647 : Int32)) % (8 : Int32))), .val (.ref ss2), .val (.int is1), .val (.int is2), .unset, .unset] [(.int is1)])) _
          refine XS.ifYes X461.here hx rfl (pc0 := 279) (pc' := 288) rfl (hb hby at_279) rfl ((if0 _ _).trans (teq hd913).1) (by decide) (by decide) ?_
          show Steps p.tables e below (T461.setTop (mkF m 288 #[.val (.int p0), .val (.int p1), .val (.int p2), .val (.int p3), .val (.int d0), .val (.int d1), .val (.int d2), .val (.int d3), .val (.int d4), .val (.int d5), .val (.int ((p3 &&& (2147483647 : Int32)) % (8 : Int32))), .val (.ref ss2), .val (.int is1), .val (.int is2), .unset, .unset] [])) _
          refine XS.iload X461.here hx rfl (hb hby at_288) rfl ?_
          show Steps p.tables e below (T461.setTop (mkF m 290 #[.val (.int p0), .val (.int p1), .val (.int p2), .val (.int p3), .val (.int d0), .val (.int d1), .val (.int d2), .val (.int d3), .val (.int d4), .val (.int d5), .val (.int ((p3 &&& (2147483647 : Int32)) % (8 : Int32))), .val (.ref ss2), .val (.int is1), .val (.int is2), .unset, .unset] [(.int is2)])) _
          refine XS.ifYes X461.here hx rfl (pc0 := 290) (pc' := 299) rfl (hb hby at_290) rfl ((if0 _ _).trans (teq hd923).1) (by decide) (by decide) ?_
          show Steps p.tables e below (T461.setTop (mkF m 299 #[.val (.int p0), .val (.int p1), .val (.int p2), .val (.int p3), .val (.int d0), .val (.int d1), .val (.int d2), .val (.int d3), .val (.int d4), .val (.int d5), .val (.int ((p3 &&& (2147483647 : Int32)) % (8 : Int32))), .val (.ref ss2), .val (.int is1), .val (.int is2), .unset, .unset] [])) _
          refine XS.aconstNull X461.here hx rfl (hb hby at_299) ?_
          show Steps p.tables e below (T461.setTop (mkF m 300 #[.val (.int p0), .val (.int p1), .val (.int p2), .val (.int p3), .val (.int d0), .val (.int d1), .val (.int d2), .val (.int d3), .val (.int d4), .val (.int d5), .val (.int ((p3 &&& (2147483647 : Int32)) % (8 : Int32))), .val (.ref ss2), .val (.int is1), .val (.int is2), .unset, .unset] [.null])) _
          refine XS.astore X461.here hx rfl (hb hby at_300) rfl rfl (l' := #[.val (.int p0), .val (.int p1), .val (.int p2), .val (.int p3), .val (.int d0), .val (.int d1), .val (.int d2), .val (.int d3), .val (.int d4), .val (.int d5), .val (.int ((p3 &&& (2147483647 : Int32)) % (8 : Int32))), .val (.ref ss2), .val (.int is1), .val (.int is2), .val .null, .unset]) rfl ?_
          show Steps p.tables e below (T461.setTop (mkF m 302 #[.val (.int p0), .val (.int p1), .val (.int p2), .val (.int p3), .val (.int d0), .val (.int d1), .val (.int d2), .val (.int d3), .val (.int d4), .val (.int d5), .val (.int ((p3 &&& (2147483647 : Int32)) % (8 : Int32))), .val (.ref ss2), .val (.int is1), .val (.int is2), .val .null, .unset] [])) _
          refine XS.aload X461.here hx rfl (hb hby at_302) rfl rfl ?_
          show Steps p.tables e below (T461.setTop (mkF m 304 #[.val (.int p0), .val (.int p1), .val (.int p2), .val (.int p3), .val (.int d0), .val (.int d1), .val (.int d2), .val (.int d3), .val (.int d4), .val (.int d5), .val (.int ((p3 &&& (2147483647 : Int32)) % (8 : Int32))), .val (.ref ss2), .val (.int is1), .val (.int is2), .val .null, .unset] [(.ref ss2)])) _
          exact st925 _ kk
        have hv := v3 m1 m2
        subst hv
        have fc929 := (Nat.le_trans hk14 K925.1)
        obtain ⟨fs, hr, hrun, hended, hRW⟩ := X925.leaveW hS14 fc929 (v := some (.int 1)) (fun h => by rw [Bd.returns] at h; cases h)
        have CRe := CHr.trans CR927 (CHv.at X925 hZ hEL CR927.1)
        refine ⟨_, _, pre928 _ ?_, hrun, hended, _, _, rfl, ?_, ?_, hRW.1, hRW.2.1, hRW.2.2.1, hRW.2.2.2.mono (by decide) (by decide)⟩
        · show Steps p.tables e below (T925.setTop (mkF m 307 #[.val (.int p0), .val (.int p1), .val (.int p2), .val (.int p3), .val (.int d0), .val (.int d1), .val (.int d2), .val (.int d3), .val (.int d4), .val (.int d5), .val (.int ((p3 &&& (2147483647 : Int32)) % (8 : Int32))), .val (.ref ss2), .val (.int is1), .val (.int is2), .val .null, .unset] [.null])) _
          refine XS.astore X925.here hx rfl (hb hby at_307) rfl rfl (l' := #[.val (.int p0), .val (.int p1), .val (.int p2), .val (.int p3), .val (.int d0), .val (.int d1), .val (.int d2), .val (.int d3), .val (.int d4), .val (.int d5), .val (.int ((p3 &&& (2147483647 : Int32)) % (8 : Int32))), .val (.ref ss2), .val (.int is1), .val (.int is2), .val .null, .val .null]) rfl ?_
          show Steps p.tables e below (T925.setTop (mkF m 309 #[.val (.int p0), .val (.int p1), .val (.int p2), .val (.int p3), .val (.int d0), .val (.int d1), .val (.int d2), .val (.int d3), .val (.int d4), .val (.int d5), .val (.int ((p3 &&& (2147483647 : Int32)) % (8 : Int32))), .val (.ref ss2), .val (.int is1), .val (.int is2), .val .null, .val .null] [])) _
          refine XS.aload X925.here hx rfl (hb hby at_309) rfl rfl ?_
          show Steps p.tables e below (T925.setTop (mkF m 311 #[.val (.int p0), .val (.int p1), .val (.int p2), .val (.int p3), .val (.int d0), .val (.int d1), .val (.int d2), .val (.int d3), .val (.int d4), .val (.int d5), .val (.int ((p3 &&& (2147483647 : Int32)) % (8 : Int32))), .val (.ref ss2), .val (.int is1), .val (.int is2), .val .null, .val .null] [.null])) _
          refine XS.aload X925.here hx rfl (hb hby at_311) rfl rfl ?_
          show Steps p.tables e below (T925.setTop (mkF m 313 #[.val (.int p0), .val (.int p1), .val (.int p2), .val (.int p3), .val (.int d0), .val (.int d1), .val (.int d2), .val (.int d3), .val (.int d4), .val (.int d5), .val (.int ((p3 &&& (2147483647 : Int32)) % (8 : Int32))), .val (.ref ss2), .val (.int is1), .val (.int is2), .val .null, .val .null] [.null, .null])) _
          refine Jvm.RoadKit.acmp (g := (mkF m 313 #[.val (.int p0), .val (.int p1), .val (.int p2), .val (.int p3), .val (.int d0), .val (.int d1), .val (.int d2), .val (.int d3), .val (.int d4), .val (.int d5), .val (.int ((p3 &&& (2147483647 : Int32)) % (8 : Int32))), .val (.ref ss2), .val (.int is1), .val (.int is2), .val .null, .val .null] [.null, .null])) X925 hx rfl rfl rfl (pc0 := 313) (pc' := 316) (same := true) rfl (hb hby at_313) rfl (decide_eq_true rfl) (by decide) (by decide) ?_
          show Steps p.tables e below (T925.setTop (mkF m 316 #[.val (.int p0), .val (.int p1), .val (.int p2), .val (.int p3), .val (.int d0), .val (.int d1), .val (.int d2), .val (.int d3), .val (.int d4), .val (.int d5), .val (.int ((p3 &&& (2147483647 : Int32)) % (8 : Int32))), .val (.ref ss2), .val (.int is1), .val (.int is2), .val .null, .val .null] [])) _
          refine XS.iconst X925.here hx rfl (hb hby at_316) ?_
          show Steps p.tables e below (T925.setTop (mkF m 317 #[.val (.int p0), .val (.int p1), .val (.int p2), .val (.int p3), .val (.int d0), .val (.int d1), .val (.int d2), .val (.int d3), .val (.int d4), .val (.int d5), .val (.int ((p3 &&& (2147483647 : Int32)) % (8 : Int32))), .val (.ref ss2), .val (.int is1), .val (.int is2), .val .null, .val .null] [(.int 1)])) _
          refine XS.goto X925.here hx rfl (pc0 := 317) (pc' := 321) rfl (hb hby at_317) (by decide) (by decide) ?_
          show Steps p.tables e below (T925.setTop (mkF m 321 #[.val (.int p0), .val (.int p1), .val (.int p2), .val (.int p3), .val (.int d0), .val (.int d1), .val (.int d2), .val (.int d3), .val (.int d4), .val (.int d5), .val (.int ((p3 &&& (2147483647 : Int32)) % (8 : Int32))), .val (.ref ss2), .val (.int is1), .val (.int is2), .val .null, .val .null] [(.int 1)])) _
          exact retN X925 hx (t := .boolean) Bd.returns (by simp) (hb hby at_321) hr
        · show Q_own_law Z p0 p1 p2 p3 va en1 en2 nm1 nm2 nv1 nv2 kv kn1 kn2 G1 G3 h0 n0 _ T925.heap _
          exact ⟨rfl, N925⟩
        · show CHr Z own_EL s.vm s.heap T925.vm T925.heap
          rw [hh]
          exact CRe
set_option maxRecDepth 65536 in
set_option maxHeartbeats 40000000 in
theorem comes_1 {Post : Tables → Env → Array Value → State → Outcome → State → Prop} (hpost : ∀ tb e args s v u, (limb_1_1.after args s (.returned v) u = true ∧ limb_1_2.after args s (.returned v) u = true ∧ True) → ReturnedEndW s (.returned v) u (Jvm.fieldLocs frame_1_writes args s ++ Jvm.arrayLocs frame_1_arrays args s ++ Jvm.staticLocs frame_1_statics s) 24 1152 → Post tb e args s (.returned v) u) :
    ArmFor flags0 classFile x code maxLocals ret World_1 tables_1 room_1 Calls_1 rest_1 Pre_1 Post := by
  intro l hfl _ _ p e ha hc hk s m args below hf hA hF happ hP
  obtain ⟨hcalls, hrest, hpre⟩ := hP
  obtain ⟨-, -, -, hnamed, -, -, -, hat⟩ := (Spec.applies_iff hf).mp happ
  obtain ⟨hg, hn⟩ := and_e (Cond.before_iff.mp (show (Jvm.Cond.and given_1 narrow_1).before args s = true from hpre))
  obtain ⟨h1, u0⟩ := and_e hg
  obtain ⟨v0, u1⟩ := and_e u0
  obtain ⟨v1, u2⟩ := and_e u1
  obtain ⟨v2, u3⟩ := and_e u2
  obtain ⟨w0, w1, w2, w3, rfl⟩ : ∃ w0 w1 w2 w3 : Value, args = #[w0, w1, w2, w3] := by
    have hs : args.size = 4 := by simpa [Cond.value, given_1] using h1
    obtain ⟨L⟩ := args
    match L, hs with
    | [w0, w1, w2, w3], _ => exact ⟨w0, w1, w2, w3, rfl⟩
  have hw := fun d (hd : d ∈ tables_1) => atoms_spec (ws := Jvm.Cond.code x code maxLocals ret :: tables_1) hat d (List.mem_cons_of_mem _ hd)
  obtain ⟨hsets, hown0⟩ := atoms_of _ (rest_1_c_eq ▸ (show rest_1_c.before _ s = true from hrest))
  have hfit : Fit s := fun {y c} hc i hi => by
    obtain ⟨ha, rfl⟩ := Array.getElem?_eq_some_iff.mp hc
    have q := List.all_eq_true.mp ((Array.all_eq_true_iff_forall_mem.mp hF) _ (Array.getElem_mem ha)) i (List.mem_range.mpr hi)
    simpa [Array.getElem?_eq_getElem hi] using q
  obtain ⟨i0, ei0⟩ := is_v v0
  obtain rfl : w0 = (.int i0) := Option.some.inj ei0
  obtain ⟨i1, ei1⟩ := is_v v1
  obtain rfl : w1 = (.int i1) := Option.some.inj ei1
  obtain ⟨i2, ei2⟩ := is_v v2
  obtain rfl : w2 = (.int i2) := Option.some.inj ei2
  obtain ⟨i3, ei3⟩ := is_v u3
  obtain rfl : w3 = (.int i3) := Option.some.inj ei3
  have n5 := not_v (Cond.before_iff.mp (hsets _ (List.mem_of_getElem? (i := 2) rfl)))
  obtain ⟨iG, eG⟩ := is_v (Cond.before_iff.mp (hsets _ (List.mem_of_getElem? (i := 1) rfl)))
  have SG : Sta s s.heap "java/lang/String" "COMPACT_STRINGS" "Z" (.int iG) := Sta.start eG (Or.inl (hsets _ (List.mem_of_getElem? (i := 0) rfl)))
  have cG : ¬ (iG = (0 : Int32)) := gotF (Cond.eq_ints eG (Term.int_eval (0))) n5
  obtain ⟨vF, eF, rF⟩ := isR_v (Cond.before_iff.mp (hsets _ (List.mem_of_getElem? (i := 8) rfl)))
  have SF : Sta s s.heap "jdk/internal/util/Preconditions" "SIOOBE_FORMATTER" "Ljava/util/function/BiFunction;" vF := Sta.start eF (Or.inl (hsets _ (List.mem_of_getElem? (i := 7) rfl)))
  obtain ⟨c0, m0⟩ := and_e hn
  obtain ⟨c1, m1⟩ := and_e m0
  obtain ⟨c2, m2⟩ := and_e m1
  obtain ⟨c3, m3⟩ := and_e m2
  obtain ⟨c4, m4⟩ := and_e m3
  obtain ⟨c5, m5⟩ := and_e m4
  obtain ⟨c6, m6⟩ := and_e m5
  obtain ⟨c7, m7⟩ := and_e m6
  obtain ⟨c8, m8⟩ := and_e m7
  obtain ⟨c9, m9⟩ := and_e m8
  obtain ⟨c10, m10⟩ := and_e m9
  obtain ⟨c11, m11⟩ := and_e m10
  obtain ⟨c12, m12⟩ := and_e m11
  obtain ⟨c13, m13⟩ := and_e m12
  obtain ⟨c14, m14⟩ := and_e m13
  obtain ⟨c15, m15⟩ := and_e m14
  obtain ⟨c16, m16⟩ := and_e m15
  obtain ⟨c17, m17⟩ := and_e m16
  obtain ⟨c18, m18⟩ := and_e m17
  obtain ⟨c19, m19⟩ := and_e m18
  obtain ⟨c20, m20⟩ := and_e m19
  obtain ⟨c21, m21⟩ := and_e m20
  obtain ⟨c22, m22⟩ := and_e m21
  have c23 := m22
  obtain ⟨va, ea⟩ := arr_v c0
  obtain ⟨clv, Av⟩ := Arr.start ea c0
  have EVx := Exa.start ea c1
  have Lv := own_wL (own_wI c2) ea Av
  obtain ⟨e1, ee1⟩ := exa_v c3
  have w1' := own_wE (own_wR c4 ee1) ea Av
  obtain ⟨e2, ee2⟩ := exa_v c5
  have w2' := own_wE (own_wR c6 ee2) ea Av
  have KVx : Arv s s.heap va clv.cls (.object "com/example/deadline/deadline/CallbackScheme") (2 : Int32) [(.ref e1), (.ref e2)] .null := Arv.start hfit Av Lv.1 Lv.2 (by decide) rfl ⟨w1', w2', trivial⟩
  have SVx := Sta.start ea (Or.inl (gw hw 62 rfl))
  obtain ⟨n1, en1⟩ := exa_v c7
  have FN1 := own_wF en1 ee1
  have EN1 := Exa.start en1 c7
  obtain ⟨v1, ev1⟩ := arr_v c8
  obtain ⟨cl1, A1⟩ := Arr.start ev1 c8
  have VN1 := own_wF ev1 en1
  have L1 := own_wL (own_wI c9) ev1 A1
  have CN1 := own_wF (own_wI c10) en1
  have KN1 : Arv s s.heap v1 cl1.cls .byte (4 : Int32) [(.int 104), (.int 116), (.int 116), (.int 112)] (.int 0) := Arv.start hfit A1 L1.1 L1.2 (by decide) (by decide) ⟨own_wE (own_wI c15) ev1 A1, own_wE (own_wI c16) ev1 A1, own_wE (own_wI c17) ev1 A1, own_wE (own_wI c18) ev1 A1, trivial⟩
  obtain ⟨n2, en2⟩ := exa_v c11
  have FN2 := own_wF en2 ee2
  have EN2 := Exa.start en2 c11
  obtain ⟨v2, ev2⟩ := arr_v c12
  obtain ⟨cl2, A2⟩ := Arr.start ev2 c12
  have VN2 := own_wF ev2 en2
  have L2 := own_wL (own_wI c13) ev2 A2
  have CN2 := own_wF (own_wI c14) en2
  have KN2 : Arv s s.heap v2 cl2.cls .byte (5 : Int32) [(.int 104), (.int 116), (.int 116), (.int 112), (.int 115)] (.int 0) := Arv.start hfit A2 L2.1 L2.2 (by decide) (by decide) ⟨own_wE (own_wI c19) ev2 A2, own_wE (own_wI c20) ev2 A2, own_wE (own_wI c21) ev2 A2, own_wE (own_wI c22) ev2 A2, own_wE (own_wI c23) ev2 A2, trivial⟩
  have SH1 := Sta.start ee1 (Or.inr ⟨(gw hw 46 rfl), (gw hw 60 rfl)⟩)
  have SH2 := Sta.start ee2 (Or.inr ⟨(gw hw 46 rfl), (gw hw 61 rfl)⟩)
  have hC : CHv s own_EL s.vm s.heap := CHv.start (own_hEL hw) (fun p hp => hcalls.1 p hp) (hsets _ (List.mem_of_getElem? (i := 2) rfl)) (own_wS hw _ (by simp [Bundle.stringAtoms])) (own_wS hw _ (by simp [Bundle.stringAtoms, Bundle.sN]))
  obtain ⟨n, o, h1, h2, h3, _, L, rfl, ⟨rfl, N⟩, -, hq⟩ := own_law l s _ hw tables_1 i0 i1 i2 i3 va e1 e2 n1 n2 v1 v2 clv.cls cl1.cls cl2.cls iG vF s.heap s.heap.size (Nat.le_refl _) SVx KVx EVx FN1 FN2 EN1 VN1 CN1 KN1 EN2 VN2 CN2 KN2 SH1 SH2 SG cG SF rF (Old.start s) p e ha hc hk s m _ below hf ((Spec.applies_iff_loose hf).mp happ).1 ⟨rfl, State.Warmed39.refl s, rfl, hC⟩ trivial
  refine ⟨n, _, h1, h2, h3, hpost _ _ _ _ _ _ ⟨Cond.after_iff.mpr rfl, Cond.after_iff.mpr (eq_i res_at (Term.int_eval (1)) rfl), trivial⟩ ⟨hq.1, hq.2.1, hq.2.2.1, (hq.2.2.2.sift fun y hy => Or.inr (N y hy)).mono (by decide) (by decide)⟩⟩
theorem main_1_1 : Claimed_1_1 := comes_1 fun _ _ _ _ _ _ h hF => ⟨h.1, hF⟩
theorem main_1_2 : Claimed_1_2 := comes_1 fun _ _ _ _ _ _ h hF => ⟨h.2.1, hF⟩
end Jvm.Pilot.@@N@@
namespace Jvm.Pilot.@@N@@
open Jvm Jvm.ClassFile Sem Op Lib Jvm.Free Jvm.Stand Jvm.Pilot.@@N@@.Jvm.D
/-! MADE BY PROGRAM (witnessworld.py) out of the Statement's table words and the real class files: 24 classes; the members and pool entries that the words name. The judged class is class 1, her method 4. -/
namespace start1
open Jvm.ClassFile
def u (s : String) : CpInfo := .utf8 (stringToUtf16 s)
/-- a pool by its gaps: so many unusable entries, then the entry; so many at the end -/
def gap : Nat → List CpInfo → List CpInfo
  | 0, r => r
  | n + 1, r => .unusable :: gap n r
def poolList (es : List (Nat × CpInfo)) (last : Nat) : List CpInfo := es.foldr (fun e r => gap e.1 (e.2 :: r)) (gap last [])
def pool (es : List (Nat × CpInfo)) (last : Nat) : Array CpInfo := ⟨poolList es last⟩
def fileOf (pool : Array CpInfo) (this : Nat) (attrs : Array Attribute := #[]) (ms : Array MethodInfo := #[]) (fl : Nat := 33) (sup : Nat := 0) (ifs : Array Nat := #[]) (fds : Array FieldInfo := #[]) : ClassFile where
  minorVersion := 0
  majorVersion := 65
  constantPool := pool
  accessFlags := fl
  thisClass := this
  superClass := sup
  interfaces := ifs
  fields := fds
  methods := ms
  attributes := attrs
def plain (name : String) (sup : Option ClassId) : Class where
  name := name
  kind := .ordinary
  loader := none
  accessFlags := 33
  super := sup
  interfaces := #[]
  cf := none
  fields := #[]
  methods := #[]
  instanceTypes := #[]
  staticTypes := #[]
  resolved := #[]
  callSites := []
  init := .initialized
  statics := none
  mirror := none

def pool0 : Array CpInfo := pool [(5, u "<init>"), (0, u "()V"), (1, .class_ 10), (1, u "java/lang/Object"), (85, u "clone"), (0, u "()Ljava/lang/Object;")] 26

def k0c0 : Code := { maxStack := 0, maxLocals := 1, code := object_method_1_code, exceptionTable := #[], attributes := #[] }
def k0m0 : Method := { name := "<init>", desc := "()V", sig := { parameters := [], returnType := none }, accessFlags := 1, code := some k0c0 }
def k0m1 : Method := { name := "clone", desc := "()Ljava/lang/Object;", sig := { parameters := [], returnType := some (.object "java/lang/Object") }, accessFlags := 260, code := none }
/-- java/lang/Object -/
def k0 : Class := { plain "java/lang/Object" none with
  accessFlags := 33
  interfaces := #[]
  cf := some (fileOf pool0 8 #[] #[{ accessFlags := 1, nameIndex := 5, descriptorIndex := 6, attributes := #[] }, { accessFlags := 260, nameIndex := 96, descriptorIndex := 97, attributes := #[] }] 33 0 #[] #[])
  fields := #[]
  methods := #[k0m0, k0m1]
  instanceTypes := #[]
  staticTypes := #[]
  resolved := Array.replicate 124 none
  statics := none }

def pool1 : Array CpInfo := pool [(2, .class_ 4), (1, u "java/lang/Object"), (0, u "<init>"), (0, u "()V"), (0, .class_ 8), (0, u "java/lang/String"), (0, .methodref 7 10), (0, .nameAndType 5 11), (0, u "([C)V"), (0, .methodref 7 13), (0, .nameAndType 14 15), (0, u "valueOf"), (0, u "(C)Ljava/lang/String;"), (0, .methodref 17 18), (0, .class_ 19), (0, .nameAndType 20 21), (0, u "com/example/deadline/deadline/CallbackSchemeNamedPinLaw"), (0, u "pick"), (0, u "(IIC)C"), (0, .integer 2147483647), (0, .methodref 17 24), (0, .nameAndType 25 26), (0, u "make"), (0, u "(ICCCCCC)Ljava/lang/String;"), (0, .methodref 7 28), (0, .nameAndType 29 30), (0, u "length"), (0, u "()I"), (0, .methodref 7 32), (0, .nameAndType 33 34), (0, u "charAt"), (0, u "(I)C"), (0, .methodref 17 36), (0, .nameAndType 37 38), (0, u "ci"), (0, u "(CC)Z"), (0, .fieldref 40 41), (0, .class_ 42), (0, .nameAndType 43 44), (0, u "com/example/deadline/deadline/CallbackScheme"), (0, u "HTTP"), (0, u "Lcom/example/deadline/deadline/CallbackScheme;"), (0, .fieldref 40 46), (0, .nameAndType 47 44), (0, u "HTTPS"), (0, .methodref 40 49), (0, .nameAndType 50 51), (0, u "named"), (0, u "(Ljava/lang/String;)Lcom/example/deadline/deadline/CallbackScheme;"), (3, u "law"), (0, u "(IIII)Z")] 2

def k1m0 : Method := { name := "<init>", desc := "()V", sig := { parameters := [], returnType := none }, accessFlags := 2, code := none }
def k1c1 : Code := { maxStack := 2, maxLocals := 4, code := method_2_code, exceptionTable := #[], attributes := #[] }
def k1m1 : Method := { name := "pick", desc := "(IIC)C", sig := { parameters := [.int, .int, .char], returnType := some .char }, accessFlags := 10, code := some k1c1 }
def k1c2 : Code := { maxStack := 6, maxLocals := 7, code := method_3_code, exceptionTable := #[], attributes := #[] }
def k1m2 : Method := { name := "make", desc := "(ICCCCCC)Ljava/lang/String;", sig := { parameters := [.int, .char, .char, .char, .char, .char, .char], returnType := some (.object "java/lang/String") }, accessFlags := 10, code := some k1c2 }
def k1c3 : Code := { maxStack := 3, maxLocals := 2, code := method_4_code, exceptionTable := #[], attributes := #[] }
def k1m3 : Method := { name := "ci", desc := "(CC)Z", sig := { parameters := [.char, .char], returnType := some .boolean }, accessFlags := 10, code := some k1c3 }
def k1c4 : Code := { maxStack := 7, maxLocals := 16, code := code, exceptionTable := #[], attributes := #[] }
def k1m4 : Method := { name := "law", desc := "(IIII)Z", sig := { parameters := [.int, .int, .int, .int], returnType := some .boolean }, accessFlags := 9, code := some k1c4 }
/-- com/example/deadline/deadline/CallbackSchemeNamedPinLaw -/
def k1 : Class := { plain "com/example/deadline/deadline/CallbackSchemeNamedPinLaw" (some 0) with
  accessFlags := 49
  interfaces := #[]
  cf := some (fileOf pool1 17 #[] #[{ accessFlags := 2, nameIndex := 5, descriptorIndex := 6, attributes := #[] }, { accessFlags := 10, nameIndex := 20, descriptorIndex := 21, attributes := #[] }, { accessFlags := 10, nameIndex := 25, descriptorIndex := 26, attributes := #[] }, { accessFlags := 10, nameIndex := 37, descriptorIndex := 38, attributes := #[] }, { accessFlags := 9, nameIndex := 55, descriptorIndex := 56, attributes := #[] }] 49 2 #[] #[])
  fields := #[]
  methods := #[k1m0, k1m1, k1m2, k1m3, k1m4]
  instanceTypes := #[]
  staticTypes := #[]
  resolved := Array.replicate 59 none
  statics := none }

def pool2 : Array CpInfo := pool [(1, .class_ 2), (0, u "java/io/Serializable"), (0, .class_ 4), (0, u "java/lang/Object")] 2

/-- java/io/Serializable -/
def k2 : Class := { plain "java/io/Serializable" (some 0) with
  accessFlags := 1537
  interfaces := #[]
  cf := some (fileOf pool2 1 #[] #[] 1537 3 #[] #[])
  fields := #[]
  methods := #[]
  instanceTypes := #[]
  staticTypes := #[]
  resolved := Array.replicate 7 none
  statics := none }

def pool3 : Array CpInfo := pool [(1, .class_ 2), (0, u "java/lang/Comparable"), (0, .class_ 4), (0, u "java/lang/Object")] 7

/-- java/lang/Comparable -/
def k3 : Class := { plain "java/lang/Comparable" (some 0) with
  accessFlags := 1537
  interfaces := #[]
  cf := some (fileOf pool3 1 #[] #[] 1537 3 #[] #[])
  fields := #[]
  methods := #[]
  instanceTypes := #[]
  staticTypes := #[]
  resolved := Array.replicate 12 none
  statics := none }

def pool4 : Array CpInfo := pool [(2, .class_ 4), (1, u "java/lang/CharSequence"), (42, .class_ 48), (0, u "java/lang/CharSequence$1CodePointIterator"), (10, .class_ 60), (0, u "java/lang/CharSequence$1CharIterator"), (5, .class_ 67), (0, u "java/lang/Object")] 63

/-- java/lang/CharSequence -/
def k4 : Class := { plain "java/lang/CharSequence" (some 0) with
  accessFlags := 1537
  interfaces := #[]
  cf := some (fileOf pool4 2 #[.nestMembers #[47, 59]] #[] 1537 66 #[] #[])
  fields := #[]
  methods := #[]
  instanceTypes := #[]
  staticTypes := #[]
  resolved := Array.replicate 131 none
  statics := none }

def pool5 : Array CpInfo := pool [(1, .class_ 2), (0, u "java/lang/constant/Constable"), (0, .class_ 4), (0, u "java/lang/Object")] 6

/-- java/lang/constant/Constable -/
def k5 : Class := { plain "java/lang/constant/Constable" (some 0) with
  accessFlags := 1537
  interfaces := #[]
  cf := some (fileOf pool5 1 #[] #[] 1537 3 #[] #[])
  fields := #[]
  methods := #[]
  instanceTypes := #[]
  staticTypes := #[]
  resolved := Array.replicate 11 none
  statics := none }

def pool6 : Array CpInfo := pool [(1, .class_ 2), (0, u "java/lang/constant/ConstantDesc"), (0, .class_ 4), (0, u "java/lang/Object")] 32

/-- java/lang/constant/ConstantDesc -/
def k6 : Class := { plain "java/lang/constant/ConstantDesc" (some 0) with
  accessFlags := 1537
  interfaces := #[]
  cf := some (fileOf pool6 1 #[] #[] 1537 3 #[] #[])
  fields := #[]
  methods := #[]
  instanceTypes := #[]
  staticTypes := #[]
  resolved := Array.replicate 37 none
  statics := none }

def pool7 : Array CpInfo := pool [(1, .methodref 2 3), (0, .class_ 4), (0, .nameAndType 5 6), (0, u "java/lang/Object"), (0, u "<init>"), (0, u "()V"), (0, .string 8), (0, u ""), (0, .fieldref 10 11), (0, .class_ 12), (0, .nameAndType 13 14), (0, u "java/lang/String"), (0, u "value"), (0, u "[B"), (0, .fieldref 10 16), (0, .nameAndType 17 18), (0, u "coder"), (0, u "B"), (2, u "hash"), (0, u "I"), (2, u "hashIsZero"), (0, u "Z"), (0, .methodref 10 28), (0, .nameAndType 5 29), (0, u "([CIILjava/lang/Void;)V"), (8, .fieldref 10 39), (0, .nameAndType 40 26), (0, u "COMPACT_STRINGS"), (1, .class_ 44), (1, u "java/lang/StringUTF16"), (0, u "compress"), (1, .methodref 42 48), (0, .nameAndType 49 50), (0, u "coderFromArrayLen"), (0, u "([BI)B"), (2, u "toBytes"), (53, .class_ 109), (1, u "java/lang/StringLatin1"), (32, u "()Z"), (34, .methodref 42 178), (0, .nameAndType 45 179), (0, u "([CII)[B"), (29, .methodref 10 210), (0, .nameAndType 5 211), (0, u "([BB)V"), (122, u "()I"), (0, .methodref 10 336), (0, .nameAndType 17 337), (0, u "()B"), (25, u "([BI)C"), (5, u "(C)Z"), (21, u "(II)V"), (35, u "(I)C"), (64, .methodref 10 493), (0, .nameAndType 494 142), (0, u "isLatin1"), (0, .methodref 107 496), (0, .nameAndType 497 363), (0, u "charAt"), (3, u "checkIndex"), (3, .methodref 10 506), (0, .nameAndType 507 334), (0, u "length"), (67, .class_ 576), (0, u "java/lang/CharSequence"), (5, .methodref 10 583), (0, .nameAndType 584 585), (0, u "regionMatches"), (0, u "(ZILjava/lang/String;II)Z"), (13, u "CASE_INSENSITIVE_ORDER"), (0, u "Ljava/util/Comparator;"), (12, .methodref 107 614), (0, .nameAndType 615 616), (0, u "regionMatchesCI"), (0, u "([BI[BII)Z"), (165, u "valueOf"), (0, u "(C)Ljava/lang/String;"), (226, u "([C)V"), (4, .methodref 107 1016), (0, .nameAndType 1017 369), (0, u "canEncode"), (0, .methodref 107 1019), (0, .nameAndType 53 1020), (0, u "(C)[B"), (32, .fieldref 1054 1055), (0, .class_ 1056), (0, .nameAndType 1057 1058), (0, u "jdk/internal/util/Preconditions"), (0, u "SIOOBE_FORMATTER"), (0, u "Ljava/util/function/BiFunction;"), (0, .methodref 1054 1060), (0, .nameAndType 501 1061), (0, u "(IILjava/util/function/BiFunction;)I"), (39, u "serialPersistentFields"), (0, u "[Ljava/io/ObjectStreamField;"), (0, .class_ 1104), (0, u "java/lang/String$CaseInsensitiveComparator"), (1, .class_ 1107), (0, u "java/io/Serializable"), (0, .class_ 1109), (0, u "java/lang/Comparable"), (0, .class_ 1111), (0, u "java/lang/constant/Constable"), (0, .class_ 1113), (0, u "java/lang/constant/ConstantDesc"), (2, u "serialVersionUID"), (0, u "J"), (3, u "REPL"), (0, u "C"), (2, u "LATIN1"), (1, u "UTF16"), (128, u "equalsIgnoreCase"), (0, u "(Ljava/lang/String;)Z")] 193

def k7m0 : Method := { name := "<init>", desc := "()V", sig := { parameters := [], returnType := none }, accessFlags := 1, code := none }
def k7c1 : Code := { maxStack := 5, maxLocals := 2, code := jdk_42_method_3_code, exceptionTable := #[], attributes := #[] }
def k7m1 : Method := { name := "<init>", desc := "([C)V", sig := { parameters := [(.array .char)], returnType := none }, accessFlags := 1, code := some k7c1 }
def k7c2 : Code := { maxStack := 2, maxLocals := 1, code := jdk_42_method_54_code, exceptionTable := #[], attributes := #[] }
def k7m2 : Method := { name := "length", desc := "()I", sig := { parameters := [], returnType := some .int }, accessFlags := 1, code := some k7c2 }
def k7c3 : Code := { maxStack := 2, maxLocals := 2, code := jdk_42_method_56_code, exceptionTable := #[], attributes := #[] }
def k7m3 : Method := { name := "charAt", desc := "(I)C", sig := { parameters := [.int], returnType := some .char }, accessFlags := 1, code := some k7c3 }
def k7c4 : Code := { maxStack := 6, maxLocals := 2, code := jdk_42_method_70_code, exceptionTable := #[], attributes := #[] }
def k7m4 : Method := { name := "equalsIgnoreCase", desc := "(Ljava/lang/String;)Z", sig := { parameters := [(.object "java/lang/String")], returnType := some .boolean }, accessFlags := 1, code := some k7c4 }
def k7c5 : Code := { maxStack := 6, maxLocals := 9, code := jdk_42_method_74_code, exceptionTable := #[], attributes := #[] }
def k7m5 : Method := { name := "regionMatches", desc := "(ZILjava/lang/String;II)Z", sig := { parameters := [.boolean, .int, (.object "java/lang/String"), .int, .int], returnType := some .boolean }, accessFlags := 1, code := some k7c5 }
def k7c6 : Code := { maxStack := 4, maxLocals := 1, code := jdk_42_method_139_code, exceptionTable := #[], attributes := #[] }
def k7m6 : Method := { name := "valueOf", desc := "(C)Ljava/lang/String;", sig := { parameters := [.char], returnType := some (.object "java/lang/String") }, accessFlags := 9, code := some k7c6 }
def k7c7 : Code := { maxStack := 4, maxLocals := 6, code := jdk_42_method_149_code, exceptionTable := #[], attributes := #[] }
def k7m7 : Method := { name := "<init>", desc := "([CIILjava/lang/Void;)V", sig := { parameters := [(.array .char), .int, .int, (.object "java/lang/Void")], returnType := none }, accessFlags := 2, code := some k7c7 }
def k7c8 : Code := { maxStack := 2, maxLocals := 3, code := jdk_42_method_151_code, exceptionTable := #[], attributes := #[] }
def k7m8 : Method := { name := "<init>", desc := "([BB)V", sig := { parameters := [(.array .byte), .byte], returnType := none }, accessFlags := 0, code := some k7c8 }
def k7c9 : Code := { maxStack := 1, maxLocals := 1, code := jdk_42_method_152_code, exceptionTable := #[], attributes := #[] }
def k7m9 : Method := { name := "coder", desc := "()B", sig := { parameters := [], returnType := some .byte }, accessFlags := 0, code := some k7c9 }
def k7c10 : Code := { maxStack := 1, maxLocals := 1, code := jdk_42_method_154_code, exceptionTable := #[], attributes := #[] }
def k7m10 : Method := { name := "isLatin1", desc := "()Z", sig := { parameters := [], returnType := some .boolean }, accessFlags := 0, code := some k7c10 }
def k7c11 : Code := { maxStack := 3, maxLocals := 2, code := jdk_42_method_155_code, exceptionTable := #[], attributes := #[] }
def k7m11 : Method := { name := "checkIndex", desc := "(II)V", sig := { parameters := [.int, .int], returnType := none }, accessFlags := 8, code := some k7c11 }
/-- java/lang/String -/
def k7 : Class := { plain "java/lang/String" (some 0) with
  accessFlags := 49
  interfaces := #[2, 3, 4, 5, 6]
  cf := some (fileOf pool7 10 #[.nestMembers #[1103]] #[{ accessFlags := 1, nameIndex := 5, descriptorIndex := 6, attributes := #[] }, { accessFlags := 1, nameIndex := 5, descriptorIndex := 1010, attributes := #[] }, { accessFlags := 1, nameIndex := 507, descriptorIndex := 334, attributes := #[] }, { accessFlags := 1, nameIndex := 497, descriptorIndex := 427, attributes := #[] }, { accessFlags := 1, nameIndex := 1256, descriptorIndex := 1257, attributes := #[] }, { accessFlags := 1, nameIndex := 584, descriptorIndex := 585, attributes := #[] }, { accessFlags := 9, nameIndex := 782, descriptorIndex := 783, attributes := #[] }, { accessFlags := 2, nameIndex := 5, descriptorIndex := 29, attributes := #[] }, { accessFlags := 0, nameIndex := 5, descriptorIndex := 211, attributes := #[] }, { accessFlags := 0, nameIndex := 17, descriptorIndex := 337, attributes := #[] }, { accessFlags := 0, nameIndex := 494, descriptorIndex := 142, attributes := #[] }, { accessFlags := 8, nameIndex := 501, descriptorIndex := 391, attributes := #[] }] 49 2 #[1106, 1108, 575, 1110, 1112] #[{ accessFlags := 18, nameIndex := 13, descriptorIndex := 14, attributes := #[] }, { accessFlags := 18, nameIndex := 17, descriptorIndex := 18, attributes := #[] }, { accessFlags := 2, nameIndex := 21, descriptorIndex := 22, attributes := #[] }, { accessFlags := 2, nameIndex := 25, descriptorIndex := 26, attributes := #[] }, { accessFlags := 26, nameIndex := 1116, descriptorIndex := 1117, attributes := #[] }, { accessFlags := 24, nameIndex := 40, descriptorIndex := 26, attributes := #[] }, { accessFlags := 26, nameIndex := 1101, descriptorIndex := 1102, attributes := #[] }, { accessFlags := 26, nameIndex := 1121, descriptorIndex := 1122, attributes := #[] }, { accessFlags := 25, nameIndex := 599, descriptorIndex := 600, attributes := #[] }, { accessFlags := 24, nameIndex := 1125, descriptorIndex := 18, attributes := #[] }, { accessFlags := 24, nameIndex := 1127, descriptorIndex := 18, attributes := #[] }])
  fields := #[{ name := "value", type := (.array .byte), accessFlags := 18, slot := 0, constantValue := 0 }, { name := "coder", type := .byte, accessFlags := 18, slot := 1, constantValue := 0 }, { name := "hash", type := .int, accessFlags := 2, slot := 2, constantValue := 0 }, { name := "hashIsZero", type := .boolean, accessFlags := 2, slot := 3, constantValue := 0 }, { name := "serialVersionUID", type := .long, accessFlags := 26, slot := 0, constantValue := 0 }, { name := "COMPACT_STRINGS", type := .boolean, accessFlags := 24, slot := 1, constantValue := 0 }, { name := "serialPersistentFields", type := (.array (.object "java/io/ObjectStreamField")), accessFlags := 26, slot := 2, constantValue := 0 }, { name := "REPL", type := .char, accessFlags := 26, slot := 3, constantValue := 0 }, { name := "CASE_INSENSITIVE_ORDER", type := (.object "java/util/Comparator"), accessFlags := 25, slot := 4, constantValue := 0 }, { name := "LATIN1", type := .byte, accessFlags := 24, slot := 5, constantValue := 0 }, { name := "UTF16", type := .byte, accessFlags := 24, slot := 6, constantValue := 0 }]
  methods := #[k7m0, k7m1, k7m2, k7m3, k7m4, k7m5, k7m6, k7m7, k7m8, k7m9, k7m10, k7m11]
  instanceTypes := #[(.array .byte), .byte, .int, .boolean]
  staticTypes := #[.long, .boolean, (.array (.object "java/io/ObjectStreamField")), .char, (.object "java/util/Comparator"), .byte, .byte]
  resolved := Array.replicate 1451 none
  statics := some 0 }

def pool8 : Array CpInfo := pool [(1, .class_ 2), (0, u "java/lang/String"), (1, .class_ 6), (1, u "java/lang/Object"), (0, u "<init>"), (0, u "()V"), (0, .methodref 1 10), (0, .nameAndType 11 12), (0, u "checkIndex"), (0, u "(II)V"), (1, .class_ 16), (1, u "java/lang/StringLatin1"), (36, u "([BI)C"), (13, .class_ 69), (1, u "java/lang/CharacterDataLatin1"), (20, u "canEncode"), (14, u "(C)Z"), (15, u "$assertionsDisabled"), (0, u "Z"), (30, .methodref 67 154), (0, .nameAndType 155 156), (0, u "equalsIgnoreCase"), (0, u "(BB)Z"), (64, .class_ 223), (1, u "java/lang/StringLatin1$LinesSpliterator"), (28, u "charAt"), (87, u "regionMatchesCI"), (0, u "([BI[BII)Z"), (38, u "toBytes"), (1, u "(C)[B"), (7, .class_ 391), (0, u "java/lang/StringLatin1$CharsSpliterator")] 3

def k8m0 : Method := { name := "<init>", desc := "()V", sig := { parameters := [], returnType := none }, accessFlags := 0, code := none }
def k8c1 : Code := { maxStack := 2, maxLocals := 2, code := jdk_43_method_2_code, exceptionTable := #[], attributes := #[] }
def k8m1 : Method := { name := "charAt", desc := "([BI)C", sig := { parameters := [(.array .byte), .int], returnType := some .char }, accessFlags := 9, code := some k8c1 }
def k8c2 : Code := { maxStack := 2, maxLocals := 1, code := jdk_43_method_3_code, exceptionTable := #[], attributes := #[] }
def k8m2 : Method := { name := "canEncode", desc := "(C)Z", sig := { parameters := [.char], returnType := some .boolean }, accessFlags := 9, code := some k8c2 }
def k8c3 : Code := { maxStack := 2, maxLocals := 8, code := jdk_43_method_30_code, exceptionTable := #[], attributes := #[] }
def k8m3 : Method := { name := "regionMatchesCI", desc := "([BI[BII)Z", sig := { parameters := [(.array .byte), .int, (.array .byte), .int, .int], returnType := some .boolean }, accessFlags := 9, code := some k8c3 }
def k8c4 : Code := { maxStack := 4, maxLocals := 1, code := jdk_43_method_46_code, exceptionTable := #[], attributes := #[] }
def k8m4 : Method := { name := "toBytes", desc := "(C)[B", sig := { parameters := [.char], returnType := some (.array .byte) }, accessFlags := 9, code := some k8c4 }
/-- java/lang/StringLatin1 -/
def k8 : Class := { plain "java/lang/StringLatin1" (some 0) with
  accessFlags := 48
  interfaces := #[]
  cf := some (fileOf pool8 14 #[.nestMembers #[390, 221]] #[{ accessFlags := 0, nameIndex := 7, descriptorIndex := 8, attributes := #[] }, { accessFlags := 9, nameIndex := 252, descriptorIndex := 53, attributes := #[] }, { accessFlags := 9, nameIndex := 90, descriptorIndex := 105, attributes := #[] }, { accessFlags := 9, nameIndex := 340, descriptorIndex := 341, attributes := #[] }, { accessFlags := 9, nameIndex := 380, descriptorIndex := 382, attributes := #[] }] 48 4 #[] #[{ accessFlags := 4120, nameIndex := 121, descriptorIndex := 122, attributes := #[] }])
  fields := #[{ name := "$assertionsDisabled", type := .boolean, accessFlags := 4120, slot := 0, constantValue := 0 }]
  methods := #[k8m0, k8m1, k8m2, k8m3, k8m4]
  instanceTypes := #[]
  staticTypes := #[.boolean]
  resolved := Array.replicate 395 none
  statics := none }

def pool9 : Array CpInfo := pool [(2, .class_ 4), (1, u "java/lang/Enum"), (0, u "name"), (0, u "Ljava/lang/String;"), (2, u "ordinal"), (0, u "I"), (1, .class_ 14), (1, u "java/lang/Object"), (4, u "hash"), (86, .class_ 108), (1, u "java/lang/Enum$EnumDesc"), (2, .class_ 112), (0, u "java/lang/constant/Constable"), (0, .class_ 114), (0, u "java/lang/Comparable"), (0, .class_ 116), (0, u "java/io/Serializable")] 87

/-- java/lang/Enum -/
def k9 : Class := { plain "java/lang/Enum" (some 0) with
  accessFlags := 1057
  interfaces := #[5, 3, 2]
  cf := some (fileOf pool9 2 #[.nestMembers #[106]] #[] 1057 12 #[111, 113, 115] #[{ accessFlags := 18, nameIndex := 5, descriptorIndex := 6, attributes := #[] }, { accessFlags := 18, nameIndex := 9, descriptorIndex := 10, attributes := #[] }, { accessFlags := 2, nameIndex := 19, descriptorIndex := 10, attributes := #[] }])
  fields := #[{ name := "name", type := (.object "java/lang/String"), accessFlags := 18, slot := 0, constantValue := 0 }, { name := "ordinal", type := .int, accessFlags := 18, slot := 1, constantValue := 0 }, { name := "hash", type := .int, accessFlags := 2, slot := 2, constantValue := 0 }]
  methods := #[]
  instanceTypes := #[(.object "java/lang/String"), .int, .int]
  staticTypes := #[]
  resolved := Array.replicate 204 none
  statics := none }

def pool10 : Array CpInfo := pool [(1, .class_ 2), (0, u "com/example/deadline/deadline/CallbackScheme"), (2, u "HTTP"), (0, u "Lcom/example/deadline/deadline/CallbackScheme;"), (2, u "HTTPS"), (0, .fieldref 1 11), (0, .nameAndType 12 13), (0, u "$VALUES"), (0, u "[Lcom/example/deadline/deadline/CallbackScheme;"), (0, .methodref 15 16), (0, .class_ 13), (0, .nameAndType 17 18), (0, u "clone"), (0, u "()Ljava/lang/Object;"), (1, .class_ 22), (1, u "java/lang/Enum"), (6, .fieldref 1 30), (0, .nameAndType 31 32), (0, u "name"), (0, u "Ljava/lang/String;"), (2, u "defaultPort"), (0, u "I"), (2, u "tls"), (0, u "Z"), (0, .methodref 1 42), (0, .nameAndType 43 44), (0, u "values"), (0, u "()[Lcom/example/deadline/deadline/CallbackScheme;"), (0, .methodref 46 47), (0, .class_ 48), (0, .nameAndType 49 50), (0, u "java/lang/String"), (0, u "equalsIgnoreCase"), (0, u "(Ljava/lang/String;)Z"), (8, u "named"), (0, u "(Ljava/lang/String;)Lcom/example/deadline/deadline/CallbackScheme;")] 52

def k10c0 : Code := { maxStack := 1, maxLocals := 0, code := prog_17_method_1_code, exceptionTable := #[], attributes := #[] }
def k10m0 : Method := { name := "values", desc := "()[Lcom/example/deadline/deadline/CallbackScheme;", sig := { parameters := [], returnType := some (.array (.object "com/example/deadline/deadline/CallbackScheme")) }, accessFlags := 9, code := some k10c0 }
def k10c1 : Code := { maxStack := 2, maxLocals := 6, code := prog_17_method_4_code, exceptionTable := #[], attributes := #[] }
def k10m1 : Method := { name := "named", desc := "(Ljava/lang/String;)Lcom/example/deadline/deadline/CallbackScheme;", sig := { parameters := [(.object "java/lang/String")], returnType := some (.object "com/example/deadline/deadline/CallbackScheme") }, accessFlags := 8, code := some k10c1 }
/-- com/example/deadline/deadline/CallbackScheme -/
def k10 : Class := { plain "com/example/deadline/deadline/CallbackScheme" (some 9) with
  accessFlags := 16432
  interfaces := #[]
  cf := some (fileOf pool10 1 #[] #[{ accessFlags := 9, nameIndex := 43, descriptorIndex := 44, attributes := #[] }, { accessFlags := 8, nameIndex := 59, descriptorIndex := 60, attributes := #[] }] 16432 20 #[] #[{ accessFlags := 16409, nameIndex := 5, descriptorIndex := 6, attributes := #[] }, { accessFlags := 16409, nameIndex := 9, descriptorIndex := 6, attributes := #[] }, { accessFlags := 18, nameIndex := 31, descriptorIndex := 32, attributes := #[] }, { accessFlags := 18, nameIndex := 35, descriptorIndex := 36, attributes := #[] }, { accessFlags := 18, nameIndex := 39, descriptorIndex := 40, attributes := #[] }, { accessFlags := 4122, nameIndex := 12, descriptorIndex := 13, attributes := #[] }])
  fields := #[{ name := "HTTP", type := (.object "com/example/deadline/deadline/CallbackScheme"), accessFlags := 16409, slot := 0, constantValue := 0 }, { name := "HTTPS", type := (.object "com/example/deadline/deadline/CallbackScheme"), accessFlags := 16409, slot := 1, constantValue := 0 }, { name := "name", type := (.object "java/lang/String"), accessFlags := 18, slot := 3, constantValue := 0 }, { name := "defaultPort", type := .int, accessFlags := 18, slot := 4, constantValue := 0 }, { name := "tls", type := .boolean, accessFlags := 18, slot := 5, constantValue := 0 }, { name := "$VALUES", type := (.array (.object "com/example/deadline/deadline/CallbackScheme")), accessFlags := 4122, slot := 2, constantValue := 0 }]
  methods := #[k10m0, k10m1]
  instanceTypes := #[(.object "java/lang/String"), .int, .int, (.object "java/lang/String"), .int, .boolean]
  staticTypes := #[(.object "com/example/deadline/deadline/CallbackScheme"), (.object "com/example/deadline/deadline/CallbackScheme"), (.array (.object "com/example/deadline/deadline/CallbackScheme"))]
  resolved := Array.replicate 113 none
  statics := some 1 }

def pool11 : Array CpInfo := pool [(1, .class_ 2), (0, u "java/lang/Cloneable"), (0, .class_ 4), (0, u "java/lang/Object")] 2

/-- java/lang/Cloneable -/
def k11 : Class := { plain "java/lang/Cloneable" (some 0) with
  accessFlags := 1537
  interfaces := #[]
  cf := some (fileOf pool11 1 #[] #[] 1537 3 #[] #[])
  fields := #[]
  methods := #[]
  instanceTypes := #[]
  staticTypes := #[]
  resolved := Array.replicate 7 none
  statics := none }

def pool12 : Array CpInfo := pool [(6, .class_ 8), (1, u "java/lang/Object"), (0, u "<init>"), (0, u "()V"), (1, .class_ 14), (1, u "java/lang/StringUTF16"), (31, u "$assertionsDisabled"), (0, u "Z"), (13, u "HI_BYTE_SHIFT"), (0, u "I"), (2, u "LO_BYTE_SHIFT"), (49, .methodref 12 116), (0, .nameAndType 117 118), (0, u "compress"), (0, u "([CI[BII)I"), (3, u "([CII)[B"), (138, u "coderFromArrayLen"), (0, u "([BI)B"), (106, .class_ 371), (1, u "java/lang/StringUTF16$LinesSpliterator"), (58, u "MAX_LENGTH"), (196, .class_ 628), (0, u "java/lang/StringUTF16$CodePointsSpliterator"), (0, .class_ 630), (0, u "java/lang/StringUTF16$CharsSpliterator")] 4

def k12m0 : Method := { name := "<init>", desc := "()V", sig := { parameters := [], returnType := none }, accessFlags := 0, code := none }
def k12c1 : Code := { maxStack := 2, maxLocals := 2, code := jdk_52_method_15_code, exceptionTable := #[], attributes := #[] }
def k12m1 : Method := { name := "coderFromArrayLen", desc := "([BI)B", sig := { parameters := [(.array .byte), .int], returnType := some .byte }, accessFlags := 8, code := some k12c1 }
def k12c2 : Code := { maxStack := 5, maxLocals := 6, code := jdk_52_method_16_code, exceptionTable := #[], attributes := #[] }
def k12m2 : Method := { name := "compress", desc := "([CII)[B", sig := { parameters := [(.array .char), .int, .int], returnType := some (.array .byte) }, accessFlags := 9, code := some k12c2 }
def k12c3 : Code := { maxStack := 3, maxLocals := 7, code := jdk_52_method_21_code, exceptionTable := #[], attributes := #[] }
def k12m3 : Method := { name := "compress", desc := "([CI[BII)I", sig := { parameters := [(.array .char), .int, (.array .byte), .int, .int], returnType := some .int }, accessFlags := 9, code := some k12c3 }
/-- java/lang/StringUTF16 -/
def k12 : Class := { plain "java/lang/StringUTF16" (some 0) with
  accessFlags := 48
  interfaces := #[]
  cf := some (fileOf pool12 12 #[.nestMembers #[627, 629, 369]] #[{ accessFlags := 0, nameIndex := 9, descriptorIndex := 10, attributes := #[] }, { accessFlags := 8, nameIndex := 261, descriptorIndex := 262, attributes := #[] }, { accessFlags := 9, nameIndex := 117, descriptorIndex := 122, attributes := #[] }, { accessFlags := 9, nameIndex := 117, descriptorIndex := 118, attributes := #[] }] 48 6 #[] #[{ accessFlags := 26, nameIndex := 61, descriptorIndex := 62, attributes := #[] }, { accessFlags := 26, nameIndex := 65, descriptorIndex := 62, attributes := #[] }, { accessFlags := 24, nameIndex := 430, descriptorIndex := 62, attributes := #[] }, { accessFlags := 4120, nameIndex := 46, descriptorIndex := 47, attributes := #[] }])
  fields := #[{ name := "HI_BYTE_SHIFT", type := .int, accessFlags := 26, slot := 0, constantValue := 0 }, { name := "LO_BYTE_SHIFT", type := .int, accessFlags := 26, slot := 1, constantValue := 0 }, { name := "MAX_LENGTH", type := .int, accessFlags := 24, slot := 2, constantValue := 0 }, { name := "$assertionsDisabled", type := .boolean, accessFlags := 4120, slot := 3, constantValue := 0 }]
  methods := #[k12m0, k12m1, k12m2, k12m3]
  instanceTypes := #[]
  staticTypes := #[.int, .int, .int, .boolean]
  resolved := Array.replicate 635 none
  statics := none }

def pool13 : Array CpInfo := pool [(2, .class_ 4), (1, u "java/lang/Object"), (0, u "<init>"), (0, u "()V"), (17, .class_ 26), (1, u "jdk/internal/util/Preconditions"), (6, u "checkIndex"), (21, .class_ 56), (0, u "jdk/internal/util/Preconditions$4"), (57, .class_ 115), (0, u "jdk/internal/util/Preconditions$1"), (7, u "SIOOBE_FORMATTER"), (0, u "Ljava/util/function/BiFunction;"), (0, .class_ 126), (0, u "jdk/internal/util/Preconditions$2"), (3, u "AIOOBE_FORMATTER"), (0, .class_ 132), (0, u "jdk/internal/util/Preconditions$3"), (3, u "IOOBE_FORMATTER"), (41, u "(IILjava/util/function/BiFunction;)I")] 15

def k13m0 : Method := { name := "<init>", desc := "()V", sig := { parameters := [], returnType := none }, accessFlags := 1, code := none }
def k13c1 : Code := { maxStack := 3, maxLocals := 3, code := jdk_41_method_11_code, exceptionTable := #[], attributes := #[] }
def k13m1 : Method := { name := "checkIndex", desc := "(IILjava/util/function/BiFunction;)I", sig := { parameters := [.int, .int, (.object "java/util/function/BiFunction")], returnType := some .int }, accessFlags := 9, code := some k13c1 }
/-- jdk/internal/util/Preconditions -/
def k13 : Class := { plain "jdk/internal/util/Preconditions" (some 0) with
  accessFlags := 33
  interfaces := #[]
  cf := some (fileOf pool13 24 #[.nestMembers #[55, 131, 125, 114]] #[{ accessFlags := 1, nameIndex := 5, descriptorIndex := 6, attributes := #[] }, { accessFlags := 9, nameIndex := 33, descriptorIndex := 178, attributes := #[] }] 33 2 #[] #[{ accessFlags := 25, nameIndex := 123, descriptorIndex := 124, attributes := #[] }, { accessFlags := 25, nameIndex := 130, descriptorIndex := 124, attributes := #[] }, { accessFlags := 25, nameIndex := 136, descriptorIndex := 124, attributes := #[] }])
  fields := #[{ name := "SIOOBE_FORMATTER", type := (.object "java/util/function/BiFunction"), accessFlags := 25, slot := 0, constantValue := 0 }, { name := "AIOOBE_FORMATTER", type := (.object "java/util/function/BiFunction"), accessFlags := 25, slot := 1, constantValue := 0 }, { name := "IOOBE_FORMATTER", type := (.object "java/util/function/BiFunction"), accessFlags := 25, slot := 2, constantValue := 0 }]
  methods := #[k13m0, k13m1]
  instanceTypes := #[]
  staticTypes := #[(.object "java/util/function/BiFunction"), (.object "java/util/function/BiFunction"), (.object "java/util/function/BiFunction")]
  resolved := Array.replicate 194 none
  statics := some 2 }

def pool14 : Array CpInfo := pool [(2, .class_ 4), (1, u "java/lang/Object"), (0, u "<init>"), (0, u "()V"), (1, .class_ 10), (1, u "java/lang/CharacterData")] 75

def k14m0 : Method := { name := "<init>", desc := "()V", sig := { parameters := [], returnType := none }, accessFlags := 0, code := none }
/-- java/lang/CharacterData -/
def k14 : Class := { plain "java/lang/CharacterData" (some 0) with
  accessFlags := 1056
  interfaces := #[]
  cf := some (fileOf pool14 8 #[] #[{ accessFlags := 0, nameIndex := 5, descriptorIndex := 6, attributes := #[] }] 1056 2 #[] #[])
  fields := #[]
  methods := #[k14m0]
  instanceTypes := #[]
  staticTypes := #[]
  resolved := Array.replicate 86 none
  statics := none }

def pool15 : Array CpInfo := pool [(2, .class_ 4), (1, u "java/lang/CharacterDataLatin1"), (0, u "A"), (0, u "[I"), (2, u "B"), (0, u "[C"), (16, u "DIGITS"), (0, u "[B"), (8, u "sharpsMap"), (1, .class_ 41), (1, u "java/lang/CharacterData"), (0, u "<init>"), (0, u "()V"), (3, u "instance"), (0, u "Ljava/lang/CharacterDataLatin1;"), (66, u "equalsIgnoreCase"), (0, u "(BB)Z")] 24

def k15c0 : Code := { maxStack := 3, maxLocals := 3, code := jdk_116_method_22_code, exceptionTable := #[], attributes := #[] }
def k15m0 : Method := { name := "equalsIgnoreCase", desc := "(BB)Z", sig := { parameters := [.byte, .byte], returnType := some .boolean }, accessFlags := 8, code := some k15c0 }
def k15m1 : Method := { name := "<init>", desc := "()V", sig := { parameters := [], returnType := none }, accessFlags := 2, code := none }
/-- java/lang/CharacterDataLatin1 -/
def k15 : Class := { plain "java/lang/CharacterDataLatin1" (some 14) with
  accessFlags := 32
  interfaces := #[]
  cf := some (fileOf pool15 2 #[] #[{ accessFlags := 8, nameIndex := 115, descriptorIndex := 116, attributes := #[] }, { accessFlags := 2, nameIndex := 42, descriptorIndex := 43, attributes := #[] }] 32 39 #[] #[{ accessFlags := 26, nameIndex := 27, descriptorIndex := 28, attributes := #[] }, { accessFlags := 8, nameIndex := 37, descriptorIndex := 10, attributes := #[] }, { accessFlags := 24, nameIndex := 47, descriptorIndex := 48, attributes := #[] }, { accessFlags := 24, nameIndex := 5, descriptorIndex := 6, attributes := #[] }, { accessFlags := 24, nameIndex := 9, descriptorIndex := 10, attributes := #[] }])
  fields := #[{ name := "DIGITS", type := (.array .byte), accessFlags := 26, slot := 0, constantValue := 0 }, { name := "sharpsMap", type := (.array .char), accessFlags := 8, slot := 1, constantValue := 0 }, { name := "instance", type := (.object "java/lang/CharacterDataLatin1"), accessFlags := 24, slot := 2, constantValue := 0 }, { name := "A", type := (.array .int), accessFlags := 24, slot := 3, constantValue := 0 }, { name := "B", type := (.array .char), accessFlags := 24, slot := 4, constantValue := 0 }]
  methods := #[k15m0, k15m1]
  instanceTypes := #[]
  staticTypes := #[(.array .byte), (.array .char), (.object "java/lang/CharacterDataLatin1"), (.array .int), (.array .char)]
  resolved := Array.replicate 141 none
  statics := none }

def pool16 : Array CpInfo := pool [(9, u "<init>"), (6, .class_ 18), (1, u "java/lang/Object"), (0, u "()V"), (1, .class_ 23), (1, u "jdk/internal/util/ArraysSupport"), (0, u "LOG2_ARRAY_LONG_INDEX_SCALE"), (0, u "I"), (2, u "U"), (0, u "Ljdk/internal/misc/Unsafe;"), (8, u "BIG_ENDIAN"), (0, u "Z"), (8, u "LOG2_BYTE_BIT_SIZE"), (4, u "LOG2_ARRAY_INT_INDEX_SCALE"), (54, u "JLA"), (0, u "Ljdk/internal/access/JavaLangAccess;"), (11, u "LOG2_ARRAY_BOOLEAN_INDEX_SCALE"), (9, u "LOG2_ARRAY_BYTE_INDEX_SCALE"), (5, u "LOG2_ARRAY_CHAR_INDEX_SCALE"), (5, u "LOG2_ARRAY_SHORT_INDEX_SCALE"), (18, u "LOG2_ARRAY_FLOAT_INDEX_SCALE"), (24, u "LOG2_ARRAY_DOUBLE_INDEX_SCALE"), (89, u "T_BOOLEAN"), (2, u "T_CHAR"), (1, u "T_FLOAT"), (1, u "T_DOUBLE"), (1, u "T_BYTE"), (1, u "T_SHORT"), (1, u "T_INT"), (1, u "T_LONG"), (1, u "SOFT_MAX_ARRAY_LENGTH")] 83

def k16m0 : Method := { name := "<init>", desc := "()V", sig := { parameters := [], returnType := none }, accessFlags := 2, code := none }
/-- jdk/internal/util/ArraysSupport -/
def k16 : Class := { plain "jdk/internal/util/ArraysSupport" (some 0) with
  accessFlags := 33
  interfaces := #[]
  cf := some (fileOf pool16 21 #[] #[{ accessFlags := 2, nameIndex := 9, descriptorIndex := 19, attributes := #[] }] 33 16 #[] #[{ accessFlags := 24, nameIndex := 28, descriptorIndex := 29, attributes := #[] }, { accessFlags := 26, nameIndex := 38, descriptorIndex := 39, attributes := #[] }, { accessFlags := 25, nameIndex := 121, descriptorIndex := 25, attributes := #[] }, { accessFlags := 25, nameIndex := 131, descriptorIndex := 25, attributes := #[] }, { accessFlags := 25, nameIndex := 137, descriptorIndex := 25, attributes := #[] }, { accessFlags := 25, nameIndex := 143, descriptorIndex := 25, attributes := #[] }, { accessFlags := 25, nameIndex := 53, descriptorIndex := 25, attributes := #[] }, { accessFlags := 25, nameIndex := 24, descriptorIndex := 25, attributes := #[] }, { accessFlags := 25, nameIndex := 162, descriptorIndex := 25, attributes := #[] }, { accessFlags := 25, nameIndex := 187, descriptorIndex := 25, attributes := #[] }, { accessFlags := 26, nameIndex := 48, descriptorIndex := 25, attributes := #[] }, { accessFlags := 25, nameIndex := 277, descriptorIndex := 25, attributes := #[] }, { accessFlags := 25, nameIndex := 280, descriptorIndex := 25, attributes := #[] }, { accessFlags := 25, nameIndex := 282, descriptorIndex := 25, attributes := #[] }, { accessFlags := 25, nameIndex := 284, descriptorIndex := 25, attributes := #[] }, { accessFlags := 25, nameIndex := 286, descriptorIndex := 25, attributes := #[] }, { accessFlags := 25, nameIndex := 288, descriptorIndex := 25, attributes := #[] }, { accessFlags := 25, nameIndex := 290, descriptorIndex := 25, attributes := #[] }, { accessFlags := 25, nameIndex := 292, descriptorIndex := 25, attributes := #[] }, { accessFlags := 26, nameIndex := 108, descriptorIndex := 109, attributes := #[] }, { accessFlags := 25, nameIndex := 294, descriptorIndex := 25, attributes := #[] }])
  fields := #[{ name := "U", type := (.object "jdk/internal/misc/Unsafe"), accessFlags := 24, slot := 0, constantValue := 0 }, { name := "BIG_ENDIAN", type := .boolean, accessFlags := 26, slot := 1, constantValue := 0 }, { name := "LOG2_ARRAY_BOOLEAN_INDEX_SCALE", type := .int, accessFlags := 25, slot := 2, constantValue := 0 }, { name := "LOG2_ARRAY_BYTE_INDEX_SCALE", type := .int, accessFlags := 25, slot := 3, constantValue := 0 }, { name := "LOG2_ARRAY_CHAR_INDEX_SCALE", type := .int, accessFlags := 25, slot := 4, constantValue := 0 }, { name := "LOG2_ARRAY_SHORT_INDEX_SCALE", type := .int, accessFlags := 25, slot := 5, constantValue := 0 }, { name := "LOG2_ARRAY_INT_INDEX_SCALE", type := .int, accessFlags := 25, slot := 6, constantValue := 0 }, { name := "LOG2_ARRAY_LONG_INDEX_SCALE", type := .int, accessFlags := 25, slot := 7, constantValue := 0 }, { name := "LOG2_ARRAY_FLOAT_INDEX_SCALE", type := .int, accessFlags := 25, slot := 8, constantValue := 0 }, { name := "LOG2_ARRAY_DOUBLE_INDEX_SCALE", type := .int, accessFlags := 25, slot := 9, constantValue := 0 }, { name := "LOG2_BYTE_BIT_SIZE", type := .int, accessFlags := 26, slot := 10, constantValue := 0 }, { name := "T_BOOLEAN", type := .int, accessFlags := 25, slot := 11, constantValue := 0 }, { name := "T_CHAR", type := .int, accessFlags := 25, slot := 12, constantValue := 0 }, { name := "T_FLOAT", type := .int, accessFlags := 25, slot := 13, constantValue := 0 }, { name := "T_DOUBLE", type := .int, accessFlags := 25, slot := 14, constantValue := 0 }, { name := "T_BYTE", type := .int, accessFlags := 25, slot := 15, constantValue := 0 }, { name := "T_SHORT", type := .int, accessFlags := 25, slot := 16, constantValue := 0 }, { name := "T_INT", type := .int, accessFlags := 25, slot := 17, constantValue := 0 }, { name := "T_LONG", type := .int, accessFlags := 25, slot := 18, constantValue := 0 }, { name := "JLA", type := (.object "jdk/internal/access/JavaLangAccess"), accessFlags := 26, slot := 19, constantValue := 0 }, { name := "SOFT_MAX_ARRAY_LENGTH", type := .int, accessFlags := 25, slot := 20, constantValue := 0 }]
  methods := #[k16m0]
  instanceTypes := #[]
  staticTypes := #[(.object "jdk/internal/misc/Unsafe"), .boolean, .int, .int, .int, .int, .int, .int, .int, .int, .int, .int, .int, .int, .int, .int, .int, .int, .int, (.object "jdk/internal/access/JavaLangAccess"), .int]
  resolved := Array.replicate 378 none
  statics := none }

/-- the primitive byte -/
def k17 : Class := { plain "byte" none with kind := .primitive 'B', accessFlags := 0x411 }
/-- [B -/
def k18 : Class := { plain "[B" (some 0) with kind := .array 17 .byte, interfaces := #[11, 2], accessFlags := 1041 }

/-- the primitive char -/
def k19 : Class := { plain "char" none with kind := .primitive 'C', accessFlags := 0x411 }
/-- [C -/
def k20 : Class := { plain "[C" (some 0) with kind := .array 19 .char, interfaces := #[11, 2], accessFlags := 1041 }

/-- the primitive int -/
def k21 : Class := { plain "int" none with kind := .primitive 'I', accessFlags := 0x411 }
/-- [I -/
def k22 : Class := { plain "[I" (some 0) with kind := .array 21 .int, interfaces := #[11, 2], accessFlags := 1041 }

/-- [Lcom/example/deadline/deadline/CallbackScheme; -/
def k23 : Class := { plain "[Lcom/example/deadline/deadline/CallbackScheme;" (some 0) with kind := .array 10 (.object "com/example/deadline/deadline/CallbackScheme"), interfaces := #[11, 2], accessFlags := 1041 }

def heap : Heap := #[{ cls := 7, slots := #[.long 0, .int 1, .null, .int 0, .null, .int 0, .int 0], vm := .statics 7 },
  { cls := 10, slots := #[.ref 4, .ref 5, .ref 3], vm := .statics 10 },
  { cls := 13, slots := #[.null, .null, .null], vm := .statics 13 },
  { cls := 23, slots := #[.ref 4, .ref 5], vm := .none },
  { cls := 10, slots := #[.null, .int 0, .int 0, .ref 6, .int 80, .int 0], vm := .none },
  { cls := 10, slots := #[.null, .int 1, .int 0, .ref 7, .int 443, .int 1], vm := .none },
  { cls := 7, slots := #[.ref 8, .int 0, .int 0, .int 0], vm := .none },
  { cls := 7, slots := #[.ref 9, .int 0, .int 0, .int 0], vm := .none },
  { cls := 18, slots := #[.int 104, .int 116, .int 116, .int 112], vm := .none },
  { cls := 18, slots := #[.int 104, .int 116, .int 116, .int 112, .int 115], vm := .none }]
def classes : Array Class := #[k0, k1, k2, k3, k4, k5, k6, k7, k8, k9, k10, k11, k12, k13, k14, k15, k16, k17, k18, k19, k20, k21, k22, k23]
def interned : List (Array UInt16 × Addr) := []
def slotsUsed : Nat := 44
def theMethod : MethodId := ⟨1, 4⟩
def args0 : Array Value := #[.int 5, .int 3, .int 63, .int 4]
def aboutOver (below : List Frame) : State where
  vm := { classes := classes, interned := interned.toArray }
  heap := heap
  slotsUsed := slotsUsed
  threads := #[{ frames := .invoking theMethod args0 :: below }]
def below0 : List Frame := [.native { method := ⟨0, 0⟩, args := #[] }]
def about1 : State := aboutOver below0
def p0 : Program := .bare "" "" ""
def e0 : Env := launch0.env 0 0 0
theorem w_frames : about1.frames = Frame.invoking theMethod args0 :: below0 := rfl
set_option maxRecDepth 65536 in
theorem w_args : argsFit about1.vm theMethod args0 = true := by decide +kernel
set_option maxRecDepth 65536 in
theorem w_heap : heapFits about1 = true := by decide +kernel
set_option maxRecDepth 65536 in
theorem w_runnable : about1.curStatus? = some .runnable := by decide +kernel
set_option maxRecDepth 65536 in
theorem w_alone : about1.alone = true := by decide +kernel
set_option maxRecDepth 65536 in
theorem w_named : about1.methodNamed? x = some theMethod := by decide +kernel
set_option maxRecDepth 65536 in
theorem w_hears : about1.hears theMethod below0 = true := by decide +kernel
set_option maxRecDepth 65536 in
theorem w_ripe : about1.ripe theMethod args0 below0 = true := by decide +kernel
theorem w_running : about1.status = .running := rfl
set_option maxRecDepth 65536 in
theorem w_room : about1.hasRoom e0.platform room_1 = true :=
  launch0.hasRoom_least _ room_1 (by decide +kernel) (by decide +kernel) (by decide +kernel) (by decide +kernel) (by decide +kernel) (by decide +kernel)
theorem allAtoms_all (ts : List Jvm.Cond) (a : Array Jvm.Value) (st : Jvm.State) : (allAtoms ts).before a st = ts.all (fun c => c.before a st) := by
  induction ts with
  | nil => rfl
  | cons c t ih =>
    show (Jvm.Cond.and c (allAtoms t)).before a st = _
    rw [Jvm.Cond.before_and, ih, List.all_cons]
def words1 : List Jvm.Cond := Jvm.Cond.code x code maxLocals ret :: tables_1
/-- a 'code' word, met by the world's own term for the bytes: nothing is compared byte by byte -/
theorem code_word {y : MethodName} {bytes : ByteArray} {mx : Nat} {rt : Option FieldType} {a : Array Value} {s : State} {m : MethodId} {meth : Method} {c : Code} (h1 : s.methodNamed? y = some m) (h2 : s.vm.method? m = some meth) (h3 : meth.code = some c) (h4 : c.code = bytes)
    (h5 : (c.maxLocals == mx && c.exceptionTable.isEmpty && decide (c.maxStack ≤ mostOperands) && decide (meth.sig.returnType = rt) && !meth.locks && decide (parseMethodDescriptor y.desc = some meth.sig)) = true) : (Jvm.Cond.code y bytes mx rt).before a s = true := by
  simp only [Bool.and_eq_true, beq_iff_eq, Bool.not_eq_true', decide_eq_true_eq] at h5
  obtain ⟨⟨⟨⟨⟨g1, g2⟩, g3⟩, g4⟩, g5⟩, g6⟩ := h5
  simp [Cond.before, Cond.holds, Cond.value, h1, h2, h3, h4, g1, g2, g3, g4, g5, g6]
def isCode : Jvm.Cond → Bool
  | .code _ _ _ _ => true
  | _ => false
theorem all_split {L : List Jvm.Cond} {P : Jvm.Cond → Bool} (h1 : L.all (fun c => isCode c || P c) = true) (h2 : ∀ c ∈ L.filter isCode, P c = true) : L.all P = true := by
  refine List.all_eq_true.mpr fun c hc => ?_
  have h := List.all_eq_true.mp h1 c hc
  rcases Bool.eq_false_or_eq_true (isCode c) with hi | hi
  · exact h2 c (List.mem_filter.mpr ⟨hc, hi⟩)
  · simpa [hi] using h
set_option maxRecDepth 65536 in
theorem w_c0 : (Jvm.Cond.code x code maxLocals ret).before args0 about1 = true := code_word (m := ⟨1, 4⟩) (meth := k1m4) (c := k1c4) (by decide +kernel) rfl rfl rfl (by decide +kernel)
set_option maxRecDepth 65536 in
theorem w_c1 : (Jvm.Cond.code ({ cls := "com/example/deadline/deadline/CallbackSchemeNamedPinLaw", name := "pick", desc := "(IIC)C" } : Jvm.MethodName) method_2_code (4 : Nat) (Option.some Jvm.ClassFile.FieldType.char)).before args0 about1 = true := code_word (m := ⟨1, 1⟩) (meth := k1m1) (c := k1c1) (by decide +kernel) rfl rfl rfl (by decide +kernel)
set_option maxRecDepth 65536 in
theorem w_c2 : (Jvm.Cond.code ({ cls := "com/example/deadline/deadline/CallbackSchemeNamedPinLaw", name := "make", desc := "(ICCCCCC)Ljava/lang/String;" } : Jvm.MethodName) method_3_code (7 : Nat) (Option.some (Jvm.ClassFile.FieldType.object "java/lang/String"))).before args0 about1 = true := code_word (m := ⟨1, 2⟩) (meth := k1m2) (c := k1c2) (by decide +kernel) rfl rfl rfl (by decide +kernel)
set_option maxRecDepth 65536 in
theorem w_c3 : (Jvm.Cond.code ({ cls := "java/lang/String", name := "valueOf", desc := "(C)Ljava/lang/String;" } : Jvm.MethodName) jdk_42_method_139_code (1 : Nat) (Option.some (Jvm.ClassFile.FieldType.object "java/lang/String"))).before args0 about1 = true := code_word (m := ⟨7, 6⟩) (meth := k7m6) (c := k7c6) (by decide +kernel) rfl rfl rfl (by decide +kernel)
set_option maxRecDepth 65536 in
theorem w_c4 : (Jvm.Cond.code ({ cls := "java/lang/StringLatin1", name := "canEncode", desc := "(C)Z" } : Jvm.MethodName) jdk_43_method_3_code (1 : Nat) (Option.some Jvm.ClassFile.FieldType.boolean)).before args0 about1 = true := code_word (m := ⟨8, 2⟩) (meth := k8m2) (c := k8c2) (by decide +kernel) rfl rfl rfl (by decide +kernel)
set_option maxRecDepth 65536 in
theorem w_c5 : (Jvm.Cond.code ({ cls := "java/lang/StringLatin1", name := "toBytes", desc := "(C)[B" } : Jvm.MethodName) jdk_43_method_46_code (1 : Nat) (Option.some (Jvm.ClassFile.FieldType.array Jvm.ClassFile.FieldType.byte))).before args0 about1 = true := code_word (m := ⟨8, 4⟩) (meth := k8m4) (c := k8c4) (by decide +kernel) rfl rfl rfl (by decide +kernel)
set_option maxRecDepth 65536 in
theorem w_c6 : (Jvm.Cond.code ({ cls := "java/lang/String", name := "<init>", desc := "([BB)V" } : Jvm.MethodName) jdk_42_method_151_code (3 : Nat) (Option.none : Option Jvm.ClassFile.FieldType)).before args0 about1 = true := code_word (m := ⟨7, 8⟩) (meth := k7m8) (c := k7c8) (by decide +kernel) rfl rfl rfl (by decide +kernel)
set_option maxRecDepth 65536 in
theorem w_c7 : (Jvm.Cond.code ({ cls := "java/lang/Object", name := "<init>", desc := "()V" } : Jvm.MethodName) object_method_1_code (1 : Nat) (Option.none : Option Jvm.ClassFile.FieldType)).before args0 about1 = true := code_word (m := ⟨0, 0⟩) (meth := k0m0) (c := k0c0) (by decide +kernel) rfl rfl rfl (by decide +kernel)
set_option maxRecDepth 65536 in
theorem w_c8 : (Jvm.Cond.code ({ cls := "java/lang/String", name := "length", desc := "()I" } : Jvm.MethodName) jdk_42_method_54_code (1 : Nat) (Option.some Jvm.ClassFile.FieldType.int)).before args0 about1 = true := code_word (m := ⟨7, 2⟩) (meth := k7m2) (c := k7c2) (by decide +kernel) rfl rfl rfl (by decide +kernel)
set_option maxRecDepth 65536 in
theorem w_c9 : (Jvm.Cond.code ({ cls := "java/lang/String", name := "coder", desc := "()B" } : Jvm.MethodName) jdk_42_method_152_code (1 : Nat) (Option.some Jvm.ClassFile.FieldType.byte)).before args0 about1 = true := code_word (m := ⟨7, 9⟩) (meth := k7m9) (c := k7c9) (by decide +kernel) rfl rfl rfl (by decide +kernel)
set_option maxRecDepth 65536 in
theorem w_c10 : (Jvm.Cond.code ({ cls := "com/example/deadline/deadline/CallbackScheme", name := "named", desc := "(Ljava/lang/String;)Lcom/example/deadline/deadline/CallbackScheme;" } : Jvm.MethodName) prog_17_method_4_code (6 : Nat) (Option.some (Jvm.ClassFile.FieldType.object "com/example/deadline/deadline/CallbackScheme"))).before args0 about1 = true := code_word (m := ⟨10, 1⟩) (meth := k10m1) (c := k10c1) (by decide +kernel) rfl rfl rfl (by decide +kernel)
set_option maxRecDepth 65536 in
theorem w_c11 : (Jvm.Cond.code ({ cls := "com/example/deadline/deadline/CallbackScheme", name := "values", desc := "()[Lcom/example/deadline/deadline/CallbackScheme;" } : Jvm.MethodName) prog_17_method_1_code (0 : Nat) (Option.some (Jvm.ClassFile.FieldType.array (Jvm.ClassFile.FieldType.object "com/example/deadline/deadline/CallbackScheme")))).before args0 about1 = true := code_word (m := ⟨10, 0⟩) (meth := k10m0) (c := k10c0) (by decide +kernel) rfl rfl rfl (by decide +kernel)
set_option maxRecDepth 65536 in
theorem w_c12 : (Jvm.Cond.code ({ cls := "java/lang/String", name := "equalsIgnoreCase", desc := "(Ljava/lang/String;)Z" } : Jvm.MethodName) jdk_42_method_70_code (2 : Nat) (Option.some Jvm.ClassFile.FieldType.boolean)).before args0 about1 = true := code_word (m := ⟨7, 4⟩) (meth := k7m4) (c := k7c4) (by decide +kernel) rfl rfl rfl (by decide +kernel)
set_option maxRecDepth 65536 in
theorem w_c13 : (Jvm.Cond.code ({ cls := "java/lang/String", name := "<init>", desc := "([C)V" } : Jvm.MethodName) jdk_42_method_3_code (2 : Nat) (Option.none : Option Jvm.ClassFile.FieldType)).before args0 about1 = true := code_word (m := ⟨7, 1⟩) (meth := k7m1) (c := k7c1) (by decide +kernel) rfl rfl rfl (by decide +kernel)
set_option maxRecDepth 65536 in
theorem w_c14 : (Jvm.Cond.code ({ cls := "java/lang/String", name := "<init>", desc := "([CIILjava/lang/Void;)V" } : Jvm.MethodName) jdk_42_method_149_code (6 : Nat) (Option.none : Option Jvm.ClassFile.FieldType)).before args0 about1 = true := code_word (m := ⟨7, 7⟩) (meth := k7m7) (c := k7c7) (by decide +kernel) rfl rfl rfl (by decide +kernel)
set_option maxRecDepth 65536 in
theorem w_c15 : (Jvm.Cond.code ({ cls := "java/lang/StringUTF16", name := "compress", desc := "([CII)[B" } : Jvm.MethodName) jdk_52_method_16_code (6 : Nat) (Option.some (Jvm.ClassFile.FieldType.array Jvm.ClassFile.FieldType.byte))).before args0 about1 = true := code_word (m := ⟨12, 2⟩) (meth := k12m2) (c := k12c2) (by decide +kernel) rfl rfl rfl (by decide +kernel)
set_option maxRecDepth 65536 in
theorem w_c16 : (Jvm.Cond.code ({ cls := "java/lang/StringUTF16", name := "compress", desc := "([CI[BII)I" } : Jvm.MethodName) jdk_52_method_21_code (7 : Nat) (Option.some Jvm.ClassFile.FieldType.int)).before args0 about1 = true := code_word (m := ⟨12, 3⟩) (meth := k12m3) (c := k12c3) (by decide +kernel) rfl rfl rfl (by decide +kernel)
set_option maxRecDepth 65536 in
theorem w_c17 : (Jvm.Cond.code ({ cls := "java/lang/StringUTF16", name := "coderFromArrayLen", desc := "([BI)B" } : Jvm.MethodName) jdk_52_method_15_code (2 : Nat) (Option.some Jvm.ClassFile.FieldType.byte)).before args0 about1 = true := code_word (m := ⟨12, 1⟩) (meth := k12m1) (c := k12c1) (by decide +kernel) rfl rfl rfl (by decide +kernel)
set_option maxRecDepth 65536 in
theorem w_c18 : (Jvm.Cond.code ({ cls := "java/lang/String", name := "charAt", desc := "(I)C" } : Jvm.MethodName) jdk_42_method_56_code (2 : Nat) (Option.some Jvm.ClassFile.FieldType.char)).before args0 about1 = true := code_word (m := ⟨7, 3⟩) (meth := k7m3) (c := k7c3) (by decide +kernel) rfl rfl rfl (by decide +kernel)
set_option maxRecDepth 65536 in
theorem w_c19 : (Jvm.Cond.code ({ cls := "java/lang/String", name := "isLatin1", desc := "()Z" } : Jvm.MethodName) jdk_42_method_154_code (1 : Nat) (Option.some Jvm.ClassFile.FieldType.boolean)).before args0 about1 = true := code_word (m := ⟨7, 10⟩) (meth := k7m10) (c := k7c10) (by decide +kernel) rfl rfl rfl (by decide +kernel)
set_option maxRecDepth 65536 in
theorem w_c20 : (Jvm.Cond.code ({ cls := "java/lang/StringLatin1", name := "charAt", desc := "([BI)C" } : Jvm.MethodName) jdk_43_method_2_code (2 : Nat) (Option.some Jvm.ClassFile.FieldType.char)).before args0 about1 = true := code_word (m := ⟨8, 1⟩) (meth := k8m1) (c := k8c1) (by decide +kernel) rfl rfl rfl (by decide +kernel)
set_option maxRecDepth 65536 in
theorem w_c21 : (Jvm.Cond.code ({ cls := "java/lang/String", name := "checkIndex", desc := "(II)V" } : Jvm.MethodName) jdk_42_method_155_code (2 : Nat) (Option.none : Option Jvm.ClassFile.FieldType)).before args0 about1 = true := code_word (m := ⟨7, 11⟩) (meth := k7m11) (c := k7c11) (by decide +kernel) rfl rfl rfl (by decide +kernel)
set_option maxRecDepth 65536 in
theorem w_c22 : (Jvm.Cond.code ({ cls := "jdk/internal/util/Preconditions", name := "checkIndex", desc := "(IILjava/util/function/BiFunction;)I" } : Jvm.MethodName) jdk_41_method_11_code (3 : Nat) (Option.some Jvm.ClassFile.FieldType.int)).before args0 about1 = true := code_word (m := ⟨13, 1⟩) (meth := k13m1) (c := k13c1) (by decide +kernel) rfl rfl rfl (by decide +kernel)
set_option maxRecDepth 65536 in
theorem w_c23 : (Jvm.Cond.code ({ cls := "com/example/deadline/deadline/CallbackSchemeNamedPinLaw", name := "ci", desc := "(CC)Z" } : Jvm.MethodName) method_4_code (2 : Nat) (Option.some Jvm.ClassFile.FieldType.boolean)).before args0 about1 = true := code_word (m := ⟨1, 3⟩) (meth := k1m3) (c := k1c3) (by decide +kernel) rfl rfl rfl (by decide +kernel)
set_option maxRecDepth 65536 in
theorem w_c24 : (Jvm.Cond.code ({ cls := "java/lang/String", name := "regionMatches", desc := "(ZILjava/lang/String;II)Z" } : Jvm.MethodName) jdk_42_method_74_code (9 : Nat) (Option.some Jvm.ClassFile.FieldType.boolean)).before args0 about1 = true := code_word (m := ⟨7, 5⟩) (meth := k7m5) (c := k7c5) (by decide +kernel) rfl rfl rfl (by decide +kernel)
set_option maxRecDepth 65536 in
theorem w_c25 : (Jvm.Cond.code ({ cls := "java/lang/StringLatin1", name := "regionMatchesCI", desc := "([BI[BII)Z" } : Jvm.MethodName) jdk_43_method_30_code (8 : Nat) (Option.some Jvm.ClassFile.FieldType.boolean)).before args0 about1 = true := code_word (m := ⟨8, 3⟩) (meth := k8m3) (c := k8c3) (by decide +kernel) rfl rfl rfl (by decide +kernel)
set_option maxRecDepth 65536 in
theorem w_c26 : (Jvm.Cond.code ({ cls := "java/lang/CharacterDataLatin1", name := "equalsIgnoreCase", desc := "(BB)Z" } : Jvm.MethodName) jdk_116_method_22_code (3 : Nat) (Option.some Jvm.ClassFile.FieldType.boolean)).before args0 about1 = true := code_word (m := ⟨15, 0⟩) (meth := k15m0) (c := k15c0) (by decide +kernel) rfl rfl rfl (by decide +kernel)
def codes1 : List Jvm.Cond := [Jvm.Cond.code x code maxLocals ret, Jvm.Cond.code ({ cls := "com/example/deadline/deadline/CallbackSchemeNamedPinLaw", name := "pick", desc := "(IIC)C" } : Jvm.MethodName) method_2_code (4 : Nat) (Option.some Jvm.ClassFile.FieldType.char), Jvm.Cond.code ({ cls := "com/example/deadline/deadline/CallbackSchemeNamedPinLaw", name := "make", desc := "(ICCCCCC)Ljava/lang/String;" } : Jvm.MethodName) method_3_code (7 : Nat) (Option.some (Jvm.ClassFile.FieldType.object "java/lang/String")), Jvm.Cond.code ({ cls := "java/lang/String", name := "valueOf", desc := "(C)Ljava/lang/String;" } : Jvm.MethodName) jdk_42_method_139_code (1 : Nat) (Option.some (Jvm.ClassFile.FieldType.object "java/lang/String")), Jvm.Cond.code ({ cls := "java/lang/StringLatin1", name := "canEncode", desc := "(C)Z" } : Jvm.MethodName) jdk_43_method_3_code (1 : Nat) (Option.some Jvm.ClassFile.FieldType.boolean), Jvm.Cond.code ({ cls := "java/lang/StringLatin1", name := "toBytes", desc := "(C)[B" } : Jvm.MethodName) jdk_43_method_46_code (1 : Nat) (Option.some (Jvm.ClassFile.FieldType.array Jvm.ClassFile.FieldType.byte)), Jvm.Cond.code ({ cls := "java/lang/String", name := "<init>", desc := "([BB)V" } : Jvm.MethodName) jdk_42_method_151_code (3 : Nat) (Option.none : Option Jvm.ClassFile.FieldType), Jvm.Cond.code ({ cls := "java/lang/Object", name := "<init>", desc := "()V" } : Jvm.MethodName) object_method_1_code (1 : Nat) (Option.none : Option Jvm.ClassFile.FieldType), Jvm.Cond.code ({ cls := "java/lang/String", name := "length", desc := "()I" } : Jvm.MethodName) jdk_42_method_54_code (1 : Nat) (Option.some Jvm.ClassFile.FieldType.int), Jvm.Cond.code ({ cls := "java/lang/String", name := "coder", desc := "()B" } : Jvm.MethodName) jdk_42_method_152_code (1 : Nat) (Option.some Jvm.ClassFile.FieldType.byte), Jvm.Cond.code ({ cls := "com/example/deadline/deadline/CallbackScheme", name := "named", desc := "(Ljava/lang/String;)Lcom/example/deadline/deadline/CallbackScheme;" } : Jvm.MethodName) prog_17_method_4_code (6 : Nat) (Option.some (Jvm.ClassFile.FieldType.object "com/example/deadline/deadline/CallbackScheme")), Jvm.Cond.code ({ cls := "com/example/deadline/deadline/CallbackScheme", name := "values", desc := "()[Lcom/example/deadline/deadline/CallbackScheme;" } : Jvm.MethodName) prog_17_method_1_code (0 : Nat) (Option.some (Jvm.ClassFile.FieldType.array (Jvm.ClassFile.FieldType.object "com/example/deadline/deadline/CallbackScheme"))), Jvm.Cond.code ({ cls := "java/lang/String", name := "equalsIgnoreCase", desc := "(Ljava/lang/String;)Z" } : Jvm.MethodName) jdk_42_method_70_code (2 : Nat) (Option.some Jvm.ClassFile.FieldType.boolean), Jvm.Cond.code ({ cls := "java/lang/String", name := "<init>", desc := "([C)V" } : Jvm.MethodName) jdk_42_method_3_code (2 : Nat) (Option.none : Option Jvm.ClassFile.FieldType), Jvm.Cond.code ({ cls := "java/lang/String", name := "<init>", desc := "([CIILjava/lang/Void;)V" } : Jvm.MethodName) jdk_42_method_149_code (6 : Nat) (Option.none : Option Jvm.ClassFile.FieldType), Jvm.Cond.code ({ cls := "java/lang/StringUTF16", name := "compress", desc := "([CII)[B" } : Jvm.MethodName) jdk_52_method_16_code (6 : Nat) (Option.some (Jvm.ClassFile.FieldType.array Jvm.ClassFile.FieldType.byte)), Jvm.Cond.code ({ cls := "java/lang/StringUTF16", name := "compress", desc := "([CI[BII)I" } : Jvm.MethodName) jdk_52_method_21_code (7 : Nat) (Option.some Jvm.ClassFile.FieldType.int), Jvm.Cond.code ({ cls := "java/lang/StringUTF16", name := "coderFromArrayLen", desc := "([BI)B" } : Jvm.MethodName) jdk_52_method_15_code (2 : Nat) (Option.some Jvm.ClassFile.FieldType.byte), Jvm.Cond.code ({ cls := "java/lang/String", name := "charAt", desc := "(I)C" } : Jvm.MethodName) jdk_42_method_56_code (2 : Nat) (Option.some Jvm.ClassFile.FieldType.char), Jvm.Cond.code ({ cls := "java/lang/String", name := "isLatin1", desc := "()Z" } : Jvm.MethodName) jdk_42_method_154_code (1 : Nat) (Option.some Jvm.ClassFile.FieldType.boolean), Jvm.Cond.code ({ cls := "java/lang/StringLatin1", name := "charAt", desc := "([BI)C" } : Jvm.MethodName) jdk_43_method_2_code (2 : Nat) (Option.some Jvm.ClassFile.FieldType.char), Jvm.Cond.code ({ cls := "java/lang/String", name := "checkIndex", desc := "(II)V" } : Jvm.MethodName) jdk_42_method_155_code (2 : Nat) (Option.none : Option Jvm.ClassFile.FieldType), Jvm.Cond.code ({ cls := "jdk/internal/util/Preconditions", name := "checkIndex", desc := "(IILjava/util/function/BiFunction;)I" } : Jvm.MethodName) jdk_41_method_11_code (3 : Nat) (Option.some Jvm.ClassFile.FieldType.int), Jvm.Cond.code ({ cls := "com/example/deadline/deadline/CallbackSchemeNamedPinLaw", name := "ci", desc := "(CC)Z" } : Jvm.MethodName) method_4_code (2 : Nat) (Option.some Jvm.ClassFile.FieldType.boolean), Jvm.Cond.code ({ cls := "java/lang/String", name := "regionMatches", desc := "(ZILjava/lang/String;II)Z" } : Jvm.MethodName) jdk_42_method_74_code (9 : Nat) (Option.some Jvm.ClassFile.FieldType.boolean), Jvm.Cond.code ({ cls := "java/lang/StringLatin1", name := "regionMatchesCI", desc := "([BI[BII)Z" } : Jvm.MethodName) jdk_43_method_30_code (8 : Nat) (Option.some Jvm.ClassFile.FieldType.boolean), Jvm.Cond.code ({ cls := "java/lang/CharacterDataLatin1", name := "equalsIgnoreCase", desc := "(BB)Z" } : Jvm.MethodName) jdk_116_method_22_code (3 : Nat) (Option.some Jvm.ClassFile.FieldType.boolean)]
set_option maxRecDepth 65536 in
theorem codes_eq : words1.filter isCode = codes1 := rfl
theorem w_codes : ∀ c ∈ words1.filter isCode, c.before args0 about1 = true := by
  rw [codes_eq]
  intro c hc
  simp only [codes1, List.mem_cons, List.not_mem_nil, or_false] at hc
  rcases hc with rfl | rfl | rfl | rfl | rfl | rfl | rfl | rfl | rfl | rfl | rfl | rfl | rfl | rfl | rfl | rfl | rfl | rfl | rfl | rfl | rfl | rfl | rfl | rfl | rfl | rfl | rfl
  · exact w_c0
  · exact w_c1
  · exact w_c2
  · exact w_c3
  · exact w_c4
  · exact w_c5
  · exact w_c6
  · exact w_c7
  · exact w_c8
  · exact w_c9
  · exact w_c10
  · exact w_c11
  · exact w_c12
  · exact w_c13
  · exact w_c14
  · exact w_c15
  · exact w_c16
  · exact w_c17
  · exact w_c18
  · exact w_c19
  · exact w_c20
  · exact w_c21
  · exact w_c22
  · exact w_c23
  · exact w_c24
  · exact w_c25
  · exact w_c26
set_option maxRecDepth 65536 in
theorem w_t1 : (words1.take 24).all (fun c => isCode c || c.before args0 about1) = true := by decide +kernel
set_option maxRecDepth 65536 in
theorem w_t2 : ((words1.drop 24).take 24).all (fun c => isCode c || c.before args0 about1) = true := by decide +kernel
set_option maxRecDepth 65536 in
theorem w_t3 : (((words1.drop 24).drop 24).take 24).all (fun c => isCode c || c.before args0 about1) = true := by decide +kernel
set_option maxRecDepth 65536 in
theorem w_t4 : ((((words1.drop 24).drop 24).drop 24).take 24).all (fun c => isCode c || c.before args0 about1) = true := by decide +kernel
set_option maxRecDepth 65536 in
theorem w_t5 : (((((words1.drop 24).drop 24).drop 24).drop 24).take 24).all (fun c => isCode c || c.before args0 about1) = true := by decide +kernel
set_option maxRecDepth 65536 in
theorem w_t6 : (((((words1.drop 24).drop 24).drop 24).drop 24).drop 24).all (fun c => isCode c || c.before args0 about1) = true := by decide +kernel
theorem w_tables : (allAtoms (Jvm.Cond.code x code maxLocals ret :: tables_1)).before args0 about1 = true := by
  rw [allAtoms_all]
  show words1.all (fun c => c.before args0 about1) = true
  refine all_split ?_ w_codes
  rw [← List.take_append_drop 24 words1, List.all_append, w_t1, ← List.take_append_drop 24 (words1.drop 24), List.all_append, w_t2, ← List.take_append_drop 24 ((words1.drop 24).drop 24), List.all_append, w_t3, ← List.take_append_drop 24 (((words1.drop 24).drop 24).drop 24), List.all_append, w_t4, ← List.take_append_drop 24 ((((words1.drop 24).drop 24).drop 24).drop 24), List.all_append, w_t5, w_t6]
  rfl
set_option maxRecDepth 65536 in
theorem w_rest : rest_1_c.before args0 about1 = true := by decide +kernel
set_option maxRecDepth 65536 in
theorem w_case : (Jvm.Cond.and given_1 narrow_1).before args0 about1 = true := by decide +kernel
set_option maxRecDepth 65536 in
theorem w_consts : constsHeld consts_1 about1 := Jvm.Lit.constsHeldB_iff.mp (by decide +kernel)
theorem w_applies : (headSpec (Jvm.Cond.code x code maxLocals ret :: tables_1) room_1).applies x e0.platform about1 = true :=
  (Spec.applies_iff w_frames).mpr ⟨w_running, w_runnable, w_alone, w_named, w_hears, w_ripe, w_room, w_tables⟩
theorem atStart : AtStart classFile x code maxLocals ret World_1 tables_1 room_1 Calls_1 rest_1 Pre_1 launch0 p0 e0 about1 theMethod args0 below0 :=
  ⟨lists_1, trivial, launch0.admits_env _ _ _, launch0.least_env, fairChoices_fair.cas, fairChoices_fair.clock, w_frames, w_args, w_heap, w_applies, ⟨w_consts, trivial⟩, w_rest, w_case⟩
end start1
theorem witness_1 : WitnessClaimed_1 := ⟨start1.p0, start1.e0, start1.about1, start1.theMethod, start1.args0, start1.below0, start1.atStart⟩
end Jvm.Pilot.@@N@@
