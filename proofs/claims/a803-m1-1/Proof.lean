import JvmDerived
import JvmDerived.Pilot.@@N@@Statement
import JvmDerived.Pilot.@@N@@Code
set_option linter.unusedVariables false
set_option linter.unusedSimpArgs false
namespace Jvm.RoadKit
open Sem ClassFile Op Lib Jvm.Stand Jvm.Free Jvm.LawKit
section New
variable {p : Program} {l : Launch} {e : Env} {R : Room} {s : State} {m : MethodId} {args : Array Value} {below : List Frame} {meth : Method} {c : Code} {T : State} {locs : List Loc} {cells slots : Nat}
theorem retI (X : Stand p l e R s m args below meth c T locs cells slots) (hx : p.tables.exec = Jvm.exec) {pc : Nat} {Ls : Array Slot} {z : Int32} {rest : List Value} (hret : meth.sig.returnType = some .int) (hd : decode c.code pc = .ok (.ireturn, 1)) {fs : List Frame}
    (hl : ∀ (f : JFrame) (acts : List Action), f.method = m → f.locked = none → f.entered = [] → (doReturn e (T.setTop f) acts (some (.int z))).1 = T.setFrames fs) : Steps p.tables e below (T.setTop (mkF m pc Ls (.int z :: rest))) (T.setFrames fs) := by
  have hm' : T.vm.method? m = some meth := X.method'
  have hn : narrow .int (.int z) = .int z := rfl
  show Steps p.tables e below (T.setTop { method := m, pc := pc, locals := Ls, stack := _ :: rest, locked := none }) _
  jvm_step X.here [X.here.top, hx, hd, hm', hret, hn]
  first | (intro acts; rw [hl _ acts rfl rfl rfl]) | rw [hl _ _ rfl rfl rfl]
  exact Steps.refl _
end New
end Jvm.RoadKit
namespace Jvm.Pilot.@@N@@
open Jvm Jvm.ClassFile Sem Op Lib Jvm.Free Jvm.Stand Jvm.LawKit Jvm.RoadKit Bundle Jvm.Pilot.@@N@@.Jvm.D
/-- an object of exactly this class that the program made (no cell of the machine's own) -/
def Obj (Z : State) (h : Heap) (a : Addr) (C : String) : Prop := ∃ (cell : Cell) (k : Class), h[a]? = some cell ∧ Z.vm.findClass C = some cell.cls ∧ Z.vm.classes[cell.cls]? = some k ∧ cell.vm = .none ∧ (k.kind = .ordinary → cell.slots.size = k.instanceTypes.size)
section ObjS
variable {Z : State} {h h' h0 : Heap} {a b : Addr} {C O n d : String} {sl kk : Nat} {v : Value} {ws : List Addr} {a0 : Array Value}
theorem Obj.of (E : Exa Z h a C) (q : ∃ cell : Cell, h[a]? = some cell ∧ cell.vm = .none ∧ cell.monitor = {}) : Obj Z h a C := by
  obtain ⟨cell, k, h1, h2, h3, h4, h5⟩ := E
  obtain ⟨cell', g1, g2, -⟩ := q
  cases h1.symm.trans g1
  exact ⟨cell, k, h1, h2, h3, g2, h5⟩
theorem Obj.exa (F : Obj Z h a C) : Exa Z h a C := by
  obtain ⟨cell, k, h1, h2, h3, h4, h5⟩ := F
  exact ⟨cell, k, h1, h2, h3, by rw [h4]; rfl, h5⟩
theorem Obj.lt (F : Obj Z h a C) : a < h.size := F.exa.lt
theorem Obj.ext (F : Obj Z h b C) (E : Ext h h') : Obj Z h' b C := by obtain ⟨cell, k, h1, r⟩ := F; exact ⟨cell, k, E.2 _ _ h1, r⟩
theorem Obj.keep (F : Obj Z h a C) (K : Keep h h' ws) : Obj Z h' a C := by
  obtain ⟨cell, k, h1, h2, h3, h4, h5⟩ := F
  obtain ⟨c', q1, q2, q3, q4⟩ := K.2.2 _ _ h1
  exact ⟨c', k, q1, by rw [q2]; exact h2, by rw [q2]; exact h3, by rw [q3]; exact h4, fun q => by rw [q4]; exact h5 q⟩
theorem Obj.wr (F : Obj Z h b C) (W : Wr h h' a sl v) : Obj Z h' b C := F.keep (Keep.of_wr W)
/-- each field that is laid in such an object holds something -/
theorem Obj.fld (F : Obj Z h a C) (L : Laid Z a0 C O n d) (wi : (Cond.instantiable C kk).before a0 Z = true) : ∃ v, Fld Z h a O n d v := by
  obtain ⟨cell, k, h1, h2, h3, h4, h5⟩ := F
  obtain ⟨c1, k1, cf, kf, i, f, a1, a2, a3, a4, a5, a6, -⟩ := L.spec
  obtain ⟨c2, k2, i1, i2, i3, -⟩ := Cond.instantiable_spec wi
  cases h2.symm.trans a1
  cases h2.symm.trans i1
  cases a2.symm.trans i2
  cases h3.symm.trans a2
  have hs := h5 i3
  have hlt : f.slot < cell.slots.size := by rw [hs]; exact (Array.getElem?_eq_some_iff.mp a6).1
  exact ⟨cell.slots[f.slot], cell, cf, kf, i, f, h1, a3, a4, by rw [h4]; simp, by rw [h4]; rfl, a5, Array.getElem?_eq_getElem hlt⟩
end ObjS
/-! the plain law on doubles: an int, or an int and a half, against a long turned double -/
section OwnFl
open Jvm.FP.Core
theorem own_zi (w : Int32) : val64 (i2d w) ≠ .nan ∧ zval b64 (val64 (i2d w)) = w.toInt * (one64 : Int) := ⟨DInt_ne_nan (i2d_int w), DInt_zval (i2d_int w)⟩
/-- an int of at most 53 digits as a double -/
theorem own_zl {n : Int64} (h : n.toInt.natAbs ≤ 2 ^ 53) : val64 (l2d n) ≠ .nan ∧ zval b64 (val64 (l2d n)) = n.toInt * (one64 : Int) := ⟨DInt_ne_nan (l2d_int h), DInt_zval (l2d_int h)⟩
theorem own_l2d_nn (n : Int64) : val64 (l2d n) ≠ .nan := (l2d_fin n).ne_nan
theorem own_one : (0 : Int) < (one64 : Int) := by exact_mod_cast one64_pos
/-- the double of a long n lies at or above an int k's place iff n does, below likewise -/
theorem own_ge {k : Int} {n : Int64} (hk : k.natAbs ≤ 2 ^ 40) (h : k ≤ n.toInt) : k * (one64 : Int) ≤ zval b64 (val64 (l2d n)) := by
  have e : (Int64.ofInt k).toInt = k := Int64.toInt_ofInt_of_le (by omega) (by omega)
  obtain ⟨h1, h2⟩ := own_zl (n := Int64.ofInt k) (by rw [e]; omega)
  rw [e] at h2
  rw [← h2]
  refine l2d_zval_ge h1 ?_
  rw [h2]
  exact Int.mul_le_mul_of_nonneg_right h (Int.le_of_lt own_one)
theorem own_le {k : Int} {n : Int64} (hk : k.natAbs ≤ 2 ^ 40) (h : n.toInt ≤ k) : zval b64 (val64 (l2d n)) ≤ k * (one64 : Int) := by
  have e : (Int64.ofInt k).toInt = k := Int64.toInt_ofInt_of_le (by omega) (by omega)
  obtain ⟨h1, h2⟩ := own_zl (n := Int64.ofInt k) (by rw [e]; omega)
  rw [e] at h2
  rw [← h2]
  refine l2d_zval_le h1 ?_
  rw [h2]
  exact Int.mul_le_mul_of_nonneg_right h (Int.le_of_lt own_one)
theorem own_half_nn : val64 4602678819172646912 ≠ .nan := by decide +kernel
theorem own_half_z : zval b64 (val64 4602678819172646912) * 2 = (one64 : Int) := by decide +kernel
theorem own_half_f : ∃ s c q, val64 4602678819172646912 = .fin s c q := ⟨false, 4503599627370496, -53, by decide +kernel⟩
theorem own_i2d_f (w : Int32) : ∃ s c q, val64 (i2d w) = .fin s c q := by rw [i2d_l2d]; exact l2d_fin _
/-- w + 0.5 is exact -/
theorem own_zh (w : Int32) : val64 (dadd (i2d w) 4602678819172646912) ≠ .nan ∧ zval b64 (val64 (dadd (i2d w) 4602678819172646912)) * 2 = (2 * w.toInt + 1) * (one64 : Int) := by
  have r := rng32 w
  have hnn : val64 (dadd (i2d w) 4602678819172646912) ≠ .nan := by
    have q := dadd_out (a := i2d w) (b := 4602678819172646912) (by rw [i2d_l2d]; exact l2d_notNaN _) own_half_f
    intro e
    have := (dIsNaN_iff _).mpr e
    rw [q] at this; cases this
  refine ⟨hnn, ?_⟩
  obtain ⟨c', q', e1, e2⟩ := round_exact good_b64 (decide (2 * w.toInt + 1 < 0)) (c := (2 * w.toInt + 1).natAbs) (q := -1) (by show _ < 2 ^ 53; omega) (by decide) (by decide)
  have zV : zval b64 (round b64 (.fin (decide (2 * w.toInt + 1 < 0)) (2 * w.toInt + 1).natAbs (-1))) * 2 = (2 * w.toInt + 1) * (one64 : Int) := by
    rw [e1]
    show signed (decide (2 * w.toInt + 1 < 0)) (inUnits c' q' b64.qmin) * 2 = _
    rw [e2]
    have hu : inUnits (2 * w.toInt + 1).natAbs (-1) b64.qmin = (2 * w.toInt + 1).natAbs * 2 ^ 1073 := by
      unfold inUnits
      rw [show ((-1 : Int) - b64.qmin).toNat = 1073 by decide +kernel]
    rw [hu, signed_mul]
    have hs : signed (decide (2 * w.toInt + 1 < 0)) (2 * w.toInt + 1).natAbs = 2 * w.toInt + 1 := by
      unfold signed
      by_cases h : 2 * w.toInt + 1 < 0 <;> simp [h] <;> omega
    have ho : one64 = 2 ^ 1073 * 2 := by unfold one64; exact Nat.pow_succ 2 1073
    rw [hs, ho, Int.natCast_mul, Int.mul_assoc]
    rfl
  have zs : zval b64 (val64 (i2d w)) + zval b64 (val64 4602678819172646912) = zval b64 (round b64 (.fin (decide (2 * w.toInt + 1 < 0)) (2 * w.toInt + 1).natAbs (-1))) := by
    have h1 := (own_zi w).2
    have h2 := own_half_z
    have h3 : (2 * w.toInt + 1) * (one64 : Int) = 2 * (w.toInt * (one64 : Int)) + one64 := by rw [Int.add_mul, Int.one_mul, Int.mul_assoc]
    rw [h3] at zV
    omega
  have fV := round_fits good_b64 (.fin (decide (2 * w.toInt + 1 < 0)) (2 * w.toInt + 1).natAbs (-1))
  have nV : round b64 (.fin (decide (2 * w.toInt + 1 < 0)) (2 * w.toInt + 1).natAbs (-1)) ≠ .nan := by rw [e1]; simp
  have a1 := sum_le good_b64 (own_i2d_f w) own_half_f (val64_fits _) (val64_fits _) fV nV (Int.le_of_eq zs)
  have a2 := sum_ge good_b64 (own_i2d_f w) own_half_f (val64_fits _) (val64_fits _) fV nV (Int.le_of_eq zs.symm)
  rw [val64_dadd, Int.le_antisymm a1 a2]
  exact zV
theorem own_lt1 {w : Int32} {n : Int64} (h : w.toInt < n.toInt) : w.toInt * (one64 : Int) + (one64 : Int) ≤ zval b64 (val64 (l2d n)) := by
  have r := rng32 w
  have q := own_ge (k := w.toInt + 1) (n := n) (by omega) (by omega)
  rw [Int.add_mul, Int.one_mul] at q
  exact q
theorem own_cmp_lt {a b : UInt64} (h : dcmp a b = some .lt) : cmpValue (FP.dcmp a b) .g = -1 := by
  have e : FP.dcmp a b = some .lt := h
  rw [e]; rfl
theorem own_cmp_eq {a b : UInt64} (h : dcmp a b = some .eq) : cmpValue (FP.dcmp a b) .g = 0 := by
  have e : FP.dcmp a b = some .eq := h
  rw [e]; rfl
theorem own_cmp_gt {a b : UInt64} (h : dcmp a b = some .gt) : cmpValue (FP.dcmp a b) .g = 1 := by
  have e : FP.dcmp a b = some .gt := h
  rw [e]; rfl
theorem own_cmp_i (w : Int32) (n : Int64) : (cmpValue (FP.dcmp (FP.i2d w) (FP.l2d n)) .g < 0 ↔ w.toInt64 < n) ∧ (0 < cmpValue (FP.dcmp (FP.i2d w) (FP.l2d n)) .g ↔ n < w.toInt64) := by
  have r := rng32 w
  have h1 := own_zi w
  have h2 := own_l2d_nn n
  have h3 := own_one
  rw [Int64.lt_iff_toInt_lt, Int64.lt_iff_toInt_lt, Int32.toInt_toInt64]
  rcases Int.lt_trichotomy w.toInt n.toInt with q | q | q
  · have e := own_cmp_lt (dcmp_lt.mpr ⟨h1.1, h2, by rw [h1.2]; have := own_lt1 q; omega⟩ : dcmp (i2d w) (l2d n) = some .lt)
    have e' : cmpValue (FP.dcmp (FP.i2d w) (FP.l2d n)) .g = -1 := e
    rw [e']
    exact ⟨⟨fun _ => q, fun _ => by decide⟩, ⟨fun z => absurd z (by decide), fun z => by omega⟩⟩
  · have a1 := own_ge (k := w.toInt) (n := n) (by omega) (by omega)
    have a2 := own_le (k := w.toInt) (n := n) (by omega) (by omega)
    have e' : cmpValue (FP.dcmp (FP.i2d w) (FP.l2d n)) .g = 0 := own_cmp_eq (dcmp_eq.mpr ⟨h1.1, h2, by rw [h1.2]; omega⟩ : dcmp (i2d w) (l2d n) = some .eq)
    rw [e']
    exact ⟨⟨fun z => absurd z (by decide), fun z => by omega⟩, ⟨fun z => absurd z (by decide), fun z => by omega⟩⟩
  · have a2 := own_le (k := w.toInt - 1) (n := n) (by omega) (by omega)
    rw [Int.sub_mul, Int.one_mul] at a2
    have e' : cmpValue (FP.dcmp (FP.i2d w) (FP.l2d n)) .g = 1 := own_cmp_gt (dcmp_gt.mpr ⟨h1.1, h2, by rw [h1.2]; omega⟩ : dcmp (i2d w) (l2d n) = some .gt)
    rw [e']
    exact ⟨⟨fun z => absurd z (by decide), fun z => by omega⟩, ⟨fun z => q, fun z => by decide⟩⟩
theorem own_cmp_h (w : Int32) (n : Int64) : (cmpValue (FP.dcmp (FP.dadd (FP.i2d w) 4602678819172646912) (FP.l2d n)) .g < 0 ↔ w.toInt64 < n) ∧ (0 < cmpValue (FP.dcmp (FP.dadd (FP.i2d w) 4602678819172646912) (FP.l2d n)) .g ↔ ¬ w.toInt64 < n) := by
  have r := rng32 w
  have h1 := own_zh w
  have h2 := own_l2d_nn n
  have h3 := own_one
  have h4 := h1.2
  rw [Int.add_mul, Int.one_mul, Int.mul_assoc] at h4
  rw [Int64.lt_iff_toInt_lt, Int32.toInt_toInt64]
  by_cases q : w.toInt < n.toInt
  · have e' : cmpValue (FP.dcmp (FP.dadd (FP.i2d w) 4602678819172646912) (FP.l2d n)) .g = -1 := own_cmp_lt (dcmp_lt.mpr ⟨h1.1, h2, by have := own_lt1 q; omega⟩ : dcmp (dadd (i2d w) 4602678819172646912) (l2d n) = some .lt)
    rw [e']
    exact ⟨⟨fun _ => q, fun _ => by decide⟩, ⟨fun z => absurd z (by decide), fun z => absurd q z⟩⟩
  · have a2 := own_le (k := w.toInt) (n := n) (by omega) (by omega)
    have e' : cmpValue (FP.dcmp (FP.dadd (FP.i2d w) 4602678819172646912) (FP.l2d n)) .g = 1 := own_cmp_gt (dcmp_gt.mpr ⟨h1.1, h2, by omega⟩ : dcmp (dadd (i2d w) 4602678819172646912) (l2d n) = some .gt)
    rw [e']
    exact ⟨⟨fun z => absurd z (by decide), fun z => absurd z q⟩, ⟨fun z => q, fun z => by decide⟩⟩
theorem own_nn (w : Int32) : Jvm.Free.Fl.NoNaN64 (FP.dadd (FP.i2d w) (4602678819172646912 : UInt64)) := by
  exact Jvm.Free.Fl.val64_no.mpr (own_zh w).1
theorem own_agree (p1 : Int32) (ms : Int64) (bl hf : Int32) (dd : UInt64) (rr ex : Int32) (hbl : bl = 0 ∨ bl = 1) (hdd : (hf = 0 → dd = FP.i2d p1) ∧ (¬ hf = 0 → dd = FP.dadd (FP.i2d p1) (4602678819172646912 : UInt64)))
    (hr1 : ¬ bl = 0 → (cmpValue (FP.dcmp dd (FP.l2d ms)) .g < 0 → rr = 1) ∧ (¬ cmpValue (FP.dcmp dd (FP.l2d ms)) .g < 0 → rr = 0)) (hr2 : bl = 0 → (0 < cmpValue (FP.dcmp dd (FP.l2d ms)) .g → rr = 0) ∧ (¬ 0 < cmpValue (FP.dcmp dd (FP.l2d ms)) .g → rr = 1))
    (hex : ((¬ hf = 0 ∨ ¬ bl = 0) → (p1.toInt64 < ms → ex = 1) ∧ (¬ p1.toInt64 < ms → ex = 0)) ∧ (hf = 0 → bl = 0 → (ms < p1.toInt64 → ex = 0) ∧ (¬ ms < p1.toInt64 → ex = 1))) : rr = ex := by
  by_cases h : hf = 0
  · rw [hdd.1 h] at hr1 hr2
    have c := own_cmp_i p1 ms
    rw [c.1] at hr1
    rw [c.2] at hr2
    by_cases b : bl = 0
    · have x1 := hr2 b
      have x2 := hex.2 h b
      by_cases q : ms < p1.toInt64
      · rw [x1.1 q, x2.1 q]
      · rw [x1.2 q, x2.2 q]
    · have x1 := hr1 b
      have x2 := hex.1 (Or.inr b)
      by_cases q : p1.toInt64 < ms
      · rw [x1.1 q, x2.1 q]
      · rw [x1.2 q, x2.2 q]
  · rw [hdd.2 h] at hr1 hr2
    have c := own_cmp_h p1 ms
    rw [c.1] at hr1
    rw [c.2] at hr2
    have x2 := hex.1 (Or.inl h)
    by_cases q : p1.toInt64 < ms
    · rw [x2.1 q]
      by_cases b : bl = 0
      · exact (hr2 b).2 (fun z => z q)
      · exact (hr1 b).1 q
    · rw [x2.2 q]
      by_cases b : bl = 0
      · exact (hr2 b).1 q
      · exact (hr1 b).2 q
end OwnFl
theorem pn_java_lang_Record : plainName "java/lang/Record" = true := by first | (simp [plainName, overriddenIn]; done) | decide +kernel
theorem d_jdk_30_method_1_code_0 : decode jdk_30_method_1_code 0 = .ok (.aload_n 0, 1) := by decide +kernel
theorem d_jdk_30_method_1_code_1 : decode jdk_30_method_1_code 1 = .ok (.invokespecial 1, 3) := by decide +kernel
theorem d_jdk_30_method_1_code_4 : decode jdk_30_method_1_code 4 = .ok (.return_, 1) := by decide +kernel
theorem ef_own_rec (m : MethodId) {a1 : Addr} : entryFrame m #[(.ref a1)] 1 = mkF m 0 #[.val (.ref a1)] [] := by first | (simp [entryFrame, mkF, argsToLocals, Value.category]; done) | rfl
def Q_own_rec (Z : State) (a1 : Addr) (h0 : Heap) (n0 : Nat) (v : Option Value) (h : Heap) (L : List Loc) : Prop := v = none ∧ Fr n0 L ∧ h = h0
set_option maxRecDepth 65536 in
set_option maxHeartbeats 40000000 in
theorem own_rec (l : Launch) (Z : State) (a0 : Array Value) (hw : ∀ d ∈ tables_1, d.before a0 Z = true) (ws : List Jvm.Cond) (a1 : Addr) (h0 : Heap) (n0 : Nat) (Z0 : n0 ≤ h0.size)  :
    MetFree l (⟨"java/lang/Record", "<init>", "()V"⟩ : MethodName) (head1 (Jvm.Cond.code (⟨"java/lang/Record", "<init>", "()V"⟩ : MethodName) jdk_30_method_1_code 1 none :: ws) ({ frames := 1, cells := 0, slots := 0, locals := 12 } : Room)) (fun a U => a = #[(.ref a1)] ∧ Z.Warmed39 U.vm ∧ U.heap = h0) (fun _ _ _ _ _ => True) (fun _ U o U' => ∃ v L, o = .returned v ∧ Q_own_rec Z a1 h0 n0 v U'.heap L ∧ FrameEnd U o U' L ({ frames := 1, cells := 0, slots := 0, locals := 12 } : Room).cells ({ frames := 1, cells := 0, slots := 0, locals := 12 } : Room).slots) := by
  refine MetFree.of_bodySF (plainFor_of_name pn_java_lang_Record) hisR ?_
  intro p e s m args below meth c s₁ Bd hml0 hP hK
  obtain ⟨rfl, hZ, hh⟩ := hP
  have hx := Bd.exec
  have hby := Bd.bytes
  have hml : c.maxLocals = 1 := hml0
  have hown : s.vm.findClass "java/lang/Record" = some m.cls := findClass_of_methodNamed Bd.named
  have hnm := (name_of_methodNamed Bd.named Bd.method).1
  have X0 : Stand p l e ({ frames := 1, cells := 0, slots := 0, locals := 12 } : Room) s m #[(.ref a1)] below meth c s₁ [] 0 0 := Stand.of_body Bd
  have e0 : s₁.heap = h0 := by rw [← hh, Bd.state]; rfl
  have N0 := Fr.nil n0
  have pre0 : ∀ t, Steps p.tables e below (s₁.setTop (mkF m 0 #[.val (.ref a1)] [])) t → Steps p.tables e below (s₁.setTop (entryFrame m #[(.ref a1)] 1)) t := fun t k => castTop (ef_own_rec m) k
  obtain ⟨T1, X1, e1, st1⟩ := initO X0 hx hZ hown (hw _ (List.mem_of_getElem? (i := 11) rfl)) (hw _ (List.mem_of_getElem? (i := 12) rfl)) (hw _ (List.mem_of_getElem? (i := 13) rfl)) e0 (g := (mkF m 1 #[.val (.ref a1)] [(.ref a1)])) rfl (by rw [hml]; rfl) rfl (hb hby d_jdk_30_method_1_code_1) (by decide) (W := 0) (by show 2 * 0 + _ ≤ _; exact Nat.le_of_eq rfl) (by decide)
  have pre2 : ∀ t, Steps p.tables e below (T1.setTop (mkF m 4 #[.val (.ref a1)] [])) t → Steps p.tables e below (s₁.setTop (entryFrame m #[(.ref a1)] 1)) t := by
    intro t kk
    refine pre0 t ?_
    show Steps p.tables e below (s₁.setTop (mkF m 0 #[.val (.ref a1)] [])) _
    refine XS.aloadN X0.here hx rfl (hb hby d_jdk_30_method_1_code_0) rfl rfl ?_
    show Steps p.tables e below (s₁.setTop (mkF m 1 #[.val (.ref a1)] [(.ref a1)])) _
    exact st1 _ kk
  obtain ⟨fs, hr, hrun, hended, hW, hsame⟩ := X1.leave (v := none) (fun _ => rfl)
  refine ⟨_, _, pre2 _ ?_, hrun, hended, _, _, rfl, ?_, ⟨_, rfl⟩, hW, hsame.mono (by decide) (by decide)⟩
  · show Steps p.tables e below (T1.setTop (mkF m 4 #[.val (.ref a1)] [])) _
    exact X1.returnOut hx Bd.returns (hb hby d_jdk_30_method_1_code_4) hr
  · show Q_own_rec Z a1 h0 n0 _ T1.heap _
    rw [e1]
    exact ⟨rfl, N0, rfl⟩
theorem pn_coterie_latency_Figures_Bound : plainName "coterie/latency/Figures$Bound" = true := by first | (simp [plainName, overriddenIn]; done) | decide +kernel
theorem d_prog_51_method_1_code_0 : decode prog_51_method_1_code 0 = .ok (.aload_n 0, 1) := by decide +kernel
theorem pd___V : parseMethodDescriptor "()V" = some ⟨[], none⟩ := by decide +kernel
theorem d_prog_51_method_1_code_1 : decode prog_51_method_1_code 1 = .ok (.invokespecial 1, 3) := by decide +kernel
theorem d_prog_51_method_1_code_4 : decode prog_51_method_1_code 4 = .ok (.aload_n 0, 1) := by decide +kernel
theorem d_prog_51_method_1_code_5 : decode prog_51_method_1_code 5 = .ok (.lload_n 1, 1) := by decide +kernel
theorem d_prog_51_method_1_code_6 : decode prog_51_method_1_code 6 = .ok (.putfield 7, 3) := by decide +kernel
theorem d_prog_51_method_1_code_9 : decode prog_51_method_1_code 9 = .ok (.aload_n 0, 1) := by decide +kernel
theorem d_prog_51_method_1_code_10 : decode prog_51_method_1_code 10 = .ok (.iload_n 3, 1) := by decide +kernel
theorem d_prog_51_method_1_code_11 : decode prog_51_method_1_code 11 = .ok (.putfield 13, 3) := by decide +kernel
theorem d_prog_51_method_1_code_14 : decode prog_51_method_1_code 14 = .ok (.return_, 1) := by decide +kernel
theorem ef_own_bnd (m : MethodId) {a1 : Addr} {ms : Int64} {bl : Int32} : entryFrame m #[(.ref a1), (.long ms), (.int bl)] 4 = mkF m 0 #[.val (.ref a1), .val (.long ms), .second, .val (.int bl)] [] := by first | (simp [entryFrame, mkF, argsToLocals, Value.category]; done) | rfl
def Q_own_bnd (Z : State) (a1 : Addr) (ms : Int64) (bl : Int32) (h0 : Heap) (n0 : Nat) (v : Option Value) (h : Heap) (L : List Loc) : Prop := v = none ∧ Fr n0 L ∧ Keep h0 h [a1] ∧ Fld Z h a1 "coterie/latency/Figures$Bound" "ms" "J" (.long ms) ∧ Fld Z h a1 "coterie/latency/Figures$Bound" "below" "Z" (.int bl)
set_option maxRecDepth 65536 in
set_option maxHeartbeats 40000000 in
theorem own_bnd (l : Launch) (Z : State) (a0 : Array Value) (hw : ∀ d ∈ tables_1, d.before a0 Z = true) (ws : List Jvm.Cond) (a1 : Addr) (ms : Int64) (bl : Int32) (h0 : Heap) (n0 : Nat) (Z0 : n0 ≤ h0.size) (O1 : Obj Z h0 a1 "coterie/latency/Figures$Bound") (g1 : n0 ≤ a1) (hb01 : bl = 0 ∨ bl = 1) :
    MetFree l (⟨"coterie/latency/Figures$Bound", "<init>", "(JZ)V"⟩ : MethodName) (head1 (Jvm.Cond.code (⟨"coterie/latency/Figures$Bound", "<init>", "(JZ)V"⟩ : MethodName) prog_51_method_1_code 4 none :: ws) ({ frames := 2, cells := 0, slots := 0, locals := 24 } : Room)) (fun a U => a = #[(.ref a1), (.long ms), (.int bl)] ∧ Z.Warmed39 U.vm ∧ U.heap = h0) (fun _ _ _ _ _ => True) (fun _ U o U' => ∃ v L, o = .returned v ∧ Q_own_bnd Z a1 ms bl h0 n0 v U'.heap L ∧ FrameEnd U o U' L ({ frames := 2, cells := 0, slots := 0, locals := 24 } : Room).cells ({ frames := 2, cells := 0, slots := 0, locals := 24 } : Room).slots) := by
  refine MetFree.of_bodySF (plainFor_of_name pn_coterie_latency_Figures_Bound) hisR ?_
  intro p e s m args below meth c s₁ Bd hml0 hP hK
  obtain ⟨rfl, hZ, hh⟩ := hP
  have hx := Bd.exec
  have hby := Bd.bytes
  have hml : c.maxLocals = 4 := hml0
  have hown : s.vm.findClass "coterie/latency/Figures$Bound" = some m.cls := findClass_of_methodNamed Bd.named
  have hnm := (name_of_methodNamed Bd.named Bd.method).1
  have X0 : Stand p l e ({ frames := 2, cells := 0, slots := 0, locals := 24 } : Room) s m #[(.ref a1), (.long ms), (.int bl)] below meth c s₁ [] 0 0 := Stand.of_body Bd
  have e0 : s₁.heap = h0 := by rw [← hh, Bd.state]; rfl
  have N0 := Fr.nil n0
  have pre0 : ∀ t, Steps p.tables e below (s₁.setTop (mkF m 0 #[.val (.ref a1), .val (.long ms), .second, .val (.int bl)] [])) t → Steps p.tables e below (s₁.setTop (entryFrame m #[(.ref a1), (.long ms), (.int bl)] 4)) t := fun t k => castTop (ef_own_bnd m) k
  obtain ⟨_, _, ⟨T1, L1, k1, n1⟩, -, X1, ⟨Lc1, hQ1, l1, y1, z1⟩, st1⟩ := X0.specialBack hx (y := (⟨"java/lang/Record", "<init>", "()V"⟩ : MethodName)) rfl hown (mvT hZ (hw _ (List.mem_of_getElem? (i := 6) rfl))) (mvT hZ (hw _ (List.mem_of_getElem? (i := 7) rfl))) (mvT hZ (hw _ (List.mem_of_getElem? (i := 10) rfl))) (by decide) (backOf (W := 0) (own_rec l Z a0 hw [] a1 h0 n0 Z0) hZ (hw _ (List.mem_of_getElem? (i := 10) rfl)) (hw _ (List.mem_of_getElem? (i := 9) rfl)) (by decide) (by decide)) (g := (mkF m 1 #[.val (.ref a1), .val (.long ms), .second, .val (.int bl)] [(.ref a1)])) rfl (by rw [hml]; rfl) (Steps.refl _) (a := a1) (argsL := []) (rest := []) (lenOf pd___V rfl) rfl (by show 2 * 0 + _ ≤ _; exact Nat.le_of_eq rfl) (hb hby d_prog_51_method_1_code_1) (fun _ _ => ⟨rfl, e0, (by decide : 0 + 0 ≤ _), (by decide : 0 + 0 ≤ _)⟩)
  dsimp only [Pt.U, Pt.locs, Pt.cells, Pt.slots] at X1 l1 y1 z1 st1 hQ1
  subst l1 y1 z1
  obtain ⟨rfl, N1q, e1q⟩ := hQ1
  have N1 := Fr.app N0 N1q
  have pre2 : ∀ t, Steps p.tables e below (T1.setTop (mkF m 4 #[.val (.ref a1), .val (.long ms), .second, .val (.int bl)] [])) t → Steps p.tables e below (s₁.setTop (entryFrame m #[(.ref a1), (.long ms), (.int bl)] 4)) t := by
    intro t kk
    refine pre0 t ?_
    show Steps p.tables e below (s₁.setTop (mkF m 0 #[.val (.ref a1), .val (.long ms), .second, .val (.int bl)] [])) _
    refine XS.aloadN X0.here hx rfl (hb hby d_prog_51_method_1_code_0) rfl rfl ?_
    show Steps p.tables e below (s₁.setTop (mkF m 1 #[.val (.ref a1), .val (.long ms), .second, .val (.int bl)] [(.ref a1)])) _
    exact st1.trans kk
  obtain ⟨u3, U3⟩ := Obj.fld O1 (Or.inr (hw _ (List.mem_of_getElem? (i := 15) rfl))) (hw _ (List.mem_of_getElem? (i := 1) rfl))
  obtain ⟨T3, h3, X3, e3, W3, st3⟩ := putF X1 hx hZ hown (host := "") (Or.inl (hw _ (List.mem_of_getElem? (i := 14) rfl))) Via.refl e1q U3 O1.exa (Or.inr ⟨(hw _ (List.mem_of_getElem? (i := 15) rfl)), rfl, hnm⟩) (hw _ (List.mem_of_getElem? (i := 1) rfl)) (ty := .long) (by decide) rfl rfl (g := (mkF m 6 #[.val (.ref a1), .val (.long ms), .second, .val (.int bl)] [(.long ms), (.ref a1)])) rfl rfl (hb hby d_prog_51_method_1_code_6)
  have N3 := Fr.snoc X3 N1 g1
  have Fw3 := U3.same W3
  have pre4 : ∀ t, Steps p.tables e below (T3.setTop (mkF m 9 #[.val (.ref a1), .val (.long ms), .second, .val (.int bl)] [])) t → Steps p.tables e below (s₁.setTop (entryFrame m #[(.ref a1), (.long ms), (.int bl)] 4)) t := by
    intro t kk
    refine pre2 t ?_
    show Steps p.tables e below (T1.setTop (mkF m 4 #[.val (.ref a1), .val (.long ms), .second, .val (.int bl)] [])) _
    refine XS.aloadN X1.here hx rfl (hb hby d_prog_51_method_1_code_4) rfl rfl ?_
    show Steps p.tables e below (T1.setTop (mkF m 5 #[.val (.ref a1), .val (.long ms), .second, .val (.int bl)] [(.ref a1)])) _
    refine XS.lloadN X1.here hx rfl (hb hby d_prog_51_method_1_code_5) rfl ?_
    show Steps p.tables e below (T1.setTop (mkF m 6 #[.val (.ref a1), .val (.long ms), .second, .val (.int bl)] [(.long ms), (.ref a1)])) _
    exact st3 _ kk
  have c5 := (O1.wr W3)
  obtain ⟨u6, U6⟩ := Obj.fld c5 (Or.inr (hw _ (List.mem_of_getElem? (i := 17) rfl))) (hw _ (List.mem_of_getElem? (i := 1) rfl))
  obtain ⟨T6, h6, X6, e6, W6, st6⟩ := putFN X3 hx hZ hown (hw _ (List.mem_of_getElem? (i := 16) rfl)) Via.refl e3 U6 c5.exa (Or.inr ⟨(hw _ (List.mem_of_getElem? (i := 17) rfl)), rfl, hnm⟩) (hw _ (List.mem_of_getElem? (i := 1) rfl)) (ty := .boolean) (v' := (.int bl)) (by decide) (by rcases hb01 with rfl | rfl <;> rfl) (by rcases hb01 with rfl | rfl <;> rfl) (g := (mkF m 11 #[.val (.ref a1), .val (.long ms), .second, .val (.int bl)] [(.int bl), (.ref a1)])) rfl rfl (hb hby d_prog_51_method_1_code_11)
  have N6 := Fr.snoc X6 N3 g1
  have Fw6 := U6.same W6
  have pre7 : ∀ t, Steps p.tables e below (T6.setTop (mkF m 14 #[.val (.ref a1), .val (.long ms), .second, .val (.int bl)] [])) t → Steps p.tables e below (s₁.setTop (entryFrame m #[(.ref a1), (.long ms), (.int bl)] 4)) t := by
    intro t kk
    refine pre4 t ?_
    show Steps p.tables e below (T3.setTop (mkF m 9 #[.val (.ref a1), .val (.long ms), .second, .val (.int bl)] [])) _
    refine XS.aloadN X3.here hx rfl (hb hby d_prog_51_method_1_code_9) rfl rfl ?_
    show Steps p.tables e below (T3.setTop (mkF m 10 #[.val (.ref a1), .val (.long ms), .second, .val (.int bl)] [(.ref a1)])) _
    refine XS.iloadN X3.here hx rfl (hb hby d_prog_51_method_1_code_10) rfl ?_
    show Steps p.tables e below (T3.setTop (mkF m 11 #[.val (.ref a1), .val (.long ms), .second, .val (.int bl)] [(.int bl), (.ref a1)])) _
    exact st6 _ kk
  have c8 := (((Keep.refl h0 [a1]).wr W3 (Or.inl (List.mem_of_getElem? (i := 0) rfl))).wr W6 (Or.inl (List.mem_of_getElem? (i := 0) rfl)))
  have c9 := (Fw3.other W6 (Or.inr (slot_ne (Or.inr (hw _ (List.mem_of_getElem? (i := 15) rfl))) (Or.inr (hw _ (List.mem_of_getElem? (i := 17) rfl))) (by decide) (t := .long) (t' := .boolean) (by decide) (by decide))))
  obtain ⟨fs, hr, hrun, hended, hW, hsame⟩ := X6.leave (v := none) (fun _ => rfl)
  refine ⟨_, _, pre7 _ ?_, hrun, hended, _, _, rfl, ?_, ⟨_, rfl⟩, hW, hsame.mono (by decide) (by decide)⟩
  · show Steps p.tables e below (T6.setTop (mkF m 14 #[.val (.ref a1), .val (.long ms), .second, .val (.int bl)] [])) _
    exact X6.returnOut hx Bd.returns (hb hby d_prog_51_method_1_code_14) hr
  · show Q_own_bnd Z a1 ms bl h0 n0 _ T6.heap _
    rw [e6]
    exact ⟨rfl, N6, c8, c9, Fw6⟩
theorem d_prog_51_method_2_code_0 : decode prog_51_method_2_code 0 = .ok (.aload_n 0, 1) := by decide +kernel
theorem d_prog_51_method_2_code_1 : decode prog_51_method_2_code 1 = .ok (.getfield 13, 3) := by decide +kernel
theorem d_prog_51_method_2_code_4 : decode prog_51_method_2_code 4 = .ok (.ifCond .eq 21, 3) := by decide +kernel
theorem d_prog_51_method_2_code_25 : decode prog_51_method_2_code 25 = .ok (.dload_n 1, 1) := by decide +kernel
theorem d_prog_51_method_2_code_26 : decode prog_51_method_2_code 26 = .ok (.aload_n 0, 1) := by decide +kernel
theorem d_prog_51_method_2_code_27 : decode prog_51_method_2_code 27 = .ok (.getfield 7, 3) := by decide +kernel
theorem d_prog_51_method_2_code_30 : decode prog_51_method_2_code 30 = .ok (.l2d, 1) := by decide +kernel
theorem d_prog_51_method_2_code_31 : decode prog_51_method_2_code 31 = .ok (.dcmp .g, 1) := by decide +kernel
theorem d_prog_51_method_2_code_32 : decode prog_51_method_2_code 32 = .ok (.ifCond .gt 7, 3) := by decide +kernel
theorem d_prog_51_method_2_code_39 : decode prog_51_method_2_code 39 = .ok (.iconst 0, 1) := by decide +kernel
theorem d_prog_51_method_2_code_40 : decode prog_51_method_2_code 40 = .ok (.ireturn, 1) := by decide +kernel
theorem d_prog_51_method_2_code_35 : decode prog_51_method_2_code 35 = .ok (.iconst 1, 1) := by decide +kernel
theorem d_prog_51_method_2_code_36 : decode prog_51_method_2_code 36 = .ok (.goto 4, 3) := by decide +kernel
theorem d_prog_51_method_2_code_7 : decode prog_51_method_2_code 7 = .ok (.dload_n 1, 1) := by decide +kernel
theorem d_prog_51_method_2_code_8 : decode prog_51_method_2_code 8 = .ok (.aload_n 0, 1) := by decide +kernel
theorem d_prog_51_method_2_code_9 : decode prog_51_method_2_code 9 = .ok (.getfield 7, 3) := by decide +kernel
theorem d_prog_51_method_2_code_12 : decode prog_51_method_2_code 12 = .ok (.l2d, 1) := by decide +kernel
theorem d_prog_51_method_2_code_13 : decode prog_51_method_2_code 13 = .ok (.dcmp .g, 1) := by decide +kernel
theorem d_prog_51_method_2_code_14 : decode prog_51_method_2_code 14 = .ok (.ifCond .ge 7, 3) := by decide +kernel
theorem d_prog_51_method_2_code_17 : decode prog_51_method_2_code 17 = .ok (.iconst 1, 1) := by decide +kernel
theorem d_prog_51_method_2_code_18 : decode prog_51_method_2_code 18 = .ok (.goto 22, 3) := by decide +kernel
theorem d_prog_51_method_2_code_21 : decode prog_51_method_2_code 21 = .ok (.iconst 0, 1) := by decide +kernel
theorem d_prog_51_method_2_code_22 : decode prog_51_method_2_code 22 = .ok (.goto 18, 3) := by decide +kernel
theorem ef_own_meets (m : MethodId) {a1 : Addr} {d : UInt64} : entryFrame m #[(.ref a1), (.double d)] 3 = mkF m 0 #[.val (.ref a1), .val (.double d), .second] [] := by first | (simp [entryFrame, mkF, argsToLocals, Value.category]; done) | rfl
def Q_own_meets (Z : State) (a1 : Addr) (ms : Int64) (bl : Int32) (d : UInt64) (h0 : Heap) (n0 : Nat) (v : Option Value) (h : Heap) (L : List Loc) : Prop := ∃ r : Int32, v = some (.int r) ∧ Fr n0 L ∧ h = h0 ∧ (¬ bl = 0 → ((cmpValue (FP.dcmp d (FP.l2d ms)) .g) < 0 → r = 1) ∧ (¬ (cmpValue (FP.dcmp d (FP.l2d ms)) .g) < 0 → r = 0)) ∧ (bl = 0 → (0 < (cmpValue (FP.dcmp d (FP.l2d ms)) .g) → r = 0) ∧ (¬ 0 < (cmpValue (FP.dcmp d (FP.l2d ms)) .g) → r = 1))
set_option maxRecDepth 65536 in
set_option maxHeartbeats 40000000 in
theorem own_meets (l : Launch) (Z : State) (a0 : Array Value) (hw : ∀ d ∈ tables_1, d.before a0 Z = true) (ws : List Jvm.Cond) (a1 : Addr) (ms : Int64) (bl : Int32) (d : UInt64) (h0 : Heap) (n0 : Nat) (Z0 : n0 ≤ h0.size) (F1 : Fld Z h0 a1 "coterie/latency/Figures$Bound" "ms" "J" (.long ms)) (F2 : Fld Z h0 a1 "coterie/latency/Figures$Bound" "below" "Z" (.int bl)) :
    MetFree l (⟨"coterie/latency/Figures$Bound", "meets", "(D)Z"⟩ : MethodName) (head1 (Jvm.Cond.code (⟨"coterie/latency/Figures$Bound", "meets", "(D)Z"⟩ : MethodName) prog_51_method_2_code 3 (some .boolean) :: ws) ({ frames := 0, cells := 0, slots := 0, locals := 0 } : Room)) (fun a U => a = #[(.ref a1), (.double d)] ∧ Z.Warmed39 U.vm ∧ U.heap = h0) (fun _ _ _ _ _ => True) (fun _ U o U' => ∃ v L, o = .returned v ∧ Q_own_meets Z a1 ms bl d h0 n0 v U'.heap L ∧ FrameEnd U o U' L ({ frames := 0, cells := 0, slots := 0, locals := 0 } : Room).cells ({ frames := 0, cells := 0, slots := 0, locals := 0 } : Room).slots) := by
  refine MetFree.of_bodySF (plainFor_of_name pn_coterie_latency_Figures_Bound) hisR ?_
  intro p e s m args below meth c s₁ Bd hml0 hP hK
  obtain ⟨rfl, hZ, hh⟩ := hP
  have hx := Bd.exec
  have hby := Bd.bytes
  have hml : c.maxLocals = 3 := hml0
  have hown : s.vm.findClass "coterie/latency/Figures$Bound" = some m.cls := findClass_of_methodNamed Bd.named
  have hnm := (name_of_methodNamed Bd.named Bd.method).1
  have X0 : Stand p l e ({ frames := 0, cells := 0, slots := 0, locals := 0 } : Room) s m #[(.ref a1), (.double d)] below meth c s₁ [] 0 0 := Stand.of_body Bd
  have e0 : s₁.heap = h0 := by rw [← hh, Bd.state]; rfl
  have N0 := Fr.nil n0
  have pre0 : ∀ t, Steps p.tables e below (s₁.setTop (mkF m 0 #[.val (.ref a1), .val (.double d), .second] [])) t → Steps p.tables e below (s₁.setTop (entryFrame m #[(.ref a1), (.double d)] 3)) t := fun t k => castTop (ef_own_meets m) k
  obtain ⟨T1, X1, e1, st1⟩ := getF X0 hx hZ hown (host := "") (Or.inl (hw _ (List.mem_of_getElem? (i := 16) rfl))) Via.refl e0 F2 (g := (mkF m 1 #[.val (.ref a1), .val (.double d), .second] [(.ref a1)])) rfl rfl (hb hby d_prog_51_method_2_code_1)
  have pre2 : ∀ t, Steps p.tables e below (T1.setTop (mkF m 4 #[.val (.ref a1), .val (.double d), .second] [(.int bl)])) t → Steps p.tables e below (s₁.setTop (entryFrame m #[(.ref a1), (.double d)] 3)) t := by
    intro t kk
    refine pre0 t ?_
    show Steps p.tables e below (s₁.setTop (mkF m 0 #[.val (.ref a1), .val (.double d), .second] [])) _
    refine XS.aloadN X0.here hx rfl (hb hby d_prog_51_method_2_code_0) rfl rfl ?_
    show Steps p.tables e below (s₁.setTop (mkF m 1 #[.val (.ref a1), .val (.double d), .second] [(.ref a1)])) _
    exact st1 _ kk
  by_cases hq0 : bl = (0 : Int32)
  case pos =>
    obtain ⟨T3, X3, e3, st3⟩ := getF X1 hx hZ hown (host := "") (Or.inl (hw _ (List.mem_of_getElem? (i := 14) rfl))) Via.refl e1 F1 (g := (mkF m 27 #[.val (.ref a1), .val (.double d), .second] [(.ref a1), (.double d)])) rfl rfl (hb hby d_prog_51_method_2_code_27)
    have pre4 : ∀ t, Steps p.tables e below (T3.setTop (mkF m 30 #[.val (.ref a1), .val (.double d), .second] [(.long ms), (.double d)])) t → Steps p.tables e below (s₁.setTop (entryFrame m #[(.ref a1), (.double d)] 3)) t := by
      intro t kk
      refine pre2 t ?_
      show Steps p.tables e below (T1.setTop (mkF m 4 #[.val (.ref a1), .val (.double d), .second] [(.int bl)])) _
      refine XS.ifYes X1.here hx rfl (pc0 := 4) (pc' := 25) rfl (hb hby d_prog_51_method_2_code_4) rfl ((if0 _ _).trans (teq hq0).1) (by decide) (by decide) ?_
      show Steps p.tables e below (T1.setTop (mkF m 25 #[.val (.ref a1), .val (.double d), .second] [])) _
      refine XS.dloadN X1.here hx rfl (hb hby d_prog_51_method_2_code_25) rfl ?_
      show Steps p.tables e below (T1.setTop (mkF m 26 #[.val (.ref a1), .val (.double d), .second] [(.double d)])) _
      refine XS.aloadN X1.here hx rfl (hb hby d_prog_51_method_2_code_26) rfl rfl ?_
      show Steps p.tables e below (T1.setTop (mkF m 27 #[.val (.ref a1), .val (.double d), .second] [(.ref a1), (.double d)])) _
      exact st3 _ kk
    by_cases hc : (0 : Int32) < (cmpValue (FP.dcmp d (FP.l2d ms)) .g)
    case pos =>
      obtain ⟨fs, hr, hrun, hended, hW, hsame⟩ := X3.leave (v := some (.int (0 : Int32))) (fun h => by rw [Bd.returns] at h; cases h)
      refine ⟨_, _, pre4 _ ?_, hrun, hended, _, _, rfl, ?_, ⟨_, rfl⟩, hW, hsame.mono (by decide) (by decide)⟩
      · show Steps p.tables e below (T3.setTop (mkF m 30 #[.val (.ref a1), .val (.double d), .second] [(.long ms), (.double d)])) _
        refine XS.l2dS X3.here hx rfl (hb hby d_prog_51_method_2_code_30) rfl (v := FP.l2d ms) rfl ?_
        show Steps p.tables e below (T3.setTop (mkF m 31 #[.val (.ref a1), .val (.double d), .second] [(.double (FP.l2d ms)), (.double d)])) _
        refine XS.dcmpS X3.here hx rfl (hb hby d_prog_51_method_2_code_31) rfl (v := (cmpValue (FP.dcmp d (FP.l2d ms)) .g)) rfl ?_
        show Steps p.tables e below (T3.setTop (mkF m 32 #[.val (.ref a1), .val (.double d), .second] [(.int (cmpValue (FP.dcmp d (FP.l2d ms)) .g))])) _
        refine XS.ifYes X3.here hx rfl (pc0 := 32) (pc' := 39) rfl (hb hby d_prog_51_method_2_code_32) rfl ((if0 _ _).trans (tlt hc).2.2.1) (by decide) (by decide) ?_
        show Steps p.tables e below (T3.setTop (mkF m 39 #[.val (.ref a1), .val (.double d), .second] [])) _
        refine XS.iconst X3.here hx rfl (hb hby d_prog_51_method_2_code_39) ?_
        show Steps p.tables e below (T3.setTop (mkF m 40 #[.val (.ref a1), .val (.double d), .second] [(.int (0 : Int32))])) _
        exact retN X3 hx (t := .boolean) Bd.returns (by simp) (hb hby d_prog_51_method_2_code_40) hr
      · show Q_own_meets Z a1 ms bl d h0 n0 _ T3.heap _
        rw [e3]
        exact ⟨0, rfl, N0, rfl, fun q => absurd hq0 q, fun _ => ⟨fun _ => rfl, fun q => absurd hc q⟩⟩
    case neg =>
      obtain ⟨fs, hr, hrun, hended, hW, hsame⟩ := X3.leave (v := some (.int (1 : Int32))) (fun h => by rw [Bd.returns] at h; cases h)
      refine ⟨_, _, pre4 _ ?_, hrun, hended, _, _, rfl, ?_, ⟨_, rfl⟩, hW, hsame.mono (by decide) (by decide)⟩
      · show Steps p.tables e below (T3.setTop (mkF m 30 #[.val (.ref a1), .val (.double d), .second] [(.long ms), (.double d)])) _
        refine XS.l2dS X3.here hx rfl (hb hby d_prog_51_method_2_code_30) rfl (v := FP.l2d ms) rfl ?_
        show Steps p.tables e below (T3.setTop (mkF m 31 #[.val (.ref a1), .val (.double d), .second] [(.double (FP.l2d ms)), (.double d)])) _
        refine XS.dcmpS X3.here hx rfl (hb hby d_prog_51_method_2_code_31) rfl (v := (cmpValue (FP.dcmp d (FP.l2d ms)) .g)) rfl ?_
        show Steps p.tables e below (T3.setTop (mkF m 32 #[.val (.ref a1), .val (.double d), .second] [(.int (cmpValue (FP.dcmp d (FP.l2d ms)) .g))])) _
        refine XS.ifNo X3.here hx rfl (hb hby d_prog_51_method_2_code_32) rfl ((if0 _ _).trans (flt hc).2.2.1) ?_
        show Steps p.tables e below (T3.setTop (mkF m 35 #[.val (.ref a1), .val (.double d), .second] [])) _
        refine XS.iconst X3.here hx rfl (hb hby d_prog_51_method_2_code_35) ?_
        show Steps p.tables e below (T3.setTop (mkF m 36 #[.val (.ref a1), .val (.double d), .second] [(.int (1 : Int32))])) _
        refine XS.goto X3.here hx rfl (pc0 := 36) (pc' := 40) rfl (hb hby d_prog_51_method_2_code_36) (by decide) (by decide) ?_
        show Steps p.tables e below (T3.setTop (mkF m 40 #[.val (.ref a1), .val (.double d), .second] [(.int (1 : Int32))])) _
        exact retN X3 hx (t := .boolean) Bd.returns (by simp) (hb hby d_prog_51_method_2_code_40) hr
      · show Q_own_meets Z a1 ms bl d h0 n0 _ T3.heap _
        rw [e3]
        exact ⟨1, rfl, N0, rfl, fun q => absurd hq0 q, fun _ => ⟨fun q => absurd q hc, fun _ => rfl⟩⟩
  case neg =>
    obtain ⟨T5, X5, e5, st5⟩ := getF X1 hx hZ hown (host := "") (Or.inl (hw _ (List.mem_of_getElem? (i := 14) rfl))) Via.refl e1 F1 (g := (mkF m 9 #[.val (.ref a1), .val (.double d), .second] [(.ref a1), (.double d)])) rfl rfl (hb hby d_prog_51_method_2_code_9)
    have pre6 : ∀ t, Steps p.tables e below (T5.setTop (mkF m 12 #[.val (.ref a1), .val (.double d), .second] [(.long ms), (.double d)])) t → Steps p.tables e below (s₁.setTop (entryFrame m #[(.ref a1), (.double d)] 3)) t := by
      intro t kk
      refine pre2 t ?_
      show Steps p.tables e below (T1.setTop (mkF m 4 #[.val (.ref a1), .val (.double d), .second] [(.int bl)])) _
      refine XS.ifNo X1.here hx rfl (hb hby d_prog_51_method_2_code_4) rfl ((if0 _ _).trans (feq hq0).1) ?_
      show Steps p.tables e below (T1.setTop (mkF m 7 #[.val (.ref a1), .val (.double d), .second] [])) _
      refine XS.dloadN X1.here hx rfl (hb hby d_prog_51_method_2_code_7) rfl ?_
      show Steps p.tables e below (T1.setTop (mkF m 8 #[.val (.ref a1), .val (.double d), .second] [(.double d)])) _
      refine XS.aloadN X1.here hx rfl (hb hby d_prog_51_method_2_code_8) rfl rfl ?_
      show Steps p.tables e below (T1.setTop (mkF m 9 #[.val (.ref a1), .val (.double d), .second] [(.ref a1), (.double d)])) _
      exact st5 _ kk
    by_cases hc : (cmpValue (FP.dcmp d (FP.l2d ms)) .g) < (0 : Int32)
    case pos =>
      obtain ⟨fs, hr, hrun, hended, hW, hsame⟩ := X5.leave (v := some (.int (1 : Int32))) (fun h => by rw [Bd.returns] at h; cases h)
      refine ⟨_, _, pre6 _ ?_, hrun, hended, _, _, rfl, ?_, ⟨_, rfl⟩, hW, hsame.mono (by decide) (by decide)⟩
      · show Steps p.tables e below (T5.setTop (mkF m 12 #[.val (.ref a1), .val (.double d), .second] [(.long ms), (.double d)])) _
        refine XS.l2dS X5.here hx rfl (hb hby d_prog_51_method_2_code_12) rfl (v := FP.l2d ms) rfl ?_
        show Steps p.tables e below (T5.setTop (mkF m 13 #[.val (.ref a1), .val (.double d), .second] [(.double (FP.l2d ms)), (.double d)])) _
        refine XS.dcmpS X5.here hx rfl (hb hby d_prog_51_method_2_code_13) rfl (v := (cmpValue (FP.dcmp d (FP.l2d ms)) .g)) rfl ?_
        show Steps p.tables e below (T5.setTop (mkF m 14 #[.val (.ref a1), .val (.double d), .second] [(.int (cmpValue (FP.dcmp d (FP.l2d ms)) .g))])) _
        refine XS.ifNo X5.here hx rfl (hb hby d_prog_51_method_2_code_14) rfl ((if0 _ _).trans (tlt hc).2.1) ?_
        show Steps p.tables e below (T5.setTop (mkF m 17 #[.val (.ref a1), .val (.double d), .second] [])) _
        refine XS.iconst X5.here hx rfl (hb hby d_prog_51_method_2_code_17) ?_
        show Steps p.tables e below (T5.setTop (mkF m 18 #[.val (.ref a1), .val (.double d), .second] [(.int (1 : Int32))])) _
        refine XS.goto X5.here hx rfl (pc0 := 18) (pc' := 40) rfl (hb hby d_prog_51_method_2_code_18) (by decide) (by decide) ?_
        show Steps p.tables e below (T5.setTop (mkF m 40 #[.val (.ref a1), .val (.double d), .second] [(.int (1 : Int32))])) _
        exact retN X5 hx (t := .boolean) Bd.returns (by simp) (hb hby d_prog_51_method_2_code_40) hr
      · show Q_own_meets Z a1 ms bl d h0 n0 _ T5.heap _
        rw [e5]
        exact ⟨1, rfl, N0, rfl, fun _ => ⟨fun _ => rfl, fun q => absurd hc q⟩, fun q => absurd q hq0⟩
    case neg =>
      obtain ⟨fs, hr, hrun, hended, hW, hsame⟩ := X5.leave (v := some (.int (0 : Int32))) (fun h => by rw [Bd.returns] at h; cases h)
      refine ⟨_, _, pre6 _ ?_, hrun, hended, _, _, rfl, ?_, ⟨_, rfl⟩, hW, hsame.mono (by decide) (by decide)⟩
      · show Steps p.tables e below (T5.setTop (mkF m 12 #[.val (.ref a1), .val (.double d), .second] [(.long ms), (.double d)])) _
        refine XS.l2dS X5.here hx rfl (hb hby d_prog_51_method_2_code_12) rfl (v := FP.l2d ms) rfl ?_
        show Steps p.tables e below (T5.setTop (mkF m 13 #[.val (.ref a1), .val (.double d), .second] [(.double (FP.l2d ms)), (.double d)])) _
        refine XS.dcmpS X5.here hx rfl (hb hby d_prog_51_method_2_code_13) rfl (v := (cmpValue (FP.dcmp d (FP.l2d ms)) .g)) rfl ?_
        show Steps p.tables e below (T5.setTop (mkF m 14 #[.val (.ref a1), .val (.double d), .second] [(.int (cmpValue (FP.dcmp d (FP.l2d ms)) .g))])) _
        refine XS.ifYes X5.here hx rfl (pc0 := 14) (pc' := 21) rfl (hb hby d_prog_51_method_2_code_14) rfl ((if0 _ _).trans (flt hc).2.1) (by decide) (by decide) ?_
        show Steps p.tables e below (T5.setTop (mkF m 21 #[.val (.ref a1), .val (.double d), .second] [])) _
        refine XS.iconst X5.here hx rfl (hb hby d_prog_51_method_2_code_21) ?_
        show Steps p.tables e below (T5.setTop (mkF m 22 #[.val (.ref a1), .val (.double d), .second] [(.int (0 : Int32))])) _
        refine XS.goto X5.here hx rfl (pc0 := 22) (pc' := 40) rfl (hb hby d_prog_51_method_2_code_22) (by decide) (by decide) ?_
        show Steps p.tables e below (T5.setTop (mkF m 40 #[.val (.ref a1), .val (.double d), .second] [(.int (0 : Int32))])) _
        exact retN X5 hx (t := .boolean) Bd.returns (by simp) (hb hby d_prog_51_method_2_code_40) hr
      · show Q_own_meets Z a1 ms bl d h0 n0 _ T5.heap _
        rw [e5]
        exact ⟨0, rfl, N0, rfl, fun _ => ⟨fun q => absurd q hc, fun _ => rfl⟩, fun q => absurd q hq0⟩
theorem d_prog_51_method_6_code_0 : decode prog_51_method_6_code 0 = .ok (.aload_n 0, 1) := by decide +kernel
theorem d_prog_51_method_6_code_1 : decode prog_51_method_6_code 1 = .ok (.getfield 7, 3) := by decide +kernel
theorem d_prog_51_method_6_code_4 : decode prog_51_method_6_code 4 = .ok (.lreturn, 1) := by decide +kernel
theorem ef_own_ms (m : MethodId) {a1 : Addr} : entryFrame m #[(.ref a1)] 1 = mkF m 0 #[.val (.ref a1)] [] := by first | (simp [entryFrame, mkF, argsToLocals, Value.category]; done) | rfl
def Q_own_ms (Z : State) (a1 : Addr) (ms : Int64) (bl : Int32) (h0 : Heap) (n0 : Nat) (v : Option Value) (h : Heap) (L : List Loc) : Prop := v = some (.long ms) ∧ Fr n0 L ∧ h = h0
set_option maxRecDepth 65536 in
set_option maxHeartbeats 40000000 in
theorem own_ms (l : Launch) (Z : State) (a0 : Array Value) (hw : ∀ d ∈ tables_1, d.before a0 Z = true) (ws : List Jvm.Cond) (a1 : Addr) (ms : Int64) (bl : Int32) (h0 : Heap) (n0 : Nat) (Z0 : n0 ≤ h0.size) (F1 : Fld Z h0 a1 "coterie/latency/Figures$Bound" "ms" "J" (.long ms)) (F2 : Fld Z h0 a1 "coterie/latency/Figures$Bound" "below" "Z" (.int bl)) :
    MetFree l (⟨"coterie/latency/Figures$Bound", "ms", "()J"⟩ : MethodName) (head1 (Jvm.Cond.code (⟨"coterie/latency/Figures$Bound", "ms", "()J"⟩ : MethodName) prog_51_method_6_code 1 (some .long) :: ws) ({ frames := 0, cells := 0, slots := 0, locals := 0 } : Room)) (fun a U => a = #[(.ref a1)] ∧ Z.Warmed39 U.vm ∧ U.heap = h0) (fun _ _ _ _ _ => True) (fun _ U o U' => ∃ v L, o = .returned v ∧ Q_own_ms Z a1 ms bl h0 n0 v U'.heap L ∧ FrameEnd U o U' L ({ frames := 0, cells := 0, slots := 0, locals := 0 } : Room).cells ({ frames := 0, cells := 0, slots := 0, locals := 0 } : Room).slots) := by
  refine MetFree.of_bodySF (plainFor_of_name pn_coterie_latency_Figures_Bound) hisR ?_
  intro p e s m args below meth c s₁ Bd hml0 hP hK
  obtain ⟨rfl, hZ, hh⟩ := hP
  have hx := Bd.exec
  have hby := Bd.bytes
  have hml : c.maxLocals = 1 := hml0
  have hown : s.vm.findClass "coterie/latency/Figures$Bound" = some m.cls := findClass_of_methodNamed Bd.named
  have hnm := (name_of_methodNamed Bd.named Bd.method).1
  have X0 : Stand p l e ({ frames := 0, cells := 0, slots := 0, locals := 0 } : Room) s m #[(.ref a1)] below meth c s₁ [] 0 0 := Stand.of_body Bd
  have e0 : s₁.heap = h0 := by rw [← hh, Bd.state]; rfl
  have N0 := Fr.nil n0
  have pre0 : ∀ t, Steps p.tables e below (s₁.setTop (mkF m 0 #[.val (.ref a1)] [])) t → Steps p.tables e below (s₁.setTop (entryFrame m #[(.ref a1)] 1)) t := fun t k => castTop (ef_own_ms m) k
  obtain ⟨T1, X1, e1, st1⟩ := getF X0 hx hZ hown (host := "") (Or.inl (hw _ (List.mem_of_getElem? (i := 14) rfl))) Via.refl e0 F1 (g := (mkF m 1 #[.val (.ref a1)] [(.ref a1)])) rfl rfl (hb hby d_prog_51_method_6_code_1)
  have pre2 : ∀ t, Steps p.tables e below (T1.setTop (mkF m 4 #[.val (.ref a1)] [(.long ms)])) t → Steps p.tables e below (s₁.setTop (entryFrame m #[(.ref a1)] 1)) t := by
    intro t kk
    refine pre0 t ?_
    show Steps p.tables e below (s₁.setTop (mkF m 0 #[.val (.ref a1)] [])) _
    refine XS.aloadN X0.here hx rfl (hb hby d_prog_51_method_6_code_0) rfl rfl ?_
    show Steps p.tables e below (s₁.setTop (mkF m 1 #[.val (.ref a1)] [(.ref a1)])) _
    exact st1 _ kk
  obtain ⟨fs, hr, hrun, hended, hW, hsame⟩ := X1.leave (v := some (.long ms)) (fun h => by rw [Bd.returns] at h; cases h)
  refine ⟨_, _, pre2 _ ?_, hrun, hended, _, _, rfl, ?_, ⟨_, rfl⟩, hW, hsame.mono (by decide) (by decide)⟩
  · show Steps p.tables e below (T1.setTop (mkF m 4 #[.val (.ref a1)] [(.long ms)])) _
    jvm_step X1.here [X1.here.top, hx, (hb hby d_prog_51_method_6_code_4), X1.method', Bd.returns, narrow]
    first | (intro acts; rw [hr _ acts rfl rfl rfl]) | rw [hr _ _ rfl rfl rfl]
    exact Steps.refl _
  · show Q_own_ms Z a1 ms bl h0 n0 _ T1.heap _
    rw [e1]
    exact ⟨rfl, N0, rfl⟩
theorem d_prog_51_method_7_code_0 : decode prog_51_method_7_code 0 = .ok (.aload_n 0, 1) := by decide +kernel
theorem d_prog_51_method_7_code_1 : decode prog_51_method_7_code 1 = .ok (.getfield 13, 3) := by decide +kernel
theorem d_prog_51_method_7_code_4 : decode prog_51_method_7_code 4 = .ok (.ireturn, 1) := by decide +kernel
theorem ef_own_below (m : MethodId) {a1 : Addr} : entryFrame m #[(.ref a1)] 1 = mkF m 0 #[.val (.ref a1)] [] := by first | (simp [entryFrame, mkF, argsToLocals, Value.category]; done) | rfl
def Q_own_below (Z : State) (a1 : Addr) (ms : Int64) (bl : Int32) (h0 : Heap) (n0 : Nat) (v : Option Value) (h : Heap) (L : List Loc) : Prop := v = some (.int bl) ∧ Fr n0 L ∧ h = h0
set_option maxRecDepth 65536 in
set_option maxHeartbeats 40000000 in
theorem own_below (l : Launch) (Z : State) (a0 : Array Value) (hw : ∀ d ∈ tables_1, d.before a0 Z = true) (ws : List Jvm.Cond) (a1 : Addr) (ms : Int64) (bl : Int32) (h0 : Heap) (n0 : Nat) (Z0 : n0 ≤ h0.size) (F1 : Fld Z h0 a1 "coterie/latency/Figures$Bound" "ms" "J" (.long ms)) (F2 : Fld Z h0 a1 "coterie/latency/Figures$Bound" "below" "Z" (.int bl)) (hb01 : bl = 0 ∨ bl = 1) :
    MetFree l (⟨"coterie/latency/Figures$Bound", "below", "()Z"⟩ : MethodName) (head1 (Jvm.Cond.code (⟨"coterie/latency/Figures$Bound", "below", "()Z"⟩ : MethodName) prog_51_method_7_code 1 (some .boolean) :: ws) ({ frames := 0, cells := 0, slots := 0, locals := 0 } : Room)) (fun a U => a = #[(.ref a1)] ∧ Z.Warmed39 U.vm ∧ U.heap = h0) (fun _ _ _ _ _ => True) (fun _ U o U' => ∃ v L, o = .returned v ∧ Q_own_below Z a1 ms bl h0 n0 v U'.heap L ∧ FrameEnd U o U' L ({ frames := 0, cells := 0, slots := 0, locals := 0 } : Room).cells ({ frames := 0, cells := 0, slots := 0, locals := 0 } : Room).slots) := by
  refine MetFree.of_bodySF (plainFor_of_name pn_coterie_latency_Figures_Bound) hisR ?_
  intro p e s m args below meth c s₁ Bd hml0 hP hK
  obtain ⟨rfl, hZ, hh⟩ := hP
  have hx := Bd.exec
  have hby := Bd.bytes
  have hml : c.maxLocals = 1 := hml0
  have hown : s.vm.findClass "coterie/latency/Figures$Bound" = some m.cls := findClass_of_methodNamed Bd.named
  have hnm := (name_of_methodNamed Bd.named Bd.method).1
  have X0 : Stand p l e ({ frames := 0, cells := 0, slots := 0, locals := 0 } : Room) s m #[(.ref a1)] below meth c s₁ [] 0 0 := Stand.of_body Bd
  have e0 : s₁.heap = h0 := by rw [← hh, Bd.state]; rfl
  have N0 := Fr.nil n0
  have pre0 : ∀ t, Steps p.tables e below (s₁.setTop (mkF m 0 #[.val (.ref a1)] [])) t → Steps p.tables e below (s₁.setTop (entryFrame m #[(.ref a1)] 1)) t := fun t k => castTop (ef_own_below m) k
  obtain ⟨T1, X1, e1, st1⟩ := getF X0 hx hZ hown (host := "") (Or.inl (hw _ (List.mem_of_getElem? (i := 16) rfl))) Via.refl e0 F2 (g := (mkF m 1 #[.val (.ref a1)] [(.ref a1)])) rfl rfl (hb hby d_prog_51_method_7_code_1)
  have pre2 : ∀ t, Steps p.tables e below (T1.setTop (mkF m 4 #[.val (.ref a1)] [(.int bl)])) t → Steps p.tables e below (s₁.setTop (entryFrame m #[(.ref a1)] 1)) t := by
    intro t kk
    refine pre0 t ?_
    show Steps p.tables e below (s₁.setTop (mkF m 0 #[.val (.ref a1)] [])) _
    refine XS.aloadN X0.here hx rfl (hb hby d_prog_51_method_7_code_0) rfl rfl ?_
    show Steps p.tables e below (s₁.setTop (mkF m 1 #[.val (.ref a1)] [(.ref a1)])) _
    exact st1 _ kk
  obtain ⟨fs, hr, hrun, hended, hW, hsame⟩ := X1.leave (v := some (.int (nar .boolean bl))) (fun h => by rw [Bd.returns] at h; cases h)
  refine ⟨_, _, pre2 _ ?_, hrun, hended, _, _, rfl, ?_, ⟨_, rfl⟩, hW, hsame.mono (by decide) (by decide)⟩
  · show Steps p.tables e below (T1.setTop (mkF m 4 #[.val (.ref a1)] [(.int bl)])) _
    exact retN X1 hx (t := .boolean) Bd.returns (by simp) (hb hby d_prog_51_method_7_code_4) hr
  · show Q_own_below Z a1 ms bl h0 n0 _ T1.heap _
    rw [e1]
    exact ⟨by rcases hb01 with rfl | rfl <;> rfl, N0, rfl⟩
theorem pn_coterie_latency_BoundMeetsPinLaw : plainName "coterie/latency/BoundMeetsPinLaw" = true := by first | (simp [plainName, overriddenIn]; done) | decide +kernel
theorem pd__JZ_V : parseMethodDescriptor "(JZ)V" = some ⟨[.long, .boolean], none⟩ := by decide +kernel
theorem pd__D_Z : parseMethodDescriptor "(D)Z" = some ⟨[.double], some .boolean⟩ := by decide +kernel
theorem pd___J : parseMethodDescriptor "()J" = some ⟨[], some .long⟩ := by decide +kernel
theorem pd___Z : parseMethodDescriptor "()Z" = some ⟨[], some .boolean⟩ := by decide +kernel
theorem ef_own_law (m : MethodId) {p0 : Int64} {p1 : Int32} {p2 : Int32} : entryFrame m #[(.long p0), (.int p1), (.int p2)] maxLocals = mkF m 0 #[.val (.long p0), .second, .val (.int p1), .val (.int p2), .unset, .unset, .unset, .unset, .unset, .unset, .unset, .unset] [] := by first | (simp [entryFrame, mkF, argsToLocals, Value.category, maxLocals]; done) | rfl
def Q_own_law (Z : State) (p0 : Int64) (p1 p2 : Int32) (h0 : Heap) (n0 : Nat) (v : Option Value) (h : Heap) (L : List Loc) : Prop := v = some (.int 1) ∧ Fr n0 L
set_option maxRecDepth 65536 in
set_option maxHeartbeats 40000000 in
theorem own_law (l : Launch) (Z : State) (a0 : Array Value) (hw : ∀ d ∈ tables_1, d.before a0 Z = true) (ws : List Jvm.Cond) (p0 : Int64) (p1 p2 : Int32) (h0 : Heap) (n0 : Nat) (Z0 : n0 ≤ h0.size) (XO : Old Z n0 h0) :
    MetFree l x (head1 (Jvm.Cond.code x code maxLocals ret :: ws) room_1) (fun a U => a = #[(.long p0), (.int p1), (.int p2)] ∧ Z.Warmed39 U.vm ∧ U.heap = h0) (fun _ _ _ _ _ => True) (fun _ U o U' => ∃ v L, o = .returned v ∧ Q_own_law Z p0 p1 p2 h0 n0 v U'.heap L ∧ FrameEnd U o U' L 16 128) := by
  refine MetFree.of_bodySF (plainFor_of_name pn_coterie_latency_BoundMeetsPinLaw) hisR ?_
  intro p e s m args below meth c s₁ Bd hml0 hP hK
  obtain ⟨rfl, hZ, hh⟩ := hP
  have hx := Bd.exec
  have hby := Bd.bytes
  have hml : c.maxLocals = 12 := hml0
  have hown : s.vm.findClass "coterie/latency/BoundMeetsPinLaw" = some m.cls := findClass_of_methodNamed Bd.named
  have hnm := (name_of_methodNamed Bd.named Bd.method).1
  have X0 : Stand p l e room_1 s m #[(.long p0), (.int p1), (.int p2)] below meth c s₁ [] 0 0 := Stand.of_body Bd
  have e0 : s₁.heap = h0 := by rw [← hh, Bd.state]; rfl
  have N0 := Fr.nil n0
  have pre0 : ∀ t, Steps p.tables e below (s₁.setTop (mkF m 0 #[.val (.long p0), .second, .val (.int p1), .val (.int p2), .unset, .unset, .unset, .unset, .unset, .unset, .unset, .unset] [])) t → Steps p.tables e below (s₁.setTop (entryFrame m #[(.long p0), (.int p1), (.int p2)] maxLocals)) t := fun t k => castTop (ef_own_law m) k
  obtain ⟨bl, hbl, pre1⟩ : ∃ bl : Int32, (bl = 0 ∨ bl = 1) ∧ ∀ t, Steps p.tables e below (s₁.setTop (mkF m 13 #[.val (.long p0), .second, .val (.int p1), .val (.int p2), .val (.int bl), .unset, .unset, .unset, .unset, .unset, .unset, .unset] [])) t → Steps p.tables e below (s₁.setTop (entryFrame m #[(.long p0), (.int p1), (.int p2)] maxLocals)) t := by
    by_cases hc : (p2 &&& (1 : Int32)) = (0 : Int32)
    case pos =>
      refine ⟨(0 : Int32), ?_, fun t kk => ?_⟩
      · exact Or.inl rfl
      refine pre0 t ?_
      show Steps p.tables e below (s₁.setTop (mkF m 0 #[.val (.long p0), .second, .val (.int p1), .val (.int p2), .unset, .unset, .unset, .unset, .unset, .unset, .unset, .unset] [])) _
      refine XS.iloadN X0.here hx rfl (hb hby at_0) rfl ?_
      show Steps p.tables e below (s₁.setTop (mkF m 1 #[.val (.long p0), .second, .val (.int p1), .val (.int p2), .unset, .unset, .unset, .unset, .unset, .unset, .unset, .unset] [(.int p2)])) _
      refine XS.iconst X0.here hx rfl (hb hby at_1) ?_
      show Steps p.tables e below (s₁.setTop (mkF m 2 #[.val (.long p0), .second, .val (.int p1), .val (.int p2), .unset, .unset, .unset, .unset, .unset, .unset, .unset, .unset] [(.int (1 : Int32)), (.int p2)])) _
      refine XS.iand X0.here hx rfl (hb hby at_2) rfl ?_
      show Steps p.tables e below (s₁.setTop (mkF m 3 #[.val (.long p0), .second, .val (.int p1), .val (.int p2), .unset, .unset, .unset, .unset, .unset, .unset, .unset, .unset] [(.int (p2 &&& (1 : Int32)))])) _
      refine XS.ifYes X0.here hx rfl (pc0 := 3) (pc' := 10) rfl (hb hby at_3) rfl ((if0 _ _).trans (teq hc).1) (by decide) (by decide) ?_
      show Steps p.tables e below (s₁.setTop (mkF m 10 #[.val (.long p0), .second, .val (.int p1), .val (.int p2), .unset, .unset, .unset, .unset, .unset, .unset, .unset, .unset] [])) _
      refine XS.iconst X0.here hx rfl (hb hby at_10) ?_
      show Steps p.tables e below (s₁.setTop (mkF m 11 #[.val (.long p0), .second, .val (.int p1), .val (.int p2), .unset, .unset, .unset, .unset, .unset, .unset, .unset, .unset] [(.int (0 : Int32))])) _
      refine XS.istore X0.here hx rfl (hb hby at_11) rfl (l' := #[.val (.long p0), .second, .val (.int p1), .val (.int p2), .val (.int (0 : Int32)), .unset, .unset, .unset, .unset, .unset, .unset, .unset]) rfl ?_
      exact kk
    case neg =>
      refine ⟨(1 : Int32), ?_, fun t kk => ?_⟩
      · exact Or.inr rfl
      refine pre0 t ?_
      show Steps p.tables e below (s₁.setTop (mkF m 0 #[.val (.long p0), .second, .val (.int p1), .val (.int p2), .unset, .unset, .unset, .unset, .unset, .unset, .unset, .unset] [])) _
      refine XS.iloadN X0.here hx rfl (hb hby at_0) rfl ?_
      show Steps p.tables e below (s₁.setTop (mkF m 1 #[.val (.long p0), .second, .val (.int p1), .val (.int p2), .unset, .unset, .unset, .unset, .unset, .unset, .unset, .unset] [(.int p2)])) _
      refine XS.iconst X0.here hx rfl (hb hby at_1) ?_
      show Steps p.tables e below (s₁.setTop (mkF m 2 #[.val (.long p0), .second, .val (.int p1), .val (.int p2), .unset, .unset, .unset, .unset, .unset, .unset, .unset, .unset] [(.int (1 : Int32)), (.int p2)])) _
      refine XS.iand X0.here hx rfl (hb hby at_2) rfl ?_
      show Steps p.tables e below (s₁.setTop (mkF m 3 #[.val (.long p0), .second, .val (.int p1), .val (.int p2), .unset, .unset, .unset, .unset, .unset, .unset, .unset, .unset] [(.int (p2 &&& (1 : Int32)))])) _
      refine XS.ifNo X0.here hx rfl (hb hby at_3) rfl ((if0 _ _).trans (feq hc).1) ?_
      show Steps p.tables e below (s₁.setTop (mkF m 6 #[.val (.long p0), .second, .val (.int p1), .val (.int p2), .unset, .unset, .unset, .unset, .unset, .unset, .unset, .unset] [])) _
      refine XS.iconst X0.here hx rfl (hb hby at_6) ?_
      show Steps p.tables e below (s₁.setTop (mkF m 7 #[.val (.long p0), .second, .val (.int p1), .val (.int p2), .unset, .unset, .unset, .unset, .unset, .unset, .unset, .unset] [(.int (1 : Int32))])) _
      refine XS.goto X0.here hx rfl (pc0 := 7) (pc' := 11) rfl (hb hby at_7) (by decide) (by decide) ?_
      show Steps p.tables e below (s₁.setTop (mkF m 11 #[.val (.long p0), .second, .val (.int p1), .val (.int p2), .unset, .unset, .unset, .unset, .unset, .unset, .unset, .unset] [(.int (1 : Int32))])) _
      refine XS.istore X0.here hx rfl (hb hby at_11) rfl (l' := #[.val (.long p0), .second, .val (.int p1), .val (.int p2), .val (.int (1 : Int32)), .unset, .unset, .unset, .unset, .unset, .unset, .unset]) rfl ?_
      exact kk
  obtain ⟨hf, hhf, pre52⟩ : ∃ hf : Int32, (hf = 0 ∨ hf = 1) ∧ ∀ t, Steps p.tables e below (s₁.setTop (mkF m 26 #[.val (.long p0), .second, .val (.int p1), .val (.int p2), .val (.int bl), .val (.int hf), .unset, .unset, .unset, .unset, .unset, .unset] [])) t → Steps p.tables e below (s₁.setTop (entryFrame m #[(.long p0), (.int p1), (.int p2)] maxLocals)) t := by
    by_cases hc : (p2 &&& (2 : Int32)) = (0 : Int32)
    case pos =>
      refine ⟨(0 : Int32), ?_, fun t kk => ?_⟩
      · exact Or.inl rfl
      refine pre1 t ?_
      show Steps p.tables e below (s₁.setTop (mkF m 13 #[.val (.long p0), .second, .val (.int p1), .val (.int p2), .val (.int bl), .unset, .unset, .unset, .unset, .unset, .unset, .unset] [])) _
      refine XS.iloadN X0.here hx rfl (hb hby at_13) rfl ?_
      show Steps p.tables e below (s₁.setTop (mkF m 14 #[.val (.long p0), .second, .val (.int p1), .val (.int p2), .val (.int bl), .unset, .unset, .unset, .unset, .unset, .unset, .unset] [(.int p2)])) _
      refine XS.iconst X0.here hx rfl (hb hby at_14) ?_
      show Steps p.tables e below (s₁.setTop (mkF m 15 #[.val (.long p0), .second, .val (.int p1), .val (.int p2), .val (.int bl), .unset, .unset, .unset, .unset, .unset, .unset, .unset] [(.int (2 : Int32)), (.int p2)])) _
      refine XS.iand X0.here hx rfl (hb hby at_15) rfl ?_
      show Steps p.tables e below (s₁.setTop (mkF m 16 #[.val (.long p0), .second, .val (.int p1), .val (.int p2), .val (.int bl), .unset, .unset, .unset, .unset, .unset, .unset, .unset] [(.int (p2 &&& (2 : Int32)))])) _
      refine XS.ifYes X0.here hx rfl (pc0 := 16) (pc' := 23) rfl (hb hby at_16) rfl ((if0 _ _).trans (teq hc).1) (by decide) (by decide) ?_
      show Steps p.tables e below (s₁.setTop (mkF m 23 #[.val (.long p0), .second, .val (.int p1), .val (.int p2), .val (.int bl), .unset, .unset, .unset, .unset, .unset, .unset, .unset] [])) _
      refine XS.iconst X0.here hx rfl (hb hby at_23) ?_
      show Steps p.tables e below (s₁.setTop (mkF m 24 #[.val (.long p0), .second, .val (.int p1), .val (.int p2), .val (.int bl), .unset, .unset, .unset, .unset, .unset, .unset, .unset] [(.int (0 : Int32))])) _
      refine XS.istore X0.here hx rfl (hb hby at_24) rfl (l' := #[.val (.long p0), .second, .val (.int p1), .val (.int p2), .val (.int bl), .val (.int (0 : Int32)), .unset, .unset, .unset, .unset, .unset, .unset]) rfl ?_
      exact kk
    case neg =>
      refine ⟨(1 : Int32), ?_, fun t kk => ?_⟩
      · exact Or.inr rfl
      refine pre1 t ?_
      show Steps p.tables e below (s₁.setTop (mkF m 13 #[.val (.long p0), .second, .val (.int p1), .val (.int p2), .val (.int bl), .unset, .unset, .unset, .unset, .unset, .unset, .unset] [])) _
      refine XS.iloadN X0.here hx rfl (hb hby at_13) rfl ?_
      show Steps p.tables e below (s₁.setTop (mkF m 14 #[.val (.long p0), .second, .val (.int p1), .val (.int p2), .val (.int bl), .unset, .unset, .unset, .unset, .unset, .unset, .unset] [(.int p2)])) _
      refine XS.iconst X0.here hx rfl (hb hby at_14) ?_
      show Steps p.tables e below (s₁.setTop (mkF m 15 #[.val (.long p0), .second, .val (.int p1), .val (.int p2), .val (.int bl), .unset, .unset, .unset, .unset, .unset, .unset, .unset] [(.int (2 : Int32)), (.int p2)])) _
      refine XS.iand X0.here hx rfl (hb hby at_15) rfl ?_
      show Steps p.tables e below (s₁.setTop (mkF m 16 #[.val (.long p0), .second, .val (.int p1), .val (.int p2), .val (.int bl), .unset, .unset, .unset, .unset, .unset, .unset, .unset] [(.int (p2 &&& (2 : Int32)))])) _
      refine XS.ifNo X0.here hx rfl (hb hby at_16) rfl ((if0 _ _).trans (feq hc).1) ?_
      show Steps p.tables e below (s₁.setTop (mkF m 19 #[.val (.long p0), .second, .val (.int p1), .val (.int p2), .val (.int bl), .unset, .unset, .unset, .unset, .unset, .unset, .unset] [])) _
      refine XS.iconst X0.here hx rfl (hb hby at_19) ?_
      show Steps p.tables e below (s₁.setTop (mkF m 20 #[.val (.long p0), .second, .val (.int p1), .val (.int p2), .val (.int bl), .unset, .unset, .unset, .unset, .unset, .unset, .unset] [(.int (1 : Int32))])) _
      refine XS.goto X0.here hx rfl (pc0 := 20) (pc' := 24) rfl (hb hby at_20) (by decide) (by decide) ?_
      show Steps p.tables e below (s₁.setTop (mkF m 24 #[.val (.long p0), .second, .val (.int p1), .val (.int p2), .val (.int bl), .unset, .unset, .unset, .unset, .unset, .unset, .unset] [(.int (1 : Int32))])) _
      refine XS.istore X0.here hx rfl (hb hby at_24) rfl (l' := #[.val (.long p0), .second, .val (.int p1), .val (.int p2), .val (.int bl), .val (.int (1 : Int32)), .unset, .unset, .unset, .unset, .unset, .unset]) rfl ?_
      exact kk
  obtain ⟨ms, pre103⟩ : ∃ ms : Int64, ∀ t, Steps p.tables e below (s₁.setTop (mkF m 48 #[.val (.long p0), .second, .val (.int p1), .val (.int p2), .val (.int bl), .val (.int hf), .val (.long ms), .second, .unset, .unset, .unset, .unset] [])) t → Steps p.tables e below (s₁.setTop (entryFrame m #[(.long p0), (.int p1), (.int p2)] maxLocals)) t := by
    by_cases hc : (p2 &&& (4 : Int32)) = (0 : Int32)
    case pos =>
      refine ⟨p0, fun t kk => ?_⟩
      refine pre52 t ?_
      show Steps p.tables e below (s₁.setTop (mkF m 26 #[.val (.long p0), .second, .val (.int p1), .val (.int p2), .val (.int bl), .val (.int hf), .unset, .unset, .unset, .unset, .unset, .unset] [])) _
      refine XS.lloadN X0.here hx rfl (hb hby at_26) rfl ?_
      show Steps p.tables e below (s₁.setTop (mkF m 27 #[.val (.long p0), .second, .val (.int p1), .val (.int p2), .val (.int bl), .val (.int hf), .unset, .unset, .unset, .unset, .unset, .unset] [(.long p0)])) _
      refine XS.lstore X0.here hx rfl (hb hby at_27) rfl (l' := #[.val (.long p0), .second, .val (.int p1), .val (.int p2), .val (.int bl), .val (.int hf), .val (.long p0), .second, .unset, .unset, .unset, .unset]) rfl ?_
      show Steps p.tables e below (s₁.setTop (mkF m 29 #[.val (.long p0), .second, .val (.int p1), .val (.int p2), .val (.int bl), .val (.int hf), .val (.long p0), .second, .unset, .unset, .unset, .unset] [])) _
      refine XS.iloadN X0.here hx rfl (hb hby at_29) rfl ?_
      show Steps p.tables e below (s₁.setTop (mkF m 30 #[.val (.long p0), .second, .val (.int p1), .val (.int p2), .val (.int bl), .val (.int hf), .val (.long p0), .second, .unset, .unset, .unset, .unset] [(.int p2)])) _
      refine XS.iconst X0.here hx rfl (hb hby at_30) ?_
      show Steps p.tables e below (s₁.setTop (mkF m 31 #[.val (.long p0), .second, .val (.int p1), .val (.int p2), .val (.int bl), .val (.int hf), .val (.long p0), .second, .unset, .unset, .unset, .unset] [(.int (4 : Int32)), (.int p2)])) _
      refine XS.iand X0.here hx rfl (hb hby at_31) rfl ?_
      show Steps p.tables e below (s₁.setTop (mkF m 32 #[.val (.long p0), .second, .val (.int p1), .val (.int p2), .val (.int bl), .val (.int hf), .val (.long p0), .second, .unset, .unset, .unset, .unset] [(.int (p2 &&& (4 : Int32)))])) _
      refine XS.ifYes X0.here hx rfl (pc0 := 32) (pc' := 48) rfl (hb hby at_32) rfl ((if0 _ _).trans (teq hc).1) (by decide) (by decide) ?_
      exact kk
    case neg =>
      refine ⟨(((p1.toInt64) + (((p2 >>> ((3 : Int32) &&& 31)) &&& (3 : Int32)).toInt64)) - (1 : Int64)), fun t kk => ?_⟩
      refine pre52 t ?_
      show Steps p.tables e below (s₁.setTop (mkF m 26 #[.val (.long p0), .second, .val (.int p1), .val (.int p2), .val (.int bl), .val (.int hf), .unset, .unset, .unset, .unset, .unset, .unset] [])) _
      refine XS.lloadN X0.here hx rfl (hb hby at_26) rfl ?_
      show Steps p.tables e below (s₁.setTop (mkF m 27 #[.val (.long p0), .second, .val (.int p1), .val (.int p2), .val (.int bl), .val (.int hf), .unset, .unset, .unset, .unset, .unset, .unset] [(.long p0)])) _
      refine XS.lstore X0.here hx rfl (hb hby at_27) rfl (l' := #[.val (.long p0), .second, .val (.int p1), .val (.int p2), .val (.int bl), .val (.int hf), .val (.long p0), .second, .unset, .unset, .unset, .unset]) rfl ?_
      show Steps p.tables e below (s₁.setTop (mkF m 29 #[.val (.long p0), .second, .val (.int p1), .val (.int p2), .val (.int bl), .val (.int hf), .val (.long p0), .second, .unset, .unset, .unset, .unset] [])) _
      refine XS.iloadN X0.here hx rfl (hb hby at_29) rfl ?_
      show Steps p.tables e below (s₁.setTop (mkF m 30 #[.val (.long p0), .second, .val (.int p1), .val (.int p2), .val (.int bl), .val (.int hf), .val (.long p0), .second, .unset, .unset, .unset, .unset] [(.int p2)])) _
      refine XS.iconst X0.here hx rfl (hb hby at_30) ?_
      show Steps p.tables e below (s₁.setTop (mkF m 31 #[.val (.long p0), .second, .val (.int p1), .val (.int p2), .val (.int bl), .val (.int hf), .val (.long p0), .second, .unset, .unset, .unset, .unset] [(.int (4 : Int32)), (.int p2)])) _
      refine XS.iand X0.here hx rfl (hb hby at_31) rfl ?_
      show Steps p.tables e below (s₁.setTop (mkF m 32 #[.val (.long p0), .second, .val (.int p1), .val (.int p2), .val (.int bl), .val (.int hf), .val (.long p0), .second, .unset, .unset, .unset, .unset] [(.int (p2 &&& (4 : Int32)))])) _
      refine XS.ifNo X0.here hx rfl (hb hby at_32) rfl ((if0 _ _).trans (feq hc).1) ?_
      show Steps p.tables e below (s₁.setTop (mkF m 35 #[.val (.long p0), .second, .val (.int p1), .val (.int p2), .val (.int bl), .val (.int hf), .val (.long p0), .second, .unset, .unset, .unset, .unset] [])) _
      refine XS.iloadN X0.here hx rfl (hb hby at_35) rfl ?_
      show Steps p.tables e below (s₁.setTop (mkF m 36 #[.val (.long p0), .second, .val (.int p1), .val (.int p2), .val (.int bl), .val (.int hf), .val (.long p0), .second, .unset, .unset, .unset, .unset] [(.int p1)])) _
      refine XS.i2l X0.here hx rfl (hb hby at_36) rfl ?_
      show Steps p.tables e below (s₁.setTop (mkF m 37 #[.val (.long p0), .second, .val (.int p1), .val (.int p2), .val (.int bl), .val (.int hf), .val (.long p0), .second, .unset, .unset, .unset, .unset] [(.long (p1.toInt64))])) _
      refine XS.iloadN X0.here hx rfl (hb hby at_37) rfl ?_
      show Steps p.tables e below (s₁.setTop (mkF m 38 #[.val (.long p0), .second, .val (.int p1), .val (.int p2), .val (.int bl), .val (.int hf), .val (.long p0), .second, .unset, .unset, .unset, .unset] [(.int p2), (.long (p1.toInt64))])) _
      refine XS.iconst X0.here hx rfl (hb hby at_38) ?_
      show Steps p.tables e below (s₁.setTop (mkF m 39 #[.val (.long p0), .second, .val (.int p1), .val (.int p2), .val (.int bl), .val (.int hf), .val (.long p0), .second, .unset, .unset, .unset, .unset] [(.int (3 : Int32)), (.int p2), (.long (p1.toInt64))])) _
      refine XS.ishr X0.here hx rfl (hb hby at_39) rfl ?_
      show Steps p.tables e below (s₁.setTop (mkF m 40 #[.val (.long p0), .second, .val (.int p1), .val (.int p2), .val (.int bl), .val (.int hf), .val (.long p0), .second, .unset, .unset, .unset, .unset] [(.int (p2 >>> ((3 : Int32) &&& 31))), (.long (p1.toInt64))])) _
      refine XS.iconst X0.here hx rfl (hb hby at_40) ?_
      show Steps p.tables e below (s₁.setTop (mkF m 41 #[.val (.long p0), .second, .val (.int p1), .val (.int p2), .val (.int bl), .val (.int hf), .val (.long p0), .second, .unset, .unset, .unset, .unset] [(.int (3 : Int32)), (.int (p2 >>> ((3 : Int32) &&& 31))), (.long (p1.toInt64))])) _
      refine XS.iand X0.here hx rfl (hb hby at_41) rfl ?_
      show Steps p.tables e below (s₁.setTop (mkF m 42 #[.val (.long p0), .second, .val (.int p1), .val (.int p2), .val (.int bl), .val (.int hf), .val (.long p0), .second, .unset, .unset, .unset, .unset] [(.int ((p2 >>> ((3 : Int32) &&& 31)) &&& (3 : Int32))), (.long (p1.toInt64))])) _
      refine XS.i2l X0.here hx rfl (hb hby at_42) rfl ?_
      show Steps p.tables e below (s₁.setTop (mkF m 43 #[.val (.long p0), .second, .val (.int p1), .val (.int p2), .val (.int bl), .val (.int hf), .val (.long p0), .second, .unset, .unset, .unset, .unset] [(.long (((p2 >>> ((3 : Int32) &&& 31)) &&& (3 : Int32)).toInt64)), (.long (p1.toInt64))])) _
      refine XS.ladd X0.here hx rfl (hb hby at_43) rfl ?_
      show Steps p.tables e below (s₁.setTop (mkF m 44 #[.val (.long p0), .second, .val (.int p1), .val (.int p2), .val (.int bl), .val (.int hf), .val (.long p0), .second, .unset, .unset, .unset, .unset] [(.long ((p1.toInt64) + (((p2 >>> ((3 : Int32) &&& 31)) &&& (3 : Int32)).toInt64)))])) _
      refine XS.lconst X0.here hx rfl (hb hby at_44) ?_
      show Steps p.tables e below (s₁.setTop (mkF m 45 #[.val (.long p0), .second, .val (.int p1), .val (.int p2), .val (.int bl), .val (.int hf), .val (.long p0), .second, .unset, .unset, .unset, .unset] [(.long (1 : Int64)), (.long ((p1.toInt64) + (((p2 >>> ((3 : Int32) &&& 31)) &&& (3 : Int32)).toInt64)))])) _
      refine XS.lsub X0.here hx rfl (hb hby at_45) rfl ?_
      show Steps p.tables e below (s₁.setTop (mkF m 46 #[.val (.long p0), .second, .val (.int p1), .val (.int p2), .val (.int bl), .val (.int hf), .val (.long p0), .second, .unset, .unset, .unset, .unset] [(.long (((p1.toInt64) + (((p2 >>> ((3 : Int32) &&& 31)) &&& (3 : Int32)).toInt64)) - (1 : Int64)))])) _
      refine XS.lstore X0.here hx rfl (hb hby at_46) rfl (l' := #[.val (.long p0), .second, .val (.int p1), .val (.int p2), .val (.int bl), .val (.int hf), .val (.long (((p1.toInt64) + (((p2 >>> ((3 : Int32) &&& 31)) &&& (3 : Int32)).toInt64)) - (1 : Int64))), .second, .unset, .unset, .unset, .unset]) rfl ?_
      exact kk
  obtain ⟨dd, hdd, pre154⟩ : ∃ dd : UInt64, ((hf = 0 → dd = FP.i2d p1) ∧ (¬ hf = 0 → dd = FP.dadd (FP.i2d p1) (4602678819172646912 : UInt64))) ∧ ∀ t, Steps p.tables e below (s₁.setTop (mkF m 66 #[.val (.long p0), .second, .val (.int p1), .val (.int p2), .val (.int bl), .val (.int hf), .val (.long ms), .second, .val (.double dd), .second, .unset, .unset] [])) t → Steps p.tables e below (s₁.setTop (entryFrame m #[(.long p0), (.int p1), (.int p2)] maxLocals)) t := by
    by_cases hc : hf = (0 : Int32)
    case pos =>
      refine ⟨(FP.i2d p1), ?_, fun t kk => ?_⟩
      · exact ⟨fun _ => rfl, fun q => absurd hc q⟩
      refine pre103 t ?_
      show Steps p.tables e below (s₁.setTop (mkF m 48 #[.val (.long p0), .second, .val (.int p1), .val (.int p2), .val (.int bl), .val (.int hf), .val (.long ms), .second, .unset, .unset, .unset, .unset] [])) _
      refine XS.iload X0.here hx rfl (hb hby at_48) rfl ?_
      show Steps p.tables e below (s₁.setTop (mkF m 50 #[.val (.long p0), .second, .val (.int p1), .val (.int p2), .val (.int bl), .val (.int hf), .val (.long ms), .second, .unset, .unset, .unset, .unset] [(.int hf)])) _
      refine XS.ifYes X0.here hx rfl (pc0 := 50) (pc' := 62) rfl (hb hby at_50) rfl ((if0 _ _).trans (teq hc).1) (by decide) (by decide) ?_
      show Steps p.tables e below (s₁.setTop (mkF m 62 #[.val (.long p0), .second, .val (.int p1), .val (.int p2), .val (.int bl), .val (.int hf), .val (.long ms), .second, .unset, .unset, .unset, .unset] [])) _
      refine XS.iloadN X0.here hx rfl (hb hby at_62) rfl ?_
      show Steps p.tables e below (s₁.setTop (mkF m 63 #[.val (.long p0), .second, .val (.int p1), .val (.int p2), .val (.int bl), .val (.int hf), .val (.long ms), .second, .unset, .unset, .unset, .unset] [(.int p1)])) _
      refine XS.i2dS X0.here hx rfl (hb hby at_63) rfl (v := FP.i2d p1) rfl ?_
      show Steps p.tables e below (s₁.setTop (mkF m 64 #[.val (.long p0), .second, .val (.int p1), .val (.int p2), .val (.int bl), .val (.int hf), .val (.long ms), .second, .unset, .unset, .unset, .unset] [(.double (FP.i2d p1))])) _
      refine XS.dstore X0.here hx rfl (hb hby at_64) rfl (l' := #[.val (.long p0), .second, .val (.int p1), .val (.int p2), .val (.int bl), .val (.int hf), .val (.long ms), .second, .val (.double (FP.i2d p1)), .second, .unset, .unset]) rfl ?_
      exact kk
    case neg =>
      refine ⟨(FP.dadd (FP.i2d p1) (4602678819172646912 : UInt64)), ?_, fun t kk => ?_⟩
      · exact ⟨fun q => absurd q hc, fun _ => rfl⟩
      refine pre103 t ?_
      show Steps p.tables e below (s₁.setTop (mkF m 48 #[.val (.long p0), .second, .val (.int p1), .val (.int p2), .val (.int bl), .val (.int hf), .val (.long ms), .second, .unset, .unset, .unset, .unset] [])) _
      refine XS.iload X0.here hx rfl (hb hby at_48) rfl ?_
      show Steps p.tables e below (s₁.setTop (mkF m 50 #[.val (.long p0), .second, .val (.int p1), .val (.int p2), .val (.int bl), .val (.int hf), .val (.long ms), .second, .unset, .unset, .unset, .unset] [(.int hf)])) _
      refine XS.ifNo X0.here hx rfl (hb hby at_50) rfl ((if0 _ _).trans (feq hc).1) ?_
      show Steps p.tables e below (s₁.setTop (mkF m 53 #[.val (.long p0), .second, .val (.int p1), .val (.int p2), .val (.int bl), .val (.int hf), .val (.long ms), .second, .unset, .unset, .unset, .unset] [])) _
      refine XS.iloadN X0.here hx rfl (hb hby at_53) rfl ?_
      show Steps p.tables e below (s₁.setTop (mkF m 54 #[.val (.long p0), .second, .val (.int p1), .val (.int p2), .val (.int bl), .val (.int hf), .val (.long ms), .second, .unset, .unset, .unset, .unset] [(.int p1)])) _
      refine XS.i2dS X0.here hx rfl (hb hby at_54) rfl (v := FP.i2d p1) rfl ?_
      show Steps p.tables e below (s₁.setTop (mkF m 55 #[.val (.long p0), .second, .val (.int p1), .val (.int p2), .val (.int bl), .val (.int hf), .val (.long ms), .second, .unset, .unset, .unset, .unset] [(.double (FP.i2d p1))])) _
      refine X0.ldc2DoubleC hx hown (mvT hZ (hw _ (List.mem_of_getElem? (i := 33) rfl))) (g := (mkF m 55 #[.val (.long p0), .second, .val (.int p1), .val (.int p2), .val (.int bl), .val (.int hf), .val (.long ms), .second, .unset, .unset, .unset, .unset] [(.double (FP.i2d p1))])) rfl (hb hby at_55) _ ?_
      show Steps p.tables e below (s₁.setTop (mkF m 58 #[.val (.long p0), .second, .val (.int p1), .val (.int p2), .val (.int bl), .val (.int hf), .val (.long ms), .second, .unset, .unset, .unset, .unset] [(.double (4602678819172646912 : UInt64)), (.double (FP.i2d p1))])) _
      refine XS.daddS X0.here hx rfl (hb hby at_58) rfl (own_nn p1) (v := (FP.dadd (FP.i2d p1) (4602678819172646912 : UInt64))) rfl ?_
      show Steps p.tables e below (s₁.setTop (mkF m 59 #[.val (.long p0), .second, .val (.int p1), .val (.int p2), .val (.int bl), .val (.int hf), .val (.long ms), .second, .unset, .unset, .unset, .unset] [(.double (FP.dadd (FP.i2d p1) (4602678819172646912 : UInt64)))])) _
      refine XS.goto X0.here hx rfl (pc0 := 59) (pc' := 64) rfl (hb hby at_59) (by decide) (by decide) ?_
      show Steps p.tables e below (s₁.setTop (mkF m 64 #[.val (.long p0), .second, .val (.int p1), .val (.int p2), .val (.int bl), .val (.int hf), .val (.long ms), .second, .unset, .unset, .unset, .unset] [(.double (FP.dadd (FP.i2d p1) (4602678819172646912 : UInt64)))])) _
      refine XS.dstore X0.here hx rfl (hb hby at_64) rfl (l' := #[.val (.long p0), .second, .val (.int p1), .val (.int p2), .val (.int bl), .val (.int hf), .val (.long ms), .second, .val (.double (FP.dadd (FP.i2d p1) (4602678819172646912 : UInt64))), .second, .unset, .unset]) rfl ?_
      exact kk
  obtain ⟨ex, hex, pre205⟩ : ∃ ex : Int32, (((¬ hf = 0 ∨ ¬ bl = 0) → (p1.toInt64 < ms → ex = 1) ∧ (¬ p1.toInt64 < ms → ex = 0)) ∧ (hf = 0 → bl = 0 → (ms < p1.toInt64 → ex = 0) ∧ (¬ ms < p1.toInt64 → ex = 1))) ∧ ∀ t, Steps p.tables e below (s₁.setTop (mkF m 127 #[.val (.long p0), .second, .val (.int p1), .val (.int p2), .val (.int bl), .val (.int hf), .val (.long ms), .second, .val (.double dd), .second, .val (.int ex), .unset] [])) t → Steps p.tables e below (s₁.setTop (entryFrame m #[(.long p0), (.int p1), (.int p2)] maxLocals)) t := by
    by_cases hh : hf = (0 : Int32)
    case pos =>
      by_cases hbb : bl = (0 : Int32)
      case pos =>
        by_cases hc : (0 : Int32) < (lcmpW (p1.toInt64) ms)
        case pos =>
          refine ⟨(0 : Int32), ?_, fun t kk => ?_⟩
          · refine ⟨fun q => absurd q (by intro q; rcases q with q | q <;> exact q (by assumption)), fun _ _ => ⟨fun q => ?_, fun q => ?_⟩⟩
            · rfl
            · exact absurd ((lw_gt _ _).mp hc) q
          refine pre154 t ?_
          show Steps p.tables e below (s₁.setTop (mkF m 66 #[.val (.long p0), .second, .val (.int p1), .val (.int p2), .val (.int bl), .val (.int hf), .val (.long ms), .second, .val (.double dd), .second, .unset, .unset] [])) _
          refine XS.iload X0.here hx rfl (hb hby at_66) rfl ?_
          show Steps p.tables e below (s₁.setTop (mkF m 68 #[.val (.long p0), .second, .val (.int p1), .val (.int p2), .val (.int bl), .val (.int hf), .val (.long ms), .second, .val (.double dd), .second, .unset, .unset] [(.int hf)])) _
          refine XS.ifYes X0.here hx rfl (pc0 := 68) (pc' := 89) rfl (hb hby at_68) rfl ((if0 _ _).trans (teq hh).1) (by decide) (by decide) ?_
          show Steps p.tables e below (s₁.setTop (mkF m 89 #[.val (.long p0), .second, .val (.int p1), .val (.int p2), .val (.int bl), .val (.int hf), .val (.long ms), .second, .val (.double dd), .second, .unset, .unset] [])) _
          refine XS.iload X0.here hx rfl (hb hby at_89) rfl ?_
          show Steps p.tables e below (s₁.setTop (mkF m 91 #[.val (.long p0), .second, .val (.int p1), .val (.int p2), .val (.int bl), .val (.int hf), .val (.long ms), .second, .val (.double dd), .second, .unset, .unset] [(.int bl)])) _
          refine XS.ifYes X0.here hx rfl (pc0 := 91) (pc' := 112) rfl (hb hby at_91) rfl ((if0 _ _).trans (teq hbb).1) (by decide) (by decide) ?_
          show Steps p.tables e below (s₁.setTop (mkF m 112 #[.val (.long p0), .second, .val (.int p1), .val (.int p2), .val (.int bl), .val (.int hf), .val (.long ms), .second, .val (.double dd), .second, .unset, .unset] [])) _
          refine XS.iloadN X0.here hx rfl (hb hby at_112) rfl ?_
          show Steps p.tables e below (s₁.setTop (mkF m 113 #[.val (.long p0), .second, .val (.int p1), .val (.int p2), .val (.int bl), .val (.int hf), .val (.long ms), .second, .val (.double dd), .second, .unset, .unset] [(.int p1)])) _
          refine XS.i2l X0.here hx rfl (hb hby at_113) rfl ?_
          show Steps p.tables e below (s₁.setTop (mkF m 114 #[.val (.long p0), .second, .val (.int p1), .val (.int p2), .val (.int bl), .val (.int hf), .val (.long ms), .second, .val (.double dd), .second, .unset, .unset] [(.long (p1.toInt64))])) _
          refine XS.lload X0.here hx rfl (hb hby at_114) rfl ?_
          show Steps p.tables e below (s₁.setTop (mkF m 116 #[.val (.long p0), .second, .val (.int p1), .val (.int p2), .val (.int bl), .val (.int hf), .val (.long ms), .second, .val (.double dd), .second, .unset, .unset] [(.long ms), (.long (p1.toInt64))])) _
          refine XS.lcmp X0.here hx rfl (hb hby at_116) rfl ?_
          show Steps p.tables e below (s₁.setTop (mkF m 117 #[.val (.long p0), .second, .val (.int p1), .val (.int p2), .val (.int bl), .val (.int hf), .val (.long ms), .second, .val (.double dd), .second, .unset, .unset] [(.int (lcmpW (p1.toInt64) ms))])) _
          refine XS.ifYes X0.here hx rfl (pc0 := 117) (pc' := 124) rfl (hb hby at_117) rfl ((if0 _ _).trans (tlt hc).2.2.1) (by decide) (by decide) ?_
          show Steps p.tables e below (s₁.setTop (mkF m 124 #[.val (.long p0), .second, .val (.int p1), .val (.int p2), .val (.int bl), .val (.int hf), .val (.long ms), .second, .val (.double dd), .second, .unset, .unset] [])) _
          refine XS.iconst X0.here hx rfl (hb hby at_124) ?_
          show Steps p.tables e below (s₁.setTop (mkF m 125 #[.val (.long p0), .second, .val (.int p1), .val (.int p2), .val (.int bl), .val (.int hf), .val (.long ms), .second, .val (.double dd), .second, .unset, .unset] [(.int (0 : Int32))])) _
          refine XS.istore X0.here hx rfl (hb hby at_125) rfl (l' := #[.val (.long p0), .second, .val (.int p1), .val (.int p2), .val (.int bl), .val (.int hf), .val (.long ms), .second, .val (.double dd), .second, .val (.int (0 : Int32)), .unset]) rfl ?_
          exact kk
        case neg =>
          refine ⟨(1 : Int32), ?_, fun t kk => ?_⟩
          · refine ⟨fun q => absurd q (by intro q; rcases q with q | q <;> exact q (by assumption)), fun _ _ => ⟨fun q => ?_, fun q => ?_⟩⟩
            · exact absurd ((lw_gt _ _).mpr q) hc
            · rfl
          refine pre154 t ?_
          show Steps p.tables e below (s₁.setTop (mkF m 66 #[.val (.long p0), .second, .val (.int p1), .val (.int p2), .val (.int bl), .val (.int hf), .val (.long ms), .second, .val (.double dd), .second, .unset, .unset] [])) _
          refine XS.iload X0.here hx rfl (hb hby at_66) rfl ?_
          show Steps p.tables e below (s₁.setTop (mkF m 68 #[.val (.long p0), .second, .val (.int p1), .val (.int p2), .val (.int bl), .val (.int hf), .val (.long ms), .second, .val (.double dd), .second, .unset, .unset] [(.int hf)])) _
          refine XS.ifYes X0.here hx rfl (pc0 := 68) (pc' := 89) rfl (hb hby at_68) rfl ((if0 _ _).trans (teq hh).1) (by decide) (by decide) ?_
          show Steps p.tables e below (s₁.setTop (mkF m 89 #[.val (.long p0), .second, .val (.int p1), .val (.int p2), .val (.int bl), .val (.int hf), .val (.long ms), .second, .val (.double dd), .second, .unset, .unset] [])) _
          refine XS.iload X0.here hx rfl (hb hby at_89) rfl ?_
          show Steps p.tables e below (s₁.setTop (mkF m 91 #[.val (.long p0), .second, .val (.int p1), .val (.int p2), .val (.int bl), .val (.int hf), .val (.long ms), .second, .val (.double dd), .second, .unset, .unset] [(.int bl)])) _
          refine XS.ifYes X0.here hx rfl (pc0 := 91) (pc' := 112) rfl (hb hby at_91) rfl ((if0 _ _).trans (teq hbb).1) (by decide) (by decide) ?_
          show Steps p.tables e below (s₁.setTop (mkF m 112 #[.val (.long p0), .second, .val (.int p1), .val (.int p2), .val (.int bl), .val (.int hf), .val (.long ms), .second, .val (.double dd), .second, .unset, .unset] [])) _
          refine XS.iloadN X0.here hx rfl (hb hby at_112) rfl ?_
          show Steps p.tables e below (s₁.setTop (mkF m 113 #[.val (.long p0), .second, .val (.int p1), .val (.int p2), .val (.int bl), .val (.int hf), .val (.long ms), .second, .val (.double dd), .second, .unset, .unset] [(.int p1)])) _
          refine XS.i2l X0.here hx rfl (hb hby at_113) rfl ?_
          show Steps p.tables e below (s₁.setTop (mkF m 114 #[.val (.long p0), .second, .val (.int p1), .val (.int p2), .val (.int bl), .val (.int hf), .val (.long ms), .second, .val (.double dd), .second, .unset, .unset] [(.long (p1.toInt64))])) _
          refine XS.lload X0.here hx rfl (hb hby at_114) rfl ?_
          show Steps p.tables e below (s₁.setTop (mkF m 116 #[.val (.long p0), .second, .val (.int p1), .val (.int p2), .val (.int bl), .val (.int hf), .val (.long ms), .second, .val (.double dd), .second, .unset, .unset] [(.long ms), (.long (p1.toInt64))])) _
          refine XS.lcmp X0.here hx rfl (hb hby at_116) rfl ?_
          show Steps p.tables e below (s₁.setTop (mkF m 117 #[.val (.long p0), .second, .val (.int p1), .val (.int p2), .val (.int bl), .val (.int hf), .val (.long ms), .second, .val (.double dd), .second, .unset, .unset] [(.int (lcmpW (p1.toInt64) ms))])) _
          refine XS.ifNo X0.here hx rfl (hb hby at_117) rfl ((if0 _ _).trans (flt hc).2.2.1) ?_
          show Steps p.tables e below (s₁.setTop (mkF m 120 #[.val (.long p0), .second, .val (.int p1), .val (.int p2), .val (.int bl), .val (.int hf), .val (.long ms), .second, .val (.double dd), .second, .unset, .unset] [])) _
          refine XS.iconst X0.here hx rfl (hb hby at_120) ?_
          show Steps p.tables e below (s₁.setTop (mkF m 121 #[.val (.long p0), .second, .val (.int p1), .val (.int p2), .val (.int bl), .val (.int hf), .val (.long ms), .second, .val (.double dd), .second, .unset, .unset] [(.int (1 : Int32))])) _
          refine XS.goto X0.here hx rfl (pc0 := 121) (pc' := 125) rfl (hb hby at_121) (by decide) (by decide) ?_
          show Steps p.tables e below (s₁.setTop (mkF m 125 #[.val (.long p0), .second, .val (.int p1), .val (.int p2), .val (.int bl), .val (.int hf), .val (.long ms), .second, .val (.double dd), .second, .unset, .unset] [(.int (1 : Int32))])) _
          refine XS.istore X0.here hx rfl (hb hby at_125) rfl (l' := #[.val (.long p0), .second, .val (.int p1), .val (.int p2), .val (.int bl), .val (.int hf), .val (.long ms), .second, .val (.double dd), .second, .val (.int (1 : Int32)), .unset]) rfl ?_
          exact kk
      case neg =>
        by_cases hc : (lcmpW (p1.toInt64) ms) < (0 : Int32)
        case pos =>
          refine ⟨(1 : Int32), ?_, fun t kk => ?_⟩
          · refine ⟨fun _ => ⟨fun q => ?_, fun q => ?_⟩, fun _ q => absurd q hbb⟩
            · rfl
            · exact absurd ((lw_lt _ _).mp hc) q
          refine pre154 t ?_
          show Steps p.tables e below (s₁.setTop (mkF m 66 #[.val (.long p0), .second, .val (.int p1), .val (.int p2), .val (.int bl), .val (.int hf), .val (.long ms), .second, .val (.double dd), .second, .unset, .unset] [])) _
          refine XS.iload X0.here hx rfl (hb hby at_66) rfl ?_
          show Steps p.tables e below (s₁.setTop (mkF m 68 #[.val (.long p0), .second, .val (.int p1), .val (.int p2), .val (.int bl), .val (.int hf), .val (.long ms), .second, .val (.double dd), .second, .unset, .unset] [(.int hf)])) _
          refine XS.ifYes X0.here hx rfl (pc0 := 68) (pc' := 89) rfl (hb hby at_68) rfl ((if0 _ _).trans (teq hh).1) (by decide) (by decide) ?_
          show Steps p.tables e below (s₁.setTop (mkF m 89 #[.val (.long p0), .second, .val (.int p1), .val (.int p2), .val (.int bl), .val (.int hf), .val (.long ms), .second, .val (.double dd), .second, .unset, .unset] [])) _
          refine XS.iload X0.here hx rfl (hb hby at_89) rfl ?_
          show Steps p.tables e below (s₁.setTop (mkF m 91 #[.val (.long p0), .second, .val (.int p1), .val (.int p2), .val (.int bl), .val (.int hf), .val (.long ms), .second, .val (.double dd), .second, .unset, .unset] [(.int bl)])) _
          refine XS.ifNo X0.here hx rfl (hb hby at_91) rfl ((if0 _ _).trans (feq hbb).1) ?_
          show Steps p.tables e below (s₁.setTop (mkF m 94 #[.val (.long p0), .second, .val (.int p1), .val (.int p2), .val (.int bl), .val (.int hf), .val (.long ms), .second, .val (.double dd), .second, .unset, .unset] [])) _
          refine XS.iloadN X0.here hx rfl (hb hby at_94) rfl ?_
          show Steps p.tables e below (s₁.setTop (mkF m 95 #[.val (.long p0), .second, .val (.int p1), .val (.int p2), .val (.int bl), .val (.int hf), .val (.long ms), .second, .val (.double dd), .second, .unset, .unset] [(.int p1)])) _
          refine XS.i2l X0.here hx rfl (hb hby at_95) rfl ?_
          show Steps p.tables e below (s₁.setTop (mkF m 96 #[.val (.long p0), .second, .val (.int p1), .val (.int p2), .val (.int bl), .val (.int hf), .val (.long ms), .second, .val (.double dd), .second, .unset, .unset] [(.long (p1.toInt64))])) _
          refine XS.lload X0.here hx rfl (hb hby at_96) rfl ?_
          show Steps p.tables e below (s₁.setTop (mkF m 98 #[.val (.long p0), .second, .val (.int p1), .val (.int p2), .val (.int bl), .val (.int hf), .val (.long ms), .second, .val (.double dd), .second, .unset, .unset] [(.long ms), (.long (p1.toInt64))])) _
          refine XS.lcmp X0.here hx rfl (hb hby at_98) rfl ?_
          show Steps p.tables e below (s₁.setTop (mkF m 99 #[.val (.long p0), .second, .val (.int p1), .val (.int p2), .val (.int bl), .val (.int hf), .val (.long ms), .second, .val (.double dd), .second, .unset, .unset] [(.int (lcmpW (p1.toInt64) ms))])) _
          refine XS.ifNo X0.here hx rfl (hb hby at_99) rfl ((if0 _ _).trans (tlt hc).2.1) ?_
          show Steps p.tables e below (s₁.setTop (mkF m 102 #[.val (.long p0), .second, .val (.int p1), .val (.int p2), .val (.int bl), .val (.int hf), .val (.long ms), .second, .val (.double dd), .second, .unset, .unset] [])) _
          refine XS.iconst X0.here hx rfl (hb hby at_102) ?_
          show Steps p.tables e below (s₁.setTop (mkF m 103 #[.val (.long p0), .second, .val (.int p1), .val (.int p2), .val (.int bl), .val (.int hf), .val (.long ms), .second, .val (.double dd), .second, .unset, .unset] [(.int (1 : Int32))])) _
          refine XS.goto X0.here hx rfl (pc0 := 103) (pc' := 107) rfl (hb hby at_103) (by decide) (by decide) ?_
          show Steps p.tables e below (s₁.setTop (mkF m 107 #[.val (.long p0), .second, .val (.int p1), .val (.int p2), .val (.int bl), .val (.int hf), .val (.long ms), .second, .val (.double dd), .second, .unset, .unset] [(.int (1 : Int32))])) _
          refine XS.istore X0.here hx rfl (hb hby at_107) rfl (l' := #[.val (.long p0), .second, .val (.int p1), .val (.int p2), .val (.int bl), .val (.int hf), .val (.long ms), .second, .val (.double dd), .second, .val (.int (1 : Int32)), .unset]) rfl ?_
          show Steps p.tables e below (s₁.setTop (mkF m 109 #[.val (.long p0), .second, .val (.int p1), .val (.int p2), .val (.int bl), .val (.int hf), .val (.long ms), .second, .val (.double dd), .second, .val (.int (1 : Int32)), .unset] [])) _
          refine XS.goto X0.here hx rfl (pc0 := 109) (pc' := 127) rfl (hb hby at_109) (by decide) (by decide) ?_
          exact kk
        case neg =>
          refine ⟨(0 : Int32), ?_, fun t kk => ?_⟩
          · refine ⟨fun _ => ⟨fun q => ?_, fun q => ?_⟩, fun _ q => absurd q hbb⟩
            · exact absurd ((lw_lt _ _).mpr q) hc
            · rfl
          refine pre154 t ?_
          show Steps p.tables e below (s₁.setTop (mkF m 66 #[.val (.long p0), .second, .val (.int p1), .val (.int p2), .val (.int bl), .val (.int hf), .val (.long ms), .second, .val (.double dd), .second, .unset, .unset] [])) _
          refine XS.iload X0.here hx rfl (hb hby at_66) rfl ?_
          show Steps p.tables e below (s₁.setTop (mkF m 68 #[.val (.long p0), .second, .val (.int p1), .val (.int p2), .val (.int bl), .val (.int hf), .val (.long ms), .second, .val (.double dd), .second, .unset, .unset] [(.int hf)])) _
          refine XS.ifYes X0.here hx rfl (pc0 := 68) (pc' := 89) rfl (hb hby at_68) rfl ((if0 _ _).trans (teq hh).1) (by decide) (by decide) ?_
          show Steps p.tables e below (s₁.setTop (mkF m 89 #[.val (.long p0), .second, .val (.int p1), .val (.int p2), .val (.int bl), .val (.int hf), .val (.long ms), .second, .val (.double dd), .second, .unset, .unset] [])) _
          refine XS.iload X0.here hx rfl (hb hby at_89) rfl ?_
          show Steps p.tables e below (s₁.setTop (mkF m 91 #[.val (.long p0), .second, .val (.int p1), .val (.int p2), .val (.int bl), .val (.int hf), .val (.long ms), .second, .val (.double dd), .second, .unset, .unset] [(.int bl)])) _
          refine XS.ifNo X0.here hx rfl (hb hby at_91) rfl ((if0 _ _).trans (feq hbb).1) ?_
          show Steps p.tables e below (s₁.setTop (mkF m 94 #[.val (.long p0), .second, .val (.int p1), .val (.int p2), .val (.int bl), .val (.int hf), .val (.long ms), .second, .val (.double dd), .second, .unset, .unset] [])) _
          refine XS.iloadN X0.here hx rfl (hb hby at_94) rfl ?_
          show Steps p.tables e below (s₁.setTop (mkF m 95 #[.val (.long p0), .second, .val (.int p1), .val (.int p2), .val (.int bl), .val (.int hf), .val (.long ms), .second, .val (.double dd), .second, .unset, .unset] [(.int p1)])) _
          refine XS.i2l X0.here hx rfl (hb hby at_95) rfl ?_
          show Steps p.tables e below (s₁.setTop (mkF m 96 #[.val (.long p0), .second, .val (.int p1), .val (.int p2), .val (.int bl), .val (.int hf), .val (.long ms), .second, .val (.double dd), .second, .unset, .unset] [(.long (p1.toInt64))])) _
          refine XS.lload X0.here hx rfl (hb hby at_96) rfl ?_
          show Steps p.tables e below (s₁.setTop (mkF m 98 #[.val (.long p0), .second, .val (.int p1), .val (.int p2), .val (.int bl), .val (.int hf), .val (.long ms), .second, .val (.double dd), .second, .unset, .unset] [(.long ms), (.long (p1.toInt64))])) _
          refine XS.lcmp X0.here hx rfl (hb hby at_98) rfl ?_
          show Steps p.tables e below (s₁.setTop (mkF m 99 #[.val (.long p0), .second, .val (.int p1), .val (.int p2), .val (.int bl), .val (.int hf), .val (.long ms), .second, .val (.double dd), .second, .unset, .unset] [(.int (lcmpW (p1.toInt64) ms))])) _
          refine XS.ifYes X0.here hx rfl (pc0 := 99) (pc' := 106) rfl (hb hby at_99) rfl ((if0 _ _).trans (flt hc).2.1) (by decide) (by decide) ?_
          show Steps p.tables e below (s₁.setTop (mkF m 106 #[.val (.long p0), .second, .val (.int p1), .val (.int p2), .val (.int bl), .val (.int hf), .val (.long ms), .second, .val (.double dd), .second, .unset, .unset] [])) _
          refine XS.iconst X0.here hx rfl (hb hby at_106) ?_
          show Steps p.tables e below (s₁.setTop (mkF m 107 #[.val (.long p0), .second, .val (.int p1), .val (.int p2), .val (.int bl), .val (.int hf), .val (.long ms), .second, .val (.double dd), .second, .unset, .unset] [(.int (0 : Int32))])) _
          refine XS.istore X0.here hx rfl (hb hby at_107) rfl (l' := #[.val (.long p0), .second, .val (.int p1), .val (.int p2), .val (.int bl), .val (.int hf), .val (.long ms), .second, .val (.double dd), .second, .val (.int (0 : Int32)), .unset]) rfl ?_
          show Steps p.tables e below (s₁.setTop (mkF m 109 #[.val (.long p0), .second, .val (.int p1), .val (.int p2), .val (.int bl), .val (.int hf), .val (.long ms), .second, .val (.double dd), .second, .val (.int (0 : Int32)), .unset] [])) _
          refine XS.goto X0.here hx rfl (pc0 := 109) (pc' := 127) rfl (hb hby at_109) (by decide) (by decide) ?_
          exact kk
    case neg =>
      by_cases hc : (lcmpW (p1.toInt64) ms) < (0 : Int32)
      case pos =>
        refine ⟨(1 : Int32), ?_, fun t kk => ?_⟩
        · refine ⟨fun _ => ⟨fun q => ?_, fun q => ?_⟩, fun q => absurd q hh⟩
          · rfl
          · exact absurd ((lw_lt _ _).mp hc) q
        refine pre154 t ?_
        show Steps p.tables e below (s₁.setTop (mkF m 66 #[.val (.long p0), .second, .val (.int p1), .val (.int p2), .val (.int bl), .val (.int hf), .val (.long ms), .second, .val (.double dd), .second, .unset, .unset] [])) _
        refine XS.iload X0.here hx rfl (hb hby at_66) rfl ?_
        show Steps p.tables e below (s₁.setTop (mkF m 68 #[.val (.long p0), .second, .val (.int p1), .val (.int p2), .val (.int bl), .val (.int hf), .val (.long ms), .second, .val (.double dd), .second, .unset, .unset] [(.int hf)])) _
        refine XS.ifNo X0.here hx rfl (hb hby at_68) rfl ((if0 _ _).trans (feq hh).1) ?_
        show Steps p.tables e below (s₁.setTop (mkF m 71 #[.val (.long p0), .second, .val (.int p1), .val (.int p2), .val (.int bl), .val (.int hf), .val (.long ms), .second, .val (.double dd), .second, .unset, .unset] [])) _
        refine XS.iloadN X0.here hx rfl (hb hby at_71) rfl ?_
        show Steps p.tables e below (s₁.setTop (mkF m 72 #[.val (.long p0), .second, .val (.int p1), .val (.int p2), .val (.int bl), .val (.int hf), .val (.long ms), .second, .val (.double dd), .second, .unset, .unset] [(.int p1)])) _
        refine XS.i2l X0.here hx rfl (hb hby at_72) rfl ?_
        show Steps p.tables e below (s₁.setTop (mkF m 73 #[.val (.long p0), .second, .val (.int p1), .val (.int p2), .val (.int bl), .val (.int hf), .val (.long ms), .second, .val (.double dd), .second, .unset, .unset] [(.long (p1.toInt64))])) _
        refine XS.lload X0.here hx rfl (hb hby at_73) rfl ?_
        show Steps p.tables e below (s₁.setTop (mkF m 75 #[.val (.long p0), .second, .val (.int p1), .val (.int p2), .val (.int bl), .val (.int hf), .val (.long ms), .second, .val (.double dd), .second, .unset, .unset] [(.long ms), (.long (p1.toInt64))])) _
        refine XS.lcmp X0.here hx rfl (hb hby at_75) rfl ?_
        show Steps p.tables e below (s₁.setTop (mkF m 76 #[.val (.long p0), .second, .val (.int p1), .val (.int p2), .val (.int bl), .val (.int hf), .val (.long ms), .second, .val (.double dd), .second, .unset, .unset] [(.int (lcmpW (p1.toInt64) ms))])) _
        refine XS.ifNo X0.here hx rfl (hb hby at_76) rfl ((if0 _ _).trans (tlt hc).2.1) ?_
        show Steps p.tables e below (s₁.setTop (mkF m 79 #[.val (.long p0), .second, .val (.int p1), .val (.int p2), .val (.int bl), .val (.int hf), .val (.long ms), .second, .val (.double dd), .second, .unset, .unset] [])) _
        refine XS.iconst X0.here hx rfl (hb hby at_79) ?_
        show Steps p.tables e below (s₁.setTop (mkF m 80 #[.val (.long p0), .second, .val (.int p1), .val (.int p2), .val (.int bl), .val (.int hf), .val (.long ms), .second, .val (.double dd), .second, .unset, .unset] [(.int (1 : Int32))])) _
        refine XS.goto X0.here hx rfl (pc0 := 80) (pc' := 84) rfl (hb hby at_80) (by decide) (by decide) ?_
        show Steps p.tables e below (s₁.setTop (mkF m 84 #[.val (.long p0), .second, .val (.int p1), .val (.int p2), .val (.int bl), .val (.int hf), .val (.long ms), .second, .val (.double dd), .second, .unset, .unset] [(.int (1 : Int32))])) _
        refine XS.istore X0.here hx rfl (hb hby at_84) rfl (l' := #[.val (.long p0), .second, .val (.int p1), .val (.int p2), .val (.int bl), .val (.int hf), .val (.long ms), .second, .val (.double dd), .second, .val (.int (1 : Int32)), .unset]) rfl ?_
        show Steps p.tables e below (s₁.setTop (mkF m 86 #[.val (.long p0), .second, .val (.int p1), .val (.int p2), .val (.int bl), .val (.int hf), .val (.long ms), .second, .val (.double dd), .second, .val (.int (1 : Int32)), .unset] [])) _
        refine XS.goto X0.here hx rfl (pc0 := 86) (pc' := 127) rfl (hb hby at_86) (by decide) (by decide) ?_
        exact kk
      case neg =>
        refine ⟨(0 : Int32), ?_, fun t kk => ?_⟩
        · refine ⟨fun _ => ⟨fun q => ?_, fun q => ?_⟩, fun q => absurd q hh⟩
          · exact absurd ((lw_lt _ _).mpr q) hc
          · rfl
        refine pre154 t ?_
        show Steps p.tables e below (s₁.setTop (mkF m 66 #[.val (.long p0), .second, .val (.int p1), .val (.int p2), .val (.int bl), .val (.int hf), .val (.long ms), .second, .val (.double dd), .second, .unset, .unset] [])) _
        refine XS.iload X0.here hx rfl (hb hby at_66) rfl ?_
        show Steps p.tables e below (s₁.setTop (mkF m 68 #[.val (.long p0), .second, .val (.int p1), .val (.int p2), .val (.int bl), .val (.int hf), .val (.long ms), .second, .val (.double dd), .second, .unset, .unset] [(.int hf)])) _
        refine XS.ifNo X0.here hx rfl (hb hby at_68) rfl ((if0 _ _).trans (feq hh).1) ?_
        show Steps p.tables e below (s₁.setTop (mkF m 71 #[.val (.long p0), .second, .val (.int p1), .val (.int p2), .val (.int bl), .val (.int hf), .val (.long ms), .second, .val (.double dd), .second, .unset, .unset] [])) _
        refine XS.iloadN X0.here hx rfl (hb hby at_71) rfl ?_
        show Steps p.tables e below (s₁.setTop (mkF m 72 #[.val (.long p0), .second, .val (.int p1), .val (.int p2), .val (.int bl), .val (.int hf), .val (.long ms), .second, .val (.double dd), .second, .unset, .unset] [(.int p1)])) _
        refine XS.i2l X0.here hx rfl (hb hby at_72) rfl ?_
        show Steps p.tables e below (s₁.setTop (mkF m 73 #[.val (.long p0), .second, .val (.int p1), .val (.int p2), .val (.int bl), .val (.int hf), .val (.long ms), .second, .val (.double dd), .second, .unset, .unset] [(.long (p1.toInt64))])) _
        refine XS.lload X0.here hx rfl (hb hby at_73) rfl ?_
        show Steps p.tables e below (s₁.setTop (mkF m 75 #[.val (.long p0), .second, .val (.int p1), .val (.int p2), .val (.int bl), .val (.int hf), .val (.long ms), .second, .val (.double dd), .second, .unset, .unset] [(.long ms), (.long (p1.toInt64))])) _
        refine XS.lcmp X0.here hx rfl (hb hby at_75) rfl ?_
        show Steps p.tables e below (s₁.setTop (mkF m 76 #[.val (.long p0), .second, .val (.int p1), .val (.int p2), .val (.int bl), .val (.int hf), .val (.long ms), .second, .val (.double dd), .second, .unset, .unset] [(.int (lcmpW (p1.toInt64) ms))])) _
        refine XS.ifYes X0.here hx rfl (pc0 := 76) (pc' := 83) rfl (hb hby at_76) rfl ((if0 _ _).trans (flt hc).2.1) (by decide) (by decide) ?_
        show Steps p.tables e below (s₁.setTop (mkF m 83 #[.val (.long p0), .second, .val (.int p1), .val (.int p2), .val (.int bl), .val (.int hf), .val (.long ms), .second, .val (.double dd), .second, .unset, .unset] [])) _
        refine XS.iconst X0.here hx rfl (hb hby at_83) ?_
        show Steps p.tables e below (s₁.setTop (mkF m 84 #[.val (.long p0), .second, .val (.int p1), .val (.int p2), .val (.int bl), .val (.int hf), .val (.long ms), .second, .val (.double dd), .second, .unset, .unset] [(.int (0 : Int32))])) _
        refine XS.istore X0.here hx rfl (hb hby at_84) rfl (l' := #[.val (.long p0), .second, .val (.int p1), .val (.int p2), .val (.int bl), .val (.int hf), .val (.long ms), .second, .val (.double dd), .second, .val (.int (0 : Int32)), .unset]) rfl ?_
        show Steps p.tables e below (s₁.setTop (mkF m 86 #[.val (.long p0), .second, .val (.int p1), .val (.int p2), .val (.int bl), .val (.int hf), .val (.long ms), .second, .val (.double dd), .second, .val (.int (0 : Int32)), .unset] [])) _
        refine XS.goto X0.here hx rfl (pc0 := 86) (pc' := 127) rfl (hb hby at_86) (by decide) (by decide) ?_
        exact kk
  obtain ⟨b256, g256⟩ : ∃ z, z = h0.size := ⟨_, rfl⟩
  have lo_b256 : n0 ≤ b256 := Nat.le_trans Z0 (Nat.le_of_eq g256.symm)
  have hi_b256 : h0.size ≤ b256 := Nat.le_trans (Keep.refl h0 []).1 (Nat.le_of_eq g256.symm)
  obtain ⟨T256, h256, X256, e256, E256, A256, D256, B256, st256⟩ := newO X0 hx hZ hown (hw _ (List.mem_of_getElem? (i := 0) rfl)) (hw _ (List.mem_of_getElem? (i := 1) rfl)) (hw _ (List.mem_of_getElem? (i := 2) rfl)) e0 (g := (mkF m 127 #[.val (.long p0), .second, .val (.int p1), .val (.int p2), .val (.int bl), .val (.int hf), .val (.long ms), .second, .val (.double dd), .second, .val (.int ex), .unset] [])) rfl (hb hby at_127) (by decide) (by decide)
  rw [← g256] at A256 D256 B256 st256
  have O256 := Obj.of A256 B256
  have pre257 : ∀ t, Steps p.tables e below (T256.setTop (mkF m 130 #[.val (.long p0), .second, .val (.int p1), .val (.int p2), .val (.int bl), .val (.int hf), .val (.long ms), .second, .val (.double dd), .second, .val (.int ex), .unset] [(.ref b256)])) t → Steps p.tables e below (s₁.setTop (entryFrame m #[(.long p0), (.int p1), (.int p2)] maxLocals)) t := by
    intro t kk
    refine pre205 t ?_
    show Steps p.tables e below (s₁.setTop (mkF m 127 #[.val (.long p0), .second, .val (.int p1), .val (.int p2), .val (.int bl), .val (.int hf), .val (.long ms), .second, .val (.double dd), .second, .val (.int ex), .unset] [])) _
    exact st256 _ kk
  have c259 := (Nat.le_trans Z0 E256.1)
  obtain ⟨_, _, ⟨T258, L258, k258, n258⟩, -, X258, ⟨Lc258, hQ258, l258, y258, z258⟩, st258⟩ := X256.specialBack hx (y := (⟨"coterie/latency/Figures$Bound", "<init>", "(JZ)V"⟩ : MethodName)) rfl hown (mvT hZ (hw _ (List.mem_of_getElem? (i := 3) rfl))) (mvT hZ (hw _ (List.mem_of_getElem? (i := 4) rfl))) (mvT hZ (hw _ (List.mem_of_getElem? (i := 5) rfl))) (by decide) (backOf (W := 1) (own_bnd l Z a0 hw [] b256 ms bl h256 n0 c259 O256 lo_b256 hbl) hZ (hw _ (List.mem_of_getElem? (i := 5) rfl)) (hw _ (List.mem_of_getElem? (i := 2) rfl)) (by decide) (by decide)) (g := (mkF m 135 #[.val (.long p0), .second, .val (.int p1), .val (.int p2), .val (.int bl), .val (.int hf), .val (.long ms), .second, .val (.double dd), .second, .val (.int ex), .unset] [(.int bl), (.long ms), (.ref b256), (.ref b256)])) rfl (by rw [hml]; rfl) (Steps.refl _) (a := b256) (argsL := [(.long ms), (.int bl)]) (rest := [(.ref b256)]) (lenOf pd__JZ_V rfl) rfl (by show 2 * 0 + _ ≤ _; exact Nat.le_of_eq rfl) (hb hby at_135) (fun _ _ => ⟨rfl, e256, (by decide : 1 + 0 ≤ _), (by decide : 2 + 0 ≤ _)⟩)
  dsimp only [Pt.U, Pt.locs, Pt.cells, Pt.slots] at X258 l258 y258 z258 st258 hQ258
  subst l258 y258 z258
  obtain ⟨rfl, N258q, K258, Fm258, Fb258⟩ := hQ258
  have N258 := Fr.app N0 N258q
  have pre260 : ∀ t, Steps p.tables e below (T258.setTop (mkF m 138 #[.val (.long p0), .second, .val (.int p1), .val (.int p2), .val (.int bl), .val (.int hf), .val (.long ms), .second, .val (.double dd), .second, .val (.int ex), .unset] [(.ref b256)])) t → Steps p.tables e below (s₁.setTop (entryFrame m #[(.long p0), (.int p1), (.int p2)] maxLocals)) t := by
    intro t kk
    refine pre257 t ?_
    show Steps p.tables e below (T256.setTop (mkF m 130 #[.val (.long p0), .second, .val (.int p1), .val (.int p2), .val (.int bl), .val (.int hf), .val (.long ms), .second, .val (.double dd), .second, .val (.int ex), .unset] [(.ref b256)])) _
    refine XS.dup X256.here hx rfl (hb hby at_130) rfl rfl ?_
    show Steps p.tables e below (T256.setTop (mkF m 131 #[.val (.long p0), .second, .val (.int p1), .val (.int p2), .val (.int bl), .val (.int hf), .val (.long ms), .second, .val (.double dd), .second, .val (.int ex), .unset] [(.ref b256), (.ref b256)])) _
    refine XS.lload X256.here hx rfl (hb hby at_131) rfl ?_
    show Steps p.tables e below (T256.setTop (mkF m 133 #[.val (.long p0), .second, .val (.int p1), .val (.int p2), .val (.int bl), .val (.int hf), .val (.long ms), .second, .val (.double dd), .second, .val (.int ex), .unset] [(.long ms), (.ref b256), (.ref b256)])) _
    refine XS.iload X256.here hx rfl (hb hby at_133) rfl ?_
    show Steps p.tables e below (T256.setTop (mkF m 135 #[.val (.long p0), .second, .val (.int p1), .val (.int p2), .val (.int bl), .val (.int hf), .val (.long ms), .second, .val (.double dd), .second, .val (.int ex), .unset] [(.int bl), (.long ms), (.ref b256), (.ref b256)])) _
    exact st258.trans kk
  have c261 := (O256.keep K258)
  have c263 := (Nat.le_trans c259 K258.1)
  obtain ⟨cq262, kq262, q262a, q262b, q262c⟩ := isOf hZ rfl c261.exa
  obtain ⟨_, _, ⟨T262, L262, k262, n262⟩, -, X262, ⟨Lc262, hQ262, l262, y262, z262⟩, st262⟩ := X258.virtualBack hx (y := (⟨"coterie/latency/Figures$Bound", "meets", "(D)Z"⟩ : MethodName)) (z := (⟨"coterie/latency/Figures$Bound", "meets", "(D)Z"⟩ : MethodName)) hown (mvT hZ (hw _ (List.mem_of_getElem? (i := 18) rfl))) (mvT hZ (hw _ (List.mem_of_getElem? (i := 19) rfl))) (notFace_of_selects (args := #[]) (mvT hZ (hw _ (List.mem_of_getElem? (i := 21) rfl)))) (mvT hZ (hw _ (List.mem_of_getElem? (i := 21) rfl))) (mvT hZ (hw _ (List.mem_of_getElem? (i := 20) rfl))) (by decide) (backOf (W := 0) (own_meets l Z a0 hw [] b256 ms bl dd T258.heap n0 c263 Fm258 Fb258) hZ (hw _ (List.mem_of_getElem? (i := 22) rfl)) (hw _ (List.mem_of_getElem? (i := 2) rfl)) (by decide) (by decide)) q262a q262c (g := (mkF m 144 #[.val (.long p0), .second, .val (.int p1), .val (.int p2), .val (.int bl), .val (.int hf), .val (.long ms), .second, .val (.double dd), .second, .val (.int ex), .val (.ref b256)] [(.double dd), (.ref b256)])) rfl (by rw [hml]; rfl) (Steps.refl _) (argsL := [(.double dd)]) (rest := []) (lenOf pd__D_Z rfl) rfl (by show 2 * 0 + _ ≤ _; exact Nat.le_of_eq rfl) (hb hby at_144) (fun _ _ => ⟨rfl, rfl, (by decide : 1 + 0 ≤ _), (by decide : 2 + 0 ≤ _)⟩)
  dsimp only [Pt.U, Pt.locs, Pt.cells, Pt.slots] at X262 l262 y262 z262 st262 hQ262
  subst l262 y262 z262
  obtain ⟨rr, rfl, N262q, e262q, hr1, hr2⟩ := hQ262
  have N262 := Fr.app N258 N262q
  have pre264 : ∀ t, Steps p.tables e below (T262.setTop (mkF m 147 #[.val (.long p0), .second, .val (.int p1), .val (.int p2), .val (.int bl), .val (.int hf), .val (.long ms), .second, .val (.double dd), .second, .val (.int ex), .val (.ref b256)] [(.int rr)])) t → Steps p.tables e below (s₁.setTop (entryFrame m #[(.long p0), (.int p1), (.int p2)] maxLocals)) t := by
    intro t kk
    refine pre260 t ?_
    show Steps p.tables e below (T258.setTop (mkF m 138 #[.val (.long p0), .second, .val (.int p1), .val (.int p2), .val (.int bl), .val (.int hf), .val (.long ms), .second, .val (.double dd), .second, .val (.int ex), .unset] [(.ref b256)])) _
    refine XS.astore X258.here hx rfl (hb hby at_138) rfl rfl (l' := #[.val (.long p0), .second, .val (.int p1), .val (.int p2), .val (.int bl), .val (.int hf), .val (.long ms), .second, .val (.double dd), .second, .val (.int ex), .val (.ref b256)]) rfl ?_
    show Steps p.tables e below (T258.setTop (mkF m 140 #[.val (.long p0), .second, .val (.int p1), .val (.int p2), .val (.int bl), .val (.int hf), .val (.long ms), .second, .val (.double dd), .second, .val (.int ex), .val (.ref b256)] [])) _
    refine XS.aload X258.here hx rfl (hb hby at_140) rfl rfl ?_
    show Steps p.tables e below (T258.setTop (mkF m 142 #[.val (.long p0), .second, .val (.int p1), .val (.int p2), .val (.int bl), .val (.int hf), .val (.long ms), .second, .val (.double dd), .second, .val (.int ex), .val (.ref b256)] [(.ref b256)])) _
    refine XS.dload X258.here hx rfl (hb hby at_142) rfl ?_
    show Steps p.tables e below (T258.setTop (mkF m 144 #[.val (.long p0), .second, .val (.int p1), .val (.int p2), .val (.int bl), .val (.int hf), .val (.long ms), .second, .val (.double dd), .second, .val (.int ex), .val (.ref b256)] [(.double dd), (.ref b256)])) _
    exact st262.trans kk
  have hre : rr = ex := own_agree p1 ms bl hf dd rr ex hbl hdd hr1 hr2 hex
  have hd265 : rr = ex := hre
  obtain ⟨cq266, kq266, q266a, q266b, q266c⟩ := isOf hZ e262q c261.exa
  obtain ⟨_, _, ⟨T266, L266, k266, n266⟩, -, X266, ⟨Lc266, hQ266, l266, y266, z266⟩, st266⟩ := X262.virtualBack hx (y := (⟨"coterie/latency/Figures$Bound", "ms", "()J"⟩ : MethodName)) (z := (⟨"coterie/latency/Figures$Bound", "ms", "()J"⟩ : MethodName)) hown (mvT hZ (hw _ (List.mem_of_getElem? (i := 23) rfl))) (mvT hZ (hw _ (List.mem_of_getElem? (i := 24) rfl))) (notFace_of_selects (args := #[]) (mvT hZ (hw _ (List.mem_of_getElem? (i := 26) rfl)))) (mvT hZ (hw _ (List.mem_of_getElem? (i := 26) rfl))) (mvT hZ (hw _ (List.mem_of_getElem? (i := 25) rfl))) (by decide) (backOf (W := 0) (own_ms l Z a0 hw [] b256 ms bl T258.heap n0 c263 Fm258 Fb258) hZ (hw _ (List.mem_of_getElem? (i := 27) rfl)) (hw _ (List.mem_of_getElem? (i := 2) rfl)) (by decide) (by decide)) q266a q266c (g := (mkF m 154 #[.val (.long p0), .second, .val (.int p1), .val (.int p2), .val (.int bl), .val (.int hf), .val (.long ms), .second, .val (.double dd), .second, .val (.int ex), .val (.ref b256)] [(.ref b256)])) rfl (by rw [hml]; rfl) (Steps.refl _) (argsL := []) (rest := []) (lenOf pd___J rfl) rfl (by show 2 * 0 + _ ≤ _; exact Nat.le_of_eq rfl) (hb hby at_154) (fun _ _ => ⟨rfl, e262q, (by decide : 1 + 0 ≤ _), (by decide : 2 + 0 ≤ _)⟩)
  dsimp only [Pt.U, Pt.locs, Pt.cells, Pt.slots] at X266 l266 y266 z266 st266 hQ266
  subst l266 y266 z266
  obtain ⟨rfl, N266q, e266q⟩ := hQ266
  have N266 := Fr.app N262 N266q
  have pre267 : ∀ t, Steps p.tables e below (T266.setTop (mkF m 157 #[.val (.long p0), .second, .val (.int p1), .val (.int p2), .val (.int bl), .val (.int hf), .val (.long ms), .second, .val (.double dd), .second, .val (.int ex), .val (.ref b256)] [(.long ms)])) t → Steps p.tables e below (s₁.setTop (entryFrame m #[(.long p0), (.int p1), (.int p2)] maxLocals)) t := by
    intro t kk
    refine pre264 t ?_
    show Steps p.tables e below (T262.setTop (mkF m 147 #[.val (.long p0), .second, .val (.int p1), .val (.int p2), .val (.int bl), .val (.int hf), .val (.long ms), .second, .val (.double dd), .second, .val (.int ex), .val (.ref b256)] [(.int rr)])) _
    refine XS.iload X262.here hx rfl (hb hby at_147) rfl ?_
    show Steps p.tables e below (T262.setTop (mkF m 149 #[.val (.long p0), .second, .val (.int p1), .val (.int p2), .val (.int bl), .val (.int hf), .val (.long ms), .second, .val (.double dd), .second, .val (.int ex), .val (.ref b256)] [(.int ex), (.int rr)])) _
    refine XS.icmpNo X262.here hx rfl (hb hby at_149) rfl (teq hd265).2 ?_
    show Steps p.tables e below (T262.setTop (mkF m 152 #[.val (.long p0), .second, .val (.int p1), .val (.int p2), .val (.int bl), .val (.int hf), .val (.long ms), .second, .val (.double dd), .second, .val (.int ex), .val (.ref b256)] [])) _
    refine XS.aload X262.here hx rfl (hb hby at_152) rfl rfl ?_
    show Steps p.tables e below (T262.setTop (mkF m 154 #[.val (.long p0), .second, .val (.int p1), .val (.int p2), .val (.int bl), .val (.int hf), .val (.long ms), .second, .val (.double dd), .second, .val (.int ex), .val (.ref b256)] [(.ref b256)])) _
    exact st266.trans kk
  have hd268 : (lcmpW ms ms) = (0 : Int32) := (lw_eq _ _).mpr rfl
  obtain ⟨cq269, kq269, q269a, q269b, q269c⟩ := isOf hZ e266q c261.exa
  obtain ⟨_, _, ⟨T269, L269, k269, n269⟩, -, X269, ⟨Lc269, hQ269, l269, y269, z269⟩, st269⟩ := X266.virtualBack hx (y := (⟨"coterie/latency/Figures$Bound", "below", "()Z"⟩ : MethodName)) (z := (⟨"coterie/latency/Figures$Bound", "below", "()Z"⟩ : MethodName)) hown (mvT hZ (hw _ (List.mem_of_getElem? (i := 28) rfl))) (mvT hZ (hw _ (List.mem_of_getElem? (i := 29) rfl))) (notFace_of_selects (args := #[]) (mvT hZ (hw _ (List.mem_of_getElem? (i := 31) rfl)))) (mvT hZ (hw _ (List.mem_of_getElem? (i := 31) rfl))) (mvT hZ (hw _ (List.mem_of_getElem? (i := 30) rfl))) (by decide) (backOf (W := 0) (own_below l Z a0 hw [] b256 ms bl T258.heap n0 c263 Fm258 Fb258 hbl) hZ (hw _ (List.mem_of_getElem? (i := 32) rfl)) (hw _ (List.mem_of_getElem? (i := 2) rfl)) (by decide) (by decide)) q269a q269c (g := (mkF m 165 #[.val (.long p0), .second, .val (.int p1), .val (.int p2), .val (.int bl), .val (.int hf), .val (.long ms), .second, .val (.double dd), .second, .val (.int ex), .val (.ref b256)] [(.ref b256)])) rfl (by rw [hml]; rfl) (Steps.refl _) (argsL := []) (rest := []) (lenOf pd___Z rfl) rfl (by show 2 * 0 + _ ≤ _; exact Nat.le_of_eq rfl) (hb hby at_165) (fun _ _ => ⟨rfl, e266q, (by decide : 1 + 0 ≤ _), (by decide : 2 + 0 ≤ _)⟩)
  dsimp only [Pt.U, Pt.locs, Pt.cells, Pt.slots] at X269 l269 y269 z269 st269 hQ269
  subst l269 y269 z269
  obtain ⟨rfl, N269q, e269q⟩ := hQ269
  have N269 := Fr.app N266 N269q
  have pre270 : ∀ t, Steps p.tables e below (T269.setTop (mkF m 168 #[.val (.long p0), .second, .val (.int p1), .val (.int p2), .val (.int bl), .val (.int hf), .val (.long ms), .second, .val (.double dd), .second, .val (.int ex), .val (.ref b256)] [(.int bl)])) t → Steps p.tables e below (s₁.setTop (entryFrame m #[(.long p0), (.int p1), (.int p2)] maxLocals)) t := by
    intro t kk
    refine pre267 t ?_
    show Steps p.tables e below (T266.setTop (mkF m 157 #[.val (.long p0), .second, .val (.int p1), .val (.int p2), .val (.int bl), .val (.int hf), .val (.long ms), .second, .val (.double dd), .second, .val (.int ex), .val (.ref b256)] [(.long ms)])) _
    refine XS.lload X266.here hx rfl (hb hby at_157) rfl ?_
    show Steps p.tables e below (T266.setTop (mkF m 159 #[.val (.long p0), .second, .val (.int p1), .val (.int p2), .val (.int bl), .val (.int hf), .val (.long ms), .second, .val (.double dd), .second, .val (.int ex), .val (.ref b256)] [(.long ms), (.long ms)])) _
    refine XS.lcmp X266.here hx rfl (hb hby at_159) rfl ?_
    show Steps p.tables e below (T266.setTop (mkF m 160 #[.val (.long p0), .second, .val (.int p1), .val (.int p2), .val (.int bl), .val (.int hf), .val (.long ms), .second, .val (.double dd), .second, .val (.int ex), .val (.ref b256)] [(.int (lcmpW ms ms))])) _
    refine XS.ifNo X266.here hx rfl (hb hby at_160) rfl ((if0 _ _).trans (teq hd268).2) ?_
    show Steps p.tables e below (T266.setTop (mkF m 163 #[.val (.long p0), .second, .val (.int p1), .val (.int p2), .val (.int bl), .val (.int hf), .val (.long ms), .second, .val (.double dd), .second, .val (.int ex), .val (.ref b256)] [])) _
    refine XS.aload X266.here hx rfl (hb hby at_163) rfl rfl ?_
    show Steps p.tables e below (T266.setTop (mkF m 165 #[.val (.long p0), .second, .val (.int p1), .val (.int p2), .val (.int bl), .val (.int hf), .val (.long ms), .second, .val (.double dd), .second, .val (.int ex), .val (.ref b256)] [(.ref b256)])) _
    exact st269.trans kk
  have hd271 : bl = bl := rfl
  obtain ⟨fs, hr, hrun, hended, hW, hsame⟩ := X269.leave (v := some (.int (1 : Int32))) (fun h => by rw [Bd.returns] at h; cases h)
  refine ⟨_, _, pre270 _ ?_, hrun, hended, _, _, rfl, ?_, ⟨_, rfl⟩, hW, hsame.mono (by decide) (by decide)⟩
  · show Steps p.tables e below (T269.setTop (mkF m 168 #[.val (.long p0), .second, .val (.int p1), .val (.int p2), .val (.int bl), .val (.int hf), .val (.long ms), .second, .val (.double dd), .second, .val (.int ex), .val (.ref b256)] [(.int bl)])) _
    refine XS.iload X269.here hx rfl (hb hby at_168) rfl ?_
    show Steps p.tables e below (T269.setTop (mkF m 170 #[.val (.long p0), .second, .val (.int p1), .val (.int p2), .val (.int bl), .val (.int hf), .val (.long ms), .second, .val (.double dd), .second, .val (.int ex), .val (.ref b256)] [(.int bl), (.int bl)])) _
    refine XS.icmpNo X269.here hx rfl (hb hby at_170) rfl (teq hd271).2 ?_
    show Steps p.tables e below (T269.setTop (mkF m 173 #[.val (.long p0), .second, .val (.int p1), .val (.int p2), .val (.int bl), .val (.int hf), .val (.long ms), .second, .val (.double dd), .second, .val (.int ex), .val (.ref b256)] [])) _
    refine XS.iconst X269.here hx rfl (hb hby at_173) ?_
    show Steps p.tables e below (T269.setTop (mkF m 174 #[.val (.long p0), .second, .val (.int p1), .val (.int p2), .val (.int bl), .val (.int hf), .val (.long ms), .second, .val (.double dd), .second, .val (.int ex), .val (.ref b256)] [(.int (1 : Int32))])) _
    refine XS.goto X269.here hx rfl (pc0 := 174) (pc' := 178) rfl (hb hby at_174) (by decide) (by decide) ?_
    show Steps p.tables e below (T269.setTop (mkF m 178 #[.val (.long p0), .second, .val (.int p1), .val (.int p2), .val (.int bl), .val (.int hf), .val (.long ms), .second, .val (.double dd), .second, .val (.int ex), .val (.ref b256)] [(.int (1 : Int32))])) _
    exact retN X269 hx (t := .boolean) Bd.returns (by simp) (hb hby at_178) hr
  · show Q_own_law Z p0 p1 p2 h0 n0 _ T269.heap _
    rw [e269q]
    exact ⟨rfl, N269⟩
set_option maxRecDepth 65536 in
set_option maxHeartbeats 40000000 in
theorem comes_1 {Post : Tables → Env → Array Value → State → Outcome → State → Prop} (hpost : ∀ tb e args s v u, (limb_1_1.after args s (.returned v) u = true ∧ limb_1_2.after args s (.returned v) u = true ∧ True) → FrameEnd s (.returned v) u (Jvm.fieldLocs frame_1_writes args s ++ Jvm.arrayLocs frame_1_arrays args s ++ Jvm.staticLocs frame_1_statics s) 16 128 → Post tb e args s (.returned v) u) :
    ArmFor flags0 classFile x code maxLocals ret World_1 tables_1 room_1 Calls_1 rest_1 Pre_1 Post := by
  intro l hfl _ _ p e ha hc hk s m args below hf hA hF happ hP
  obtain ⟨hcalls, hrest, hpre⟩ := hP
  obtain ⟨-, -, -, hnamed, -, -, -, hat⟩ := (Spec.applies_iff hf).mp happ
  obtain ⟨hg, hn⟩ := and_e (Cond.before_iff.mp (show (Jvm.Cond.and given_1 narrow_1).before args s = true from hpre))
  obtain ⟨h1, u0⟩ := and_e hg
  obtain ⟨v0, u1⟩ := and_e u0
  obtain ⟨v1, u2⟩ := and_e u1
  obtain ⟨w0, w1, w2, rfl⟩ : ∃ w0 w1 w2 : Value, args = #[w0, w1, w2] := by
    have hs : args.size = 3 := by simpa [Cond.value, given_1] using h1
    obtain ⟨L⟩ := args
    match L, hs with
    | [w0, w1, w2], _ => exact ⟨w0, w1, w2, rfl⟩
  have hw := fun d (hd : d ∈ tables_1) => atoms_spec (ws := Jvm.Cond.code x code maxLocals ret :: tables_1) hat d (List.mem_cons_of_mem _ hd)
  have hfit : Fit s := fun {y c} hc i hi => by
    obtain ⟨ha, rfl⟩ := Array.getElem?_eq_some_iff.mp hc
    have q := List.all_eq_true.mp ((Array.all_eq_true_iff_forall_mem.mp hF) _ (Array.getElem_mem ha)) i (List.mem_range.mpr hi)
    simpa [Array.getElem?_eq_getElem hi] using q
  obtain ⟨i0, ei0⟩ := isL_v v0
  obtain rfl : w0 = (.long i0) := Option.some.inj ei0
  obtain ⟨i1, ei1⟩ := is_v v1
  obtain rfl : w1 = (.int i1) := Option.some.inj ei1
  obtain ⟨i2, ei2⟩ := is_v u2
  obtain rfl : w2 = (.int i2) := Option.some.inj ei2

  obtain ⟨n, o, h1, h2, h3, _, L, rfl, ⟨rfl, N⟩, hq⟩ := own_law l s _ hw tables_1 i0 i1 i2  s.heap s.heap.size (Nat.le_refl _) (Old.start s) p e ha hc hk s m _ below hf ((Spec.applies_iff_loose hf).mp happ).1 ⟨rfl, State.Warmed39.refl s, rfl⟩ trivial
  refine ⟨n, _, h1, h2, h3, hpost _ _ _ _ _ _ ⟨Cond.after_iff.mpr rfl, Cond.after_iff.mpr (eq_i res_at (Term.int_eval (1)) rfl), trivial⟩ ⟨hq.1, hq.2.1, (hq.2.2.sift fun y hy => Or.inr (N y hy)).mono (by decide) (by decide)⟩⟩
theorem main_1_1 : Claimed_1_1 := comes_1 fun _ _ _ _ _ _ h hF => ⟨h.1, hF⟩
theorem main_1_2 : Claimed_1_2 := comes_1 fun _ _ _ _ _ _ h hF => ⟨h.2.1, hF⟩
end Jvm.Pilot.@@N@@
namespace Jvm.Pilot.@@N@@
open Jvm Jvm.ClassFile Sem Op Lib Jvm.Free Jvm.Stand Jvm.Pilot.@@N@@.Jvm.D
/-! MADE BY PROGRAM (witnessworld.py) out of the Statement's table words and the real class files: 10 classes; the members and pool entries that the words name. The judged class is class 1, her method 1. -/
namespace start1
open Jvm.ClassFile
def u (s : String) : CpInfo := .utf8 (stringToUtf16 s)
/-- a pool by its gaps: so many unusable entries, then the entry; so many at the end -/
def gap : Nat → List CpInfo → List CpInfo
  | 0, r => r
  | n + 1, r => .unusable :: gap n r
def poolList (es : List (Nat × CpInfo)) (last : Nat) : List CpInfo := es.foldr (fun e r => gap e.1 (e.2 :: r)) (gap last [])
def pool (es : List (Nat × CpInfo)) (last : Nat) : Array CpInfo := ⟨poolList es last⟩
def fileOf (pool : Array CpInfo) (this : Nat) (attrs : Array Attribute := #[]) (ms : Array MethodInfo := #[]) (fl : Nat := 33) (sup : Nat := 0) (ifs : Array Nat := #[]) (fds : Array FieldInfo := #[]) : ClassFile where
  minorVersion := 0
  majorVersion := 65
  constantPool := pool
  accessFlags := fl
  thisClass := this
  superClass := sup
  interfaces := ifs
  fields := fds
  methods := ms
  attributes := attrs
def plain (name : String) (sup : Option ClassId) : Class where
  name := name
  kind := .ordinary
  loader := none
  accessFlags := 33
  super := sup
  interfaces := #[]
  cf := none
  fields := #[]
  methods := #[]
  instanceTypes := #[]
  staticTypes := #[]
  resolved := #[]
  callSites := []
  init := .initialized
  statics := none
  mirror := none

def pool0 : Array CpInfo := pool [(5, u "<init>"), (0, u "()V"), (1, .class_ 10), (1, u "java/lang/Object")] 113

def k0c0 : Code := { maxStack := 0, maxLocals := 1, code := object_method_1_code, exceptionTable := #[], attributes := #[] }
def k0m0 : Method := { name := "<init>", desc := "()V", sig := { parameters := [], returnType := none }, accessFlags := 1, code := some k0c0 }
/-- java/lang/Object -/
def k0 : Class := { plain "java/lang/Object" none with
  accessFlags := 33
  interfaces := #[]
  cf := some (fileOf pool0 8 #[] #[{ accessFlags := 1, nameIndex := 5, descriptorIndex := 6, attributes := #[] }] 33 0 #[] #[])
  fields := #[]
  methods := #[k0m0]
  instanceTypes := #[]
  staticTypes := #[]
  resolved := Array.replicate 124 none
  statics := none }

def pool1 : Array CpInfo := pool [(2, .class_ 4), (1, u "java/lang/Object"), (0, u "<init>"), (0, u "()V"), (0, .double 4602678819172646912), (1, .class_ 10), (0, u "coterie/latency/Figures$Bound"), (0, .methodref 9 12), (0, .nameAndType 5 13), (0, u "(JZ)V"), (0, .methodref 9 15), (0, .nameAndType 16 17), (0, u "meets"), (0, u "(D)Z"), (0, .methodref 9 19), (0, .nameAndType 20 21), (0, u "ms"), (0, u "()J"), (0, .methodref 9 23), (0, .nameAndType 24 25), (0, u "below"), (0, u "()Z"), (0, .class_ 27), (0, u "coterie/latency/BoundMeetsPinLaw"), (2, u "law"), (0, u "(JII)Z")] 7

def k1m0 : Method := { name := "<init>", desc := "()V", sig := { parameters := [], returnType := none }, accessFlags := 1, code := none }
def k1c1 : Code := { maxStack := 5, maxLocals := 12, code := code, exceptionTable := #[], attributes := #[] }
def k1m1 : Method := { name := "law", desc := "(JII)Z", sig := { parameters := [.long, .int, .int], returnType := some .boolean }, accessFlags := 9, code := some k1c1 }
/-- coterie/latency/BoundMeetsPinLaw -/
def k1 : Class := { plain "coterie/latency/BoundMeetsPinLaw" (some 0) with
  accessFlags := 49
  interfaces := #[]
  cf := some (fileOf pool1 26 #[] #[{ accessFlags := 1, nameIndex := 5, descriptorIndex := 6, attributes := #[] }, { accessFlags := 9, nameIndex := 30, descriptorIndex := 31, attributes := #[] }] 49 2 #[] #[])
  fields := #[]
  methods := #[k1m0, k1m1]
  instanceTypes := #[]
  staticTypes := #[]
  resolved := Array.replicate 39 none
  statics := none }

def pool2 : Array CpInfo := pool [(1, .methodref 2 3), (0, .class_ 4), (0, .nameAndType 5 6), (0, u "java/lang/Object"), (0, u "<init>"), (0, u "()V"), (0, .class_ 8), (0, u "java/lang/Record")] 13

def k2c0 : Code := { maxStack := 1, maxLocals := 1, code := jdk_30_method_1_code, exceptionTable := #[], attributes := #[] }
def k2m0 : Method := { name := "<init>", desc := "()V", sig := { parameters := [], returnType := none }, accessFlags := 4, code := some k2c0 }
/-- java/lang/Record -/
def k2 : Class := { plain "java/lang/Record" (some 0) with
  accessFlags := 1057
  interfaces := #[]
  cf := some (fileOf pool2 7 #[] #[{ accessFlags := 4, nameIndex := 5, descriptorIndex := 6, attributes := #[] }] 1057 2 #[] #[])
  fields := #[]
  methods := #[k2m0]
  instanceTypes := #[]
  staticTypes := #[]
  resolved := Array.replicate 22 none
  statics := none }

def pool3 : Array CpInfo := pool [(1, .methodref 2 3), (0, .class_ 4), (0, .nameAndType 5 6), (0, u "java/lang/Record"), (0, u "<init>"), (0, u "()V"), (0, .fieldref 8 9), (0, .class_ 10), (0, .nameAndType 11 12), (0, u "coterie/latency/Figures$Bound"), (0, u "ms"), (0, u "J"), (0, .fieldref 8 14), (0, .nameAndType 15 16), (0, u "below"), (0, u "Z"), (12, u "(JZ)V"), (3, u "meets"), (0, u "(D)Z"), (4, u "()J"), (0, u "()Z"), (3, .class_ 45), (0, u "coterie/latency/Figures")] 20

def k3c0 : Code := { maxStack := 3, maxLocals := 4, code := prog_51_method_1_code, exceptionTable := #[], attributes := #[] }
def k3m0 : Method := { name := "<init>", desc := "(JZ)V", sig := { parameters := [.long, .boolean], returnType := none }, accessFlags := 0, code := some k3c0 }
def k3c1 : Code := { maxStack := 4, maxLocals := 3, code := prog_51_method_2_code, exceptionTable := #[], attributes := #[] }
def k3m1 : Method := { name := "meets", desc := "(D)Z", sig := { parameters := [.double], returnType := some .boolean }, accessFlags := 0, code := some k3c1 }
def k3c2 : Code := { maxStack := 2, maxLocals := 1, code := prog_51_method_6_code, exceptionTable := #[], attributes := #[] }
def k3m2 : Method := { name := "ms", desc := "()J", sig := { parameters := [], returnType := some .long }, accessFlags := 1, code := some k3c2 }
def k3c3 : Code := { maxStack := 1, maxLocals := 1, code := prog_51_method_7_code, exceptionTable := #[], attributes := #[] }
def k3m3 : Method := { name := "below", desc := "()Z", sig := { parameters := [], returnType := some .boolean }, accessFlags := 1, code := some k3c3 }
/-- coterie/latency/Figures$Bound -/
def k3 : Class := { plain "coterie/latency/Figures$Bound" (some 2) with
  accessFlags := 48
  interfaces := #[]
  cf := some (fileOf pool3 8 #[.nestHost 44] #[{ accessFlags := 0, nameIndex := 5, descriptorIndex := 29, attributes := #[] }, { accessFlags := 0, nameIndex := 33, descriptorIndex := 34, attributes := #[] }, { accessFlags := 1, nameIndex := 11, descriptorIndex := 39, attributes := #[] }, { accessFlags := 1, nameIndex := 15, descriptorIndex := 40, attributes := #[] }] 48 2 #[] #[{ accessFlags := 18, nameIndex := 11, descriptorIndex := 12, attributes := #[] }, { accessFlags := 18, nameIndex := 15, descriptorIndex := 16, attributes := #[] }])
  fields := #[{ name := "ms", type := .long, accessFlags := 18, slot := 0, constantValue := 0 }, { name := "below", type := .boolean, accessFlags := 18, slot := 1, constantValue := 0 }]
  methods := #[k3m0, k3m1, k3m2, k3m3]
  instanceTypes := #[.long, .boolean]
  staticTypes := #[]
  resolved := Array.replicate 66 none
  statics := none }

def pool4 : Array CpInfo := pool [(1, u "java/lang/Cloneable"), (0, .class_ 1), (0, u "java/lang/Object"), (0, .class_ 3)] 3

/-- java/lang/Cloneable -/
def k4 : Class := { plain "java/lang/Cloneable" (some 0) with
  accessFlags := 1537
  interfaces := #[]
  cf := some (fileOf pool4 2 #[] #[] 1537 4 #[] #[])
  fields := #[]
  methods := #[]
  instanceTypes := #[]
  staticTypes := #[]
  resolved := Array.replicate 8 none
  statics := none }

def pool5 : Array CpInfo := pool [(1, u "java/io/Serializable"), (0, .class_ 1), (0, u "java/lang/Object"), (0, .class_ 3)] 3

/-- java/io/Serializable -/
def k5 : Class := { plain "java/io/Serializable" (some 0) with
  accessFlags := 1537
  interfaces := #[]
  cf := some (fileOf pool5 2 #[] #[] 1537 4 #[] #[])
  fields := #[]
  methods := #[]
  instanceTypes := #[]
  staticTypes := #[]
  resolved := Array.replicate 8 none
  statics := none }

/-- the primitive byte -/
def k6 : Class := { plain "byte" none with kind := .primitive 'B', accessFlags := 0x411 }
/-- [B -/
def k7 : Class := { plain "[B" (some 0) with kind := .array 6 .byte, interfaces := #[4, 5], accessFlags := 1041 }

/-- the primitive int -/
def k8 : Class := { plain "int" none with kind := .primitive 'I', accessFlags := 0x411 }
/-- [I -/
def k9 : Class := { plain "[I" (some 0) with kind := .array 8 .int, interfaces := #[4, 5], accessFlags := 1041 }

def heap : Heap := #[]
def classes : Array Class := #[k0, k1, k2, k3, k4, k5, k6, k7, k8, k9]
def interned : List (Array UInt16 × Addr) := []
def slotsUsed : Nat := 0
def theMethod : MethodId := ⟨1, 1⟩
def args0 : Array Value := #[.long 5, .int 3, .int 1]
def aboutOver (below : List Frame) : State where
  vm := { classes := classes, interned := interned.toArray }
  heap := heap
  slotsUsed := slotsUsed
  threads := #[{ frames := .invoking theMethod args0 :: below }]
def below0 : List Frame := [.native { method := ⟨0, 0⟩, args := #[] }]
def about1 : State := aboutOver below0
def p0 : Program := .bare "" "" ""
def e0 : Env := launch0.env 0 0 0
theorem w_frames : about1.frames = Frame.invoking theMethod args0 :: below0 := rfl
set_option maxRecDepth 65536 in
theorem w_args : argsFit about1.vm theMethod args0 = true := by decide +kernel
set_option maxRecDepth 65536 in
theorem w_heap : heapFits about1 = true := by decide +kernel
set_option maxRecDepth 65536 in
theorem w_runnable : about1.curStatus? = some .runnable := by decide +kernel
set_option maxRecDepth 65536 in
theorem w_alone : about1.alone = true := by decide +kernel
set_option maxRecDepth 65536 in
theorem w_named : about1.methodNamed? x = some theMethod := by decide +kernel
set_option maxRecDepth 65536 in
theorem w_hears : about1.hears theMethod below0 = true := by decide +kernel
set_option maxRecDepth 65536 in
theorem w_ripe : about1.ripe theMethod args0 below0 = true := by decide +kernel
theorem w_running : about1.status = .running := rfl
set_option maxRecDepth 65536 in
theorem w_room : about1.hasRoom e0.platform room_1 = true :=
  launch0.hasRoom_least _ room_1 (by decide +kernel) (by decide +kernel) (by decide +kernel) (by decide +kernel) (by decide +kernel) (by decide +kernel)
theorem allAtoms_all (ts : List Jvm.Cond) (a : Array Jvm.Value) (st : Jvm.State) : (allAtoms ts).before a st = ts.all (fun c => c.before a st) := by
  induction ts with
  | nil => rfl
  | cons c t ih =>
    show (Jvm.Cond.and c (allAtoms t)).before a st = _
    rw [Jvm.Cond.before_and, ih, List.all_cons]
def words1 : List Jvm.Cond := Jvm.Cond.code x code maxLocals ret :: tables_1
/-- a 'code' word, met by the world's own term for the bytes: nothing is compared byte by byte -/
theorem code_word {y : MethodName} {bytes : ByteArray} {mx : Nat} {rt : Option FieldType} {a : Array Value} {s : State} {m : MethodId} {meth : Method} {c : Code} (h1 : s.methodNamed? y = some m) (h2 : s.vm.method? m = some meth) (h3 : meth.code = some c) (h4 : c.code = bytes)
    (h5 : (c.maxLocals == mx && c.exceptionTable.isEmpty && decide (c.maxStack ≤ mostOperands) && decide (meth.sig.returnType = rt) && !meth.locks && decide (parseMethodDescriptor y.desc = some meth.sig)) = true) : (Jvm.Cond.code y bytes mx rt).before a s = true := by
  simp only [Bool.and_eq_true, beq_iff_eq, Bool.not_eq_true', decide_eq_true_eq] at h5
  obtain ⟨⟨⟨⟨⟨g1, g2⟩, g3⟩, g4⟩, g5⟩, g6⟩ := h5
  simp [Cond.before, Cond.holds, Cond.value, h1, h2, h3, h4, g1, g2, g3, g4, g5, g6]
def isCode : Jvm.Cond → Bool
  | .code _ _ _ _ => true
  | _ => false
theorem all_split {L : List Jvm.Cond} {P : Jvm.Cond → Bool} (h1 : L.all (fun c => isCode c || P c) = true) (h2 : ∀ c ∈ L.filter isCode, P c = true) : L.all P = true := by
  refine List.all_eq_true.mpr fun c hc => ?_
  have h := List.all_eq_true.mp h1 c hc
  rcases Bool.eq_false_or_eq_true (isCode c) with hi | hi
  · exact h2 c (List.mem_filter.mpr ⟨hc, hi⟩)
  · simpa [hi] using h
set_option maxRecDepth 65536 in
theorem w_c0 : (Jvm.Cond.code x code maxLocals ret).before args0 about1 = true := code_word (m := ⟨1, 1⟩) (meth := k1m1) (c := k1c1) (by decide +kernel) rfl rfl rfl (by decide +kernel)
set_option maxRecDepth 65536 in
theorem w_c1 : (Jvm.Cond.code ({ cls := "coterie/latency/Figures$Bound", name := "<init>", desc := "(JZ)V" } : Jvm.MethodName) prog_51_method_1_code (4 : Nat) (Option.none : Option Jvm.ClassFile.FieldType)).before args0 about1 = true := code_word (m := ⟨3, 0⟩) (meth := k3m0) (c := k3c0) (by decide +kernel) rfl rfl rfl (by decide +kernel)
set_option maxRecDepth 65536 in
theorem w_c2 : (Jvm.Cond.code ({ cls := "java/lang/Record", name := "<init>", desc := "()V" } : Jvm.MethodName) jdk_30_method_1_code (1 : Nat) (Option.none : Option Jvm.ClassFile.FieldType)).before args0 about1 = true := code_word (m := ⟨2, 0⟩) (meth := k2m0) (c := k2c0) (by decide +kernel) rfl rfl rfl (by decide +kernel)
set_option maxRecDepth 65536 in
theorem w_c3 : (Jvm.Cond.code ({ cls := "java/lang/Object", name := "<init>", desc := "()V" } : Jvm.MethodName) object_method_1_code (1 : Nat) (Option.none : Option Jvm.ClassFile.FieldType)).before args0 about1 = true := code_word (m := ⟨0, 0⟩) (meth := k0m0) (c := k0c0) (by decide +kernel) rfl rfl rfl (by decide +kernel)
set_option maxRecDepth 65536 in
theorem w_c4 : (Jvm.Cond.code ({ cls := "coterie/latency/Figures$Bound", name := "meets", desc := "(D)Z" } : Jvm.MethodName) prog_51_method_2_code (3 : Nat) (Option.some Jvm.ClassFile.FieldType.boolean)).before args0 about1 = true := code_word (m := ⟨3, 1⟩) (meth := k3m1) (c := k3c1) (by decide +kernel) rfl rfl rfl (by decide +kernel)
set_option maxRecDepth 65536 in
theorem w_c5 : (Jvm.Cond.code ({ cls := "coterie/latency/Figures$Bound", name := "ms", desc := "()J" } : Jvm.MethodName) prog_51_method_6_code (1 : Nat) (Option.some Jvm.ClassFile.FieldType.long)).before args0 about1 = true := code_word (m := ⟨3, 2⟩) (meth := k3m2) (c := k3c2) (by decide +kernel) rfl rfl rfl (by decide +kernel)
set_option maxRecDepth 65536 in
theorem w_c6 : (Jvm.Cond.code ({ cls := "coterie/latency/Figures$Bound", name := "below", desc := "()Z" } : Jvm.MethodName) prog_51_method_7_code (1 : Nat) (Option.some Jvm.ClassFile.FieldType.boolean)).before args0 about1 = true := code_word (m := ⟨3, 3⟩) (meth := k3m3) (c := k3c3) (by decide +kernel) rfl rfl rfl (by decide +kernel)
def codes1 : List Jvm.Cond := [Jvm.Cond.code x code maxLocals ret, Jvm.Cond.code ({ cls := "coterie/latency/Figures$Bound", name := "<init>", desc := "(JZ)V" } : Jvm.MethodName) prog_51_method_1_code (4 : Nat) (Option.none : Option Jvm.ClassFile.FieldType), Jvm.Cond.code ({ cls := "java/lang/Record", name := "<init>", desc := "()V" } : Jvm.MethodName) jdk_30_method_1_code (1 : Nat) (Option.none : Option Jvm.ClassFile.FieldType), Jvm.Cond.code ({ cls := "java/lang/Object", name := "<init>", desc := "()V" } : Jvm.MethodName) object_method_1_code (1 : Nat) (Option.none : Option Jvm.ClassFile.FieldType), Jvm.Cond.code ({ cls := "coterie/latency/Figures$Bound", name := "meets", desc := "(D)Z" } : Jvm.MethodName) prog_51_method_2_code (3 : Nat) (Option.some Jvm.ClassFile.FieldType.boolean), Jvm.Cond.code ({ cls := "coterie/latency/Figures$Bound", name := "ms", desc := "()J" } : Jvm.MethodName) prog_51_method_6_code (1 : Nat) (Option.some Jvm.ClassFile.FieldType.long), Jvm.Cond.code ({ cls := "coterie/latency/Figures$Bound", name := "below", desc := "()Z" } : Jvm.MethodName) prog_51_method_7_code (1 : Nat) (Option.some Jvm.ClassFile.FieldType.boolean)]
set_option maxRecDepth 65536 in
theorem codes_eq : words1.filter isCode = codes1 := rfl
theorem w_codes : ∀ c ∈ words1.filter isCode, c.before args0 about1 = true := by
  rw [codes_eq]
  intro c hc
  simp only [codes1, List.mem_cons, List.not_mem_nil, or_false] at hc
  rcases hc with rfl | rfl | rfl | rfl | rfl | rfl | rfl
  · exact w_c0
  · exact w_c1
  · exact w_c2
  · exact w_c3
  · exact w_c4
  · exact w_c5
  · exact w_c6
set_option maxRecDepth 65536 in
theorem w_t1 : (words1.take 24).all (fun c => isCode c || c.before args0 about1) = true := by decide +kernel
set_option maxRecDepth 65536 in
theorem w_t2 : (words1.drop 24).all (fun c => isCode c || c.before args0 about1) = true := by decide +kernel
theorem w_tables : (allAtoms (Jvm.Cond.code x code maxLocals ret :: tables_1)).before args0 about1 = true := by
  rw [allAtoms_all]
  show words1.all (fun c => c.before args0 about1) = true
  refine all_split ?_ w_codes
  rw [← List.take_append_drop 24 words1, List.all_append, w_t1, w_t2]
  rfl
set_option maxRecDepth 65536 in
theorem w_case : (Jvm.Cond.and given_1 narrow_1).before args0 about1 = true := by decide +kernel
theorem w_applies : (headSpec (Jvm.Cond.code x code maxLocals ret :: tables_1) room_1).applies x e0.platform about1 = true :=
  (Spec.applies_iff w_frames).mpr ⟨w_running, w_runnable, w_alone, w_named, w_hears, w_ripe, w_room, w_tables⟩
theorem atStart : AtStart classFile x code maxLocals ret World_1 tables_1 room_1 Calls_1 rest_1 Pre_1 launch0 p0 e0 about1 theMethod args0 below0 :=
  ⟨lists_1, trivial, launch0.admits_env _ _ _, launch0.least_env, fairChoices_fair.cas, fairChoices_fair.clock, w_frames, w_args, w_heap, w_applies, trivial, trivial, w_case⟩
end start1
theorem witness_1 : WitnessClaimed_1 := ⟨start1.p0, start1.e0, start1.about1, start1.theMethod, start1.args0, start1.below0, start1.atStart⟩
end Jvm.Pilot.@@N@@
