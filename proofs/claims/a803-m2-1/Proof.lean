import JvmDerived
import JvmDerived.Pilot.@@N@@Statement
import JvmDerived.Pilot.@@N@@Code
set_option linter.unusedVariables false
set_option linter.unusedSimpArgs false
namespace Jvm.RoadKit
open Sem ClassFile Op Lib Jvm.Stand Jvm.Free Jvm.LawKit
section New
variable {p : Program} {l : Launch} {e : Env} {R : Room} {s : State} {m : MethodId} {args : Array Value} {below : List Frame} {meth : Method} {c : Code} {T : State} {locs : List Loc} {cells slots : Nat}
theorem retI (X : Stand p l e R s m args below meth c T locs cells slots) (hx : p.tables.exec = Jvm.exec) {pc : Nat} {Ls : Array Slot} {z : Int32} {rest : List Value} (hret : meth.sig.returnType = some .int) (hd : decode c.code pc = .ok (.ireturn, 1)) {fs : List Frame}
    (hl : ∀ (f : JFrame) (acts : List Action), f.method = m → f.locked = none → f.entered = [] → (doReturn e (T.setTop f) acts (some (.int z))).1 = T.setFrames fs) : Steps p.tables e below (T.setTop (mkF m pc Ls (.int z :: rest))) (T.setFrames fs) := by
  have hm' : T.vm.method? m = some meth := X.method'
  have hn : narrow .int (.int z) = .int z := rfl
  show Steps p.tables e below (T.setTop { method := m, pc := pc, locals := Ls, stack := _ :: rest, locked := none }) _
  jvm_step X.here [X.here.top, hx, hd, hm', hret, hn]
  first | (intro acts; rw [hl _ acts rfl rfl rfl]) | rw [hl _ _ rfl rfl rfl]
  exact Steps.refl _
end New
end Jvm.RoadKit
namespace Jvm.Pilot.@@N@@
open Jvm Jvm.ClassFile Sem Op Lib Jvm.Free Jvm.Stand Jvm.LawKit Jvm.RoadKit Bundle Jvm.Pilot.@@N@@.Jvm.D
/-- an object of exactly this class that the program made (no cell of the machine's own) -/
def Obj (Z : State) (h : Heap) (a : Addr) (C : String) : Prop := ∃ (cell : Cell) (k : Class), h[a]? = some cell ∧ Z.vm.findClass C = some cell.cls ∧ Z.vm.classes[cell.cls]? = some k ∧ cell.vm = .none ∧ (k.kind = .ordinary → cell.slots.size = k.instanceTypes.size)
section ObjS
variable {Z : State} {h h' h0 : Heap} {a b : Addr} {C O n d : String} {sl kk : Nat} {v : Value} {ws : List Addr} {a0 : Array Value}
theorem Obj.of (E : Exa Z h a C) (q : ∃ cell : Cell, h[a]? = some cell ∧ cell.vm = .none ∧ cell.monitor = {}) : Obj Z h a C := by
  obtain ⟨cell, k, h1, h2, h3, h4, h5⟩ := E
  obtain ⟨cell', g1, g2, -⟩ := q
  cases h1.symm.trans g1
  exact ⟨cell, k, h1, h2, h3, g2, h5⟩
theorem Obj.exa (F : Obj Z h a C) : Exa Z h a C := by
  obtain ⟨cell, k, h1, h2, h3, h4, h5⟩ := F
  exact ⟨cell, k, h1, h2, h3, by rw [h4]; rfl, h5⟩
theorem Obj.lt (F : Obj Z h a C) : a < h.size := F.exa.lt
theorem Obj.ext (F : Obj Z h b C) (E : Ext h h') : Obj Z h' b C := by obtain ⟨cell, k, h1, r⟩ := F; exact ⟨cell, k, E.2 _ _ h1, r⟩
theorem Obj.keep (F : Obj Z h a C) (K : Keep h h' ws) : Obj Z h' a C := by
  obtain ⟨cell, k, h1, h2, h3, h4, h5⟩ := F
  obtain ⟨c', q1, q2, q3, q4⟩ := K.2.2 _ _ h1
  exact ⟨c', k, q1, by rw [q2]; exact h2, by rw [q2]; exact h3, by rw [q3]; exact h4, fun q => by rw [q4]; exact h5 q⟩
theorem Obj.wr (F : Obj Z h b C) (W : Wr h h' a sl v) : Obj Z h' b C := F.keep (Keep.of_wr W)
/-- each field that is laid in such an object holds something -/
theorem Obj.fld (F : Obj Z h a C) (L : Laid Z a0 C O n d) (wi : (Cond.instantiable C kk).before a0 Z = true) : ∃ v, Fld Z h a O n d v := by
  obtain ⟨cell, k, h1, h2, h3, h4, h5⟩ := F
  obtain ⟨c1, k1, cf, kf, i, f, a1, a2, a3, a4, a5, a6, -⟩ := L.spec
  obtain ⟨c2, k2, i1, i2, i3, -⟩ := Cond.instantiable_spec wi
  cases h2.symm.trans a1
  cases h2.symm.trans i1
  cases a2.symm.trans i2
  cases h3.symm.trans a2
  have hs := h5 i3
  have hlt : f.slot < cell.slots.size := by rw [hs]; exact (Array.getElem?_eq_some_iff.mp a6).1
  exact ⟨cell.slots[f.slot], cell, cf, kf, i, f, h1, a3, a4, by rw [h4]; simp, by rw [h4]; rfl, a5, Array.getElem?_eq_getElem hlt⟩
end ObjS
theorem pn_java_util_AbstractMap : plainName "java/util/AbstractMap" = true := by first | (simp [plainName, overriddenIn]; done) | decide +kernel
theorem d_jdk_71_method_1_code_0 : decode jdk_71_method_1_code 0 = .ok (.aload_n 0, 1) := by decide +kernel
theorem d_jdk_71_method_1_code_1 : decode jdk_71_method_1_code 1 = .ok (.invokespecial 1, 3) := by decide +kernel
theorem d_jdk_71_method_1_code_4 : decode jdk_71_method_1_code 4 = .ok (.return_, 1) := by decide +kernel
theorem ef_own_am (m : MethodId) {a1 : Addr} : entryFrame m #[(.ref a1)] 1 = mkF m 0 #[.val (.ref a1)] [] := by first | (simp [entryFrame, mkF, argsToLocals, Value.category]; done) | rfl
def Q_own_am (Z : State) (a1 : Addr) (h0 : Heap) (n0 : Nat) (v : Option Value) (h : Heap) (L : List Loc) : Prop := v = none ∧ Fr n0 L ∧ h = h0
set_option maxRecDepth 65536 in
set_option maxHeartbeats 40000000 in
theorem own_am (l : Launch) (Z : State) (a0 : Array Value) (hw : ∀ d ∈ tables_1, d.before a0 Z = true) (ws : List Jvm.Cond) (a1 : Addr) (h0 : Heap) (n0 : Nat) (Z0 : n0 ≤ h0.size)  :
    MetFree l (⟨"java/util/AbstractMap", "<init>", "()V"⟩ : MethodName) (head1 (Jvm.Cond.code (⟨"java/util/AbstractMap", "<init>", "()V"⟩ : MethodName) jdk_71_method_1_code 1 none :: ws) ({ frames := 1, cells := 0, slots := 0, locals := 12 } : Room)) (fun a U => a = #[(.ref a1)] ∧ Z.Warmed39 U.vm ∧ U.heap = h0) (fun _ _ _ _ _ => True) (fun _ U o U' => ∃ v L, o = .returned v ∧ Q_own_am Z a1 h0 n0 v U'.heap L ∧ FrameEnd U o U' L ({ frames := 1, cells := 0, slots := 0, locals := 12 } : Room).cells ({ frames := 1, cells := 0, slots := 0, locals := 12 } : Room).slots) := by
  refine MetFree.of_bodySF (plainFor_of_name pn_java_util_AbstractMap) hisR ?_
  intro p e s m args below meth c s₁ Bd hml0 hP hK
  obtain ⟨rfl, hZ, hh⟩ := hP
  have hx := Bd.exec
  have hby := Bd.bytes
  have hml : c.maxLocals = 1 := hml0
  have hown : s.vm.findClass "java/util/AbstractMap" = some m.cls := findClass_of_methodNamed Bd.named
  have hnm := (name_of_methodNamed Bd.named Bd.method).1
  have X0 : Stand p l e ({ frames := 1, cells := 0, slots := 0, locals := 12 } : Room) s m #[(.ref a1)] below meth c s₁ [] 0 0 := Stand.of_body Bd
  have e0 : s₁.heap = h0 := by rw [← hh, Bd.state]; rfl
  have N0 := Fr.nil n0
  have pre0 : ∀ t, Steps p.tables e below (s₁.setTop (mkF m 0 #[.val (.ref a1)] [])) t → Steps p.tables e below (s₁.setTop (entryFrame m #[(.ref a1)] 1)) t := fun t k => castTop (ef_own_am m) k
  obtain ⟨T1, X1, e1, st1⟩ := initO X0 hx hZ hown (hw _ (List.mem_of_getElem? (i := 54) rfl)) (hw _ (List.mem_of_getElem? (i := 21) rfl)) (hw _ (List.mem_of_getElem? (i := 22) rfl)) e0 (g := (mkF m 1 #[.val (.ref a1)] [(.ref a1)])) rfl (by rw [hml]; rfl) rfl (hb hby d_jdk_71_method_1_code_1) (by decide) (W := 0) (by show 2 * 0 + _ ≤ _; exact Nat.le_of_eq rfl) (by decide)
  have pre2 : ∀ t, Steps p.tables e below (T1.setTop (mkF m 4 #[.val (.ref a1)] [])) t → Steps p.tables e below (s₁.setTop (entryFrame m #[(.ref a1)] 1)) t := by
    intro t kk
    refine pre0 t ?_
    show Steps p.tables e below (s₁.setTop (mkF m 0 #[.val (.ref a1)] [])) _
    refine XS.aloadN X0.here hx rfl (hb hby d_jdk_71_method_1_code_0) rfl rfl ?_
    show Steps p.tables e below (s₁.setTop (mkF m 1 #[.val (.ref a1)] [(.ref a1)])) _
    exact st1 _ kk
  obtain ⟨fs, hr, hrun, hended, hW, hsame⟩ := X1.leave (v := none) (fun _ => rfl)
  refine ⟨_, _, pre2 _ ?_, hrun, hended, _, _, rfl, ?_, ⟨_, rfl⟩, hW, hsame.mono (by decide) (by decide)⟩
  · show Steps p.tables e below (T1.setTop (mkF m 4 #[.val (.ref a1)] [])) _
    exact X1.returnOut hx Bd.returns (hb hby d_jdk_71_method_1_code_4) hr
  · show Q_own_am Z a1 h0 n0 _ T1.heap _
    rw [e1]
    exact ⟨rfl, N0, rfl⟩
theorem pn_java_util_HashMap : plainName "java/util/HashMap" = true := by first | (simp [plainName, overriddenIn]; done) | decide +kernel
theorem d_jdk_69_method_7_code_0 : decode jdk_69_method_7_code 0 = .ok (.aload_n 0, 1) := by decide +kernel
theorem pd___V : parseMethodDescriptor "()V" = some ⟨[], none⟩ := by decide +kernel
theorem d_jdk_69_method_7_code_1 : decode jdk_69_method_7_code 1 = .ok (.invokespecial 43, 3) := by decide +kernel
theorem d_jdk_69_method_7_code_4 : decode jdk_69_method_7_code 4 = .ok (.aload_n 0, 1) := by decide +kernel
theorem d_jdk_69_method_7_code_5 : decode jdk_69_method_7_code 5 = .ok (.ldc 92, 2) := by decide +kernel
theorem d_jdk_69_method_7_code_7 : decode jdk_69_method_7_code 7 = .ok (.putfield 81, 3) := by decide +kernel
theorem d_jdk_69_method_7_code_10 : decode jdk_69_method_7_code 10 = .ok (.return_, 1) := by decide +kernel
theorem ef_own_hm (m : MethodId) {a1 : Addr} : entryFrame m #[(.ref a1)] 1 = mkF m 0 #[.val (.ref a1)] [] := by first | (simp [entryFrame, mkF, argsToLocals, Value.category]; done) | rfl
def Q_own_hm (Z : State) (a1 : Addr) (h0 : Heap) (n0 : Nat) (v : Option Value) (h : Heap) (L : List Loc) : Prop := v = none ∧ Fr n0 L ∧ Keep h0 h [a1]
set_option maxRecDepth 65536 in
set_option maxHeartbeats 40000000 in
theorem own_hm (l : Launch) (Z : State) (a0 : Array Value) (hw : ∀ d ∈ tables_1, d.before a0 Z = true) (ws : List Jvm.Cond) (a1 : Addr) (h0 : Heap) (n0 : Nat) (Z0 : n0 ≤ h0.size) (O1 : Obj Z h0 a1 "java/util/HashMap") (g1 : n0 ≤ a1) :
    MetFree l (⟨"java/util/HashMap", "<init>", "()V"⟩ : MethodName) (head1 (Jvm.Cond.code (⟨"java/util/HashMap", "<init>", "()V"⟩ : MethodName) jdk_69_method_7_code 1 none :: ws) ({ frames := 2, cells := 0, slots := 0, locals := 24 } : Room)) (fun a U => a = #[(.ref a1)] ∧ Z.Warmed39 U.vm ∧ U.heap = h0) (fun _ _ _ _ _ => True) (fun _ U o U' => ∃ v L, o = .returned v ∧ Q_own_hm Z a1 h0 n0 v U'.heap L ∧ FrameEnd U o U' L ({ frames := 2, cells := 0, slots := 0, locals := 24 } : Room).cells ({ frames := 2, cells := 0, slots := 0, locals := 24 } : Room).slots) := by
  refine MetFree.of_bodySF (plainFor_of_name pn_java_util_HashMap) hisR ?_
  intro p e s m args below meth c s₁ Bd hml0 hP hK
  obtain ⟨rfl, hZ, hh⟩ := hP
  have hx := Bd.exec
  have hby := Bd.bytes
  have hml : c.maxLocals = 1 := hml0
  have hown : s.vm.findClass "java/util/HashMap" = some m.cls := findClass_of_methodNamed Bd.named
  have hnm := (name_of_methodNamed Bd.named Bd.method).1
  have X0 : Stand p l e ({ frames := 2, cells := 0, slots := 0, locals := 24 } : Room) s m #[(.ref a1)] below meth c s₁ [] 0 0 := Stand.of_body Bd
  have e0 : s₁.heap = h0 := by rw [← hh, Bd.state]; rfl
  have N0 := Fr.nil n0
  have pre0 : ∀ t, Steps p.tables e below (s₁.setTop (mkF m 0 #[.val (.ref a1)] [])) t → Steps p.tables e below (s₁.setTop (entryFrame m #[(.ref a1)] 1)) t := fun t k => castTop (ef_own_hm m) k
  obtain ⟨_, _, ⟨T1, L1, k1, n1⟩, -, X1, ⟨Lc1, hQ1, l1, y1, z1⟩, st1⟩ := X0.specialBack hx (y := (⟨"java/util/AbstractMap", "<init>", "()V"⟩ : MethodName)) rfl hown (mvT hZ (hw _ (List.mem_of_getElem? (i := 69) rfl))) (mvT hZ (hw _ (List.mem_of_getElem? (i := 49) rfl))) (mvT hZ (hw _ (List.mem_of_getElem? (i := 53) rfl))) (by decide) (backOf (W := 0) (own_am l Z a0 hw [] a1 h0 n0 Z0) hZ (hw _ (List.mem_of_getElem? (i := 53) rfl)) (hw _ (List.mem_of_getElem? (i := 52) rfl)) (by decide) (by decide)) (g := (mkF m 1 #[.val (.ref a1)] [(.ref a1)])) rfl (by rw [hml]; rfl) (Steps.refl _) (a := a1) (argsL := []) (rest := []) (lenOf pd___V rfl) rfl (by show 2 * 0 + _ ≤ _; exact Nat.le_of_eq rfl) (hb hby d_jdk_69_method_7_code_1) (fun _ _ => ⟨rfl, e0, (by decide : 0 + 0 ≤ _), (by decide : 0 + 0 ≤ _)⟩)
  dsimp only [Pt.U, Pt.locs, Pt.cells, Pt.slots] at X1 l1 y1 z1 st1 hQ1
  subst l1 y1 z1
  obtain ⟨rfl, N1q, e1q⟩ := hQ1
  have N1 := Fr.app N0 N1q
  have pre2 : ∀ t, Steps p.tables e below (T1.setTop (mkF m 4 #[.val (.ref a1)] [])) t → Steps p.tables e below (s₁.setTop (entryFrame m #[(.ref a1)] 1)) t := by
    intro t kk
    refine pre0 t ?_
    show Steps p.tables e below (s₁.setTop (mkF m 0 #[.val (.ref a1)] [])) _
    refine XS.aloadN X0.here hx rfl (hb hby d_jdk_69_method_7_code_0) rfl rfl ?_
    show Steps p.tables e below (s₁.setTop (mkF m 1 #[.val (.ref a1)] [(.ref a1)])) _
    exact st1.trans kk
  obtain ⟨u3, U3⟩ := Obj.fld O1 (Or.inr (hw _ (List.mem_of_getElem? (i := 73) rfl))) (hw _ (List.mem_of_getElem? (i := 64) rfl))
  obtain ⟨T3, h3, X3, e3, W3, st3⟩ := putF X1 hx hZ hown (host := "") (Or.inl (hw _ (List.mem_of_getElem? (i := 72) rfl))) Via.refl e1q U3 O1.exa (Or.inr ⟨(hw _ (List.mem_of_getElem? (i := 73) rfl)), rfl, hnm⟩) (hw _ (List.mem_of_getElem? (i := 64) rfl)) (ty := .float) (by decide) rfl rfl (g := (mkF m 7 #[.val (.ref a1)] [(.float (1061158912 : UInt32)), (.ref a1)])) rfl rfl (hb hby d_jdk_69_method_7_code_7)
  have N3 := Fr.snoc X3 N1 g1
  have pre4 : ∀ t, Steps p.tables e below (T3.setTop (mkF m 10 #[.val (.ref a1)] [])) t → Steps p.tables e below (s₁.setTop (entryFrame m #[(.ref a1)] 1)) t := by
    intro t kk
    refine pre2 t ?_
    show Steps p.tables e below (T1.setTop (mkF m 4 #[.val (.ref a1)] [])) _
    refine XS.aloadN X1.here hx rfl (hb hby d_jdk_69_method_7_code_4) rfl rfl ?_
    show Steps p.tables e below (T1.setTop (mkF m 5 #[.val (.ref a1)] [(.ref a1)])) _
    refine X1.ldcFloatC hx hown (mvT hZ (hw _ (List.mem_of_getElem? (i := 71) rfl))) (g := (mkF m 5 #[.val (.ref a1)] [(.ref a1)])) rfl (hb hby d_jdk_69_method_7_code_5) _ ?_
    show Steps p.tables e below (T1.setTop (mkF m 7 #[.val (.ref a1)] [(.float (1061158912 : UInt32)), (.ref a1)])) _
    exact st3 _ kk
  have c5 := ((Keep.refl h0 [a1]).wr W3 (Or.inl (List.mem_of_getElem? (i := 0) rfl)))
  obtain ⟨fs, hr, hrun, hended, hW, hsame⟩ := X3.leave (v := none) (fun _ => rfl)
  refine ⟨_, _, pre4 _ ?_, hrun, hended, _, _, rfl, ?_, ⟨_, rfl⟩, hW, hsame.mono (by decide) (by decide)⟩
  · show Steps p.tables e below (T3.setTop (mkF m 10 #[.val (.ref a1)] [])) _
    exact X3.returnOut hx Bd.returns (hb hby d_jdk_69_method_7_code_10) hr
  · show Q_own_hm Z a1 h0 n0 _ T3.heap _
    rw [e3]
    exact ⟨rfl, N3, c5⟩
theorem pn_java_util_TreeMap : plainName "java/util/TreeMap" = true := by first | (simp [plainName, overriddenIn]; done) | decide +kernel
theorem d_jdk_2729_method_1_code_0 : decode jdk_2729_method_1_code 0 = .ok (.aload_n 0, 1) := by decide +kernel
theorem d_jdk_2729_method_1_code_1 : decode jdk_2729_method_1_code 1 = .ok (.invokespecial 1, 3) := by decide +kernel
theorem d_jdk_2729_method_1_code_4 : decode jdk_2729_method_1_code 4 = .ok (.aload_n 0, 1) := by decide +kernel
theorem d_jdk_2729_method_1_code_5 : decode jdk_2729_method_1_code 5 = .ok (.iconst 0, 1) := by decide +kernel
theorem d_jdk_2729_method_1_code_6 : decode jdk_2729_method_1_code 6 = .ok (.putfield 7, 3) := by decide +kernel
theorem d_jdk_2729_method_1_code_9 : decode jdk_2729_method_1_code 9 = .ok (.aload_n 0, 1) := by decide +kernel
theorem d_jdk_2729_method_1_code_10 : decode jdk_2729_method_1_code 10 = .ok (.iconst 0, 1) := by decide +kernel
theorem d_jdk_2729_method_1_code_11 : decode jdk_2729_method_1_code 11 = .ok (.putfield 13, 3) := by decide +kernel
theorem d_jdk_2729_method_1_code_14 : decode jdk_2729_method_1_code 14 = .ok (.aload_n 0, 1) := by decide +kernel
theorem d_jdk_2729_method_1_code_15 : decode jdk_2729_method_1_code 15 = .ok (.aconst_null, 1) := by decide +kernel
theorem d_jdk_2729_method_1_code_16 : decode jdk_2729_method_1_code 16 = .ok (.putfield 16, 3) := by decide +kernel
theorem d_jdk_2729_method_1_code_19 : decode jdk_2729_method_1_code 19 = .ok (.return_, 1) := by decide +kernel
theorem ef_own_tm (m : MethodId) {a1 : Addr} : entryFrame m #[(.ref a1)] 1 = mkF m 0 #[.val (.ref a1)] [] := by first | (simp [entryFrame, mkF, argsToLocals, Value.category]; done) | rfl
def Q_own_tm (Z : State) (a1 : Addr) (h0 : Heap) (n0 : Nat) (v : Option Value) (h : Heap) (L : List Loc) : Prop := v = none ∧ Fr n0 L ∧ Keep h0 h [a1]
set_option maxRecDepth 65536 in
set_option maxHeartbeats 40000000 in
theorem own_tm (l : Launch) (Z : State) (a0 : Array Value) (hw : ∀ d ∈ tables_1, d.before a0 Z = true) (ws : List Jvm.Cond) (a1 : Addr) (h0 : Heap) (n0 : Nat) (Z0 : n0 ≤ h0.size) (O1 : Obj Z h0 a1 "java/util/TreeMap") (g1 : n0 ≤ a1) :
    MetFree l (⟨"java/util/TreeMap", "<init>", "()V"⟩ : MethodName) (head1 (Jvm.Cond.code (⟨"java/util/TreeMap", "<init>", "()V"⟩ : MethodName) jdk_2729_method_1_code 1 none :: ws) ({ frames := 2, cells := 0, slots := 0, locals := 24 } : Room)) (fun a U => a = #[(.ref a1)] ∧ Z.Warmed39 U.vm ∧ U.heap = h0) (fun _ _ _ _ _ => True) (fun _ U o U' => ∃ v L, o = .returned v ∧ Q_own_tm Z a1 h0 n0 v U'.heap L ∧ FrameEnd U o U' L ({ frames := 2, cells := 0, slots := 0, locals := 24 } : Room).cells ({ frames := 2, cells := 0, slots := 0, locals := 24 } : Room).slots) := by
  refine MetFree.of_bodySF (plainFor_of_name pn_java_util_TreeMap) hisR ?_
  intro p e s m args below meth c s₁ Bd hml0 hP hK
  obtain ⟨rfl, hZ, hh⟩ := hP
  have hx := Bd.exec
  have hby := Bd.bytes
  have hml : c.maxLocals = 1 := hml0
  have hown : s.vm.findClass "java/util/TreeMap" = some m.cls := findClass_of_methodNamed Bd.named
  have hnm := (name_of_methodNamed Bd.named Bd.method).1
  have X0 : Stand p l e ({ frames := 2, cells := 0, slots := 0, locals := 24 } : Room) s m #[(.ref a1)] below meth c s₁ [] 0 0 := Stand.of_body Bd
  have e0 : s₁.heap = h0 := by rw [← hh, Bd.state]; rfl
  have N0 := Fr.nil n0
  have pre0 : ∀ t, Steps p.tables e below (s₁.setTop (mkF m 0 #[.val (.ref a1)] [])) t → Steps p.tables e below (s₁.setTop (entryFrame m #[(.ref a1)] 1)) t := fun t k => castTop (ef_own_tm m) k
  obtain ⟨_, _, ⟨T1, L1, k1, n1⟩, -, X1, ⟨Lc1, hQ1, l1, y1, z1⟩, st1⟩ := X0.specialBack hx (y := (⟨"java/util/AbstractMap", "<init>", "()V"⟩ : MethodName)) rfl hown (mvT hZ (hw _ (List.mem_of_getElem? (i := 48) rfl))) (mvT hZ (hw _ (List.mem_of_getElem? (i := 49) rfl))) (mvT hZ (hw _ (List.mem_of_getElem? (i := 53) rfl))) (by decide) (backOf (W := 0) (own_am l Z a0 hw [] a1 h0 n0 Z0) hZ (hw _ (List.mem_of_getElem? (i := 53) rfl)) (hw _ (List.mem_of_getElem? (i := 52) rfl)) (by decide) (by decide)) (g := (mkF m 1 #[.val (.ref a1)] [(.ref a1)])) rfl (by rw [hml]; rfl) (Steps.refl _) (a := a1) (argsL := []) (rest := []) (lenOf pd___V rfl) rfl (by show 2 * 0 + _ ≤ _; exact Nat.le_of_eq rfl) (hb hby d_jdk_2729_method_1_code_1) (fun _ _ => ⟨rfl, e0, (by decide : 0 + 0 ≤ _), (by decide : 0 + 0 ≤ _)⟩)
  dsimp only [Pt.U, Pt.locs, Pt.cells, Pt.slots] at X1 l1 y1 z1 st1 hQ1
  subst l1 y1 z1
  obtain ⟨rfl, N1q, e1q⟩ := hQ1
  have N1 := Fr.app N0 N1q
  have pre2 : ∀ t, Steps p.tables e below (T1.setTop (mkF m 4 #[.val (.ref a1)] [])) t → Steps p.tables e below (s₁.setTop (entryFrame m #[(.ref a1)] 1)) t := by
    intro t kk
    refine pre0 t ?_
    show Steps p.tables e below (s₁.setTop (mkF m 0 #[.val (.ref a1)] [])) _
    refine XS.aloadN X0.here hx rfl (hb hby d_jdk_2729_method_1_code_0) rfl rfl ?_
    show Steps p.tables e below (s₁.setTop (mkF m 1 #[.val (.ref a1)] [(.ref a1)])) _
    exact st1.trans kk
  obtain ⟨u3, U3⟩ := Obj.fld O1 (Or.inl (hw _ (List.mem_of_getElem? (i := 56) rfl))) (hw _ (List.mem_of_getElem? (i := 43) rfl))
  obtain ⟨T3, h3, X3, e3, W3, st3⟩ := putF X1 hx hZ hown (host := "") (Or.inl (hw _ (List.mem_of_getElem? (i := 55) rfl))) Via.refl e1q U3 O1.exa (Or.inl (hw _ (List.mem_of_getElem? (i := 56) rfl))) (hw _ (List.mem_of_getElem? (i := 43) rfl)) (ty := .int) (by decide) rfl rfl (g := (mkF m 6 #[.val (.ref a1)] [(.int (0 : Int32)), (.ref a1)])) rfl rfl (hb hby d_jdk_2729_method_1_code_6)
  have N3 := Fr.snoc X3 N1 g1
  have pre4 : ∀ t, Steps p.tables e below (T3.setTop (mkF m 9 #[.val (.ref a1)] [])) t → Steps p.tables e below (s₁.setTop (entryFrame m #[(.ref a1)] 1)) t := by
    intro t kk
    refine pre2 t ?_
    show Steps p.tables e below (T1.setTop (mkF m 4 #[.val (.ref a1)] [])) _
    refine XS.aloadN X1.here hx rfl (hb hby d_jdk_2729_method_1_code_4) rfl rfl ?_
    show Steps p.tables e below (T1.setTop (mkF m 5 #[.val (.ref a1)] [(.ref a1)])) _
    refine XS.iconst X1.here hx rfl (hb hby d_jdk_2729_method_1_code_5) ?_
    show Steps p.tables e below (T1.setTop (mkF m 6 #[.val (.ref a1)] [(.int (0 : Int32)), (.ref a1)])) _
    exact st3 _ kk
  have c5 := (O1.wr W3)
  obtain ⟨u6, U6⟩ := Obj.fld c5 (Or.inl (hw _ (List.mem_of_getElem? (i := 58) rfl))) (hw _ (List.mem_of_getElem? (i := 43) rfl))
  obtain ⟨T6, h6, X6, e6, W6, st6⟩ := putF X3 hx hZ hown (host := "") (Or.inl (hw _ (List.mem_of_getElem? (i := 57) rfl))) Via.refl e3 U6 c5.exa (Or.inl (hw _ (List.mem_of_getElem? (i := 58) rfl))) (hw _ (List.mem_of_getElem? (i := 43) rfl)) (ty := .int) (by decide) rfl rfl (g := (mkF m 11 #[.val (.ref a1)] [(.int (0 : Int32)), (.ref a1)])) rfl rfl (hb hby d_jdk_2729_method_1_code_11)
  have N6 := Fr.snoc X6 N3 g1
  have pre7 : ∀ t, Steps p.tables e below (T6.setTop (mkF m 14 #[.val (.ref a1)] [])) t → Steps p.tables e below (s₁.setTop (entryFrame m #[(.ref a1)] 1)) t := by
    intro t kk
    refine pre4 t ?_
    show Steps p.tables e below (T3.setTop (mkF m 9 #[.val (.ref a1)] [])) _
    refine XS.aloadN X3.here hx rfl (hb hby d_jdk_2729_method_1_code_9) rfl rfl ?_
    show Steps p.tables e below (T3.setTop (mkF m 10 #[.val (.ref a1)] [(.ref a1)])) _
    refine XS.iconst X3.here hx rfl (hb hby d_jdk_2729_method_1_code_10) ?_
    show Steps p.tables e below (T3.setTop (mkF m 11 #[.val (.ref a1)] [(.int (0 : Int32)), (.ref a1)])) _
    exact st6 _ kk
  have c8 := (c5.wr W6)
  obtain ⟨u9, U9⟩ := Obj.fld c8 (Or.inr (hw _ (List.mem_of_getElem? (i := 60) rfl))) (hw _ (List.mem_of_getElem? (i := 43) rfl))
  obtain ⟨T9, h9, X9, e9, W9, st9⟩ := putF X6 hx hZ hown (host := "") (Or.inl (hw _ (List.mem_of_getElem? (i := 59) rfl))) Via.refl e6 U9 c8.exa (Or.inr ⟨(hw _ (List.mem_of_getElem? (i := 60) rfl)), rfl, hnm⟩) (hw _ (List.mem_of_getElem? (i := 43) rfl)) (ty := (.object "java/util/Comparator")) (by decide) rfl rfl (g := (mkF m 16 #[.val (.ref a1)] [.null, (.ref a1)])) rfl rfl (hb hby d_jdk_2729_method_1_code_16)
  have N9 := Fr.snoc X9 N6 g1
  have pre10 : ∀ t, Steps p.tables e below (T9.setTop (mkF m 19 #[.val (.ref a1)] [])) t → Steps p.tables e below (s₁.setTop (entryFrame m #[(.ref a1)] 1)) t := by
    intro t kk
    refine pre7 t ?_
    show Steps p.tables e below (T6.setTop (mkF m 14 #[.val (.ref a1)] [])) _
    refine XS.aloadN X6.here hx rfl (hb hby d_jdk_2729_method_1_code_14) rfl rfl ?_
    show Steps p.tables e below (T6.setTop (mkF m 15 #[.val (.ref a1)] [(.ref a1)])) _
    refine XS.aconstNull X6.here hx rfl (hb hby d_jdk_2729_method_1_code_15) ?_
    show Steps p.tables e below (T6.setTop (mkF m 16 #[.val (.ref a1)] [.null, (.ref a1)])) _
    exact st9 _ kk
  have c11 := ((((Keep.refl h0 [a1]).wr W3 (Or.inl (List.mem_of_getElem? (i := 0) rfl))).wr W6 (Or.inl (List.mem_of_getElem? (i := 0) rfl))).wr W9 (Or.inl (List.mem_of_getElem? (i := 0) rfl)))
  obtain ⟨fs, hr, hrun, hended, hW, hsame⟩ := X9.leave (v := none) (fun _ => rfl)
  refine ⟨_, _, pre10 _ ?_, hrun, hended, _, _, rfl, ?_, ⟨_, rfl⟩, hW, hsame.mono (by decide) (by decide)⟩
  · show Steps p.tables e below (T9.setTop (mkF m 19 #[.val (.ref a1)] [])) _
    exact X9.returnOut hx Bd.returns (hb hby d_jdk_2729_method_1_code_19) hr
  · show Q_own_tm Z a1 h0 n0 _ T9.heap _
    rw [e9]
    exact ⟨rfl, N9, c11⟩
theorem pn_coterie_causal_Replicas : plainName "coterie/causal/Replicas" = true := by first | (simp [plainName, overriddenIn]; done) | decide +kernel
theorem d_prog_25_method_1_code_0 : decode prog_25_method_1_code 0 = .ok (.aload_n 0, 1) := by decide +kernel
theorem d_prog_25_method_1_code_1 : decode prog_25_method_1_code 1 = .ok (.invokespecial 1, 3) := by decide +kernel
theorem d_prog_25_method_1_code_4 : decode prog_25_method_1_code 4 = .ok (.aload_n 0, 1) := by decide +kernel
theorem d_prog_25_method_1_code_5 : decode prog_25_method_1_code 5 = .ok (.new 7, 3) := by decide +kernel
theorem d_prog_25_method_1_code_8 : decode prog_25_method_1_code 8 = .ok (.dup, 1) := by decide +kernel
theorem d_prog_25_method_1_code_9 : decode prog_25_method_1_code 9 = .ok (.invokespecial 9, 3) := by decide +kernel
theorem d_prog_25_method_1_code_12 : decode prog_25_method_1_code 12 = .ok (.putfield 10, 3) := by decide +kernel
theorem d_prog_25_method_1_code_15 : decode prog_25_method_1_code 15 = .ok (.aload_n 0, 1) := by decide +kernel
theorem d_prog_25_method_1_code_16 : decode prog_25_method_1_code 16 = .ok (.new 7, 3) := by decide +kernel
theorem d_prog_25_method_1_code_19 : decode prog_25_method_1_code 19 = .ok (.dup, 1) := by decide +kernel
theorem d_prog_25_method_1_code_20 : decode prog_25_method_1_code 20 = .ok (.invokespecial 9, 3) := by decide +kernel
theorem d_prog_25_method_1_code_23 : decode prog_25_method_1_code 23 = .ok (.putfield 16, 3) := by decide +kernel
theorem d_prog_25_method_1_code_26 : decode prog_25_method_1_code 26 = .ok (.aload_n 0, 1) := by decide +kernel
theorem d_prog_25_method_1_code_27 : decode prog_25_method_1_code 27 = .ok (.new 7, 3) := by decide +kernel
theorem d_prog_25_method_1_code_30 : decode prog_25_method_1_code 30 = .ok (.dup, 1) := by decide +kernel
theorem d_prog_25_method_1_code_31 : decode prog_25_method_1_code 31 = .ok (.invokespecial 9, 3) := by decide +kernel
theorem d_prog_25_method_1_code_34 : decode prog_25_method_1_code 34 = .ok (.putfield 19, 3) := by decide +kernel
theorem d_prog_25_method_1_code_37 : decode prog_25_method_1_code 37 = .ok (.aload_n 0, 1) := by decide +kernel
theorem d_prog_25_method_1_code_38 : decode prog_25_method_1_code 38 = .ok (.new 7, 3) := by decide +kernel
theorem d_prog_25_method_1_code_41 : decode prog_25_method_1_code 41 = .ok (.dup, 1) := by decide +kernel
theorem d_prog_25_method_1_code_42 : decode prog_25_method_1_code 42 = .ok (.invokespecial 9, 3) := by decide +kernel
theorem d_prog_25_method_1_code_45 : decode prog_25_method_1_code 45 = .ok (.putfield 22, 3) := by decide +kernel
theorem d_prog_25_method_1_code_48 : decode prog_25_method_1_code 48 = .ok (.aload_n 0, 1) := by decide +kernel
theorem d_prog_25_method_1_code_49 : decode prog_25_method_1_code 49 = .ok (.new 7, 3) := by decide +kernel
theorem d_prog_25_method_1_code_52 : decode prog_25_method_1_code 52 = .ok (.dup, 1) := by decide +kernel
theorem d_prog_25_method_1_code_53 : decode prog_25_method_1_code 53 = .ok (.invokespecial 9, 3) := by decide +kernel
theorem d_prog_25_method_1_code_56 : decode prog_25_method_1_code 56 = .ok (.putfield 25, 3) := by decide +kernel
theorem d_prog_25_method_1_code_59 : decode prog_25_method_1_code 59 = .ok (.aload_n 0, 1) := by decide +kernel
theorem d_prog_25_method_1_code_60 : decode prog_25_method_1_code 60 = .ok (.new 7, 3) := by decide +kernel
theorem d_prog_25_method_1_code_63 : decode prog_25_method_1_code 63 = .ok (.dup, 1) := by decide +kernel
theorem d_prog_25_method_1_code_64 : decode prog_25_method_1_code 64 = .ok (.invokespecial 9, 3) := by decide +kernel
theorem d_prog_25_method_1_code_67 : decode prog_25_method_1_code 67 = .ok (.putfield 28, 3) := by decide +kernel
theorem d_prog_25_method_1_code_70 : decode prog_25_method_1_code 70 = .ok (.aload_n 0, 1) := by decide +kernel
theorem d_prog_25_method_1_code_71 : decode prog_25_method_1_code 71 = .ok (.new 7, 3) := by decide +kernel
theorem d_prog_25_method_1_code_74 : decode prog_25_method_1_code 74 = .ok (.dup, 1) := by decide +kernel
theorem d_prog_25_method_1_code_75 : decode prog_25_method_1_code 75 = .ok (.invokespecial 9, 3) := by decide +kernel
theorem d_prog_25_method_1_code_78 : decode prog_25_method_1_code 78 = .ok (.putfield 31, 3) := by decide +kernel
theorem d_prog_25_method_1_code_81 : decode prog_25_method_1_code 81 = .ok (.aload_n 0, 1) := by decide +kernel
theorem d_prog_25_method_1_code_82 : decode prog_25_method_1_code 82 = .ok (.aload_n 1, 1) := by decide +kernel
theorem d_prog_25_method_1_code_83 : decode prog_25_method_1_code 83 = .ok (.putfield 34, 3) := by decide +kernel
theorem d_prog_25_method_1_code_86 : decode prog_25_method_1_code 86 = .ok (.return_, 1) := by decide +kernel
theorem ef_own_rep (m : MethodId) {a1 : Addr} {a2 : Addr} : entryFrame m #[(.ref a1), (.ref a2)] 2 = mkF m 0 #[.val (.ref a1), .val (.ref a2)] [] := by first | (simp [entryFrame, mkF, argsToLocals, Value.category]; done) | rfl
def Q_own_rep (Z : State) (a1 a2 : Addr) (h0 : Heap) (n0 : Nat) (v : Option Value) (h : Heap) (L : List Loc) : Prop := v = none ∧ Fr n0 L ∧ Keep h0 h [a1]
set_option maxRecDepth 65536 in
set_option maxHeartbeats 40000000 in
theorem own_rep (l : Launch) (Z : State) (a0 : Array Value) (hw : ∀ d ∈ tables_1, d.before a0 Z = true) (ws : List Jvm.Cond) (a1 a2 : Addr) (h0 : Heap) (n0 : Nat) (Z0 : n0 ≤ h0.size) (O1 : Obj Z h0 a1 "coterie/causal/Replicas") (g1 : n0 ≤ a1) :
    MetFree l (⟨"coterie/causal/Replicas", "<init>", "(Ljava/lang/String;)V"⟩ : MethodName) (head1 (Jvm.Cond.code (⟨"coterie/causal/Replicas", "<init>", "(Ljava/lang/String;)V"⟩ : MethodName) prog_25_method_1_code 2 none :: ws) ({ frames := 3, cells := 7, slots := 56, locals := 38 } : Room)) (fun a U => a = #[(.ref a1), (.ref a2)] ∧ Z.Warmed39 U.vm ∧ U.heap = h0) (fun _ _ _ _ _ => True) (fun _ U o U' => ∃ v L, o = .returned v ∧ Q_own_rep Z a1 a2 h0 n0 v U'.heap L ∧ FrameEnd U o U' L ({ frames := 3, cells := 7, slots := 56, locals := 38 } : Room).cells ({ frames := 3, cells := 7, slots := 56, locals := 38 } : Room).slots) := by
  refine MetFree.of_bodySF (plainFor_of_name pn_coterie_causal_Replicas) hisR ?_
  intro p e s m args below meth c s₁ Bd hml0 hP hK
  obtain ⟨rfl, hZ, hh⟩ := hP
  have hx := Bd.exec
  have hby := Bd.bytes
  have hml : c.maxLocals = 2 := hml0
  have hown : s.vm.findClass "coterie/causal/Replicas" = some m.cls := findClass_of_methodNamed Bd.named
  have hnm := (name_of_methodNamed Bd.named Bd.method).1
  have X0 : Stand p l e ({ frames := 3, cells := 7, slots := 56, locals := 38 } : Room) s m #[(.ref a1), (.ref a2)] below meth c s₁ [] 0 0 := Stand.of_body Bd
  have e0 : s₁.heap = h0 := by rw [← hh, Bd.state]; rfl
  have N0 := Fr.nil n0
  have pre0 : ∀ t, Steps p.tables e below (s₁.setTop (mkF m 0 #[.val (.ref a1), .val (.ref a2)] [])) t → Steps p.tables e below (s₁.setTop (entryFrame m #[(.ref a1), (.ref a2)] 2)) t := fun t k => castTop (ef_own_rep m) k
  obtain ⟨T1, X1, e1, st1⟩ := initO X0 hx hZ hown (hw _ (List.mem_of_getElem? (i := 88) rfl)) (hw _ (List.mem_of_getElem? (i := 21) rfl)) (hw _ (List.mem_of_getElem? (i := 22) rfl)) e0 (g := (mkF m 1 #[.val (.ref a1), .val (.ref a2)] [(.ref a1)])) rfl (by rw [hml]; rfl) rfl (hb hby d_prog_25_method_1_code_1) (by decide) (W := 0) (by show 2 * 0 + _ ≤ _; exact Nat.le_of_eq rfl) (by decide)
  have pre2 : ∀ t, Steps p.tables e below (T1.setTop (mkF m 4 #[.val (.ref a1), .val (.ref a2)] [])) t → Steps p.tables e below (s₁.setTop (entryFrame m #[(.ref a1), (.ref a2)] 2)) t := by
    intro t kk
    refine pre0 t ?_
    show Steps p.tables e below (s₁.setTop (mkF m 0 #[.val (.ref a1), .val (.ref a2)] [])) _
    refine XS.aloadN X0.here hx rfl (hb hby d_prog_25_method_1_code_0) rfl rfl ?_
    show Steps p.tables e below (s₁.setTop (mkF m 1 #[.val (.ref a1), .val (.ref a2)] [(.ref a1)])) _
    exact st1 _ kk
  obtain ⟨b3, g3⟩ : ∃ z, z = h0.size := ⟨_, rfl⟩
  have ne_a1_b3 : a1 ≠ b3 := Nat.ne_of_lt (Nat.lt_of_lt_of_le O1.lt (Nat.le_of_eq g3.symm))
  have lo_b3 : n0 ≤ b3 := Nat.le_trans Z0 (Nat.le_of_eq g3.symm)
  have hi_b3 : h0.size ≤ b3 := Nat.le_trans (Keep.refl h0 [a1]).1 (Nat.le_of_eq g3.symm)
  obtain ⟨T3, h3, X3, e3, E3, A3, D3, B3, st3⟩ := newO X1 hx hZ hown (hw _ (List.mem_of_getElem? (i := 89) rfl)) (hw _ (List.mem_of_getElem? (i := 64) rfl)) (hw _ (List.mem_of_getElem? (i := 65) rfl)) e1 (g := (mkF m 5 #[.val (.ref a1), .val (.ref a2)] [(.ref a1)])) rfl (hb hby d_prog_25_method_1_code_5) (by decide) (by decide)
  rw [← g3] at A3 D3 B3 st3
  have O3 := Obj.of A3 B3
  have pre4 : ∀ t, Steps p.tables e below (T3.setTop (mkF m 8 #[.val (.ref a1), .val (.ref a2)] [(.ref b3), (.ref a1)])) t → Steps p.tables e below (s₁.setTop (entryFrame m #[(.ref a1), (.ref a2)] 2)) t := by
    intro t kk
    refine pre2 t ?_
    show Steps p.tables e below (T1.setTop (mkF m 4 #[.val (.ref a1), .val (.ref a2)] [])) _
    refine XS.aloadN X1.here hx rfl (hb hby d_prog_25_method_1_code_4) rfl rfl ?_
    show Steps p.tables e below (T1.setTop (mkF m 5 #[.val (.ref a1), .val (.ref a2)] [(.ref a1)])) _
    exact st3 _ kk
  have c6 := (Nat.le_trans Z0 E3.1)
  obtain ⟨_, _, ⟨T5, L5, k5, n5⟩, -, X5, ⟨Lc5, hQ5, l5, y5, z5⟩, st5⟩ := X3.specialBack hx (y := (⟨"java/util/HashMap", "<init>", "()V"⟩ : MethodName)) rfl hown (mvT hZ (hw _ (List.mem_of_getElem? (i := 90) rfl))) (mvT hZ (hw _ (List.mem_of_getElem? (i := 67) rfl))) (mvT hZ (hw _ (List.mem_of_getElem? (i := 68) rfl))) (by decide) (backOf (W := 2) (own_hm l Z a0 hw [] b3 h3 n0 c6 O3 lo_b3) hZ (hw _ (List.mem_of_getElem? (i := 68) rfl)) (hw _ (List.mem_of_getElem? (i := 65) rfl)) (by decide) (by decide)) (g := (mkF m 9 #[.val (.ref a1), .val (.ref a2)] [(.ref b3), (.ref b3), (.ref a1)])) rfl (by rw [hml]; rfl) (Steps.refl _) (a := b3) (argsL := []) (rest := [(.ref b3), (.ref a1)]) (lenOf pd___V rfl) rfl (by show 2 * 0 + _ ≤ _; exact Nat.le_of_eq rfl) (hb hby d_prog_25_method_1_code_9) (fun _ _ => ⟨rfl, e3, (by decide : 1 + 0 ≤ _), (by decide : 8 + 0 ≤ _)⟩)
  dsimp only [Pt.U, Pt.locs, Pt.cells, Pt.slots] at X5 l5 y5 z5 st5 hQ5
  subst l5 y5 z5
  obtain ⟨rfl, N5q, K5⟩ := hQ5
  have N5 := Fr.app N0 N5q
  have pre7 : ∀ t, Steps p.tables e below (T5.setTop (mkF m 12 #[.val (.ref a1), .val (.ref a2)] [(.ref b3), (.ref a1)])) t → Steps p.tables e below (s₁.setTop (entryFrame m #[(.ref a1), (.ref a2)] 2)) t := by
    intro t kk
    refine pre4 t ?_
    show Steps p.tables e below (T3.setTop (mkF m 8 #[.val (.ref a1), .val (.ref a2)] [(.ref b3), (.ref a1)])) _
    refine XS.dup X3.here hx rfl (hb hby d_prog_25_method_1_code_8) rfl rfl ?_
    show Steps p.tables e below (T3.setTop (mkF m 9 #[.val (.ref a1), .val (.ref a2)] [(.ref b3), (.ref b3), (.ref a1)])) _
    exact st5.trans kk
  have c8 := ((O1.ext E3).keep K5)
  obtain ⟨u9, U9⟩ := Obj.fld c8 (Or.inr (hw _ (List.mem_of_getElem? (i := 92) rfl))) (hw _ (List.mem_of_getElem? (i := 83) rfl))
  obtain ⟨T9, h9, X9, e9, W9, st9⟩ := putF X5 hx hZ hown (host := "") (Or.inl (hw _ (List.mem_of_getElem? (i := 91) rfl))) Via.refl rfl U9 c8.exa (Or.inr ⟨(hw _ (List.mem_of_getElem? (i := 92) rfl)), rfl, hnm⟩) (hw _ (List.mem_of_getElem? (i := 83) rfl)) (ty := (.object "java/util/Map")) (by decide) rfl rfl (g := (mkF m 12 #[.val (.ref a1), .val (.ref a2)] [(.ref b3), (.ref a1)])) rfl rfl (hb hby d_prog_25_method_1_code_12)
  have N9 := Fr.snoc X9 N5 g1
  have pre10 : ∀ t, Steps p.tables e below (T9.setTop (mkF m 15 #[.val (.ref a1), .val (.ref a2)] [])) t → Steps p.tables e below (s₁.setTop (entryFrame m #[(.ref a1), (.ref a2)] 2)) t := by
    intro t kk
    refine pre7 t ?_
    show Steps p.tables e below (T5.setTop (mkF m 12 #[.val (.ref a1), .val (.ref a2)] [(.ref b3), (.ref a1)])) _
    exact st9 _ kk
  obtain ⟨b11, g11⟩ : ∃ z, z = h9.size := ⟨_, rfl⟩
  have c12 := (c8.wr W9)
  have ne_a1_b11 : a1 ≠ b11 := Nat.ne_of_lt (Nat.lt_of_lt_of_le c12.lt (Nat.le_of_eq g11.symm))
  have c13 := (Nat.le_trans (Nat.le_trans c6 K5.1) (Keep.of_wr W9).1)
  have lo_b11 : n0 ≤ b11 := Nat.le_trans c13 (Nat.le_of_eq g11.symm)
  have c14 := ((((Keep.refl h0 [a1]).ext E3).trans K5 (allS (Or.inr hi_b3) all0)).wr W9 (Or.inl (List.mem_of_getElem? (i := 0) rfl)))
  have hi_b11 : h0.size ≤ b11 := Nat.le_trans c14.1 (Nat.le_of_eq g11.symm)
  obtain ⟨T11, h11, X11, e11, E11, A11, D11, B11, st11⟩ := newO X9 hx hZ hown (hw _ (List.mem_of_getElem? (i := 89) rfl)) (hw _ (List.mem_of_getElem? (i := 64) rfl)) (hw _ (List.mem_of_getElem? (i := 65) rfl)) e9 (g := (mkF m 16 #[.val (.ref a1), .val (.ref a2)] [(.ref a1)])) rfl (hb hby d_prog_25_method_1_code_16) (by decide) (by decide)
  rw [← g11] at A11 D11 B11 st11
  have O11 := Obj.of A11 B11
  have pre15 : ∀ t, Steps p.tables e below (T11.setTop (mkF m 19 #[.val (.ref a1), .val (.ref a2)] [(.ref b11), (.ref a1)])) t → Steps p.tables e below (s₁.setTop (entryFrame m #[(.ref a1), (.ref a2)] 2)) t := by
    intro t kk
    refine pre10 t ?_
    show Steps p.tables e below (T9.setTop (mkF m 15 #[.val (.ref a1), .val (.ref a2)] [])) _
    refine XS.aloadN X9.here hx rfl (hb hby d_prog_25_method_1_code_15) rfl rfl ?_
    show Steps p.tables e below (T9.setTop (mkF m 16 #[.val (.ref a1), .val (.ref a2)] [(.ref a1)])) _
    exact st11 _ kk
  have c17 := (Nat.le_trans c13 E11.1)
  obtain ⟨_, _, ⟨T16, L16, k16, n16⟩, -, X16, ⟨Lc16, hQ16, l16, y16, z16⟩, st16⟩ := X11.specialBack hx (y := (⟨"java/util/HashMap", "<init>", "()V"⟩ : MethodName)) rfl hown (mvT hZ (hw _ (List.mem_of_getElem? (i := 90) rfl))) (mvT hZ (hw _ (List.mem_of_getElem? (i := 67) rfl))) (mvT hZ (hw _ (List.mem_of_getElem? (i := 68) rfl))) (by decide) (backOf (W := 2) (own_hm l Z a0 hw [] b11 h11 n0 c17 O11 lo_b11) hZ (hw _ (List.mem_of_getElem? (i := 68) rfl)) (hw _ (List.mem_of_getElem? (i := 65) rfl)) (by decide) (by decide)) (g := (mkF m 20 #[.val (.ref a1), .val (.ref a2)] [(.ref b11), (.ref b11), (.ref a1)])) rfl (by rw [hml]; rfl) (Steps.refl _) (a := b11) (argsL := []) (rest := [(.ref b11), (.ref a1)]) (lenOf pd___V rfl) rfl (by show 2 * 0 + _ ≤ _; exact Nat.le_of_eq rfl) (hb hby d_prog_25_method_1_code_20) (fun _ _ => ⟨rfl, e11, (by decide : 2 + 0 ≤ _), (by decide : 16 + 0 ≤ _)⟩)
  dsimp only [Pt.U, Pt.locs, Pt.cells, Pt.slots] at X16 l16 y16 z16 st16 hQ16
  subst l16 y16 z16
  obtain ⟨rfl, N16q, K16⟩ := hQ16
  have N16 := Fr.app N9 N16q
  have pre18 : ∀ t, Steps p.tables e below (T16.setTop (mkF m 23 #[.val (.ref a1), .val (.ref a2)] [(.ref b11), (.ref a1)])) t → Steps p.tables e below (s₁.setTop (entryFrame m #[(.ref a1), (.ref a2)] 2)) t := by
    intro t kk
    refine pre15 t ?_
    show Steps p.tables e below (T11.setTop (mkF m 19 #[.val (.ref a1), .val (.ref a2)] [(.ref b11), (.ref a1)])) _
    refine XS.dup X11.here hx rfl (hb hby d_prog_25_method_1_code_19) rfl rfl ?_
    show Steps p.tables e below (T11.setTop (mkF m 20 #[.val (.ref a1), .val (.ref a2)] [(.ref b11), (.ref b11), (.ref a1)])) _
    exact st16.trans kk
  have c19 := ((c12.ext E11).keep K16)
  obtain ⟨u20, U20⟩ := Obj.fld c19 (Or.inr (hw _ (List.mem_of_getElem? (i := 94) rfl))) (hw _ (List.mem_of_getElem? (i := 83) rfl))
  obtain ⟨T20, h20, X20, e20, W20, st20⟩ := putF X16 hx hZ hown (host := "") (Or.inl (hw _ (List.mem_of_getElem? (i := 93) rfl))) Via.refl rfl U20 c19.exa (Or.inr ⟨(hw _ (List.mem_of_getElem? (i := 94) rfl)), rfl, hnm⟩) (hw _ (List.mem_of_getElem? (i := 83) rfl)) (ty := (.object "java/util/Map")) (by decide) rfl rfl (g := (mkF m 23 #[.val (.ref a1), .val (.ref a2)] [(.ref b11), (.ref a1)])) rfl rfl (hb hby d_prog_25_method_1_code_23)
  have N20 := Fr.snoc X20 N16 g1
  have pre21 : ∀ t, Steps p.tables e below (T20.setTop (mkF m 26 #[.val (.ref a1), .val (.ref a2)] [])) t → Steps p.tables e below (s₁.setTop (entryFrame m #[(.ref a1), (.ref a2)] 2)) t := by
    intro t kk
    refine pre18 t ?_
    show Steps p.tables e below (T16.setTop (mkF m 23 #[.val (.ref a1), .val (.ref a2)] [(.ref b11), (.ref a1)])) _
    exact st20 _ kk
  obtain ⟨b22, g22⟩ : ∃ z, z = h20.size := ⟨_, rfl⟩
  have c23 := (c19.wr W20)
  have ne_a1_b22 : a1 ≠ b22 := Nat.ne_of_lt (Nat.lt_of_lt_of_le c23.lt (Nat.le_of_eq g22.symm))
  have c24 := (Nat.le_trans (Nat.le_trans c17 K16.1) (Keep.of_wr W20).1)
  have lo_b22 : n0 ≤ b22 := Nat.le_trans c24 (Nat.le_of_eq g22.symm)
  have c25 := (((c14.ext E11).trans K16 (allS (Or.inr hi_b11) all0)).wr W20 (Or.inl (List.mem_of_getElem? (i := 0) rfl)))
  have hi_b22 : h0.size ≤ b22 := Nat.le_trans c25.1 (Nat.le_of_eq g22.symm)
  obtain ⟨T22, h22, X22, e22, E22, A22, D22, B22, st22⟩ := newO X20 hx hZ hown (hw _ (List.mem_of_getElem? (i := 89) rfl)) (hw _ (List.mem_of_getElem? (i := 64) rfl)) (hw _ (List.mem_of_getElem? (i := 65) rfl)) e20 (g := (mkF m 27 #[.val (.ref a1), .val (.ref a2)] [(.ref a1)])) rfl (hb hby d_prog_25_method_1_code_27) (by decide) (by decide)
  rw [← g22] at A22 D22 B22 st22
  have O22 := Obj.of A22 B22
  have pre26 : ∀ t, Steps p.tables e below (T22.setTop (mkF m 30 #[.val (.ref a1), .val (.ref a2)] [(.ref b22), (.ref a1)])) t → Steps p.tables e below (s₁.setTop (entryFrame m #[(.ref a1), (.ref a2)] 2)) t := by
    intro t kk
    refine pre21 t ?_
    show Steps p.tables e below (T20.setTop (mkF m 26 #[.val (.ref a1), .val (.ref a2)] [])) _
    refine XS.aloadN X20.here hx rfl (hb hby d_prog_25_method_1_code_26) rfl rfl ?_
    show Steps p.tables e below (T20.setTop (mkF m 27 #[.val (.ref a1), .val (.ref a2)] [(.ref a1)])) _
    exact st22 _ kk
  have c28 := (Nat.le_trans c24 E22.1)
  obtain ⟨_, _, ⟨T27, L27, k27, n27⟩, -, X27, ⟨Lc27, hQ27, l27, y27, z27⟩, st27⟩ := X22.specialBack hx (y := (⟨"java/util/HashMap", "<init>", "()V"⟩ : MethodName)) rfl hown (mvT hZ (hw _ (List.mem_of_getElem? (i := 90) rfl))) (mvT hZ (hw _ (List.mem_of_getElem? (i := 67) rfl))) (mvT hZ (hw _ (List.mem_of_getElem? (i := 68) rfl))) (by decide) (backOf (W := 2) (own_hm l Z a0 hw [] b22 h22 n0 c28 O22 lo_b22) hZ (hw _ (List.mem_of_getElem? (i := 68) rfl)) (hw _ (List.mem_of_getElem? (i := 65) rfl)) (by decide) (by decide)) (g := (mkF m 31 #[.val (.ref a1), .val (.ref a2)] [(.ref b22), (.ref b22), (.ref a1)])) rfl (by rw [hml]; rfl) (Steps.refl _) (a := b22) (argsL := []) (rest := [(.ref b22), (.ref a1)]) (lenOf pd___V rfl) rfl (by show 2 * 0 + _ ≤ _; exact Nat.le_of_eq rfl) (hb hby d_prog_25_method_1_code_31) (fun _ _ => ⟨rfl, e22, (by decide : 3 + 0 ≤ _), (by decide : 24 + 0 ≤ _)⟩)
  dsimp only [Pt.U, Pt.locs, Pt.cells, Pt.slots] at X27 l27 y27 z27 st27 hQ27
  subst l27 y27 z27
  obtain ⟨rfl, N27q, K27⟩ := hQ27
  have N27 := Fr.app N20 N27q
  have pre29 : ∀ t, Steps p.tables e below (T27.setTop (mkF m 34 #[.val (.ref a1), .val (.ref a2)] [(.ref b22), (.ref a1)])) t → Steps p.tables e below (s₁.setTop (entryFrame m #[(.ref a1), (.ref a2)] 2)) t := by
    intro t kk
    refine pre26 t ?_
    show Steps p.tables e below (T22.setTop (mkF m 30 #[.val (.ref a1), .val (.ref a2)] [(.ref b22), (.ref a1)])) _
    refine XS.dup X22.here hx rfl (hb hby d_prog_25_method_1_code_30) rfl rfl ?_
    show Steps p.tables e below (T22.setTop (mkF m 31 #[.val (.ref a1), .val (.ref a2)] [(.ref b22), (.ref b22), (.ref a1)])) _
    exact st27.trans kk
  have c30 := ((c23.ext E22).keep K27)
  obtain ⟨u31, U31⟩ := Obj.fld c30 (Or.inr (hw _ (List.mem_of_getElem? (i := 96) rfl))) (hw _ (List.mem_of_getElem? (i := 83) rfl))
  obtain ⟨T31, h31, X31, e31, W31, st31⟩ := putF X27 hx hZ hown (host := "") (Or.inl (hw _ (List.mem_of_getElem? (i := 95) rfl))) Via.refl rfl U31 c30.exa (Or.inr ⟨(hw _ (List.mem_of_getElem? (i := 96) rfl)), rfl, hnm⟩) (hw _ (List.mem_of_getElem? (i := 83) rfl)) (ty := (.object "java/util/Map")) (by decide) rfl rfl (g := (mkF m 34 #[.val (.ref a1), .val (.ref a2)] [(.ref b22), (.ref a1)])) rfl rfl (hb hby d_prog_25_method_1_code_34)
  have N31 := Fr.snoc X31 N27 g1
  have pre32 : ∀ t, Steps p.tables e below (T31.setTop (mkF m 37 #[.val (.ref a1), .val (.ref a2)] [])) t → Steps p.tables e below (s₁.setTop (entryFrame m #[(.ref a1), (.ref a2)] 2)) t := by
    intro t kk
    refine pre29 t ?_
    show Steps p.tables e below (T27.setTop (mkF m 34 #[.val (.ref a1), .val (.ref a2)] [(.ref b22), (.ref a1)])) _
    exact st31 _ kk
  obtain ⟨b33, g33⟩ : ∃ z, z = h31.size := ⟨_, rfl⟩
  have c34 := (c30.wr W31)
  have ne_a1_b33 : a1 ≠ b33 := Nat.ne_of_lt (Nat.lt_of_lt_of_le c34.lt (Nat.le_of_eq g33.symm))
  have c35 := (Nat.le_trans (Nat.le_trans c28 K27.1) (Keep.of_wr W31).1)
  have lo_b33 : n0 ≤ b33 := Nat.le_trans c35 (Nat.le_of_eq g33.symm)
  have c36 := (((c25.ext E22).trans K27 (allS (Or.inr hi_b22) all0)).wr W31 (Or.inl (List.mem_of_getElem? (i := 0) rfl)))
  have hi_b33 : h0.size ≤ b33 := Nat.le_trans c36.1 (Nat.le_of_eq g33.symm)
  obtain ⟨T33, h33, X33, e33, E33, A33, D33, B33, st33⟩ := newO X31 hx hZ hown (hw _ (List.mem_of_getElem? (i := 89) rfl)) (hw _ (List.mem_of_getElem? (i := 64) rfl)) (hw _ (List.mem_of_getElem? (i := 65) rfl)) e31 (g := (mkF m 38 #[.val (.ref a1), .val (.ref a2)] [(.ref a1)])) rfl (hb hby d_prog_25_method_1_code_38) (by decide) (by decide)
  rw [← g33] at A33 D33 B33 st33
  have O33 := Obj.of A33 B33
  have pre37 : ∀ t, Steps p.tables e below (T33.setTop (mkF m 41 #[.val (.ref a1), .val (.ref a2)] [(.ref b33), (.ref a1)])) t → Steps p.tables e below (s₁.setTop (entryFrame m #[(.ref a1), (.ref a2)] 2)) t := by
    intro t kk
    refine pre32 t ?_
    show Steps p.tables e below (T31.setTop (mkF m 37 #[.val (.ref a1), .val (.ref a2)] [])) _
    refine XS.aloadN X31.here hx rfl (hb hby d_prog_25_method_1_code_37) rfl rfl ?_
    show Steps p.tables e below (T31.setTop (mkF m 38 #[.val (.ref a1), .val (.ref a2)] [(.ref a1)])) _
    exact st33 _ kk
  have c39 := (Nat.le_trans c35 E33.1)
  obtain ⟨_, _, ⟨T38, L38, k38, n38⟩, -, X38, ⟨Lc38, hQ38, l38, y38, z38⟩, st38⟩ := X33.specialBack hx (y := (⟨"java/util/HashMap", "<init>", "()V"⟩ : MethodName)) rfl hown (mvT hZ (hw _ (List.mem_of_getElem? (i := 90) rfl))) (mvT hZ (hw _ (List.mem_of_getElem? (i := 67) rfl))) (mvT hZ (hw _ (List.mem_of_getElem? (i := 68) rfl))) (by decide) (backOf (W := 2) (own_hm l Z a0 hw [] b33 h33 n0 c39 O33 lo_b33) hZ (hw _ (List.mem_of_getElem? (i := 68) rfl)) (hw _ (List.mem_of_getElem? (i := 65) rfl)) (by decide) (by decide)) (g := (mkF m 42 #[.val (.ref a1), .val (.ref a2)] [(.ref b33), (.ref b33), (.ref a1)])) rfl (by rw [hml]; rfl) (Steps.refl _) (a := b33) (argsL := []) (rest := [(.ref b33), (.ref a1)]) (lenOf pd___V rfl) rfl (by show 2 * 0 + _ ≤ _; exact Nat.le_of_eq rfl) (hb hby d_prog_25_method_1_code_42) (fun _ _ => ⟨rfl, e33, (by decide : 4 + 0 ≤ _), (by decide : 32 + 0 ≤ _)⟩)
  dsimp only [Pt.U, Pt.locs, Pt.cells, Pt.slots] at X38 l38 y38 z38 st38 hQ38
  subst l38 y38 z38
  obtain ⟨rfl, N38q, K38⟩ := hQ38
  have N38 := Fr.app N31 N38q
  have pre40 : ∀ t, Steps p.tables e below (T38.setTop (mkF m 45 #[.val (.ref a1), .val (.ref a2)] [(.ref b33), (.ref a1)])) t → Steps p.tables e below (s₁.setTop (entryFrame m #[(.ref a1), (.ref a2)] 2)) t := by
    intro t kk
    refine pre37 t ?_
    show Steps p.tables e below (T33.setTop (mkF m 41 #[.val (.ref a1), .val (.ref a2)] [(.ref b33), (.ref a1)])) _
    refine XS.dup X33.here hx rfl (hb hby d_prog_25_method_1_code_41) rfl rfl ?_
    show Steps p.tables e below (T33.setTop (mkF m 42 #[.val (.ref a1), .val (.ref a2)] [(.ref b33), (.ref b33), (.ref a1)])) _
    exact st38.trans kk
  have c41 := ((c34.ext E33).keep K38)
  obtain ⟨u42, U42⟩ := Obj.fld c41 (Or.inr (hw _ (List.mem_of_getElem? (i := 98) rfl))) (hw _ (List.mem_of_getElem? (i := 83) rfl))
  obtain ⟨T42, h42, X42, e42, W42, st42⟩ := putF X38 hx hZ hown (host := "") (Or.inl (hw _ (List.mem_of_getElem? (i := 97) rfl))) Via.refl rfl U42 c41.exa (Or.inr ⟨(hw _ (List.mem_of_getElem? (i := 98) rfl)), rfl, hnm⟩) (hw _ (List.mem_of_getElem? (i := 83) rfl)) (ty := (.object "java/util/Map")) (by decide) rfl rfl (g := (mkF m 45 #[.val (.ref a1), .val (.ref a2)] [(.ref b33), (.ref a1)])) rfl rfl (hb hby d_prog_25_method_1_code_45)
  have N42 := Fr.snoc X42 N38 g1
  have pre43 : ∀ t, Steps p.tables e below (T42.setTop (mkF m 48 #[.val (.ref a1), .val (.ref a2)] [])) t → Steps p.tables e below (s₁.setTop (entryFrame m #[(.ref a1), (.ref a2)] 2)) t := by
    intro t kk
    refine pre40 t ?_
    show Steps p.tables e below (T38.setTop (mkF m 45 #[.val (.ref a1), .val (.ref a2)] [(.ref b33), (.ref a1)])) _
    exact st42 _ kk
  obtain ⟨b44, g44⟩ : ∃ z, z = h42.size := ⟨_, rfl⟩
  have c45 := (c41.wr W42)
  have ne_a1_b44 : a1 ≠ b44 := Nat.ne_of_lt (Nat.lt_of_lt_of_le c45.lt (Nat.le_of_eq g44.symm))
  have c46 := (Nat.le_trans (Nat.le_trans c39 K38.1) (Keep.of_wr W42).1)
  have lo_b44 : n0 ≤ b44 := Nat.le_trans c46 (Nat.le_of_eq g44.symm)
  have c47 := (((c36.ext E33).trans K38 (allS (Or.inr hi_b33) all0)).wr W42 (Or.inl (List.mem_of_getElem? (i := 0) rfl)))
  have hi_b44 : h0.size ≤ b44 := Nat.le_trans c47.1 (Nat.le_of_eq g44.symm)
  obtain ⟨T44, h44, X44, e44, E44, A44, D44, B44, st44⟩ := newO X42 hx hZ hown (hw _ (List.mem_of_getElem? (i := 89) rfl)) (hw _ (List.mem_of_getElem? (i := 64) rfl)) (hw _ (List.mem_of_getElem? (i := 65) rfl)) e42 (g := (mkF m 49 #[.val (.ref a1), .val (.ref a2)] [(.ref a1)])) rfl (hb hby d_prog_25_method_1_code_49) (by decide) (by decide)
  rw [← g44] at A44 D44 B44 st44
  have O44 := Obj.of A44 B44
  have pre48 : ∀ t, Steps p.tables e below (T44.setTop (mkF m 52 #[.val (.ref a1), .val (.ref a2)] [(.ref b44), (.ref a1)])) t → Steps p.tables e below (s₁.setTop (entryFrame m #[(.ref a1), (.ref a2)] 2)) t := by
    intro t kk
    refine pre43 t ?_
    show Steps p.tables e below (T42.setTop (mkF m 48 #[.val (.ref a1), .val (.ref a2)] [])) _
    refine XS.aloadN X42.here hx rfl (hb hby d_prog_25_method_1_code_48) rfl rfl ?_
    show Steps p.tables e below (T42.setTop (mkF m 49 #[.val (.ref a1), .val (.ref a2)] [(.ref a1)])) _
    exact st44 _ kk
  have c50 := (Nat.le_trans c46 E44.1)
  obtain ⟨_, _, ⟨T49, L49, k49, n49⟩, -, X49, ⟨Lc49, hQ49, l49, y49, z49⟩, st49⟩ := X44.specialBack hx (y := (⟨"java/util/HashMap", "<init>", "()V"⟩ : MethodName)) rfl hown (mvT hZ (hw _ (List.mem_of_getElem? (i := 90) rfl))) (mvT hZ (hw _ (List.mem_of_getElem? (i := 67) rfl))) (mvT hZ (hw _ (List.mem_of_getElem? (i := 68) rfl))) (by decide) (backOf (W := 2) (own_hm l Z a0 hw [] b44 h44 n0 c50 O44 lo_b44) hZ (hw _ (List.mem_of_getElem? (i := 68) rfl)) (hw _ (List.mem_of_getElem? (i := 65) rfl)) (by decide) (by decide)) (g := (mkF m 53 #[.val (.ref a1), .val (.ref a2)] [(.ref b44), (.ref b44), (.ref a1)])) rfl (by rw [hml]; rfl) (Steps.refl _) (a := b44) (argsL := []) (rest := [(.ref b44), (.ref a1)]) (lenOf pd___V rfl) rfl (by show 2 * 0 + _ ≤ _; exact Nat.le_of_eq rfl) (hb hby d_prog_25_method_1_code_53) (fun _ _ => ⟨rfl, e44, (by decide : 5 + 0 ≤ _), (by decide : 40 + 0 ≤ _)⟩)
  dsimp only [Pt.U, Pt.locs, Pt.cells, Pt.slots] at X49 l49 y49 z49 st49 hQ49
  subst l49 y49 z49
  obtain ⟨rfl, N49q, K49⟩ := hQ49
  have N49 := Fr.app N42 N49q
  have pre51 : ∀ t, Steps p.tables e below (T49.setTop (mkF m 56 #[.val (.ref a1), .val (.ref a2)] [(.ref b44), (.ref a1)])) t → Steps p.tables e below (s₁.setTop (entryFrame m #[(.ref a1), (.ref a2)] 2)) t := by
    intro t kk
    refine pre48 t ?_
    show Steps p.tables e below (T44.setTop (mkF m 52 #[.val (.ref a1), .val (.ref a2)] [(.ref b44), (.ref a1)])) _
    refine XS.dup X44.here hx rfl (hb hby d_prog_25_method_1_code_52) rfl rfl ?_
    show Steps p.tables e below (T44.setTop (mkF m 53 #[.val (.ref a1), .val (.ref a2)] [(.ref b44), (.ref b44), (.ref a1)])) _
    exact st49.trans kk
  have c52 := ((c45.ext E44).keep K49)
  obtain ⟨u53, U53⟩ := Obj.fld c52 (Or.inr (hw _ (List.mem_of_getElem? (i := 100) rfl))) (hw _ (List.mem_of_getElem? (i := 83) rfl))
  obtain ⟨T53, h53, X53, e53, W53, st53⟩ := putF X49 hx hZ hown (host := "") (Or.inl (hw _ (List.mem_of_getElem? (i := 99) rfl))) Via.refl rfl U53 c52.exa (Or.inr ⟨(hw _ (List.mem_of_getElem? (i := 100) rfl)), rfl, hnm⟩) (hw _ (List.mem_of_getElem? (i := 83) rfl)) (ty := (.object "java/util/Map")) (by decide) rfl rfl (g := (mkF m 56 #[.val (.ref a1), .val (.ref a2)] [(.ref b44), (.ref a1)])) rfl rfl (hb hby d_prog_25_method_1_code_56)
  have N53 := Fr.snoc X53 N49 g1
  have pre54 : ∀ t, Steps p.tables e below (T53.setTop (mkF m 59 #[.val (.ref a1), .val (.ref a2)] [])) t → Steps p.tables e below (s₁.setTop (entryFrame m #[(.ref a1), (.ref a2)] 2)) t := by
    intro t kk
    refine pre51 t ?_
    show Steps p.tables e below (T49.setTop (mkF m 56 #[.val (.ref a1), .val (.ref a2)] [(.ref b44), (.ref a1)])) _
    exact st53 _ kk
  obtain ⟨b55, g55⟩ : ∃ z, z = h53.size := ⟨_, rfl⟩
  have c56 := (c52.wr W53)
  have ne_a1_b55 : a1 ≠ b55 := Nat.ne_of_lt (Nat.lt_of_lt_of_le c56.lt (Nat.le_of_eq g55.symm))
  have c57 := (Nat.le_trans (Nat.le_trans c50 K49.1) (Keep.of_wr W53).1)
  have lo_b55 : n0 ≤ b55 := Nat.le_trans c57 (Nat.le_of_eq g55.symm)
  have c58 := (((c47.ext E44).trans K49 (allS (Or.inr hi_b44) all0)).wr W53 (Or.inl (List.mem_of_getElem? (i := 0) rfl)))
  have hi_b55 : h0.size ≤ b55 := Nat.le_trans c58.1 (Nat.le_of_eq g55.symm)
  obtain ⟨T55, h55, X55, e55, E55, A55, D55, B55, st55⟩ := newO X53 hx hZ hown (hw _ (List.mem_of_getElem? (i := 89) rfl)) (hw _ (List.mem_of_getElem? (i := 64) rfl)) (hw _ (List.mem_of_getElem? (i := 65) rfl)) e53 (g := (mkF m 60 #[.val (.ref a1), .val (.ref a2)] [(.ref a1)])) rfl (hb hby d_prog_25_method_1_code_60) (by decide) (by decide)
  rw [← g55] at A55 D55 B55 st55
  have O55 := Obj.of A55 B55
  have pre59 : ∀ t, Steps p.tables e below (T55.setTop (mkF m 63 #[.val (.ref a1), .val (.ref a2)] [(.ref b55), (.ref a1)])) t → Steps p.tables e below (s₁.setTop (entryFrame m #[(.ref a1), (.ref a2)] 2)) t := by
    intro t kk
    refine pre54 t ?_
    show Steps p.tables e below (T53.setTop (mkF m 59 #[.val (.ref a1), .val (.ref a2)] [])) _
    refine XS.aloadN X53.here hx rfl (hb hby d_prog_25_method_1_code_59) rfl rfl ?_
    show Steps p.tables e below (T53.setTop (mkF m 60 #[.val (.ref a1), .val (.ref a2)] [(.ref a1)])) _
    exact st55 _ kk
  have c61 := (Nat.le_trans c57 E55.1)
  obtain ⟨_, _, ⟨T60, L60, k60, n60⟩, -, X60, ⟨Lc60, hQ60, l60, y60, z60⟩, st60⟩ := X55.specialBack hx (y := (⟨"java/util/HashMap", "<init>", "()V"⟩ : MethodName)) rfl hown (mvT hZ (hw _ (List.mem_of_getElem? (i := 90) rfl))) (mvT hZ (hw _ (List.mem_of_getElem? (i := 67) rfl))) (mvT hZ (hw _ (List.mem_of_getElem? (i := 68) rfl))) (by decide) (backOf (W := 2) (own_hm l Z a0 hw [] b55 h55 n0 c61 O55 lo_b55) hZ (hw _ (List.mem_of_getElem? (i := 68) rfl)) (hw _ (List.mem_of_getElem? (i := 65) rfl)) (by decide) (by decide)) (g := (mkF m 64 #[.val (.ref a1), .val (.ref a2)] [(.ref b55), (.ref b55), (.ref a1)])) rfl (by rw [hml]; rfl) (Steps.refl _) (a := b55) (argsL := []) (rest := [(.ref b55), (.ref a1)]) (lenOf pd___V rfl) rfl (by show 2 * 0 + _ ≤ _; exact Nat.le_of_eq rfl) (hb hby d_prog_25_method_1_code_64) (fun _ _ => ⟨rfl, e55, (by decide : 6 + 0 ≤ _), (by decide : 48 + 0 ≤ _)⟩)
  dsimp only [Pt.U, Pt.locs, Pt.cells, Pt.slots] at X60 l60 y60 z60 st60 hQ60
  subst l60 y60 z60
  obtain ⟨rfl, N60q, K60⟩ := hQ60
  have N60 := Fr.app N53 N60q
  have pre62 : ∀ t, Steps p.tables e below (T60.setTop (mkF m 67 #[.val (.ref a1), .val (.ref a2)] [(.ref b55), (.ref a1)])) t → Steps p.tables e below (s₁.setTop (entryFrame m #[(.ref a1), (.ref a2)] 2)) t := by
    intro t kk
    refine pre59 t ?_
    show Steps p.tables e below (T55.setTop (mkF m 63 #[.val (.ref a1), .val (.ref a2)] [(.ref b55), (.ref a1)])) _
    refine XS.dup X55.here hx rfl (hb hby d_prog_25_method_1_code_63) rfl rfl ?_
    show Steps p.tables e below (T55.setTop (mkF m 64 #[.val (.ref a1), .val (.ref a2)] [(.ref b55), (.ref b55), (.ref a1)])) _
    exact st60.trans kk
  have c63 := ((c56.ext E55).keep K60)
  obtain ⟨u64, U64⟩ := Obj.fld c63 (Or.inr (hw _ (List.mem_of_getElem? (i := 102) rfl))) (hw _ (List.mem_of_getElem? (i := 83) rfl))
  obtain ⟨T64, h64, X64, e64, W64, st64⟩ := putF X60 hx hZ hown (host := "") (Or.inl (hw _ (List.mem_of_getElem? (i := 101) rfl))) Via.refl rfl U64 c63.exa (Or.inr ⟨(hw _ (List.mem_of_getElem? (i := 102) rfl)), rfl, hnm⟩) (hw _ (List.mem_of_getElem? (i := 83) rfl)) (ty := (.object "java/util/Map")) (by decide) rfl rfl (g := (mkF m 67 #[.val (.ref a1), .val (.ref a2)] [(.ref b55), (.ref a1)])) rfl rfl (hb hby d_prog_25_method_1_code_67)
  have N64 := Fr.snoc X64 N60 g1
  have pre65 : ∀ t, Steps p.tables e below (T64.setTop (mkF m 70 #[.val (.ref a1), .val (.ref a2)] [])) t → Steps p.tables e below (s₁.setTop (entryFrame m #[(.ref a1), (.ref a2)] 2)) t := by
    intro t kk
    refine pre62 t ?_
    show Steps p.tables e below (T60.setTop (mkF m 67 #[.val (.ref a1), .val (.ref a2)] [(.ref b55), (.ref a1)])) _
    exact st64 _ kk
  obtain ⟨b66, g66⟩ : ∃ z, z = h64.size := ⟨_, rfl⟩
  have c67 := (c63.wr W64)
  have ne_a1_b66 : a1 ≠ b66 := Nat.ne_of_lt (Nat.lt_of_lt_of_le c67.lt (Nat.le_of_eq g66.symm))
  have c68 := (Nat.le_trans (Nat.le_trans c61 K60.1) (Keep.of_wr W64).1)
  have lo_b66 : n0 ≤ b66 := Nat.le_trans c68 (Nat.le_of_eq g66.symm)
  have c69 := (((c58.ext E55).trans K60 (allS (Or.inr hi_b55) all0)).wr W64 (Or.inl (List.mem_of_getElem? (i := 0) rfl)))
  have hi_b66 : h0.size ≤ b66 := Nat.le_trans c69.1 (Nat.le_of_eq g66.symm)
  obtain ⟨T66, h66, X66, e66, E66, A66, D66, B66, st66⟩ := newO X64 hx hZ hown (hw _ (List.mem_of_getElem? (i := 89) rfl)) (hw _ (List.mem_of_getElem? (i := 64) rfl)) (hw _ (List.mem_of_getElem? (i := 65) rfl)) e64 (g := (mkF m 71 #[.val (.ref a1), .val (.ref a2)] [(.ref a1)])) rfl (hb hby d_prog_25_method_1_code_71) (by decide) (by decide)
  rw [← g66] at A66 D66 B66 st66
  have O66 := Obj.of A66 B66
  have pre70 : ∀ t, Steps p.tables e below (T66.setTop (mkF m 74 #[.val (.ref a1), .val (.ref a2)] [(.ref b66), (.ref a1)])) t → Steps p.tables e below (s₁.setTop (entryFrame m #[(.ref a1), (.ref a2)] 2)) t := by
    intro t kk
    refine pre65 t ?_
    show Steps p.tables e below (T64.setTop (mkF m 70 #[.val (.ref a1), .val (.ref a2)] [])) _
    refine XS.aloadN X64.here hx rfl (hb hby d_prog_25_method_1_code_70) rfl rfl ?_
    show Steps p.tables e below (T64.setTop (mkF m 71 #[.val (.ref a1), .val (.ref a2)] [(.ref a1)])) _
    exact st66 _ kk
  have c72 := (Nat.le_trans c68 E66.1)
  obtain ⟨_, _, ⟨T71, L71, k71, n71⟩, -, X71, ⟨Lc71, hQ71, l71, y71, z71⟩, st71⟩ := X66.specialBack hx (y := (⟨"java/util/HashMap", "<init>", "()V"⟩ : MethodName)) rfl hown (mvT hZ (hw _ (List.mem_of_getElem? (i := 90) rfl))) (mvT hZ (hw _ (List.mem_of_getElem? (i := 67) rfl))) (mvT hZ (hw _ (List.mem_of_getElem? (i := 68) rfl))) (by decide) (backOf (W := 2) (own_hm l Z a0 hw [] b66 h66 n0 c72 O66 lo_b66) hZ (hw _ (List.mem_of_getElem? (i := 68) rfl)) (hw _ (List.mem_of_getElem? (i := 65) rfl)) (by decide) (by decide)) (g := (mkF m 75 #[.val (.ref a1), .val (.ref a2)] [(.ref b66), (.ref b66), (.ref a1)])) rfl (by rw [hml]; rfl) (Steps.refl _) (a := b66) (argsL := []) (rest := [(.ref b66), (.ref a1)]) (lenOf pd___V rfl) rfl (by show 2 * 0 + _ ≤ _; exact Nat.le_of_eq rfl) (hb hby d_prog_25_method_1_code_75) (fun _ _ => ⟨rfl, e66, (by decide : 7 + 0 ≤ _), (by decide : 56 + 0 ≤ _)⟩)
  dsimp only [Pt.U, Pt.locs, Pt.cells, Pt.slots] at X71 l71 y71 z71 st71 hQ71
  subst l71 y71 z71
  obtain ⟨rfl, N71q, K71⟩ := hQ71
  have N71 := Fr.app N64 N71q
  have pre73 : ∀ t, Steps p.tables e below (T71.setTop (mkF m 78 #[.val (.ref a1), .val (.ref a2)] [(.ref b66), (.ref a1)])) t → Steps p.tables e below (s₁.setTop (entryFrame m #[(.ref a1), (.ref a2)] 2)) t := by
    intro t kk
    refine pre70 t ?_
    show Steps p.tables e below (T66.setTop (mkF m 74 #[.val (.ref a1), .val (.ref a2)] [(.ref b66), (.ref a1)])) _
    refine XS.dup X66.here hx rfl (hb hby d_prog_25_method_1_code_74) rfl rfl ?_
    show Steps p.tables e below (T66.setTop (mkF m 75 #[.val (.ref a1), .val (.ref a2)] [(.ref b66), (.ref b66), (.ref a1)])) _
    exact st71.trans kk
  have c74 := ((c67.ext E66).keep K71)
  obtain ⟨u75, U75⟩ := Obj.fld c74 (Or.inr (hw _ (List.mem_of_getElem? (i := 104) rfl))) (hw _ (List.mem_of_getElem? (i := 83) rfl))
  obtain ⟨T75, h75, X75, e75, W75, st75⟩ := putF X71 hx hZ hown (host := "") (Or.inl (hw _ (List.mem_of_getElem? (i := 103) rfl))) Via.refl rfl U75 c74.exa (Or.inr ⟨(hw _ (List.mem_of_getElem? (i := 104) rfl)), rfl, hnm⟩) (hw _ (List.mem_of_getElem? (i := 83) rfl)) (ty := (.object "java/util/Map")) (by decide) rfl rfl (g := (mkF m 78 #[.val (.ref a1), .val (.ref a2)] [(.ref b66), (.ref a1)])) rfl rfl (hb hby d_prog_25_method_1_code_78)
  have N75 := Fr.snoc X75 N71 g1
  have pre76 : ∀ t, Steps p.tables e below (T75.setTop (mkF m 81 #[.val (.ref a1), .val (.ref a2)] [])) t → Steps p.tables e below (s₁.setTop (entryFrame m #[(.ref a1), (.ref a2)] 2)) t := by
    intro t kk
    refine pre73 t ?_
    show Steps p.tables e below (T71.setTop (mkF m 78 #[.val (.ref a1), .val (.ref a2)] [(.ref b66), (.ref a1)])) _
    exact st75 _ kk
  have c77 := (c74.wr W75)
  obtain ⟨u78, U78⟩ := Obj.fld c77 (Or.inr (hw _ (List.mem_of_getElem? (i := 106) rfl))) (hw _ (List.mem_of_getElem? (i := 83) rfl))
  obtain ⟨T78, h78, X78, e78, W78, st78⟩ := putF X75 hx hZ hown (host := "") (Or.inl (hw _ (List.mem_of_getElem? (i := 105) rfl))) Via.refl e75 U78 c77.exa (Or.inr ⟨(hw _ (List.mem_of_getElem? (i := 106) rfl)), rfl, hnm⟩) (hw _ (List.mem_of_getElem? (i := 83) rfl)) (ty := (.object "java/lang/String")) (by decide) rfl rfl (g := (mkF m 83 #[.val (.ref a1), .val (.ref a2)] [(.ref a2), (.ref a1)])) rfl rfl (hb hby d_prog_25_method_1_code_83)
  have N78 := Fr.snoc X78 N75 g1
  have pre79 : ∀ t, Steps p.tables e below (T78.setTop (mkF m 86 #[.val (.ref a1), .val (.ref a2)] [])) t → Steps p.tables e below (s₁.setTop (entryFrame m #[(.ref a1), (.ref a2)] 2)) t := by
    intro t kk
    refine pre76 t ?_
    show Steps p.tables e below (T75.setTop (mkF m 81 #[.val (.ref a1), .val (.ref a2)] [])) _
    refine XS.aloadN X75.here hx rfl (hb hby d_prog_25_method_1_code_81) rfl rfl ?_
    show Steps p.tables e below (T75.setTop (mkF m 82 #[.val (.ref a1), .val (.ref a2)] [(.ref a1)])) _
    refine XS.aloadN X75.here hx rfl (hb hby d_prog_25_method_1_code_82) rfl rfl ?_
    show Steps p.tables e below (T75.setTop (mkF m 83 #[.val (.ref a1), .val (.ref a2)] [(.ref a2), (.ref a1)])) _
    exact st78 _ kk
  have c80 := ((((c69.ext E66).trans K71 (allS (Or.inr hi_b66) all0)).wr W75 (Or.inl (List.mem_of_getElem? (i := 0) rfl))).wr W78 (Or.inl (List.mem_of_getElem? (i := 0) rfl)))
  obtain ⟨fs, hr, hrun, hended, hW, hsame⟩ := X78.leave (v := none) (fun _ => rfl)
  refine ⟨_, _, pre79 _ ?_, hrun, hended, _, _, rfl, ?_, ⟨_, rfl⟩, hW, hsame.mono (by decide) (by decide)⟩
  · show Steps p.tables e below (T78.setTop (mkF m 86 #[.val (.ref a1), .val (.ref a2)] [])) _
    exact X78.returnOut hx Bd.returns (hb hby d_prog_25_method_1_code_86) hr
  · show Q_own_rep Z a1 a2 h0 n0 _ T78.heap _
    rw [e78]
    exact ⟨rfl, N78, c80⟩
theorem pn_java_util_List : plainName "java/util/List" = true := by first | (simp [plainName, overriddenIn]; done) | decide +kernel
theorem d_jdk_40_method_36_code_0 : decode jdk_40_method_36_code 0 = .ok (.getstatic 90, 3) := by decide +kernel
theorem d_jdk_40_method_36_code_3 : decode jdk_40_method_36_code 3 = .ok (.areturn, 1) := by decide +kernel
theorem ef_own_lof (m : MethodId)  : entryFrame m #[] 0 = mkF m 0 #[] [] := by first | (simp [entryFrame, mkF, argsToLocals, Value.category]; done) | rfl
def Q_own_lof (Z : State) (r : Addr) (h0 : Heap) (n0 : Nat) (v : Option Value) (h : Heap) (L : List Loc) : Prop := v = some (.ref r) ∧ Fr n0 L ∧ h = h0
set_option maxRecDepth 65536 in
set_option maxHeartbeats 40000000 in
theorem own_lof (l : Launch) (Z : State) (a0 : Array Value) (hw : ∀ d ∈ tables_1, d.before a0 Z = true) (ws : List Jvm.Cond) (r : Addr) (h0 : Heap) (n0 : Nat) (Z0 : n0 ≤ h0.size) (S1 : Sta Z Z.heap "java/util/ImmutableCollections" "EMPTY_LIST" "Ljava/util/ImmutableCollections$ListN;" (.ref r)) (XO : Old Z n0 h0) :
    MetFree l (⟨"java/util/List", "of", "()Ljava/util/List;"⟩ : MethodName) (head1 (Jvm.Cond.code (⟨"java/util/List", "of", "()Ljava/util/List;"⟩ : MethodName) jdk_40_method_36_code 0 (some (.object "java/util/List")) :: ws) ({ frames := 0, cells := 0, slots := 0, locals := 0 } : Room)) (fun a U => a = #[] ∧ Z.Warmed39 U.vm ∧ U.heap = h0) (fun _ _ _ _ _ => True) (fun _ U o U' => ∃ v L, o = .returned v ∧ Q_own_lof Z r h0 n0 v U'.heap L ∧ FrameEnd U o U' L ({ frames := 0, cells := 0, slots := 0, locals := 0 } : Room).cells ({ frames := 0, cells := 0, slots := 0, locals := 0 } : Room).slots) := by
  refine MetFree.of_bodySF (plainFor_of_name pn_java_util_List) hisR ?_
  intro p e s m args below meth c s₁ Bd hml0 hP hK
  obtain ⟨rfl, hZ, hh⟩ := hP
  have hx := Bd.exec
  have hby := Bd.bytes
  have hml : c.maxLocals = 0 := hml0
  have hown : s.vm.findClass "java/util/List" = some m.cls := findClass_of_methodNamed Bd.named
  have hnm := (name_of_methodNamed Bd.named Bd.method).1
  have X0 : Stand p l e ({ frames := 0, cells := 0, slots := 0, locals := 0 } : Room) s m #[] below meth c s₁ [] 0 0 := Stand.of_body Bd
  have e0 : s₁.heap = h0 := by rw [← hh, Bd.state]; rfl
  have N0 := Fr.nil n0
  have pre0 : ∀ t, Steps p.tables e below (s₁.setTop (mkF m 0 #[] [])) t → Steps p.tables e below (s₁.setTop (entryFrame m #[] 0)) t := fun t k => castTop (ef_own_lof m) k
  obtain ⟨T1, X1, e1, st1⟩ := getS2 X0 hx hZ hown (host := "") (Or.inl (hw _ (List.mem_of_getElem? (i := 38) rfl))) Via.refl e0 (S1.ext XO.2) (g := (mkF m 0 #[] [])) rfl (hb hby d_jdk_40_method_36_code_0)
  have pre2 : ∀ t, Steps p.tables e below (T1.setTop (mkF m 3 #[] [(.ref r)])) t → Steps p.tables e below (s₁.setTop (entryFrame m #[] 0)) t := by
    intro t kk
    refine pre0 t ?_
    show Steps p.tables e below (s₁.setTop (mkF m 0 #[] [])) _
    exact st1 _ kk
  obtain ⟨fs, hr, hrun, hended, hW, hsame⟩ := X1.leave (v := some (.ref r)) (fun h => by rw [Bd.returns] at h; cases h)
  refine ⟨_, _, pre2 _ ?_, hrun, hended, _, _, rfl, ?_, ⟨_, rfl⟩, hW, hsame.mono (by decide) (by decide)⟩
  · show Steps p.tables e below (T1.setTop (mkF m 3 #[] [(.ref r)])) _
    jvm_step X1.here [X1.here.top, hx, (hb hby d_jdk_40_method_36_code_3), X1.method', Bd.returns, Value.isRef, FieldType.isReference]
    first | (intro acts; rw [hr _ acts rfl rfl rfl]) | rw [hr _ _ rfl rfl rfl]
    exact Steps.refl _
  · show Q_own_lof Z r h0 n0 _ T1.heap _
    rw [e1]
    exact ⟨rfl, N0, rfl⟩
theorem pn_coterie_causal_Group : plainName "coterie/causal/Group" = true := by first | (simp [plainName, overriddenIn]; done) | decide +kernel
theorem d_prog_23_method_1_code_0 : decode prog_23_method_1_code 0 = .ok (.aload_n 0, 1) := by decide +kernel
theorem d_prog_23_method_1_code_1 : decode prog_23_method_1_code 1 = .ok (.invokespecial 1, 3) := by decide +kernel
theorem d_prog_23_method_1_code_4 : decode prog_23_method_1_code 4 = .ok (.aload_n 0, 1) := by decide +kernel
theorem pd___Ljava_util_List_ : parseMethodDescriptor "()Ljava/util/List;" = some ⟨[], some (.object "java/util/List")⟩ := by decide +kernel
theorem d_prog_23_method_1_code_5 : decode prog_23_method_1_code 5 = .ok (.invokestatic 7, 3) := by decide +kernel
theorem d_prog_23_method_1_code_8 : decode prog_23_method_1_code 8 = .ok (.putfield 13, 3) := by decide +kernel
theorem d_prog_23_method_1_code_11 : decode prog_23_method_1_code 11 = .ok (.aload_n 0, 1) := by decide +kernel
theorem d_prog_23_method_1_code_12 : decode prog_23_method_1_code 12 = .ok (.new 19, 3) := by decide +kernel
theorem d_prog_23_method_1_code_15 : decode prog_23_method_1_code 15 = .ok (.dup, 1) := by decide +kernel
theorem d_prog_23_method_1_code_16 : decode prog_23_method_1_code 16 = .ok (.invokespecial 21, 3) := by decide +kernel
theorem d_prog_23_method_1_code_19 : decode prog_23_method_1_code 19 = .ok (.putfield 22, 3) := by decide +kernel
theorem d_prog_23_method_1_code_22 : decode prog_23_method_1_code 22 = .ok (.aload_n 0, 1) := by decide +kernel
theorem d_prog_23_method_1_code_23 : decode prog_23_method_1_code 23 = .ok (.new 26, 3) := by decide +kernel
theorem d_prog_23_method_1_code_26 : decode prog_23_method_1_code 26 = .ok (.dup, 1) := by decide +kernel
theorem d_prog_23_method_1_code_27 : decode prog_23_method_1_code 27 = .ok (.invokespecial 28, 3) := by decide +kernel
theorem d_prog_23_method_1_code_30 : decode prog_23_method_1_code 30 = .ok (.putfield 29, 3) := by decide +kernel
theorem d_prog_23_method_1_code_33 : decode prog_23_method_1_code 33 = .ok (.aload_n 0, 1) := by decide +kernel
theorem d_prog_23_method_1_code_34 : decode prog_23_method_1_code 34 = .ok (.new 26, 3) := by decide +kernel
theorem d_prog_23_method_1_code_37 : decode prog_23_method_1_code 37 = .ok (.dup, 1) := by decide +kernel
theorem d_prog_23_method_1_code_38 : decode prog_23_method_1_code 38 = .ok (.invokespecial 28, 3) := by decide +kernel
theorem d_prog_23_method_1_code_41 : decode prog_23_method_1_code 41 = .ok (.putfield 33, 3) := by decide +kernel
theorem d_prog_23_method_1_code_44 : decode prog_23_method_1_code 44 = .ok (.aload_n 0, 1) := by decide +kernel
theorem d_prog_23_method_1_code_45 : decode prog_23_method_1_code 45 = .ok (.aload_n 1, 1) := by decide +kernel
theorem d_prog_23_method_1_code_46 : decode prog_23_method_1_code 46 = .ok (.putfield 36, 3) := by decide +kernel
theorem d_prog_23_method_1_code_49 : decode prog_23_method_1_code 49 = .ok (.aload_n 0, 1) := by decide +kernel
theorem d_prog_23_method_1_code_50 : decode prog_23_method_1_code 50 = .ok (.aload_n 2, 1) := by decide +kernel
theorem d_prog_23_method_1_code_51 : decode prog_23_method_1_code 51 = .ok (.putfield 40, 3) := by decide +kernel
theorem d_prog_23_method_1_code_54 : decode prog_23_method_1_code 54 = .ok (.aload_n 0, 1) := by decide +kernel
theorem d_prog_23_method_1_code_55 : decode prog_23_method_1_code 55 = .ok (.new 43, 3) := by decide +kernel
theorem d_prog_23_method_1_code_58 : decode prog_23_method_1_code 58 = .ok (.dup, 1) := by decide +kernel
theorem d_prog_23_method_1_code_59 : decode prog_23_method_1_code 59 = .ok (.aload_n 2, 1) := by decide +kernel
theorem pd__Ljava_lang_String__V : parseMethodDescriptor "(Ljava/lang/String;)V" = some ⟨[(.object "java/lang/String")], none⟩ := by decide +kernel
theorem d_prog_23_method_1_code_60 : decode prog_23_method_1_code 60 = .ok (.invokespecial 45, 3) := by decide +kernel
theorem d_prog_23_method_1_code_63 : decode prog_23_method_1_code 63 = .ok (.putfield 48, 3) := by decide +kernel
theorem d_prog_23_method_1_code_66 : decode prog_23_method_1_code 66 = .ok (.return_, 1) := by decide +kernel
theorem ef_own_grp (m : MethodId) {a1 : Addr} {a2 : Addr} {a3 : Addr} : entryFrame m #[(.ref a1), (.ref a2), (.ref a3)] 3 = mkF m 0 #[.val (.ref a1), .val (.ref a2), .val (.ref a3)] [] := by first | (simp [entryFrame, mkF, argsToLocals, Value.category]; done) | rfl
def Q_own_grp (Z : State) (a1 a2 a3 r : Addr) (f0 : Int32) (h0 : Heap) (n0 : Nat) (v : Option Value) (h : Heap) (L : List Loc) : Prop := v = none ∧ Fr n0 L ∧ Keep h0 h [a1] ∧ Fld Z h a1 "coterie/causal/Group" "flushing" "I" (.int f0)
set_option maxRecDepth 65536 in
set_option maxHeartbeats 40000000 in
theorem own_grp (l : Launch) (Z : State) (a0 : Array Value) (hw : ∀ d ∈ tables_1, d.before a0 Z = true) (ws : List Jvm.Cond) (a1 a2 a3 r : Addr) (f0 : Int32) (h0 : Heap) (n0 : Nat) (Z0 : n0 ≤ h0.size) (O1 : Obj Z h0 a1 "coterie/causal/Group") (g1 : n0 ≤ a1) (S1 : Sta Z Z.heap "java/util/ImmutableCollections" "EMPTY_LIST" "Ljava/util/ImmutableCollections$ListN;" (.ref r)) (XO : Old Z n0 h0) (F_flushing : Fld Z h0 a1 "coterie/causal/Group" "flushing" "I" (.int f0)) :
    MetFree l (⟨"coterie/causal/Group", "<init>", "(Ljava/lang/String;Ljava/lang/String;)V"⟩ : MethodName) (head1 (Jvm.Cond.code (⟨"coterie/causal/Group", "<init>", "(Ljava/lang/String;Ljava/lang/String;)V"⟩ : MethodName) prog_23_method_1_code 3 none :: ws) ({ frames := 4, cells := 11, slots := 94, locals := 54 } : Room)) (fun a U => a = #[(.ref a1), (.ref a2), (.ref a3)] ∧ Z.Warmed39 U.vm ∧ U.heap = h0) (fun _ _ _ _ _ => True) (fun _ U o U' => ∃ v L, o = .returned v ∧ Q_own_grp Z a1 a2 a3 r f0 h0 n0 v U'.heap L ∧ FrameEnd U o U' L ({ frames := 4, cells := 11, slots := 94, locals := 54 } : Room).cells ({ frames := 4, cells := 11, slots := 94, locals := 54 } : Room).slots) := by
  refine MetFree.of_bodySF (plainFor_of_name pn_coterie_causal_Group) hisR ?_
  intro p e s m args below meth c s₁ Bd hml0 hP hK
  obtain ⟨rfl, hZ, hh⟩ := hP
  have hx := Bd.exec
  have hby := Bd.bytes
  have hml : c.maxLocals = 3 := hml0
  have hown : s.vm.findClass "coterie/causal/Group" = some m.cls := findClass_of_methodNamed Bd.named
  have hnm := (name_of_methodNamed Bd.named Bd.method).1
  have X0 : Stand p l e ({ frames := 4, cells := 11, slots := 94, locals := 54 } : Room) s m #[(.ref a1), (.ref a2), (.ref a3)] below meth c s₁ [] 0 0 := Stand.of_body Bd
  have e0 : s₁.heap = h0 := by rw [← hh, Bd.state]; rfl
  have N0 := Fr.nil n0
  have pre0 : ∀ t, Steps p.tables e below (s₁.setTop (mkF m 0 #[.val (.ref a1), .val (.ref a2), .val (.ref a3)] [])) t → Steps p.tables e below (s₁.setTop (entryFrame m #[(.ref a1), (.ref a2), (.ref a3)] 3)) t := fun t k => castTop (ef_own_grp m) k
  obtain ⟨T1, X1, e1, st1⟩ := initO X0 hx hZ hown (hw _ (List.mem_of_getElem? (i := 33) rfl)) (hw _ (List.mem_of_getElem? (i := 21) rfl)) (hw _ (List.mem_of_getElem? (i := 22) rfl)) e0 (g := (mkF m 1 #[.val (.ref a1), .val (.ref a2), .val (.ref a3)] [(.ref a1)])) rfl (by rw [hml]; rfl) rfl (hb hby d_prog_23_method_1_code_1) (by decide) (W := 0) (by show 2 * 0 + _ ≤ _; exact Nat.le_of_eq rfl) (by decide)
  have pre2 : ∀ t, Steps p.tables e below (T1.setTop (mkF m 4 #[.val (.ref a1), .val (.ref a2), .val (.ref a3)] [])) t → Steps p.tables e below (s₁.setTop (entryFrame m #[(.ref a1), (.ref a2), (.ref a3)] 3)) t := by
    intro t kk
    refine pre0 t ?_
    show Steps p.tables e below (s₁.setTop (mkF m 0 #[.val (.ref a1), .val (.ref a2), .val (.ref a3)] [])) _
    refine XS.aloadN X0.here hx rfl (hb hby d_prog_23_method_1_code_0) rfl rfl ?_
    show Steps p.tables e below (s₁.setTop (mkF m 1 #[.val (.ref a1), .val (.ref a2), .val (.ref a3)] [(.ref a1)])) _
    exact st1 _ kk
  obtain ⟨_, _, ⟨T3, L3, k3, n3⟩, -, X3, ⟨Lc3, hQ3, l3, y3, z3⟩, st3⟩ := Jvm.LawKit.callS X1 hx (y := (⟨"java/util/List", "of", "()Ljava/util/List;"⟩ : MethodName)) hown (mvT hZ (hw _ (List.mem_of_getElem? (i := 34) rfl))) (mvT hZ (hw _ (List.mem_of_getElem? (i := 35) rfl))) (mvT hZ (hw _ (List.mem_of_getElem? (i := 36) rfl))) (mvT hZ (hw _ (List.mem_of_getElem? (i := 37) rfl))) (by decide) (backOf (W := 1) (own_lof l Z a0 hw [] r h0 n0 Z0 S1 XO) hZ (hw _ (List.mem_of_getElem? (i := 37) rfl)) (hw _ (List.mem_of_getElem? (i := 36) rfl)) (by decide) (by decide)) (g := (mkF m 5 #[.val (.ref a1), .val (.ref a2), .val (.ref a3)] [(.ref a1)])) rfl (by rw [hml]; rfl) (argsL := []) (rest := [(.ref a1)]) (lenOf pd___Ljava_util_List_ rfl) rfl (by show 2 * 0 + _ ≤ _; exact Nat.le_of_eq rfl) (hb hby d_prog_23_method_1_code_5) (fun _ _ => ⟨rfl, e1, (by decide : 0 + 0 ≤ _), (by decide : 0 + 0 ≤ _)⟩)
  dsimp only [Pt.U, Pt.locs, Pt.cells, Pt.slots] at X3 l3 y3 z3 st3 hQ3
  subst l3 y3 z3
  obtain ⟨rfl, N3q, e3q⟩ := hQ3
  have N3 := Fr.app N0 N3q
  have pre4 : ∀ t, Steps p.tables e below (T3.setTop (mkF m 8 #[.val (.ref a1), .val (.ref a2), .val (.ref a3)] [(.ref r), (.ref a1)])) t → Steps p.tables e below (s₁.setTop (entryFrame m #[(.ref a1), (.ref a2), (.ref a3)] 3)) t := by
    intro t kk
    refine pre2 t ?_
    show Steps p.tables e below (T1.setTop (mkF m 4 #[.val (.ref a1), .val (.ref a2), .val (.ref a3)] [])) _
    refine XS.aloadN X1.here hx rfl (hb hby d_prog_23_method_1_code_4) rfl rfl ?_
    show Steps p.tables e below (T1.setTop (mkF m 5 #[.val (.ref a1), .val (.ref a2), .val (.ref a3)] [(.ref a1)])) _
    exact st3 _ kk
  obtain ⟨u5, U5⟩ := Obj.fld O1 (Or.inl (hw _ (List.mem_of_getElem? (i := 41) rfl))) (hw _ (List.mem_of_getElem? (i := 28) rfl))
  obtain ⟨T5, h5, X5, e5, W5, st5⟩ := putF X3 hx hZ hown (host := "") (Or.inl (hw _ (List.mem_of_getElem? (i := 40) rfl))) Via.refl e3q U5 O1.exa (Or.inl (hw _ (List.mem_of_getElem? (i := 41) rfl))) (hw _ (List.mem_of_getElem? (i := 28) rfl)) (ty := (.object "java/util/List")) (by decide) rfl rfl (g := (mkF m 8 #[.val (.ref a1), .val (.ref a2), .val (.ref a3)] [(.ref r), (.ref a1)])) rfl rfl (hb hby d_prog_23_method_1_code_8)
  have N5 := Fr.snoc X5 N3 g1
  have pre6 : ∀ t, Steps p.tables e below (T5.setTop (mkF m 11 #[.val (.ref a1), .val (.ref a2), .val (.ref a3)] [])) t → Steps p.tables e below (s₁.setTop (entryFrame m #[(.ref a1), (.ref a2), (.ref a3)] 3)) t := by
    intro t kk
    refine pre4 t ?_
    show Steps p.tables e below (T3.setTop (mkF m 8 #[.val (.ref a1), .val (.ref a2), .val (.ref a3)] [(.ref r), (.ref a1)])) _
    exact st5 _ kk
  obtain ⟨b7, g7⟩ : ∃ z, z = h5.size := ⟨_, rfl⟩
  have c8 := (O1.wr W5)
  have ne_a1_b7 : a1 ≠ b7 := Nat.ne_of_lt (Nat.lt_of_lt_of_le c8.lt (Nat.le_of_eq g7.symm))
  have c9 := (Nat.le_trans Z0 (Keep.of_wr W5).1)
  have lo_b7 : n0 ≤ b7 := Nat.le_trans c9 (Nat.le_of_eq g7.symm)
  have c10 := ((Keep.refl h0 [a1]).wr W5 (Or.inl (List.mem_of_getElem? (i := 0) rfl)))
  have hi_b7 : h0.size ≤ b7 := Nat.le_trans c10.1 (Nat.le_of_eq g7.symm)
  obtain ⟨T7, h7, X7, e7, E7, A7, D7, B7, st7⟩ := newO X5 hx hZ hown (hw _ (List.mem_of_getElem? (i := 42) rfl)) (hw _ (List.mem_of_getElem? (i := 43) rfl)) (hw _ (List.mem_of_getElem? (i := 44) rfl)) e5 (g := (mkF m 12 #[.val (.ref a1), .val (.ref a2), .val (.ref a3)] [(.ref a1)])) rfl (hb hby d_prog_23_method_1_code_12) (by decide) (by decide)
  rw [← g7] at A7 D7 B7 st7
  have O7 := Obj.of A7 B7
  have pre11 : ∀ t, Steps p.tables e below (T7.setTop (mkF m 15 #[.val (.ref a1), .val (.ref a2), .val (.ref a3)] [(.ref b7), (.ref a1)])) t → Steps p.tables e below (s₁.setTop (entryFrame m #[(.ref a1), (.ref a2), (.ref a3)] 3)) t := by
    intro t kk
    refine pre6 t ?_
    show Steps p.tables e below (T5.setTop (mkF m 11 #[.val (.ref a1), .val (.ref a2), .val (.ref a3)] [])) _
    refine XS.aloadN X5.here hx rfl (hb hby d_prog_23_method_1_code_11) rfl rfl ?_
    show Steps p.tables e below (T5.setTop (mkF m 12 #[.val (.ref a1), .val (.ref a2), .val (.ref a3)] [(.ref a1)])) _
    exact st7 _ kk
  have c13 := (Nat.le_trans c9 E7.1)
  obtain ⟨_, _, ⟨T12, L12, k12, n12⟩, -, X12, ⟨Lc12, hQ12, l12, y12, z12⟩, st12⟩ := X7.specialBack hx (y := (⟨"java/util/TreeMap", "<init>", "()V"⟩ : MethodName)) rfl hown (mvT hZ (hw _ (List.mem_of_getElem? (i := 45) rfl))) (mvT hZ (hw _ (List.mem_of_getElem? (i := 46) rfl))) (mvT hZ (hw _ (List.mem_of_getElem? (i := 47) rfl))) (by decide) (backOf (W := 2) (own_tm l Z a0 hw [] b7 h7 n0 c13 O7 lo_b7) hZ (hw _ (List.mem_of_getElem? (i := 47) rfl)) (hw _ (List.mem_of_getElem? (i := 44) rfl)) (by decide) (by decide)) (g := (mkF m 16 #[.val (.ref a1), .val (.ref a2), .val (.ref a3)] [(.ref b7), (.ref b7), (.ref a1)])) rfl (by rw [hml]; rfl) (Steps.refl _) (a := b7) (argsL := []) (rest := [(.ref b7), (.ref a1)]) (lenOf pd___V rfl) rfl (by show 2 * 0 + _ ≤ _; exact Nat.le_of_eq rfl) (hb hby d_prog_23_method_1_code_16) (fun _ _ => ⟨rfl, e7, (by decide : 1 + 0 ≤ _), (by decide : 9 + 0 ≤ _)⟩)
  dsimp only [Pt.U, Pt.locs, Pt.cells, Pt.slots] at X12 l12 y12 z12 st12 hQ12
  subst l12 y12 z12
  obtain ⟨rfl, N12q, K12⟩ := hQ12
  have N12 := Fr.app N5 N12q
  have pre14 : ∀ t, Steps p.tables e below (T12.setTop (mkF m 19 #[.val (.ref a1), .val (.ref a2), .val (.ref a3)] [(.ref b7), (.ref a1)])) t → Steps p.tables e below (s₁.setTop (entryFrame m #[(.ref a1), (.ref a2), (.ref a3)] 3)) t := by
    intro t kk
    refine pre11 t ?_
    show Steps p.tables e below (T7.setTop (mkF m 15 #[.val (.ref a1), .val (.ref a2), .val (.ref a3)] [(.ref b7), (.ref a1)])) _
    refine XS.dup X7.here hx rfl (hb hby d_prog_23_method_1_code_15) rfl rfl ?_
    show Steps p.tables e below (T7.setTop (mkF m 16 #[.val (.ref a1), .val (.ref a2), .val (.ref a3)] [(.ref b7), (.ref b7), (.ref a1)])) _
    exact st12.trans kk
  have c15 := ((c8.ext E7).keep K12)
  obtain ⟨u16, U16⟩ := Obj.fld c15 (Or.inr (hw _ (List.mem_of_getElem? (i := 62) rfl))) (hw _ (List.mem_of_getElem? (i := 28) rfl))
  obtain ⟨T16, h16, X16, e16, W16, st16⟩ := putF X12 hx hZ hown (host := "") (Or.inl (hw _ (List.mem_of_getElem? (i := 61) rfl))) Via.refl rfl U16 c15.exa (Or.inr ⟨(hw _ (List.mem_of_getElem? (i := 62) rfl)), rfl, hnm⟩) (hw _ (List.mem_of_getElem? (i := 28) rfl)) (ty := (.object "java/util/TreeMap")) (by decide) rfl rfl (g := (mkF m 19 #[.val (.ref a1), .val (.ref a2), .val (.ref a3)] [(.ref b7), (.ref a1)])) rfl rfl (hb hby d_prog_23_method_1_code_19)
  have N16 := Fr.snoc X16 N12 g1
  have pre17 : ∀ t, Steps p.tables e below (T16.setTop (mkF m 22 #[.val (.ref a1), .val (.ref a2), .val (.ref a3)] [])) t → Steps p.tables e below (s₁.setTop (entryFrame m #[(.ref a1), (.ref a2), (.ref a3)] 3)) t := by
    intro t kk
    refine pre14 t ?_
    show Steps p.tables e below (T12.setTop (mkF m 19 #[.val (.ref a1), .val (.ref a2), .val (.ref a3)] [(.ref b7), (.ref a1)])) _
    exact st16 _ kk
  obtain ⟨b18, g18⟩ : ∃ z, z = h16.size := ⟨_, rfl⟩
  have c19 := (c15.wr W16)
  have ne_a1_b18 : a1 ≠ b18 := Nat.ne_of_lt (Nat.lt_of_lt_of_le c19.lt (Nat.le_of_eq g18.symm))
  have c20 := (Nat.le_trans (Nat.le_trans c13 K12.1) (Keep.of_wr W16).1)
  have lo_b18 : n0 ≤ b18 := Nat.le_trans c20 (Nat.le_of_eq g18.symm)
  have c21 := (((c10.ext E7).trans K12 (allS (Or.inr hi_b7) all0)).wr W16 (Or.inl (List.mem_of_getElem? (i := 0) rfl)))
  have hi_b18 : h0.size ≤ b18 := Nat.le_trans c21.1 (Nat.le_of_eq g18.symm)
  obtain ⟨T18, h18, X18, e18, E18, A18, D18, B18, st18⟩ := newO X16 hx hZ hown (hw _ (List.mem_of_getElem? (i := 63) rfl)) (hw _ (List.mem_of_getElem? (i := 64) rfl)) (hw _ (List.mem_of_getElem? (i := 65) rfl)) e16 (g := (mkF m 23 #[.val (.ref a1), .val (.ref a2), .val (.ref a3)] [(.ref a1)])) rfl (hb hby d_prog_23_method_1_code_23) (by decide) (by decide)
  rw [← g18] at A18 D18 B18 st18
  have O18 := Obj.of A18 B18
  have pre22 : ∀ t, Steps p.tables e below (T18.setTop (mkF m 26 #[.val (.ref a1), .val (.ref a2), .val (.ref a3)] [(.ref b18), (.ref a1)])) t → Steps p.tables e below (s₁.setTop (entryFrame m #[(.ref a1), (.ref a2), (.ref a3)] 3)) t := by
    intro t kk
    refine pre17 t ?_
    show Steps p.tables e below (T16.setTop (mkF m 22 #[.val (.ref a1), .val (.ref a2), .val (.ref a3)] [])) _
    refine XS.aloadN X16.here hx rfl (hb hby d_prog_23_method_1_code_22) rfl rfl ?_
    show Steps p.tables e below (T16.setTop (mkF m 23 #[.val (.ref a1), .val (.ref a2), .val (.ref a3)] [(.ref a1)])) _
    exact st18 _ kk
  have c24 := (Nat.le_trans c20 E18.1)
  obtain ⟨_, _, ⟨T23, L23, k23, n23⟩, -, X23, ⟨Lc23, hQ23, l23, y23, z23⟩, st23⟩ := X18.specialBack hx (y := (⟨"java/util/HashMap", "<init>", "()V"⟩ : MethodName)) rfl hown (mvT hZ (hw _ (List.mem_of_getElem? (i := 66) rfl))) (mvT hZ (hw _ (List.mem_of_getElem? (i := 67) rfl))) (mvT hZ (hw _ (List.mem_of_getElem? (i := 68) rfl))) (by decide) (backOf (W := 2) (own_hm l Z a0 hw [] b18 h18 n0 c24 O18 lo_b18) hZ (hw _ (List.mem_of_getElem? (i := 68) rfl)) (hw _ (List.mem_of_getElem? (i := 65) rfl)) (by decide) (by decide)) (g := (mkF m 27 #[.val (.ref a1), .val (.ref a2), .val (.ref a3)] [(.ref b18), (.ref b18), (.ref a1)])) rfl (by rw [hml]; rfl) (Steps.refl _) (a := b18) (argsL := []) (rest := [(.ref b18), (.ref a1)]) (lenOf pd___V rfl) rfl (by show 2 * 0 + _ ≤ _; exact Nat.le_of_eq rfl) (hb hby d_prog_23_method_1_code_27) (fun _ _ => ⟨rfl, e18, (by decide : 2 + 0 ≤ _), (by decide : 17 + 0 ≤ _)⟩)
  dsimp only [Pt.U, Pt.locs, Pt.cells, Pt.slots] at X23 l23 y23 z23 st23 hQ23
  subst l23 y23 z23
  obtain ⟨rfl, N23q, K23⟩ := hQ23
  have N23 := Fr.app N16 N23q
  have pre25 : ∀ t, Steps p.tables e below (T23.setTop (mkF m 30 #[.val (.ref a1), .val (.ref a2), .val (.ref a3)] [(.ref b18), (.ref a1)])) t → Steps p.tables e below (s₁.setTop (entryFrame m #[(.ref a1), (.ref a2), (.ref a3)] 3)) t := by
    intro t kk
    refine pre22 t ?_
    show Steps p.tables e below (T18.setTop (mkF m 26 #[.val (.ref a1), .val (.ref a2), .val (.ref a3)] [(.ref b18), (.ref a1)])) _
    refine XS.dup X18.here hx rfl (hb hby d_prog_23_method_1_code_26) rfl rfl ?_
    show Steps p.tables e below (T18.setTop (mkF m 27 #[.val (.ref a1), .val (.ref a2), .val (.ref a3)] [(.ref b18), (.ref b18), (.ref a1)])) _
    exact st23.trans kk
  have c26 := ((c19.ext E18).keep K23)
  obtain ⟨u27, U27⟩ := Obj.fld c26 (Or.inr (hw _ (List.mem_of_getElem? (i := 75) rfl))) (hw _ (List.mem_of_getElem? (i := 28) rfl))
  obtain ⟨T27, h27, X27, e27, W27, st27⟩ := putF X23 hx hZ hown (host := "") (Or.inl (hw _ (List.mem_of_getElem? (i := 74) rfl))) Via.refl rfl U27 c26.exa (Or.inr ⟨(hw _ (List.mem_of_getElem? (i := 75) rfl)), rfl, hnm⟩) (hw _ (List.mem_of_getElem? (i := 28) rfl)) (ty := (.object "java/util/Map")) (by decide) rfl rfl (g := (mkF m 30 #[.val (.ref a1), .val (.ref a2), .val (.ref a3)] [(.ref b18), (.ref a1)])) rfl rfl (hb hby d_prog_23_method_1_code_30)
  have N27 := Fr.snoc X27 N23 g1
  have pre28 : ∀ t, Steps p.tables e below (T27.setTop (mkF m 33 #[.val (.ref a1), .val (.ref a2), .val (.ref a3)] [])) t → Steps p.tables e below (s₁.setTop (entryFrame m #[(.ref a1), (.ref a2), (.ref a3)] 3)) t := by
    intro t kk
    refine pre25 t ?_
    show Steps p.tables e below (T23.setTop (mkF m 30 #[.val (.ref a1), .val (.ref a2), .val (.ref a3)] [(.ref b18), (.ref a1)])) _
    exact st27 _ kk
  obtain ⟨b29, g29⟩ : ∃ z, z = h27.size := ⟨_, rfl⟩
  have c30 := (c26.wr W27)
  have ne_a1_b29 : a1 ≠ b29 := Nat.ne_of_lt (Nat.lt_of_lt_of_le c30.lt (Nat.le_of_eq g29.symm))
  have c31 := (Nat.le_trans (Nat.le_trans c24 K23.1) (Keep.of_wr W27).1)
  have lo_b29 : n0 ≤ b29 := Nat.le_trans c31 (Nat.le_of_eq g29.symm)
  have c32 := (((c21.ext E18).trans K23 (allS (Or.inr hi_b18) all0)).wr W27 (Or.inl (List.mem_of_getElem? (i := 0) rfl)))
  have hi_b29 : h0.size ≤ b29 := Nat.le_trans c32.1 (Nat.le_of_eq g29.symm)
  obtain ⟨T29, h29, X29, e29, E29, A29, D29, B29, st29⟩ := newO X27 hx hZ hown (hw _ (List.mem_of_getElem? (i := 63) rfl)) (hw _ (List.mem_of_getElem? (i := 64) rfl)) (hw _ (List.mem_of_getElem? (i := 65) rfl)) e27 (g := (mkF m 34 #[.val (.ref a1), .val (.ref a2), .val (.ref a3)] [(.ref a1)])) rfl (hb hby d_prog_23_method_1_code_34) (by decide) (by decide)
  rw [← g29] at A29 D29 B29 st29
  have O29 := Obj.of A29 B29
  have pre33 : ∀ t, Steps p.tables e below (T29.setTop (mkF m 37 #[.val (.ref a1), .val (.ref a2), .val (.ref a3)] [(.ref b29), (.ref a1)])) t → Steps p.tables e below (s₁.setTop (entryFrame m #[(.ref a1), (.ref a2), (.ref a3)] 3)) t := by
    intro t kk
    refine pre28 t ?_
    show Steps p.tables e below (T27.setTop (mkF m 33 #[.val (.ref a1), .val (.ref a2), .val (.ref a3)] [])) _
    refine XS.aloadN X27.here hx rfl (hb hby d_prog_23_method_1_code_33) rfl rfl ?_
    show Steps p.tables e below (T27.setTop (mkF m 34 #[.val (.ref a1), .val (.ref a2), .val (.ref a3)] [(.ref a1)])) _
    exact st29 _ kk
  have c35 := (Nat.le_trans c31 E29.1)
  obtain ⟨_, _, ⟨T34, L34, k34, n34⟩, -, X34, ⟨Lc34, hQ34, l34, y34, z34⟩, st34⟩ := X29.specialBack hx (y := (⟨"java/util/HashMap", "<init>", "()V"⟩ : MethodName)) rfl hown (mvT hZ (hw _ (List.mem_of_getElem? (i := 66) rfl))) (mvT hZ (hw _ (List.mem_of_getElem? (i := 67) rfl))) (mvT hZ (hw _ (List.mem_of_getElem? (i := 68) rfl))) (by decide) (backOf (W := 2) (own_hm l Z a0 hw [] b29 h29 n0 c35 O29 lo_b29) hZ (hw _ (List.mem_of_getElem? (i := 68) rfl)) (hw _ (List.mem_of_getElem? (i := 65) rfl)) (by decide) (by decide)) (g := (mkF m 38 #[.val (.ref a1), .val (.ref a2), .val (.ref a3)] [(.ref b29), (.ref b29), (.ref a1)])) rfl (by rw [hml]; rfl) (Steps.refl _) (a := b29) (argsL := []) (rest := [(.ref b29), (.ref a1)]) (lenOf pd___V rfl) rfl (by show 2 * 0 + _ ≤ _; exact Nat.le_of_eq rfl) (hb hby d_prog_23_method_1_code_38) (fun _ _ => ⟨rfl, e29, (by decide : 3 + 0 ≤ _), (by decide : 25 + 0 ≤ _)⟩)
  dsimp only [Pt.U, Pt.locs, Pt.cells, Pt.slots] at X34 l34 y34 z34 st34 hQ34
  subst l34 y34 z34
  obtain ⟨rfl, N34q, K34⟩ := hQ34
  have N34 := Fr.app N27 N34q
  have pre36 : ∀ t, Steps p.tables e below (T34.setTop (mkF m 41 #[.val (.ref a1), .val (.ref a2), .val (.ref a3)] [(.ref b29), (.ref a1)])) t → Steps p.tables e below (s₁.setTop (entryFrame m #[(.ref a1), (.ref a2), (.ref a3)] 3)) t := by
    intro t kk
    refine pre33 t ?_
    show Steps p.tables e below (T29.setTop (mkF m 37 #[.val (.ref a1), .val (.ref a2), .val (.ref a3)] [(.ref b29), (.ref a1)])) _
    refine XS.dup X29.here hx rfl (hb hby d_prog_23_method_1_code_37) rfl rfl ?_
    show Steps p.tables e below (T29.setTop (mkF m 38 #[.val (.ref a1), .val (.ref a2), .val (.ref a3)] [(.ref b29), (.ref b29), (.ref a1)])) _
    exact st34.trans kk
  have c37 := ((c30.ext E29).keep K34)
  obtain ⟨u38, U38⟩ := Obj.fld c37 (Or.inr (hw _ (List.mem_of_getElem? (i := 77) rfl))) (hw _ (List.mem_of_getElem? (i := 28) rfl))
  obtain ⟨T38, h38, X38, e38, W38, st38⟩ := putF X34 hx hZ hown (host := "") (Or.inl (hw _ (List.mem_of_getElem? (i := 76) rfl))) Via.refl rfl U38 c37.exa (Or.inr ⟨(hw _ (List.mem_of_getElem? (i := 77) rfl)), rfl, hnm⟩) (hw _ (List.mem_of_getElem? (i := 28) rfl)) (ty := (.object "java/util/Map")) (by decide) rfl rfl (g := (mkF m 41 #[.val (.ref a1), .val (.ref a2), .val (.ref a3)] [(.ref b29), (.ref a1)])) rfl rfl (hb hby d_prog_23_method_1_code_41)
  have N38 := Fr.snoc X38 N34 g1
  have pre39 : ∀ t, Steps p.tables e below (T38.setTop (mkF m 44 #[.val (.ref a1), .val (.ref a2), .val (.ref a3)] [])) t → Steps p.tables e below (s₁.setTop (entryFrame m #[(.ref a1), (.ref a2), (.ref a3)] 3)) t := by
    intro t kk
    refine pre36 t ?_
    show Steps p.tables e below (T34.setTop (mkF m 41 #[.val (.ref a1), .val (.ref a2), .val (.ref a3)] [(.ref b29), (.ref a1)])) _
    exact st38 _ kk
  have c40 := (c37.wr W38)
  obtain ⟨u41, U41⟩ := Obj.fld c40 (Or.inr (hw _ (List.mem_of_getElem? (i := 79) rfl))) (hw _ (List.mem_of_getElem? (i := 28) rfl))
  obtain ⟨T41, h41, X41, e41, W41, st41⟩ := putF X38 hx hZ hown (host := "") (Or.inl (hw _ (List.mem_of_getElem? (i := 78) rfl))) Via.refl e38 U41 c40.exa (Or.inr ⟨(hw _ (List.mem_of_getElem? (i := 79) rfl)), rfl, hnm⟩) (hw _ (List.mem_of_getElem? (i := 28) rfl)) (ty := (.object "java/lang/String")) (by decide) rfl rfl (g := (mkF m 46 #[.val (.ref a1), .val (.ref a2), .val (.ref a3)] [(.ref a2), (.ref a1)])) rfl rfl (hb hby d_prog_23_method_1_code_46)
  have N41 := Fr.snoc X41 N38 g1
  have pre42 : ∀ t, Steps p.tables e below (T41.setTop (mkF m 49 #[.val (.ref a1), .val (.ref a2), .val (.ref a3)] [])) t → Steps p.tables e below (s₁.setTop (entryFrame m #[(.ref a1), (.ref a2), (.ref a3)] 3)) t := by
    intro t kk
    refine pre39 t ?_
    show Steps p.tables e below (T38.setTop (mkF m 44 #[.val (.ref a1), .val (.ref a2), .val (.ref a3)] [])) _
    refine XS.aloadN X38.here hx rfl (hb hby d_prog_23_method_1_code_44) rfl rfl ?_
    show Steps p.tables e below (T38.setTop (mkF m 45 #[.val (.ref a1), .val (.ref a2), .val (.ref a3)] [(.ref a1)])) _
    refine XS.aloadN X38.here hx rfl (hb hby d_prog_23_method_1_code_45) rfl rfl ?_
    show Steps p.tables e below (T38.setTop (mkF m 46 #[.val (.ref a1), .val (.ref a2), .val (.ref a3)] [(.ref a2), (.ref a1)])) _
    exact st41 _ kk
  have c43 := (c40.wr W41)
  obtain ⟨u44, U44⟩ := Obj.fld c43 (Or.inr (hw _ (List.mem_of_getElem? (i := 81) rfl))) (hw _ (List.mem_of_getElem? (i := 28) rfl))
  obtain ⟨T44, h44, X44, e44, W44, st44⟩ := putF X41 hx hZ hown (host := "") (Or.inl (hw _ (List.mem_of_getElem? (i := 80) rfl))) Via.refl e41 U44 c43.exa (Or.inr ⟨(hw _ (List.mem_of_getElem? (i := 81) rfl)), rfl, hnm⟩) (hw _ (List.mem_of_getElem? (i := 28) rfl)) (ty := (.object "java/lang/String")) (by decide) rfl rfl (g := (mkF m 51 #[.val (.ref a1), .val (.ref a2), .val (.ref a3)] [(.ref a3), (.ref a1)])) rfl rfl (hb hby d_prog_23_method_1_code_51)
  have N44 := Fr.snoc X44 N41 g1
  have pre45 : ∀ t, Steps p.tables e below (T44.setTop (mkF m 54 #[.val (.ref a1), .val (.ref a2), .val (.ref a3)] [])) t → Steps p.tables e below (s₁.setTop (entryFrame m #[(.ref a1), (.ref a2), (.ref a3)] 3)) t := by
    intro t kk
    refine pre42 t ?_
    show Steps p.tables e below (T41.setTop (mkF m 49 #[.val (.ref a1), .val (.ref a2), .val (.ref a3)] [])) _
    refine XS.aloadN X41.here hx rfl (hb hby d_prog_23_method_1_code_49) rfl rfl ?_
    show Steps p.tables e below (T41.setTop (mkF m 50 #[.val (.ref a1), .val (.ref a2), .val (.ref a3)] [(.ref a1)])) _
    refine XS.aloadN X41.here hx rfl (hb hby d_prog_23_method_1_code_50) rfl rfl ?_
    show Steps p.tables e below (T41.setTop (mkF m 51 #[.val (.ref a1), .val (.ref a2), .val (.ref a3)] [(.ref a3), (.ref a1)])) _
    exact st44 _ kk
  obtain ⟨b46, g46⟩ : ∃ z, z = h44.size := ⟨_, rfl⟩
  have c47 := (c43.wr W44)
  have ne_a1_b46 : a1 ≠ b46 := Nat.ne_of_lt (Nat.lt_of_lt_of_le c47.lt (Nat.le_of_eq g46.symm))
  have c48 := (Nat.le_trans (Nat.le_trans (Nat.le_trans (Nat.le_trans c35 K34.1) (Keep.of_wr W38).1) (Keep.of_wr W41).1) (Keep.of_wr W44).1)
  have lo_b46 : n0 ≤ b46 := Nat.le_trans c48 (Nat.le_of_eq g46.symm)
  have c49 := (((((c32.ext E29).trans K34 (allS (Or.inr hi_b29) all0)).wr W38 (Or.inl (List.mem_of_getElem? (i := 0) rfl))).wr W41 (Or.inl (List.mem_of_getElem? (i := 0) rfl))).wr W44 (Or.inl (List.mem_of_getElem? (i := 0) rfl)))
  have hi_b46 : h0.size ≤ b46 := Nat.le_trans c49.1 (Nat.le_of_eq g46.symm)
  obtain ⟨T46, h46, X46, e46, E46, A46, D46, B46, st46⟩ := newO X44 hx hZ hown (hw _ (List.mem_of_getElem? (i := 82) rfl)) (hw _ (List.mem_of_getElem? (i := 83) rfl)) (hw _ (List.mem_of_getElem? (i := 84) rfl)) e44 (g := (mkF m 55 #[.val (.ref a1), .val (.ref a2), .val (.ref a3)] [(.ref a1)])) rfl (hb hby d_prog_23_method_1_code_55) (by decide) (by decide)
  rw [← g46] at A46 D46 B46 st46
  have O46 := Obj.of A46 B46
  have pre50 : ∀ t, Steps p.tables e below (T46.setTop (mkF m 58 #[.val (.ref a1), .val (.ref a2), .val (.ref a3)] [(.ref b46), (.ref a1)])) t → Steps p.tables e below (s₁.setTop (entryFrame m #[(.ref a1), (.ref a2), (.ref a3)] 3)) t := by
    intro t kk
    refine pre45 t ?_
    show Steps p.tables e below (T44.setTop (mkF m 54 #[.val (.ref a1), .val (.ref a2), .val (.ref a3)] [])) _
    refine XS.aloadN X44.here hx rfl (hb hby d_prog_23_method_1_code_54) rfl rfl ?_
    show Steps p.tables e below (T44.setTop (mkF m 55 #[.val (.ref a1), .val (.ref a2), .val (.ref a3)] [(.ref a1)])) _
    exact st46 _ kk
  have c52 := (Nat.le_trans c48 E46.1)
  obtain ⟨_, _, ⟨T51, L51, k51, n51⟩, -, X51, ⟨Lc51, hQ51, l51, y51, z51⟩, st51⟩ := X46.specialBack hx (y := (⟨"coterie/causal/Replicas", "<init>", "(Ljava/lang/String;)V"⟩ : MethodName)) rfl hown (mvT hZ (hw _ (List.mem_of_getElem? (i := 85) rfl))) (mvT hZ (hw _ (List.mem_of_getElem? (i := 86) rfl))) (mvT hZ (hw _ (List.mem_of_getElem? (i := 87) rfl))) (by decide) (backOf (W := 2) (own_rep l Z a0 hw [] b46 a3 h46 n0 c52 O46 lo_b46) hZ (hw _ (List.mem_of_getElem? (i := 87) rfl)) (hw _ (List.mem_of_getElem? (i := 84) rfl)) (by decide) (by decide)) (g := (mkF m 60 #[.val (.ref a1), .val (.ref a2), .val (.ref a3)] [(.ref a3), (.ref b46), (.ref b46), (.ref a1)])) rfl (by rw [hml]; rfl) (Steps.refl _) (a := b46) (argsL := [(.ref a3)]) (rest := [(.ref b46), (.ref a1)]) (lenOf pd__Ljava_lang_String__V rfl) rfl (by show 2 * 0 + _ ≤ _; exact Nat.le_of_eq rfl) (hb hby d_prog_23_method_1_code_60) (fun _ _ => ⟨rfl, e46, (by decide : 4 + 7 ≤ _), (by decide : 38 + 56 ≤ _)⟩)
  dsimp only [Pt.U, Pt.locs, Pt.cells, Pt.slots] at X51 l51 y51 z51 st51 hQ51
  subst l51 y51 z51
  obtain ⟨rfl, N51q, K51⟩ := hQ51
  have N51 := Fr.app N44 N51q
  have pre53 : ∀ t, Steps p.tables e below (T51.setTop (mkF m 63 #[.val (.ref a1), .val (.ref a2), .val (.ref a3)] [(.ref b46), (.ref a1)])) t → Steps p.tables e below (s₁.setTop (entryFrame m #[(.ref a1), (.ref a2), (.ref a3)] 3)) t := by
    intro t kk
    refine pre50 t ?_
    show Steps p.tables e below (T46.setTop (mkF m 58 #[.val (.ref a1), .val (.ref a2), .val (.ref a3)] [(.ref b46), (.ref a1)])) _
    refine XS.dup X46.here hx rfl (hb hby d_prog_23_method_1_code_58) rfl rfl ?_
    show Steps p.tables e below (T46.setTop (mkF m 59 #[.val (.ref a1), .val (.ref a2), .val (.ref a3)] [(.ref b46), (.ref b46), (.ref a1)])) _
    refine XS.aloadN X46.here hx rfl (hb hby d_prog_23_method_1_code_59) rfl rfl ?_
    show Steps p.tables e below (T46.setTop (mkF m 60 #[.val (.ref a1), .val (.ref a2), .val (.ref a3)] [(.ref a3), (.ref b46), (.ref b46), (.ref a1)])) _
    exact st51.trans kk
  have c54 := ((c47.ext E46).keep K51)
  obtain ⟨u55, U55⟩ := Obj.fld c54 (Or.inr (hw _ (List.mem_of_getElem? (i := 108) rfl))) (hw _ (List.mem_of_getElem? (i := 28) rfl))
  obtain ⟨T55, h55, X55, e55, W55, st55⟩ := putF X51 hx hZ hown (host := "") (Or.inl (hw _ (List.mem_of_getElem? (i := 107) rfl))) Via.refl rfl U55 c54.exa (Or.inr ⟨(hw _ (List.mem_of_getElem? (i := 108) rfl)), rfl, hnm⟩) (hw _ (List.mem_of_getElem? (i := 28) rfl)) (ty := (.object "coterie/causal/Replicas")) (by decide) rfl rfl (g := (mkF m 63 #[.val (.ref a1), .val (.ref a2), .val (.ref a3)] [(.ref b46), (.ref a1)])) rfl rfl (hb hby d_prog_23_method_1_code_63)
  have N55 := Fr.snoc X55 N51 g1
  have pre56 : ∀ t, Steps p.tables e below (T55.setTop (mkF m 66 #[.val (.ref a1), .val (.ref a2), .val (.ref a3)] [])) t → Steps p.tables e below (s₁.setTop (entryFrame m #[(.ref a1), (.ref a2), (.ref a3)] 3)) t := by
    intro t kk
    refine pre53 t ?_
    show Steps p.tables e below (T51.setTop (mkF m 63 #[.val (.ref a1), .val (.ref a2), .val (.ref a3)] [(.ref b46), (.ref a1)])) _
    exact st55 _ kk
  have c57 := (((c49.ext E46).trans K51 (allS (Or.inr hi_b46) all0)).wr W55 (Or.inl (List.mem_of_getElem? (i := 0) rfl)))
  have c58 := (((((((((((((((F_flushing.other W5 (Or.inr (slot_ne (Or.inl (hw _ (List.mem_of_getElem? (i := 115) rfl))) (Or.inl (hw _ (List.mem_of_getElem? (i := 41) rfl))) (by decide) (t := .int) (t' := (.object "java/util/List")) (by decide) (by decide)))).ext E7).keep K12 (ninS ne_a1_b7 nin0)).other W16 (Or.inr (slot_ne (Or.inl (hw _ (List.mem_of_getElem? (i := 115) rfl))) (Or.inr (hw _ (List.mem_of_getElem? (i := 62) rfl))) (by decide) (t := .int) (t' := (.object "java/util/TreeMap")) (by decide) (by decide)))).ext E18).keep K23 (ninS ne_a1_b18 nin0)).other W27 (Or.inr (slot_ne (Or.inl (hw _ (List.mem_of_getElem? (i := 115) rfl))) (Or.inr (hw _ (List.mem_of_getElem? (i := 75) rfl))) (by decide) (t := .int) (t' := (.object "java/util/Map")) (by decide) (by decide)))).ext E29).keep K34 (ninS ne_a1_b29 nin0)).other W38 (Or.inr (slot_ne (Or.inl (hw _ (List.mem_of_getElem? (i := 115) rfl))) (Or.inr (hw _ (List.mem_of_getElem? (i := 77) rfl))) (by decide) (t := .int) (t' := (.object "java/util/Map")) (by decide) (by decide)))).other W41 (Or.inr (slot_ne (Or.inl (hw _ (List.mem_of_getElem? (i := 115) rfl))) (Or.inr (hw _ (List.mem_of_getElem? (i := 79) rfl))) (by decide) (t := .int) (t' := (.object "java/lang/String")) (by decide) (by decide)))).other W44 (Or.inr (slot_ne (Or.inl (hw _ (List.mem_of_getElem? (i := 115) rfl))) (Or.inr (hw _ (List.mem_of_getElem? (i := 81) rfl))) (by decide) (t := .int) (t' := (.object "java/lang/String")) (by decide) (by decide)))).ext E46).keep K51 (ninS ne_a1_b46 nin0)).other W55 (Or.inr (slot_ne (Or.inl (hw _ (List.mem_of_getElem? (i := 115) rfl))) (Or.inr (hw _ (List.mem_of_getElem? (i := 108) rfl))) (by decide) (t := .int) (t' := (.object "coterie/causal/Replicas")) (by decide) (by decide))))
  obtain ⟨fs, hr, hrun, hended, hW, hsame⟩ := X55.leave (v := none) (fun _ => rfl)
  refine ⟨_, _, pre56 _ ?_, hrun, hended, _, _, rfl, ?_, ⟨_, rfl⟩, hW, hsame.mono (by decide) (by decide)⟩
  · show Steps p.tables e below (T55.setTop (mkF m 66 #[.val (.ref a1), .val (.ref a2), .val (.ref a3)] [])) _
    exact X55.returnOut hx Bd.returns (hb hby d_prog_23_method_1_code_66) hr
  · show Q_own_grp Z a1 a2 a3 r f0 h0 n0 _ T55.heap _
    rw [e55]
    exact ⟨rfl, N55, c57, c58⟩
theorem own_i8 (x : Int32) : x.toInt8.toInt32.toInt8.toInt32 = x.toInt8.toInt32 := by simp
theorem pn_java_lang_StringLatin1 : plainName "java/lang/StringLatin1" = true := by first | (simp [plainName, overriddenIn]; done) | decide +kernel
theorem d_jdk_43_method_3_code_0 : decode jdk_43_method_3_code 0 = .ok (.iload_n 0, 1) := by decide +kernel
theorem d_jdk_43_method_3_code_1 : decode jdk_43_method_3_code 1 = .ok (.sipush 255, 3) := by decide +kernel
theorem d_jdk_43_method_3_code_4 : decode jdk_43_method_3_code 4 = .ok (.if_icmp .gt 7, 3) := by decide +kernel
theorem d_jdk_43_method_3_code_7 : decode jdk_43_method_3_code 7 = .ok (.iconst 1, 1) := by decide +kernel
theorem d_jdk_43_method_3_code_8 : decode jdk_43_method_3_code 8 = .ok (.goto 4, 3) := by decide +kernel
theorem d_jdk_43_method_3_code_12 : decode jdk_43_method_3_code 12 = .ok (.ireturn, 1) := by decide +kernel
theorem ef_own_ce (m : MethodId) {ch : Int32} : entryFrame m #[(.int ch)] 1 = mkF m 0 #[.val (.int ch)] [] := by first | (simp [entryFrame, mkF, argsToLocals, Value.category]; done) | rfl
def Q_own_ce (Z : State) (ch : Int32) (h0 : Heap) (n0 : Nat) (v : Option Value) (h : Heap) (L : List Loc) : Prop := v = some (.int (1 : Int32)) ∧ Fr n0 L ∧ h = h0
set_option maxRecDepth 65536 in
set_option maxHeartbeats 40000000 in
theorem own_ce (l : Launch) (Z : State) (a0 : Array Value) (hw : ∀ d ∈ tables_1, d.before a0 Z = true) (ws : List Jvm.Cond) (ch : Int32) (h0 : Heap) (n0 : Nat) (Z0 : n0 ≤ h0.size) (hc : ¬ (255 : Int32) < ch) :
    MetFree l (⟨"java/lang/StringLatin1", "canEncode", "(C)Z"⟩ : MethodName) (head1 (Jvm.Cond.code (⟨"java/lang/StringLatin1", "canEncode", "(C)Z"⟩ : MethodName) jdk_43_method_3_code 1 (some .boolean) :: ws) ({ frames := 0, cells := 0, slots := 0, locals := 0 } : Room)) (fun a U => a = #[(.int ch)] ∧ Z.Warmed39 U.vm ∧ U.heap = h0) (fun _ _ _ _ _ => True) (fun _ U o U' => ∃ v L, o = .returned v ∧ Q_own_ce Z ch h0 n0 v U'.heap L ∧ FrameEnd U o U' L ({ frames := 0, cells := 0, slots := 0, locals := 0 } : Room).cells ({ frames := 0, cells := 0, slots := 0, locals := 0 } : Room).slots) := by
  refine MetFree.of_bodySF (plainFor_of_name pn_java_lang_StringLatin1) hisR ?_
  intro p e s m args below meth c s₁ Bd hml0 hP hK
  obtain ⟨rfl, hZ, hh⟩ := hP
  have hx := Bd.exec
  have hby := Bd.bytes
  have hml : c.maxLocals = 1 := hml0
  have hown : s.vm.findClass "java/lang/StringLatin1" = some m.cls := findClass_of_methodNamed Bd.named
  have hnm := (name_of_methodNamed Bd.named Bd.method).1
  have X0 : Stand p l e ({ frames := 0, cells := 0, slots := 0, locals := 0 } : Room) s m #[(.int ch)] below meth c s₁ [] 0 0 := Stand.of_body Bd
  have e0 : s₁.heap = h0 := by rw [← hh, Bd.state]; rfl
  have N0 := Fr.nil n0
  have pre0 : ∀ t, Steps p.tables e below (s₁.setTop (mkF m 0 #[.val (.int ch)] [])) t → Steps p.tables e below (s₁.setTop (entryFrame m #[(.int ch)] 1)) t := fun t k => castTop (ef_own_ce m) k
  obtain ⟨fs, hr, hrun, hended, hW, hsame⟩ := X0.leave (v := some (.int (1 : Int32))) (fun h => by rw [Bd.returns] at h; cases h)
  refine ⟨_, _, pre0 _ ?_, hrun, hended, _, _, rfl, ?_, ⟨_, rfl⟩, hW, hsame.mono (by decide) (by decide)⟩
  · show Steps p.tables e below (s₁.setTop (mkF m 0 #[.val (.int ch)] [])) _
    refine XS.iloadN X0.here hx rfl (hb hby d_jdk_43_method_3_code_0) rfl ?_
    show Steps p.tables e below (s₁.setTop (mkF m 1 #[.val (.int ch)] [(.int ch)])) _
    refine XS.sipush X0.here hx rfl (hb hby d_jdk_43_method_3_code_1) ?_
    show Steps p.tables e below (s₁.setTop (mkF m 4 #[.val (.int ch)] [(.int (255 : Int32)), (.int ch)])) _
    refine XS.icmpNo X0.here hx rfl (hb hby d_jdk_43_method_3_code_4) rfl (flt hc).2.2.1 ?_
    show Steps p.tables e below (s₁.setTop (mkF m 7 #[.val (.int ch)] [])) _
    refine XS.iconst X0.here hx rfl (hb hby d_jdk_43_method_3_code_7) ?_
    show Steps p.tables e below (s₁.setTop (mkF m 8 #[.val (.int ch)] [(.int (1 : Int32))])) _
    refine XS.goto X0.here hx rfl (pc0 := 8) (pc' := 12) rfl (hb hby d_jdk_43_method_3_code_8) (by decide) (by decide) ?_
    show Steps p.tables e below (s₁.setTop (mkF m 12 #[.val (.int ch)] [(.int (1 : Int32))])) _
    exact retN X0 hx (t := .boolean) Bd.returns (by simp) (hb hby d_jdk_43_method_3_code_12) hr
  · show Q_own_ce Z ch h0 n0 _ s₁.heap _
    rw [e0]
    exact ⟨rfl, N0, rfl⟩
theorem d_jdk_43_method_46_code_0 : decode jdk_43_method_46_code 0 = .ok (.iconst 1, 1) := by decide +kernel
theorem d_jdk_43_method_46_code_1 : decode jdk_43_method_46_code 1 = .ok (.newarray .byte, 2) := by decide +kernel
theorem d_jdk_43_method_46_code_3 : decode jdk_43_method_46_code 3 = .ok (.dup, 1) := by decide +kernel
theorem d_jdk_43_method_46_code_4 : decode jdk_43_method_46_code 4 = .ok (.iconst 0, 1) := by decide +kernel
theorem d_jdk_43_method_46_code_5 : decode jdk_43_method_46_code 5 = .ok (.iload_n 0, 1) := by decide +kernel
theorem d_jdk_43_method_46_code_6 : decode jdk_43_method_46_code 6 = .ok (.i2b, 1) := by decide +kernel
theorem d_jdk_43_method_46_code_7 : decode jdk_43_method_46_code 7 = .ok (.bastore, 1) := by decide +kernel
theorem d_jdk_43_method_46_code_8 : decode jdk_43_method_46_code 8 = .ok (.areturn, 1) := by decide +kernel
theorem ef_own_tb (m : MethodId) {ch : Int32} : entryFrame m #[(.int ch)] 1 = mkF m 0 #[.val (.int ch)] [] := by first | (simp [entryFrame, mkF, argsToLocals, Value.category]; done) | rfl
def Q_own_tb (Z : State) (ch : Int32) (h0 : Heap) (n0 : Nat) (v : Option Value) (h : Heap) (L : List Loc) : Prop := ∃ (b : Addr) (k : ClassId), v = some (.ref b) ∧ Fr n0 L ∧ Keep h0 h [] ∧ h0.size ≤ b ∧ Arv Z h b k .byte (1 : Int32) [(.int ch.toInt8.toInt32)] (.int (0 : Int32))
set_option maxRecDepth 65536 in
set_option maxHeartbeats 40000000 in
theorem own_tb (l : Launch) (Z : State) (a0 : Array Value) (hw : ∀ d ∈ tables_1, d.before a0 Z = true) (ws : List Jvm.Cond) (ch : Int32) (h0 : Heap) (n0 : Nat) (Z0 : n0 ≤ h0.size)  :
    MetFree l (⟨"java/lang/StringLatin1", "toBytes", "(C)[B"⟩ : MethodName) (head1 (Jvm.Cond.code (⟨"java/lang/StringLatin1", "toBytes", "(C)[B"⟩ : MethodName) jdk_43_method_46_code 1 (some (.array .byte)) :: ws) ({ frames := 0, cells := 1, slots := 1, locals := 0 } : Room)) (fun a U => a = #[(.int ch)] ∧ Z.Warmed39 U.vm ∧ U.heap = h0) (fun _ _ _ _ _ => True) (fun _ U o U' => ∃ v L, o = .returned v ∧ Q_own_tb Z ch h0 n0 v U'.heap L ∧ FrameEnd U o U' L ({ frames := 0, cells := 1, slots := 1, locals := 0 } : Room).cells ({ frames := 0, cells := 1, slots := 1, locals := 0 } : Room).slots) := by
  refine MetFree.of_bodySF (plainFor_of_name pn_java_lang_StringLatin1) hisR ?_
  intro p e s m args below meth c s₁ Bd hml0 hP hK
  obtain ⟨rfl, hZ, hh⟩ := hP
  have hx := Bd.exec
  have hby := Bd.bytes
  have hml : c.maxLocals = 1 := hml0
  have hown : s.vm.findClass "java/lang/StringLatin1" = some m.cls := findClass_of_methodNamed Bd.named
  have hnm := (name_of_methodNamed Bd.named Bd.method).1
  have X0 : Stand p l e ({ frames := 0, cells := 1, slots := 1, locals := 0 } : Room) s m #[(.int ch)] below meth c s₁ [] 0 0 := Stand.of_body Bd
  have e0 : s₁.heap = h0 := by rw [← hh, Bd.state]; rfl
  have N0 := Fr.nil n0
  have pre0 : ∀ t, Steps p.tables e below (s₁.setTop (mkF m 0 #[.val (.int ch)] [])) t → Steps p.tables e below (s₁.setTop (entryFrame m #[(.int ch)] 1)) t := fun t k => castTop (ef_own_tb m) k
  obtain ⟨b1, g1⟩ : ∃ z, z = h0.size := ⟨_, rfl⟩
  have lo_b1 : n0 ≤ b1 := Nat.le_trans Z0 (Nat.le_of_eq g1.symm)
  have hi_b1 : h0.size ≤ b1 := Nat.le_trans (Keep.refl h0 []).1 (Nat.le_of_eq g1.symm)
  obtain ⟨T1, h1, k1, X1, e1, E1, A1, st1⟩ := newP X0 hx hZ (hw _ (List.mem_of_getElem? (i := 15) rfl)) e0 (g := (mkF m 1 #[.val (.int ch)] [(.int (1 : Int32))])) rfl (hb hby d_jdk_43_method_46_code_1) rfl (by decide) (cap := 1) (by decide) (by decide) (by decide) (by decide)
  rw [← g1] at A1 st1
  have V1 : Arv Z h1 b1 k1 .byte (1 : Int32) [(.int (0 : Int32))] (.int (0 : Int32)) := (Arv.new A1 (by decide)).pad (pad_rep [] (.int (0 : Int32)) 1)
  have pre2 : ∀ t, Steps p.tables e below (T1.setTop (mkF m 3 #[.val (.int ch)] [(.ref b1)])) t → Steps p.tables e below (s₁.setTop (entryFrame m #[(.int ch)] 1)) t := by
    intro t kk
    refine pre0 t ?_
    show Steps p.tables e below (s₁.setTop (mkF m 0 #[.val (.int ch)] [])) _
    refine XS.iconst X0.here hx rfl (hb hby d_jdk_43_method_46_code_0) ?_
    show Steps p.tables e below (s₁.setTop (mkF m 1 #[.val (.int ch)] [(.int (1 : Int32))])) _
    exact st1 _ kk
  obtain ⟨cl3, Ar3, q3, S3, M3, H3, G3⟩ := V1
  obtain ⟨T3, h3, X3, e3, W3, st3⟩ := stB X1 hx hZ e1 Ar3 (j := (0 : Int32)) (inb_of S3 ⟨(by decide), (by decide)⟩) (g := (mkF m 7 #[.val (.int ch)] [(.int (ch.toInt8.toInt32)), (.int (0 : Int32)), (.ref b1), (.ref b1)])) rfl rfl (hb hby d_jdk_43_method_46_code_7)
  have V3 : Arv Z h3 b1 k1 .byte (1 : Int32) [(.int ch.toInt8.toInt32.toInt8.toInt32)] (.int (0 : Int32)) := Arv.set Ar3 q3 S3 M3 H3 G3 (fits_nar_byte _) W3 0 rfl (Nat.le_of_ble_eq_true rfl)
  have N3 := Fr.snoc X3 N0 lo_b1
  have pre4 : ∀ t, Steps p.tables e below (T3.setTop (mkF m 8 #[.val (.int ch)] [(.ref b1)])) t → Steps p.tables e below (s₁.setTop (entryFrame m #[(.int ch)] 1)) t := by
    intro t kk
    refine pre2 t ?_
    show Steps p.tables e below (T1.setTop (mkF m 3 #[.val (.int ch)] [(.ref b1)])) _
    refine XS.dup X1.here hx rfl (hb hby d_jdk_43_method_46_code_3) rfl rfl ?_
    show Steps p.tables e below (T1.setTop (mkF m 4 #[.val (.int ch)] [(.ref b1), (.ref b1)])) _
    refine XS.iconst X1.here hx rfl (hb hby d_jdk_43_method_46_code_4) ?_
    show Steps p.tables e below (T1.setTop (mkF m 5 #[.val (.int ch)] [(.int (0 : Int32)), (.ref b1), (.ref b1)])) _
    refine XS.iloadN X1.here hx rfl (hb hby d_jdk_43_method_46_code_5) rfl ?_
    show Steps p.tables e below (T1.setTop (mkF m 6 #[.val (.int ch)] [(.int ch), (.int (0 : Int32)), (.ref b1), (.ref b1)])) _
    refine XS.i2b X1.here hx rfl (hb hby d_jdk_43_method_46_code_6) rfl ?_
    show Steps p.tables e below (T1.setTop (mkF m 7 #[.val (.int ch)] [(.int (ch.toInt8.toInt32)), (.int (0 : Int32)), (.ref b1), (.ref b1)])) _
    exact st3 _ kk
  rw [own_i8 ch] at V3
  have c5 := (((Keep.refl h0 []).ext E1).wr W3 (Or.inr hi_b1))
  obtain ⟨fs, hr, hrun, hended, hW, hsame⟩ := X3.leave (v := some (.ref b1)) (fun h => by rw [Bd.returns] at h; cases h)
  refine ⟨_, _, pre4 _ ?_, hrun, hended, _, _, rfl, ?_, ⟨_, rfl⟩, hW, hsame.mono (by decide) (by decide)⟩
  · show Steps p.tables e below (T3.setTop (mkF m 8 #[.val (.int ch)] [(.ref b1)])) _
    jvm_step X3.here [X3.here.top, hx, (hb hby d_jdk_43_method_46_code_8), X3.method', Bd.returns, Value.isRef, FieldType.isReference]
    first | (intro acts; rw [hr _ acts rfl rfl rfl]) | rw [hr _ _ rfl rfl rfl]
    exact Steps.refl _
  · show Q_own_tb Z ch h0 n0 _ T3.heap _
    rw [e3]
    exact ⟨b1, k1, rfl, N3, c5, hi_b1, V3⟩
theorem pn_java_lang_String : plainName "java/lang/String" = true := by first | (simp [plainName, overriddenIn]; done) | decide +kernel
theorem d_jdk_42_method_151_code_0 : decode jdk_42_method_151_code 0 = .ok (.aload_n 0, 1) := by decide +kernel
theorem d_jdk_42_method_151_code_1 : decode jdk_42_method_151_code 1 = .ok (.invokespecial 1, 3) := by decide +kernel
theorem d_jdk_42_method_151_code_4 : decode jdk_42_method_151_code 4 = .ok (.aload_n 0, 1) := by decide +kernel
theorem d_jdk_42_method_151_code_5 : decode jdk_42_method_151_code 5 = .ok (.aload_n 1, 1) := by decide +kernel
theorem d_jdk_42_method_151_code_6 : decode jdk_42_method_151_code 6 = .ok (.putfield 9, 3) := by decide +kernel
theorem d_jdk_42_method_151_code_9 : decode jdk_42_method_151_code 9 = .ok (.aload_n 0, 1) := by decide +kernel
theorem d_jdk_42_method_151_code_10 : decode jdk_42_method_151_code 10 = .ok (.iload_n 2, 1) := by decide +kernel
theorem d_jdk_42_method_151_code_11 : decode jdk_42_method_151_code 11 = .ok (.putfield 15, 3) := by decide +kernel
theorem d_jdk_42_method_151_code_14 : decode jdk_42_method_151_code 14 = .ok (.return_, 1) := by decide +kernel
theorem ef_own_sbb (m : MethodId) {a1 : Addr} {a2 : Addr} : entryFrame m #[(.ref a1), (.ref a2), (.int (0 : Int32))] 3 = mkF m 0 #[.val (.ref a1), .val (.ref a2), .val (.int (0 : Int32))] [] := by first | (simp [entryFrame, mkF, argsToLocals, Value.category]; done) | rfl
def Q_own_sbb (Z : State) (a1 a2 : Addr) (h0 : Heap) (n0 : Nat) (v : Option Value) (h : Heap) (L : List Loc) : Prop := v = none ∧ Fr n0 L ∧ Keep h0 h [a1] ∧ Fld Z h a1 "java/lang/String" "value" "[B" (.ref a2) ∧ Fld Z h a1 "java/lang/String" "coder" "B" (.int (0 : Int32))
set_option maxRecDepth 65536 in
set_option maxHeartbeats 40000000 in
theorem own_sbb (l : Launch) (Z : State) (a0 : Array Value) (hw : ∀ d ∈ tables_1, d.before a0 Z = true) (ws : List Jvm.Cond) (a1 a2 : Addr) (h0 : Heap) (n0 : Nat) (Z0 : n0 ≤ h0.size) (O1 : Obj Z h0 a1 "java/lang/String") (g1 : n0 ≤ a1) :
    MetFree l (⟨"java/lang/String", "<init>", "([BB)V"⟩ : MethodName) (head1 (Jvm.Cond.code (⟨"java/lang/String", "<init>", "([BB)V"⟩ : MethodName) jdk_42_method_151_code 3 none :: ws) ({ frames := 1, cells := 0, slots := 0, locals := 12 } : Room)) (fun a U => a = #[(.ref a1), (.ref a2), (.int (0 : Int32))] ∧ Z.Warmed39 U.vm ∧ U.heap = h0) (fun _ _ _ _ _ => True) (fun _ U o U' => ∃ v L, o = .returned v ∧ Q_own_sbb Z a1 a2 h0 n0 v U'.heap L ∧ FrameEnd U o U' L ({ frames := 1, cells := 0, slots := 0, locals := 12 } : Room).cells ({ frames := 1, cells := 0, slots := 0, locals := 12 } : Room).slots) := by
  refine MetFree.of_bodySF (plainFor_of_name pn_java_lang_String) hisR ?_
  intro p e s m args below meth c s₁ Bd hml0 hP hK
  obtain ⟨rfl, hZ, hh⟩ := hP
  have hx := Bd.exec
  have hby := Bd.bytes
  have hml : c.maxLocals = 3 := hml0
  have hown : s.vm.findClass "java/lang/String" = some m.cls := findClass_of_methodNamed Bd.named
  have hnm := (name_of_methodNamed Bd.named Bd.method).1
  have X0 : Stand p l e ({ frames := 1, cells := 0, slots := 0, locals := 12 } : Room) s m #[(.ref a1), (.ref a2), (.int (0 : Int32))] below meth c s₁ [] 0 0 := Stand.of_body Bd
  have e0 : s₁.heap = h0 := by rw [← hh, Bd.state]; rfl
  have N0 := Fr.nil n0
  have pre0 : ∀ t, Steps p.tables e below (s₁.setTop (mkF m 0 #[.val (.ref a1), .val (.ref a2), .val (.int (0 : Int32))] [])) t → Steps p.tables e below (s₁.setTop (entryFrame m #[(.ref a1), (.ref a2), (.int (0 : Int32))] 3)) t := fun t k => castTop (ef_own_sbb m) k
  obtain ⟨T1, X1, e1, st1⟩ := initO X0 hx hZ hown (hw _ (List.mem_of_getElem? (i := 20) rfl)) (hw _ (List.mem_of_getElem? (i := 21) rfl)) (hw _ (List.mem_of_getElem? (i := 22) rfl)) e0 (g := (mkF m 1 #[.val (.ref a1), .val (.ref a2), .val (.int (0 : Int32))] [(.ref a1)])) rfl (by rw [hml]; rfl) rfl (hb hby d_jdk_42_method_151_code_1) (by decide) (W := 0) (by show 2 * 0 + _ ≤ _; exact Nat.le_of_eq rfl) (by decide)
  have pre2 : ∀ t, Steps p.tables e below (T1.setTop (mkF m 4 #[.val (.ref a1), .val (.ref a2), .val (.int (0 : Int32))] [])) t → Steps p.tables e below (s₁.setTop (entryFrame m #[(.ref a1), (.ref a2), (.int (0 : Int32))] 3)) t := by
    intro t kk
    refine pre0 t ?_
    show Steps p.tables e below (s₁.setTop (mkF m 0 #[.val (.ref a1), .val (.ref a2), .val (.int (0 : Int32))] [])) _
    refine XS.aloadN X0.here hx rfl (hb hby d_jdk_42_method_151_code_0) rfl rfl ?_
    show Steps p.tables e below (s₁.setTop (mkF m 1 #[.val (.ref a1), .val (.ref a2), .val (.int (0 : Int32))] [(.ref a1)])) _
    exact st1 _ kk
  obtain ⟨u3, U3⟩ := Obj.fld O1 (Or.inr (hw _ (List.mem_of_getElem? (i := 24) rfl))) (hw _ (List.mem_of_getElem? (i := 11) rfl))
  obtain ⟨T3, h3, X3, e3, W3, st3⟩ := putF X1 hx hZ hown (host := "") (Or.inl (hw _ (List.mem_of_getElem? (i := 23) rfl))) Via.refl e1 U3 O1.exa (Or.inr ⟨(hw _ (List.mem_of_getElem? (i := 24) rfl)), rfl, hnm⟩) (hw _ (List.mem_of_getElem? (i := 11) rfl)) (ty := (.array .byte)) (by decide) rfl rfl (g := (mkF m 6 #[.val (.ref a1), .val (.ref a2), .val (.int (0 : Int32))] [(.ref a2), (.ref a1)])) rfl rfl (hb hby d_jdk_42_method_151_code_6)
  have N3 := Fr.snoc X3 N0 g1
  have Fw3 := U3.same W3
  have pre4 : ∀ t, Steps p.tables e below (T3.setTop (mkF m 9 #[.val (.ref a1), .val (.ref a2), .val (.int (0 : Int32))] [])) t → Steps p.tables e below (s₁.setTop (entryFrame m #[(.ref a1), (.ref a2), (.int (0 : Int32))] 3)) t := by
    intro t kk
    refine pre2 t ?_
    show Steps p.tables e below (T1.setTop (mkF m 4 #[.val (.ref a1), .val (.ref a2), .val (.int (0 : Int32))] [])) _
    refine XS.aloadN X1.here hx rfl (hb hby d_jdk_42_method_151_code_4) rfl rfl ?_
    show Steps p.tables e below (T1.setTop (mkF m 5 #[.val (.ref a1), .val (.ref a2), .val (.int (0 : Int32))] [(.ref a1)])) _
    refine XS.aloadN X1.here hx rfl (hb hby d_jdk_42_method_151_code_5) rfl rfl ?_
    show Steps p.tables e below (T1.setTop (mkF m 6 #[.val (.ref a1), .val (.ref a2), .val (.int (0 : Int32))] [(.ref a2), (.ref a1)])) _
    exact st3 _ kk
  have c5 := (O1.wr W3)
  obtain ⟨u6, U6⟩ := Obj.fld c5 (Or.inr (hw _ (List.mem_of_getElem? (i := 26) rfl))) (hw _ (List.mem_of_getElem? (i := 11) rfl))
  obtain ⟨T6, h6, X6, e6, W6, st6⟩ := putF X3 hx hZ hown (host := "") (Or.inl (hw _ (List.mem_of_getElem? (i := 25) rfl))) Via.refl e3 U6 c5.exa (Or.inr ⟨(hw _ (List.mem_of_getElem? (i := 26) rfl)), rfl, hnm⟩) (hw _ (List.mem_of_getElem? (i := 11) rfl)) (ty := .byte) (by decide) rfl rfl (g := (mkF m 11 #[.val (.ref a1), .val (.ref a2), .val (.int (0 : Int32))] [(.int (0 : Int32)), (.ref a1)])) rfl rfl (hb hby d_jdk_42_method_151_code_11)
  have N6 := Fr.snoc X6 N3 g1
  have Fw6 := U6.same W6
  have pre7 : ∀ t, Steps p.tables e below (T6.setTop (mkF m 14 #[.val (.ref a1), .val (.ref a2), .val (.int (0 : Int32))] [])) t → Steps p.tables e below (s₁.setTop (entryFrame m #[(.ref a1), (.ref a2), (.int (0 : Int32))] 3)) t := by
    intro t kk
    refine pre4 t ?_
    show Steps p.tables e below (T3.setTop (mkF m 9 #[.val (.ref a1), .val (.ref a2), .val (.int (0 : Int32))] [])) _
    refine XS.aloadN X3.here hx rfl (hb hby d_jdk_42_method_151_code_9) rfl rfl ?_
    show Steps p.tables e below (T3.setTop (mkF m 10 #[.val (.ref a1), .val (.ref a2), .val (.int (0 : Int32))] [(.ref a1)])) _
    refine XS.iloadN X3.here hx rfl (hb hby d_jdk_42_method_151_code_10) rfl ?_
    show Steps p.tables e below (T3.setTop (mkF m 11 #[.val (.ref a1), .val (.ref a2), .val (.int (0 : Int32))] [(.int (0 : Int32)), (.ref a1)])) _
    exact st6 _ kk
  have c8 := (((Keep.refl h0 [a1]).wr W3 (Or.inl (List.mem_of_getElem? (i := 0) rfl))).wr W6 (Or.inl (List.mem_of_getElem? (i := 0) rfl)))
  have c9 := (Fw3.other W6 (Or.inr (slot_ne (Or.inr (hw _ (List.mem_of_getElem? (i := 24) rfl))) (Or.inr (hw _ (List.mem_of_getElem? (i := 26) rfl))) (by decide) (t := (.array .byte)) (t' := .byte) (by decide) (by decide))))
  obtain ⟨fs, hr, hrun, hended, hW, hsame⟩ := X6.leave (v := none) (fun _ => rfl)
  refine ⟨_, _, pre7 _ ?_, hrun, hended, _, _, rfl, ?_, ⟨_, rfl⟩, hW, hsame.mono (by decide) (by decide)⟩
  · show Steps p.tables e below (T6.setTop (mkF m 14 #[.val (.ref a1), .val (.ref a2), .val (.int (0 : Int32))] [])) _
    exact X6.returnOut hx Bd.returns (hb hby d_jdk_42_method_151_code_14) hr
  · show Q_own_sbb Z a1 a2 h0 n0 _ T6.heap _
    rw [e6]
    exact ⟨rfl, N6, c8, c9, Fw6⟩
theorem d_jdk_42_method_139_code_0 : decode jdk_42_method_139_code 0 = .ok (.getstatic 38, 3) := by decide +kernel
theorem d_jdk_42_method_139_code_3 : decode jdk_42_method_139_code 3 = .ok (.ifCond .eq 23, 3) := by decide +kernel
theorem d_jdk_42_method_139_code_6 : decode jdk_42_method_139_code 6 = .ok (.iload_n 0, 1) := by decide +kernel
theorem pd__C_Z : parseMethodDescriptor "(C)Z" = some ⟨[.char], some .boolean⟩ := by decide +kernel
theorem d_jdk_42_method_139_code_7 : decode jdk_42_method_139_code 7 = .ok (.invokestatic 1015, 3) := by decide +kernel
theorem d_jdk_42_method_139_code_10 : decode jdk_42_method_139_code 10 = .ok (.ifCond .eq 16, 3) := by decide +kernel
theorem d_jdk_42_method_139_code_13 : decode jdk_42_method_139_code 13 = .ok (.new 10, 3) := by decide +kernel
theorem d_jdk_42_method_139_code_16 : decode jdk_42_method_139_code 16 = .ok (.dup, 1) := by decide +kernel
theorem d_jdk_42_method_139_code_17 : decode jdk_42_method_139_code 17 = .ok (.iload_n 0, 1) := by decide +kernel
theorem pd__C__B : parseMethodDescriptor "(C)[B" = some ⟨[.char], some (.array .byte)⟩ := by decide +kernel
theorem d_jdk_42_method_139_code_18 : decode jdk_42_method_139_code 18 = .ok (.invokestatic 1018, 3) := by decide +kernel
theorem d_jdk_42_method_139_code_21 : decode jdk_42_method_139_code 21 = .ok (.iconst 0, 1) := by decide +kernel
theorem pd___BB_V : parseMethodDescriptor "([BB)V" = some ⟨[(.array .byte), .byte], none⟩ := by decide +kernel
theorem d_jdk_42_method_139_code_22 : decode jdk_42_method_139_code 22 = .ok (.invokespecial 209, 3) := by decide +kernel
theorem d_jdk_42_method_139_code_25 : decode jdk_42_method_139_code 25 = .ok (.areturn, 1) := by decide +kernel
theorem ef_own_vo (m : MethodId) {ch : Int32} : entryFrame m #[(.int ch)] 1 = mkF m 0 #[.val (.int ch)] [] := by first | (simp [entryFrame, mkF, argsToLocals, Value.category]; done) | rfl
def Q_own_vo (Z : State) (ch G1 : Int32) (h0 : Heap) (n0 : Nat) (v : Option Value) (h : Heap) (L : List Loc) : Prop := ∃ (r b : Addr) (k : ClassId), v = some (.ref r) ∧ Fr n0 L ∧ Keep h0 h [] ∧ h0.size ≤ r ∧ Exa Z h r "java/lang/String" ∧ Fld Z h r "java/lang/String" "value" "[B" (.ref b) ∧ Fld Z h r "java/lang/String" "coder" "B" (.int (0 : Int32)) ∧ Arv Z h b k .byte (1 : Int32) [(.int ch.toInt8.toInt32)] (.int (0 : Int32)) ∧ h0.size ≤ b
set_option maxRecDepth 65536 in
set_option maxHeartbeats 40000000 in
theorem own_vo (l : Launch) (Z : State) (a0 : Array Value) (hw : ∀ d ∈ tables_1, d.before a0 Z = true) (ws : List Jvm.Cond) (ch G1 : Int32) (h0 : Heap) (n0 : Nat) (Z0 : n0 ≤ h0.size) (hc : ¬ (255 : Int32) < ch) (O2 : Sta Z Z.heap "java/lang/String" "COMPACT_STRINGS" "Z" (.int G1)) (P5 : ¬ G1 = (0 : Int32)) (XO : Old Z n0 h0) :
    MetFree l (⟨"java/lang/String", "valueOf", "(C)Ljava/lang/String;"⟩ : MethodName) (head1 (Jvm.Cond.code (⟨"java/lang/String", "valueOf", "(C)Ljava/lang/String;"⟩ : MethodName) jdk_42_method_139_code 1 (some (.object "java/lang/String")) :: ws) ({ frames := 2, cells := 2, slots := 5, locals := 29 } : Room)) (fun a U => a = #[(.int ch)] ∧ Z.Warmed39 U.vm ∧ U.heap = h0) (fun _ _ _ _ _ => True) (fun _ U o U' => ∃ v L, o = .returned v ∧ Q_own_vo Z ch G1 h0 n0 v U'.heap L ∧ FrameEnd U o U' L ({ frames := 2, cells := 2, slots := 5, locals := 29 } : Room).cells ({ frames := 2, cells := 2, slots := 5, locals := 29 } : Room).slots) := by
  refine MetFree.of_bodySF (plainFor_of_name pn_java_lang_String) hisR ?_
  intro p e s m args below meth c s₁ Bd hml0 hP hK
  obtain ⟨rfl, hZ, hh⟩ := hP
  have hx := Bd.exec
  have hby := Bd.bytes
  have hml : c.maxLocals = 1 := hml0
  have hown : s.vm.findClass "java/lang/String" = some m.cls := findClass_of_methodNamed Bd.named
  have hnm := (name_of_methodNamed Bd.named Bd.method).1
  have X0 : Stand p l e ({ frames := 2, cells := 2, slots := 5, locals := 29 } : Room) s m #[(.int ch)] below meth c s₁ [] 0 0 := Stand.of_body Bd
  have e0 : s₁.heap = h0 := by rw [← hh, Bd.state]; rfl
  have N0 := Fr.nil n0
  have pre0 : ∀ t, Steps p.tables e below (s₁.setTop (mkF m 0 #[.val (.int ch)] [])) t → Steps p.tables e below (s₁.setTop (entryFrame m #[(.int ch)] 1)) t := fun t k => castTop (ef_own_vo m) k
  obtain ⟨T1, X1, e1, st1⟩ := getS2 X0 hx hZ hown (host := "") (Or.inl (hw _ (List.mem_of_getElem? (i := 5) rfl))) Via.refl e0 (O2.ext XO.2) (g := (mkF m 0 #[.val (.int ch)] [])) rfl (hb hby d_jdk_42_method_139_code_0)
  have pre2 : ∀ t, Steps p.tables e below (T1.setTop (mkF m 3 #[.val (.int ch)] [(.int G1)])) t → Steps p.tables e below (s₁.setTop (entryFrame m #[(.int ch)] 1)) t := by
    intro t kk
    refine pre0 t ?_
    show Steps p.tables e below (s₁.setTop (mkF m 0 #[.val (.int ch)] [])) _
    exact st1 _ kk
  obtain ⟨_, _, ⟨T3, L3, k3, n3⟩, -, X3, ⟨Lc3, hQ3, l3, y3, z3⟩, st3⟩ := Jvm.LawKit.callS X1 hx (y := (⟨"java/lang/StringLatin1", "canEncode", "(C)Z"⟩ : MethodName)) hown (mvT hZ (hw _ (List.mem_of_getElem? (i := 6) rfl))) (mvT hZ (hw _ (List.mem_of_getElem? (i := 7) rfl))) (mvT hZ (hw _ (List.mem_of_getElem? (i := 8) rfl))) (mvT hZ (hw _ (List.mem_of_getElem? (i := 9) rfl))) (by decide) (backOf (W := 0) (own_ce l Z a0 hw [] ch h0 n0 Z0 hc) hZ (hw _ (List.mem_of_getElem? (i := 9) rfl)) (hw _ (List.mem_of_getElem? (i := 8) rfl)) (by decide) (by decide)) (g := (mkF m 7 #[.val (.int ch)] [(.int ch)])) rfl (by rw [hml]; rfl) (argsL := [(.int ch)]) (rest := []) (lenOf pd__C_Z rfl) rfl (by show 2 * 0 + _ ≤ _; exact Nat.le_of_eq rfl) (hb hby d_jdk_42_method_139_code_7) (fun _ _ => ⟨rfl, e1, (by decide : 0 + 0 ≤ _), (by decide : 0 + 0 ≤ _)⟩)
  dsimp only [Pt.U, Pt.locs, Pt.cells, Pt.slots] at X3 l3 y3 z3 st3 hQ3
  subst l3 y3 z3
  obtain ⟨rfl, N3q, e3q⟩ := hQ3
  have N3 := Fr.app N0 N3q
  have pre4 : ∀ t, Steps p.tables e below (T3.setTop (mkF m 10 #[.val (.int ch)] [(.int (1 : Int32))])) t → Steps p.tables e below (s₁.setTop (entryFrame m #[(.int ch)] 1)) t := by
    intro t kk
    refine pre2 t ?_
    show Steps p.tables e below (T1.setTop (mkF m 3 #[.val (.int ch)] [(.int G1)])) _
    refine XS.ifNo X1.here hx rfl (hb hby d_jdk_42_method_139_code_3) rfl ((if0 _ _).trans (feq P5).1) ?_
    show Steps p.tables e below (T1.setTop (mkF m 6 #[.val (.int ch)] [])) _
    refine XS.iloadN X1.here hx rfl (hb hby d_jdk_42_method_139_code_6) rfl ?_
    show Steps p.tables e below (T1.setTop (mkF m 7 #[.val (.int ch)] [(.int ch)])) _
    exact st3 _ kk
  obtain ⟨b5, g5⟩ : ∃ z, z = h0.size := ⟨_, rfl⟩
  have lo_b5 : n0 ≤ b5 := Nat.le_trans Z0 (Nat.le_of_eq g5.symm)
  have hi_b5 : h0.size ≤ b5 := Nat.le_trans (Keep.refl h0 []).1 (Nat.le_of_eq g5.symm)
  obtain ⟨T5, h5, X5, e5, E5, A5, D5, B5, st5⟩ := newO X3 hx hZ hown (hw _ (List.mem_of_getElem? (i := 10) rfl)) (hw _ (List.mem_of_getElem? (i := 11) rfl)) (hw _ (List.mem_of_getElem? (i := 3) rfl)) e3q (g := (mkF m 13 #[.val (.int ch)] [])) rfl (hb hby d_jdk_42_method_139_code_13) (by decide) (by decide)
  rw [← g5] at A5 D5 B5 st5
  have O5 := Obj.of A5 B5
  have pre6 : ∀ t, Steps p.tables e below (T5.setTop (mkF m 16 #[.val (.int ch)] [(.ref b5)])) t → Steps p.tables e below (s₁.setTop (entryFrame m #[(.int ch)] 1)) t := by
    intro t kk
    refine pre4 t ?_
    show Steps p.tables e below (T3.setTop (mkF m 10 #[.val (.int ch)] [(.int (1 : Int32))])) _
    refine XS.ifNo X3.here hx rfl (hb hby d_jdk_42_method_139_code_10) rfl ((if0 _ _).trans (feq (by decide)).1) ?_
    show Steps p.tables e below (T3.setTop (mkF m 13 #[.val (.int ch)] [])) _
    exact st5 _ kk
  have c8 := (Nat.le_trans Z0 E5.1)
  obtain ⟨_, _, ⟨T7, L7, k7, n7⟩, -, X7, ⟨Lc7, hQ7, l7, y7, z7⟩, st7⟩ := Jvm.LawKit.callS X5 hx (y := (⟨"java/lang/StringLatin1", "toBytes", "(C)[B"⟩ : MethodName)) hown (mvT hZ (hw _ (List.mem_of_getElem? (i := 12) rfl))) (mvT hZ (hw _ (List.mem_of_getElem? (i := 13) rfl))) (mvT hZ (hw _ (List.mem_of_getElem? (i := 8) rfl))) (mvT hZ (hw _ (List.mem_of_getElem? (i := 14) rfl))) (by decide) (backOf (W := 2) (own_tb l Z a0 hw [] ch h5 n0 c8) hZ (hw _ (List.mem_of_getElem? (i := 14) rfl)) (hw _ (List.mem_of_getElem? (i := 8) rfl)) (by decide) (by decide)) (g := (mkF m 18 #[.val (.int ch)] [(.int ch), (.ref b5), (.ref b5)])) rfl (by rw [hml]; rfl) (argsL := [(.int ch)]) (rest := [(.ref b5), (.ref b5)]) (lenOf pd__C__B rfl) rfl (by show 2 * 0 + _ ≤ _; exact Nat.le_of_eq rfl) (hb hby d_jdk_42_method_139_code_18) (fun _ _ => ⟨rfl, e5, (by decide : 1 + 1 ≤ _), (by decide : 4 + 1 ≤ _)⟩)
  dsimp only [Pt.U, Pt.locs, Pt.cells, Pt.slots] at X7 l7 y7 z7 st7 hQ7
  subst l7 y7 z7
  obtain ⟨b7, kb7, rfl, N7q, K7, hb7, V7⟩ := hQ7
  have N7 := Fr.app N3 N7q
  have pre9 : ∀ t, Steps p.tables e below (T7.setTop (mkF m 21 #[.val (.int ch)] [(.ref b7), (.ref b5), (.ref b5)])) t → Steps p.tables e below (s₁.setTop (entryFrame m #[(.int ch)] 1)) t := by
    intro t kk
    refine pre6 t ?_
    show Steps p.tables e below (T5.setTop (mkF m 16 #[.val (.int ch)] [(.ref b5)])) _
    refine XS.dup X5.here hx rfl (hb hby d_jdk_42_method_139_code_16) rfl rfl ?_
    show Steps p.tables e below (T5.setTop (mkF m 17 #[.val (.int ch)] [(.ref b5), (.ref b5)])) _
    refine XS.iloadN X5.here hx rfl (hb hby d_jdk_42_method_139_code_17) rfl ?_
    show Steps p.tables e below (T5.setTop (mkF m 18 #[.val (.int ch)] [(.int ch), (.ref b5), (.ref b5)])) _
    exact st7 _ kk
  have ne_b5_b7 : b5 ≠ b7 := Nat.ne_of_lt (Nat.lt_of_lt_of_le O5.lt hb7)
  have hi_b7 : h0.size ≤ b7 := Nat.le_trans ((Keep.refl h0 []).ext E5).1 hb7
  have c10 := (O5.keep K7)
  have c12 := (Nat.le_trans c8 K7.1)
  obtain ⟨_, _, ⟨T11, L11, k11, n11⟩, -, X11, ⟨Lc11, hQ11, l11, y11, z11⟩, st11⟩ := X7.specialBack hx (y := (⟨"java/lang/String", "<init>", "([BB)V"⟩ : MethodName)) rfl hown (mvT hZ (hw _ (List.mem_of_getElem? (i := 16) rfl))) (mvT hZ (hw _ (List.mem_of_getElem? (i := 17) rfl))) (mvT hZ (hw _ (List.mem_of_getElem? (i := 19) rfl))) (by decide) (backOf (W := 1) (own_sbb l Z a0 hw [] b5 b7 T7.heap n0 c12 c10 lo_b5) hZ (hw _ (List.mem_of_getElem? (i := 19) rfl)) (hw _ (List.mem_of_getElem? (i := 3) rfl)) (by decide) (by decide)) (g := (mkF m 22 #[.val (.int ch)] [(.int (0 : Int32)), (.ref b7), (.ref b5), (.ref b5)])) rfl (by rw [hml]; rfl) (Steps.refl _) (a := b5) (argsL := [(.ref b7), (.int (0 : Int32))]) (rest := [(.ref b5)]) (lenOf pd___BB_V rfl) rfl (by show 2 * 0 + _ ≤ _; exact Nat.le_of_eq rfl) (hb hby d_jdk_42_method_139_code_22) (fun _ _ => ⟨rfl, rfl, (by decide : 2 + 0 ≤ _), (by decide : 5 + 0 ≤ _)⟩)
  dsimp only [Pt.U, Pt.locs, Pt.cells, Pt.slots] at X11 l11 y11 z11 st11 hQ11
  subst l11 y11 z11
  obtain ⟨rfl, N11q, K11, Fv11, Fc11⟩ := hQ11
  have N11 := Fr.app N7 N11q
  have pre13 : ∀ t, Steps p.tables e below (T11.setTop (mkF m 25 #[.val (.int ch)] [(.ref b5)])) t → Steps p.tables e below (s₁.setTop (entryFrame m #[(.int ch)] 1)) t := by
    intro t kk
    refine pre9 t ?_
    show Steps p.tables e below (T7.setTop (mkF m 21 #[.val (.int ch)] [(.ref b7), (.ref b5), (.ref b5)])) _
    refine XS.iconst X7.here hx rfl (hb hby d_jdk_42_method_139_code_21) ?_
    show Steps p.tables e below (T7.setTop (mkF m 22 #[.val (.int ch)] [(.int (0 : Int32)), (.ref b7), (.ref b5), (.ref b5)])) _
    exact st11.trans kk
  have c14 := ((((Keep.refl h0 []).ext E5).trans K7 all0).trans K11 (allS (Or.inr hi_b5) all0))
  have c15 := (c10.keep K11)
  have c16 := (V7.keep K11 (ninS (Ne.symm ne_b5_b7) nin0))
  obtain ⟨fs, hr, hrun, hended, hW, hsame⟩ := X11.leave (v := some (.ref b5)) (fun h => by rw [Bd.returns] at h; cases h)
  refine ⟨_, _, pre13 _ ?_, hrun, hended, _, _, rfl, ?_, ⟨_, rfl⟩, hW, hsame.mono (by decide) (by decide)⟩
  · show Steps p.tables e below (T11.setTop (mkF m 25 #[.val (.int ch)] [(.ref b5)])) _
    jvm_step X11.here [X11.here.top, hx, (hb hby d_jdk_42_method_139_code_25), X11.method', Bd.returns, Value.isRef, FieldType.isReference]
    first | (intro acts; rw [hr _ acts rfl rfl rfl]) | rw [hr _ _ rfl rfl rfl]
    exact Steps.refl _
  · show Q_own_vo Z ch G1 h0 n0 _ T11.heap _
    exact ⟨b5, b7, kb7, rfl, N11, c14, hi_b5, c15.exa, Fv11, Fc11, c16, hi_b7⟩
theorem d_prog_23_method_13_code_0 : decode prog_23_method_13_code 0 = .ok (.aload_n 0, 1) := by decide +kernel
theorem d_prog_23_method_13_code_1 : decode prog_23_method_13_code 1 = .ok (.dup, 1) := by decide +kernel
theorem d_prog_23_method_13_code_2 : decode prog_23_method_13_code 2 = .ok (.getfield 137, 3) := by decide +kernel
theorem d_prog_23_method_13_code_5 : decode prog_23_method_13_code 5 = .ok (.iload_n 1, 1) := by decide +kernel
theorem d_prog_23_method_13_code_6 : decode prog_23_method_13_code 6 = .ok (.iadd, 1) := by decide +kernel
theorem d_prog_23_method_13_code_7 : decode prog_23_method_13_code 7 = .ok (.putfield 137, 3) := by decide +kernel
theorem d_prog_23_method_13_code_10 : decode prog_23_method_13_code 10 = .ok (.return_, 1) := by decide +kernel
theorem ef_own_fask (m : MethodId) {a1 : Addr} {p1 : Int32} : entryFrame m #[(.ref a1), (.int p1)] 2 = mkF m 0 #[.val (.ref a1), .val (.int p1)] [] := by first | (simp [entryFrame, mkF, argsToLocals, Value.category]; done) | rfl
def Q_own_fask (Z : State) (a1 : Addr) (p1 f : Int32) (h0 : Heap) (n0 : Nat) (v : Option Value) (h : Heap) (L : List Loc) : Prop := v = none ∧ Fr n0 L ∧ Keep h0 h [a1] ∧ Fld Z h a1 "coterie/causal/Group" "flushing" "I" (.int (f + p1))
set_option maxRecDepth 65536 in
set_option maxHeartbeats 40000000 in
theorem own_fask (l : Launch) (Z : State) (a0 : Array Value) (hw : ∀ d ∈ tables_1, d.before a0 Z = true) (ws : List Jvm.Cond) (a1 : Addr) (p1 f : Int32) (h0 : Heap) (n0 : Nat) (Z0 : n0 ≤ h0.size) (O1 : Obj Z h0 a1 "coterie/causal/Group") (g1 : n0 ≤ a1) (F1 : Fld Z h0 a1 "coterie/causal/Group" "flushing" "I" (.int f)) :
    MetFree l (⟨"coterie/causal/Group", "flushAsked", "(I)V"⟩ : MethodName) (head1 (Jvm.Cond.code (⟨"coterie/causal/Group", "flushAsked", "(I)V"⟩ : MethodName) prog_23_method_13_code 2 none :: ws) ({ frames := 0, cells := 0, slots := 0, locals := 0 } : Room)) (fun a U => a = #[(.ref a1), (.int p1)] ∧ Z.Warmed39 U.vm ∧ U.heap = h0) (fun _ _ _ _ _ => True) (fun _ U o U' => ∃ v L, o = .returned v ∧ Q_own_fask Z a1 p1 f h0 n0 v U'.heap L ∧ FrameEnd U o U' L ({ frames := 0, cells := 0, slots := 0, locals := 0 } : Room).cells ({ frames := 0, cells := 0, slots := 0, locals := 0 } : Room).slots) := by
  refine MetFree.of_bodySF (plainFor_of_name pn_coterie_causal_Group) hisR ?_
  intro p e s m args below meth c s₁ Bd hml0 hP hK
  obtain ⟨rfl, hZ, hh⟩ := hP
  have hx := Bd.exec
  have hby := Bd.bytes
  have hml : c.maxLocals = 2 := hml0
  have hown : s.vm.findClass "coterie/causal/Group" = some m.cls := findClass_of_methodNamed Bd.named
  have hnm := (name_of_methodNamed Bd.named Bd.method).1
  have X0 : Stand p l e ({ frames := 0, cells := 0, slots := 0, locals := 0 } : Room) s m #[(.ref a1), (.int p1)] below meth c s₁ [] 0 0 := Stand.of_body Bd
  have e0 : s₁.heap = h0 := by rw [← hh, Bd.state]; rfl
  have N0 := Fr.nil n0
  have pre0 : ∀ t, Steps p.tables e below (s₁.setTop (mkF m 0 #[.val (.ref a1), .val (.int p1)] [])) t → Steps p.tables e below (s₁.setTop (entryFrame m #[(.ref a1), (.int p1)] 2)) t := fun t k => castTop (ef_own_fask m) k
  obtain ⟨T1, X1, e1, st1⟩ := getF X0 hx hZ hown (host := "") (Or.inl (hw _ (List.mem_of_getElem? (i := 114) rfl))) Via.refl e0 F1 (g := (mkF m 2 #[.val (.ref a1), .val (.int p1)] [(.ref a1), (.ref a1)])) rfl rfl (hb hby d_prog_23_method_13_code_2)
  have pre2 : ∀ t, Steps p.tables e below (T1.setTop (mkF m 5 #[.val (.ref a1), .val (.int p1)] [(.int f), (.ref a1)])) t → Steps p.tables e below (s₁.setTop (entryFrame m #[(.ref a1), (.int p1)] 2)) t := by
    intro t kk
    refine pre0 t ?_
    show Steps p.tables e below (s₁.setTop (mkF m 0 #[.val (.ref a1), .val (.int p1)] [])) _
    refine XS.aloadN X0.here hx rfl (hb hby d_prog_23_method_13_code_0) rfl rfl ?_
    show Steps p.tables e below (s₁.setTop (mkF m 1 #[.val (.ref a1), .val (.int p1)] [(.ref a1)])) _
    refine XS.dup X0.here hx rfl (hb hby d_prog_23_method_13_code_1) rfl rfl ?_
    show Steps p.tables e below (s₁.setTop (mkF m 2 #[.val (.ref a1), .val (.int p1)] [(.ref a1), (.ref a1)])) _
    exact st1 _ kk
  obtain ⟨T3, h3, X3, e3, W3, st3⟩ := putF X1 hx hZ hown (host := "") (Or.inl (hw _ (List.mem_of_getElem? (i := 114) rfl))) Via.refl e1 F1 O1.exa (Or.inl (hw _ (List.mem_of_getElem? (i := 115) rfl))) (hw _ (List.mem_of_getElem? (i := 28) rfl)) (ty := .int) (by decide) rfl rfl (g := (mkF m 7 #[.val (.ref a1), .val (.int p1)] [(.int (f + p1)), (.ref a1)])) rfl rfl (hb hby d_prog_23_method_13_code_7)
  have N3 := Fr.snoc X3 N0 g1
  have Fw3 := F1.same W3
  have pre4 : ∀ t, Steps p.tables e below (T3.setTop (mkF m 10 #[.val (.ref a1), .val (.int p1)] [])) t → Steps p.tables e below (s₁.setTop (entryFrame m #[(.ref a1), (.int p1)] 2)) t := by
    intro t kk
    refine pre2 t ?_
    show Steps p.tables e below (T1.setTop (mkF m 5 #[.val (.ref a1), .val (.int p1)] [(.int f), (.ref a1)])) _
    refine XS.iloadN X1.here hx rfl (hb hby d_prog_23_method_13_code_5) rfl ?_
    show Steps p.tables e below (T1.setTop (mkF m 6 #[.val (.ref a1), .val (.int p1)] [(.int p1), (.int f), (.ref a1)])) _
    refine XS.iadd X1.here hx rfl (hb hby d_prog_23_method_13_code_6) rfl ?_
    show Steps p.tables e below (T1.setTop (mkF m 7 #[.val (.ref a1), .val (.int p1)] [(.int (f + p1)), (.ref a1)])) _
    exact st3 _ kk
  have c5 := ((Keep.refl h0 [a1]).wr W3 (Or.inl (List.mem_of_getElem? (i := 0) rfl)))
  obtain ⟨fs, hr, hrun, hended, hW, hsame⟩ := X3.leave (v := none) (fun _ => rfl)
  refine ⟨_, _, pre4 _ ?_, hrun, hended, _, _, rfl, ?_, ⟨_, rfl⟩, hW, hsame.mono (by decide) (by decide)⟩
  · show Steps p.tables e below (T3.setTop (mkF m 10 #[.val (.ref a1), .val (.int p1)] [])) _
    exact X3.returnOut hx Bd.returns (hb hby d_prog_23_method_13_code_10) hr
  · show Q_own_fask Z a1 p1 f h0 n0 _ T3.heap _
    rw [e3]
    exact ⟨rfl, N3, c5, Fw3⟩
theorem d_prog_23_method_14_code_0 : decode prog_23_method_14_code 0 = .ok (.aload_n 0, 1) := by decide +kernel
theorem d_prog_23_method_14_code_1 : decode prog_23_method_14_code 1 = .ok (.dup, 1) := by decide +kernel
theorem d_prog_23_method_14_code_2 : decode prog_23_method_14_code 2 = .ok (.getfield 137, 3) := by decide +kernel
theorem d_prog_23_method_14_code_5 : decode prog_23_method_14_code 5 = .ok (.iconst 1, 1) := by decide +kernel
theorem d_prog_23_method_14_code_6 : decode prog_23_method_14_code 6 = .ok (.isub, 1) := by decide +kernel
theorem d_prog_23_method_14_code_7 : decode prog_23_method_14_code 7 = .ok (.dup_x1, 1) := by decide +kernel
theorem d_prog_23_method_14_code_8 : decode prog_23_method_14_code 8 = .ok (.putfield 137, 3) := by decide +kernel
theorem d_prog_23_method_14_code_11 : decode prog_23_method_14_code 11 = .ok (.ifCond .ne 7, 3) := by decide +kernel
theorem d_prog_23_method_14_code_14 : decode prog_23_method_14_code 14 = .ok (.iconst 1, 1) := by decide +kernel
theorem d_prog_23_method_14_code_15 : decode prog_23_method_14_code 15 = .ok (.goto 4, 3) := by decide +kernel
theorem d_prog_23_method_14_code_19 : decode prog_23_method_14_code 19 = .ok (.ireturn, 1) := by decide +kernel
theorem d_prog_23_method_14_code_18 : decode prog_23_method_14_code 18 = .ok (.iconst 0, 1) := by decide +kernel
theorem ef_own_fans (m : MethodId) {a1 : Addr} : entryFrame m #[(.ref a1)] 1 = mkF m 0 #[.val (.ref a1)] [] := by first | (simp [entryFrame, mkF, argsToLocals, Value.category]; done) | rfl
def Q_own_fans (Z : State) (a1 : Addr) (f : Int32) (h0 : Heap) (n0 : Nat) (v : Option Value) (h : Heap) (L : List Loc) : Prop := ∃ r : Int32, v = some (.int r) ∧ Fr n0 L ∧ Keep h0 h [a1] ∧ Fld Z h a1 "coterie/causal/Group" "flushing" "I" (.int (f - 1)) ∧ (f - 1 = 0 → r = 1) ∧ (¬ f - 1 = 0 → r = 0)
set_option maxRecDepth 65536 in
set_option maxHeartbeats 40000000 in
theorem own_fans (l : Launch) (Z : State) (a0 : Array Value) (hw : ∀ d ∈ tables_1, d.before a0 Z = true) (ws : List Jvm.Cond) (a1 : Addr) (f : Int32) (h0 : Heap) (n0 : Nat) (Z0 : n0 ≤ h0.size) (O1 : Obj Z h0 a1 "coterie/causal/Group") (g1 : n0 ≤ a1) (F1 : Fld Z h0 a1 "coterie/causal/Group" "flushing" "I" (.int f)) :
    MetFree l (⟨"coterie/causal/Group", "flushAnswered", "()Z"⟩ : MethodName) (head1 (Jvm.Cond.code (⟨"coterie/causal/Group", "flushAnswered", "()Z"⟩ : MethodName) prog_23_method_14_code 1 (some .boolean) :: ws) ({ frames := 0, cells := 0, slots := 0, locals := 0 } : Room)) (fun a U => a = #[(.ref a1)] ∧ Z.Warmed39 U.vm ∧ U.heap = h0) (fun _ _ _ _ _ => True) (fun _ U o U' => ∃ v L, o = .returned v ∧ Q_own_fans Z a1 f h0 n0 v U'.heap L ∧ FrameEnd U o U' L ({ frames := 0, cells := 0, slots := 0, locals := 0 } : Room).cells ({ frames := 0, cells := 0, slots := 0, locals := 0 } : Room).slots) := by
  refine MetFree.of_bodySF (plainFor_of_name pn_coterie_causal_Group) hisR ?_
  intro p e s m args below meth c s₁ Bd hml0 hP hK
  obtain ⟨rfl, hZ, hh⟩ := hP
  have hx := Bd.exec
  have hby := Bd.bytes
  have hml : c.maxLocals = 1 := hml0
  have hown : s.vm.findClass "coterie/causal/Group" = some m.cls := findClass_of_methodNamed Bd.named
  have hnm := (name_of_methodNamed Bd.named Bd.method).1
  have X0 : Stand p l e ({ frames := 0, cells := 0, slots := 0, locals := 0 } : Room) s m #[(.ref a1)] below meth c s₁ [] 0 0 := Stand.of_body Bd
  have e0 : s₁.heap = h0 := by rw [← hh, Bd.state]; rfl
  have N0 := Fr.nil n0
  have pre0 : ∀ t, Steps p.tables e below (s₁.setTop (mkF m 0 #[.val (.ref a1)] [])) t → Steps p.tables e below (s₁.setTop (entryFrame m #[(.ref a1)] 1)) t := fun t k => castTop (ef_own_fans m) k
  obtain ⟨T1, X1, e1, st1⟩ := getF X0 hx hZ hown (host := "") (Or.inl (hw _ (List.mem_of_getElem? (i := 114) rfl))) Via.refl e0 F1 (g := (mkF m 2 #[.val (.ref a1)] [(.ref a1), (.ref a1)])) rfl rfl (hb hby d_prog_23_method_14_code_2)
  have pre2 : ∀ t, Steps p.tables e below (T1.setTop (mkF m 5 #[.val (.ref a1)] [(.int f), (.ref a1)])) t → Steps p.tables e below (s₁.setTop (entryFrame m #[(.ref a1)] 1)) t := by
    intro t kk
    refine pre0 t ?_
    show Steps p.tables e below (s₁.setTop (mkF m 0 #[.val (.ref a1)] [])) _
    refine XS.aloadN X0.here hx rfl (hb hby d_prog_23_method_14_code_0) rfl rfl ?_
    show Steps p.tables e below (s₁.setTop (mkF m 1 #[.val (.ref a1)] [(.ref a1)])) _
    refine XS.dup X0.here hx rfl (hb hby d_prog_23_method_14_code_1) rfl rfl ?_
    show Steps p.tables e below (s₁.setTop (mkF m 2 #[.val (.ref a1)] [(.ref a1), (.ref a1)])) _
    exact st1 _ kk
  obtain ⟨T3, h3, X3, e3, W3, st3⟩ := putF X1 hx hZ hown (host := "") (Or.inl (hw _ (List.mem_of_getElem? (i := 114) rfl))) Via.refl e1 F1 O1.exa (Or.inl (hw _ (List.mem_of_getElem? (i := 115) rfl))) (hw _ (List.mem_of_getElem? (i := 28) rfl)) (ty := .int) (by decide) rfl rfl (g := (mkF m 8 #[.val (.ref a1)] [(.int (f - (1 : Int32))), (.ref a1), (.int (f - (1 : Int32)))])) rfl rfl (hb hby d_prog_23_method_14_code_8)
  have N3 := Fr.snoc X3 N0 g1
  have Fw3 := F1.same W3
  have pre4 : ∀ t, Steps p.tables e below (T3.setTop (mkF m 11 #[.val (.ref a1)] [(.int (f - (1 : Int32)))])) t → Steps p.tables e below (s₁.setTop (entryFrame m #[(.ref a1)] 1)) t := by
    intro t kk
    refine pre2 t ?_
    show Steps p.tables e below (T1.setTop (mkF m 5 #[.val (.ref a1)] [(.int f), (.ref a1)])) _
    refine XS.iconst X1.here hx rfl (hb hby d_prog_23_method_14_code_5) ?_
    show Steps p.tables e below (T1.setTop (mkF m 6 #[.val (.ref a1)] [(.int (1 : Int32)), (.int f), (.ref a1)])) _
    refine XS.isub X1.here hx rfl (hb hby d_prog_23_method_14_code_6) rfl ?_
    show Steps p.tables e below (T1.setTop (mkF m 7 #[.val (.ref a1)] [(.int (f - (1 : Int32))), (.ref a1)])) _
    refine XS.dupX1 X1.here hx rfl (hb hby d_prog_23_method_14_code_7) rfl rfl rfl ?_
    show Steps p.tables e below (T1.setTop (mkF m 8 #[.val (.ref a1)] [(.int (f - (1 : Int32))), (.ref a1), (.int (f - (1 : Int32)))])) _
    exact st3 _ kk
  have c5 := ((Keep.refl h0 [a1]).wr W3 (Or.inl (List.mem_of_getElem? (i := 0) rfl)))
  by_cases hc : (f - (1 : Int32)) = (0 : Int32)
  case pos =>
    obtain ⟨fs, hr, hrun, hended, hW, hsame⟩ := X3.leave (v := some (.int (1 : Int32))) (fun h => by rw [Bd.returns] at h; cases h)
    refine ⟨_, _, pre4 _ ?_, hrun, hended, _, _, rfl, ?_, ⟨_, rfl⟩, hW, hsame.mono (by decide) (by decide)⟩
    · show Steps p.tables e below (T3.setTop (mkF m 11 #[.val (.ref a1)] [(.int (f - (1 : Int32)))])) _
      refine XS.ifNo X3.here hx rfl (hb hby d_prog_23_method_14_code_11) rfl ((if0 _ _).trans (teq hc).2) ?_
      show Steps p.tables e below (T3.setTop (mkF m 14 #[.val (.ref a1)] [])) _
      refine XS.iconst X3.here hx rfl (hb hby d_prog_23_method_14_code_14) ?_
      show Steps p.tables e below (T3.setTop (mkF m 15 #[.val (.ref a1)] [(.int (1 : Int32))])) _
      refine XS.goto X3.here hx rfl (pc0 := 15) (pc' := 19) rfl (hb hby d_prog_23_method_14_code_15) (by decide) (by decide) ?_
      show Steps p.tables e below (T3.setTop (mkF m 19 #[.val (.ref a1)] [(.int (1 : Int32))])) _
      exact retN X3 hx (t := .boolean) Bd.returns (by simp) (hb hby d_prog_23_method_14_code_19) hr
    · show Q_own_fans Z a1 f h0 n0 _ T3.heap _
      rw [e3]
      exact ⟨1, rfl, N3, c5, Fw3, fun _ => rfl, fun q => absurd hc q⟩
  case neg =>
    obtain ⟨fs, hr, hrun, hended, hW, hsame⟩ := X3.leave (v := some (.int (0 : Int32))) (fun h => by rw [Bd.returns] at h; cases h)
    refine ⟨_, _, pre4 _ ?_, hrun, hended, _, _, rfl, ?_, ⟨_, rfl⟩, hW, hsame.mono (by decide) (by decide)⟩
    · show Steps p.tables e below (T3.setTop (mkF m 11 #[.val (.ref a1)] [(.int (f - (1 : Int32)))])) _
      refine XS.ifYes X3.here hx rfl (pc0 := 11) (pc' := 18) rfl (hb hby d_prog_23_method_14_code_11) rfl ((if0 _ _).trans (feq hc).2) (by decide) (by decide) ?_
      show Steps p.tables e below (T3.setTop (mkF m 18 #[.val (.ref a1)] [])) _
      refine XS.iconst X3.here hx rfl (hb hby d_prog_23_method_14_code_18) ?_
      show Steps p.tables e below (T3.setTop (mkF m 19 #[.val (.ref a1)] [(.int (0 : Int32))])) _
      exact retN X3 hx (t := .boolean) Bd.returns (by simp) (hb hby d_prog_23_method_14_code_19) hr
    · show Q_own_fans Z a1 f h0 n0 _ T3.heap _
      rw [e3]
      exact ⟨0, rfl, N3, c5, Fw3, fun q => absurd q hc, fun _ => rfl⟩
theorem d_prog_23_method_15_code_0 : decode prog_23_method_15_code 0 = .ok (.aload_n 0, 1) := by decide +kernel
theorem d_prog_23_method_15_code_1 : decode prog_23_method_15_code 1 = .ok (.getfield 137, 3) := by decide +kernel
theorem d_prog_23_method_15_code_4 : decode prog_23_method_15_code 4 = .ok (.ifCond .le 7, 3) := by decide +kernel
theorem d_prog_23_method_15_code_7 : decode prog_23_method_15_code 7 = .ok (.iconst 1, 1) := by decide +kernel
theorem d_prog_23_method_15_code_8 : decode prog_23_method_15_code 8 = .ok (.goto 4, 3) := by decide +kernel
theorem d_prog_23_method_15_code_12 : decode prog_23_method_15_code 12 = .ok (.ireturn, 1) := by decide +kernel
theorem d_prog_23_method_15_code_11 : decode prog_23_method_15_code 11 = .ok (.iconst 0, 1) := by decide +kernel
theorem ef_own_fing (m : MethodId) {a1 : Addr} : entryFrame m #[(.ref a1)] 1 = mkF m 0 #[.val (.ref a1)] [] := by first | (simp [entryFrame, mkF, argsToLocals, Value.category]; done) | rfl
def Q_own_fing (Z : State) (a1 : Addr) (f : Int32) (h0 : Heap) (n0 : Nat) (v : Option Value) (h : Heap) (L : List Loc) : Prop := ∃ r : Int32, v = some (.int r) ∧ Fr n0 L ∧ h = h0 ∧ (0 < f → r = 1) ∧ (¬ 0 < f → r = 0)
set_option maxRecDepth 65536 in
set_option maxHeartbeats 40000000 in
theorem own_fing (l : Launch) (Z : State) (a0 : Array Value) (hw : ∀ d ∈ tables_1, d.before a0 Z = true) (ws : List Jvm.Cond) (a1 : Addr) (f : Int32) (h0 : Heap) (n0 : Nat) (Z0 : n0 ≤ h0.size) (O1 : Obj Z h0 a1 "coterie/causal/Group") (g1 : n0 ≤ a1) (F1 : Fld Z h0 a1 "coterie/causal/Group" "flushing" "I" (.int f)) :
    MetFree l (⟨"coterie/causal/Group", "flushing", "()Z"⟩ : MethodName) (head1 (Jvm.Cond.code (⟨"coterie/causal/Group", "flushing", "()Z"⟩ : MethodName) prog_23_method_15_code 1 (some .boolean) :: ws) ({ frames := 0, cells := 0, slots := 0, locals := 0 } : Room)) (fun a U => a = #[(.ref a1)] ∧ Z.Warmed39 U.vm ∧ U.heap = h0) (fun _ _ _ _ _ => True) (fun _ U o U' => ∃ v L, o = .returned v ∧ Q_own_fing Z a1 f h0 n0 v U'.heap L ∧ FrameEnd U o U' L ({ frames := 0, cells := 0, slots := 0, locals := 0 } : Room).cells ({ frames := 0, cells := 0, slots := 0, locals := 0 } : Room).slots) := by
  refine MetFree.of_bodySF (plainFor_of_name pn_coterie_causal_Group) hisR ?_
  intro p e s m args below meth c s₁ Bd hml0 hP hK
  obtain ⟨rfl, hZ, hh⟩ := hP
  have hx := Bd.exec
  have hby := Bd.bytes
  have hml : c.maxLocals = 1 := hml0
  have hown : s.vm.findClass "coterie/causal/Group" = some m.cls := findClass_of_methodNamed Bd.named
  have hnm := (name_of_methodNamed Bd.named Bd.method).1
  have X0 : Stand p l e ({ frames := 0, cells := 0, slots := 0, locals := 0 } : Room) s m #[(.ref a1)] below meth c s₁ [] 0 0 := Stand.of_body Bd
  have e0 : s₁.heap = h0 := by rw [← hh, Bd.state]; rfl
  have N0 := Fr.nil n0
  have pre0 : ∀ t, Steps p.tables e below (s₁.setTop (mkF m 0 #[.val (.ref a1)] [])) t → Steps p.tables e below (s₁.setTop (entryFrame m #[(.ref a1)] 1)) t := fun t k => castTop (ef_own_fing m) k
  obtain ⟨T1, X1, e1, st1⟩ := getF X0 hx hZ hown (host := "") (Or.inl (hw _ (List.mem_of_getElem? (i := 114) rfl))) Via.refl e0 F1 (g := (mkF m 1 #[.val (.ref a1)] [(.ref a1)])) rfl rfl (hb hby d_prog_23_method_15_code_1)
  have pre2 : ∀ t, Steps p.tables e below (T1.setTop (mkF m 4 #[.val (.ref a1)] [(.int f)])) t → Steps p.tables e below (s₁.setTop (entryFrame m #[(.ref a1)] 1)) t := by
    intro t kk
    refine pre0 t ?_
    show Steps p.tables e below (s₁.setTop (mkF m 0 #[.val (.ref a1)] [])) _
    refine XS.aloadN X0.here hx rfl (hb hby d_prog_23_method_15_code_0) rfl rfl ?_
    show Steps p.tables e below (s₁.setTop (mkF m 1 #[.val (.ref a1)] [(.ref a1)])) _
    exact st1 _ kk
  by_cases hc : (0 : Int32) < f
  case pos =>
    obtain ⟨fs, hr, hrun, hended, hW, hsame⟩ := X1.leave (v := some (.int (1 : Int32))) (fun h => by rw [Bd.returns] at h; cases h)
    refine ⟨_, _, pre2 _ ?_, hrun, hended, _, _, rfl, ?_, ⟨_, rfl⟩, hW, hsame.mono (by decide) (by decide)⟩
    · show Steps p.tables e below (T1.setTop (mkF m 4 #[.val (.ref a1)] [(.int f)])) _
      refine XS.ifNo X1.here hx rfl (hb hby d_prog_23_method_15_code_4) rfl ((if0 _ _).trans (tlt hc).2.2.2) ?_
      show Steps p.tables e below (T1.setTop (mkF m 7 #[.val (.ref a1)] [])) _
      refine XS.iconst X1.here hx rfl (hb hby d_prog_23_method_15_code_7) ?_
      show Steps p.tables e below (T1.setTop (mkF m 8 #[.val (.ref a1)] [(.int (1 : Int32))])) _
      refine XS.goto X1.here hx rfl (pc0 := 8) (pc' := 12) rfl (hb hby d_prog_23_method_15_code_8) (by decide) (by decide) ?_
      show Steps p.tables e below (T1.setTop (mkF m 12 #[.val (.ref a1)] [(.int (1 : Int32))])) _
      exact retN X1 hx (t := .boolean) Bd.returns (by simp) (hb hby d_prog_23_method_15_code_12) hr
    · show Q_own_fing Z a1 f h0 n0 _ T1.heap _
      rw [e1]
      exact ⟨1, rfl, N0, rfl, fun _ => rfl, fun q => absurd hc q⟩
  case neg =>
    obtain ⟨fs, hr, hrun, hended, hW, hsame⟩ := X1.leave (v := some (.int (0 : Int32))) (fun h => by rw [Bd.returns] at h; cases h)
    refine ⟨_, _, pre2 _ ?_, hrun, hended, _, _, rfl, ?_, ⟨_, rfl⟩, hW, hsame.mono (by decide) (by decide)⟩
    · show Steps p.tables e below (T1.setTop (mkF m 4 #[.val (.ref a1)] [(.int f)])) _
      refine XS.ifYes X1.here hx rfl (pc0 := 4) (pc' := 11) rfl (hb hby d_prog_23_method_15_code_4) rfl ((if0 _ _).trans (flt hc).2.2.2) (by decide) (by decide) ?_
      show Steps p.tables e below (T1.setTop (mkF m 11 #[.val (.ref a1)] [])) _
      refine XS.iconst X1.here hx rfl (hb hby d_prog_23_method_15_code_11) ?_
      show Steps p.tables e below (T1.setTop (mkF m 12 #[.val (.ref a1)] [(.int (0 : Int32))])) _
      exact retN X1 hx (t := .boolean) Bd.returns (by simp) (hb hby d_prog_23_method_15_code_12) hr
    · show Q_own_fing Z a1 f h0 n0 _ T1.heap _
      rw [e1]
      exact ⟨0, rfl, N0, rfl, fun q => absurd q hc, fun _ => rfl⟩
theorem own_c8 (x : Int32) : ¬ (255 : Int32) < (x &&& (255 : Int32)).toUInt32.toUInt16.toUInt32.toInt32 := by
  have h1 := c_and x 255 (by decide)
  have h2 := c_i2c (x &&& 255)
  have h3 : (255 : Int32).toInt = 255 := by decide
  rw [Int32.lt_iff_toInt_lt]
  omega
theorem own_i1 : (1 : Int32).toInt = 1 := by decide
theorem own_i0 : (0 : Int32).toInt = 0 := by decide
theorem own_eqI {x y : Int32} : x = y ↔ x.toInt = y.toInt := Int32.toInt_inj.symm
theorem pn_coterie_causal_GroupFlushAnsweredPinLaw : plainName "coterie/causal/GroupFlushAnsweredPinLaw" = true := by first | (simp [plainName, overriddenIn]; done) | decide +kernel
theorem pd__C_Ljava_lang_String_ : parseMethodDescriptor "(C)Ljava/lang/String;" = some ⟨[.char], some (.object "java/lang/String")⟩ := by decide +kernel
theorem pd__Ljava_lang_String_Ljava_lang_String__V : parseMethodDescriptor "(Ljava/lang/String;Ljava/lang/String;)V" = some ⟨[(.object "java/lang/String"), (.object "java/lang/String")], none⟩ := by decide +kernel
theorem pd__I_V : parseMethodDescriptor "(I)V" = some ⟨[.int], none⟩ := by decide +kernel
theorem pd___Z : parseMethodDescriptor "()Z" = some ⟨[], some .boolean⟩ := by decide +kernel
theorem ef_own_law (m : MethodId) {p0 : Int32} {p1 : Int32} {p2 : Int32} {p3 : Int32} : entryFrame m #[(.int p0), (.int p1), (.int p2), (.int p3)] maxLocals = mkF m 0 #[.val (.int p0), .val (.int p1), .val (.int p2), .val (.int p3), .unset, .unset, .unset, .unset, .unset, .unset, .unset, .unset, .unset, .unset, .unset] [] := by first | (simp [entryFrame, mkF, argsToLocals, Value.category, maxLocals]; done) | rfl
def Q_own_law (Z : State) (p0 p1 p2 p3 G1 : Int32) (r : Addr) (h0 : Heap) (n0 : Nat) (v : Option Value) (h : Heap) (L : List Loc) : Prop := v = some (.int 1) ∧ Fr n0 L
set_option maxRecDepth 65536 in
set_option maxHeartbeats 40000000 in
theorem own_law (l : Launch) (Z : State) (a0 : Array Value) (hw : ∀ d ∈ tables_1, d.before a0 Z = true) (ws : List Jvm.Cond) (p0 p1 p2 p3 G1 : Int32) (r : Addr) (h0 : Heap) (n0 : Nat) (Z0 : n0 ≤ h0.size) (O2 : Sta Z Z.heap "java/lang/String" "COMPACT_STRINGS" "Z" (.int G1)) (P5 : ¬ G1 = (0 : Int32)) (S1 : Sta Z Z.heap "java/util/ImmutableCollections" "EMPTY_LIST" "Ljava/util/ImmutableCollections$ListN;" (.ref r)) (XO : Old Z n0 h0) :
    MetFree l x (head1 (Jvm.Cond.code x code maxLocals ret :: ws) room_1) (fun a U => a = #[(.int p0), (.int p1), (.int p2), (.int p3)] ∧ Z.Warmed39 U.vm ∧ U.heap = h0) (fun _ _ _ _ _ => True) (fun _ U o U' => ∃ v L, o = .returned v ∧ Q_own_law Z p0 p1 p2 p3 G1 r h0 n0 v U'.heap L ∧ FrameEnd U o U' L 40 320) := by
  refine MetFree.of_bodySF (plainFor_of_name pn_coterie_causal_GroupFlushAnsweredPinLaw) hisR ?_
  intro p e s m args below meth c s₁ Bd hml0 hP hK
  obtain ⟨rfl, hZ, hh⟩ := hP
  have hx := Bd.exec
  have hby := Bd.bytes
  have hml : c.maxLocals = 15 := hml0
  have hown : s.vm.findClass "coterie/causal/GroupFlushAnsweredPinLaw" = some m.cls := findClass_of_methodNamed Bd.named
  have hnm := (name_of_methodNamed Bd.named Bd.method).1
  have X0 : Stand p l e room_1 s m #[(.int p0), (.int p1), (.int p2), (.int p3)] below meth c s₁ [] 0 0 := Stand.of_body Bd
  have e0 : s₁.heap = h0 := by rw [← hh, Bd.state]; rfl
  have N0 := Fr.nil n0
  have pre0 : ∀ t, Steps p.tables e below (s₁.setTop (mkF m 0 #[.val (.int p0), .val (.int p1), .val (.int p2), .val (.int p3), .unset, .unset, .unset, .unset, .unset, .unset, .unset, .unset, .unset, .unset, .unset] [])) t → Steps p.tables e below (s₁.setTop (entryFrame m #[(.int p0), (.int p1), (.int p2), (.int p3)] maxLocals)) t := fun t k => castTop (ef_own_law m) k
  obtain ⟨sm, n, hn, pre1⟩ : ∃ sm : Int32, ∃ n : Int32, (1 ≤ n.toInt ∧ n.toInt ≤ 1073741824) ∧ ∀ t, Steps p.tables e below (s₁.setTop (mkF m 32 #[.val (.int p0), .val (.int p1), .val (.int p2), .val (.int p3), .val (.int sm), .unset, .unset, .unset, .unset, .unset, .unset, .unset, .unset, .unset, .unset] [(.int n)])) t → Steps p.tables e below (s₁.setTop (entryFrame m #[(.int p0), (.int p1), (.int p2), (.int p3)] maxLocals)) t := by
    by_cases hc : (p2 &&& (1 : Int32)) = (0 : Int32)
    case pos =>
      have hd2 : (0 : Int32) = (0 : Int32) := by decide
      refine ⟨(0 : Int32), ((1 : Int32) + (p0 &&& (1073741823 : Int32))), ?_, fun t kk => ?_⟩
      · have q1 := c_and p0 1073741823 (by decide)
        have q2 := c_iadd 1 (p0 &&& 1073741823)
        have q3 := rng32 (1 + (p0 &&& 1073741823))
        have q4 : (1073741823 : Int32).toInt = 1073741823 := by decide
        have q5 := own_i1
        omega
      refine pre0 t ?_
      show Steps p.tables e below (s₁.setTop (mkF m 0 #[.val (.int p0), .val (.int p1), .val (.int p2), .val (.int p3), .unset, .unset, .unset, .unset, .unset, .unset, .unset, .unset, .unset, .unset, .unset] [])) _
      refine XS.iloadN X0.here hx rfl (hb hby at_0) rfl ?_
      show Steps p.tables e below (s₁.setTop (mkF m 1 #[.val (.int p0), .val (.int p1), .val (.int p2), .val (.int p3), .unset, .unset, .unset, .unset, .unset, .unset, .unset, .unset, .unset, .unset, .unset] [(.int p2)])) _
      refine XS.iconst X0.here hx rfl (hb hby at_1) ?_
      show Steps p.tables e below (s₁.setTop (mkF m 2 #[.val (.int p0), .val (.int p1), .val (.int p2), .val (.int p3), .unset, .unset, .unset, .unset, .unset, .unset, .unset, .unset, .unset, .unset, .unset] [(.int (1 : Int32)), (.int p2)])) _
      refine XS.iand X0.here hx rfl (hb hby at_2) rfl ?_
      show Steps p.tables e below (s₁.setTop (mkF m 3 #[.val (.int p0), .val (.int p1), .val (.int p2), .val (.int p3), .unset, .unset, .unset, .unset, .unset, .unset, .unset, .unset, .unset, .unset, .unset] [(.int (p2 &&& (1 : Int32)))])) _
      refine XS.ifYes X0.here hx rfl (pc0 := 3) (pc' := 10) rfl (hb hby at_3) rfl ((if0 _ _).trans (teq hc).1) (by decide) (by decide) ?_
      show Steps p.tables e below (s₁.setTop (mkF m 10 #[.val (.int p0), .val (.int p1), .val (.int p2), .val (.int p3), .unset, .unset, .unset, .unset, .unset, .unset, .unset, .unset, .unset, .unset, .unset] [])) _
      refine XS.iconst X0.here hx rfl (hb hby at_10) ?_
      show Steps p.tables e below (s₁.setTop (mkF m 11 #[.val (.int p0), .val (.int p1), .val (.int p2), .val (.int p3), .unset, .unset, .unset, .unset, .unset, .unset, .unset, .unset, .unset, .unset, .unset] [(.int (0 : Int32))])) _
      refine XS.istore X0.here hx rfl (hb hby at_11) rfl (l' := #[.val (.int p0), .val (.int p1), .val (.int p2), .val (.int p3), .val (.int (0 : Int32)), .unset, .unset, .unset, .unset, .unset, .unset, .unset, .unset, .unset, .unset]) rfl ?_
      show Steps p.tables e below (s₁.setTop (mkF m 13 #[.val (.int p0), .val (.int p1), .val (.int p2), .val (.int p3), .val (.int (0 : Int32)), .unset, .unset, .unset, .unset, .unset, .unset, .unset, .unset, .unset, .unset] [])) _
      refine XS.iload X0.here hx rfl (hb hby at_13) rfl ?_
      show Steps p.tables e below (s₁.setTop (mkF m 15 #[.val (.int p0), .val (.int p1), .val (.int p2), .val (.int p3), .val (.int (0 : Int32)), .unset, .unset, .unset, .unset, .unset, .unset, .unset, .unset, .unset, .unset] [(.int (0 : Int32))])) _
      refine XS.ifYes X0.here hx rfl (pc0 := 15) (pc' := 26) rfl (hb hby at_15) rfl ((if0 _ _).trans (teq hd2).1) (by decide) (by decide) ?_
      show Steps p.tables e below (s₁.setTop (mkF m 26 #[.val (.int p0), .val (.int p1), .val (.int p2), .val (.int p3), .val (.int (0 : Int32)), .unset, .unset, .unset, .unset, .unset, .unset, .unset, .unset, .unset, .unset] [])) _
      refine XS.iconst X0.here hx rfl (hb hby at_26) ?_
      show Steps p.tables e below (s₁.setTop (mkF m 27 #[.val (.int p0), .val (.int p1), .val (.int p2), .val (.int p3), .val (.int (0 : Int32)), .unset, .unset, .unset, .unset, .unset, .unset, .unset, .unset, .unset, .unset] [(.int (1 : Int32))])) _
      refine XS.iloadN X0.here hx rfl (hb hby at_27) rfl ?_
      show Steps p.tables e below (s₁.setTop (mkF m 28 #[.val (.int p0), .val (.int p1), .val (.int p2), .val (.int p3), .val (.int (0 : Int32)), .unset, .unset, .unset, .unset, .unset, .unset, .unset, .unset, .unset, .unset] [(.int p0), (.int (1 : Int32))])) _
      refine X0.ldcI hx hown (mvT hZ (hw _ (List.mem_of_getElem? (i := 0) rfl))) (g := (mkF m 28 #[.val (.int p0), .val (.int p1), .val (.int p2), .val (.int p3), .val (.int (0 : Int32)), .unset, .unset, .unset, .unset, .unset, .unset, .unset, .unset, .unset, .unset] [(.int p0), (.int (1 : Int32))])) rfl (hb hby at_28) ?_
      show Steps p.tables e below (s₁.setTop (mkF m 30 #[.val (.int p0), .val (.int p1), .val (.int p2), .val (.int p3), .val (.int (0 : Int32)), .unset, .unset, .unset, .unset, .unset, .unset, .unset, .unset, .unset, .unset] [(.int (1073741823 : Int32)), (.int p0), (.int (1 : Int32))])) _
      refine XS.iand X0.here hx rfl (hb hby at_30) rfl ?_
      show Steps p.tables e below (s₁.setTop (mkF m 31 #[.val (.int p0), .val (.int p1), .val (.int p2), .val (.int p3), .val (.int (0 : Int32)), .unset, .unset, .unset, .unset, .unset, .unset, .unset, .unset, .unset, .unset] [(.int (p0 &&& (1073741823 : Int32))), (.int (1 : Int32))])) _
      refine XS.iadd X0.here hx rfl (hb hby at_31) rfl ?_
      exact kk
    case neg =>
      have hd3 : ¬ ((1 : Int32) = (0 : Int32)) := by decide
      refine ⟨(1 : Int32), ((1 : Int32) + (p0 &&& (3 : Int32))), ?_, fun t kk => ?_⟩
      · have q1 := c_and p0 3 (by decide)
        have q2 := c_iadd 1 (p0 &&& 3)
        have q3 := rng32 (1 + (p0 &&& 3))
        have q4 : (3 : Int32).toInt = 3 := by decide
        have q5 := own_i1
        omega
      refine pre0 t ?_
      show Steps p.tables e below (s₁.setTop (mkF m 0 #[.val (.int p0), .val (.int p1), .val (.int p2), .val (.int p3), .unset, .unset, .unset, .unset, .unset, .unset, .unset, .unset, .unset, .unset, .unset] [])) _
      refine XS.iloadN X0.here hx rfl (hb hby at_0) rfl ?_
      show Steps p.tables e below (s₁.setTop (mkF m 1 #[.val (.int p0), .val (.int p1), .val (.int p2), .val (.int p3), .unset, .unset, .unset, .unset, .unset, .unset, .unset, .unset, .unset, .unset, .unset] [(.int p2)])) _
      refine XS.iconst X0.here hx rfl (hb hby at_1) ?_
      show Steps p.tables e below (s₁.setTop (mkF m 2 #[.val (.int p0), .val (.int p1), .val (.int p2), .val (.int p3), .unset, .unset, .unset, .unset, .unset, .unset, .unset, .unset, .unset, .unset, .unset] [(.int (1 : Int32)), (.int p2)])) _
      refine XS.iand X0.here hx rfl (hb hby at_2) rfl ?_
      show Steps p.tables e below (s₁.setTop (mkF m 3 #[.val (.int p0), .val (.int p1), .val (.int p2), .val (.int p3), .unset, .unset, .unset, .unset, .unset, .unset, .unset, .unset, .unset, .unset, .unset] [(.int (p2 &&& (1 : Int32)))])) _
      refine XS.ifNo X0.here hx rfl (hb hby at_3) rfl ((if0 _ _).trans (feq hc).1) ?_
      show Steps p.tables e below (s₁.setTop (mkF m 6 #[.val (.int p0), .val (.int p1), .val (.int p2), .val (.int p3), .unset, .unset, .unset, .unset, .unset, .unset, .unset, .unset, .unset, .unset, .unset] [])) _
      refine XS.iconst X0.here hx rfl (hb hby at_6) ?_
      show Steps p.tables e below (s₁.setTop (mkF m 7 #[.val (.int p0), .val (.int p1), .val (.int p2), .val (.int p3), .unset, .unset, .unset, .unset, .unset, .unset, .unset, .unset, .unset, .unset, .unset] [(.int (1 : Int32))])) _
      refine XS.goto X0.here hx rfl (pc0 := 7) (pc' := 11) rfl (hb hby at_7) (by decide) (by decide) ?_
      show Steps p.tables e below (s₁.setTop (mkF m 11 #[.val (.int p0), .val (.int p1), .val (.int p2), .val (.int p3), .unset, .unset, .unset, .unset, .unset, .unset, .unset, .unset, .unset, .unset, .unset] [(.int (1 : Int32))])) _
      refine XS.istore X0.here hx rfl (hb hby at_11) rfl (l' := #[.val (.int p0), .val (.int p1), .val (.int p2), .val (.int p3), .val (.int (1 : Int32)), .unset, .unset, .unset, .unset, .unset, .unset, .unset, .unset, .unset, .unset]) rfl ?_
      show Steps p.tables e below (s₁.setTop (mkF m 13 #[.val (.int p0), .val (.int p1), .val (.int p2), .val (.int p3), .val (.int (1 : Int32)), .unset, .unset, .unset, .unset, .unset, .unset, .unset, .unset, .unset, .unset] [])) _
      refine XS.iload X0.here hx rfl (hb hby at_13) rfl ?_
      show Steps p.tables e below (s₁.setTop (mkF m 15 #[.val (.int p0), .val (.int p1), .val (.int p2), .val (.int p3), .val (.int (1 : Int32)), .unset, .unset, .unset, .unset, .unset, .unset, .unset, .unset, .unset, .unset] [(.int (1 : Int32))])) _
      refine XS.ifNo X0.here hx rfl (hb hby at_15) rfl ((if0 _ _).trans (feq hd3).1) ?_
      show Steps p.tables e below (s₁.setTop (mkF m 18 #[.val (.int p0), .val (.int p1), .val (.int p2), .val (.int p3), .val (.int (1 : Int32)), .unset, .unset, .unset, .unset, .unset, .unset, .unset, .unset, .unset, .unset] [])) _
      refine XS.iconst X0.here hx rfl (hb hby at_18) ?_
      show Steps p.tables e below (s₁.setTop (mkF m 19 #[.val (.int p0), .val (.int p1), .val (.int p2), .val (.int p3), .val (.int (1 : Int32)), .unset, .unset, .unset, .unset, .unset, .unset, .unset, .unset, .unset, .unset] [(.int (1 : Int32))])) _
      refine XS.iloadN X0.here hx rfl (hb hby at_19) rfl ?_
      show Steps p.tables e below (s₁.setTop (mkF m 20 #[.val (.int p0), .val (.int p1), .val (.int p2), .val (.int p3), .val (.int (1 : Int32)), .unset, .unset, .unset, .unset, .unset, .unset, .unset, .unset, .unset, .unset] [(.int p0), (.int (1 : Int32))])) _
      refine XS.iconst X0.here hx rfl (hb hby at_20) ?_
      show Steps p.tables e below (s₁.setTop (mkF m 21 #[.val (.int p0), .val (.int p1), .val (.int p2), .val (.int p3), .val (.int (1 : Int32)), .unset, .unset, .unset, .unset, .unset, .unset, .unset, .unset, .unset, .unset] [(.int (3 : Int32)), (.int p0), (.int (1 : Int32))])) _
      refine XS.iand X0.here hx rfl (hb hby at_21) rfl ?_
      show Steps p.tables e below (s₁.setTop (mkF m 22 #[.val (.int p0), .val (.int p1), .val (.int p2), .val (.int p3), .val (.int (1 : Int32)), .unset, .unset, .unset, .unset, .unset, .unset, .unset, .unset, .unset, .unset] [(.int (p0 &&& (3 : Int32))), (.int (1 : Int32))])) _
      refine XS.iadd X0.here hx rfl (hb hby at_22) rfl ?_
      show Steps p.tables e below (s₁.setTop (mkF m 23 #[.val (.int p0), .val (.int p1), .val (.int p2), .val (.int p3), .val (.int (1 : Int32)), .unset, .unset, .unset, .unset, .unset, .unset, .unset, .unset, .unset, .unset] [(.int ((1 : Int32) + (p0 &&& (3 : Int32))))])) _
      refine XS.goto X0.here hx rfl (pc0 := 23) (pc' := 32) rfl (hb hby at_23) (by decide) (by decide) ?_
      exact kk
  obtain ⟨mm, hmm⟩ : ∃ z, z = p1 &&& (3 : Int32) := ⟨_, rfl⟩
  have hm3 : 0 ≤ mm.toInt ∧ mm.toInt ≤ 3 := by rw [hmm]; exact c_and p1 3 (by decide)
  have pre54 : ∀ t, Steps p.tables e below (s₁.setTop (mkF m 37 #[.val (.int p0), .val (.int p1), .val (.int p2), .val (.int p3), .val (.int sm), .val (.int n), .unset, .unset, .unset, .unset, .unset, .unset, .unset, .unset, .unset] [(.int (p1 &&& (3 : Int32)))])) t → Steps p.tables e below (s₁.setTop (entryFrame m #[(.int p0), (.int p1), (.int p2), (.int p3)] maxLocals)) t := by
    intro t kk
    refine pre1 t ?_
    show Steps p.tables e below (s₁.setTop (mkF m 32 #[.val (.int p0), .val (.int p1), .val (.int p2), .val (.int p3), .val (.int sm), .unset, .unset, .unset, .unset, .unset, .unset, .unset, .unset, .unset, .unset] [(.int n)])) _
    refine XS.istore X0.here hx rfl (hb hby at_32) rfl (l' := #[.val (.int p0), .val (.int p1), .val (.int p2), .val (.int p3), .val (.int sm), .val (.int n), .unset, .unset, .unset, .unset, .unset, .unset, .unset, .unset, .unset]) rfl ?_
    show Steps p.tables e below (s₁.setTop (mkF m 34 #[.val (.int p0), .val (.int p1), .val (.int p2), .val (.int p3), .val (.int sm), .val (.int n), .unset, .unset, .unset, .unset, .unset, .unset, .unset, .unset, .unset] [])) _
    refine XS.iloadN X0.here hx rfl (hb hby at_34) rfl ?_
    show Steps p.tables e below (s₁.setTop (mkF m 35 #[.val (.int p0), .val (.int p1), .val (.int p2), .val (.int p3), .val (.int sm), .val (.int n), .unset, .unset, .unset, .unset, .unset, .unset, .unset, .unset, .unset] [(.int p1)])) _
    refine XS.iconst X0.here hx rfl (hb hby at_35) ?_
    show Steps p.tables e below (s₁.setTop (mkF m 36 #[.val (.int p0), .val (.int p1), .val (.int p2), .val (.int p3), .val (.int sm), .val (.int n), .unset, .unset, .unset, .unset, .unset, .unset, .unset, .unset, .unset] [(.int (3 : Int32)), (.int p1)])) _
    refine XS.iand X0.here hx rfl (hb hby at_36) rfl ?_
    exact kk
  rw [← hmm] at pre54
  obtain ⟨_, _, ⟨T55, L55, k55, n55⟩, -, X55, ⟨Lc55, hQ55, l55, y55, z55⟩, st55⟩ := Jvm.LawKit.callS X0 hx (y := (⟨"java/lang/String", "valueOf", "(C)Ljava/lang/String;"⟩ : MethodName)) hown (mvT hZ (hw _ (List.mem_of_getElem? (i := 1) rfl))) (mvT hZ (hw _ (List.mem_of_getElem? (i := 2) rfl))) (mvT hZ (hw _ (List.mem_of_getElem? (i := 3) rfl))) (mvT hZ (hw _ (List.mem_of_getElem? (i := 4) rfl))) (by decide) (backOf (W := 0) (own_vo l Z a0 hw [] ((p3 &&& (255 : Int32)).toUInt32.toUInt16.toUInt32.toInt32) G1 h0 n0 Z0 (own_c8 _) O2 P5 XO) hZ (hw _ (List.mem_of_getElem? (i := 4) rfl)) (hw _ (List.mem_of_getElem? (i := 3) rfl)) (by decide) (by decide)) (g := (mkF m 45 #[.val (.int p0), .val (.int p1), .val (.int p2), .val (.int p3), .val (.int sm), .val (.int n), .val (.int mm), .unset, .unset, .unset, .unset, .unset, .unset, .unset, .unset] [(.int ((p3 &&& (255 : Int32)).toUInt32.toUInt16.toUInt32.toInt32))])) rfl (by rw [hml]; rfl) (argsL := [(.int ((p3 &&& (255 : Int32)).toUInt32.toUInt16.toUInt32.toInt32))]) (rest := []) (lenOf pd__C_Ljava_lang_String_ rfl) rfl (by show 2 * 0 + _ ≤ _; exact Nat.le_of_eq rfl) (hb hby at_45) (fun _ _ => ⟨rfl, e0, (by decide : 0 + 2 ≤ _), (by decide : 0 + 5 ≤ _)⟩)
  dsimp only [Pt.U, Pt.locs, Pt.cells, Pt.slots] at X55 l55 y55 z55 st55 hQ55
  subst l55 y55 z55
  obtain ⟨r55, b55, kb55, rfl, N55q, K55, -, -, -, -, -, -⟩ := hQ55
  have N55 := Fr.app N0 N55q
  have pre56 : ∀ t, Steps p.tables e below (T55.setTop (mkF m 48 #[.val (.int p0), .val (.int p1), .val (.int p2), .val (.int p3), .val (.int sm), .val (.int n), .val (.int mm), .unset, .unset, .unset, .unset, .unset, .unset, .unset, .unset] [(.ref r55)])) t → Steps p.tables e below (s₁.setTop (entryFrame m #[(.int p0), (.int p1), (.int p2), (.int p3)] maxLocals)) t := by
    intro t kk
    refine pre54 t ?_
    show Steps p.tables e below (s₁.setTop (mkF m 37 #[.val (.int p0), .val (.int p1), .val (.int p2), .val (.int p3), .val (.int sm), .val (.int n), .unset, .unset, .unset, .unset, .unset, .unset, .unset, .unset, .unset] [(.int mm)])) _
    refine XS.istore X0.here hx rfl (hb hby at_37) rfl (l' := #[.val (.int p0), .val (.int p1), .val (.int p2), .val (.int p3), .val (.int sm), .val (.int n), .val (.int mm), .unset, .unset, .unset, .unset, .unset, .unset, .unset, .unset]) rfl ?_
    show Steps p.tables e below (s₁.setTop (mkF m 39 #[.val (.int p0), .val (.int p1), .val (.int p2), .val (.int p3), .val (.int sm), .val (.int n), .val (.int mm), .unset, .unset, .unset, .unset, .unset, .unset, .unset, .unset] [])) _
    refine XS.iloadN X0.here hx rfl (hb hby at_39) rfl ?_
    show Steps p.tables e below (s₁.setTop (mkF m 40 #[.val (.int p0), .val (.int p1), .val (.int p2), .val (.int p3), .val (.int sm), .val (.int n), .val (.int mm), .unset, .unset, .unset, .unset, .unset, .unset, .unset, .unset] [(.int p3)])) _
    refine XS.sipush X0.here hx rfl (hb hby at_40) ?_
    show Steps p.tables e below (s₁.setTop (mkF m 43 #[.val (.int p0), .val (.int p1), .val (.int p2), .val (.int p3), .val (.int sm), .val (.int n), .val (.int mm), .unset, .unset, .unset, .unset, .unset, .unset, .unset, .unset] [(.int (255 : Int32)), (.int p3)])) _
    refine XS.iand X0.here hx rfl (hb hby at_43) rfl ?_
    show Steps p.tables e below (s₁.setTop (mkF m 44 #[.val (.int p0), .val (.int p1), .val (.int p2), .val (.int p3), .val (.int sm), .val (.int n), .val (.int mm), .unset, .unset, .unset, .unset, .unset, .unset, .unset, .unset] [(.int (p3 &&& (255 : Int32)))])) _
    refine XS.i2c X0.here hx rfl (hb hby at_44) rfl ?_
    show Steps p.tables e below (s₁.setTop (mkF m 45 #[.val (.int p0), .val (.int p1), .val (.int p2), .val (.int p3), .val (.int sm), .val (.int n), .val (.int mm), .unset, .unset, .unset, .unset, .unset, .unset, .unset, .unset] [(.int ((p3 &&& (255 : Int32)).toUInt32.toUInt16.toUInt32.toInt32))])) _
    exact st55 _ kk
  have c57 := (XO.keep K55 all0)
  have c59 := (Nat.le_trans Z0 K55.1)
  obtain ⟨_, _, ⟨T58, L58, k58, n58⟩, -, X58, ⟨Lc58, hQ58, l58, y58, z58⟩, st58⟩ := Jvm.LawKit.callS X55 hx (y := (⟨"java/lang/String", "valueOf", "(C)Ljava/lang/String;"⟩ : MethodName)) hown (mvT hZ (hw _ (List.mem_of_getElem? (i := 1) rfl))) (mvT hZ (hw _ (List.mem_of_getElem? (i := 2) rfl))) (mvT hZ (hw _ (List.mem_of_getElem? (i := 3) rfl))) (mvT hZ (hw _ (List.mem_of_getElem? (i := 4) rfl))) (by decide) (backOf (W := 0) (own_vo l Z a0 hw [] ((((p3.toUInt32 >>> ((8 : Int32) &&& 31).toUInt32).toInt32) &&& (255 : Int32)).toUInt32.toUInt16.toUInt32.toInt32) G1 T55.heap n0 c59 (own_c8 _) O2 P5 c57) hZ (hw _ (List.mem_of_getElem? (i := 4) rfl)) (hw _ (List.mem_of_getElem? (i := 3) rfl)) (by decide) (by decide)) (g := (mkF m 59 #[.val (.int p0), .val (.int p1), .val (.int p2), .val (.int p3), .val (.int sm), .val (.int n), .val (.int mm), .val (.ref r55), .unset, .unset, .unset, .unset, .unset, .unset, .unset] [(.int ((((p3.toUInt32 >>> ((8 : Int32) &&& 31).toUInt32).toInt32) &&& (255 : Int32)).toUInt32.toUInt16.toUInt32.toInt32))])) rfl (by rw [hml]; rfl) (argsL := [(.int ((((p3.toUInt32 >>> ((8 : Int32) &&& 31).toUInt32).toInt32) &&& (255 : Int32)).toUInt32.toUInt16.toUInt32.toInt32))]) (rest := []) (lenOf pd__C_Ljava_lang_String_ rfl) rfl (by show 2 * 0 + _ ≤ _; exact Nat.le_of_eq rfl) (hb hby at_59) (fun _ _ => ⟨rfl, rfl, (by decide : 2 + 2 ≤ _), (by decide : 5 + 5 ≤ _)⟩)
  dsimp only [Pt.U, Pt.locs, Pt.cells, Pt.slots] at X58 l58 y58 z58 st58 hQ58
  subst l58 y58 z58
  obtain ⟨r58, b58, kb58, rfl, N58q, K58, -, -, -, -, -, -⟩ := hQ58
  have N58 := Fr.app N55 N58q
  have pre60 : ∀ t, Steps p.tables e below (T58.setTop (mkF m 62 #[.val (.int p0), .val (.int p1), .val (.int p2), .val (.int p3), .val (.int sm), .val (.int n), .val (.int mm), .val (.ref r55), .unset, .unset, .unset, .unset, .unset, .unset, .unset] [(.ref r58)])) t → Steps p.tables e below (s₁.setTop (entryFrame m #[(.int p0), (.int p1), (.int p2), (.int p3)] maxLocals)) t := by
    intro t kk
    refine pre56 t ?_
    show Steps p.tables e below (T55.setTop (mkF m 48 #[.val (.int p0), .val (.int p1), .val (.int p2), .val (.int p3), .val (.int sm), .val (.int n), .val (.int mm), .unset, .unset, .unset, .unset, .unset, .unset, .unset, .unset] [(.ref r55)])) _
    refine XS.astore X55.here hx rfl (hb hby at_48) rfl rfl (l' := #[.val (.int p0), .val (.int p1), .val (.int p2), .val (.int p3), .val (.int sm), .val (.int n), .val (.int mm), .val (.ref r55), .unset, .unset, .unset, .unset, .unset, .unset, .unset]) rfl ?_
    show Steps p.tables e below (T55.setTop (mkF m 50 #[.val (.int p0), .val (.int p1), .val (.int p2), .val (.int p3), .val (.int sm), .val (.int n), .val (.int mm), .val (.ref r55), .unset, .unset, .unset, .unset, .unset, .unset, .unset] [])) _
    refine XS.iloadN X55.here hx rfl (hb hby at_50) rfl ?_
    show Steps p.tables e below (T55.setTop (mkF m 51 #[.val (.int p0), .val (.int p1), .val (.int p2), .val (.int p3), .val (.int sm), .val (.int n), .val (.int mm), .val (.ref r55), .unset, .unset, .unset, .unset, .unset, .unset, .unset] [(.int p3)])) _
    refine XS.bipush X55.here hx rfl (hb hby at_51) ?_
    show Steps p.tables e below (T55.setTop (mkF m 53 #[.val (.int p0), .val (.int p1), .val (.int p2), .val (.int p3), .val (.int sm), .val (.int n), .val (.int mm), .val (.ref r55), .unset, .unset, .unset, .unset, .unset, .unset, .unset] [(.int (8 : Int32)), (.int p3)])) _
    refine XS.iushr X55.here hx rfl (hb hby at_53) rfl ?_
    show Steps p.tables e below (T55.setTop (mkF m 54 #[.val (.int p0), .val (.int p1), .val (.int p2), .val (.int p3), .val (.int sm), .val (.int n), .val (.int mm), .val (.ref r55), .unset, .unset, .unset, .unset, .unset, .unset, .unset] [(.int ((p3.toUInt32 >>> ((8 : Int32) &&& 31).toUInt32).toInt32))])) _
    refine XS.sipush X55.here hx rfl (hb hby at_54) ?_
    show Steps p.tables e below (T55.setTop (mkF m 57 #[.val (.int p0), .val (.int p1), .val (.int p2), .val (.int p3), .val (.int sm), .val (.int n), .val (.int mm), .val (.ref r55), .unset, .unset, .unset, .unset, .unset, .unset, .unset] [(.int (255 : Int32)), (.int ((p3.toUInt32 >>> ((8 : Int32) &&& 31).toUInt32).toInt32))])) _
    refine XS.iand X55.here hx rfl (hb hby at_57) rfl ?_
    show Steps p.tables e below (T55.setTop (mkF m 58 #[.val (.int p0), .val (.int p1), .val (.int p2), .val (.int p3), .val (.int sm), .val (.int n), .val (.int mm), .val (.ref r55), .unset, .unset, .unset, .unset, .unset, .unset, .unset] [(.int (((p3.toUInt32 >>> ((8 : Int32) &&& 31).toUInt32).toInt32) &&& (255 : Int32)))])) _
    refine XS.i2c X55.here hx rfl (hb hby at_58) rfl ?_
    show Steps p.tables e below (T55.setTop (mkF m 59 #[.val (.int p0), .val (.int p1), .val (.int p2), .val (.int p3), .val (.int sm), .val (.int n), .val (.int mm), .val (.ref r55), .unset, .unset, .unset, .unset, .unset, .unset, .unset] [(.int ((((p3.toUInt32 >>> ((8 : Int32) &&& 31).toUInt32).toInt32) &&& (255 : Int32)).toUInt32.toUInt16.toUInt32.toInt32))])) _
    exact st58 _ kk
  obtain ⟨b61, g61⟩ : ∃ z, z = T58.heap.size := ⟨_, rfl⟩
  have c62 := (Nat.le_trans c59 K58.1)
  have lo_b61 : n0 ≤ b61 := Nat.le_trans c62 (Nat.le_of_eq g61.symm)
  have c63 := (((Keep.refl h0 []).trans K55 all0).trans K58 all0)
  have hi_b61 : h0.size ≤ b61 := Nat.le_trans c63.1 (Nat.le_of_eq g61.symm)
  obtain ⟨T61, h61, X61, e61, E61, A61, D61, B61, st61⟩ := newO X58 hx hZ hown (hw _ (List.mem_of_getElem? (i := 27) rfl)) (hw _ (List.mem_of_getElem? (i := 28) rfl)) (hw _ (List.mem_of_getElem? (i := 29) rfl)) rfl (g := (mkF m 64 #[.val (.int p0), .val (.int p1), .val (.int p2), .val (.int p3), .val (.int sm), .val (.int n), .val (.int mm), .val (.ref r55), .val (.ref r58), .unset, .unset, .unset, .unset, .unset, .unset] [])) rfl (hb hby at_64) (by decide) (by decide)
  rw [← g61] at A61 D61 B61 st61
  have O61 := Obj.of A61 B61
  have F61_flushing : Fld Z h61 b61 "coterie/causal/Group" "flushing" "I" (.int (0 : Int32)) := D61 (Or.inl (hw _ (List.mem_of_getElem? (i := 115) rfl))) (ty := .int) (by decide)
  have pre64 : ∀ t, Steps p.tables e below (T61.setTop (mkF m 67 #[.val (.int p0), .val (.int p1), .val (.int p2), .val (.int p3), .val (.int sm), .val (.int n), .val (.int mm), .val (.ref r55), .val (.ref r58), .unset, .unset, .unset, .unset, .unset, .unset] [(.ref b61)])) t → Steps p.tables e below (s₁.setTop (entryFrame m #[(.int p0), (.int p1), (.int p2), (.int p3)] maxLocals)) t := by
    intro t kk
    refine pre60 t ?_
    show Steps p.tables e below (T58.setTop (mkF m 62 #[.val (.int p0), .val (.int p1), .val (.int p2), .val (.int p3), .val (.int sm), .val (.int n), .val (.int mm), .val (.ref r55), .unset, .unset, .unset, .unset, .unset, .unset, .unset] [(.ref r58)])) _
    refine XS.astore X58.here hx rfl (hb hby at_62) rfl rfl (l' := #[.val (.int p0), .val (.int p1), .val (.int p2), .val (.int p3), .val (.int sm), .val (.int n), .val (.int mm), .val (.ref r55), .val (.ref r58), .unset, .unset, .unset, .unset, .unset, .unset]) rfl ?_
    show Steps p.tables e below (T58.setTop (mkF m 64 #[.val (.int p0), .val (.int p1), .val (.int p2), .val (.int p3), .val (.int sm), .val (.int n), .val (.int mm), .val (.ref r55), .val (.ref r58), .unset, .unset, .unset, .unset, .unset, .unset] [])) _
    exact st61 _ kk
  have c65 := ((c57.keep K58 all0).ext E61)
  have c67 := (Nat.le_trans c62 E61.1)
  obtain ⟨_, _, ⟨T66, L66, k66, n66⟩, -, X66, ⟨Lc66, hQ66, l66, y66, z66⟩, st66⟩ := X61.specialBack hx (y := (⟨"coterie/causal/Group", "<init>", "(Ljava/lang/String;Ljava/lang/String;)V"⟩ : MethodName)) rfl hown (mvT hZ (hw _ (List.mem_of_getElem? (i := 30) rfl))) (mvT hZ (hw _ (List.mem_of_getElem? (i := 31) rfl))) (mvT hZ (hw _ (List.mem_of_getElem? (i := 32) rfl))) (by decide) (backOf (W := 1) (own_grp l Z a0 hw [] b61 r55 r58 r 0 h61 n0 c67 O61 lo_b61 S1 c65 F61_flushing) hZ (hw _ (List.mem_of_getElem? (i := 32) rfl)) (hw _ (List.mem_of_getElem? (i := 29) rfl)) (by decide) (by decide)) (g := (mkF m 72 #[.val (.int p0), .val (.int p1), .val (.int p2), .val (.int p3), .val (.int sm), .val (.int n), .val (.int mm), .val (.ref r55), .val (.ref r58), .unset, .unset, .unset, .unset, .unset, .unset] [(.ref r58), (.ref r55), (.ref b61), (.ref b61)])) rfl (by rw [hml]; rfl) (Steps.refl _) (a := b61) (argsL := [(.ref r55), (.ref r58)]) (rest := [(.ref b61)]) (lenOf pd__Ljava_lang_String_Ljava_lang_String__V rfl) rfl (by show 2 * 0 + _ ≤ _; exact Nat.le_of_eq rfl) (hb hby at_72) (fun _ _ => ⟨rfl, e61, (by decide : 5 + 11 ≤ _), (by decide : 25 + 94 ≤ _)⟩)
  dsimp only [Pt.U, Pt.locs, Pt.cells, Pt.slots] at X66 l66 y66 z66 st66 hQ66
  subst l66 y66 z66
  obtain ⟨rfl, N66q, K66, F66⟩ := hQ66
  have N66 := Fr.app N58 N66q
  have pre68 : ∀ t, Steps p.tables e below (T66.setTop (mkF m 75 #[.val (.int p0), .val (.int p1), .val (.int p2), .val (.int p3), .val (.int sm), .val (.int n), .val (.int mm), .val (.ref r55), .val (.ref r58), .unset, .unset, .unset, .unset, .unset, .unset] [(.ref b61)])) t → Steps p.tables e below (s₁.setTop (entryFrame m #[(.int p0), (.int p1), (.int p2), (.int p3)] maxLocals)) t := by
    intro t kk
    refine pre64 t ?_
    show Steps p.tables e below (T61.setTop (mkF m 67 #[.val (.int p0), .val (.int p1), .val (.int p2), .val (.int p3), .val (.int sm), .val (.int n), .val (.int mm), .val (.ref r55), .val (.ref r58), .unset, .unset, .unset, .unset, .unset, .unset] [(.ref b61)])) _
    refine XS.dup X61.here hx rfl (hb hby at_67) rfl rfl ?_
    show Steps p.tables e below (T61.setTop (mkF m 68 #[.val (.int p0), .val (.int p1), .val (.int p2), .val (.int p3), .val (.int sm), .val (.int n), .val (.int mm), .val (.ref r55), .val (.ref r58), .unset, .unset, .unset, .unset, .unset, .unset] [(.ref b61), (.ref b61)])) _
    refine XS.aload X61.here hx rfl (hb hby at_68) rfl rfl ?_
    show Steps p.tables e below (T61.setTop (mkF m 70 #[.val (.int p0), .val (.int p1), .val (.int p2), .val (.int p3), .val (.int sm), .val (.int n), .val (.int mm), .val (.ref r55), .val (.ref r58), .unset, .unset, .unset, .unset, .unset, .unset] [(.ref r55), (.ref b61), (.ref b61)])) _
    refine XS.aload X61.here hx rfl (hb hby at_70) rfl rfl ?_
    show Steps p.tables e below (T61.setTop (mkF m 72 #[.val (.int p0), .val (.int p1), .val (.int p2), .val (.int p3), .val (.int sm), .val (.int n), .val (.int mm), .val (.ref r55), .val (.ref r58), .unset, .unset, .unset, .unset, .unset, .unset] [(.ref r58), (.ref r55), (.ref b61), (.ref b61)])) _
    exact st66.trans kk
  have k0 := own_i0
  have k1 := own_i1
  have c69 := (O61.keep K66)
  have c71 := (Nat.le_trans c67 K66.1)
  obtain ⟨cq70, kq70, q70a, q70b, q70c⟩ := isOf hZ rfl c69.exa
  obtain ⟨_, _, ⟨T70, L70, k70, n70⟩, -, X70, ⟨Lc70, hQ70, l70, y70, z70⟩, st70⟩ := X66.virtualBack hx (y := (⟨"coterie/causal/Group", "flushAsked", "(I)V"⟩ : MethodName)) (z := (⟨"coterie/causal/Group", "flushAsked", "(I)V"⟩ : MethodName)) hown (mvT hZ (hw _ (List.mem_of_getElem? (i := 109) rfl))) (mvT hZ (hw _ (List.mem_of_getElem? (i := 110) rfl))) (notFace_of_selects (args := #[]) (mvT hZ (hw _ (List.mem_of_getElem? (i := 112) rfl)))) (mvT hZ (hw _ (List.mem_of_getElem? (i := 112) rfl))) (mvT hZ (hw _ (List.mem_of_getElem? (i := 111) rfl))) (by decide) (backOf (W := 0) (own_fask l Z a0 hw [] b61 n 0 T66.heap n0 c71 c69 lo_b61 F66) hZ (hw _ (List.mem_of_getElem? (i := 113) rfl)) (hw _ (List.mem_of_getElem? (i := 29) rfl)) (by decide) (by decide)) q70a q70c (g := (mkF m 81 #[.val (.int p0), .val (.int p1), .val (.int p2), .val (.int p3), .val (.int sm), .val (.int n), .val (.int mm), .val (.ref r55), .val (.ref r58), .val (.ref b61), .unset, .unset, .unset, .unset, .unset] [(.int n), (.ref b61)])) rfl (by rw [hml]; rfl) (Steps.refl _) (argsL := [(.int n)]) (rest := []) (lenOf pd__I_V rfl) rfl (by show 2 * 0 + _ ≤ _; exact Nat.le_of_eq rfl) (hb hby at_81) (fun _ _ => ⟨rfl, rfl, (by decide : 16 + 0 ≤ _), (by decide : 119 + 0 ≤ _)⟩)
  dsimp only [Pt.U, Pt.locs, Pt.cells, Pt.slots] at X70 l70 y70 z70 st70 hQ70
  subst l70 y70 z70
  obtain ⟨rfl, N70q, K70, F70⟩ := hQ70
  have N70 := Fr.app N66 N70q
  have pre72 : ∀ t, Steps p.tables e below (T70.setTop (mkF m 84 #[.val (.int p0), .val (.int p1), .val (.int p2), .val (.int p3), .val (.int sm), .val (.int n), .val (.int mm), .val (.ref r55), .val (.ref r58), .val (.ref b61), .unset, .unset, .unset, .unset, .unset] [])) t → Steps p.tables e below (s₁.setTop (entryFrame m #[(.int p0), (.int p1), (.int p2), (.int p3)] maxLocals)) t := by
    intro t kk
    refine pre68 t ?_
    show Steps p.tables e below (T66.setTop (mkF m 75 #[.val (.int p0), .val (.int p1), .val (.int p2), .val (.int p3), .val (.int sm), .val (.int n), .val (.int mm), .val (.ref r55), .val (.ref r58), .unset, .unset, .unset, .unset, .unset, .unset] [(.ref b61)])) _
    refine XS.astore X66.here hx rfl (hb hby at_75) rfl rfl (l' := #[.val (.int p0), .val (.int p1), .val (.int p2), .val (.int p3), .val (.int sm), .val (.int n), .val (.int mm), .val (.ref r55), .val (.ref r58), .val (.ref b61), .unset, .unset, .unset, .unset, .unset]) rfl ?_
    show Steps p.tables e below (T66.setTop (mkF m 77 #[.val (.int p0), .val (.int p1), .val (.int p2), .val (.int p3), .val (.int sm), .val (.int n), .val (.int mm), .val (.ref r55), .val (.ref r58), .val (.ref b61), .unset, .unset, .unset, .unset, .unset] [])) _
    refine XS.aload X66.here hx rfl (hb hby at_77) rfl rfl ?_
    show Steps p.tables e below (T66.setTop (mkF m 79 #[.val (.int p0), .val (.int p1), .val (.int p2), .val (.int p3), .val (.int sm), .val (.int n), .val (.int mm), .val (.ref r55), .val (.ref r58), .val (.ref b61), .unset, .unset, .unset, .unset, .unset] [(.ref b61)])) _
    refine XS.iload X66.here hx rfl (hb hby at_79) rfl ?_
    show Steps p.tables e below (T66.setTop (mkF m 81 #[.val (.int p0), .val (.int p1), .val (.int p2), .val (.int p3), .val (.int sm), .val (.int n), .val (.int mm), .val (.ref r55), .val (.ref r58), .val (.ref b61), .unset, .unset, .unset, .unset, .unset] [(.int n), (.ref b61)])) _
    exact st70.trans kk
  obtain ⟨x1, hx1⟩ : ∃ z, z = 0 + n := ⟨_, rfl⟩
  rw [← hx1] at F70
  have ix1 := c_iadd 0 n
  rw [← hx1] at ix1
  have jx1 := rng32 x1
  have c73 := (c69.keep K70)
  have c75 := (Nat.le_trans c71 K70.1)
  obtain ⟨cq74, kq74, q74a, q74b, q74c⟩ := isOf hZ rfl c73.exa
  obtain ⟨_, _, ⟨T74, L74, k74, n74⟩, -, X74, ⟨Lc74, hQ74, l74, y74, z74⟩, st74⟩ := X70.virtualBack hx (y := (⟨"coterie/causal/Group", "flushAnswered", "()Z"⟩ : MethodName)) (z := (⟨"coterie/causal/Group", "flushAnswered", "()Z"⟩ : MethodName)) hown (mvT hZ (hw _ (List.mem_of_getElem? (i := 116) rfl))) (mvT hZ (hw _ (List.mem_of_getElem? (i := 117) rfl))) (notFace_of_selects (args := #[]) (mvT hZ (hw _ (List.mem_of_getElem? (i := 119) rfl)))) (mvT hZ (hw _ (List.mem_of_getElem? (i := 119) rfl))) (mvT hZ (hw _ (List.mem_of_getElem? (i := 118) rfl))) (by decide) (backOf (W := 0) (own_fans l Z a0 hw [] b61 x1 T70.heap n0 c75 c73 lo_b61 F70) hZ (hw _ (List.mem_of_getElem? (i := 120) rfl)) (hw _ (List.mem_of_getElem? (i := 29) rfl)) (by decide) (by decide)) q74a q74c (g := (mkF m 86 #[.val (.int p0), .val (.int p1), .val (.int p2), .val (.int p3), .val (.int sm), .val (.int n), .val (.int mm), .val (.ref r55), .val (.ref r58), .val (.ref b61), .unset, .unset, .unset, .unset, .unset] [(.ref b61)])) rfl (by rw [hml]; rfl) (Steps.refl _) (argsL := []) (rest := []) (lenOf pd___Z rfl) rfl (by show 2 * 0 + _ ≤ _; exact Nat.le_of_eq rfl) (hb hby at_86) (fun _ _ => ⟨rfl, rfl, (by decide : 16 + 0 ≤ _), (by decide : 119 + 0 ≤ _)⟩)
  dsimp only [Pt.U, Pt.locs, Pt.cells, Pt.slots] at X74 l74 y74 z74 st74 hQ74
  subst l74 y74 z74
  obtain ⟨r1, rfl, N74q, K74, F74, r1a, r1b⟩ := hQ74
  have N74 := Fr.app N70 N74q
  have pre76 : ∀ t, Steps p.tables e below (T74.setTop (mkF m 89 #[.val (.int p0), .val (.int p1), .val (.int p2), .val (.int p3), .val (.int sm), .val (.int n), .val (.int mm), .val (.ref r55), .val (.ref r58), .val (.ref b61), .unset, .unset, .unset, .unset, .unset] [(.int r1)])) t → Steps p.tables e below (s₁.setTop (entryFrame m #[(.int p0), (.int p1), (.int p2), (.int p3)] maxLocals)) t := by
    intro t kk
    refine pre72 t ?_
    show Steps p.tables e below (T70.setTop (mkF m 84 #[.val (.int p0), .val (.int p1), .val (.int p2), .val (.int p3), .val (.int sm), .val (.int n), .val (.int mm), .val (.ref r55), .val (.ref r58), .val (.ref b61), .unset, .unset, .unset, .unset, .unset] [])) _
    refine XS.aload X70.here hx rfl (hb hby at_84) rfl rfl ?_
    show Steps p.tables e below (T70.setTop (mkF m 86 #[.val (.int p0), .val (.int p1), .val (.int p2), .val (.int p3), .val (.int sm), .val (.int n), .val (.int mm), .val (.ref r55), .val (.ref r58), .val (.ref b61), .unset, .unset, .unset, .unset, .unset] [(.ref b61)])) _
    exact st74.trans kk
  obtain ⟨x2, hx2⟩ : ∃ z, z = x1 - 1 := ⟨_, rfl⟩
  rw [← hx2] at F74 r1a r1b
  have ix2 := c_isub x1 1
  rw [← hx2] at ix2
  have jx2 := rng32 x2
  have c77 := (c73.keep K74)
  have c79 := (Nat.le_trans c75 K74.1)
  obtain ⟨cq78, kq78, q78a, q78b, q78c⟩ := isOf hZ rfl c77.exa
  obtain ⟨_, _, ⟨T78, L78, k78, n78⟩, -, X78, ⟨Lc78, hQ78, l78, y78, z78⟩, st78⟩ := X74.virtualBack hx (y := (⟨"coterie/causal/Group", "flushing", "()Z"⟩ : MethodName)) (z := (⟨"coterie/causal/Group", "flushing", "()Z"⟩ : MethodName)) hown (mvT hZ (hw _ (List.mem_of_getElem? (i := 121) rfl))) (mvT hZ (hw _ (List.mem_of_getElem? (i := 122) rfl))) (notFace_of_selects (args := #[]) (mvT hZ (hw _ (List.mem_of_getElem? (i := 124) rfl)))) (mvT hZ (hw _ (List.mem_of_getElem? (i := 124) rfl))) (mvT hZ (hw _ (List.mem_of_getElem? (i := 123) rfl))) (by decide) (backOf (W := 0) (own_fing l Z a0 hw [] b61 x2 T74.heap n0 c79 c77 lo_b61 F74) hZ (hw _ (List.mem_of_getElem? (i := 125) rfl)) (hw _ (List.mem_of_getElem? (i := 29) rfl)) (by decide) (by decide)) q78a q78c (g := (mkF m 93 #[.val (.int p0), .val (.int p1), .val (.int p2), .val (.int p3), .val (.int sm), .val (.int n), .val (.int mm), .val (.ref r55), .val (.ref r58), .val (.ref b61), .val (.int r1), .unset, .unset, .unset, .unset] [(.ref b61)])) rfl (by rw [hml]; rfl) (Steps.refl _) (argsL := []) (rest := []) (lenOf pd___Z rfl) rfl (by show 2 * 0 + _ ≤ _; exact Nat.le_of_eq rfl) (hb hby at_93) (fun _ _ => ⟨rfl, rfl, (by decide : 16 + 0 ≤ _), (by decide : 119 + 0 ≤ _)⟩)
  dsimp only [Pt.U, Pt.locs, Pt.cells, Pt.slots] at X78 l78 y78 z78 st78 hQ78
  subst l78 y78 z78
  obtain ⟨f1, rfl, N78q, e78q, f1a, f1b⟩ := hQ78
  have N78 := Fr.app N74 N78q
  have pre80 : ∀ t, Steps p.tables e below (T78.setTop (mkF m 96 #[.val (.int p0), .val (.int p1), .val (.int p2), .val (.int p3), .val (.int sm), .val (.int n), .val (.int mm), .val (.ref r55), .val (.ref r58), .val (.ref b61), .val (.int r1), .unset, .unset, .unset, .unset] [(.int f1)])) t → Steps p.tables e below (s₁.setTop (entryFrame m #[(.int p0), (.int p1), (.int p2), (.int p3)] maxLocals)) t := by
    intro t kk
    refine pre76 t ?_
    show Steps p.tables e below (T74.setTop (mkF m 89 #[.val (.int p0), .val (.int p1), .val (.int p2), .val (.int p3), .val (.int sm), .val (.int n), .val (.int mm), .val (.ref r55), .val (.ref r58), .val (.ref b61), .unset, .unset, .unset, .unset, .unset] [(.int r1)])) _
    refine XS.istore X74.here hx rfl (hb hby at_89) rfl (l' := #[.val (.int p0), .val (.int p1), .val (.int p2), .val (.int p3), .val (.int sm), .val (.int n), .val (.int mm), .val (.ref r55), .val (.ref r58), .val (.ref b61), .val (.int r1), .unset, .unset, .unset, .unset]) rfl ?_
    show Steps p.tables e below (T74.setTop (mkF m 91 #[.val (.int p0), .val (.int p1), .val (.int p2), .val (.int p3), .val (.int sm), .val (.int n), .val (.int mm), .val (.ref r55), .val (.ref r58), .val (.ref b61), .val (.int r1), .unset, .unset, .unset, .unset] [])) _
    refine XS.aload X74.here hx rfl (hb hby at_91) rfl rfl ?_
    show Steps p.tables e below (T74.setTop (mkF m 93 #[.val (.int p0), .val (.int p1), .val (.int p2), .val (.int p3), .val (.int sm), .val (.int n), .val (.int mm), .val (.ref r55), .val (.ref r58), .val (.ref b61), .val (.int r1), .unset, .unset, .unset, .unset] [(.ref b61)])) _
    exact st78.trans kk
  have pre81 : ∀ t, Steps p.tables e below (T78.setTop (mkF m 98 #[.val (.int p0), .val (.int p1), .val (.int p2), .val (.int p3), .val (.int sm), .val (.int n), .val (.int mm), .val (.ref r55), .val (.ref r58), .val (.ref b61), .val (.int r1), .val (.int f1), .unset, .unset, .unset] [])) t → Steps p.tables e below (s₁.setTop (entryFrame m #[(.int p0), (.int p1), (.int p2), (.int p3)] maxLocals)) t := by
    intro t kk
    refine pre80 t ?_
    show Steps p.tables e below (T78.setTop (mkF m 96 #[.val (.int p0), .val (.int p1), .val (.int p2), .val (.int p3), .val (.int sm), .val (.int n), .val (.int mm), .val (.ref r55), .val (.ref r58), .val (.ref b61), .val (.int r1), .unset, .unset, .unset, .unset] [(.int f1)])) _
    refine XS.istore X78.here hx rfl (hb hby at_96) rfl (l' := #[.val (.int p0), .val (.int p1), .val (.int p2), .val (.int p3), .val (.int sm), .val (.int n), .val (.int mm), .val (.ref r55), .val (.ref r58), .val (.ref b61), .val (.int r1), .val (.int f1), .unset, .unset, .unset]) rfl ?_
    exact kk
  have pre82 : ∀ t, Steps p.tables e below (T78.setTop (mkF m 132 #[.val (.int p0), .val (.int p1), .val (.int p2), .val (.int p3), .val (.int sm), .val (.int n), .val (.int mm), .val (.ref r55), .val (.ref r58), .val (.ref b61), .val (.int r1), .val (.int f1), .unset, .unset, .unset] [])) t → Steps p.tables e below (s₁.setTop (entryFrame m #[(.int p0), (.int p1), (.int p2), (.int p3)] maxLocals)) t := by
    by_cases hn1 : n = (1 : Int32)
    case pos =>
      have hn1' := hn1
      rw [own_eqI] at hn1'
      have e1 : x2 = 0 := by rw [own_eqI]; omega
      have e2 := r1a e1
      have hd83 : r1 = (1 : Int32) := e2
      have hd84 : ¬ ((1 : Int32) < n) := by rw [Int32.lt_iff_toInt_lt]; omega
      have e3 := f1b (by rw [Int32.lt_iff_toInt_lt]; omega)
      have hd85 : f1 = (0 : Int32) := e3
      intro t kk
      refine pre81 t ?_
      show Steps p.tables e below (T78.setTop (mkF m 98 #[.val (.int p0), .val (.int p1), .val (.int p2), .val (.int p3), .val (.int sm), .val (.int n), .val (.int mm), .val (.ref r55), .val (.ref r58), .val (.ref b61), .val (.int r1), .val (.int f1), .unset, .unset, .unset] [])) _
      refine XS.iload X78.here hx rfl (hb hby at_98) rfl ?_
      show Steps p.tables e below (T78.setTop (mkF m 100 #[.val (.int p0), .val (.int p1), .val (.int p2), .val (.int p3), .val (.int sm), .val (.int n), .val (.int mm), .val (.ref r55), .val (.ref r58), .val (.ref b61), .val (.int r1), .val (.int f1), .unset, .unset, .unset] [(.int r1)])) _
      refine XS.iload X78.here hx rfl (hb hby at_100) rfl ?_
      show Steps p.tables e below (T78.setTop (mkF m 102 #[.val (.int p0), .val (.int p1), .val (.int p2), .val (.int p3), .val (.int sm), .val (.int n), .val (.int mm), .val (.ref r55), .val (.ref r58), .val (.ref b61), .val (.int r1), .val (.int f1), .unset, .unset, .unset] [(.int n), (.int r1)])) _
      refine XS.iconst X78.here hx rfl (hb hby at_102) ?_
      show Steps p.tables e below (T78.setTop (mkF m 103 #[.val (.int p0), .val (.int p1), .val (.int p2), .val (.int p3), .val (.int sm), .val (.int n), .val (.int mm), .val (.ref r55), .val (.ref r58), .val (.ref b61), .val (.int r1), .val (.int f1), .unset, .unset, .unset] [(.int (1 : Int32)), (.int n), (.int r1)])) _
      refine XS.icmpNo X78.here hx rfl (hb hby at_103) rfl (teq hn1).2 ?_
      show Steps p.tables e below (T78.setTop (mkF m 106 #[.val (.int p0), .val (.int p1), .val (.int p2), .val (.int p3), .val (.int sm), .val (.int n), .val (.int mm), .val (.ref r55), .val (.ref r58), .val (.ref b61), .val (.int r1), .val (.int f1), .unset, .unset, .unset] [(.int r1)])) _
      refine XS.iconst X78.here hx rfl (hb hby at_106) ?_
      show Steps p.tables e below (T78.setTop (mkF m 107 #[.val (.int p0), .val (.int p1), .val (.int p2), .val (.int p3), .val (.int sm), .val (.int n), .val (.int mm), .val (.ref r55), .val (.ref r58), .val (.ref b61), .val (.int r1), .val (.int f1), .unset, .unset, .unset] [(.int (1 : Int32)), (.int r1)])) _
      refine XS.goto X78.here hx rfl (pc0 := 107) (pc' := 111) rfl (hb hby at_107) (by decide) (by decide) ?_
      show Steps p.tables e below (T78.setTop (mkF m 111 #[.val (.int p0), .val (.int p1), .val (.int p2), .val (.int p3), .val (.int sm), .val (.int n), .val (.int mm), .val (.ref r55), .val (.ref r58), .val (.ref b61), .val (.int r1), .val (.int f1), .unset, .unset, .unset] [(.int (1 : Int32)), (.int r1)])) _
      refine XS.icmpNo X78.here hx rfl (hb hby at_111) rfl (teq hd83).2 ?_
      show Steps p.tables e below (T78.setTop (mkF m 114 #[.val (.int p0), .val (.int p1), .val (.int p2), .val (.int p3), .val (.int sm), .val (.int n), .val (.int mm), .val (.ref r55), .val (.ref r58), .val (.ref b61), .val (.int r1), .val (.int f1), .unset, .unset, .unset] [])) _
      refine XS.iload X78.here hx rfl (hb hby at_114) rfl ?_
      show Steps p.tables e below (T78.setTop (mkF m 116 #[.val (.int p0), .val (.int p1), .val (.int p2), .val (.int p3), .val (.int sm), .val (.int n), .val (.int mm), .val (.ref r55), .val (.ref r58), .val (.ref b61), .val (.int r1), .val (.int f1), .unset, .unset, .unset] [(.int f1)])) _
      refine XS.iload X78.here hx rfl (hb hby at_116) rfl ?_
      show Steps p.tables e below (T78.setTop (mkF m 118 #[.val (.int p0), .val (.int p1), .val (.int p2), .val (.int p3), .val (.int sm), .val (.int n), .val (.int mm), .val (.ref r55), .val (.ref r58), .val (.ref b61), .val (.int r1), .val (.int f1), .unset, .unset, .unset] [(.int n), (.int f1)])) _
      refine XS.iconst X78.here hx rfl (hb hby at_118) ?_
      show Steps p.tables e below (T78.setTop (mkF m 119 #[.val (.int p0), .val (.int p1), .val (.int p2), .val (.int p3), .val (.int sm), .val (.int n), .val (.int mm), .val (.ref r55), .val (.ref r58), .val (.ref b61), .val (.int r1), .val (.int f1), .unset, .unset, .unset] [(.int (1 : Int32)), (.int n), (.int f1)])) _
      refine XS.icmpYes X78.here hx rfl (pc0 := 119) (pc' := 126) rfl (hb hby at_119) rfl (flt hd84).2.2.2 (by decide) (by decide) ?_
      show Steps p.tables e below (T78.setTop (mkF m 126 #[.val (.int p0), .val (.int p1), .val (.int p2), .val (.int p3), .val (.int sm), .val (.int n), .val (.int mm), .val (.ref r55), .val (.ref r58), .val (.ref b61), .val (.int r1), .val (.int f1), .unset, .unset, .unset] [(.int f1)])) _
      refine XS.iconst X78.here hx rfl (hb hby at_126) ?_
      show Steps p.tables e below (T78.setTop (mkF m 127 #[.val (.int p0), .val (.int p1), .val (.int p2), .val (.int p3), .val (.int sm), .val (.int n), .val (.int mm), .val (.ref r55), .val (.ref r58), .val (.ref b61), .val (.int r1), .val (.int f1), .unset, .unset, .unset] [(.int (0 : Int32)), (.int f1)])) _
      refine XS.icmpYes X78.here hx rfl (pc0 := 127) (pc' := 132) rfl (hb hby at_127) rfl (teq hd85).1 (by decide) (by decide) ?_
      exact kk
    case neg =>
      have hn1' := hn1
      rw [own_eqI] at hn1'
      have e1 : ¬ x2 = 0 := by rw [own_eqI]; omega
      have e2 := r1b e1
      have hd86 : r1 = (0 : Int32) := e2
      have hd87 : (1 : Int32) < n := by rw [Int32.lt_iff_toInt_lt]; omega
      have e3 := f1a (by rw [Int32.lt_iff_toInt_lt]; omega)
      have hd88 : f1 = (1 : Int32) := e3
      intro t kk
      refine pre81 t ?_
      show Steps p.tables e below (T78.setTop (mkF m 98 #[.val (.int p0), .val (.int p1), .val (.int p2), .val (.int p3), .val (.int sm), .val (.int n), .val (.int mm), .val (.ref r55), .val (.ref r58), .val (.ref b61), .val (.int r1), .val (.int f1), .unset, .unset, .unset] [])) _
      refine XS.iload X78.here hx rfl (hb hby at_98) rfl ?_
      show Steps p.tables e below (T78.setTop (mkF m 100 #[.val (.int p0), .val (.int p1), .val (.int p2), .val (.int p3), .val (.int sm), .val (.int n), .val (.int mm), .val (.ref r55), .val (.ref r58), .val (.ref b61), .val (.int r1), .val (.int f1), .unset, .unset, .unset] [(.int r1)])) _
      refine XS.iload X78.here hx rfl (hb hby at_100) rfl ?_
      show Steps p.tables e below (T78.setTop (mkF m 102 #[.val (.int p0), .val (.int p1), .val (.int p2), .val (.int p3), .val (.int sm), .val (.int n), .val (.int mm), .val (.ref r55), .val (.ref r58), .val (.ref b61), .val (.int r1), .val (.int f1), .unset, .unset, .unset] [(.int n), (.int r1)])) _
      refine XS.iconst X78.here hx rfl (hb hby at_102) ?_
      show Steps p.tables e below (T78.setTop (mkF m 103 #[.val (.int p0), .val (.int p1), .val (.int p2), .val (.int p3), .val (.int sm), .val (.int n), .val (.int mm), .val (.ref r55), .val (.ref r58), .val (.ref b61), .val (.int r1), .val (.int f1), .unset, .unset, .unset] [(.int (1 : Int32)), (.int n), (.int r1)])) _
      refine XS.icmpYes X78.here hx rfl (pc0 := 103) (pc' := 110) rfl (hb hby at_103) rfl (feq hn1).2 (by decide) (by decide) ?_
      show Steps p.tables e below (T78.setTop (mkF m 110 #[.val (.int p0), .val (.int p1), .val (.int p2), .val (.int p3), .val (.int sm), .val (.int n), .val (.int mm), .val (.ref r55), .val (.ref r58), .val (.ref b61), .val (.int r1), .val (.int f1), .unset, .unset, .unset] [(.int r1)])) _
      refine XS.iconst X78.here hx rfl (hb hby at_110) ?_
      show Steps p.tables e below (T78.setTop (mkF m 111 #[.val (.int p0), .val (.int p1), .val (.int p2), .val (.int p3), .val (.int sm), .val (.int n), .val (.int mm), .val (.ref r55), .val (.ref r58), .val (.ref b61), .val (.int r1), .val (.int f1), .unset, .unset, .unset] [(.int (0 : Int32)), (.int r1)])) _
      refine XS.icmpNo X78.here hx rfl (hb hby at_111) rfl (teq hd86).2 ?_
      show Steps p.tables e below (T78.setTop (mkF m 114 #[.val (.int p0), .val (.int p1), .val (.int p2), .val (.int p3), .val (.int sm), .val (.int n), .val (.int mm), .val (.ref r55), .val (.ref r58), .val (.ref b61), .val (.int r1), .val (.int f1), .unset, .unset, .unset] [])) _
      refine XS.iload X78.here hx rfl (hb hby at_114) rfl ?_
      show Steps p.tables e below (T78.setTop (mkF m 116 #[.val (.int p0), .val (.int p1), .val (.int p2), .val (.int p3), .val (.int sm), .val (.int n), .val (.int mm), .val (.ref r55), .val (.ref r58), .val (.ref b61), .val (.int r1), .val (.int f1), .unset, .unset, .unset] [(.int f1)])) _
      refine XS.iload X78.here hx rfl (hb hby at_116) rfl ?_
      show Steps p.tables e below (T78.setTop (mkF m 118 #[.val (.int p0), .val (.int p1), .val (.int p2), .val (.int p3), .val (.int sm), .val (.int n), .val (.int mm), .val (.ref r55), .val (.ref r58), .val (.ref b61), .val (.int r1), .val (.int f1), .unset, .unset, .unset] [(.int n), (.int f1)])) _
      refine XS.iconst X78.here hx rfl (hb hby at_118) ?_
      show Steps p.tables e below (T78.setTop (mkF m 119 #[.val (.int p0), .val (.int p1), .val (.int p2), .val (.int p3), .val (.int sm), .val (.int n), .val (.int mm), .val (.ref r55), .val (.ref r58), .val (.ref b61), .val (.int r1), .val (.int f1), .unset, .unset, .unset] [(.int (1 : Int32)), (.int n), (.int f1)])) _
      refine XS.icmpNo X78.here hx rfl (hb hby at_119) rfl (tlt hd87).2.2.2 ?_
      show Steps p.tables e below (T78.setTop (mkF m 122 #[.val (.int p0), .val (.int p1), .val (.int p2), .val (.int p3), .val (.int sm), .val (.int n), .val (.int mm), .val (.ref r55), .val (.ref r58), .val (.ref b61), .val (.int r1), .val (.int f1), .unset, .unset, .unset] [(.int f1)])) _
      refine XS.iconst X78.here hx rfl (hb hby at_122) ?_
      show Steps p.tables e below (T78.setTop (mkF m 123 #[.val (.int p0), .val (.int p1), .val (.int p2), .val (.int p3), .val (.int sm), .val (.int n), .val (.int mm), .val (.ref r55), .val (.ref r58), .val (.ref b61), .val (.int r1), .val (.int f1), .unset, .unset, .unset] [(.int (1 : Int32)), (.int f1)])) _
      refine XS.goto X78.here hx rfl (pc0 := 123) (pc' := 127) rfl (hb hby at_123) (by decide) (by decide) ?_
      show Steps p.tables e below (T78.setTop (mkF m 127 #[.val (.int p0), .val (.int p1), .val (.int p2), .val (.int p3), .val (.int sm), .val (.int n), .val (.int mm), .val (.ref r55), .val (.ref r58), .val (.ref b61), .val (.int r1), .val (.int f1), .unset, .unset, .unset] [(.int (1 : Int32)), (.int f1)])) _
      refine XS.icmpYes X78.here hx rfl (pc0 := 127) (pc' := 132) rfl (hb hby at_127) rfl (teq hd88).1 (by decide) (by decide) ?_
      exact kk
  obtain ⟨cq139, kq139, q139a, q139b, q139c⟩ := isOf hZ e78q c77.exa
  obtain ⟨_, _, ⟨T139, L139, k139, n139⟩, -, X139, ⟨Lc139, hQ139, l139, y139, z139⟩, st139⟩ := X78.virtualBack hx (y := (⟨"coterie/causal/Group", "flushAsked", "(I)V"⟩ : MethodName)) (z := (⟨"coterie/causal/Group", "flushAsked", "(I)V"⟩ : MethodName)) hown (mvT hZ (hw _ (List.mem_of_getElem? (i := 109) rfl))) (mvT hZ (hw _ (List.mem_of_getElem? (i := 110) rfl))) (notFace_of_selects (args := #[]) (mvT hZ (hw _ (List.mem_of_getElem? (i := 112) rfl)))) (mvT hZ (hw _ (List.mem_of_getElem? (i := 112) rfl))) (mvT hZ (hw _ (List.mem_of_getElem? (i := 111) rfl))) (by decide) (backOf (W := 0) (own_fask l Z a0 hw [] b61 mm x2 T74.heap n0 c79 c77 lo_b61 F74) hZ (hw _ (List.mem_of_getElem? (i := 113) rfl)) (hw _ (List.mem_of_getElem? (i := 29) rfl)) (by decide) (by decide)) q139a q139c (g := (mkF m 136 #[.val (.int p0), .val (.int p1), .val (.int p2), .val (.int p3), .val (.int sm), .val (.int n), .val (.int mm), .val (.ref r55), .val (.ref r58), .val (.ref b61), .val (.int r1), .val (.int f1), .unset, .unset, .unset] [(.int mm), (.ref b61)])) rfl (by rw [hml]; rfl) (Steps.refl _) (argsL := [(.int mm)]) (rest := []) (lenOf pd__I_V rfl) rfl (by show 2 * 0 + _ ≤ _; exact Nat.le_of_eq rfl) (hb hby at_136) (fun _ _ => ⟨rfl, e78q, (by decide : 16 + 0 ≤ _), (by decide : 119 + 0 ≤ _)⟩)
  dsimp only [Pt.U, Pt.locs, Pt.cells, Pt.slots] at X139 l139 y139 z139 st139 hQ139
  subst l139 y139 z139
  obtain ⟨rfl, N139q, K139, F139⟩ := hQ139
  have N139 := Fr.app N78 N139q
  have pre140 : ∀ t, Steps p.tables e below (T139.setTop (mkF m 139 #[.val (.int p0), .val (.int p1), .val (.int p2), .val (.int p3), .val (.int sm), .val (.int n), .val (.int mm), .val (.ref r55), .val (.ref r58), .val (.ref b61), .val (.int r1), .val (.int f1), .unset, .unset, .unset] [])) t → Steps p.tables e below (s₁.setTop (entryFrame m #[(.int p0), (.int p1), (.int p2), (.int p3)] maxLocals)) t := by
    intro t kk
    refine pre82 t ?_
    show Steps p.tables e below (T78.setTop (mkF m 132 #[.val (.int p0), .val (.int p1), .val (.int p2), .val (.int p3), .val (.int sm), .val (.int n), .val (.int mm), .val (.ref r55), .val (.ref r58), .val (.ref b61), .val (.int r1), .val (.int f1), .unset, .unset, .unset] [])) _
    refine XS.aload X78.here hx rfl (hb hby at_132) rfl rfl ?_
    show Steps p.tables e below (T78.setTop (mkF m 134 #[.val (.int p0), .val (.int p1), .val (.int p2), .val (.int p3), .val (.int sm), .val (.int n), .val (.int mm), .val (.ref r55), .val (.ref r58), .val (.ref b61), .val (.int r1), .val (.int f1), .unset, .unset, .unset] [(.ref b61)])) _
    refine XS.iload X78.here hx rfl (hb hby at_134) rfl ?_
    show Steps p.tables e below (T78.setTop (mkF m 136 #[.val (.int p0), .val (.int p1), .val (.int p2), .val (.int p3), .val (.int sm), .val (.int n), .val (.int mm), .val (.ref r55), .val (.ref r58), .val (.ref b61), .val (.int r1), .val (.int f1), .unset, .unset, .unset] [(.int mm), (.ref b61)])) _
    exact st139.trans kk
  obtain ⟨x3, hx3⟩ : ∃ z, z = x2 + mm := ⟨_, rfl⟩
  rw [← hx3] at F139
  have ix3 := c_iadd x2 mm
  rw [← hx3] at ix3
  have jx3 := rng32 x3
  have pre141 : ∀ t, Steps p.tables e below (T139.setTop (mkF m 146 #[.val (.int p0), .val (.int p1), .val (.int p2), .val (.int p3), .val (.int sm), .val (.int n), .val (.int mm), .val (.ref r55), .val (.ref r58), .val (.ref b61), .val (.int r1), .val (.int f1), .unset, .unset, .unset] [(.int ((n - (1 : Int32)) + mm))])) t → Steps p.tables e below (s₁.setTop (entryFrame m #[(.int p0), (.int p1), (.int p2), (.int p3)] maxLocals)) t := by
    intro t kk
    refine pre140 t ?_
    show Steps p.tables e below (T139.setTop (mkF m 139 #[.val (.int p0), .val (.int p1), .val (.int p2), .val (.int p3), .val (.int sm), .val (.int n), .val (.int mm), .val (.ref r55), .val (.ref r58), .val (.ref b61), .val (.int r1), .val (.int f1), .unset, .unset, .unset] [])) _
    refine XS.iload X139.here hx rfl (hb hby at_139) rfl ?_
    show Steps p.tables e below (T139.setTop (mkF m 141 #[.val (.int p0), .val (.int p1), .val (.int p2), .val (.int p3), .val (.int sm), .val (.int n), .val (.int mm), .val (.ref r55), .val (.ref r58), .val (.ref b61), .val (.int r1), .val (.int f1), .unset, .unset, .unset] [(.int n)])) _
    refine XS.iconst X139.here hx rfl (hb hby at_141) ?_
    show Steps p.tables e below (T139.setTop (mkF m 142 #[.val (.int p0), .val (.int p1), .val (.int p2), .val (.int p3), .val (.int sm), .val (.int n), .val (.int mm), .val (.ref r55), .val (.ref r58), .val (.ref b61), .val (.int r1), .val (.int f1), .unset, .unset, .unset] [(.int (1 : Int32)), (.int n)])) _
    refine XS.isub X139.here hx rfl (hb hby at_142) rfl ?_
    show Steps p.tables e below (T139.setTop (mkF m 143 #[.val (.int p0), .val (.int p1), .val (.int p2), .val (.int p3), .val (.int sm), .val (.int n), .val (.int mm), .val (.ref r55), .val (.ref r58), .val (.ref b61), .val (.int r1), .val (.int f1), .unset, .unset, .unset] [(.int (n - (1 : Int32)))])) _
    refine XS.iload X139.here hx rfl (hb hby at_143) rfl ?_
    show Steps p.tables e below (T139.setTop (mkF m 145 #[.val (.int p0), .val (.int p1), .val (.int p2), .val (.int p3), .val (.int sm), .val (.int n), .val (.int mm), .val (.ref r55), .val (.ref r58), .val (.ref b61), .val (.int r1), .val (.int f1), .unset, .unset, .unset] [(.int mm), (.int (n - (1 : Int32)))])) _
    refine XS.iadd X139.here hx rfl (hb hby at_145) rfl ?_
    exact kk
  obtain ⟨lf, hlf⟩ : ∃ z, z = (n - (1 : Int32)) + mm := ⟨_, rfl⟩
  rw [← hlf] at pre141
  have q1 := c_isub n 1
  have q2 := rng32 (n - 1)
  have q3 := c_iadd (n - 1) mm
  rw [← hlf] at q3
  have q4 := rng32 lf
  by_cases hl : lf < (1 : Int32)
  case pos =>
    have hl' := hl
    rw [Int32.lt_iff_toInt_lt] at hl'
    have c142 := (c77.keep K139)
    have c144 := (Nat.le_trans c79 K139.1)
    obtain ⟨cq143, kq143, q143a, q143b, q143c⟩ := isOf hZ rfl c142.exa
    obtain ⟨_, _, ⟨T143, L143, k143, n143⟩, -, X143, ⟨Lc143, hQ143, l143, y143, z143⟩, st143⟩ := X139.virtualBack hx (y := (⟨"coterie/causal/Group", "flushing", "()Z"⟩ : MethodName)) (z := (⟨"coterie/causal/Group", "flushing", "()Z"⟩ : MethodName)) hown (mvT hZ (hw _ (List.mem_of_getElem? (i := 121) rfl))) (mvT hZ (hw _ (List.mem_of_getElem? (i := 122) rfl))) (notFace_of_selects (args := #[]) (mvT hZ (hw _ (List.mem_of_getElem? (i := 124) rfl)))) (mvT hZ (hw _ (List.mem_of_getElem? (i := 124) rfl))) (mvT hZ (hw _ (List.mem_of_getElem? (i := 123) rfl))) (by decide) (backOf (W := 0) (own_fing l Z a0 hw [] b61 x3 T139.heap n0 c144 c142 lo_b61 F139) hZ (hw _ (List.mem_of_getElem? (i := 125) rfl)) (hw _ (List.mem_of_getElem? (i := 29) rfl)) (by decide) (by decide)) q143a q143c (g := (mkF m 156 #[.val (.int p0), .val (.int p1), .val (.int p2), .val (.int p3), .val (.int sm), .val (.int n), .val (.int mm), .val (.ref r55), .val (.ref r58), .val (.ref b61), .val (.int r1), .val (.int f1), .val (.int lf), .unset, .unset] [(.ref b61)])) rfl (by rw [hml]; rfl) (Steps.refl _) (argsL := []) (rest := []) (lenOf pd___Z rfl) rfl (by show 2 * 0 + _ ≤ _; exact Nat.le_of_eq rfl) (hb hby at_156) (fun _ _ => ⟨rfl, rfl, (by decide : 16 + 0 ≤ _), (by decide : 119 + 0 ≤ _)⟩)
    dsimp only [Pt.U, Pt.locs, Pt.cells, Pt.slots] at X143 l143 y143 z143 st143 hQ143
    subst l143 y143 z143
    obtain ⟨f3, rfl, N143q, e143q, f3a, f3b⟩ := hQ143
    have N143 := Fr.app N139 N143q
    have pre145 : ∀ t, Steps p.tables e below (T143.setTop (mkF m 159 #[.val (.int p0), .val (.int p1), .val (.int p2), .val (.int p3), .val (.int sm), .val (.int n), .val (.int mm), .val (.ref r55), .val (.ref r58), .val (.ref b61), .val (.int r1), .val (.int f1), .val (.int lf), .unset, .unset] [(.int f3)])) t → Steps p.tables e below (s₁.setTop (entryFrame m #[(.int p0), (.int p1), (.int p2), (.int p3)] maxLocals)) t := by
      intro t kk
      refine pre141 t ?_
      show Steps p.tables e below (T139.setTop (mkF m 146 #[.val (.int p0), .val (.int p1), .val (.int p2), .val (.int p3), .val (.int sm), .val (.int n), .val (.int mm), .val (.ref r55), .val (.ref r58), .val (.ref b61), .val (.int r1), .val (.int f1), .unset, .unset, .unset] [(.int lf)])) _
      refine XS.istore X139.here hx rfl (hb hby at_146) rfl (l' := #[.val (.int p0), .val (.int p1), .val (.int p2), .val (.int p3), .val (.int sm), .val (.int n), .val (.int mm), .val (.ref r55), .val (.ref r58), .val (.ref b61), .val (.int r1), .val (.int f1), .val (.int lf), .unset, .unset]) rfl ?_
      show Steps p.tables e below (T139.setTop (mkF m 148 #[.val (.int p0), .val (.int p1), .val (.int p2), .val (.int p3), .val (.int sm), .val (.int n), .val (.int mm), .val (.ref r55), .val (.ref r58), .val (.ref b61), .val (.int r1), .val (.int f1), .val (.int lf), .unset, .unset] [])) _
      refine XS.iload X139.here hx rfl (hb hby at_148) rfl ?_
      show Steps p.tables e below (T139.setTop (mkF m 150 #[.val (.int p0), .val (.int p1), .val (.int p2), .val (.int p3), .val (.int sm), .val (.int n), .val (.int mm), .val (.ref r55), .val (.ref r58), .val (.ref b61), .val (.int r1), .val (.int f1), .val (.int lf), .unset, .unset] [(.int lf)])) _
      refine XS.iconst X139.here hx rfl (hb hby at_150) ?_
      show Steps p.tables e below (T139.setTop (mkF m 151 #[.val (.int p0), .val (.int p1), .val (.int p2), .val (.int p3), .val (.int sm), .val (.int n), .val (.int mm), .val (.ref r55), .val (.ref r58), .val (.ref b61), .val (.int r1), .val (.int f1), .val (.int lf), .unset, .unset] [(.int (1 : Int32)), (.int lf)])) _
      refine XS.icmpNo X139.here hx rfl (hb hby at_151) rfl (tlt hl).2.1 ?_
      show Steps p.tables e below (T139.setTop (mkF m 154 #[.val (.int p0), .val (.int p1), .val (.int p2), .val (.int p3), .val (.int sm), .val (.int n), .val (.int mm), .val (.ref r55), .val (.ref r58), .val (.ref b61), .val (.int r1), .val (.int f1), .val (.int lf), .unset, .unset] [])) _
      refine XS.aload X139.here hx rfl (hb hby at_154) rfl rfl ?_
      show Steps p.tables e below (T139.setTop (mkF m 156 #[.val (.int p0), .val (.int p1), .val (.int p2), .val (.int p3), .val (.int sm), .val (.int n), .val (.int mm), .val (.ref r55), .val (.ref r58), .val (.ref b61), .val (.int r1), .val (.int f1), .val (.int lf), .unset, .unset] [(.ref b61)])) _
      exact st143.trans kk
    have e4 := f3b (by rw [Int32.lt_iff_toInt_lt]; omega)
    have hd146 : f3 = (0 : Int32) := e4
    obtain ⟨fs, hr, hrun, hended, hW, hsame⟩ := X143.leave (v := some (.int (1 : Int32))) (fun h => by rw [Bd.returns] at h; cases h)
    refine ⟨_, _, pre145 _ ?_, hrun, hended, _, _, rfl, ?_, ⟨_, rfl⟩, hW, hsame.mono (by decide) (by decide)⟩
    · show Steps p.tables e below (T143.setTop (mkF m 159 #[.val (.int p0), .val (.int p1), .val (.int p2), .val (.int p3), .val (.int sm), .val (.int n), .val (.int mm), .val (.ref r55), .val (.ref r58), .val (.ref b61), .val (.int r1), .val (.int f1), .val (.int lf), .unset, .unset] [(.int f3)])) _
      refine XS.ifNo X143.here hx rfl (hb hby at_159) rfl ((if0 _ _).trans (teq hd146).2) ?_
      show Steps p.tables e below (T143.setTop (mkF m 162 #[.val (.int p0), .val (.int p1), .val (.int p2), .val (.int p3), .val (.int sm), .val (.int n), .val (.int mm), .val (.ref r55), .val (.ref r58), .val (.ref b61), .val (.int r1), .val (.int f1), .val (.int lf), .unset, .unset] [])) _
      refine XS.iconst X143.here hx rfl (hb hby at_162) ?_
      show Steps p.tables e below (T143.setTop (mkF m 163 #[.val (.int p0), .val (.int p1), .val (.int p2), .val (.int p3), .val (.int sm), .val (.int n), .val (.int mm), .val (.ref r55), .val (.ref r58), .val (.ref b61), .val (.int r1), .val (.int f1), .val (.int lf), .unset, .unset] [(.int (1 : Int32))])) _
      refine XS.goto X143.here hx rfl (pc0 := 163) (pc' := 167) rfl (hb hby at_163) (by decide) (by decide) ?_
      show Steps p.tables e below (T143.setTop (mkF m 167 #[.val (.int p0), .val (.int p1), .val (.int p2), .val (.int p3), .val (.int sm), .val (.int n), .val (.int mm), .val (.ref r55), .val (.ref r58), .val (.ref b61), .val (.int r1), .val (.int f1), .val (.int lf), .unset, .unset] [(.int (1 : Int32))])) _
      exact retN X143 hx (t := .boolean) Bd.returns (by simp) (hb hby at_167) hr
    · show Q_own_law Z p0 p1 p2 p3 G1 r h0 n0 _ T143.heap _
      rw [e143q]
      exact ⟨rfl, N143⟩
  case neg =>
    have hl' := hl
    rw [Int32.lt_iff_toInt_lt] at hl'
    have c147 := (c77.keep K139)
    have c149 := (Nat.le_trans c79 K139.1)
    obtain ⟨cq148, kq148, q148a, q148b, q148c⟩ := isOf hZ rfl c147.exa
    obtain ⟨_, _, ⟨T148, L148, k148, n148⟩, -, X148, ⟨Lc148, hQ148, l148, y148, z148⟩, st148⟩ := X139.virtualBack hx (y := (⟨"coterie/causal/Group", "flushAnswered", "()Z"⟩ : MethodName)) (z := (⟨"coterie/causal/Group", "flushAnswered", "()Z"⟩ : MethodName)) hown (mvT hZ (hw _ (List.mem_of_getElem? (i := 116) rfl))) (mvT hZ (hw _ (List.mem_of_getElem? (i := 117) rfl))) (notFace_of_selects (args := #[]) (mvT hZ (hw _ (List.mem_of_getElem? (i := 119) rfl)))) (mvT hZ (hw _ (List.mem_of_getElem? (i := 119) rfl))) (mvT hZ (hw _ (List.mem_of_getElem? (i := 118) rfl))) (by decide) (backOf (W := 0) (own_fans l Z a0 hw [] b61 x3 T139.heap n0 c149 c147 lo_b61 F139) hZ (hw _ (List.mem_of_getElem? (i := 120) rfl)) (hw _ (List.mem_of_getElem? (i := 29) rfl)) (by decide) (by decide)) q148a q148c (g := (mkF m 170 #[.val (.int p0), .val (.int p1), .val (.int p2), .val (.int p3), .val (.int sm), .val (.int n), .val (.int mm), .val (.ref r55), .val (.ref r58), .val (.ref b61), .val (.int r1), .val (.int f1), .val (.int lf), .unset, .unset] [(.ref b61)])) rfl (by rw [hml]; rfl) (Steps.refl _) (argsL := []) (rest := []) (lenOf pd___Z rfl) rfl (by show 2 * 0 + _ ≤ _; exact Nat.le_of_eq rfl) (hb hby at_170) (fun _ _ => ⟨rfl, rfl, (by decide : 16 + 0 ≤ _), (by decide : 119 + 0 ≤ _)⟩)
    dsimp only [Pt.U, Pt.locs, Pt.cells, Pt.slots] at X148 l148 y148 z148 st148 hQ148
    subst l148 y148 z148
    obtain ⟨r2, rfl, N148q, K148, F148, r2a, r2b⟩ := hQ148
    have N148 := Fr.app N139 N148q
    have pre150 : ∀ t, Steps p.tables e below (T148.setTop (mkF m 173 #[.val (.int p0), .val (.int p1), .val (.int p2), .val (.int p3), .val (.int sm), .val (.int n), .val (.int mm), .val (.ref r55), .val (.ref r58), .val (.ref b61), .val (.int r1), .val (.int f1), .val (.int lf), .unset, .unset] [(.int r2)])) t → Steps p.tables e below (s₁.setTop (entryFrame m #[(.int p0), (.int p1), (.int p2), (.int p3)] maxLocals)) t := by
      intro t kk
      refine pre141 t ?_
      show Steps p.tables e below (T139.setTop (mkF m 146 #[.val (.int p0), .val (.int p1), .val (.int p2), .val (.int p3), .val (.int sm), .val (.int n), .val (.int mm), .val (.ref r55), .val (.ref r58), .val (.ref b61), .val (.int r1), .val (.int f1), .unset, .unset, .unset] [(.int lf)])) _
      refine XS.istore X139.here hx rfl (hb hby at_146) rfl (l' := #[.val (.int p0), .val (.int p1), .val (.int p2), .val (.int p3), .val (.int sm), .val (.int n), .val (.int mm), .val (.ref r55), .val (.ref r58), .val (.ref b61), .val (.int r1), .val (.int f1), .val (.int lf), .unset, .unset]) rfl ?_
      show Steps p.tables e below (T139.setTop (mkF m 148 #[.val (.int p0), .val (.int p1), .val (.int p2), .val (.int p3), .val (.int sm), .val (.int n), .val (.int mm), .val (.ref r55), .val (.ref r58), .val (.ref b61), .val (.int r1), .val (.int f1), .val (.int lf), .unset, .unset] [])) _
      refine XS.iload X139.here hx rfl (hb hby at_148) rfl ?_
      show Steps p.tables e below (T139.setTop (mkF m 150 #[.val (.int p0), .val (.int p1), .val (.int p2), .val (.int p3), .val (.int sm), .val (.int n), .val (.int mm), .val (.ref r55), .val (.ref r58), .val (.ref b61), .val (.int r1), .val (.int f1), .val (.int lf), .unset, .unset] [(.int lf)])) _
      refine XS.iconst X139.here hx rfl (hb hby at_150) ?_
      show Steps p.tables e below (T139.setTop (mkF m 151 #[.val (.int p0), .val (.int p1), .val (.int p2), .val (.int p3), .val (.int sm), .val (.int n), .val (.int mm), .val (.ref r55), .val (.ref r58), .val (.ref b61), .val (.int r1), .val (.int f1), .val (.int lf), .unset, .unset] [(.int (1 : Int32)), (.int lf)])) _
      refine XS.icmpYes X139.here hx rfl (pc0 := 151) (pc' := 168) rfl (hb hby at_151) rfl (flt hl).2.1 (by decide) (by decide) ?_
      show Steps p.tables e below (T139.setTop (mkF m 168 #[.val (.int p0), .val (.int p1), .val (.int p2), .val (.int p3), .val (.int sm), .val (.int n), .val (.int mm), .val (.ref r55), .val (.ref r58), .val (.ref b61), .val (.int r1), .val (.int f1), .val (.int lf), .unset, .unset] [])) _
      refine XS.aload X139.here hx rfl (hb hby at_168) rfl rfl ?_
      show Steps p.tables e below (T139.setTop (mkF m 170 #[.val (.int p0), .val (.int p1), .val (.int p2), .val (.int p3), .val (.int sm), .val (.int n), .val (.int mm), .val (.ref r55), .val (.ref r58), .val (.ref b61), .val (.int r1), .val (.int f1), .val (.int lf), .unset, .unset] [(.ref b61)])) _
      exact st148.trans kk
    obtain ⟨x4, hx4⟩ : ∃ z, z = x3 - 1 := ⟨_, rfl⟩
    rw [← hx4] at F148 r2a r2b
    have ix4 := c_isub x3 1
    rw [← hx4] at ix4
    have jx4 := rng32 x4
    have c151 := (c147.keep K148)
    have c153 := (Nat.le_trans c149 K148.1)
    obtain ⟨cq152, kq152, q152a, q152b, q152c⟩ := isOf hZ rfl c151.exa
    obtain ⟨_, _, ⟨T152, L152, k152, n152⟩, -, X152, ⟨Lc152, hQ152, l152, y152, z152⟩, st152⟩ := X148.virtualBack hx (y := (⟨"coterie/causal/Group", "flushing", "()Z"⟩ : MethodName)) (z := (⟨"coterie/causal/Group", "flushing", "()Z"⟩ : MethodName)) hown (mvT hZ (hw _ (List.mem_of_getElem? (i := 121) rfl))) (mvT hZ (hw _ (List.mem_of_getElem? (i := 122) rfl))) (notFace_of_selects (args := #[]) (mvT hZ (hw _ (List.mem_of_getElem? (i := 124) rfl)))) (mvT hZ (hw _ (List.mem_of_getElem? (i := 124) rfl))) (mvT hZ (hw _ (List.mem_of_getElem? (i := 123) rfl))) (by decide) (backOf (W := 0) (own_fing l Z a0 hw [] b61 x4 T148.heap n0 c153 c151 lo_b61 F148) hZ (hw _ (List.mem_of_getElem? (i := 125) rfl)) (hw _ (List.mem_of_getElem? (i := 29) rfl)) (by decide) (by decide)) q152a q152c (g := (mkF m 177 #[.val (.int p0), .val (.int p1), .val (.int p2), .val (.int p3), .val (.int sm), .val (.int n), .val (.int mm), .val (.ref r55), .val (.ref r58), .val (.ref b61), .val (.int r1), .val (.int f1), .val (.int lf), .val (.int r2), .unset] [(.ref b61)])) rfl (by rw [hml]; rfl) (Steps.refl _) (argsL := []) (rest := []) (lenOf pd___Z rfl) rfl (by show 2 * 0 + _ ≤ _; exact Nat.le_of_eq rfl) (hb hby at_177) (fun _ _ => ⟨rfl, rfl, (by decide : 16 + 0 ≤ _), (by decide : 119 + 0 ≤ _)⟩)
    dsimp only [Pt.U, Pt.locs, Pt.cells, Pt.slots] at X152 l152 y152 z152 st152 hQ152
    subst l152 y152 z152
    obtain ⟨f2, rfl, N152q, e152q, f2a, f2b⟩ := hQ152
    have N152 := Fr.app N148 N152q
    have pre154 : ∀ t, Steps p.tables e below (T152.setTop (mkF m 180 #[.val (.int p0), .val (.int p1), .val (.int p2), .val (.int p3), .val (.int sm), .val (.int n), .val (.int mm), .val (.ref r55), .val (.ref r58), .val (.ref b61), .val (.int r1), .val (.int f1), .val (.int lf), .val (.int r2), .unset] [(.int f2)])) t → Steps p.tables e below (s₁.setTop (entryFrame m #[(.int p0), (.int p1), (.int p2), (.int p3)] maxLocals)) t := by
      intro t kk
      refine pre150 t ?_
      show Steps p.tables e below (T148.setTop (mkF m 173 #[.val (.int p0), .val (.int p1), .val (.int p2), .val (.int p3), .val (.int sm), .val (.int n), .val (.int mm), .val (.ref r55), .val (.ref r58), .val (.ref b61), .val (.int r1), .val (.int f1), .val (.int lf), .unset, .unset] [(.int r2)])) _
      refine XS.istore X148.here hx rfl (hb hby at_173) rfl (l' := #[.val (.int p0), .val (.int p1), .val (.int p2), .val (.int p3), .val (.int sm), .val (.int n), .val (.int mm), .val (.ref r55), .val (.ref r58), .val (.ref b61), .val (.int r1), .val (.int f1), .val (.int lf), .val (.int r2), .unset]) rfl ?_
      show Steps p.tables e below (T148.setTop (mkF m 175 #[.val (.int p0), .val (.int p1), .val (.int p2), .val (.int p3), .val (.int sm), .val (.int n), .val (.int mm), .val (.ref r55), .val (.ref r58), .val (.ref b61), .val (.int r1), .val (.int f1), .val (.int lf), .val (.int r2), .unset] [])) _
      refine XS.aload X148.here hx rfl (hb hby at_175) rfl rfl ?_
      show Steps p.tables e below (T148.setTop (mkF m 177 #[.val (.int p0), .val (.int p1), .val (.int p2), .val (.int p3), .val (.int sm), .val (.int n), .val (.int mm), .val (.ref r55), .val (.ref r58), .val (.ref b61), .val (.int r1), .val (.int f1), .val (.int lf), .val (.int r2), .unset] [(.ref b61)])) _
      exact st152.trans kk
    by_cases hm : lf = (1 : Int32)
    case pos =>
      have hm' := hm
      rw [own_eqI] at hm'
      have e5 := r2a (by rw [own_eqI]; omega)
      have hd155 : r2 = (1 : Int32) := e5
      have hd156 : ¬ ((1 : Int32) < lf) := by rw [Int32.lt_iff_toInt_lt]; omega
      have e6 := f2b (by rw [Int32.lt_iff_toInt_lt]; omega)
      have hd157 : f2 = (0 : Int32) := e6
      obtain ⟨fs, hr, hrun, hended, hW, hsame⟩ := X152.leave (v := some (.int (1 : Int32))) (fun h => by rw [Bd.returns] at h; cases h)
      refine ⟨_, _, pre154 _ ?_, hrun, hended, _, _, rfl, ?_, ⟨_, rfl⟩, hW, hsame.mono (by decide) (by decide)⟩
      · show Steps p.tables e below (T152.setTop (mkF m 180 #[.val (.int p0), .val (.int p1), .val (.int p2), .val (.int p3), .val (.int sm), .val (.int n), .val (.int mm), .val (.ref r55), .val (.ref r58), .val (.ref b61), .val (.int r1), .val (.int f1), .val (.int lf), .val (.int r2), .unset] [(.int f2)])) _
        refine XS.istore X152.here hx rfl (hb hby at_180) rfl (l' := #[.val (.int p0), .val (.int p1), .val (.int p2), .val (.int p3), .val (.int sm), .val (.int n), .val (.int mm), .val (.ref r55), .val (.ref r58), .val (.ref b61), .val (.int r1), .val (.int f1), .val (.int lf), .val (.int r2), .val (.int f2)]) rfl ?_
        show Steps p.tables e below (T152.setTop (mkF m 182 #[.val (.int p0), .val (.int p1), .val (.int p2), .val (.int p3), .val (.int sm), .val (.int n), .val (.int mm), .val (.ref r55), .val (.ref r58), .val (.ref b61), .val (.int r1), .val (.int f1), .val (.int lf), .val (.int r2), .val (.int f2)] [])) _
        refine XS.iload X152.here hx rfl (hb hby at_182) rfl ?_
        show Steps p.tables e below (T152.setTop (mkF m 184 #[.val (.int p0), .val (.int p1), .val (.int p2), .val (.int p3), .val (.int sm), .val (.int n), .val (.int mm), .val (.ref r55), .val (.ref r58), .val (.ref b61), .val (.int r1), .val (.int f1), .val (.int lf), .val (.int r2), .val (.int f2)] [(.int r2)])) _
        refine XS.iload X152.here hx rfl (hb hby at_184) rfl ?_
        show Steps p.tables e below (T152.setTop (mkF m 186 #[.val (.int p0), .val (.int p1), .val (.int p2), .val (.int p3), .val (.int sm), .val (.int n), .val (.int mm), .val (.ref r55), .val (.ref r58), .val (.ref b61), .val (.int r1), .val (.int f1), .val (.int lf), .val (.int r2), .val (.int f2)] [(.int lf), (.int r2)])) _
        refine XS.iconst X152.here hx rfl (hb hby at_186) ?_
        show Steps p.tables e below (T152.setTop (mkF m 187 #[.val (.int p0), .val (.int p1), .val (.int p2), .val (.int p3), .val (.int sm), .val (.int n), .val (.int mm), .val (.ref r55), .val (.ref r58), .val (.ref b61), .val (.int r1), .val (.int f1), .val (.int lf), .val (.int r2), .val (.int f2)] [(.int (1 : Int32)), (.int lf), (.int r2)])) _
        refine XS.icmpNo X152.here hx rfl (hb hby at_187) rfl (teq hm).2 ?_
        show Steps p.tables e below (T152.setTop (mkF m 190 #[.val (.int p0), .val (.int p1), .val (.int p2), .val (.int p3), .val (.int sm), .val (.int n), .val (.int mm), .val (.ref r55), .val (.ref r58), .val (.ref b61), .val (.int r1), .val (.int f1), .val (.int lf), .val (.int r2), .val (.int f2)] [(.int r2)])) _
        refine XS.iconst X152.here hx rfl (hb hby at_190) ?_
        show Steps p.tables e below (T152.setTop (mkF m 191 #[.val (.int p0), .val (.int p1), .val (.int p2), .val (.int p3), .val (.int sm), .val (.int n), .val (.int mm), .val (.ref r55), .val (.ref r58), .val (.ref b61), .val (.int r1), .val (.int f1), .val (.int lf), .val (.int r2), .val (.int f2)] [(.int (1 : Int32)), (.int r2)])) _
        refine XS.goto X152.here hx rfl (pc0 := 191) (pc' := 195) rfl (hb hby at_191) (by decide) (by decide) ?_
        show Steps p.tables e below (T152.setTop (mkF m 195 #[.val (.int p0), .val (.int p1), .val (.int p2), .val (.int p3), .val (.int sm), .val (.int n), .val (.int mm), .val (.ref r55), .val (.ref r58), .val (.ref b61), .val (.int r1), .val (.int f1), .val (.int lf), .val (.int r2), .val (.int f2)] [(.int (1 : Int32)), (.int r2)])) _
        refine XS.icmpNo X152.here hx rfl (hb hby at_195) rfl (teq hd155).2 ?_
        show Steps p.tables e below (T152.setTop (mkF m 198 #[.val (.int p0), .val (.int p1), .val (.int p2), .val (.int p3), .val (.int sm), .val (.int n), .val (.int mm), .val (.ref r55), .val (.ref r58), .val (.ref b61), .val (.int r1), .val (.int f1), .val (.int lf), .val (.int r2), .val (.int f2)] [])) _
        refine XS.iload X152.here hx rfl (hb hby at_198) rfl ?_
        show Steps p.tables e below (T152.setTop (mkF m 200 #[.val (.int p0), .val (.int p1), .val (.int p2), .val (.int p3), .val (.int sm), .val (.int n), .val (.int mm), .val (.ref r55), .val (.ref r58), .val (.ref b61), .val (.int r1), .val (.int f1), .val (.int lf), .val (.int r2), .val (.int f2)] [(.int f2)])) _
        refine XS.iload X152.here hx rfl (hb hby at_200) rfl ?_
        show Steps p.tables e below (T152.setTop (mkF m 202 #[.val (.int p0), .val (.int p1), .val (.int p2), .val (.int p3), .val (.int sm), .val (.int n), .val (.int mm), .val (.ref r55), .val (.ref r58), .val (.ref b61), .val (.int r1), .val (.int f1), .val (.int lf), .val (.int r2), .val (.int f2)] [(.int lf), (.int f2)])) _
        refine XS.iconst X152.here hx rfl (hb hby at_202) ?_
        show Steps p.tables e below (T152.setTop (mkF m 203 #[.val (.int p0), .val (.int p1), .val (.int p2), .val (.int p3), .val (.int sm), .val (.int n), .val (.int mm), .val (.ref r55), .val (.ref r58), .val (.ref b61), .val (.int r1), .val (.int f1), .val (.int lf), .val (.int r2), .val (.int f2)] [(.int (1 : Int32)), (.int lf), (.int f2)])) _
        refine XS.icmpYes X152.here hx rfl (pc0 := 203) (pc' := 210) rfl (hb hby at_203) rfl (flt hd156).2.2.2 (by decide) (by decide) ?_
        show Steps p.tables e below (T152.setTop (mkF m 210 #[.val (.int p0), .val (.int p1), .val (.int p2), .val (.int p3), .val (.int sm), .val (.int n), .val (.int mm), .val (.ref r55), .val (.ref r58), .val (.ref b61), .val (.int r1), .val (.int f1), .val (.int lf), .val (.int r2), .val (.int f2)] [(.int f2)])) _
        refine XS.iconst X152.here hx rfl (hb hby at_210) ?_
        show Steps p.tables e below (T152.setTop (mkF m 211 #[.val (.int p0), .val (.int p1), .val (.int p2), .val (.int p3), .val (.int sm), .val (.int n), .val (.int mm), .val (.ref r55), .val (.ref r58), .val (.ref b61), .val (.int r1), .val (.int f1), .val (.int lf), .val (.int r2), .val (.int f2)] [(.int (0 : Int32)), (.int f2)])) _
        refine XS.icmpNo X152.here hx rfl (hb hby at_211) rfl (teq hd157).2 ?_
        show Steps p.tables e below (T152.setTop (mkF m 214 #[.val (.int p0), .val (.int p1), .val (.int p2), .val (.int p3), .val (.int sm), .val (.int n), .val (.int mm), .val (.ref r55), .val (.ref r58), .val (.ref b61), .val (.int r1), .val (.int f1), .val (.int lf), .val (.int r2), .val (.int f2)] [])) _
        refine XS.iconst X152.here hx rfl (hb hby at_214) ?_
        show Steps p.tables e below (T152.setTop (mkF m 215 #[.val (.int p0), .val (.int p1), .val (.int p2), .val (.int p3), .val (.int sm), .val (.int n), .val (.int mm), .val (.ref r55), .val (.ref r58), .val (.ref b61), .val (.int r1), .val (.int f1), .val (.int lf), .val (.int r2), .val (.int f2)] [(.int (1 : Int32))])) _
        refine XS.goto X152.here hx rfl (pc0 := 215) (pc' := 219) rfl (hb hby at_215) (by decide) (by decide) ?_
        show Steps p.tables e below (T152.setTop (mkF m 219 #[.val (.int p0), .val (.int p1), .val (.int p2), .val (.int p3), .val (.int sm), .val (.int n), .val (.int mm), .val (.ref r55), .val (.ref r58), .val (.ref b61), .val (.int r1), .val (.int f1), .val (.int lf), .val (.int r2), .val (.int f2)] [(.int (1 : Int32))])) _
        exact retN X152 hx (t := .boolean) Bd.returns (by simp) (hb hby at_219) hr
      · show Q_own_law Z p0 p1 p2 p3 G1 r h0 n0 _ T152.heap _
        rw [e152q]
        exact ⟨rfl, N152⟩
    case neg =>
      have hm' := hm
      rw [own_eqI] at hm'
      have e5 := r2b (by rw [own_eqI]; omega)
      have hd158 : r2 = (0 : Int32) := e5
      have hd159 : (1 : Int32) < lf := by rw [Int32.lt_iff_toInt_lt]; omega
      have e6 := f2a (by rw [Int32.lt_iff_toInt_lt]; omega)
      have hd160 : f2 = (1 : Int32) := e6
      obtain ⟨fs, hr, hrun, hended, hW, hsame⟩ := X152.leave (v := some (.int (1 : Int32))) (fun h => by rw [Bd.returns] at h; cases h)
      refine ⟨_, _, pre154 _ ?_, hrun, hended, _, _, rfl, ?_, ⟨_, rfl⟩, hW, hsame.mono (by decide) (by decide)⟩
      · show Steps p.tables e below (T152.setTop (mkF m 180 #[.val (.int p0), .val (.int p1), .val (.int p2), .val (.int p3), .val (.int sm), .val (.int n), .val (.int mm), .val (.ref r55), .val (.ref r58), .val (.ref b61), .val (.int r1), .val (.int f1), .val (.int lf), .val (.int r2), .unset] [(.int f2)])) _
        refine XS.istore X152.here hx rfl (hb hby at_180) rfl (l' := #[.val (.int p0), .val (.int p1), .val (.int p2), .val (.int p3), .val (.int sm), .val (.int n), .val (.int mm), .val (.ref r55), .val (.ref r58), .val (.ref b61), .val (.int r1), .val (.int f1), .val (.int lf), .val (.int r2), .val (.int f2)]) rfl ?_
        show Steps p.tables e below (T152.setTop (mkF m 182 #[.val (.int p0), .val (.int p1), .val (.int p2), .val (.int p3), .val (.int sm), .val (.int n), .val (.int mm), .val (.ref r55), .val (.ref r58), .val (.ref b61), .val (.int r1), .val (.int f1), .val (.int lf), .val (.int r2), .val (.int f2)] [])) _
        refine XS.iload X152.here hx rfl (hb hby at_182) rfl ?_
        show Steps p.tables e below (T152.setTop (mkF m 184 #[.val (.int p0), .val (.int p1), .val (.int p2), .val (.int p3), .val (.int sm), .val (.int n), .val (.int mm), .val (.ref r55), .val (.ref r58), .val (.ref b61), .val (.int r1), .val (.int f1), .val (.int lf), .val (.int r2), .val (.int f2)] [(.int r2)])) _
        refine XS.iload X152.here hx rfl (hb hby at_184) rfl ?_
        show Steps p.tables e below (T152.setTop (mkF m 186 #[.val (.int p0), .val (.int p1), .val (.int p2), .val (.int p3), .val (.int sm), .val (.int n), .val (.int mm), .val (.ref r55), .val (.ref r58), .val (.ref b61), .val (.int r1), .val (.int f1), .val (.int lf), .val (.int r2), .val (.int f2)] [(.int lf), (.int r2)])) _
        refine XS.iconst X152.here hx rfl (hb hby at_186) ?_
        show Steps p.tables e below (T152.setTop (mkF m 187 #[.val (.int p0), .val (.int p1), .val (.int p2), .val (.int p3), .val (.int sm), .val (.int n), .val (.int mm), .val (.ref r55), .val (.ref r58), .val (.ref b61), .val (.int r1), .val (.int f1), .val (.int lf), .val (.int r2), .val (.int f2)] [(.int (1 : Int32)), (.int lf), (.int r2)])) _
        refine XS.icmpYes X152.here hx rfl (pc0 := 187) (pc' := 194) rfl (hb hby at_187) rfl (feq hm).2 (by decide) (by decide) ?_
        show Steps p.tables e below (T152.setTop (mkF m 194 #[.val (.int p0), .val (.int p1), .val (.int p2), .val (.int p3), .val (.int sm), .val (.int n), .val (.int mm), .val (.ref r55), .val (.ref r58), .val (.ref b61), .val (.int r1), .val (.int f1), .val (.int lf), .val (.int r2), .val (.int f2)] [(.int r2)])) _
        refine XS.iconst X152.here hx rfl (hb hby at_194) ?_
        show Steps p.tables e below (T152.setTop (mkF m 195 #[.val (.int p0), .val (.int p1), .val (.int p2), .val (.int p3), .val (.int sm), .val (.int n), .val (.int mm), .val (.ref r55), .val (.ref r58), .val (.ref b61), .val (.int r1), .val (.int f1), .val (.int lf), .val (.int r2), .val (.int f2)] [(.int (0 : Int32)), (.int r2)])) _
        refine XS.icmpNo X152.here hx rfl (hb hby at_195) rfl (teq hd158).2 ?_
        show Steps p.tables e below (T152.setTop (mkF m 198 #[.val (.int p0), .val (.int p1), .val (.int p2), .val (.int p3), .val (.int sm), .val (.int n), .val (.int mm), .val (.ref r55), .val (.ref r58), .val (.ref b61), .val (.int r1), .val (.int f1), .val (.int lf), .val (.int r2), .val (.int f2)] [])) _
        refine XS.iload X152.here hx rfl (hb hby at_198) rfl ?_
        show Steps p.tables e below (T152.setTop (mkF m 200 #[.val (.int p0), .val (.int p1), .val (.int p2), .val (.int p3), .val (.int sm), .val (.int n), .val (.int mm), .val (.ref r55), .val (.ref r58), .val (.ref b61), .val (.int r1), .val (.int f1), .val (.int lf), .val (.int r2), .val (.int f2)] [(.int f2)])) _
        refine XS.iload X152.here hx rfl (hb hby at_200) rfl ?_
        show Steps p.tables e below (T152.setTop (mkF m 202 #[.val (.int p0), .val (.int p1), .val (.int p2), .val (.int p3), .val (.int sm), .val (.int n), .val (.int mm), .val (.ref r55), .val (.ref r58), .val (.ref b61), .val (.int r1), .val (.int f1), .val (.int lf), .val (.int r2), .val (.int f2)] [(.int lf), (.int f2)])) _
        refine XS.iconst X152.here hx rfl (hb hby at_202) ?_
        show Steps p.tables e below (T152.setTop (mkF m 203 #[.val (.int p0), .val (.int p1), .val (.int p2), .val (.int p3), .val (.int sm), .val (.int n), .val (.int mm), .val (.ref r55), .val (.ref r58), .val (.ref b61), .val (.int r1), .val (.int f1), .val (.int lf), .val (.int r2), .val (.int f2)] [(.int (1 : Int32)), (.int lf), (.int f2)])) _
        refine XS.icmpNo X152.here hx rfl (hb hby at_203) rfl (tlt hd159).2.2.2 ?_
        show Steps p.tables e below (T152.setTop (mkF m 206 #[.val (.int p0), .val (.int p1), .val (.int p2), .val (.int p3), .val (.int sm), .val (.int n), .val (.int mm), .val (.ref r55), .val (.ref r58), .val (.ref b61), .val (.int r1), .val (.int f1), .val (.int lf), .val (.int r2), .val (.int f2)] [(.int f2)])) _
        refine XS.iconst X152.here hx rfl (hb hby at_206) ?_
        show Steps p.tables e below (T152.setTop (mkF m 207 #[.val (.int p0), .val (.int p1), .val (.int p2), .val (.int p3), .val (.int sm), .val (.int n), .val (.int mm), .val (.ref r55), .val (.ref r58), .val (.ref b61), .val (.int r1), .val (.int f1), .val (.int lf), .val (.int r2), .val (.int f2)] [(.int (1 : Int32)), (.int f2)])) _
        refine XS.goto X152.here hx rfl (pc0 := 207) (pc' := 211) rfl (hb hby at_207) (by decide) (by decide) ?_
        show Steps p.tables e below (T152.setTop (mkF m 211 #[.val (.int p0), .val (.int p1), .val (.int p2), .val (.int p3), .val (.int sm), .val (.int n), .val (.int mm), .val (.ref r55), .val (.ref r58), .val (.ref b61), .val (.int r1), .val (.int f1), .val (.int lf), .val (.int r2), .val (.int f2)] [(.int (1 : Int32)), (.int f2)])) _
        refine XS.icmpNo X152.here hx rfl (hb hby at_211) rfl (teq hd160).2 ?_
        show Steps p.tables e below (T152.setTop (mkF m 214 #[.val (.int p0), .val (.int p1), .val (.int p2), .val (.int p3), .val (.int sm), .val (.int n), .val (.int mm), .val (.ref r55), .val (.ref r58), .val (.ref b61), .val (.int r1), .val (.int f1), .val (.int lf), .val (.int r2), .val (.int f2)] [])) _
        refine XS.iconst X152.here hx rfl (hb hby at_214) ?_
        show Steps p.tables e below (T152.setTop (mkF m 215 #[.val (.int p0), .val (.int p1), .val (.int p2), .val (.int p3), .val (.int sm), .val (.int n), .val (.int mm), .val (.ref r55), .val (.ref r58), .val (.ref b61), .val (.int r1), .val (.int f1), .val (.int lf), .val (.int r2), .val (.int f2)] [(.int (1 : Int32))])) _
        refine XS.goto X152.here hx rfl (pc0 := 215) (pc' := 219) rfl (hb hby at_215) (by decide) (by decide) ?_
        show Steps p.tables e below (T152.setTop (mkF m 219 #[.val (.int p0), .val (.int p1), .val (.int p2), .val (.int p3), .val (.int sm), .val (.int n), .val (.int mm), .val (.ref r55), .val (.ref r58), .val (.ref b61), .val (.int r1), .val (.int f1), .val (.int lf), .val (.int r2), .val (.int f2)] [(.int (1 : Int32))])) _
        exact retN X152 hx (t := .boolean) Bd.returns (by simp) (hb hby at_219) hr
      · show Q_own_law Z p0 p1 p2 p3 G1 r h0 n0 _ T152.heap _
        rw [e152q]
        exact ⟨rfl, N152⟩
set_option maxRecDepth 65536 in
set_option maxHeartbeats 40000000 in
theorem comes_1 {Post : Tables → Env → Array Value → State → Outcome → State → Prop} (hpost : ∀ tb e args s v u, (limb_1_1.after args s (.returned v) u = true ∧ limb_1_2.after args s (.returned v) u = true ∧ True) → FrameEnd s (.returned v) u (Jvm.fieldLocs frame_1_writes args s ++ Jvm.arrayLocs frame_1_arrays args s ++ Jvm.staticLocs frame_1_statics s) 40 320 → Post tb e args s (.returned v) u) :
    ArmFor flags0 classFile x code maxLocals ret World_1 tables_1 room_1 Calls_1 rest_1 Pre_1 Post := by
  intro l hfl _ _ p e ha hc hk s m args below hf hA hF happ hP
  obtain ⟨hcalls, hrest, hpre⟩ := hP
  obtain ⟨-, -, -, hnamed, -, -, -, hat⟩ := (Spec.applies_iff hf).mp happ
  obtain ⟨hg, hn⟩ := and_e (Cond.before_iff.mp (show (Jvm.Cond.and given_1 narrow_1).before args s = true from hpre))
  obtain ⟨h1, u0⟩ := and_e hg
  obtain ⟨v0, u1⟩ := and_e u0
  obtain ⟨v1, u2⟩ := and_e u1
  obtain ⟨v2, u3⟩ := and_e u2
  obtain ⟨w0, w1, w2, w3, rfl⟩ : ∃ w0 w1 w2 w3 : Value, args = #[w0, w1, w2, w3] := by
    have hs : args.size = 4 := by simpa [Cond.value, given_1] using h1
    obtain ⟨L⟩ := args
    match L, hs with
    | [w0, w1, w2, w3], _ => exact ⟨w0, w1, w2, w3, rfl⟩
  have hw := fun d (hd : d ∈ tables_1) => atoms_spec (ws := Jvm.Cond.code x code maxLocals ret :: tables_1) hat d (List.mem_cons_of_mem _ hd)
  obtain ⟨hsets, hown0⟩ := atoms_of _ (rest_1_c_eq ▸ (show rest_1_c.before _ s = true from hrest))
  have hfit : Fit s := fun {y c} hc i hi => by
    obtain ⟨ha, rfl⟩ := Array.getElem?_eq_some_iff.mp hc
    have q := List.all_eq_true.mp ((Array.all_eq_true_iff_forall_mem.mp hF) _ (Array.getElem_mem ha)) i (List.mem_range.mpr hi)
    simpa [Array.getElem?_eq_getElem hi] using q
  obtain ⟨i0, ei0⟩ := is_v v0
  obtain rfl : w0 = (.int i0) := Option.some.inj ei0
  obtain ⟨i1, ei1⟩ := is_v v1
  obtain rfl : w1 = (.int i1) := Option.some.inj ei1
  obtain ⟨i2, ei2⟩ := is_v v2
  obtain rfl : w2 = (.int i2) := Option.some.inj ei2
  obtain ⟨i3, ei3⟩ := is_v u3
  obtain rfl : w3 = (.int i3) := Option.some.inj ei3
  have n5 := not_v (Cond.before_iff.mp (hsets _ (List.mem_of_getElem? (i := 2) rfl)))
  obtain ⟨iG, eG⟩ := is_v (Cond.before_iff.mp (hsets _ (List.mem_of_getElem? (i := 1) rfl)))
  have SG : Sta s s.heap "java/lang/String" "COMPACT_STRINGS" "Z" (.int iG) := Sta.start eG (Or.inl (hsets _ (List.mem_of_getElem? (i := 0) rfl)))
  have cG : ¬ (iG = (0 : Int32)) := gotF (Cond.eq_ints eG (Term.int_eval (0))) n5
  obtain ⟨rE, eE⟩ := exa_v (Cond.before_iff.mp (hsets _ (List.mem_of_getElem? (i := 11) rfl)))
  have SE : Sta s s.heap "java/util/ImmutableCollections" "EMPTY_LIST" "Ljava/util/ImmutableCollections$ListN;" (.ref rE) := Sta.start eE (Or.inl (hsets _ (List.mem_of_getElem? (i := 10) rfl)))
  obtain ⟨n, o, h1, h2, h3, _, L, rfl, ⟨rfl, N⟩, hq⟩ := own_law l s _ hw tables_1 i0 i1 i2 i3 iG rE s.heap s.heap.size (Nat.le_refl _) SG cG SE (Old.start s) p e ha hc hk s m _ below hf ((Spec.applies_iff_loose hf).mp happ).1 ⟨rfl, State.Warmed39.refl s, rfl⟩ trivial
  refine ⟨n, _, h1, h2, h3, hpost _ _ _ _ _ _ ⟨Cond.after_iff.mpr rfl, Cond.after_iff.mpr (eq_i res_at (Term.int_eval (1)) rfl), trivial⟩ ⟨hq.1, hq.2.1, (hq.2.2.sift fun y hy => Or.inr (N y hy)).mono (by decide) (by decide)⟩⟩
theorem main_1_1 : Claimed_1_1 := comes_1 fun _ _ _ _ _ _ h hF => ⟨h.1, hF⟩
theorem main_1_2 : Claimed_1_2 := comes_1 fun _ _ _ _ _ _ h hF => ⟨h.2.1, hF⟩
end Jvm.Pilot.@@N@@
namespace Jvm.Pilot.@@N@@
open Jvm Jvm.ClassFile Sem Op Lib Jvm.Free Jvm.Stand Jvm.Pilot.@@N@@.Jvm.D
/-! MADE BY PROGRAM (witnessworld.py) out of the Statement's table words and the real class files: 36 classes; the members and pool entries that the words name. The judged class is class 1, her method 1. -/
namespace start1
open Jvm.ClassFile
def u (s : String) : CpInfo := .utf8 (stringToUtf16 s)
/-- a pool by its gaps: so many unusable entries, then the entry; so many at the end -/
def gap : Nat → List CpInfo → List CpInfo
  | 0, r => r
  | n + 1, r => .unusable :: gap n r
def poolList (es : List (Nat × CpInfo)) (last : Nat) : List CpInfo := es.foldr (fun e r => gap e.1 (e.2 :: r)) (gap last [])
def pool (es : List (Nat × CpInfo)) (last : Nat) : Array CpInfo := ⟨poolList es last⟩
def fileOf (pool : Array CpInfo) (this : Nat) (attrs : Array Attribute := #[]) (ms : Array MethodInfo := #[]) (fl : Nat := 33) (sup : Nat := 0) (ifs : Array Nat := #[]) (fds : Array FieldInfo := #[]) : ClassFile where
  minorVersion := 0
  majorVersion := 65
  constantPool := pool
  accessFlags := fl
  thisClass := this
  superClass := sup
  interfaces := ifs
  fields := fds
  methods := ms
  attributes := attrs
def plain (name : String) (sup : Option ClassId) : Class where
  name := name
  kind := .ordinary
  loader := none
  accessFlags := 33
  super := sup
  interfaces := #[]
  cf := none
  fields := #[]
  methods := #[]
  instanceTypes := #[]
  staticTypes := #[]
  resolved := #[]
  callSites := []
  init := .initialized
  statics := none
  mirror := none

def pool0 : Array CpInfo := pool [(5, u "<init>"), (0, u "()V"), (1, .class_ 10), (1, u "java/lang/Object")] 113

def k0c0 : Code := { maxStack := 0, maxLocals := 1, code := object_method_1_code, exceptionTable := #[], attributes := #[] }
def k0m0 : Method := { name := "<init>", desc := "()V", sig := { parameters := [], returnType := none }, accessFlags := 1, code := some k0c0 }
/-- java/lang/Object -/
def k0 : Class := { plain "java/lang/Object" none with
  accessFlags := 33
  interfaces := #[]
  cf := some (fileOf pool0 8 #[] #[{ accessFlags := 1, nameIndex := 5, descriptorIndex := 6, attributes := #[] }] 33 0 #[] #[])
  fields := #[]
  methods := #[k0m0]
  instanceTypes := #[]
  staticTypes := #[]
  resolved := Array.replicate 124 none
  statics := none }

def pool1 : Array CpInfo := pool [(2, .class_ 4), (1, u "java/lang/Object"), (0, u "<init>"), (0, u "()V"), (0, .integer 1073741823), (0, .methodref 9 10), (0, .class_ 11), (0, .nameAndType 12 13), (0, u "java/lang/String"), (0, u "valueOf"), (0, u "(C)Ljava/lang/String;"), (0, .class_ 15), (0, u "coterie/causal/Group"), (0, .methodref 14 17), (0, .nameAndType 5 18), (0, u "(Ljava/lang/String;Ljava/lang/String;)V"), (0, .methodref 14 20), (0, .nameAndType 21 22), (0, u "flushAsked"), (0, u "(I)V"), (0, .methodref 14 24), (0, .nameAndType 25 26), (0, u "flushAnswered"), (0, u "()Z"), (0, .methodref 14 28), (0, .nameAndType 29 26), (0, u "flushing"), (0, .class_ 31), (0, u "coterie/causal/GroupFlushAnsweredPinLaw"), (2, u "law"), (0, u "(IIII)Z")] 3

def k1m0 : Method := { name := "<init>", desc := "()V", sig := { parameters := [], returnType := none }, accessFlags := 1, code := none }
def k1c1 : Code := { maxStack := 4, maxLocals := 15, code := code, exceptionTable := #[], attributes := #[] }
def k1m1 : Method := { name := "law", desc := "(IIII)Z", sig := { parameters := [.int, .int, .int, .int], returnType := some .boolean }, accessFlags := 9, code := some k1c1 }
/-- coterie/causal/GroupFlushAnsweredPinLaw -/
def k1 : Class := { plain "coterie/causal/GroupFlushAnsweredPinLaw" (some 0) with
  accessFlags := 49
  interfaces := #[]
  cf := some (fileOf pool1 30 #[] #[{ accessFlags := 1, nameIndex := 5, descriptorIndex := 6, attributes := #[] }, { accessFlags := 9, nameIndex := 34, descriptorIndex := 35, attributes := #[] }] 49 2 #[] #[])
  fields := #[]
  methods := #[k1m0, k1m1]
  instanceTypes := #[]
  staticTypes := #[]
  resolved := Array.replicate 39 none
  statics := none }

def pool2 : Array CpInfo := pool [(1, .class_ 2), (0, u "java/io/Serializable"), (0, .class_ 4), (0, u "java/lang/Object")] 2

/-- java/io/Serializable -/
def k2 : Class := { plain "java/io/Serializable" (some 0) with
  accessFlags := 1537
  interfaces := #[]
  cf := some (fileOf pool2 1 #[] #[] 1537 3 #[] #[])
  fields := #[]
  methods := #[]
  instanceTypes := #[]
  staticTypes := #[]
  resolved := Array.replicate 7 none
  statics := none }

def pool3 : Array CpInfo := pool [(1, .class_ 2), (0, u "java/lang/Comparable"), (0, .class_ 4), (0, u "java/lang/Object")] 7

/-- java/lang/Comparable -/
def k3 : Class := { plain "java/lang/Comparable" (some 0) with
  accessFlags := 1537
  interfaces := #[]
  cf := some (fileOf pool3 1 #[] #[] 1537 3 #[] #[])
  fields := #[]
  methods := #[]
  instanceTypes := #[]
  staticTypes := #[]
  resolved := Array.replicate 12 none
  statics := none }

def pool4 : Array CpInfo := pool [(2, .class_ 4), (1, u "java/lang/CharSequence"), (42, .class_ 48), (0, u "java/lang/CharSequence$1CodePointIterator"), (10, .class_ 60), (0, u "java/lang/CharSequence$1CharIterator"), (5, .class_ 67), (0, u "java/lang/Object")] 63

/-- java/lang/CharSequence -/
def k4 : Class := { plain "java/lang/CharSequence" (some 0) with
  accessFlags := 1537
  interfaces := #[]
  cf := some (fileOf pool4 2 #[.nestMembers #[47, 59]] #[] 1537 66 #[] #[])
  fields := #[]
  methods := #[]
  instanceTypes := #[]
  staticTypes := #[]
  resolved := Array.replicate 131 none
  statics := none }

def pool5 : Array CpInfo := pool [(1, .class_ 2), (0, u "java/lang/constant/Constable"), (0, .class_ 4), (0, u "java/lang/Object")] 6

/-- java/lang/constant/Constable -/
def k5 : Class := { plain "java/lang/constant/Constable" (some 0) with
  accessFlags := 1537
  interfaces := #[]
  cf := some (fileOf pool5 1 #[] #[] 1537 3 #[] #[])
  fields := #[]
  methods := #[]
  instanceTypes := #[]
  staticTypes := #[]
  resolved := Array.replicate 11 none
  statics := none }

def pool6 : Array CpInfo := pool [(1, .class_ 2), (0, u "java/lang/constant/ConstantDesc"), (0, .class_ 4), (0, u "java/lang/Object")] 32

/-- java/lang/constant/ConstantDesc -/
def k6 : Class := { plain "java/lang/constant/ConstantDesc" (some 0) with
  accessFlags := 1537
  interfaces := #[]
  cf := some (fileOf pool6 1 #[] #[] 1537 3 #[] #[])
  fields := #[]
  methods := #[]
  instanceTypes := #[]
  staticTypes := #[]
  resolved := Array.replicate 37 none
  statics := none }

def pool7 : Array CpInfo := pool [(1, .methodref 2 3), (0, .class_ 4), (0, .nameAndType 5 6), (0, u "java/lang/Object"), (0, u "<init>"), (0, u "()V"), (2, .fieldref 10 11), (0, .class_ 12), (0, .nameAndType 13 14), (0, u "java/lang/String"), (0, u "value"), (0, u "[B"), (0, .fieldref 10 16), (0, .nameAndType 17 18), (0, u "coder"), (0, u "B"), (2, u "hash"), (0, u "I"), (2, u "hashIsZero"), (0, u "Z"), (11, .fieldref 10 39), (0, .nameAndType 40 26), (0, u "COMPACT_STRINGS"), (12, u "toBytes"), (53, .class_ 109), (1, u "java/lang/StringLatin1"), (99, .methodref 10 210), (0, .nameAndType 5 211), (0, u "([BB)V"), (157, u "(C)Z"), (205, .class_ 576), (0, u "java/lang/CharSequence"), (22, u "CASE_INSENSITIVE_ORDER"), (0, u "Ljava/util/Comparator;"), (181, u "valueOf"), (0, u "(C)Ljava/lang/String;"), (231, .methodref 107 1016), (0, .nameAndType 1017 369), (0, u "canEncode"), (0, .methodref 107 1019), (0, .nameAndType 53 1020), (0, u "(C)[B"), (80, u "serialPersistentFields"), (0, u "[Ljava/io/ObjectStreamField;"), (0, .class_ 1104), (0, u "java/lang/String$CaseInsensitiveComparator"), (1, .class_ 1107), (0, u "java/io/Serializable"), (0, .class_ 1109), (0, u "java/lang/Comparable"), (0, .class_ 1111), (0, u "java/lang/constant/Constable"), (0, .class_ 1113), (0, u "java/lang/constant/ConstantDesc"), (2, u "serialVersionUID"), (0, u "J"), (3, u "REPL"), (0, u "C"), (2, u "LATIN1"), (1, u "UTF16")] 323

def k7m0 : Method := { name := "<init>", desc := "()V", sig := { parameters := [], returnType := none }, accessFlags := 1, code := none }
def k7c1 : Code := { maxStack := 4, maxLocals := 1, code := jdk_42_method_139_code, exceptionTable := #[], attributes := #[] }
def k7m1 : Method := { name := "valueOf", desc := "(C)Ljava/lang/String;", sig := { parameters := [.char], returnType := some (.object "java/lang/String") }, accessFlags := 9, code := some k7c1 }
def k7c2 : Code := { maxStack := 2, maxLocals := 3, code := jdk_42_method_151_code, exceptionTable := #[], attributes := #[] }
def k7m2 : Method := { name := "<init>", desc := "([BB)V", sig := { parameters := [(.array .byte), .byte], returnType := none }, accessFlags := 0, code := some k7c2 }
/-- java/lang/String -/
def k7 : Class := { plain "java/lang/String" (some 0) with
  accessFlags := 49
  interfaces := #[2, 3, 4, 5, 6]
  cf := some (fileOf pool7 10 #[.nestMembers #[1103]] #[{ accessFlags := 1, nameIndex := 5, descriptorIndex := 6, attributes := #[] }, { accessFlags := 9, nameIndex := 782, descriptorIndex := 783, attributes := #[] }, { accessFlags := 0, nameIndex := 5, descriptorIndex := 211, attributes := #[] }] 49 2 #[1106, 1108, 575, 1110, 1112] #[{ accessFlags := 18, nameIndex := 13, descriptorIndex := 14, attributes := #[] }, { accessFlags := 18, nameIndex := 17, descriptorIndex := 18, attributes := #[] }, { accessFlags := 2, nameIndex := 21, descriptorIndex := 22, attributes := #[] }, { accessFlags := 2, nameIndex := 25, descriptorIndex := 26, attributes := #[] }, { accessFlags := 26, nameIndex := 1116, descriptorIndex := 1117, attributes := #[] }, { accessFlags := 24, nameIndex := 40, descriptorIndex := 26, attributes := #[] }, { accessFlags := 26, nameIndex := 1101, descriptorIndex := 1102, attributes := #[] }, { accessFlags := 26, nameIndex := 1121, descriptorIndex := 1122, attributes := #[] }, { accessFlags := 25, nameIndex := 599, descriptorIndex := 600, attributes := #[] }, { accessFlags := 24, nameIndex := 1125, descriptorIndex := 18, attributes := #[] }, { accessFlags := 24, nameIndex := 1127, descriptorIndex := 18, attributes := #[] }])
  fields := #[{ name := "value", type := (.array .byte), accessFlags := 18, slot := 0, constantValue := 0 }, { name := "coder", type := .byte, accessFlags := 18, slot := 1, constantValue := 0 }, { name := "hash", type := .int, accessFlags := 2, slot := 2, constantValue := 0 }, { name := "hashIsZero", type := .boolean, accessFlags := 2, slot := 3, constantValue := 0 }, { name := "serialVersionUID", type := .long, accessFlags := 26, slot := 0, constantValue := 0 }, { name := "COMPACT_STRINGS", type := .boolean, accessFlags := 24, slot := 1, constantValue := 0 }, { name := "serialPersistentFields", type := (.array (.object "java/io/ObjectStreamField")), accessFlags := 26, slot := 2, constantValue := 0 }, { name := "REPL", type := .char, accessFlags := 26, slot := 3, constantValue := 0 }, { name := "CASE_INSENSITIVE_ORDER", type := (.object "java/util/Comparator"), accessFlags := 25, slot := 4, constantValue := 0 }, { name := "LATIN1", type := .byte, accessFlags := 24, slot := 5, constantValue := 0 }, { name := "UTF16", type := .byte, accessFlags := 24, slot := 6, constantValue := 0 }]
  methods := #[k7m0, k7m1, k7m2]
  instanceTypes := #[(.array .byte), .byte, .int, .boolean]
  staticTypes := #[.long, .boolean, (.array (.object "java/io/ObjectStreamField")), .char, (.object "java/util/Comparator"), .byte, .byte]
  resolved := Array.replicate 1451 none
  statics := some 0 }

def pool8 : Array CpInfo := pool [(4, .class_ 6), (1, u "java/lang/Object"), (0, u "<init>"), (0, u "()V"), (5, .class_ 16), (1, u "java/lang/StringLatin1"), (73, u "canEncode"), (14, u "(C)Z"), (15, u "$assertionsDisabled"), (0, u "Z"), (98, .class_ 223), (1, u "java/lang/StringLatin1$LinesSpliterator"), (156, u "toBytes"), (1, u "(C)[B"), (7, .class_ 391), (0, u "java/lang/StringLatin1$CharsSpliterator")] 3

def k8m0 : Method := { name := "<init>", desc := "()V", sig := { parameters := [], returnType := none }, accessFlags := 0, code := none }
def k8c1 : Code := { maxStack := 2, maxLocals := 1, code := jdk_43_method_3_code, exceptionTable := #[], attributes := #[] }
def k8m1 : Method := { name := "canEncode", desc := "(C)Z", sig := { parameters := [.char], returnType := some .boolean }, accessFlags := 9, code := some k8c1 }
def k8c2 : Code := { maxStack := 4, maxLocals := 1, code := jdk_43_method_46_code, exceptionTable := #[], attributes := #[] }
def k8m2 : Method := { name := "toBytes", desc := "(C)[B", sig := { parameters := [.char], returnType := some (.array .byte) }, accessFlags := 9, code := some k8c2 }
/-- java/lang/StringLatin1 -/
def k8 : Class := { plain "java/lang/StringLatin1" (some 0) with
  accessFlags := 48
  interfaces := #[]
  cf := some (fileOf pool8 14 #[.nestMembers #[390, 221]] #[{ accessFlags := 0, nameIndex := 7, descriptorIndex := 8, attributes := #[] }, { accessFlags := 9, nameIndex := 90, descriptorIndex := 105, attributes := #[] }, { accessFlags := 9, nameIndex := 380, descriptorIndex := 382, attributes := #[] }] 48 4 #[] #[{ accessFlags := 4120, nameIndex := 121, descriptorIndex := 122, attributes := #[] }])
  fields := #[{ name := "$assertionsDisabled", type := .boolean, accessFlags := 4120, slot := 0, constantValue := 0 }]
  methods := #[k8m0, k8m1, k8m2]
  instanceTypes := #[]
  staticTypes := #[.boolean]
  resolved := Array.replicate 395 none
  statics := none }

def pool9 : Array CpInfo := pool [(1, .methodref 2 3), (0, .class_ 4), (0, .nameAndType 5 6), (0, u "java/lang/Object"), (0, u "<init>"), (0, u "()V"), (0, .interfaceMethodref 8 9), (0, .class_ 10), (0, .nameAndType 11 12), (0, u "java/util/List"), (0, u "of"), (0, u "()Ljava/util/List;"), (0, .fieldref 14 15), (0, .class_ 16), (0, .nameAndType 17 18), (0, u "coterie/causal/Group"), (0, u "present"), (0, u "Ljava/util/List;"), (0, .class_ 20), (0, u "java/util/TreeMap"), (0, .methodref 19 3), (0, .fieldref 14 23), (0, .nameAndType 24 25), (0, u "unacknowledged"), (0, u "Ljava/util/TreeMap;"), (0, .class_ 27), (0, u "java/util/HashMap"), (0, .methodref 26 3), (0, .fieldref 14 30), (0, .nameAndType 31 32), (0, u "told"), (0, u "Ljava/util/Map;"), (0, .fieldref 14 34), (0, .nameAndType 35 32), (0, u "owedSince"), (0, .fieldref 14 37), (0, .nameAndType 38 39), (0, u "name"), (0, u "Ljava/lang/String;"), (0, .fieldref 14 41), (0, .nameAndType 42 39), (0, u "self"), (0, .class_ 44), (0, u "coterie/causal/Replicas"), (0, .methodref 43 46), (0, .nameAndType 5 47), (0, u "(Ljava/lang/String;)V"), (0, .fieldref 14 49), (0, .nameAndType 50 51), (0, u "replicas"), (0, u "Lcoterie/causal/Replicas;"), (2, u "entered"), (0, u "Z"), (2, u "exiting"), (2, u "creating"), (0, u "I"), (27, u "()Z"), (46, .fieldref 14 138), (0, .nameAndType 139 62), (0, u "flushing"), (38, u "settledTold"), (0, u "J"), (72, u "announced"), (5, u "wordDueSince"), (0, u "Ljava/lang/Long;"), (28, u "passingOn"), (8, u "(Ljava/lang/String;Ljava/lang/String;)V"), (11, u "flushAsked"), (0, u "(I)V"), (0, u "flushAnswered")] 56

def k9c0 : Code := { maxStack := 4, maxLocals := 3, code := prog_23_method_1_code, exceptionTable := #[], attributes := #[] }
def k9m0 : Method := { name := "<init>", desc := "(Ljava/lang/String;Ljava/lang/String;)V", sig := { parameters := [(.object "java/lang/String"), (.object "java/lang/String")], returnType := none }, accessFlags := 0, code := some k9c0 }
def k9c1 : Code := { maxStack := 3, maxLocals := 2, code := prog_23_method_13_code, exceptionTable := #[], attributes := #[] }
def k9m1 : Method := { name := "flushAsked", desc := "(I)V", sig := { parameters := [.int], returnType := none }, accessFlags := 0, code := some k9c1 }
def k9c2 : Code := { maxStack := 3, maxLocals := 1, code := prog_23_method_14_code, exceptionTable := #[], attributes := #[] }
def k9m2 : Method := { name := "flushAnswered", desc := "()Z", sig := { parameters := [], returnType := some .boolean }, accessFlags := 0, code := some k9c2 }
def k9c3 : Code := { maxStack := 1, maxLocals := 1, code := prog_23_method_15_code, exceptionTable := #[], attributes := #[] }
def k9m3 : Method := { name := "flushing", desc := "()Z", sig := { parameters := [], returnType := some .boolean }, accessFlags := 0, code := some k9c3 }
/-- coterie/causal/Group -/
def k9 : Class := { plain "coterie/causal/Group" (some 0) with
  accessFlags := 48
  interfaces := #[]
  cf := some (fileOf pool9 14 #[] #[{ accessFlags := 0, nameIndex := 5, descriptorIndex := 297, attributes := #[] }, { accessFlags := 0, nameIndex := 309, descriptorIndex := 310, attributes := #[] }, { accessFlags := 0, nameIndex := 311, descriptorIndex := 90, attributes := #[] }, { accessFlags := 0, nameIndex := 139, descriptorIndex := 90, attributes := #[] }] 48 2 #[] #[{ accessFlags := 18, nameIndex := 38, descriptorIndex := 39, attributes := #[] }, { accessFlags := 18, nameIndex := 42, descriptorIndex := 39, attributes := #[] }, { accessFlags := 18, nameIndex := 50, descriptorIndex := 51, attributes := #[] }, { accessFlags := 2, nameIndex := 54, descriptorIndex := 55, attributes := #[] }, { accessFlags := 2, nameIndex := 17, descriptorIndex := 18, attributes := #[] }, { accessFlags := 2, nameIndex := 58, descriptorIndex := 55, attributes := #[] }, { accessFlags := 2, nameIndex := 61, descriptorIndex := 62, attributes := #[] }, { accessFlags := 2, nameIndex := 139, descriptorIndex := 62, attributes := #[] }, { accessFlags := 18, nameIndex := 24, descriptorIndex := 25, attributes := #[] }, { accessFlags := 2, nameIndex := 252, descriptorIndex := 179, attributes := #[] }, { accessFlags := 2, nameIndex := 258, descriptorIndex := 259, attributes := #[] }, { accessFlags := 18, nameIndex := 31, descriptorIndex := 32, attributes := #[] }, { accessFlags := 18, nameIndex := 35, descriptorIndex := 32, attributes := #[] }, { accessFlags := 2, nameIndex := 178, descriptorIndex := 179, attributes := #[] }, { accessFlags := 2, nameIndex := 288, descriptorIndex := 55, attributes := #[] }])
  fields := #[{ name := "name", type := (.object "java/lang/String"), accessFlags := 18, slot := 0, constantValue := 0 }, { name := "self", type := (.object "java/lang/String"), accessFlags := 18, slot := 1, constantValue := 0 }, { name := "replicas", type := (.object "coterie/causal/Replicas"), accessFlags := 18, slot := 2, constantValue := 0 }, { name := "entered", type := .boolean, accessFlags := 2, slot := 3, constantValue := 0 }, { name := "present", type := (.object "java/util/List"), accessFlags := 2, slot := 4, constantValue := 0 }, { name := "exiting", type := .boolean, accessFlags := 2, slot := 5, constantValue := 0 }, { name := "creating", type := .int, accessFlags := 2, slot := 6, constantValue := 0 }, { name := "flushing", type := .int, accessFlags := 2, slot := 7, constantValue := 0 }, { name := "unacknowledged", type := (.object "java/util/TreeMap"), accessFlags := 18, slot := 8, constantValue := 0 }, { name := "announced", type := .long, accessFlags := 2, slot := 9, constantValue := 0 }, { name := "wordDueSince", type := (.object "java/lang/Long"), accessFlags := 2, slot := 10, constantValue := 0 }, { name := "told", type := (.object "java/util/Map"), accessFlags := 18, slot := 11, constantValue := 0 }, { name := "owedSince", type := (.object "java/util/Map"), accessFlags := 18, slot := 12, constantValue := 0 }, { name := "settledTold", type := .long, accessFlags := 2, slot := 13, constantValue := 0 }, { name := "passingOn", type := .boolean, accessFlags := 2, slot := 14, constantValue := 0 }]
  methods := #[k9m0, k9m1, k9m2, k9m3]
  instanceTypes := #[(.object "java/lang/String"), (.object "java/lang/String"), (.object "coterie/causal/Replicas"), .boolean, (.object "java/util/List"), .boolean, .int, .int, (.object "java/util/TreeMap"), .long, (.object "java/lang/Long"), (.object "java/util/Map"), (.object "java/util/Map"), .long, .boolean]
  staticTypes := #[]
  resolved := Array.replicate 368 none
  statics := none }

def pool10 : Array CpInfo := pool [(8, .class_ 10), (1, u "java/lang/Iterable"), (24, .class_ 36), (0, u "java/lang/Object")] 25

/-- java/lang/Iterable -/
def k10 : Class := { plain "java/lang/Iterable" (some 0) with
  accessFlags := 1537
  interfaces := #[]
  cf := some (fileOf pool10 8 #[] #[] 1537 35 #[] #[])
  fields := #[]
  methods := #[]
  instanceTypes := #[]
  staticTypes := #[]
  resolved := Array.replicate 62 none
  statics := none }

def pool11 : Array CpInfo := pool [(10, .class_ 12), (1, u "java/util/Collection"), (47, .class_ 61), (0, u "java/lang/Object"), (0, .class_ 63), (0, u "java/lang/Iterable")] 51

/-- java/util/Collection -/
def k11 : Class := { plain "java/util/Collection" (some 0) with
  accessFlags := 1537
  interfaces := #[10]
  cf := some (fileOf pool11 10 #[] #[] 1537 60 #[62] #[])
  fields := #[]
  methods := #[]
  instanceTypes := #[]
  staticTypes := #[]
  resolved := Array.replicate 115 none
  statics := none }

def pool12 : Array CpInfo := pool [(8, .class_ 10), (1, u "java/util/SequencedCollection"), (15, .class_ 27), (0, u "java/lang/Object"), (0, .class_ 29), (0, u "java/util/Collection")] 27

/-- java/util/SequencedCollection -/
def k12 : Class := { plain "java/util/SequencedCollection" (some 0) with
  accessFlags := 1537
  interfaces := #[11]
  cf := some (fileOf pool12 8 #[] #[] 1537 26 #[28] #[])
  fields := #[]
  methods := #[]
  instanceTypes := #[]
  staticTypes := #[]
  resolved := Array.replicate 57 none
  statics := none }

def pool13 : Array CpInfo := pool [(8, .class_ 10), (1, u "java/util/List"), (77, u "of"), (1, .fieldref 91 92), (0, .class_ 93), (0, .nameAndType 94 95), (0, u "java/util/ImmutableCollections"), (0, u "EMPTY_LIST"), (0, u "Ljava/util/ImmutableCollections$ListN;"), (7, .class_ 104), (0, u "java/lang/Object"), (14, u "()Ljava/util/List;"), (0, .class_ 121), (0, u "java/util/SequencedCollection")] 129

def k13c0 : Code := { maxStack := 1, maxLocals := 0, code := jdk_40_method_36_code, exceptionTable := #[], attributes := #[] }
def k13m0 : Method := { name := "of", desc := "()Ljava/util/List;", sig := { parameters := [], returnType := some (.object "java/util/List") }, accessFlags := 9, code := some k13c0 }
/-- java/util/List -/
def k13 : Class := { plain "java/util/List" (some 0) with
  accessFlags := 1537
  interfaces := #[12]
  cf := some (fileOf pool13 8 #[] #[{ accessFlags := 9, nameIndex := 88, descriptorIndex := 119, attributes := #[] }] 1537 103 #[120] #[])
  fields := #[]
  methods := #[k13m0]
  instanceTypes := #[]
  staticTypes := #[]
  resolved := Array.replicate 251 none
  statics := none }

def pool14 : Array CpInfo := pool [(2, .class_ 4), (1, u "java/lang/Object"), (0, u "<init>"), (0, u "()V"), (3, .class_ 11), (0, u "java/util/ImmutableCollections$List12"), (0, .class_ 13), (0, u "java/util/ImmutableCollections$ListN"), (3, u "Z"), (29, .class_ 49), (1, u "java/util/ImmutableCollections"), (0, u "$assertionsDisabled"), (5, u "[Ljava/lang/Object;"), (5, u "EMPTY_LIST"), (0, u "Ljava/util/ImmutableCollections$ListN;"), (8, u "EMPTY_LIST_NULLS"), (22, u "SALT32L"), (0, u "J"), (2, u "REVERSE"), (6, u "archivedObjects"), (2, u "EMPTY"), (0, u "Ljava/lang/Object;"), (0, .class_ 112), (0, u "java/util/ImmutableCollections$SetN"), (5, u "EMPTY_SET"), (0, u "Ljava/util/ImmutableCollections$SetN;"), (0, .class_ 121), (0, u "java/util/ImmutableCollections$MapN"), (3, u "EMPTY_MAP"), (0, u "Ljava/util/ImmutableCollections$MapN;"), (4, u "EXPAND_FACTOR"), (0, u "I"), (36, .class_ 170), (0, u "java/util/ImmutableCollections$MapN$MapNIterator"), (0, .class_ 172), (0, u "java/util/ImmutableCollections$MapN$1"), (0, .class_ 174), (0, u "java/util/ImmutableCollections$Map1"), (0, .class_ 176), (0, u "java/util/ImmutableCollections$AbstractImmutableMap"), (0, .class_ 178), (0, u "java/util/ImmutableCollections$SetN$SetNIterator"), (0, .class_ 180), (0, u "java/util/ImmutableCollections$Set12"), (0, .class_ 182), (0, u "java/util/ImmutableCollections$Set12$1"), (0, .class_ 184), (0, u "java/util/ImmutableCollections$AbstractImmutableSet"), (0, .class_ 186), (0, u "java/util/ImmutableCollections$SubList"), (0, .class_ 188), (0, u "java/util/ImmutableCollections$ListItr"), (0, .class_ 190), (0, u "java/util/ImmutableCollections$AbstractImmutableList"), (0, .class_ 192), (0, u "java/util/ImmutableCollections$AbstractImmutableCollection"), (0, .class_ 194), (0, u "java/util/ImmutableCollections$Access"), (0, .class_ 196), (0, u "java/util/ImmutableCollections$Access$1")] 16

def k14m0 : Method := { name := "<init>", desc := "()V", sig := { parameters := [], returnType := none }, accessFlags := 2, code := none }
/-- java/util/ImmutableCollections -/
def k14 : Class := { plain "java/util/ImmutableCollections" (some 0) with
  accessFlags := 32
  interfaces := #[]
  cf := some (fileOf pool14 47 #[.nestMembers #[120, 169, 171, 173, 175, 111, 177, 179, 181, 183, 12, 10, 185, 187, 189, 191, 193, 195]] #[{ accessFlags := 2, nameIndex := 5, descriptorIndex := 6, attributes := #[] }] 32 2 #[] #[{ accessFlags := 26, nameIndex := 95, descriptorIndex := 96, attributes := #[] }, { accessFlags := 26, nameIndex := 99, descriptorIndex := 17, attributes := #[] }, { accessFlags := 10, nameIndex := 106, descriptorIndex := 56, attributes := #[] }, { accessFlags := 26, nameIndex := 109, descriptorIndex := 110, attributes := #[] }, { accessFlags := 24, nameIndex := 62, descriptorIndex := 63, attributes := #[] }, { accessFlags := 24, nameIndex := 72, descriptorIndex := 63, attributes := #[] }, { accessFlags := 24, nameIndex := 118, descriptorIndex := 119, attributes := #[] }, { accessFlags := 24, nameIndex := 125, descriptorIndex := 126, attributes := #[] }, { accessFlags := 24, nameIndex := 131, descriptorIndex := 132, attributes := #[] }, { accessFlags := 4120, nameIndex := 50, descriptorIndex := 17, attributes := #[] }])
  fields := #[{ name := "SALT32L", type := .long, accessFlags := 26, slot := 0, constantValue := 0 }, { name := "REVERSE", type := .boolean, accessFlags := 26, slot := 1, constantValue := 0 }, { name := "archivedObjects", type := (.array (.object "java/lang/Object")), accessFlags := 10, slot := 2, constantValue := 0 }, { name := "EMPTY", type := (.object "java/lang/Object"), accessFlags := 26, slot := 3, constantValue := 0 }, { name := "EMPTY_LIST", type := (.object "java/util/ImmutableCollections$ListN"), accessFlags := 24, slot := 4, constantValue := 0 }, { name := "EMPTY_LIST_NULLS", type := (.object "java/util/ImmutableCollections$ListN"), accessFlags := 24, slot := 5, constantValue := 0 }, { name := "EMPTY_SET", type := (.object "java/util/ImmutableCollections$SetN"), accessFlags := 24, slot := 6, constantValue := 0 }, { name := "EMPTY_MAP", type := (.object "java/util/ImmutableCollections$MapN"), accessFlags := 24, slot := 7, constantValue := 0 }, { name := "EXPAND_FACTOR", type := .int, accessFlags := 24, slot := 8, constantValue := 0 }, { name := "$assertionsDisabled", type := .boolean, accessFlags := 4120, slot := 9, constantValue := 0 }]
  methods := #[k14m0]
  instanceTypes := #[]
  staticTypes := #[.long, .boolean, (.array (.object "java/lang/Object")), (.object "java/lang/Object"), (.object "java/util/ImmutableCollections$ListN"), (.object "java/util/ImmutableCollections$ListN"), (.object "java/util/ImmutableCollections$SetN"), (.object "java/util/ImmutableCollections$MapN"), .int, .boolean]
  resolved := Array.replicate 213 none
  statics := some 1 }

def pool15 : Array CpInfo := pool [(2, .class_ 4), (1, u "java/util/Map"), (31, .class_ 37), (0, u "java/util/Map$Entry"), (55, .class_ 94), (0, u "java/lang/Object")] 168

/-- java/util/Map -/
def k15 : Class := { plain "java/util/Map" (some 0) with
  accessFlags := 1537
  interfaces := #[]
  cf := some (fileOf pool15 2 #[.nestMembers #[36]] #[] 1537 93 #[] #[])
  fields := #[]
  methods := #[]
  instanceTypes := #[]
  staticTypes := #[]
  resolved := Array.replicate 263 none
  statics := none }

def pool16 : Array CpInfo := pool [(1, .methodref 2 3), (0, .class_ 4), (0, .nameAndType 5 6), (0, u "java/lang/Object"), (0, u "<init>"), (0, u "()V"), (1, .class_ 10), (1, u "java/util/AbstractMap"), (42, .class_ 54), (0, u "java/util/Map"), (9, u "keySet"), (0, u "Ljava/util/Set;"), (0, .class_ 67), (0, u "java/util/AbstractMap$1"), (5, u "values"), (0, u "Ljava/util/Collection;"), (0, .class_ 76), (0, u "java/util/AbstractMap$2"), (104, .class_ 182), (0, u "java/util/AbstractMap$ViewCollection"), (0, .class_ 184), (0, u "java/util/AbstractMap$SimpleImmutableEntry"), (0, .class_ 186), (0, u "java/util/AbstractMap$SimpleEntry"), (0, .class_ 188), (0, u "java/util/AbstractMap$2$1"), (0, .class_ 190), (0, u "java/util/AbstractMap$1$1")] 5

def k16c0 : Code := { maxStack := 1, maxLocals := 1, code := jdk_71_method_1_code, exceptionTable := #[], attributes := #[] }
def k16m0 : Method := { name := "<init>", desc := "()V", sig := { parameters := [], returnType := none }, accessFlags := 4, code := some k16c0 }
/-- java/util/AbstractMap -/
def k16 : Class := { plain "java/util/AbstractMap" (some 0) with
  accessFlags := 1057
  interfaces := #[15]
  cf := some (fileOf pool16 8 #[.nestMembers #[181, 183, 185, 75, 187, 66, 189]] #[{ accessFlags := 4, nameIndex := 5, descriptorIndex := 6, attributes := #[] }] 1057 2 #[53] #[{ accessFlags := 128, nameIndex := 64, descriptorIndex := 65, attributes := #[] }, { accessFlags := 128, nameIndex := 73, descriptorIndex := 74, attributes := #[] }])
  fields := #[{ name := "keySet", type := (.object "java/util/Set"), accessFlags := 128, slot := 0, constantValue := 0 }, { name := "values", type := (.object "java/util/Collection"), accessFlags := 128, slot := 1, constantValue := 0 }]
  methods := #[k16m0]
  instanceTypes := #[(.object "java/util/Set"), (.object "java/util/Collection")]
  staticTypes := #[]
  resolved := Array.replicate 196 none
  statics := none }

def pool17 : Array CpInfo := pool [(2, .class_ 4), (1, u "java/util/SequencedMap"), (38, .class_ 44), (0, u "java/util/SequencedMap$1SeqKeySet"), (3, .class_ 49), (0, u "java/util/SequencedMap$1SeqValues"), (1, .class_ 52), (0, u "java/util/SequencedMap$1SeqEntrySet"), (1, .class_ 55), (0, u "java/lang/Object"), (0, .class_ 57), (0, u "java/util/Map")] 48

/-- java/util/SequencedMap -/
def k17 : Class := { plain "java/util/SequencedMap" (some 0) with
  accessFlags := 1537
  interfaces := #[15]
  cf := some (fileOf pool17 2 #[.nestMembers #[51, 48, 43]] #[] 1537 54 #[56] #[])
  fields := #[]
  methods := #[]
  instanceTypes := #[]
  staticTypes := #[]
  resolved := Array.replicate 106 none
  statics := none }

def pool18 : Array CpInfo := pool [(14, .class_ 16), (1, u "java/util/SortedMap"), (2, .class_ 20), (0, u "java/lang/Object"), (0, .class_ 22), (0, u "java/util/SequencedMap")] 50

/-- java/util/SortedMap -/
def k18 : Class := { plain "java/util/SortedMap" (some 0) with
  accessFlags := 1537
  interfaces := #[17]
  cf := some (fileOf pool18 14 #[] #[] 1537 19 #[21] #[])
  fields := #[]
  methods := #[]
  instanceTypes := #[]
  staticTypes := #[]
  resolved := Array.replicate 73 none
  statics := none }

def pool19 : Array CpInfo := pool [(2, .class_ 4), (1, u "java/util/NavigableMap"), (5, .class_ 11), (0, u "java/lang/Object"), (0, .class_ 13), (0, u "java/util/SortedMap")] 53

/-- java/util/NavigableMap -/
def k19 : Class := { plain "java/util/NavigableMap" (some 0) with
  accessFlags := 1537
  interfaces := #[18]
  cf := some (fileOf pool19 2 #[] #[] 1537 10 #[12] #[])
  fields := #[]
  methods := #[]
  instanceTypes := #[]
  staticTypes := #[]
  resolved := Array.replicate 67 none
  statics := none }

def pool20 : Array CpInfo := pool [(1, .class_ 2), (0, u "java/lang/Cloneable"), (0, .class_ 4), (0, u "java/lang/Object")] 2

/-- java/lang/Cloneable -/
def k20 : Class := { plain "java/lang/Cloneable" (some 0) with
  accessFlags := 1537
  interfaces := #[]
  cf := some (fileOf pool20 1 #[] #[] 1537 3 #[] #[])
  fields := #[]
  methods := #[]
  instanceTypes := #[]
  staticTypes := #[]
  resolved := Array.replicate 7 none
  statics := none }

def pool21 : Array CpInfo := pool [(1, .methodref 2 3), (0, .class_ 4), (0, .nameAndType 5 6), (0, u "java/util/AbstractMap"), (0, u "<init>"), (0, u "()V"), (0, .fieldref 8 9), (0, .class_ 10), (0, .nameAndType 11 12), (0, u "java/util/TreeMap"), (0, u "size"), (0, u "I"), (0, .fieldref 8 14), (0, .nameAndType 15 12), (0, u "modCount"), (0, .fieldref 8 17), (0, .nameAndType 18 19), (0, u "comparator"), (0, u "Ljava/util/Comparator;"), (14, u "entrySet"), (24, .class_ 61), (1, u "java/util/TreeMap$Entry"), (1, u "Ljava/lang/Object;"), (39, u "root"), (0, u "Ljava/util/TreeMap$Entry;"), (85, u "Ljava/util/TreeMap$EntrySet;"), (2, u "navigableKeySet"), (0, u "Ljava/util/TreeMap$KeySet;"), (2, u "descendingMap"), (0, u "Ljava/util/NavigableMap;"), (23, .class_ 223), (0, u "java/util/TreeMap$KeySet"), (7, .class_ 232), (0, u "java/util/NavigableMap"), (4, .class_ 238), (0, u "java/util/TreeMap$Values"), (3, .class_ 243), (0, u "java/util/TreeMap$EntrySet"), (1, .class_ 246), (0, u "java/util/TreeMap$DescendingSubMap"), (3, .class_ 251), (0, u "java/util/TreeMap$AscendingSubMap"), (17, .class_ 270), (0, u "java/util/TreeMap$KeyIterator"), (3, .class_ 275), (0, u "java/util/TreeMap$DescendingKeyIterator"), (17, u "Z"), (94, .class_ 389), (0, u "java/util/TreeMap$NavigableSubMap"), (1, .class_ 392), (0, u "java/util/TreeMap$KeySpliterator"), (3, .class_ 397), (0, u "java/util/TreeMap$DescendingKeySpliterator"), (4, u "UNBOUNDED"), (0, .class_ 404), (0, u "java/lang/Cloneable"), (0, .class_ 406), (0, u "java/io/Serializable"), (6, u "RED"), (2, u "BLACK"), (1, u "serialVersionUID"), (0, u "J"), (214, .class_ 635), (0, u "java/util/TreeMap$EntrySpliterator"), (0, .class_ 637), (0, u "java/util/TreeMap$ValueSpliterator"), (0, .class_ 639), (0, u "java/util/TreeMap$TreeMapSpliterator"), (0, .class_ 641), (0, u "java/util/TreeMap$SubMap"), (0, .class_ 643), (0, u "java/util/TreeMap$DescendingSubMap$DescendingEntrySetView"), (0, .class_ 645), (0, u "java/util/TreeMap$AscendingSubMap$AscendingEntrySetView"), (0, .class_ 647), (0, u "java/util/TreeMap$NavigableSubMap$DescendingSubMapKeyIterator"), (0, .class_ 649), (0, u "java/util/TreeMap$NavigableSubMap$SubMapKeyIterator"), (0, .class_ 651), (0, u "java/util/TreeMap$NavigableSubMap$DescendingSubMapEntryIterator"), (0, .class_ 653), (0, u "java/util/TreeMap$NavigableSubMap$SubMapEntryIterator"), (0, .class_ 655), (0, u "java/util/TreeMap$NavigableSubMap$SubMapIterator"), (0, .class_ 657), (0, u "java/util/TreeMap$NavigableSubMap$EntrySetView"), (0, .class_ 659), (0, u "java/util/TreeMap$ValueIterator"), (0, .class_ 661), (0, u "java/util/TreeMap$EntryIterator"), (0, .class_ 663), (0, u "java/util/TreeMap$PrivateEntryIterator")] 28

def k21c0 : Code := { maxStack := 2, maxLocals := 1, code := jdk_2729_method_1_code, exceptionTable := #[], attributes := #[] }
def k21m0 : Method := { name := "<init>", desc := "()V", sig := { parameters := [], returnType := none }, accessFlags := 1, code := some k21c0 }
/-- java/util/TreeMap -/
def k21 : Class := { plain "java/util/TreeMap" (some 16) with
  accessFlags := 33
  interfaces := #[19, 20, 2]
  cf := some (fileOf pool21 8 #[.nestMembers #[634, 636, 396, 391, 638, 59, 640, 245, 642, 250, 644, 388, 646, 648, 650, 652, 654, 656, 274, 269, 658, 660, 662, 222, 242, 237]] #[{ accessFlags := 1, nameIndex := 5, descriptorIndex := 6, attributes := #[] }] 33 2 #[231, 403, 405] #[{ accessFlags := 18, nameIndex := 18, descriptorIndex := 19, attributes := #[] }, { accessFlags := 130, nameIndex := 103, descriptorIndex := 104, attributes := #[] }, { accessFlags := 130, nameIndex := 11, descriptorIndex := 12, attributes := #[] }, { accessFlags := 130, nameIndex := 15, descriptorIndex := 12, attributes := #[] }, { accessFlags := 130, nameIndex := 34, descriptorIndex := 190, attributes := #[] }, { accessFlags := 130, nameIndex := 193, descriptorIndex := 194, attributes := #[] }, { accessFlags := 130, nameIndex := 197, descriptorIndex := 198, attributes := #[] }, { accessFlags := 26, nameIndex := 402, descriptorIndex := 63, attributes := #[] }, { accessFlags := 26, nameIndex := 413, descriptorIndex := 293, attributes := #[] }, { accessFlags := 26, nameIndex := 416, descriptorIndex := 293, attributes := #[] }, { accessFlags := 26, nameIndex := 418, descriptorIndex := 419, attributes := #[] }])
  fields := #[{ name := "comparator", type := (.object "java/util/Comparator"), accessFlags := 18, slot := 2, constantValue := 0 }, { name := "root", type := (.object "java/util/TreeMap$Entry"), accessFlags := 130, slot := 3, constantValue := 0 }, { name := "size", type := .int, accessFlags := 130, slot := 4, constantValue := 0 }, { name := "modCount", type := .int, accessFlags := 130, slot := 5, constantValue := 0 }, { name := "entrySet", type := (.object "java/util/TreeMap$EntrySet"), accessFlags := 130, slot := 6, constantValue := 0 }, { name := "navigableKeySet", type := (.object "java/util/TreeMap$KeySet"), accessFlags := 130, slot := 7, constantValue := 0 }, { name := "descendingMap", type := (.object "java/util/NavigableMap"), accessFlags := 130, slot := 8, constantValue := 0 }, { name := "UNBOUNDED", type := (.object "java/lang/Object"), accessFlags := 26, slot := 0, constantValue := 0 }, { name := "RED", type := .boolean, accessFlags := 26, slot := 1, constantValue := 0 }, { name := "BLACK", type := .boolean, accessFlags := 26, slot := 2, constantValue := 0 }, { name := "serialVersionUID", type := .long, accessFlags := 26, slot := 3, constantValue := 0 }]
  methods := #[k21m0]
  instanceTypes := #[(.object "java/util/Set"), (.object "java/util/Collection"), (.object "java/util/Comparator"), (.object "java/util/TreeMap$Entry"), .int, .int, (.object "java/util/TreeMap$EntrySet"), (.object "java/util/TreeMap$KeySet"), (.object "java/util/NavigableMap")]
  staticTypes := #[(.object "java/lang/Object"), .boolean, .boolean, .long]
  resolved := Array.replicate 692 none
  statics := none }

def pool22 : Array CpInfo := pool [(40, .class_ 41), (0, u "java/util/HashMap"), (1, .methodref 44 45), (0, .class_ 46), (0, .nameAndType 47 48), (0, u "java/util/AbstractMap"), (0, u "<init>"), (0, u "()V"), (32, .fieldref 40 82), (0, .nameAndType 83 84), (0, u "loadFactor"), (0, u "F"), (5, u "threshold"), (0, u "I"), (0, .float 1061158912), (8, .class_ 103), (1, u "java/util/Map"), (0, u "size"), (2, u "table"), (0, u "[Ljava/util/HashMap$Node;"), (14, u "entrySet"), (39, .class_ 165), (1, u "java/util/HashMap$Node"), (14, .class_ 181), (0, u "java/util/HashMap$TreeNode"), (22, u "modCount"), (37, u "Ljava/util/Set;"), (0, .class_ 244), (0, u "java/util/HashMap$KeySet"), (18, .class_ 264), (0, u "java/util/HashMap$Values"), (3, .class_ 269), (0, u "java/util/HashMap$EntrySet"), (76, .class_ 348), (1, u "java/util/HashMap$UnsafeHolder"), (43, .class_ 393), (0, u "java/lang/Cloneable"), (0, .class_ 395), (0, u "java/io/Serializable"), (0, u "serialVersionUID"), (0, u "J"), (3, u "DEFAULT_INITIAL_CAPACITY"), (1, u "MAXIMUM_CAPACITY"), (0, u "DEFAULT_LOAD_FACTOR"), (0, u "TREEIFY_THRESHOLD"), (1, u "UNTREEIFY_THRESHOLD"), (1, u "MIN_TREEIFY_CAPACITY"), (186, .class_ 597), (0, u "java/util/HashMap$EntrySpliterator"), (0, .class_ 599), (0, u "java/util/HashMap$ValueSpliterator"), (0, .class_ 601), (0, u "java/util/HashMap$KeySpliterator"), (0, .class_ 603), (0, u "java/util/HashMap$HashMapSpliterator"), (0, .class_ 605), (0, u "java/util/HashMap$EntryIterator"), (0, .class_ 607), (0, u "java/util/HashMap$ValueIterator"), (0, .class_ 609), (0, u "java/util/HashMap$KeyIterator"), (0, .class_ 611), (0, u "java/util/HashMap$HashIterator")] 17

def k22c0 : Code := { maxStack := 2, maxLocals := 1, code := jdk_69_method_7_code, exceptionTable := #[], attributes := #[] }
def k22m0 : Method := { name := "<init>", desc := "()V", sig := { parameters := [], returnType := none }, accessFlags := 1, code := some k22c0 }
/-- java/util/HashMap -/
def k22 : Class := { plain "java/util/HashMap" (some 16) with
  accessFlags := 33
  interfaces := #[15, 20, 2]
  cf := some (fileOf pool22 40 #[.nestMembers #[180, 596, 598, 600, 602, 604, 606, 608, 610, 346, 268, 263, 243, 163]] #[{ accessFlags := 1, nameIndex := 47, descriptorIndex := 48, attributes := #[] }] 33 44 #[101, 392, 394] #[{ accessFlags := 26, nameIndex := 396, descriptorIndex := 397, attributes := #[] }, { accessFlags := 24, nameIndex := 401, descriptorIndex := 91, attributes := #[] }, { accessFlags := 24, nameIndex := 403, descriptorIndex := 91, attributes := #[] }, { accessFlags := 24, nameIndex := 404, descriptorIndex := 84, attributes := #[] }, { accessFlags := 24, nameIndex := 405, descriptorIndex := 91, attributes := #[] }, { accessFlags := 24, nameIndex := 407, descriptorIndex := 91, attributes := #[] }, { accessFlags := 24, nameIndex := 409, descriptorIndex := 91, attributes := #[] }, { accessFlags := 128, nameIndex := 107, descriptorIndex := 108, attributes := #[] }, { accessFlags := 128, nameIndex := 123, descriptorIndex := 242, attributes := #[] }, { accessFlags := 128, nameIndex := 104, descriptorIndex := 91, attributes := #[] }, { accessFlags := 128, nameIndex := 204, descriptorIndex := 91, attributes := #[] }, { accessFlags := 0, nameIndex := 90, descriptorIndex := 91, attributes := #[] }, { accessFlags := 16, nameIndex := 83, descriptorIndex := 84, attributes := #[] }])
  fields := #[{ name := "serialVersionUID", type := .long, accessFlags := 26, slot := 0, constantValue := 0 }, { name := "DEFAULT_INITIAL_CAPACITY", type := .int, accessFlags := 24, slot := 1, constantValue := 0 }, { name := "MAXIMUM_CAPACITY", type := .int, accessFlags := 24, slot := 2, constantValue := 0 }, { name := "DEFAULT_LOAD_FACTOR", type := .float, accessFlags := 24, slot := 3, constantValue := 0 }, { name := "TREEIFY_THRESHOLD", type := .int, accessFlags := 24, slot := 4, constantValue := 0 }, { name := "UNTREEIFY_THRESHOLD", type := .int, accessFlags := 24, slot := 5, constantValue := 0 }, { name := "MIN_TREEIFY_CAPACITY", type := .int, accessFlags := 24, slot := 6, constantValue := 0 }, { name := "table", type := (.array (.object "java/util/HashMap$Node")), accessFlags := 128, slot := 2, constantValue := 0 }, { name := "entrySet", type := (.object "java/util/Set"), accessFlags := 128, slot := 3, constantValue := 0 }, { name := "size", type := .int, accessFlags := 128, slot := 4, constantValue := 0 }, { name := "modCount", type := .int, accessFlags := 128, slot := 5, constantValue := 0 }, { name := "threshold", type := .int, accessFlags := 0, slot := 6, constantValue := 0 }, { name := "loadFactor", type := .float, accessFlags := 16, slot := 7, constantValue := 0 }]
  methods := #[k22m0]
  instanceTypes := #[(.object "java/util/Set"), (.object "java/util/Collection"), (.array (.object "java/util/HashMap$Node")), (.object "java/util/Set"), .int, .int, .int, .float]
  staticTypes := #[.long, .int, .int, .float, .int, .int, .int]
  resolved := Array.replicate 629 none
  statics := none }

def pool23 : Array CpInfo := pool [(1, .methodref 2 3), (0, .class_ 4), (0, .nameAndType 5 6), (0, u "java/lang/Object"), (0, u "<init>"), (0, u "()V"), (0, .class_ 8), (0, u "java/util/HashMap"), (0, .methodref 7 3), (0, .fieldref 11 12), (0, .class_ 13), (0, .nameAndType 14 15), (0, u "coterie/causal/Replicas"), (0, u "objects"), (0, u "Ljava/util/Map;"), (0, .fieldref 11 17), (0, .nameAndType 18 15), (0, u "applied"), (0, .fieldref 11 20), (0, .nameAndType 21 15), (0, u "heldBack"), (0, .fieldref 11 23), (0, .nameAndType 24 15), (0, u "kept"), (0, .fieldref 11 26), (0, .nameAndType 27 15), (0, u "everywhere"), (0, .fieldref 11 29), (0, .nameAndType 30 15), (0, u "gone"), (0, .fieldref 11 32), (0, .nameAndType 33 15), (0, u "settledOf"), (0, .fieldref 11 35), (0, .nameAndType 36 37), (0, u "self"), (0, u "Ljava/lang/String;"), (10, .class_ 49), (0, u "coterie/causal/Replicas$Written"), (83, u "clock"), (0, u "J"), (14, u "settledByAll"), (2, u "settled"), (91, .class_ 245), (0, u "coterie/causal/Replicas$Applied"), (44, u "epoch"), (6, u "present"), (0, u "Ljava/util/Set;"), (31, .class_ 331), (0, u "coterie/causal/Replicas$Copy"), (50, u "(Ljava/lang/String;)V")] 97

def k23c0 : Code := { maxStack := 3, maxLocals := 2, code := prog_25_method_1_code, exceptionTable := #[], attributes := #[] }
def k23m0 : Method := { name := "<init>", desc := "(Ljava/lang/String;)V", sig := { parameters := [(.object "java/lang/String")], returnType := none }, accessFlags := 0, code := some k23c0 }
/-- coterie/causal/Replicas -/
def k23 : Class := { plain "coterie/causal/Replicas" (some 0) with
  accessFlags := 48
  interfaces := #[]
  cf := some (fileOf pool23 11 #[.nestMembers #[330, 244, 48]] #[{ accessFlags := 0, nameIndex := 5, descriptorIndex := 382, attributes := #[] }] 48 2 #[] #[{ accessFlags := 18, nameIndex := 36, descriptorIndex := 37, attributes := #[] }, { accessFlags := 18, nameIndex := 14, descriptorIndex := 15, attributes := #[] }, { accessFlags := 18, nameIndex := 18, descriptorIndex := 15, attributes := #[] }, { accessFlags := 2, nameIndex := 133, descriptorIndex := 134, attributes := #[] }, { accessFlags := 18, nameIndex := 21, descriptorIndex := 15, attributes := #[] }, { accessFlags := 18, nameIndex := 24, descriptorIndex := 15, attributes := #[] }, { accessFlags := 18, nameIndex := 27, descriptorIndex := 15, attributes := #[] }, { accessFlags := 2, nameIndex := 297, descriptorIndex := 298, attributes := #[] }, { accessFlags := 2, nameIndex := 290, descriptorIndex := 134, attributes := #[] }, { accessFlags := 18, nameIndex := 30, descriptorIndex := 15, attributes := #[] }, { accessFlags := 2, nameIndex := 152, descriptorIndex := 134, attributes := #[] }, { accessFlags := 18, nameIndex := 33, descriptorIndex := 15, attributes := #[] }, { accessFlags := 2, nameIndex := 149, descriptorIndex := 134, attributes := #[] }])
  fields := #[{ name := "self", type := (.object "java/lang/String"), accessFlags := 18, slot := 0, constantValue := 0 }, { name := "objects", type := (.object "java/util/Map"), accessFlags := 18, slot := 1, constantValue := 0 }, { name := "applied", type := (.object "java/util/Map"), accessFlags := 18, slot := 2, constantValue := 0 }, { name := "clock", type := .long, accessFlags := 2, slot := 3, constantValue := 0 }, { name := "heldBack", type := (.object "java/util/Map"), accessFlags := 18, slot := 4, constantValue := 0 }, { name := "kept", type := (.object "java/util/Map"), accessFlags := 18, slot := 5, constantValue := 0 }, { name := "everywhere", type := (.object "java/util/Map"), accessFlags := 18, slot := 6, constantValue := 0 }, { name := "present", type := (.object "java/util/Set"), accessFlags := 2, slot := 7, constantValue := 0 }, { name := "epoch", type := .long, accessFlags := 2, slot := 8, constantValue := 0 }, { name := "gone", type := (.object "java/util/Map"), accessFlags := 18, slot := 9, constantValue := 0 }, { name := "settled", type := .long, accessFlags := 2, slot := 10, constantValue := 0 }, { name := "settledOf", type := (.object "java/util/Map"), accessFlags := 18, slot := 11, constantValue := 0 }, { name := "settledByAll", type := .long, accessFlags := 2, slot := 12, constantValue := 0 }]
  methods := #[k23m0]
  instanceTypes := #[(.object "java/lang/String"), (.object "java/util/Map"), (.object "java/util/Map"), .long, (.object "java/util/Map"), (.object "java/util/Map"), (.object "java/util/Map"), (.object "java/util/Set"), .long, (.object "java/util/Map"), .long, (.object "java/util/Map"), .long]
  staticTypes := #[]
  resolved := Array.replicate 480 none
  statics := none }

def pool24 : Array CpInfo := pool [(2, .class_ 4), (1, u "java/lang/Object"), (0, u "<init>"), (0, u "()V"), (17, .class_ 26), (1, u "jdk/internal/util/Preconditions"), (28, .class_ 56), (0, u "jdk/internal/util/Preconditions$4"), (57, .class_ 115), (0, u "jdk/internal/util/Preconditions$1"), (7, u "SIOOBE_FORMATTER"), (0, u "Ljava/util/function/BiFunction;"), (0, .class_ 126), (0, u "jdk/internal/util/Preconditions$2"), (3, u "AIOOBE_FORMATTER"), (0, .class_ 132), (0, u "jdk/internal/util/Preconditions$3"), (3, u "IOOBE_FORMATTER")] 57

def k24m0 : Method := { name := "<init>", desc := "()V", sig := { parameters := [], returnType := none }, accessFlags := 1, code := none }
/-- jdk/internal/util/Preconditions -/
def k24 : Class := { plain "jdk/internal/util/Preconditions" (some 0) with
  accessFlags := 33
  interfaces := #[]
  cf := some (fileOf pool24 24 #[.nestMembers #[55, 131, 125, 114]] #[{ accessFlags := 1, nameIndex := 5, descriptorIndex := 6, attributes := #[] }] 33 2 #[] #[{ accessFlags := 25, nameIndex := 123, descriptorIndex := 124, attributes := #[] }, { accessFlags := 25, nameIndex := 130, descriptorIndex := 124, attributes := #[] }, { accessFlags := 25, nameIndex := 136, descriptorIndex := 124, attributes := #[] }])
  fields := #[{ name := "SIOOBE_FORMATTER", type := (.object "java/util/function/BiFunction"), accessFlags := 25, slot := 0, constantValue := 0 }, { name := "AIOOBE_FORMATTER", type := (.object "java/util/function/BiFunction"), accessFlags := 25, slot := 1, constantValue := 0 }, { name := "IOOBE_FORMATTER", type := (.object "java/util/function/BiFunction"), accessFlags := 25, slot := 2, constantValue := 0 }]
  methods := #[k24m0]
  instanceTypes := #[]
  staticTypes := #[(.object "java/util/function/BiFunction"), (.object "java/util/function/BiFunction"), (.object "java/util/function/BiFunction")]
  resolved := Array.replicate 194 none
  statics := some 2 }

def pool25 : Array CpInfo := pool [(9, u "<init>"), (6, .class_ 18), (1, u "java/lang/Object"), (0, u "()V"), (1, .class_ 23), (1, u "jdk/internal/util/ArraysSupport"), (0, u "LOG2_ARRAY_LONG_INDEX_SCALE"), (0, u "I"), (2, u "U"), (0, u "Ljdk/internal/misc/Unsafe;"), (8, u "BIG_ENDIAN"), (0, u "Z"), (8, u "LOG2_BYTE_BIT_SIZE"), (4, u "LOG2_ARRAY_INT_INDEX_SCALE"), (54, u "JLA"), (0, u "Ljdk/internal/access/JavaLangAccess;"), (11, u "LOG2_ARRAY_BOOLEAN_INDEX_SCALE"), (9, u "LOG2_ARRAY_BYTE_INDEX_SCALE"), (5, u "LOG2_ARRAY_CHAR_INDEX_SCALE"), (5, u "LOG2_ARRAY_SHORT_INDEX_SCALE"), (18, u "LOG2_ARRAY_FLOAT_INDEX_SCALE"), (24, u "LOG2_ARRAY_DOUBLE_INDEX_SCALE"), (89, u "T_BOOLEAN"), (2, u "T_CHAR"), (1, u "T_FLOAT"), (1, u "T_DOUBLE"), (1, u "T_BYTE"), (1, u "T_SHORT"), (1, u "T_INT"), (1, u "T_LONG"), (1, u "SOFT_MAX_ARRAY_LENGTH")] 83

def k25m0 : Method := { name := "<init>", desc := "()V", sig := { parameters := [], returnType := none }, accessFlags := 2, code := none }
/-- jdk/internal/util/ArraysSupport -/
def k25 : Class := { plain "jdk/internal/util/ArraysSupport" (some 0) with
  accessFlags := 33
  interfaces := #[]
  cf := some (fileOf pool25 21 #[] #[{ accessFlags := 2, nameIndex := 9, descriptorIndex := 19, attributes := #[] }] 33 16 #[] #[{ accessFlags := 24, nameIndex := 28, descriptorIndex := 29, attributes := #[] }, { accessFlags := 26, nameIndex := 38, descriptorIndex := 39, attributes := #[] }, { accessFlags := 25, nameIndex := 121, descriptorIndex := 25, attributes := #[] }, { accessFlags := 25, nameIndex := 131, descriptorIndex := 25, attributes := #[] }, { accessFlags := 25, nameIndex := 137, descriptorIndex := 25, attributes := #[] }, { accessFlags := 25, nameIndex := 143, descriptorIndex := 25, attributes := #[] }, { accessFlags := 25, nameIndex := 53, descriptorIndex := 25, attributes := #[] }, { accessFlags := 25, nameIndex := 24, descriptorIndex := 25, attributes := #[] }, { accessFlags := 25, nameIndex := 162, descriptorIndex := 25, attributes := #[] }, { accessFlags := 25, nameIndex := 187, descriptorIndex := 25, attributes := #[] }, { accessFlags := 26, nameIndex := 48, descriptorIndex := 25, attributes := #[] }, { accessFlags := 25, nameIndex := 277, descriptorIndex := 25, attributes := #[] }, { accessFlags := 25, nameIndex := 280, descriptorIndex := 25, attributes := #[] }, { accessFlags := 25, nameIndex := 282, descriptorIndex := 25, attributes := #[] }, { accessFlags := 25, nameIndex := 284, descriptorIndex := 25, attributes := #[] }, { accessFlags := 25, nameIndex := 286, descriptorIndex := 25, attributes := #[] }, { accessFlags := 25, nameIndex := 288, descriptorIndex := 25, attributes := #[] }, { accessFlags := 25, nameIndex := 290, descriptorIndex := 25, attributes := #[] }, { accessFlags := 25, nameIndex := 292, descriptorIndex := 25, attributes := #[] }, { accessFlags := 26, nameIndex := 108, descriptorIndex := 109, attributes := #[] }, { accessFlags := 25, nameIndex := 294, descriptorIndex := 25, attributes := #[] }])
  fields := #[{ name := "U", type := (.object "jdk/internal/misc/Unsafe"), accessFlags := 24, slot := 0, constantValue := 0 }, { name := "BIG_ENDIAN", type := .boolean, accessFlags := 26, slot := 1, constantValue := 0 }, { name := "LOG2_ARRAY_BOOLEAN_INDEX_SCALE", type := .int, accessFlags := 25, slot := 2, constantValue := 0 }, { name := "LOG2_ARRAY_BYTE_INDEX_SCALE", type := .int, accessFlags := 25, slot := 3, constantValue := 0 }, { name := "LOG2_ARRAY_CHAR_INDEX_SCALE", type := .int, accessFlags := 25, slot := 4, constantValue := 0 }, { name := "LOG2_ARRAY_SHORT_INDEX_SCALE", type := .int, accessFlags := 25, slot := 5, constantValue := 0 }, { name := "LOG2_ARRAY_INT_INDEX_SCALE", type := .int, accessFlags := 25, slot := 6, constantValue := 0 }, { name := "LOG2_ARRAY_LONG_INDEX_SCALE", type := .int, accessFlags := 25, slot := 7, constantValue := 0 }, { name := "LOG2_ARRAY_FLOAT_INDEX_SCALE", type := .int, accessFlags := 25, slot := 8, constantValue := 0 }, { name := "LOG2_ARRAY_DOUBLE_INDEX_SCALE", type := .int, accessFlags := 25, slot := 9, constantValue := 0 }, { name := "LOG2_BYTE_BIT_SIZE", type := .int, accessFlags := 26, slot := 10, constantValue := 0 }, { name := "T_BOOLEAN", type := .int, accessFlags := 25, slot := 11, constantValue := 0 }, { name := "T_CHAR", type := .int, accessFlags := 25, slot := 12, constantValue := 0 }, { name := "T_FLOAT", type := .int, accessFlags := 25, slot := 13, constantValue := 0 }, { name := "T_DOUBLE", type := .int, accessFlags := 25, slot := 14, constantValue := 0 }, { name := "T_BYTE", type := .int, accessFlags := 25, slot := 15, constantValue := 0 }, { name := "T_SHORT", type := .int, accessFlags := 25, slot := 16, constantValue := 0 }, { name := "T_INT", type := .int, accessFlags := 25, slot := 17, constantValue := 0 }, { name := "T_LONG", type := .int, accessFlags := 25, slot := 18, constantValue := 0 }, { name := "JLA", type := (.object "jdk/internal/access/JavaLangAccess"), accessFlags := 26, slot := 19, constantValue := 0 }, { name := "SOFT_MAX_ARRAY_LENGTH", type := .int, accessFlags := 25, slot := 20, constantValue := 0 }]
  methods := #[k25m0]
  instanceTypes := #[]
  staticTypes := #[(.object "jdk/internal/misc/Unsafe"), .boolean, .int, .int, .int, .int, .int, .int, .int, .int, .int, .int, .int, .int, .int, .int, .int, .int, .int, (.object "jdk/internal/access/JavaLangAccess"), .int]
  resolved := Array.replicate 378 none
  statics := none }

def pool26 : Array CpInfo := pool [(2, .class_ 4), (1, u "java/lang/Object"), (0, u "<init>"), (0, u "()V"), (1, .class_ 10), (1, u "java/util/AbstractCollection"), (66, .class_ 78), (0, u "java/util/Collection")] 81

def k26m0 : Method := { name := "<init>", desc := "()V", sig := { parameters := [], returnType := none }, accessFlags := 4, code := none }
/-- java/util/AbstractCollection -/
def k26 : Class := { plain "java/util/AbstractCollection" (some 0) with
  accessFlags := 1057
  interfaces := #[11]
  cf := some (fileOf pool26 8 #[] #[{ accessFlags := 4, nameIndex := 5, descriptorIndex := 6, attributes := #[] }] 1057 2 #[77] #[])
  fields := #[]
  methods := #[k26m0]
  instanceTypes := #[]
  staticTypes := #[]
  resolved := Array.replicate 160 none
  statics := none }

def pool27 : Array CpInfo := pool [(2, .class_ 4), (1, u "java/util/AbstractCollection"), (0, u "<init>"), (0, u "()V"), (1, .class_ 10), (1, u "java/util/ImmutableCollections"), (2, .class_ 14), (0, u "java/util/ImmutableCollections$AbstractImmutableCollection")] 41

def k27m0 : Method := { name := "<init>", desc := "()V", sig := { parameters := [], returnType := none }, accessFlags := 0, code := none }
/-- java/util/ImmutableCollections$AbstractImmutableCollection -/
def k27 : Class := { plain "java/util/ImmutableCollections$AbstractImmutableCollection" (some 26) with
  accessFlags := 1056
  interfaces := #[]
  cf := some (fileOf pool27 13 #[.nestHost 8] #[{ accessFlags := 0, nameIndex := 5, descriptorIndex := 6, attributes := #[] }] 1056 2 #[] #[])
  fields := #[]
  methods := #[k27m0]
  instanceTypes := #[]
  staticTypes := #[]
  resolved := Array.replicate 56 none
  statics := none }

def pool28 : Array CpInfo := pool [(1, .class_ 2), (0, u "java/util/RandomAccess"), (0, .class_ 4), (0, u "java/lang/Object")] 2

/-- java/util/RandomAccess -/
def k28 : Class := { plain "java/util/RandomAccess" (some 0) with
  accessFlags := 1537
  interfaces := #[]
  cf := some (fileOf pool28 1 #[] #[] 1537 3 #[] #[])
  fields := #[]
  methods := #[]
  instanceTypes := #[]
  staticTypes := #[]
  resolved := Array.replicate 7 none
  statics := none }

def pool29 : Array CpInfo := pool [(2, .class_ 4), (1, u "java/util/ImmutableCollections$AbstractImmutableCollection"), (0, u "<init>"), (0, u "()V"), (1, .class_ 10), (1, u "java/util/ImmutableCollections"), (3, .class_ 16), (1, u "java/util/ImmutableCollections$AbstractImmutableList"), (60, .class_ 78), (0, u "java/util/List"), (45, .class_ 125), (0, u "java/util/RandomAccess")] 70

def k29m0 : Method := { name := "<init>", desc := "()V", sig := { parameters := [], returnType := none }, accessFlags := 0, code := none }
/-- java/util/ImmutableCollections$AbstractImmutableList -/
def k29 : Class := { plain "java/util/ImmutableCollections$AbstractImmutableList" (some 27) with
  accessFlags := 1056
  interfaces := #[13, 28]
  cf := some (fileOf pool29 14 #[.nestHost 8] #[{ accessFlags := 0, nameIndex := 5, descriptorIndex := 6, attributes := #[] }] 1056 2 #[77, 124] #[])
  fields := #[]
  methods := #[k29m0]
  instanceTypes := #[]
  staticTypes := #[]
  resolved := Array.replicate 196 none
  statics := none }

def pool30 : Array CpInfo := pool [(2, .class_ 4), (1, u "java/util/ImmutableCollections$AbstractImmutableList"), (3, .class_ 10), (1, u "java/util/ImmutableCollections$ListN"), (0, u "elements"), (0, u "[Ljava/lang/Object;"), (2, u "allowNulls"), (0, u "Z"), (42, .class_ 60), (0, u "java/io/Serializable"), (53, .class_ 115), (0, u "java/util/ImmutableCollections")] 3

/-- java/util/ImmutableCollections$ListN -/
def k30 : Class := { plain "java/util/ImmutableCollections$ListN" (some 29) with
  accessFlags := 48
  interfaces := #[2]
  cf := some (fileOf pool30 8 #[.nestHost 114] #[] 48 2 #[59] #[{ accessFlags := 18, nameIndex := 11, descriptorIndex := 12, attributes := #[] }, { accessFlags := 18, nameIndex := 15, descriptorIndex := 16, attributes := #[] }])
  fields := #[{ name := "elements", type := (.array (.object "java/lang/Object")), accessFlags := 18, slot := 0, constantValue := 0 }, { name := "allowNulls", type := .boolean, accessFlags := 18, slot := 1, constantValue := 0 }]
  methods := #[]
  instanceTypes := #[(.array (.object "java/lang/Object")), .boolean]
  staticTypes := #[]
  resolved := Array.replicate 119 none
  statics := none }

/-- the primitive byte -/
def k31 : Class := { plain "byte" none with kind := .primitive 'B', accessFlags := 0x411 }
/-- [B -/
def k32 : Class := { plain "[B" (some 0) with kind := .array 31 .byte, interfaces := #[20, 2], accessFlags := 1041 }

/-- the primitive int -/
def k33 : Class := { plain "int" none with kind := .primitive 'I', accessFlags := 0x411 }
/-- [I -/
def k34 : Class := { plain "[I" (some 0) with kind := .array 33 .int, interfaces := #[20, 2], accessFlags := 1041 }

/-- [Ljava/lang/Object; -/
def k35 : Class := { plain "[Ljava/lang/Object;" (some 0) with kind := .array 0 (.object "java/lang/Object"), interfaces := #[20, 2], accessFlags := 1041 }

def heap : Heap := #[{ cls := 7, slots := #[.long 0, .int 1, .null, .int 0, .null, .int 0, .int 0], vm := .statics 7 },
  { cls := 14, slots := #[.long 0, .int 0, .null, .null, .ref 4, .null, .null, .null, .int 0, .int 0], vm := .statics 14 },
  { cls := 24, slots := #[.null, .null, .null], vm := .statics 24 },
  { cls := 35, slots := #[], vm := .none },
  { cls := 30, slots := #[.ref 3, .int 0], vm := .none }]
def classes : Array Class := #[k0, k1, k2, k3, k4, k5, k6, k7, k8, k9, k10, k11, k12, k13, k14, k15, k16, k17, k18, k19, k20, k21, k22, k23, k24, k25, k26, k27, k28, k29, k30, k31, k32, k33, k34, k35]
def interned : List (Array UInt16 × Addr) := []
def slotsUsed : Nat := 22
def theMethod : MethodId := ⟨1, 1⟩
def args0 : Array Value := #[.int 5, .int 3, .int 1, .int 25185]
def aboutOver (below : List Frame) : State where
  vm := { classes := classes, interned := interned.toArray }
  heap := heap
  slotsUsed := slotsUsed
  threads := #[{ frames := .invoking theMethod args0 :: below }]
def below0 : List Frame := [.native { method := ⟨0, 0⟩, args := #[] }]
def about1 : State := aboutOver below0
def p0 : Program := .bare "" "" ""
def e0 : Env := launch0.env 0 0 0
theorem w_frames : about1.frames = Frame.invoking theMethod args0 :: below0 := rfl
set_option maxRecDepth 65536 in
theorem w_args : argsFit about1.vm theMethod args0 = true := by decide +kernel
set_option maxRecDepth 65536 in
theorem w_heap : heapFits about1 = true := by decide +kernel
set_option maxRecDepth 65536 in
theorem w_runnable : about1.curStatus? = some .runnable := by decide +kernel
set_option maxRecDepth 65536 in
theorem w_alone : about1.alone = true := by decide +kernel
set_option maxRecDepth 65536 in
theorem w_named : about1.methodNamed? x = some theMethod := by decide +kernel
set_option maxRecDepth 65536 in
theorem w_hears : about1.hears theMethod below0 = true := by decide +kernel
set_option maxRecDepth 65536 in
theorem w_ripe : about1.ripe theMethod args0 below0 = true := by decide +kernel
theorem w_running : about1.status = .running := rfl
set_option maxRecDepth 65536 in
theorem w_room : about1.hasRoom e0.platform room_1 = true :=
  launch0.hasRoom_least _ room_1 (by decide +kernel) (by decide +kernel) (by decide +kernel) (by decide +kernel) (by decide +kernel) (by decide +kernel)
theorem allAtoms_all (ts : List Jvm.Cond) (a : Array Jvm.Value) (st : Jvm.State) : (allAtoms ts).before a st = ts.all (fun c => c.before a st) := by
  induction ts with
  | nil => rfl
  | cons c t ih =>
    show (Jvm.Cond.and c (allAtoms t)).before a st = _
    rw [Jvm.Cond.before_and, ih, List.all_cons]
def words1 : List Jvm.Cond := Jvm.Cond.code x code maxLocals ret :: tables_1
/-- a 'code' word, met by the world's own term for the bytes: nothing is compared byte by byte -/
theorem code_word {y : MethodName} {bytes : ByteArray} {mx : Nat} {rt : Option FieldType} {a : Array Value} {s : State} {m : MethodId} {meth : Method} {c : Code} (h1 : s.methodNamed? y = some m) (h2 : s.vm.method? m = some meth) (h3 : meth.code = some c) (h4 : c.code = bytes)
    (h5 : (c.maxLocals == mx && c.exceptionTable.isEmpty && decide (c.maxStack ≤ mostOperands) && decide (meth.sig.returnType = rt) && !meth.locks && decide (parseMethodDescriptor y.desc = some meth.sig)) = true) : (Jvm.Cond.code y bytes mx rt).before a s = true := by
  simp only [Bool.and_eq_true, beq_iff_eq, Bool.not_eq_true', decide_eq_true_eq] at h5
  obtain ⟨⟨⟨⟨⟨g1, g2⟩, g3⟩, g4⟩, g5⟩, g6⟩ := h5
  simp [Cond.before, Cond.holds, Cond.value, h1, h2, h3, h4, g1, g2, g3, g4, g5, g6]
def isCode : Jvm.Cond → Bool
  | .code _ _ _ _ => true
  | _ => false
theorem all_split {L : List Jvm.Cond} {P : Jvm.Cond → Bool} (h1 : L.all (fun c => isCode c || P c) = true) (h2 : ∀ c ∈ L.filter isCode, P c = true) : L.all P = true := by
  refine List.all_eq_true.mpr fun c hc => ?_
  have h := List.all_eq_true.mp h1 c hc
  rcases Bool.eq_false_or_eq_true (isCode c) with hi | hi
  · exact h2 c (List.mem_filter.mpr ⟨hc, hi⟩)
  · simpa [hi] using h
set_option maxRecDepth 65536 in
theorem w_c0 : (Jvm.Cond.code x code maxLocals ret).before args0 about1 = true := code_word (m := ⟨1, 1⟩) (meth := k1m1) (c := k1c1) (by decide +kernel) rfl rfl rfl (by decide +kernel)
set_option maxRecDepth 65536 in
theorem w_c1 : (Jvm.Cond.code ({ cls := "java/lang/String", name := "valueOf", desc := "(C)Ljava/lang/String;" } : Jvm.MethodName) jdk_42_method_139_code (1 : Nat) (Option.some (Jvm.ClassFile.FieldType.object "java/lang/String"))).before args0 about1 = true := code_word (m := ⟨7, 1⟩) (meth := k7m1) (c := k7c1) (by decide +kernel) rfl rfl rfl (by decide +kernel)
set_option maxRecDepth 65536 in
theorem w_c2 : (Jvm.Cond.code ({ cls := "java/lang/StringLatin1", name := "canEncode", desc := "(C)Z" } : Jvm.MethodName) jdk_43_method_3_code (1 : Nat) (Option.some Jvm.ClassFile.FieldType.boolean)).before args0 about1 = true := code_word (m := ⟨8, 1⟩) (meth := k8m1) (c := k8c1) (by decide +kernel) rfl rfl rfl (by decide +kernel)
set_option maxRecDepth 65536 in
theorem w_c3 : (Jvm.Cond.code ({ cls := "java/lang/StringLatin1", name := "toBytes", desc := "(C)[B" } : Jvm.MethodName) jdk_43_method_46_code (1 : Nat) (Option.some (Jvm.ClassFile.FieldType.array Jvm.ClassFile.FieldType.byte))).before args0 about1 = true := code_word (m := ⟨8, 2⟩) (meth := k8m2) (c := k8c2) (by decide +kernel) rfl rfl rfl (by decide +kernel)
set_option maxRecDepth 65536 in
theorem w_c4 : (Jvm.Cond.code ({ cls := "java/lang/String", name := "<init>", desc := "([BB)V" } : Jvm.MethodName) jdk_42_method_151_code (3 : Nat) (Option.none : Option Jvm.ClassFile.FieldType)).before args0 about1 = true := code_word (m := ⟨7, 2⟩) (meth := k7m2) (c := k7c2) (by decide +kernel) rfl rfl rfl (by decide +kernel)
set_option maxRecDepth 65536 in
theorem w_c5 : (Jvm.Cond.code ({ cls := "java/lang/Object", name := "<init>", desc := "()V" } : Jvm.MethodName) object_method_1_code (1 : Nat) (Option.none : Option Jvm.ClassFile.FieldType)).before args0 about1 = true := code_word (m := ⟨0, 0⟩) (meth := k0m0) (c := k0c0) (by decide +kernel) rfl rfl rfl (by decide +kernel)
set_option maxRecDepth 65536 in
theorem w_c6 : (Jvm.Cond.code ({ cls := "coterie/causal/Group", name := "<init>", desc := "(Ljava/lang/String;Ljava/lang/String;)V" } : Jvm.MethodName) prog_23_method_1_code (3 : Nat) (Option.none : Option Jvm.ClassFile.FieldType)).before args0 about1 = true := code_word (m := ⟨9, 0⟩) (meth := k9m0) (c := k9c0) (by decide +kernel) rfl rfl rfl (by decide +kernel)
set_option maxRecDepth 65536 in
theorem w_c7 : (Jvm.Cond.code ({ cls := "java/util/List", name := "of", desc := "()Ljava/util/List;" } : Jvm.MethodName) jdk_40_method_36_code (0 : Nat) (Option.some (Jvm.ClassFile.FieldType.object "java/util/List"))).before args0 about1 = true := code_word (m := ⟨13, 0⟩) (meth := k13m0) (c := k13c0) (by decide +kernel) rfl rfl rfl (by decide +kernel)
set_option maxRecDepth 65536 in
theorem w_c8 : (Jvm.Cond.code ({ cls := "java/util/TreeMap", name := "<init>", desc := "()V" } : Jvm.MethodName) jdk_2729_method_1_code (1 : Nat) (Option.none : Option Jvm.ClassFile.FieldType)).before args0 about1 = true := code_word (m := ⟨21, 0⟩) (meth := k21m0) (c := k21c0) (by decide +kernel) rfl rfl rfl (by decide +kernel)
set_option maxRecDepth 65536 in
theorem w_c9 : (Jvm.Cond.code ({ cls := "java/util/AbstractMap", name := "<init>", desc := "()V" } : Jvm.MethodName) jdk_71_method_1_code (1 : Nat) (Option.none : Option Jvm.ClassFile.FieldType)).before args0 about1 = true := code_word (m := ⟨16, 0⟩) (meth := k16m0) (c := k16c0) (by decide +kernel) rfl rfl rfl (by decide +kernel)
set_option maxRecDepth 65536 in
theorem w_c10 : (Jvm.Cond.code ({ cls := "java/util/HashMap", name := "<init>", desc := "()V" } : Jvm.MethodName) jdk_69_method_7_code (1 : Nat) (Option.none : Option Jvm.ClassFile.FieldType)).before args0 about1 = true := code_word (m := ⟨22, 0⟩) (meth := k22m0) (c := k22c0) (by decide +kernel) rfl rfl rfl (by decide +kernel)
set_option maxRecDepth 65536 in
theorem w_c11 : (Jvm.Cond.code ({ cls := "coterie/causal/Replicas", name := "<init>", desc := "(Ljava/lang/String;)V" } : Jvm.MethodName) prog_25_method_1_code (2 : Nat) (Option.none : Option Jvm.ClassFile.FieldType)).before args0 about1 = true := code_word (m := ⟨23, 0⟩) (meth := k23m0) (c := k23c0) (by decide +kernel) rfl rfl rfl (by decide +kernel)
set_option maxRecDepth 65536 in
theorem w_c12 : (Jvm.Cond.code ({ cls := "coterie/causal/Group", name := "flushAsked", desc := "(I)V" } : Jvm.MethodName) prog_23_method_13_code (2 : Nat) (Option.none : Option Jvm.ClassFile.FieldType)).before args0 about1 = true := code_word (m := ⟨9, 1⟩) (meth := k9m1) (c := k9c1) (by decide +kernel) rfl rfl rfl (by decide +kernel)
set_option maxRecDepth 65536 in
theorem w_c13 : (Jvm.Cond.code ({ cls := "coterie/causal/Group", name := "flushAnswered", desc := "()Z" } : Jvm.MethodName) prog_23_method_14_code (1 : Nat) (Option.some Jvm.ClassFile.FieldType.boolean)).before args0 about1 = true := code_word (m := ⟨9, 2⟩) (meth := k9m2) (c := k9c2) (by decide +kernel) rfl rfl rfl (by decide +kernel)
set_option maxRecDepth 65536 in
theorem w_c14 : (Jvm.Cond.code ({ cls := "coterie/causal/Group", name := "flushing", desc := "()Z" } : Jvm.MethodName) prog_23_method_15_code (1 : Nat) (Option.some Jvm.ClassFile.FieldType.boolean)).before args0 about1 = true := code_word (m := ⟨9, 3⟩) (meth := k9m3) (c := k9c3) (by decide +kernel) rfl rfl rfl (by decide +kernel)
def codes1 : List Jvm.Cond := [Jvm.Cond.code x code maxLocals ret, Jvm.Cond.code ({ cls := "java/lang/String", name := "valueOf", desc := "(C)Ljava/lang/String;" } : Jvm.MethodName) jdk_42_method_139_code (1 : Nat) (Option.some (Jvm.ClassFile.FieldType.object "java/lang/String")), Jvm.Cond.code ({ cls := "java/lang/StringLatin1", name := "canEncode", desc := "(C)Z" } : Jvm.MethodName) jdk_43_method_3_code (1 : Nat) (Option.some Jvm.ClassFile.FieldType.boolean), Jvm.Cond.code ({ cls := "java/lang/StringLatin1", name := "toBytes", desc := "(C)[B" } : Jvm.MethodName) jdk_43_method_46_code (1 : Nat) (Option.some (Jvm.ClassFile.FieldType.array Jvm.ClassFile.FieldType.byte)), Jvm.Cond.code ({ cls := "java/lang/String", name := "<init>", desc := "([BB)V" } : Jvm.MethodName) jdk_42_method_151_code (3 : Nat) (Option.none : Option Jvm.ClassFile.FieldType), Jvm.Cond.code ({ cls := "java/lang/Object", name := "<init>", desc := "()V" } : Jvm.MethodName) object_method_1_code (1 : Nat) (Option.none : Option Jvm.ClassFile.FieldType), Jvm.Cond.code ({ cls := "coterie/causal/Group", name := "<init>", desc := "(Ljava/lang/String;Ljava/lang/String;)V" } : Jvm.MethodName) prog_23_method_1_code (3 : Nat) (Option.none : Option Jvm.ClassFile.FieldType), Jvm.Cond.code ({ cls := "java/util/List", name := "of", desc := "()Ljava/util/List;" } : Jvm.MethodName) jdk_40_method_36_code (0 : Nat) (Option.some (Jvm.ClassFile.FieldType.object "java/util/List")), Jvm.Cond.code ({ cls := "java/util/TreeMap", name := "<init>", desc := "()V" } : Jvm.MethodName) jdk_2729_method_1_code (1 : Nat) (Option.none : Option Jvm.ClassFile.FieldType), Jvm.Cond.code ({ cls := "java/util/AbstractMap", name := "<init>", desc := "()V" } : Jvm.MethodName) jdk_71_method_1_code (1 : Nat) (Option.none : Option Jvm.ClassFile.FieldType), Jvm.Cond.code ({ cls := "java/util/HashMap", name := "<init>", desc := "()V" } : Jvm.MethodName) jdk_69_method_7_code (1 : Nat) (Option.none : Option Jvm.ClassFile.FieldType), Jvm.Cond.code ({ cls := "coterie/causal/Replicas", name := "<init>", desc := "(Ljava/lang/String;)V" } : Jvm.MethodName) prog_25_method_1_code (2 : Nat) (Option.none : Option Jvm.ClassFile.FieldType), Jvm.Cond.code ({ cls := "coterie/causal/Group", name := "flushAsked", desc := "(I)V" } : Jvm.MethodName) prog_23_method_13_code (2 : Nat) (Option.none : Option Jvm.ClassFile.FieldType), Jvm.Cond.code ({ cls := "coterie/causal/Group", name := "flushAnswered", desc := "()Z" } : Jvm.MethodName) prog_23_method_14_code (1 : Nat) (Option.some Jvm.ClassFile.FieldType.boolean), Jvm.Cond.code ({ cls := "coterie/causal/Group", name := "flushing", desc := "()Z" } : Jvm.MethodName) prog_23_method_15_code (1 : Nat) (Option.some Jvm.ClassFile.FieldType.boolean)]
set_option maxRecDepth 65536 in
theorem codes_eq : words1.filter isCode = codes1 := rfl
theorem w_codes : ∀ c ∈ words1.filter isCode, c.before args0 about1 = true := by
  rw [codes_eq]
  intro c hc
  simp only [codes1, List.mem_cons, List.not_mem_nil, or_false] at hc
  rcases hc with rfl | rfl | rfl | rfl | rfl | rfl | rfl | rfl | rfl | rfl | rfl | rfl | rfl | rfl | rfl
  · exact w_c0
  · exact w_c1
  · exact w_c2
  · exact w_c3
  · exact w_c4
  · exact w_c5
  · exact w_c6
  · exact w_c7
  · exact w_c8
  · exact w_c9
  · exact w_c10
  · exact w_c11
  · exact w_c12
  · exact w_c13
  · exact w_c14
set_option maxRecDepth 65536 in
theorem w_t1 : (words1.take 24).all (fun c => isCode c || c.before args0 about1) = true := by decide +kernel
set_option maxRecDepth 65536 in
theorem w_t2 : ((words1.drop 24).take 24).all (fun c => isCode c || c.before args0 about1) = true := by decide +kernel
set_option maxRecDepth 65536 in
theorem w_t3 : (((words1.drop 24).drop 24).take 24).all (fun c => isCode c || c.before args0 about1) = true := by decide +kernel
set_option maxRecDepth 65536 in
theorem w_t4 : ((((words1.drop 24).drop 24).drop 24).take 24).all (fun c => isCode c || c.before args0 about1) = true := by decide +kernel
set_option maxRecDepth 65536 in
theorem w_t5 : (((((words1.drop 24).drop 24).drop 24).drop 24).take 24).all (fun c => isCode c || c.before args0 about1) = true := by decide +kernel
set_option maxRecDepth 65536 in
theorem w_t6 : (((((words1.drop 24).drop 24).drop 24).drop 24).drop 24).all (fun c => isCode c || c.before args0 about1) = true := by decide +kernel
theorem w_tables : (allAtoms (Jvm.Cond.code x code maxLocals ret :: tables_1)).before args0 about1 = true := by
  rw [allAtoms_all]
  show words1.all (fun c => c.before args0 about1) = true
  refine all_split ?_ w_codes
  rw [← List.take_append_drop 24 words1, List.all_append, w_t1, ← List.take_append_drop 24 (words1.drop 24), List.all_append, w_t2, ← List.take_append_drop 24 ((words1.drop 24).drop 24), List.all_append, w_t3, ← List.take_append_drop 24 (((words1.drop 24).drop 24).drop 24), List.all_append, w_t4, ← List.take_append_drop 24 ((((words1.drop 24).drop 24).drop 24).drop 24), List.all_append, w_t5, w_t6]
  rfl
set_option maxRecDepth 65536 in
theorem w_rest : rest_1_c.before args0 about1 = true := by decide +kernel
set_option maxRecDepth 65536 in
theorem w_case : (Jvm.Cond.and given_1 narrow_1).before args0 about1 = true := by decide +kernel
theorem w_applies : (headSpec (Jvm.Cond.code x code maxLocals ret :: tables_1) room_1).applies x e0.platform about1 = true :=
  (Spec.applies_iff w_frames).mpr ⟨w_running, w_runnable, w_alone, w_named, w_hears, w_ripe, w_room, w_tables⟩
theorem atStart : AtStart classFile x code maxLocals ret World_1 tables_1 room_1 Calls_1 rest_1 Pre_1 launch0 p0 e0 about1 theMethod args0 below0 :=
  ⟨lists_1, trivial, launch0.admits_env _ _ _, launch0.least_env, fairChoices_fair.cas, fairChoices_fair.clock, w_frames, w_args, w_heap, w_applies, trivial, w_rest, w_case⟩
end start1
theorem witness_1 : WitnessClaimed_1 := ⟨start1.p0, start1.e0, start1.about1, start1.theMethod, start1.args0, start1.below0, start1.atStart⟩
end Jvm.Pilot.@@N@@
