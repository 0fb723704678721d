import JvmDerived
import JvmDerived.Pilot.@@N@@Statement
import JvmDerived.Pilot.@@N@@Code
set_option linter.unusedVariables false
set_option linter.unusedSimpArgs false
namespace Jvm.RoadKit
open Sem ClassFile Op Lib Jvm.Stand Jvm.Free Jvm.LawKit
theorem own_retI {p : Program} {l : Launch} {e : Env} {R : Room} {s : State} {m : MethodId} {args : Array Value} {below : List Frame} {meth : Method} {c : Code} {T : State} {locs : List Loc} {cells slots : Nat} (X : Stand p l e R s m args below meth c T locs cells slots) (hx : p.tables.exec = Jvm.exec) {pc : Nat} {Ls : Array Slot} {z : Int32} {rest : List Value} (hret : meth.sig.returnType = some .int) (hd : decode c.code pc = .ok (.ireturn, 1)) {fs : List Frame}
    (hl : ∀ (f : JFrame) (acts : List Action), f.method = m → f.locked = none → f.entered = [] → (doReturn e (T.setTop f) acts (some (.int z))).1 = T.setFrames fs) : Steps p.tables e below (T.setTop (mkF m pc Ls (.int z :: rest))) (T.setFrames fs) :=
  retOut X hx hret rfl (Or.inl ⟨rfl, Or.inl rfl, z, rfl⟩) hd hl
theorem own_retR {p : Program} {l : Launch} {e : Env} {R : Room} {s : State} {m : MethodId} {args : Array Value} {below : List Frame} {meth : Method} {c : Code} {T : State} {locs : List Loc} {cells slots : Nat} (X : Stand p l e R s m args below meth c T locs cells slots) (hx : p.tables.exec = Jvm.exec) {pc : Nat} {Ls : Array Slot} {w : Value} {t : FieldType} {rest : List Value} (hret : meth.sig.returnType = some t) (ht : t.isReference = true) (hw : w.isRef = true) (hd : decode c.code pc = .ok (.areturn, 1)) {fs : List Frame}
    (hl : ∀ (f : JFrame) (acts : List Action), f.method = m → f.locked = none → f.entered = [] → (doReturn e (T.setTop f) acts (some w)).1 = T.setFrames fs) : Steps p.tables e below (T.setTop (mkF m pc Ls (w :: rest))) (T.setFrames fs) :=
  retOut X hx hret (by rcases ref_cases hw with rfl | ⟨a, rfl⟩ <;> cases t <;> first | rfl | (cases ht; done)) (Or.inr (Or.inr (Or.inr (Or.inr ⟨rfl, ht, hw⟩)))) hd hl
end Jvm.RoadKit
namespace Jvm.Pilot.@@N@@
open Jvm Jvm.ClassFile Sem Op Lib Jvm.Free Jvm.Stand Jvm.LawKit Jvm.RoadKit Bundle Jvm.Pilot.@@N@@.Jvm.D
theorem own_eqv {args : Array Value} {s : State} {t : Term} {n : Int32} (h : (Jvm.Cond.eq t (.int n)).value args s none s [] = some true) : t.eval args s none [] s = some (.int n) := by
  simp only [Cond.value, Term.eval] at h; cases ht : t.eval args s none [] s with | none => simp [ht] at h | some x => cases x <;> simp [ht] at h ⊢; exact h
theorem d3_0 : decode jdk_22_method_1_code 0 = .ok (.aload_n 0, 1) := by decide +kernel
theorem d3_1 : decode jdk_22_method_1_code 1 = .ok (.invokespecial 1, 3) := by decide +kernel
theorem d3_4 : decode jdk_22_method_1_code 4 = .ok (.return_, 1) := by decide +kernel
def Q3 (Z : State) (a1 : Addr) (h0 : Heap) (n0 : Nat) (v : Option Value) (h : Heap) (L : List Loc) : Prop := v = none ∧ Fr n0 L ∧ h = h0
theorem ef_3 (m : MethodId) (x0 : Addr) : entryFrame m #[(.ref x0)] 1 = mkF m 0 #[.val (.ref x0)] [] := by first | (simp [entryFrame, mkF, argsToLocals, Value.category]; done) | rfl
theorem pnc_java_util_AbstractCollection : plainName "java/util/AbstractCollection" = true := by first | (simp [plainName, overriddenIn]; done) | decide +kernel
set_option maxRecDepth 65536 in
set_option maxHeartbeats 40000000 in
theorem rm3 (l : Launch) (Z : State) (a0 : Array Value) (hw : ∀ d ∈ tables_1, d.before a0 Z = true) (ws : List Jvm.Cond) (a1 : Addr) (h0 : Heap) (n0 : Nat) (O0 : Old Z n0 h0) :
    MetFree l (⟨"java/util/AbstractCollection", "<init>", "()V"⟩ : MethodName) (head1 (Jvm.Cond.code (⟨"java/util/AbstractCollection", "<init>", "()V"⟩ : MethodName) jdk_22_method_1_code 1 none :: ws) ({ frames := 1, cells := 0, slots := 0, locals := 12 } : Room)) (fun a U => a = #[(.ref a1)] ∧ Z.Warmed39 U.vm ∧ U.heap = h0) (fun _ _ _ _ _ => True) (fun _ U o U' => ∃ v L, o = .returned v ∧ Q3 Z a1 h0 n0 v U'.heap L ∧ FrameEnd U o U' L ({ frames := 1, cells := 0, slots := 0, locals := 12 } : Room).cells ({ frames := 1, cells := 0, slots := 0, locals := 12 } : Room).slots) := by
  refine MetFree.of_bodySF (plainFor_of_name pnc_java_util_AbstractCollection) hisR ?_
  intro p e s m args below meth c s₁ Bd hml0 hP hK
  obtain ⟨rfl, hZ, hh⟩ := hP
  have hx := Bd.exec
  have hby := Bd.bytes
  have hml : c.maxLocals = 1 := hml0
  have hown : s.vm.findClass "java/util/AbstractCollection" = some m.cls := findClass_of_methodNamed Bd.named
  have hnm := (name_of_methodNamed Bd.named Bd.method).1
  have X0 : Stand p l e ({ frames := 1, cells := 0, slots := 0, locals := 12 } : Room) s m #[(.ref a1)] below meth c s₁ [] 0 0 := Stand.of_body Bd
  have e0 : s₁.heap = h0 := by rw [← hh, Bd.state]; rfl
  have N0 := Fr.nil n0
  have Z0 : n0 ≤ h0.size := O0.1 ▸ O0.2.1
  have pre0 : ∀ t, Steps p.tables e below (s₁.setTop (mkF m 0 #[.val (.ref a1)] [])) t → Steps p.tables e below (s₁.setTop (entryFrame m #[(.ref a1)] 1)) t := fun t k => castTop (ef_3 m a1) k
  obtain ⟨T2, X2, e2, st2⟩ := initO X0 hx hZ hown (hw _ (List.mem_of_getElem? (i := 21) rfl)) (hw _ (List.mem_of_getElem? (i := 22) rfl)) (hw _ (List.mem_of_getElem? (i := 23) rfl)) e0 (g := (mkF m 1 #[.val (.ref a1)] [(.ref a1)])) rfl (by rw [hml]; rfl) rfl (hb hby d3_1) (by decide) (W := 0) (by show 2 * 0 + _ ≤ _; exact Nat.le_of_eq rfl) (by decide)
  obtain ⟨fs, hr, hrun, hended, hW, hsame⟩ := X2.leave (v := none) (fun _ => rfl)
  refine ⟨_, _, pre0 _ ?_, hrun, hended, _, _, rfl, ?_, ⟨_, rfl⟩, hW, hsame.mono (by decide) (by decide)⟩
  · show Steps p.tables e below (s₁.setTop (mkF m 0 #[.val (.ref a1)] [])) _
    refine XS.aloadN X0.here hx rfl (hb hby d3_0) rfl rfl ?_
    show Steps p.tables e below (s₁.setTop (mkF m 1 #[.val (.ref a1)] [(.ref a1)])) _
    refine st2 _ ?_
    show Steps p.tables e below (T2.setTop (mkF m 4 #[.val (.ref a1)] [])) _
    exact X2.returnOut hx Bd.returns (hb hby d3_4) hr
  · show Q3 Z a1 h0 n0 _ T2.heap _
    rw [e2]
    exact ⟨rfl, N0, rfl⟩
theorem d2_0 : decode jdk_39_method_1_code 0 = .ok (.aload_n 0, 1) := by decide +kernel
theorem d2_1 : decode jdk_39_method_1_code 1 = .ok (.invokespecial 1, 3) := by decide +kernel
theorem pd_0 : parseMethodDescriptor "()V" = some ⟨[], none⟩ := by decide +kernel
theorem d2_4 : decode jdk_39_method_1_code 4 = .ok (.aload_n 0, 1) := by decide +kernel
theorem d2_5 : decode jdk_39_method_1_code 5 = .ok (.iconst 0, 1) := by decide +kernel
theorem d2_6 : decode jdk_39_method_1_code 6 = .ok (.putfield 7, 3) := by decide +kernel
theorem d2_9 : decode jdk_39_method_1_code 9 = .ok (.return_, 1) := by decide +kernel
def Q2 (Z : State) (a1 : Addr) (u1 u2 u3 : Value) (h0 : Heap) (n0 : Nat) (v : Option Value) (h : Heap) (L : List Loc) : Prop := v = none ∧ Fr n0 L ∧ Keep h0 h [a1] ∧ Exa Z h a1 "java/util/ArrayList" ∧ Fld Z h a1 "java/util/ArrayList" "elementData" "[Ljava/lang/Object;" u2 ∧ Fld Z h a1 "java/util/AbstractList" "modCount" "I" (.int (0 : Int32)) ∧ Fld Z h a1 "java/util/ArrayList" "size" "I" u3
theorem ef_2 (m : MethodId) (x0 : Addr) : entryFrame m #[(.ref x0)] 1 = mkF m 0 #[.val (.ref x0)] [] := by first | (simp [entryFrame, mkF, argsToLocals, Value.category]; done) | rfl
theorem pnc_java_util_AbstractList : plainName "java/util/AbstractList" = true := by first | (simp [plainName, overriddenIn]; done) | decide +kernel
set_option maxRecDepth 65536 in
set_option maxHeartbeats 40000000 in
theorem rm2 (l : Launch) (Z : State) (a0 : Array Value) (hw : ∀ d ∈ tables_1, d.before a0 Z = true) (ws : List Jvm.Cond) (a1 : Addr) (u1 u2 u3 : Value) (h0 : Heap) (n0 : Nat) (O0 : Old Z n0 h0) (HE_a1 : Exa Z h0 a1 "java/util/ArrayList") (HF_a1_modCount : Fld Z h0 a1 "java/util/AbstractList" "modCount" "I" u1) (HF_a1_elementData : Fld Z h0 a1 "java/util/ArrayList" "elementData" "[Ljava/lang/Object;" u2) (HF_a1_size : Fld Z h0 a1 "java/util/ArrayList" "size" "I" u3) (g_a1 : n0 ≤ a1) :
    MetFree l (⟨"java/util/AbstractList", "<init>", "()V"⟩ : MethodName) (head1 (Jvm.Cond.code (⟨"java/util/AbstractList", "<init>", "()V"⟩ : MethodName) jdk_39_method_1_code 1 none :: ws) ({ frames := 2, cells := 0, slots := 0, locals := 24 } : Room)) (fun a U => a = #[(.ref a1)] ∧ Z.Warmed39 U.vm ∧ U.heap = h0) (fun _ _ _ _ _ => True) (fun _ U o U' => ∃ v L, o = .returned v ∧ Q2 Z a1 u1 u2 u3 h0 n0 v U'.heap L ∧ FrameEnd U o U' L ({ frames := 2, cells := 0, slots := 0, locals := 24 } : Room).cells ({ frames := 2, cells := 0, slots := 0, locals := 24 } : Room).slots) := by
  refine MetFree.of_bodySF (plainFor_of_name pnc_java_util_AbstractList) hisR ?_
  intro p e s m args below meth c s₁ Bd hml0 hP hK
  obtain ⟨rfl, hZ, hh⟩ := hP
  have hx := Bd.exec
  have hby := Bd.bytes
  have hml : c.maxLocals = 1 := hml0
  have hown : s.vm.findClass "java/util/AbstractList" = some m.cls := findClass_of_methodNamed Bd.named
  have hnm := (name_of_methodNamed Bd.named Bd.method).1
  have X0 : Stand p l e ({ frames := 2, cells := 0, slots := 0, locals := 24 } : Room) s m #[(.ref a1)] below meth c s₁ [] 0 0 := Stand.of_body Bd
  have e0 : s₁.heap = h0 := by rw [← hh, Bd.state]; rfl
  have N0 := Fr.nil n0
  have Z0 : n0 ≤ h0.size := O0.1 ▸ O0.2.1
  have pre0 : ∀ t, Steps p.tables e below (s₁.setTop (mkF m 0 #[.val (.ref a1)] [])) t → Steps p.tables e below (s₁.setTop (entryFrame m #[(.ref a1)] 1)) t := fun t k => castTop (ef_2 m a1) k
  obtain ⟨vr2, _, ⟨T2, L2, k2, n2⟩, -, X2, ⟨Lc2, hQ2, l2, y2, z2⟩, st2⟩ := X0.specialBack hx (y := (⟨"java/util/AbstractCollection", "<init>", "()V"⟩ : MethodName)) rfl hown (mvT hZ (hw _ (List.mem_of_getElem? (i := 15) rfl))) (mvT hZ (hw _ (List.mem_of_getElem? (i := 16) rfl))) (mvT hZ (hw _ (List.mem_of_getElem? (i := 20) rfl))) (by decide) (backOf (W := 0) (rm3 l Z a0 hw [] a1 h0 n0 O0) hZ (hw _ (List.mem_of_getElem? (i := 20) rfl)) (hw _ (List.mem_of_getElem? (i := 19) rfl)) (by decide) (by decide)) (g := (mkF m 1 #[.val (.ref a1)] [(.ref a1)])) rfl (by rw [hml]; rfl) (Steps.refl _) (a := a1) (argsL := []) (rest := []) (lenOf pd_0 rfl) rfl (by show 2 * 0 + _ ≤ _; exact Nat.le_of_eq rfl) (hb hby d2_1) (fun _ _ => ⟨rfl, e0, (by decide : 0 + 0 ≤ _), (by decide : 0 + 0 ≤ _)⟩)
  dsimp only [Pt.U, Pt.locs, Pt.cells, Pt.slots] at X2 l2 y2 z2 st2 hQ2
  subst l2 y2 z2
  obtain ⟨rfl, N2q, e2⟩ := hQ2
  have N2 := Fr.app N0 N2q
  replace X2 := X2.more (cells' := 0) (slots' := 0) (by decide) (by decide)
  obtain ⟨T3, h3, X3, e3, W3, st3⟩ := putF X2 hx hZ hown (host := "") (Or.inl (hw _ (List.mem_of_getElem? (i := 24) rfl))) Via.refl e2 HF_a1_modCount HE_a1 (Or.inl (hw _ (List.mem_of_getElem? (i := 25) rfl))) (hw _ (List.mem_of_getElem? (i := 4) rfl)) (ty := .int) (by decide) rfl rfl (g := (mkF m 6 #[.val (.ref a1)] [(.int (0 : Int32)), (.ref a1)])) rfl rfl (hb hby d2_6)
  have N3 := Fr.snoc X3 N2 g_a1
  have K4 : Keep h0 h3 [a1] := (Keep.refl h0 [a1]).wr W3 (Or.inl (List.mem_of_getElem? (i := 0) rfl))
  have O5 : Old Z n0 h3 := O0.wr W3 g_a1
  have Fw3 : Fld Z h3 a1 "java/util/AbstractList" "modCount" "I" (.int (0 : Int32)) := HF_a1_modCount.same W3
  have f6 := (HE_a1.wr W3)
  have f7 := (HF_a1_elementData.other W3 (Or.inr (slot_ne (Or.inl (hw _ (List.mem_of_getElem? (i := 28) rfl))) (Or.inl (hw _ (List.mem_of_getElem? (i := 25) rfl))) (by decide) (t := (.array (.object "java/lang/Object"))) (t' := .int) (by decide) (by decide))))
  have f8 := (HF_a1_size.other W3 (Or.inr (slot_ne (Or.inl (hw _ (List.mem_of_getElem? (i := 41) rfl))) (Or.inl (hw _ (List.mem_of_getElem? (i := 25) rfl))) (by decide) (t := .int) (t' := .int) (by decide) (by decide))))
  obtain ⟨fs, hr, hrun, hended, hW, hsame⟩ := X3.leave (v := none) (fun _ => rfl)
  refine ⟨_, _, pre0 _ ?_, hrun, hended, _, _, rfl, ?_, ⟨_, rfl⟩, hW, hsame.mono (by decide) (by decide)⟩
  · show Steps p.tables e below (s₁.setTop (mkF m 0 #[.val (.ref a1)] [])) _
    refine XS.aloadN X0.here hx rfl (hb hby d2_0) rfl rfl ?_
    show Steps p.tables e below (s₁.setTop (mkF m 1 #[.val (.ref a1)] [(.ref a1)])) _
    refine st2.trans ?_
    show Steps p.tables e below (T2.setTop (mkF m 4 #[.val (.ref a1)] [])) _
    refine XS.aloadN X2.here hx rfl (hb hby d2_4) rfl rfl ?_
    show Steps p.tables e below (T2.setTop (mkF m 5 #[.val (.ref a1)] [(.ref a1)])) _
    refine XS.iconst X2.here hx rfl (hb hby d2_5) ?_
    show Steps p.tables e below (T2.setTop (mkF m 6 #[.val (.ref a1)] [(.int (0 : Int32)), (.ref a1)])) _
    refine st3 _ ?_
    show Steps p.tables e below (T3.setTop (mkF m 9 #[.val (.ref a1)] [])) _
    exact X3.returnOut hx Bd.returns (hb hby d2_9) hr
  · show Q2 Z a1 u1 u2 u3 h0 n0 _ T3.heap _
    rw [e3]
    exact ⟨rfl, N3, K4, f6, f7, Fw3, f8⟩
theorem d1_0 : decode jdk_38_method_2_code 0 = .ok (.aload_n 0, 1) := by decide +kernel
theorem d1_1 : decode jdk_38_method_2_code 1 = .ok (.invokespecial 1, 3) := by decide +kernel
theorem d1_4 : decode jdk_38_method_2_code 4 = .ok (.aload_n 0, 1) := by decide +kernel
theorem d1_5 : decode jdk_38_method_2_code 5 = .ok (.getstatic 39, 3) := by decide +kernel
theorem d1_8 : decode jdk_38_method_2_code 8 = .ok (.putfield 9, 3) := by decide +kernel
theorem d1_11 : decode jdk_38_method_2_code 11 = .ok (.return_, 1) := by decide +kernel
def Q1 (Z : State) (a1 : Addr) (u1 u2 u3 : Value) (w5 : Addr) (h0 : Heap) (n0 : Nat) (v : Option Value) (h : Heap) (L : List Loc) : Prop := v = none ∧ Fr n0 L ∧ Keep h0 h [a1] ∧ Exa Z h a1 "java/util/ArrayList" ∧ Fld Z h a1 "java/util/ArrayList" "elementData" "[Ljava/lang/Object;" (.ref w5) ∧ Fld Z h a1 "java/util/AbstractList" "modCount" "I" (.int (0 : Int32)) ∧ Fld Z h a1 "java/util/ArrayList" "size" "I" u3
theorem ef_1 (m : MethodId) (x0 : Addr) : entryFrame m #[(.ref x0)] 1 = mkF m 0 #[.val (.ref x0)] [] := by first | (simp [entryFrame, mkF, argsToLocals, Value.category]; done) | rfl
theorem pnc_java_util_ArrayList : plainName "java/util/ArrayList" = true := by first | (simp [plainName, overriddenIn]; done) | decide +kernel
set_option maxRecDepth 65536 in
set_option maxHeartbeats 40000000 in
theorem rm1 (l : Launch) (Z : State) (a0 : Array Value) (hw : ∀ d ∈ tables_1, d.before a0 Z = true) (ws : List Jvm.Cond) (a1 : Addr) (u1 u2 u3 : Value) (w5 : Addr) (h0 : Heap) (n0 : Nat) (O0 : Old Z n0 h0) (HE_a1 : Exa Z h0 a1 "java/util/ArrayList") (HF_a1_modCount : Fld Z h0 a1 "java/util/AbstractList" "modCount" "I" u1) (HF_a1_elementData : Fld Z h0 a1 "java/util/ArrayList" "elementData" "[Ljava/lang/Object;" u2) (HF_a1_size : Fld Z h0 a1 "java/util/ArrayList" "size" "I" u3) (g_a1 : n0 ≤ a1) (S_DEFAULTCAPACITY_EMPTY_ELEMENTDATA : Sta Z Z.heap "java/util/ArrayList" "DEFAULTCAPACITY_EMPTY_ELEMENTDATA" "[Ljava/lang/Object;" (.ref w5)) :
    MetFree l (⟨"java/util/ArrayList", "<init>", "()V"⟩ : MethodName) (head1 (Jvm.Cond.code (⟨"java/util/ArrayList", "<init>", "()V"⟩ : MethodName) jdk_38_method_2_code 1 none :: ws) ({ frames := 3, cells := 0, slots := 0, locals := 36 } : Room)) (fun a U => a = #[(.ref a1)] ∧ Z.Warmed39 U.vm ∧ U.heap = h0) (fun _ _ _ _ _ => True) (fun _ U o U' => ∃ v L, o = .returned v ∧ Q1 Z a1 u1 u2 u3 w5 h0 n0 v U'.heap L ∧ FrameEnd U o U' L ({ frames := 3, cells := 0, slots := 0, locals := 36 } : Room).cells ({ frames := 3, cells := 0, slots := 0, locals := 36 } : Room).slots) := by
  refine MetFree.of_bodySF (plainFor_of_name pnc_java_util_ArrayList) hisR ?_
  intro p e s m args below meth c s₁ Bd hml0 hP hK
  obtain ⟨rfl, hZ, hh⟩ := hP
  have hx := Bd.exec
  have hby := Bd.bytes
  have hml : c.maxLocals = 1 := hml0
  have hown : s.vm.findClass "java/util/ArrayList" = some m.cls := findClass_of_methodNamed Bd.named
  have hnm := (name_of_methodNamed Bd.named Bd.method).1
  have X0 : Stand p l e ({ frames := 3, cells := 0, slots := 0, locals := 36 } : Room) s m #[(.ref a1)] below meth c s₁ [] 0 0 := Stand.of_body Bd
  have e0 : s₁.heap = h0 := by rw [← hh, Bd.state]; rfl
  have N0 := Fr.nil n0
  have Z0 : n0 ≤ h0.size := O0.1 ▸ O0.2.1
  have pre0 : ∀ t, Steps p.tables e below (s₁.setTop (mkF m 0 #[.val (.ref a1)] [])) t → Steps p.tables e below (s₁.setTop (entryFrame m #[(.ref a1)] 1)) t := fun t k => castTop (ef_1 m a1) k
  obtain ⟨vr2, _, ⟨T2, L2, k2, n2⟩, -, X2, ⟨Lc2, hQ2, l2, y2, z2⟩, st2⟩ := X0.specialBack hx (y := (⟨"java/util/AbstractList", "<init>", "()V"⟩ : MethodName)) rfl hown (mvT hZ (hw _ (List.mem_of_getElem? (i := 9) rfl))) (mvT hZ (hw _ (List.mem_of_getElem? (i := 10) rfl))) (mvT hZ (hw _ (List.mem_of_getElem? (i := 14) rfl))) (by decide) (backOf (W := 0) (rm2 l Z a0 hw [] a1 u1 u2 u3 h0 n0 O0 HE_a1 HF_a1_modCount HF_a1_elementData HF_a1_size g_a1) hZ (hw _ (List.mem_of_getElem? (i := 14) rfl)) (hw _ (List.mem_of_getElem? (i := 13) rfl)) (by decide) (by decide)) (g := (mkF m 1 #[.val (.ref a1)] [(.ref a1)])) rfl (by rw [hml]; rfl) (Steps.refl _) (a := a1) (argsL := []) (rest := []) (lenOf pd_0 rfl) rfl (by show 2 * 0 + _ ≤ _; exact Nat.le_of_eq rfl) (hb hby d1_1) (fun _ _ => ⟨rfl, e0, (by decide : 0 + 0 ≤ _), (by decide : 0 + 0 ≤ _)⟩)
  dsimp only [Pt.U, Pt.locs, Pt.cells, Pt.slots] at X2 l2 y2 z2 st2 hQ2
  subst l2 y2 z2
  obtain ⟨rfl, N2q, K2, Y2_0, Y2_1, Y2_2, Y2_3⟩ := hQ2
  have N2 := Fr.app N0 N2q
  replace X2 := X2.more (cells' := 0) (slots' := 0) (by decide) (by decide)
  have K3 : Keep h0 T2.heap [a1] := (Keep.refl h0 [a1]).trans K2 (allS (Or.inl (List.mem_of_getElem? (i := 0) rfl)) all0)
  have O4 : Old Z n0 T2.heap := O0.keep K2 (allS g_a1 all0)
  obtain ⟨T6, X6, e6, st6⟩ := getS2 X2 hx hZ hown (host := "") (Or.inl (hw _ (List.mem_of_getElem? (i := 26) rfl))) Via.refl rfl (S_DEFAULTCAPACITY_EMPTY_ELEMENTDATA.ext O4.2) (g := (mkF m 5 #[.val (.ref a1)] [(.ref a1)])) rfl (hb hby d1_5)
  obtain ⟨T7, h7, X7, e7, W7, st7⟩ := putF X6 hx hZ hown (host := "") (Or.inl (hw _ (List.mem_of_getElem? (i := 27) rfl))) Via.refl e6 Y2_1 Y2_0 (Or.inl (hw _ (List.mem_of_getElem? (i := 28) rfl))) (hw _ (List.mem_of_getElem? (i := 4) rfl)) (ty := (.array (.object "java/lang/Object"))) (by decide) rfl rfl (g := (mkF m 8 #[.val (.ref a1)] [(.ref w5), (.ref a1)])) rfl rfl (hb hby d1_8)
  have N7 := Fr.snoc X7 N2 g_a1
  have K8 : Keep h0 h7 [a1] := K3.wr W7 (Or.inl (List.mem_of_getElem? (i := 0) rfl))
  have O9 : Old Z n0 h7 := O4.wr W7 g_a1
  have Fw7 : Fld Z h7 a1 "java/util/ArrayList" "elementData" "[Ljava/lang/Object;" (.ref w5) := Y2_1.same W7
  have f10 := (Y2_0.wr W7)
  have f11 := (Y2_2.other W7 (Or.inr (slot_ne (Or.inl (hw _ (List.mem_of_getElem? (i := 25) rfl))) (Or.inl (hw _ (List.mem_of_getElem? (i := 28) rfl))) (by decide) (t := .int) (t' := (.array (.object "java/lang/Object"))) (by decide) (by decide))))
  have f12 := (Y2_3.other W7 (Or.inr (slot_ne (Or.inl (hw _ (List.mem_of_getElem? (i := 41) rfl))) (Or.inl (hw _ (List.mem_of_getElem? (i := 28) rfl))) (by decide) (t := .int) (t' := (.array (.object "java/lang/Object"))) (by decide) (by decide))))
  obtain ⟨fs, hr, hrun, hended, hW, hsame⟩ := X7.leave (v := none) (fun _ => rfl)
  refine ⟨_, _, pre0 _ ?_, hrun, hended, _, _, rfl, ?_, ⟨_, rfl⟩, hW, hsame.mono (by decide) (by decide)⟩
  · show Steps p.tables e below (s₁.setTop (mkF m 0 #[.val (.ref a1)] [])) _
    refine XS.aloadN X0.here hx rfl (hb hby d1_0) rfl rfl ?_
    show Steps p.tables e below (s₁.setTop (mkF m 1 #[.val (.ref a1)] [(.ref a1)])) _
    refine st2.trans ?_
    show Steps p.tables e below (T2.setTop (mkF m 4 #[.val (.ref a1)] [])) _
    refine XS.aloadN X2.here hx rfl (hb hby d1_4) rfl rfl ?_
    show Steps p.tables e below (T2.setTop (mkF m 5 #[.val (.ref a1)] [(.ref a1)])) _
    refine st6 _ ?_
    show Steps p.tables e below (T6.setTop (mkF m 8 #[.val (.ref a1)] [(.ref w5), (.ref a1)])) _
    refine st7 _ ?_
    show Steps p.tables e below (T7.setTop (mkF m 11 #[.val (.ref a1)] [])) _
    exact X7.returnOut hx Bd.returns (hb hby d1_11) hr
  · show Q1 Z a1 u1 u2 u3 w5 h0 n0 _ T7.heap _
    rw [e7]
    exact ⟨rfl, N7, K8, f10, Fw7, f11, f12⟩
theorem d9_0 : decode jdk_29_method_65_code 0 = .ok (.iload_n 0, 1) := by decide +kernel
theorem d9_1 : decode jdk_29_method_65_code 1 = .ok (.iload_n 1, 1) := by decide +kernel
theorem d9_2 : decode jdk_29_method_65_code 2 = .ok (.if_icmp .lt 7, 3) := by decide +kernel
theorem d9_5 : decode jdk_29_method_65_code 5 = .ok (.iload_n 0, 1) := by decide +kernel
theorem d9_6 : decode jdk_29_method_65_code 6 = .ok (.goto 4, 3) := by decide +kernel
theorem d9_10 : decode jdk_29_method_65_code 10 = .ok (.ireturn, 1) := by decide +kernel
def Q9 (Z : State) (p1 p2 : Int32) (h0 : Heap) (n0 : Nat) (v : Option Value) (h : Heap) (L : List Loc) : Prop := v = some (.int p1) ∧ Fr n0 L ∧ h = h0
theorem ef_9 (m : MethodId) (x0 : Int32) (x1 : Int32) : entryFrame m #[(.int x0), (.int x1)] 2 = mkF m 0 #[.val (.int x0), .val (.int x1)] [] := by first | (simp [entryFrame, mkF, argsToLocals, Value.category]; done) | rfl
set_option maxRecDepth 65536 in
set_option maxHeartbeats 40000000 in
theorem rm9 (l : Launch) (Z : State) (a0 : Array Value) (hw : ∀ d ∈ tables_1, d.before a0 Z = true) (ws : List Jvm.Cond) (p1 p2 : Int32) (h0 : Heap) (n0 : Nat) (O0 : Old Z n0 h0) (hc2 : ¬ (p1 < p2)) :
    MetFree l (⟨"java/lang/Math", "max", "(II)I"⟩ : MethodName) (head1 (Jvm.Cond.code (⟨"java/lang/Math", "max", "(II)I"⟩ : MethodName) jdk_29_method_65_code 2 (some .int) :: ws) ({ frames := 0, cells := 0, slots := 0, locals := 0 } : Room)) (fun a U => a = #[(.int p1), (.int p2)] ∧ Z.Warmed39 U.vm ∧ U.heap = h0) (fun _ _ _ _ _ => True) (fun _ U o U' => ∃ v L, o = .returned v ∧ Q9 Z p1 p2 h0 n0 v U'.heap L ∧ FrameEnd U o U' L ({ frames := 0, cells := 0, slots := 0, locals := 0 } : Room).cells ({ frames := 0, cells := 0, slots := 0, locals := 0 } : Room).slots) := by
  refine MetFree.of_bodySF (Jvm.Free.JP.mathPlain rfl (by decide +kernel)) hisR ?_
  intro p e s m args below meth c s₁ Bd hml0 hP hK
  obtain ⟨rfl, hZ, hh⟩ := hP
  have hx := Bd.exec
  have hby := Bd.bytes
  have hml : c.maxLocals = 2 := hml0
  have hown : s.vm.findClass "java/lang/Math" = some m.cls := findClass_of_methodNamed Bd.named
  have hnm := (name_of_methodNamed Bd.named Bd.method).1
  have X0 : Stand p l e ({ frames := 0, cells := 0, slots := 0, locals := 0 } : Room) s m #[(.int p1), (.int p2)] below meth c s₁ [] 0 0 := Stand.of_body Bd
  have e0 : s₁.heap = h0 := by rw [← hh, Bd.state]; rfl
  have N0 := Fr.nil n0
  have Z0 : n0 ≤ h0.size := O0.1 ▸ O0.2.1
  have pre0 : ∀ t, Steps p.tables e below (s₁.setTop (mkF m 0 #[.val (.int p1), .val (.int p2)] [])) t → Steps p.tables e below (s₁.setTop (entryFrame m #[(.int p1), (.int p2)] 2)) t := fun t k => castTop (ef_9 m p1 p2) k
  obtain ⟨fs, hr, hrun, hended, hW, hsame⟩ := X0.leave (v := some (.int p1)) (fun h => by rw [Bd.returns] at h; cases h)
  refine ⟨_, _, pre0 _ ?_, hrun, hended, _, _, rfl, ?_, ⟨_, rfl⟩, hW, hsame.mono (by decide) (by decide)⟩
  · show Steps p.tables e below (s₁.setTop (mkF m 0 #[.val (.int p1), .val (.int p2)] [])) _
    refine XS.iloadN X0.here hx rfl (hb hby d9_0) rfl ?_
    show Steps p.tables e below (s₁.setTop (mkF m 1 #[.val (.int p1), .val (.int p2)] [(.int p1)])) _
    refine XS.iloadN X0.here hx rfl (hb hby d9_1) rfl ?_
    show Steps p.tables e below (s₁.setTop (mkF m 2 #[.val (.int p1), .val (.int p2)] [(.int p2), (.int p1)])) _
    refine XS.icmpNo X0.here hx rfl (hb hby d9_2) rfl (flt hc2).1 ?_
    show Steps p.tables e below (s₁.setTop (mkF m 5 #[.val (.int p1), .val (.int p2)] [])) _
    refine XS.iloadN X0.here hx rfl (hb hby d9_5) rfl ?_
    show Steps p.tables e below (s₁.setTop (mkF m 6 #[.val (.int p1), .val (.int p2)] [(.int p1)])) _
    refine XS.goto X0.here hx rfl (pc0 := 6) (pc' := 10) rfl (hb hby d9_6) (by decide) (by decide) ?_
    show Steps p.tables e below (s₁.setTop (mkF m 10 #[.val (.int p1), .val (.int p2)] [(.int p1)])) _
    exact own_retI X0 hx Bd.returns (hb hby d9_10) hr
  · show Q9 Z p1 p2 h0 n0 _ s₁.heap _
    rw [e0]
    exact ⟨rfl, N0, rfl⟩
theorem d8_0 : decode jdk_38_method_6_code 0 = .ok (.aload_n 0, 1) := by decide +kernel
theorem d8_1 : decode jdk_38_method_6_code 1 = .ok (.getfield 9, 3) := by decide +kernel
theorem d8_4 : decode jdk_38_method_6_code 4 = .ok (.arraylength, 1) := by decide +kernel
theorem d8_5 : decode jdk_38_method_6_code 5 = .ok (.istore_n 2, 1) := by decide +kernel
theorem d8_6 : decode jdk_38_method_6_code 6 = .ok (.iload_n 2, 1) := by decide +kernel
theorem d8_7 : decode jdk_38_method_6_code 7 = .ok (.ifCond .gt 13, 3) := by decide +kernel
theorem d8_10 : decode jdk_38_method_6_code 10 = .ok (.aload_n 0, 1) := by decide +kernel
theorem d8_11 : decode jdk_38_method_6_code 11 = .ok (.getfield 9, 3) := by decide +kernel
theorem d8_14 : decode jdk_38_method_6_code 14 = .ok (.getstatic 39, 3) := by decide +kernel
theorem d8_17 : decode jdk_38_method_6_code 17 = .ok (.if_acmp .eq 28, 3) := by decide +kernel
theorem d8_45 : decode jdk_38_method_6_code 45 = .ok (.aload_n 0, 1) := by decide +kernel
theorem d8_46 : decode jdk_38_method_6_code 46 = .ok (.bipush 10, 2) := by decide +kernel
theorem d8_48 : decode jdk_38_method_6_code 48 = .ok (.iload_n 1, 1) := by decide +kernel
theorem d8_49 : decode jdk_38_method_6_code 49 = .ok (.invokestatic 79, 3) := by decide +kernel
theorem pd_9 : parseMethodDescriptor "(II)I" = some ⟨[.int, .int], some .int⟩ := by decide +kernel
theorem d8_52 : decode jdk_38_method_6_code 52 = .ok (.anewarray 7, 3) := by decide +kernel
theorem d8_55 : decode jdk_38_method_6_code 55 = .ok (.dup_x1, 1) := by decide +kernel
theorem d8_56 : decode jdk_38_method_6_code 56 = .ok (.putfield 9, 3) := by decide +kernel
theorem d8_59 : decode jdk_38_method_6_code 59 = .ok (.areturn, 1) := by decide +kernel
def Q8 (Z : State) (a1 : Addr) (p0 : Int32) (w0 : Addr) (k0 : ClassId) (h0 : Heap) (n0 : Nat) (v : Option Value) (h : Heap) (L : List Loc) : Prop := ∃ b7 : Addr, ∃ k7 : ClassId, v = some (.ref b7) ∧ Fr n0 L ∧ Keep h0 h [a1] ∧ h0.size ≤ b7 ∧ Exa Z h a1 "java/util/ArrayList" ∧ Fld Z h a1 "java/util/ArrayList" "elementData" "[Ljava/lang/Object;" (.ref b7) ∧ Fld Z h a1 "java/util/AbstractList" "modCount" "I" (.int p0) ∧ Fld Z h a1 "java/util/ArrayList" "size" "I" (.int (0 : Int32)) ∧ Exa Z h b7 "[Ljava/lang/Object;" ∧ Arv Z h b7 k7 (.object "java/lang/Object") (10 : Int32) [.null, .null, .null, .null, .null, .null, .null, .null, .null, .null] .null ∧ Ovr Z k7 "java/lang/Object"
theorem ef_8a__1___Int32__ (m : MethodId) (x0 : Addr) : entryFrame m #[(.ref x0), (.int (1 : Int32))] 4 = mkF m 0 #[.val (.ref x0), .val (.int (1 : Int32)), .unset, .unset] [] := by first | (simp [entryFrame, mkF, argsToLocals, Value.category]; done) | rfl
set_option maxRecDepth 65536 in
set_option maxHeartbeats 40000000 in
theorem rm8 (l : Launch) (Z : State) (a0 : Array Value) (hw : ∀ d ∈ tables_1, d.before a0 Z = true) (ws : List Jvm.Cond) (a1 : Addr) (p0 : Int32) (w0 : Addr) (k0 : ClassId) (h0 : Heap) (n0 : Nat) (O0 : Old Z n0 h0) (HE_a1 : Exa Z h0 a1 "java/util/ArrayList") (HF_a1_modCount : Fld Z h0 a1 "java/util/AbstractList" "modCount" "I" (.int p0)) (HF_a1_elementData : Fld Z h0 a1 "java/util/ArrayList" "elementData" "[Ljava/lang/Object;" (.ref w0)) (HF_a1_size : Fld Z h0 a1 "java/util/ArrayList" "size" "I" (.int (0 : Int32))) (HV_w0 : Arv Z h0 w0 k0 (.object "java/lang/Object") (0 : Int32) [] .null) (S_DEFAULTCAPACITY_EMPTY_ELEMENTDATA : Sta Z Z.heap "java/util/ArrayList" "DEFAULTCAPACITY_EMPTY_ELEMENTDATA" "[Ljava/lang/Object;" (.ref w0)) (g_a1 : n0 ≤ a1) :
    MetFree l (⟨"java/util/ArrayList", "grow", "(I)[Ljava/lang/Object;"⟩ : MethodName) (head1 (Jvm.Cond.code (⟨"java/util/ArrayList", "grow", "(I)[Ljava/lang/Object;"⟩ : MethodName) jdk_38_method_6_code 4 (some (.array (.object "java/lang/Object"))) :: ws) ({ frames := 1, cells := 1, slots := 10, locals := 14 } : Room)) (fun a U => a = #[(.ref a1), (.int (1 : Int32))] ∧ Z.Warmed39 U.vm ∧ U.heap = h0) (fun _ _ _ _ _ => True) (fun _ U o U' => ∃ v L, o = .returned v ∧ Q8 Z a1 p0 w0 k0 h0 n0 v U'.heap L ∧ FrameEnd U o U' L ({ frames := 1, cells := 1, slots := 10, locals := 14 } : Room).cells ({ frames := 1, cells := 1, slots := 10, locals := 14 } : Room).slots) := by
  refine MetFree.of_bodySF (plainFor_of_name pnc_java_util_ArrayList) hisR ?_
  intro p e s m args below meth c s₁ Bd hml0 hP hK
  obtain ⟨rfl, hZ, hh⟩ := hP
  have hx := Bd.exec
  have hby := Bd.bytes
  have hml : c.maxLocals = 4 := hml0
  have hown : s.vm.findClass "java/util/ArrayList" = some m.cls := findClass_of_methodNamed Bd.named
  have hnm := (name_of_methodNamed Bd.named Bd.method).1
  have X0 : Stand p l e ({ frames := 1, cells := 1, slots := 10, locals := 14 } : Room) s m #[(.ref a1), (.int (1 : Int32))] below meth c s₁ [] 0 0 := Stand.of_body Bd
  have e0 : s₁.heap = h0 := by rw [← hh, Bd.state]; rfl
  have N0 := Fr.nil n0
  have Z0 : n0 ≤ h0.size := O0.1 ▸ O0.2.1
  have pre0 : ∀ t, Steps p.tables e below (s₁.setTop (mkF m 0 #[.val (.ref a1), .val (.int (1 : Int32)), .unset, .unset] [])) t → Steps p.tables e below (s₁.setTop (entryFrame m #[(.ref a1), (.int (1 : Int32))] 4)) t := fun t k => castTop (ef_8a__1___Int32__ m a1) k
  obtain ⟨T2, X2, e2, st2⟩ := getF X0 hx hZ hown (host := "") (Or.inl (hw _ (List.mem_of_getElem? (i := 27) rfl))) Via.refl e0 HF_a1_elementData (g := (mkF m 1 #[.val (.ref a1), .val (.int (1 : Int32)), .unset, .unset] [(.ref a1)])) rfl rfl (hb hby d8_1)
  obtain ⟨cl3, Ar3, q3, S3, Nn3, Hh3, G3⟩ := id HV_w0
  obtain ⟨T4, X4, e4, st4⟩ := getF X2 hx hZ hown (host := "") (Or.inl (hw _ (List.mem_of_getElem? (i := 27) rfl))) Via.refl e2 HF_a1_elementData (g := (mkF m 11 #[.val (.ref a1), .val (.int (1 : Int32)), .val (.int (0 : Int32)), .unset] [(.ref a1)])) rfl rfl (hb hby d8_11)
  obtain ⟨T5, X5, e5, st5⟩ := getS2 X4 hx hZ hown (host := "") (Or.inl (hw _ (List.mem_of_getElem? (i := 26) rfl))) Via.refl e4 (S_DEFAULTCAPACITY_EMPTY_ELEMENTDATA.ext O0.2) (g := (mkF m 14 #[.val (.ref a1), .val (.int (1 : Int32)), .val (.int (0 : Int32)), .unset] [(.ref w0)])) rfl (hb hby d8_14)
  obtain ⟨vr6, _, ⟨T6, L6, k6, n6⟩, -, X6, ⟨Lc6, hQ6, l6, y6, z6⟩, st6⟩ := Jvm.LawKit.callS X5 hx (y := (⟨"java/lang/Math", "max", "(II)I"⟩ : MethodName)) hown (mvT hZ (hw _ (List.mem_of_getElem? (i := 57) rfl))) (mvT hZ (hw _ (List.mem_of_getElem? (i := 58) rfl))) (mvT hZ (hw _ (List.mem_of_getElem? (i := 59) rfl))) (mvT hZ (hw _ (List.mem_of_getElem? (i := 60) rfl))) (by decide) (backOf (W := 1) (rm9 l Z a0 hw [] ((10 : Int32)) ((1 : Int32)) h0 n0 O0 (by decide : ¬ ((10 : Int32) < (1 : Int32)))) hZ (hw _ (List.mem_of_getElem? (i := 60) rfl)) (hw _ (List.mem_of_getElem? (i := 59) rfl)) (by decide) (by decide)) (g := (mkF m 49 #[.val (.ref a1), .val (.int (1 : Int32)), .val (.int (0 : Int32)), .unset] [(.int (1 : Int32)), (.int (10 : Int32)), (.ref a1)])) rfl (by rw [hml]; rfl) (argsL := [(.int (10 : Int32)), (.int (1 : Int32))]) (rest := [(.ref a1)]) (lenOf pd_9 rfl) rfl (by show 2 * 0 + _ ≤ _; exact Nat.le_of_eq rfl) (hb hby d8_49) (fun _ _ => ⟨rfl, e5, (by decide : 0 + 0 ≤ _), (by decide : 0 + 0 ≤ _)⟩)
  dsimp only [Pt.U, Pt.locs, Pt.cells, Pt.slots] at X6 l6 y6 z6 st6 hQ6
  subst l6 y6 z6
  obtain ⟨rfl, N6q, e6⟩ := hQ6
  have N6 := Fr.app N0 N6q
  replace X6 := X6.more (cells' := 0) (slots' := 0) (by decide) (by decide)
  obtain ⟨T7, h7, k7, X7, e7, E7, A7, B7, Ov7, st7⟩ := newRE X6 hx hZ hown (hw _ (List.mem_of_getElem? (i := 61) rfl)) (hw _ (List.mem_of_getElem? (i := 62) rfl)) e6 (g := (mkF m 52 #[.val (.ref a1), .val (.int (1 : Int32)), .val (.int (0 : Int32)), .unset] [(.int (10 : Int32)), (.ref a1)])) rfl (hb hby d8_52) rfl (by decide) (cap := 10) (by decide) (by decide) (by decide) (by decide) (ad := "[Ljava/lang/Object;") (by decide)
  obtain ⟨b7, g7⟩ : ∃ z, z = h0.size := ⟨_, rfl⟩
  rw [← g7] at A7 B7 st7
  have g_b7 : n0 ≤ b7 := Nat.le_trans (Nat.le_trans Z0 (Keep.refl h0 [a1]).1) (Nat.le_of_eq g7.symm)
  have sz_b7 : h0.size ≤ b7 := Nat.le_trans (Keep.refl h0 [a1]).1 (Nat.le_of_eq g7.symm)
  have K8 : Keep h0 h7 [a1] := (Keep.refl h0 [a1]).ext E7
  have O9 : Old Z n0 h7 := O0.ext E7
  have V7 : Arv Z h7 b7 k7 (.object "java/lang/Object") (10 : Int32) [.null, .null, .null, .null, .null, .null, .null, .null, .null, .null] .null := (Arv.new A7 (by decide)).pad (pad_rep [] .null 10)
  replace X7 := X7.more (cells' := 1) (slots' := 10) (by decide) (by decide)
  have f10 := (HE_a1.ext E7)
  have f11 := (HF_a1_elementData.ext E7)
  obtain ⟨T12, h12, X12, e12, W12, st12⟩ := putF X7 hx hZ hown (host := "") (Or.inl (hw _ (List.mem_of_getElem? (i := 27) rfl))) Via.refl e7 f11 f10 (Or.inl (hw _ (List.mem_of_getElem? (i := 28) rfl))) (hw _ (List.mem_of_getElem? (i := 4) rfl)) (ty := (.array (.object "java/lang/Object"))) (by decide) rfl rfl (g := (mkF m 56 #[.val (.ref a1), .val (.int (1 : Int32)), .val (.int (0 : Int32)), .unset] [(.ref b7), (.ref a1), (.ref b7)])) rfl rfl (hb hby d8_56)
  have N12 := Fr.snoc X12 N6 g_a1
  have K13 : Keep h0 h12 [a1] := K8.wr W12 (Or.inl (List.mem_of_getElem? (i := 0) rfl))
  have O14 : Old Z n0 h12 := O9.wr W12 g_a1
  have Fw12 : Fld Z h12 a1 "java/util/ArrayList" "elementData" "[Ljava/lang/Object;" (.ref b7) := f11.same W12
  have f15 := (f10.wr W12)
  have f16 := ((HF_a1_modCount.ext E7).other W12 (Or.inr (slot_ne (Or.inl (hw _ (List.mem_of_getElem? (i := 25) rfl))) (Or.inl (hw _ (List.mem_of_getElem? (i := 28) rfl))) (by decide) (t := .int) (t' := (.array (.object "java/lang/Object"))) (by decide) (by decide))))
  have f17 := ((HF_a1_size.ext E7).other W12 (Or.inr (slot_ne (Or.inl (hw _ (List.mem_of_getElem? (i := 41) rfl))) (Or.inl (hw _ (List.mem_of_getElem? (i := 28) rfl))) (by decide) (t := .int) (t' := (.array (.object "java/lang/Object"))) (by decide) (by decide))))
  have f18 := (B7.wr W12)
  have f19 := (V7.other W12 (Ne.symm (Nat.ne_of_lt (Nat.lt_of_lt_of_le HE_a1.lt (Nat.le_of_eq g7.symm)))))
  have f20 := Ov7
  obtain ⟨fs, hr, hrun, hended, hW, hsame⟩ := X12.leave (v := some (.ref b7)) (fun h => by rw [Bd.returns] at h; cases h)
  refine ⟨_, _, pre0 _ ?_, hrun, hended, _, _, rfl, ?_, ⟨_, rfl⟩, hW, hsame.mono (by decide) (by decide)⟩
  · show Steps p.tables e below (s₁.setTop (mkF m 0 #[.val (.ref a1), .val (.int (1 : Int32)), .unset, .unset] [])) _
    refine XS.aloadN X0.here hx rfl (hb hby d8_0) rfl rfl ?_
    show Steps p.tables e below (s₁.setTop (mkF m 1 #[.val (.ref a1), .val (.int (1 : Int32)), .unset, .unset] [(.ref a1)])) _
    refine st2 _ ?_
    show Steps p.tables e below (T2.setTop (mkF m 4 #[.val (.ref a1), .val (.int (1 : Int32)), .unset, .unset] [(.ref w0)])) _
    refine X2.arraylength hx (by rw [e2]; exact Ar3.1) (State.isArrayOf_alike hZ.alike Ar3.2.1) (g := (mkF m 4 #[.val (.ref a1), .val (.int (1 : Int32)), .unset, .unset] [(.ref w0)])) rfl rfl (hb hby d8_4) _ ?_
    rw [len_of S3 Nn3]
    show Steps p.tables e below (T2.setTop (mkF m 5 #[.val (.ref a1), .val (.int (1 : Int32)), .unset, .unset] [(.int (0 : Int32))])) _
    refine XS.istoreN X2.here hx rfl (hb hby d8_5) rfl (l' := #[.val (.ref a1), .val (.int (1 : Int32)), .val (.int (0 : Int32)), .unset]) rfl ?_
    show Steps p.tables e below (T2.setTop (mkF m 6 #[.val (.ref a1), .val (.int (1 : Int32)), .val (.int (0 : Int32)), .unset] [])) _
    refine XS.iloadN X2.here hx rfl (hb hby d8_6) rfl ?_
    show Steps p.tables e below (T2.setTop (mkF m 7 #[.val (.ref a1), .val (.int (1 : Int32)), .val (.int (0 : Int32)), .unset] [(.int (0 : Int32))])) _
    refine XS.ifNo X2.here hx rfl (hb hby d8_7) rfl ((if0 _ _).trans (flt (by decide : ¬ ((0 : Int32) < (0 : Int32)))).2.2.1) ?_
    show Steps p.tables e below (T2.setTop (mkF m 10 #[.val (.ref a1), .val (.int (1 : Int32)), .val (.int (0 : Int32)), .unset] [])) _
    refine XS.aloadN X2.here hx rfl (hb hby d8_10) rfl rfl ?_
    show Steps p.tables e below (T2.setTop (mkF m 11 #[.val (.ref a1), .val (.int (1 : Int32)), .val (.int (0 : Int32)), .unset] [(.ref a1)])) _
    refine st4 _ ?_
    show Steps p.tables e below (T4.setTop (mkF m 14 #[.val (.ref a1), .val (.int (1 : Int32)), .val (.int (0 : Int32)), .unset] [(.ref w0)])) _
    refine st5 _ ?_
    show Steps p.tables e below (T5.setTop (mkF m 17 #[.val (.ref a1), .val (.int (1 : Int32)), .val (.int (0 : Int32)), .unset] [(.ref w0), (.ref w0)])) _
    refine Jvm.RoadKit.acmp (g := (mkF m 17 #[.val (.ref a1), .val (.int (1 : Int32)), .val (.int (0 : Int32)), .unset] [(.ref w0), (.ref w0)])) X5 hx rfl rfl rfl (pc0 := 17) (pc' := 45) (same := true) rfl (hb hby d8_17) rfl (decide_eq_true rfl) (by decide) (by decide) ?_
    show Steps p.tables e below (T5.setTop (mkF m 45 #[.val (.ref a1), .val (.int (1 : Int32)), .val (.int (0 : Int32)), .unset] [])) _
    refine XS.aloadN X5.here hx rfl (hb hby d8_45) rfl rfl ?_
    show Steps p.tables e below (T5.setTop (mkF m 46 #[.val (.ref a1), .val (.int (1 : Int32)), .val (.int (0 : Int32)), .unset] [(.ref a1)])) _
    refine XS.bipush X5.here hx rfl (hb hby d8_46) ?_
    show Steps p.tables e below (T5.setTop (mkF m 48 #[.val (.ref a1), .val (.int (1 : Int32)), .val (.int (0 : Int32)), .unset] [(.int (10 : Int32)), (.ref a1)])) _
    refine XS.iloadN X5.here hx rfl (hb hby d8_48) rfl ?_
    show Steps p.tables e below (T5.setTop (mkF m 49 #[.val (.ref a1), .val (.int (1 : Int32)), .val (.int (0 : Int32)), .unset] [(.int (1 : Int32)), (.int (10 : Int32)), (.ref a1)])) _
    refine st6 _ ?_
    show Steps p.tables e below (T6.setTop (mkF m 52 #[.val (.ref a1), .val (.int (1 : Int32)), .val (.int (0 : Int32)), .unset] [(.int (10 : Int32)), (.ref a1)])) _
    refine st7 _ ?_
    show Steps p.tables e below (T7.setTop (mkF m 55 #[.val (.ref a1), .val (.int (1 : Int32)), .val (.int (0 : Int32)), .unset] [(.ref b7), (.ref a1)])) _
    refine XS.dupX1 X7.here hx rfl (hb hby d8_55) rfl rfl rfl ?_
    show Steps p.tables e below (T7.setTop (mkF m 56 #[.val (.ref a1), .val (.int (1 : Int32)), .val (.int (0 : Int32)), .unset] [(.ref b7), (.ref a1), (.ref b7)])) _
    refine st12 _ ?_
    show Steps p.tables e below (T12.setTop (mkF m 59 #[.val (.ref a1), .val (.int (1 : Int32)), .val (.int (0 : Int32)), .unset] [(.ref b7)])) _
    exact own_retR X12 hx Bd.returns rfl rfl (hb hby d8_59) hr
  · show Q8 Z a1 p0 w0 k0 h0 n0 _ T12.heap _
    rw [e12]
    exact ⟨b7, k7, rfl, N12, K13, sz_b7, f15, Fw12, f16, f17, f18, f19, f20⟩
theorem d7_0 : decode jdk_38_method_7_code 0 = .ok (.aload_n 0, 1) := by decide +kernel
theorem d7_1 : decode jdk_38_method_7_code 1 = .ok (.aload_n 0, 1) := by decide +kernel
theorem d7_2 : decode jdk_38_method_7_code 2 = .ok (.getfield 48, 3) := by decide +kernel
theorem d7_5 : decode jdk_38_method_7_code 5 = .ok (.iconst 1, 1) := by decide +kernel
theorem d7_6 : decode jdk_38_method_7_code 6 = .ok (.iadd, 1) := by decide +kernel
theorem d7_7 : decode jdk_38_method_7_code 7 = .ok (.invokevirtual 69, 3) := by decide +kernel
theorem pd_8 : parseMethodDescriptor "(I)[Ljava/lang/Object;" = some ⟨[.int], some (.array (.object "java/lang/Object"))⟩ := by decide +kernel
theorem d7_10 : decode jdk_38_method_7_code 10 = .ok (.areturn, 1) := by decide +kernel
def Q7 (Z : State) (a1 : Addr) (p0 : Int32) (w0 : Addr) (k0 : ClassId) (h0 : Heap) (n0 : Nat) (v : Option Value) (h : Heap) (L : List Loc) : Prop := ∃ b4 : Addr, ∃ k5 : ClassId, v = some (.ref b4) ∧ Fr n0 L ∧ Keep h0 h [a1] ∧ h0.size ≤ b4 ∧ Exa Z h a1 "java/util/ArrayList" ∧ Fld Z h a1 "java/util/ArrayList" "elementData" "[Ljava/lang/Object;" (.ref b4) ∧ Fld Z h a1 "java/util/AbstractList" "modCount" "I" (.int p0) ∧ Fld Z h a1 "java/util/ArrayList" "size" "I" (.int (0 : Int32)) ∧ Exa Z h b4 "[Ljava/lang/Object;" ∧ Arv Z h b4 k5 (.object "java/lang/Object") (10 : Int32) [.null, .null, .null, .null, .null, .null, .null, .null, .null, .null] .null ∧ Ovr Z k5 "java/lang/Object"
theorem ef_7 (m : MethodId) (x0 : Addr) : entryFrame m #[(.ref x0)] 1 = mkF m 0 #[.val (.ref x0)] [] := by first | (simp [entryFrame, mkF, argsToLocals, Value.category]; done) | rfl
set_option maxRecDepth 65536 in
set_option maxHeartbeats 40000000 in
theorem rm7 (l : Launch) (Z : State) (a0 : Array Value) (hw : ∀ d ∈ tables_1, d.before a0 Z = true) (ws : List Jvm.Cond) (a1 : Addr) (p0 : Int32) (w0 : Addr) (k0 : ClassId) (h0 : Heap) (n0 : Nat) (O0 : Old Z n0 h0) (HE_a1 : Exa Z h0 a1 "java/util/ArrayList") (HF_a1_modCount : Fld Z h0 a1 "java/util/AbstractList" "modCount" "I" (.int p0)) (HF_a1_elementData : Fld Z h0 a1 "java/util/ArrayList" "elementData" "[Ljava/lang/Object;" (.ref w0)) (HF_a1_size : Fld Z h0 a1 "java/util/ArrayList" "size" "I" (.int (0 : Int32))) (HV_w0 : Arv Z h0 w0 k0 (.object "java/lang/Object") (0 : Int32) [] .null) (S_DEFAULTCAPACITY_EMPTY_ELEMENTDATA : Sta Z Z.heap "java/util/ArrayList" "DEFAULTCAPACITY_EMPTY_ELEMENTDATA" "[Ljava/lang/Object;" (.ref w0)) (g_a1 : n0 ≤ a1) :
    MetFree l (⟨"java/util/ArrayList", "grow", "()[Ljava/lang/Object;"⟩ : MethodName) (head1 (Jvm.Cond.code (⟨"java/util/ArrayList", "grow", "()[Ljava/lang/Object;"⟩ : MethodName) jdk_38_method_7_code 1 (some (.array (.object "java/lang/Object"))) :: ws) ({ frames := 2, cells := 1, slots := 10, locals := 29 } : Room)) (fun a U => a = #[(.ref a1)] ∧ Z.Warmed39 U.vm ∧ U.heap = h0) (fun _ _ _ _ _ => True) (fun _ U o U' => ∃ v L, o = .returned v ∧ Q7 Z a1 p0 w0 k0 h0 n0 v U'.heap L ∧ FrameEnd U o U' L ({ frames := 2, cells := 1, slots := 10, locals := 29 } : Room).cells ({ frames := 2, cells := 1, slots := 10, locals := 29 } : Room).slots) := by
  refine MetFree.of_bodySF (plainFor_of_name pnc_java_util_ArrayList) hisR ?_
  intro p e s m args below meth c s₁ Bd hml0 hP hK
  obtain ⟨rfl, hZ, hh⟩ := hP
  have hx := Bd.exec
  have hby := Bd.bytes
  have hml : c.maxLocals = 1 := hml0
  have hown : s.vm.findClass "java/util/ArrayList" = some m.cls := findClass_of_methodNamed Bd.named
  have hnm := (name_of_methodNamed Bd.named Bd.method).1
  have X0 : Stand p l e ({ frames := 2, cells := 1, slots := 10, locals := 29 } : Room) s m #[(.ref a1)] below meth c s₁ [] 0 0 := Stand.of_body Bd
  have e0 : s₁.heap = h0 := by rw [← hh, Bd.state]; rfl
  have N0 := Fr.nil n0
  have Z0 : n0 ≤ h0.size := O0.1 ▸ O0.2.1
  have pre0 : ∀ t, Steps p.tables e below (s₁.setTop (mkF m 0 #[.val (.ref a1)] [])) t → Steps p.tables e below (s₁.setTop (entryFrame m #[(.ref a1)] 1)) t := fun t k => castTop (ef_7 m a1) k
  obtain ⟨T2, X2, e2, st2⟩ := getF X0 hx hZ hown (host := "") (Or.inl (hw _ (List.mem_of_getElem? (i := 40) rfl))) Via.refl e0 HF_a1_size (g := (mkF m 2 #[.val (.ref a1)] [(.ref a1), (.ref a1)])) rfl rfl (hb hby d7_2)
  obtain ⟨cq3, q3, q3'⟩ := HE_a1.cell
  obtain ⟨vr3, _, ⟨T3, L3, k3, n3⟩, -, X3, ⟨Lc3, hQ3, l3, y3, z3⟩, st3⟩ := X2.privateBack hx (y := (⟨"java/util/ArrayList", "grow", "(I)[Ljava/lang/Object;"⟩ : MethodName)) hown (mvT hZ (hw _ (List.mem_of_getElem? (i := 52) rfl))) (mvT hZ (hw _ (List.mem_of_getElem? (i := 53) rfl))) (mvT hZ (hw _ (List.mem_of_getElem? (i := 55) rfl))) (Cond.privateMethod_at (mvP hZ (hw _ (List.mem_of_getElem? (i := 54) rfl)) (args := #[]))) (mvT hZ (hw _ (List.mem_of_getElem? (i := 56) rfl))) (by decide) (backOf (W := 0) (rm8 l Z a0 hw [] a1 p0 w0 k0 h0 n0 O0 HE_a1 HF_a1_modCount HF_a1_elementData HF_a1_size HV_w0 S_DEFAULTCAPACITY_EMPTY_ELEMENTDATA g_a1) hZ (hw _ (List.mem_of_getElem? (i := 56) rfl)) (hw _ (List.mem_of_getElem? (i := 5) rfl)) (by decide) (by decide)) (g := (mkF m 7 #[.val (.ref a1)] [(.int (1 : Int32)), (.ref a1)])) rfl (by rw [hml]; rfl) (Steps.refl _) (a := a1) (by rw [e2]; exact q3) q3' (argsL := [(.int (1 : Int32))]) (rest := []) (lenOf pd_8 rfl) rfl (by show 2 * 0 + _ ≤ _; exact Nat.le_of_eq rfl) (hb hby d7_7) (fun _ _ => ⟨rfl, e2, (by decide : 0 + 1 ≤ _), (by decide : 0 + 10 ≤ _)⟩)
  dsimp only [Pt.U, Pt.locs, Pt.cells, Pt.slots] at X3 l3 y3 z3 st3 hQ3
  subst l3 y3 z3
  obtain ⟨b4, k5, rfl, N3q, K3, Y3_z0, Y3_0, Y3_1, Y3_2, Y3_3, Y3_4, Y3_5, Y3_6⟩ := hQ3
  have N3 := Fr.app N0 N3q
  replace X3 := X3.more (cells' := 1) (slots' := 10) (by decide) (by decide)
  have g_b4 : n0 ≤ b4 := Nat.le_trans (Nat.le_trans Z0 (Keep.refl h0 [a1]).1) Y3_z0
  have sz_b4 : h0.size ≤ b4 := Nat.le_trans (Keep.refl h0 [a1]).1 Y3_z0
  have K6 : Keep h0 T3.heap [a1] := (Keep.refl h0 [a1]).trans K3 (allS (Or.inl (List.mem_of_getElem? (i := 0) rfl)) all0)
  have O7 : Old Z n0 T3.heap := O0.keep K3 (allS g_a1 all0)
  obtain ⟨fs, hr, hrun, hended, hW, hsame⟩ := X3.leave (v := some (.ref b4)) (fun h => by rw [Bd.returns] at h; cases h)
  refine ⟨_, _, pre0 _ ?_, hrun, hended, _, _, rfl, ?_, ⟨_, rfl⟩, hW, hsame.mono (by decide) (by decide)⟩
  · show Steps p.tables e below (s₁.setTop (mkF m 0 #[.val (.ref a1)] [])) _
    refine XS.aloadN X0.here hx rfl (hb hby d7_0) rfl rfl ?_
    show Steps p.tables e below (s₁.setTop (mkF m 1 #[.val (.ref a1)] [(.ref a1)])) _
    refine XS.aloadN X0.here hx rfl (hb hby d7_1) rfl rfl ?_
    show Steps p.tables e below (s₁.setTop (mkF m 2 #[.val (.ref a1)] [(.ref a1), (.ref a1)])) _
    refine st2 _ ?_
    show Steps p.tables e below (T2.setTop (mkF m 5 #[.val (.ref a1)] [(.int (0 : Int32)), (.ref a1)])) _
    refine XS.iconst X2.here hx rfl (hb hby d7_5) ?_
    show Steps p.tables e below (T2.setTop (mkF m 6 #[.val (.ref a1)] [(.int (1 : Int32)), (.int (0 : Int32)), (.ref a1)])) _
    refine XS.iadd X2.here hx rfl (hb hby d7_6) rfl ?_
    show Steps p.tables e below (T2.setTop (mkF m 7 #[.val (.ref a1)] [(.int (1 : Int32)), (.ref a1)])) _
    refine st3.trans ?_
    show Steps p.tables e below (T3.setTop (mkF m 10 #[.val (.ref a1)] [(.ref b4)])) _
    exact own_retR X3 hx Bd.returns rfl rfl (hb hby d7_10) hr
  · show Q7 Z a1 p0 w0 k0 h0 n0 _ T3.heap _
    exact ⟨b4, k5, rfl, N3, K6, sz_b4, Y3_0, Y3_1, Y3_2, Y3_3, Y3_4, Y3_5, Y3_6⟩
theorem d15_0 : decode jdk_30_method_1_code 0 = .ok (.aload_n 0, 1) := by decide +kernel
theorem d15_1 : decode jdk_30_method_1_code 1 = .ok (.invokespecial 1, 3) := by decide +kernel
theorem d15_4 : decode jdk_30_method_1_code 4 = .ok (.return_, 1) := by decide +kernel
def Q15 (Z : State) (a1 : Addr) (h0 : Heap) (n0 : Nat) (v : Option Value) (h : Heap) (L : List Loc) : Prop := v = none ∧ Fr n0 L ∧ h = h0
theorem ef_15 (m : MethodId) (x0 : Addr) : entryFrame m #[(.ref x0)] 1 = mkF m 0 #[.val (.ref x0)] [] := by first | (simp [entryFrame, mkF, argsToLocals, Value.category]; done) | rfl
theorem pnc_java_lang_Record : plainName "java/lang/Record" = true := by first | (simp [plainName, overriddenIn]; done) | decide +kernel
set_option maxRecDepth 65536 in
set_option maxHeartbeats 40000000 in
theorem rm15 (l : Launch) (Z : State) (a0 : Array Value) (hw : ∀ d ∈ tables_1, d.before a0 Z = true) (ws : List Jvm.Cond) (a1 : Addr) (h0 : Heap) (n0 : Nat) (O0 : Old Z n0 h0) :
    MetFree l (⟨"java/lang/Record", "<init>", "()V"⟩ : MethodName) (head1 (Jvm.Cond.code (⟨"java/lang/Record", "<init>", "()V"⟩ : MethodName) jdk_30_method_1_code 1 none :: ws) ({ frames := 1, cells := 0, slots := 0, locals := 12 } : Room)) (fun a U => a = #[(.ref a1)] ∧ Z.Warmed39 U.vm ∧ U.heap = h0) (fun _ _ _ _ _ => True) (fun _ U o U' => ∃ v L, o = .returned v ∧ Q15 Z a1 h0 n0 v U'.heap L ∧ FrameEnd U o U' L ({ frames := 1, cells := 0, slots := 0, locals := 12 } : Room).cells ({ frames := 1, cells := 0, slots := 0, locals := 12 } : Room).slots) := by
  refine MetFree.of_bodySF (plainFor_of_name pnc_java_lang_Record) hisR ?_
  intro p e s m args below meth c s₁ Bd hml0 hP hK
  obtain ⟨rfl, hZ, hh⟩ := hP
  have hx := Bd.exec
  have hby := Bd.bytes
  have hml : c.maxLocals = 1 := hml0
  have hown : s.vm.findClass "java/lang/Record" = some m.cls := findClass_of_methodNamed Bd.named
  have hnm := (name_of_methodNamed Bd.named Bd.method).1
  have X0 : Stand p l e ({ frames := 1, cells := 0, slots := 0, locals := 12 } : Room) s m #[(.ref a1)] below meth c s₁ [] 0 0 := Stand.of_body Bd
  have e0 : s₁.heap = h0 := by rw [← hh, Bd.state]; rfl
  have N0 := Fr.nil n0
  have Z0 : n0 ≤ h0.size := O0.1 ▸ O0.2.1
  have pre0 : ∀ t, Steps p.tables e below (s₁.setTop (mkF m 0 #[.val (.ref a1)] [])) t → Steps p.tables e below (s₁.setTop (entryFrame m #[(.ref a1)] 1)) t := fun t k => castTop (ef_15 m a1) k
  obtain ⟨T2, X2, e2, st2⟩ := initO X0 hx hZ hown (hw _ (List.mem_of_getElem? (i := 101) rfl)) (hw _ (List.mem_of_getElem? (i := 22) rfl)) (hw _ (List.mem_of_getElem? (i := 23) rfl)) e0 (g := (mkF m 1 #[.val (.ref a1)] [(.ref a1)])) rfl (by rw [hml]; rfl) rfl (hb hby d15_1) (by decide) (W := 0) (by show 2 * 0 + _ ≤ _; exact Nat.le_of_eq rfl) (by decide)
  obtain ⟨fs, hr, hrun, hended, hW, hsame⟩ := X2.leave (v := none) (fun _ => rfl)
  refine ⟨_, _, pre0 _ ?_, hrun, hended, _, _, rfl, ?_, ⟨_, rfl⟩, hW, hsame.mono (by decide) (by decide)⟩
  · show Steps p.tables e below (s₁.setTop (mkF m 0 #[.val (.ref a1)] [])) _
    refine XS.aloadN X0.here hx rfl (hb hby d15_0) rfl rfl ?_
    show Steps p.tables e below (s₁.setTop (mkF m 1 #[.val (.ref a1)] [(.ref a1)])) _
    refine st2 _ ?_
    show Steps p.tables e below (T2.setTop (mkF m 4 #[.val (.ref a1)] [])) _
    exact X2.returnOut hx Bd.returns (hb hby d15_4) hr
  · show Q15 Z a1 h0 n0 _ T2.heap _
    rw [e2]
    exact ⟨rfl, N0, rfl⟩
theorem d21_0 : decode jdk_18_method_1_code 0 = .ok (.aload_n 0, 1) := by decide +kernel
theorem d21_1 : decode jdk_18_method_1_code 1 = .ok (.invokespecial 1, 3) := by decide +kernel
theorem d21_4 : decode jdk_18_method_1_code 4 = .ok (.return_, 1) := by decide +kernel
def Q21 (Z : State) (a1 : Addr) (h0 : Heap) (n0 : Nat) (v : Option Value) (h : Heap) (L : List Loc) : Prop := v = none ∧ Fr n0 L ∧ h = h0
theorem ef_21 (m : MethodId) (x0 : Addr) : entryFrame m #[(.ref x0)] 1 = mkF m 0 #[.val (.ref x0)] [] := by first | (simp [entryFrame, mkF, argsToLocals, Value.category]; done) | rfl
theorem pnc_java_lang_Number : plainName "java/lang/Number" = true := by first | (simp [plainName, overriddenIn]; done) | decide +kernel
set_option maxRecDepth 65536 in
set_option maxHeartbeats 40000000 in
theorem rm21 (l : Launch) (Z : State) (a0 : Array Value) (hw : ∀ d ∈ tables_1, d.before a0 Z = true) (ws : List Jvm.Cond) (a1 : Addr) (h0 : Heap) (n0 : Nat) (O0 : Old Z n0 h0) :
    MetFree l (⟨"java/lang/Number", "<init>", "()V"⟩ : MethodName) (head1 (Jvm.Cond.code (⟨"java/lang/Number", "<init>", "()V"⟩ : MethodName) jdk_18_method_1_code 1 none :: ws) ({ frames := 1, cells := 0, slots := 0, locals := 12 } : Room)) (fun a U => a = #[(.ref a1)] ∧ Z.Warmed39 U.vm ∧ U.heap = h0) (fun _ _ _ _ _ => True) (fun _ U o U' => ∃ v L, o = .returned v ∧ Q21 Z a1 h0 n0 v U'.heap L ∧ FrameEnd U o U' L ({ frames := 1, cells := 0, slots := 0, locals := 12 } : Room).cells ({ frames := 1, cells := 0, slots := 0, locals := 12 } : Room).slots) := by
  refine MetFree.of_bodySF (plainFor_of_name pnc_java_lang_Number) hisR ?_
  intro p e s m args below meth c s₁ Bd hml0 hP hK
  obtain ⟨rfl, hZ, hh⟩ := hP
  have hx := Bd.exec
  have hby := Bd.bytes
  have hml : c.maxLocals = 1 := hml0
  have hown : s.vm.findClass "java/lang/Number" = some m.cls := findClass_of_methodNamed Bd.named
  have hnm := (name_of_methodNamed Bd.named Bd.method).1
  have X0 : Stand p l e ({ frames := 1, cells := 0, slots := 0, locals := 12 } : Room) s m #[(.ref a1)] below meth c s₁ [] 0 0 := Stand.of_body Bd
  have e0 : s₁.heap = h0 := by rw [← hh, Bd.state]; rfl
  have N0 := Fr.nil n0
  have Z0 : n0 ≤ h0.size := O0.1 ▸ O0.2.1
  have pre0 : ∀ t, Steps p.tables e below (s₁.setTop (mkF m 0 #[.val (.ref a1)] [])) t → Steps p.tables e below (s₁.setTop (entryFrame m #[(.ref a1)] 1)) t := fun t k => castTop (ef_21 m a1) k
  obtain ⟨T2, X2, e2, st2⟩ := initO X0 hx hZ hown (hw _ (List.mem_of_getElem? (i := 179) rfl)) (hw _ (List.mem_of_getElem? (i := 22) rfl)) (hw _ (List.mem_of_getElem? (i := 23) rfl)) e0 (g := (mkF m 1 #[.val (.ref a1)] [(.ref a1)])) rfl (by rw [hml]; rfl) rfl (hb hby d21_1) (by decide) (W := 0) (by show 2 * 0 + _ ≤ _; exact Nat.le_of_eq rfl) (by decide)
  obtain ⟨fs, hr, hrun, hended, hW, hsame⟩ := X2.leave (v := none) (fun _ => rfl)
  refine ⟨_, _, pre0 _ ?_, hrun, hended, _, _, rfl, ?_, ⟨_, rfl⟩, hW, hsame.mono (by decide) (by decide)⟩
  · show Steps p.tables e below (s₁.setTop (mkF m 0 #[.val (.ref a1)] [])) _
    refine XS.aloadN X0.here hx rfl (hb hby d21_0) rfl rfl ?_
    show Steps p.tables e below (s₁.setTop (mkF m 1 #[.val (.ref a1)] [(.ref a1)])) _
    refine st2 _ ?_
    show Steps p.tables e below (T2.setTop (mkF m 4 #[.val (.ref a1)] [])) _
    exact X2.returnOut hx Bd.returns (hb hby d21_4) hr
  · show Q21 Z a1 h0 n0 _ T2.heap _
    rw [e2]
    exact ⟨rfl, N0, rfl⟩
theorem d20_0 : decode jdk_33_method_23_code 0 = .ok (.aload_n 0, 1) := by decide +kernel
theorem d20_1 : decode jdk_33_method_23_code 1 = .ok (.invokespecial 202, 3) := by decide +kernel
theorem d20_4 : decode jdk_33_method_23_code 4 = .ok (.aload_n 0, 1) := by decide +kernel
theorem d20_5 : decode jdk_33_method_23_code 5 = .ok (.iload_n 1, 1) := by decide +kernel
theorem d20_6 : decode jdk_33_method_23_code 6 = .ok (.putfield 205, 3) := by decide +kernel
theorem d20_9 : decode jdk_33_method_23_code 9 = .ok (.return_, 1) := by decide +kernel
def Q20 (Z : State) (a1 : Addr) (p2 : Int32) (u4 : Value) (h0 : Heap) (n0 : Nat) (v : Option Value) (h : Heap) (L : List Loc) : Prop := v = none ∧ Fr n0 L ∧ Keep h0 h [a1] ∧ Exa Z h a1 "java/lang/Integer" ∧ Fld Z h a1 "java/lang/Integer" "value" "I" (.int p2)
theorem ef_20 (m : MethodId) (x0 : Addr) (x1 : Int32) : entryFrame m #[(.ref x0), (.int x1)] 2 = mkF m 0 #[.val (.ref x0), .val (.int x1)] [] := by first | (simp [entryFrame, mkF, argsToLocals, Value.category]; done) | rfl
theorem pnc_java_lang_Integer : plainName "java/lang/Integer" = true := by first | (simp [plainName, overriddenIn]; done) | decide +kernel
set_option maxRecDepth 65536 in
set_option maxHeartbeats 40000000 in
theorem rm20 (l : Launch) (Z : State) (a0 : Array Value) (hw : ∀ d ∈ tables_1, d.before a0 Z = true) (ws : List Jvm.Cond) (a1 : Addr) (p2 : Int32) (u4 : Value) (h0 : Heap) (n0 : Nat) (O0 : Old Z n0 h0) (HE_a1 : Exa Z h0 a1 "java/lang/Integer") (HF_a1_value : Fld Z h0 a1 "java/lang/Integer" "value" "I" u4) (g_a1 : n0 ≤ a1) :
    MetFree l (⟨"java/lang/Integer", "<init>", "(I)V"⟩ : MethodName) (head1 (Jvm.Cond.code (⟨"java/lang/Integer", "<init>", "(I)V"⟩ : MethodName) jdk_33_method_23_code 2 none :: ws) ({ frames := 2, cells := 0, slots := 0, locals := 24 } : Room)) (fun a U => a = #[(.ref a1), (.int p2)] ∧ Z.Warmed39 U.vm ∧ U.heap = h0) (fun _ _ _ _ _ => True) (fun _ U o U' => ∃ v L, o = .returned v ∧ Q20 Z a1 p2 u4 h0 n0 v U'.heap L ∧ FrameEnd U o U' L ({ frames := 2, cells := 0, slots := 0, locals := 24 } : Room).cells ({ frames := 2, cells := 0, slots := 0, locals := 24 } : Room).slots) := by
  refine MetFree.of_bodySF (plainFor_of_name pnc_java_lang_Integer) hisR ?_
  intro p e s m args below meth c s₁ Bd hml0 hP hK
  obtain ⟨rfl, hZ, hh⟩ := hP
  have hx := Bd.exec
  have hby := Bd.bytes
  have hml : c.maxLocals = 2 := hml0
  have hown : s.vm.findClass "java/lang/Integer" = some m.cls := findClass_of_methodNamed Bd.named
  have hnm := (name_of_methodNamed Bd.named Bd.method).1
  have X0 : Stand p l e ({ frames := 2, cells := 0, slots := 0, locals := 24 } : Room) s m #[(.ref a1), (.int p2)] below meth c s₁ [] 0 0 := Stand.of_body Bd
  have e0 : s₁.heap = h0 := by rw [← hh, Bd.state]; rfl
  have N0 := Fr.nil n0
  have Z0 : n0 ≤ h0.size := O0.1 ▸ O0.2.1
  have pre0 : ∀ t, Steps p.tables e below (s₁.setTop (mkF m 0 #[.val (.ref a1), .val (.int p2)] [])) t → Steps p.tables e below (s₁.setTop (entryFrame m #[(.ref a1), (.int p2)] 2)) t := fun t k => castTop (ef_20 m a1 p2) k
  obtain ⟨vr3, _, ⟨T3, L3, k3, n3⟩, -, X3, ⟨Lc3, hQ3, l3, y3, z3⟩, st3⟩ := X0.specialBack hx (y := (⟨"java/lang/Number", "<init>", "()V"⟩ : MethodName)) rfl hown (mvT hZ (hw _ (List.mem_of_getElem? (i := 173) rfl))) (mvT hZ (hw _ (List.mem_of_getElem? (i := 174) rfl))) (mvT hZ (hw _ (List.mem_of_getElem? (i := 178) rfl))) (by decide) (backOf (W := 0) (rm21 l Z a0 hw [] a1 h0 n0 O0) hZ (hw _ (List.mem_of_getElem? (i := 178) rfl)) (hw _ (List.mem_of_getElem? (i := 177) rfl)) (by decide) (by decide)) (g := (mkF m 1 #[.val (.ref a1), .val (.int p2)] [(.ref a1)])) rfl (by rw [hml]; rfl) (Steps.refl _) (a := a1) (argsL := []) (rest := []) (lenOf pd_0 rfl) rfl (by show 2 * 0 + _ ≤ _; exact Nat.le_of_eq rfl) (hb hby d20_1) (fun _ _ => ⟨rfl, e0, (by decide : 0 + 0 ≤ _), (by decide : 0 + 0 ≤ _)⟩)
  dsimp only [Pt.U, Pt.locs, Pt.cells, Pt.slots] at X3 l3 y3 z3 st3 hQ3
  subst l3 y3 z3
  obtain ⟨rfl, N3q, e3⟩ := hQ3
  have N3 := Fr.app N0 N3q
  replace X3 := X3.more (cells' := 0) (slots' := 0) (by decide) (by decide)
  obtain ⟨T5, h5, X5, e5, W5, st5⟩ := putF X3 hx hZ hown (host := "") (Or.inl (hw _ (List.mem_of_getElem? (i := 180) rfl))) Via.refl e3 HF_a1_value HE_a1 (Or.inr ⟨(hw _ (List.mem_of_getElem? (i := 181) rfl)), rfl, hnm⟩) (hw _ (List.mem_of_getElem? (i := 168) rfl)) (ty := .int) (by decide) rfl rfl (g := (mkF m 6 #[.val (.ref a1), .val (.int p2)] [(.int p2), (.ref a1)])) rfl rfl (hb hby d20_6)
  have N5 := Fr.snoc X5 N3 g_a1
  have K6 : Keep h0 h5 [a1] := (Keep.refl h0 [a1]).wr W5 (Or.inl (List.mem_of_getElem? (i := 0) rfl))
  have O7 : Old Z n0 h5 := O0.wr W5 g_a1
  have Fw5 : Fld Z h5 a1 "java/lang/Integer" "value" "I" (.int p2) := HF_a1_value.same W5
  have f8 := (HE_a1.wr W5)
  obtain ⟨fs, hr, hrun, hended, hW, hsame⟩ := X5.leave (v := none) (fun _ => rfl)
  refine ⟨_, _, pre0 _ ?_, hrun, hended, _, _, rfl, ?_, ⟨_, rfl⟩, hW, hsame.mono (by decide) (by decide)⟩
  · show Steps p.tables e below (s₁.setTop (mkF m 0 #[.val (.ref a1), .val (.int p2)] [])) _
    refine XS.aloadN X0.here hx rfl (hb hby d20_0) rfl rfl ?_
    show Steps p.tables e below (s₁.setTop (mkF m 1 #[.val (.ref a1), .val (.int p2)] [(.ref a1)])) _
    refine st3.trans ?_
    show Steps p.tables e below (T3.setTop (mkF m 4 #[.val (.ref a1), .val (.int p2)] [])) _
    refine XS.aloadN X3.here hx rfl (hb hby d20_4) rfl rfl ?_
    show Steps p.tables e below (T3.setTop (mkF m 5 #[.val (.ref a1), .val (.int p2)] [(.ref a1)])) _
    refine XS.iloadN X3.here hx rfl (hb hby d20_5) rfl ?_
    show Steps p.tables e below (T3.setTop (mkF m 6 #[.val (.ref a1), .val (.int p2)] [(.int p2), (.ref a1)])) _
    refine st5 _ ?_
    show Steps p.tables e below (T5.setTop (mkF m 9 #[.val (.ref a1), .val (.int p2)] [])) _
    exact X5.returnOut hx Bd.returns (hb hby d20_9) hr
  · show Q20 Z a1 p2 u4 h0 n0 _ T5.heap _
    rw [e5]
    exact ⟨rfl, N5, K6, f8, Fw5⟩
theorem d19_0 : decode prog_18_method_1_code 0 = .ok (.aload_n 0, 1) := by decide +kernel
theorem d19_1 : decode prog_18_method_1_code 1 = .ok (.invokespecial 1, 3) := by decide +kernel
theorem d19_4 : decode prog_18_method_1_code 4 = .ok (.aload_n 0, 1) := by decide +kernel
theorem d19_5 : decode prog_18_method_1_code 5 = .ok (.lload_n 1, 1) := by decide +kernel
theorem d19_6 : decode prog_18_method_1_code 6 = .ok (.putfield 7, 3) := by decide +kernel
theorem d19_9 : decode prog_18_method_1_code 9 = .ok (.aload_n 0, 1) := by decide +kernel
theorem d19_10 : decode prog_18_method_1_code 10 = .ok (.lload_n 3, 1) := by decide +kernel
theorem d19_11 : decode prog_18_method_1_code 11 = .ok (.putfield 13, 3) := by decide +kernel
theorem d19_14 : decode prog_18_method_1_code 14 = .ok (.return_, 1) := by decide +kernel
def Q19 (Z : State) (a1 : Addr) (q2 q3 : Int64) (u5 u10 : Value) (h0 : Heap) (n0 : Nat) (v : Option Value) (h : Heap) (L : List Loc) : Prop := v = none ∧ Fr n0 L ∧ Keep h0 h [a1] ∧ Exa Z h a1 "com/example/mirante/mirante/FieldDef$Range" ∧ Fld Z h a1 "com/example/mirante/mirante/FieldDef$Range" "max" "J" (.long q3) ∧ Fld Z h a1 "com/example/mirante/mirante/FieldDef$Range" "min" "J" (.long q2)
theorem ef_19 (m : MethodId) (x0 : Addr) (x1 : Int64) (x2 : Int64) : entryFrame m #[(.ref x0), (.long x1), (.long x2)] 5 = mkF m 0 #[.val (.ref x0), .val (.long x1), .second, .val (.long x2), .second] [] := by first | (simp [entryFrame, mkF, argsToLocals, Value.category]; done) | rfl
theorem pnc_com_example_mirante_mirante_FieldDef_Range : plainName "com/example/mirante/mirante/FieldDef$Range" = true := by first | (simp [plainName, overriddenIn]; done) | decide +kernel
set_option maxRecDepth 65536 in
set_option maxHeartbeats 40000000 in
theorem rm19 (l : Launch) (Z : State) (a0 : Array Value) (hw : ∀ d ∈ tables_1, d.before a0 Z = true) (ws : List Jvm.Cond) (a1 : Addr) (q2 q3 : Int64) (u5 u10 : Value) (h0 : Heap) (n0 : Nat) (O0 : Old Z n0 h0) (HE_a1 : Exa Z h0 a1 "com/example/mirante/mirante/FieldDef$Range") (HF_a1_min : Fld Z h0 a1 "com/example/mirante/mirante/FieldDef$Range" "min" "J" u5) (g_a1 : n0 ≤ a1) (HF_a1_max : Fld Z h0 a1 "com/example/mirante/mirante/FieldDef$Range" "max" "J" u10) :
    MetFree l (⟨"com/example/mirante/mirante/FieldDef$Range", "<init>", "(JJ)V"⟩ : MethodName) (head1 (Jvm.Cond.code (⟨"com/example/mirante/mirante/FieldDef$Range", "<init>", "(JJ)V"⟩ : MethodName) prog_18_method_1_code 5 none :: ws) ({ frames := 2, cells := 0, slots := 0, locals := 24 } : Room)) (fun a U => a = #[(.ref a1), (.long q2), (.long q3)] ∧ Z.Warmed39 U.vm ∧ U.heap = h0) (fun _ _ _ _ _ => True) (fun _ U o U' => ∃ v L, o = .returned v ∧ Q19 Z a1 q2 q3 u5 u10 h0 n0 v U'.heap L ∧ FrameEnd U o U' L ({ frames := 2, cells := 0, slots := 0, locals := 24 } : Room).cells ({ frames := 2, cells := 0, slots := 0, locals := 24 } : Room).slots) := by
  refine MetFree.of_bodySF (plainFor_of_name pnc_com_example_mirante_mirante_FieldDef_Range) hisR ?_
  intro p e s m args below meth c s₁ Bd hml0 hP hK
  obtain ⟨rfl, hZ, hh⟩ := hP
  have hx := Bd.exec
  have hby := Bd.bytes
  have hml : c.maxLocals = 5 := hml0
  have hown : s.vm.findClass "com/example/mirante/mirante/FieldDef$Range" = some m.cls := findClass_of_methodNamed Bd.named
  have hnm := (name_of_methodNamed Bd.named Bd.method).1
  have X0 : Stand p l e ({ frames := 2, cells := 0, slots := 0, locals := 24 } : Room) s m #[(.ref a1), (.long q2), (.long q3)] below meth c s₁ [] 0 0 := Stand.of_body Bd
  have e0 : s₁.heap = h0 := by rw [← hh, Bd.state]; rfl
  have N0 := Fr.nil n0
  have Z0 : n0 ≤ h0.size := O0.1 ▸ O0.2.1
  have pre0 : ∀ t, Steps p.tables e below (s₁.setTop (mkF m 0 #[.val (.ref a1), .val (.long q2), .second, .val (.long q3), .second] [])) t → Steps p.tables e below (s₁.setTop (entryFrame m #[(.ref a1), (.long q2), (.long q3)] 5)) t := fun t k => castTop (ef_19 m a1 q2 q3) k
  obtain ⟨vr4, _, ⟨T4, L4, k4, n4⟩, -, X4, ⟨Lc4, hQ4, l4, y4, z4⟩, st4⟩ := X0.specialBack hx (y := (⟨"java/lang/Record", "<init>", "()V"⟩ : MethodName)) rfl hown (mvT hZ (hw _ (List.mem_of_getElem? (i := 160) rfl))) (mvT hZ (hw _ (List.mem_of_getElem? (i := 97) rfl))) (mvT hZ (hw _ (List.mem_of_getElem? (i := 100) rfl))) (by decide) (backOf (W := 0) (rm15 l Z a0 hw [] a1 h0 n0 O0) hZ (hw _ (List.mem_of_getElem? (i := 100) rfl)) (hw _ (List.mem_of_getElem? (i := 99) rfl)) (by decide) (by decide)) (g := (mkF m 1 #[.val (.ref a1), .val (.long q2), .second, .val (.long q3), .second] [(.ref a1)])) rfl (by rw [hml]; rfl) (Steps.refl _) (a := a1) (argsL := []) (rest := []) (lenOf pd_0 rfl) rfl (by show 2 * 0 + _ ≤ _; exact Nat.le_of_eq rfl) (hb hby d19_1) (fun _ _ => ⟨rfl, e0, (by decide : 0 + 0 ≤ _), (by decide : 0 + 0 ≤ _)⟩)
  dsimp only [Pt.U, Pt.locs, Pt.cells, Pt.slots] at X4 l4 y4 z4 st4 hQ4
  subst l4 y4 z4
  obtain ⟨rfl, N4q, e4⟩ := hQ4
  have N4 := Fr.app N0 N4q
  replace X4 := X4.more (cells' := 0) (slots' := 0) (by decide) (by decide)
  obtain ⟨T6, h6, X6, e6, W6, st6⟩ := putF X4 hx hZ hown (host := "") (Or.inl (hw _ (List.mem_of_getElem? (i := 161) rfl))) Via.refl e4 HF_a1_min HE_a1 (Or.inr ⟨(hw _ (List.mem_of_getElem? (i := 162) rfl)), rfl, hnm⟩) (hw _ (List.mem_of_getElem? (i := 155) rfl)) (ty := .long) (by decide) rfl rfl (g := (mkF m 6 #[.val (.ref a1), .val (.long q2), .second, .val (.long q3), .second] [(.long q2), (.ref a1)])) rfl rfl (hb hby d19_6)
  have N6 := Fr.snoc X6 N4 g_a1
  have K7 : Keep h0 h6 [a1] := (Keep.refl h0 [a1]).wr W6 (Or.inl (List.mem_of_getElem? (i := 0) rfl))
  have O8 : Old Z n0 h6 := O0.wr W6 g_a1
  have Fw6 : Fld Z h6 a1 "com/example/mirante/mirante/FieldDef$Range" "min" "J" (.long q2) := HF_a1_min.same W6
  have f9 := (HE_a1.wr W6)
  have f11 := (HF_a1_max.other W6 (Or.inr (slot_ne (Or.inr (hw _ (List.mem_of_getElem? (i := 164) rfl))) (Or.inr (hw _ (List.mem_of_getElem? (i := 162) rfl))) (by decide) (t := .long) (t' := .long) (by decide) (by decide))))
  obtain ⟨T12, h12, X12, e12, W12, st12⟩ := putF X6 hx hZ hown (host := "") (Or.inl (hw _ (List.mem_of_getElem? (i := 163) rfl))) Via.refl e6 f11 f9 (Or.inr ⟨(hw _ (List.mem_of_getElem? (i := 164) rfl)), rfl, hnm⟩) (hw _ (List.mem_of_getElem? (i := 155) rfl)) (ty := .long) (by decide) rfl rfl (g := (mkF m 11 #[.val (.ref a1), .val (.long q2), .second, .val (.long q3), .second] [(.long q3), (.ref a1)])) rfl rfl (hb hby d19_11)
  have N12 := Fr.snoc X12 N6 g_a1
  have K13 : Keep h0 h12 [a1] := K7.wr W12 (Or.inl (List.mem_of_getElem? (i := 0) rfl))
  have O14 : Old Z n0 h12 := O8.wr W12 g_a1
  have Fw12 : Fld Z h12 a1 "com/example/mirante/mirante/FieldDef$Range" "max" "J" (.long q3) := f11.same W12
  have f15 := (f9.wr W12)
  have f16 := (Fw6.other W12 (Or.inr (slot_ne (Or.inr (hw _ (List.mem_of_getElem? (i := 162) rfl))) (Or.inr (hw _ (List.mem_of_getElem? (i := 164) rfl))) (by decide) (t := .long) (t' := .long) (by decide) (by decide))))
  obtain ⟨fs, hr, hrun, hended, hW, hsame⟩ := X12.leave (v := none) (fun _ => rfl)
  refine ⟨_, _, pre0 _ ?_, hrun, hended, _, _, rfl, ?_, ⟨_, rfl⟩, hW, hsame.mono (by decide) (by decide)⟩
  · show Steps p.tables e below (s₁.setTop (mkF m 0 #[.val (.ref a1), .val (.long q2), .second, .val (.long q3), .second] [])) _
    refine XS.aloadN X0.here hx rfl (hb hby d19_0) rfl rfl ?_
    show Steps p.tables e below (s₁.setTop (mkF m 1 #[.val (.ref a1), .val (.long q2), .second, .val (.long q3), .second] [(.ref a1)])) _
    refine st4.trans ?_
    show Steps p.tables e below (T4.setTop (mkF m 4 #[.val (.ref a1), .val (.long q2), .second, .val (.long q3), .second] [])) _
    refine XS.aloadN X4.here hx rfl (hb hby d19_4) rfl rfl ?_
    show Steps p.tables e below (T4.setTop (mkF m 5 #[.val (.ref a1), .val (.long q2), .second, .val (.long q3), .second] [(.ref a1)])) _
    refine XS.lloadN X4.here hx rfl (hb hby d19_5) rfl ?_
    show Steps p.tables e below (T4.setTop (mkF m 6 #[.val (.ref a1), .val (.long q2), .second, .val (.long q3), .second] [(.long q2), (.ref a1)])) _
    refine st6 _ ?_
    show Steps p.tables e below (T6.setTop (mkF m 9 #[.val (.ref a1), .val (.long q2), .second, .val (.long q3), .second] [])) _
    refine XS.aloadN X6.here hx rfl (hb hby d19_9) rfl rfl ?_
    show Steps p.tables e below (T6.setTop (mkF m 10 #[.val (.ref a1), .val (.long q2), .second, .val (.long q3), .second] [(.ref a1)])) _
    refine XS.lloadN X6.here hx rfl (hb hby d19_10) rfl ?_
    show Steps p.tables e below (T6.setTop (mkF m 11 #[.val (.ref a1), .val (.long q2), .second, .val (.long q3), .second] [(.long q3), (.ref a1)])) _
    refine st12 _ ?_
    show Steps p.tables e below (T12.setTop (mkF m 14 #[.val (.ref a1), .val (.long q2), .second, .val (.long q3), .second] [])) _
    exact X12.returnOut hx Bd.returns (hb hby d19_14) hr
  · show Q19 Z a1 q2 q3 u5 u10 h0 n0 _ T12.heap _
    rw [e12]
    exact ⟨rfl, N12, K13, f15, Fw12, f16⟩
theorem own_arrkeep {Z : State} {h h' : Heap} {a : Addr} {c : Cell} {ty : FieldType} {ws : List Addr} (A : Arr Z h a c ty) (K : Keep h h' ws) (q : a ∉ ws) : Arr Z h' a c ty := ⟨K.2.1 _ _ A.1 q, A.2⟩
theorem d18_0 : decode jdk_33_method_22_code 0 = .ok (.iload_n 0, 1) := by decide +kernel
theorem d18_1 : decode jdk_33_method_22_code 1 = .ok (.bipush (-128), 2) := by decide +kernel
theorem d18_3 : decode jdk_33_method_22_code 3 = .ok (.if_icmp .lt 20, 3) := by decide +kernel
theorem d18_23 : decode jdk_33_method_22_code 23 = .ok (.new 1, 3) := by decide +kernel
theorem d18_26 : decode jdk_33_method_22_code 26 = .ok (.dup, 1) := by decide +kernel
theorem d18_27 : decode jdk_33_method_22_code 27 = .ok (.iload_n 0, 1) := by decide +kernel
theorem d18_28 : decode jdk_33_method_22_code 28 = .ok (.invokespecial 199, 3) := by decide +kernel
theorem pd_7 : parseMethodDescriptor "(I)V" = some ⟨[.int], none⟩ := by decide +kernel
theorem d18_31 : decode jdk_33_method_22_code 31 = .ok (.areturn, 1) := by decide +kernel
def Q18b (Z : State) (p1 : Int32) (h0 : Heap) (n0 : Nat) (v : Option Value) (h : Heap) (L : List Loc) : Prop := ∃ b2 : Addr, v = some (.ref b2) ∧ Fr n0 L ∧ Keep h0 h [] ∧ h0.size ≤ b2 ∧ Exa Z h b2 "java/lang/Integer" ∧ Fld Z h b2 "java/lang/Integer" "value" "I" (.int p1)
theorem ef_18 (m : MethodId) (x0 : Int32) : entryFrame m #[(.int x0)] 1 = mkF m 0 #[.val (.int x0)] [] := by first | (simp [entryFrame, mkF, argsToLocals, Value.category]; done) | rfl
set_option maxRecDepth 65536 in
set_option maxHeartbeats 40000000 in
theorem rm18b (l : Launch) (Z : State) (a0 : Array Value) (hw : ∀ d ∈ tables_1, d.before a0 Z = true) (ws : List Jvm.Cond) (p1 : Int32) (h0 : Heap) (n0 : Nat) (O0 : Old Z n0 h0) (hc3 : p1 < (-128 : Int32)) :
    MetFree l (⟨"java/lang/Integer", "valueOf", "(I)Ljava/lang/Integer;"⟩ : MethodName) (head1 (Jvm.Cond.code (⟨"java/lang/Integer", "valueOf", "(I)Ljava/lang/Integer;"⟩ : MethodName) jdk_33_method_22_code 1 (some (.object "java/lang/Integer")) :: ws) ({ frames := 3, cells := 1, slots := 1, locals := 60 } : Room)) (fun a U => a = #[(.int p1)] ∧ Z.Warmed39 U.vm ∧ U.heap = h0) (fun _ _ _ _ _ => True) (fun _ U o U' => ∃ v L, o = .returned v ∧ Q18b Z p1 h0 n0 v U'.heap L ∧ FrameEnd U o U' L ({ frames := 3, cells := 1, slots := 1, locals := 60 } : Room).cells ({ frames := 3, cells := 1, slots := 1, locals := 60 } : Room).slots) := by
  refine MetFree.of_bodySF (plainFor_of_name pnc_java_lang_Integer) hisR ?_
  intro p e s m args below meth c s₁ Bd hml0 hP hK
  obtain ⟨rfl, hZ, hh⟩ := hP
  have hx := Bd.exec
  have hby := Bd.bytes
  have hml : c.maxLocals = 1 := hml0
  have hown : s.vm.findClass "java/lang/Integer" = some m.cls := findClass_of_methodNamed Bd.named
  have hnm := (name_of_methodNamed Bd.named Bd.method).1
  have X0 : Stand p l e ({ frames := 3, cells := 1, slots := 1, locals := 60 } : Room) s m #[(.int p1)] below meth c s₁ [] 0 0 := Stand.of_body Bd
  have e0 : s₁.heap = h0 := by rw [← hh, Bd.state]; rfl
  have N0 := Fr.nil n0
  have Z0 : n0 ≤ h0.size := O0.1 ▸ O0.2.1
  have pre0 : ∀ t, Steps p.tables e below (s₁.setTop (mkF m 0 #[.val (.int p1)] [])) t → Steps p.tables e below (s₁.setTop (entryFrame m #[(.int p1)] 1)) t := fun t k => castTop (ef_18 m p1) k
  obtain ⟨T2, h2, X2, e2, E2, A2, D2, -, st2⟩ := newO X0 hx hZ hown (hw _ (List.mem_of_getElem? (i := 167) rfl)) (hw _ (List.mem_of_getElem? (i := 168) rfl)) (hw _ (List.mem_of_getElem? (i := 147) rfl)) e0 (g := (mkF m 23 #[.val (.int p1)] [])) rfl (hb hby d18_23) (by decide) (by decide)
  obtain ⟨b2, g2⟩ : ∃ z, z = h0.size := ⟨_, rfl⟩
  rw [← g2] at A2 D2 st2
  have g_b2 : n0 ≤ b2 := Nat.le_trans (Nat.le_trans Z0 (Keep.refl h0 []).1) (Nat.le_of_eq g2.symm)
  have sz_b2 : h0.size ≤ b2 := Nat.le_trans (Keep.refl h0 []).1 (Nat.le_of_eq g2.symm)
  have K3 : Keep h0 h2 [] := (Keep.refl h0 []).ext E2
  have O4 : Old Z n0 h2 := O0.ext E2
  have F_value_b2 : Fld Z h2 b2 "java/lang/Integer" "value" "I" (.int (0 : Int32)) := D2 (Or.inr (hw _ (List.mem_of_getElem? (i := 181) rfl))) (ty := .int) (by decide)
  replace X2 := X2.more (cells' := 1) (slots' := 1) (by decide) (by decide)
  obtain ⟨vr5, _, ⟨T5, L5, k5, n5⟩, -, X5, ⟨Lc5, hQ5, l5, y5, z5⟩, st5⟩ := X2.specialBack hx (y := (⟨"java/lang/Integer", "<init>", "(I)V"⟩ : MethodName)) rfl hown (mvT hZ (hw _ (List.mem_of_getElem? (i := 169) rfl))) (mvT hZ (hw _ (List.mem_of_getElem? (i := 170) rfl))) (mvT hZ (hw _ (List.mem_of_getElem? (i := 172) rfl))) (by decide) (backOf (W := 1) (rm20 l Z a0 hw [] b2 p1 ((.int (0 : Int32))) h2 n0 O4 A2 F_value_b2 g_b2) hZ (hw _ (List.mem_of_getElem? (i := 172) rfl)) (hw _ (List.mem_of_getElem? (i := 147) rfl)) (by decide) (by decide)) (g := (mkF m 28 #[.val (.int p1)] [(.int p1), (.ref b2), (.ref b2)])) rfl (by rw [hml]; rfl) (Steps.refl _) (a := b2) (argsL := [(.int p1)]) (rest := [(.ref b2)]) (lenOf pd_7 rfl) rfl (by show 2 * 0 + _ ≤ _; exact Nat.le_of_eq rfl) (hb hby d18_28) (fun _ _ => ⟨rfl, e2, (by decide : 1 + 0 ≤ _), (by decide : 1 + 0 ≤ _)⟩)
  dsimp only [Pt.U, Pt.locs, Pt.cells, Pt.slots] at X5 l5 y5 z5 st5 hQ5
  subst l5 y5 z5
  obtain ⟨rfl, N5q, K5, Y5_0, Y5_1⟩ := hQ5
  have N5 := Fr.app N0 N5q
  replace X5 := X5.more (cells' := 1) (slots' := 1) (by decide) (by decide)
  have K6 : Keep h0 T5.heap [] := K3.trans K5 (allS (Or.inr sz_b2) all0)
  have O7 : Old Z n0 T5.heap := O4.keep K5 (allS g_b2 all0)
  obtain ⟨fs, hr, hrun, hended, hW, hsame⟩ := X5.leave (v := some (.ref b2)) (fun h => by rw [Bd.returns] at h; cases h)
  refine ⟨_, _, pre0 _ ?_, hrun, hended, _, _, rfl, ?_, ⟨_, rfl⟩, hW, hsame.mono (by decide) (by decide)⟩
  · show Steps p.tables e below (s₁.setTop (mkF m 0 #[.val (.int p1)] [])) _
    refine XS.iloadN X0.here hx rfl (hb hby d18_0) rfl ?_
    show Steps p.tables e below (s₁.setTop (mkF m 1 #[.val (.int p1)] [(.int p1)])) _
    refine XS.bipush X0.here hx rfl (hb hby d18_1) ?_
    show Steps p.tables e below (s₁.setTop (mkF m 3 #[.val (.int p1)] [(.int (-128 : Int32)), (.int p1)])) _
    refine XS.icmpYes X0.here hx rfl (pc0 := 3) (pc' := 23) rfl (hb hby d18_3) rfl (tlt hc3).1 (by decide) (by decide) ?_
    show Steps p.tables e below (s₁.setTop (mkF m 23 #[.val (.int p1)] [])) _
    refine st2 _ ?_
    show Steps p.tables e below (T2.setTop (mkF m 26 #[.val (.int p1)] [(.ref b2)])) _
    refine XS.dup X2.here hx rfl (hb hby d18_26) rfl rfl ?_
    show Steps p.tables e below (T2.setTop (mkF m 27 #[.val (.int p1)] [(.ref b2), (.ref b2)])) _
    refine XS.iloadN X2.here hx rfl (hb hby d18_27) rfl ?_
    show Steps p.tables e below (T2.setTop (mkF m 28 #[.val (.int p1)] [(.int p1), (.ref b2), (.ref b2)])) _
    refine st5.trans ?_
    show Steps p.tables e below (T5.setTop (mkF m 31 #[.val (.int p1)] [(.ref b2)])) _
    exact own_retR X5 hx Bd.returns rfl rfl (hb hby d18_31) hr
  · show Q18b Z p1 h0 n0 _ T5.heap _
    exact ⟨b2, rfl, N5, K6, sz_b2, Y5_0, Y5_1⟩
theorem d18_6 : decode jdk_33_method_22_code 6 = .ok (.iload_n 0, 1) := by decide +kernel
theorem d18_7 : decode jdk_33_method_22_code 7 = .ok (.getstatic 191, 3) := by decide +kernel
theorem d18_10 : decode jdk_33_method_22_code 10 = .ok (.if_icmp .gt 13, 3) := by decide +kernel
def Q18a (Z : State) (p1 w2 : Int32) (h0 : Heap) (n0 : Nat) (v : Option Value) (h : Heap) (L : List Loc) : Prop := ∃ b4 : Addr, v = some (.ref b4) ∧ Fr n0 L ∧ Keep h0 h [] ∧ h0.size ≤ b4 ∧ Exa Z h b4 "java/lang/Integer" ∧ Fld Z h b4 "java/lang/Integer" "value" "I" (.int p1)
set_option maxRecDepth 65536 in
set_option maxHeartbeats 40000000 in
theorem rm18a (l : Launch) (Z : State) (a0 : Array Value) (hw : ∀ d ∈ tables_1, d.before a0 Z = true) (ws : List Jvm.Cond) (p1 w2 : Int32) (h0 : Heap) (n0 : Nat) (O0 : Old Z n0 h0) (hc3 : ¬ (p1 < (-128 : Int32))) (S_high : Sta Z Z.heap "java/lang/Integer$IntegerCache" "high" "I" (.int w2)) (hc10 : w2 < p1) :
    MetFree l (⟨"java/lang/Integer", "valueOf", "(I)Ljava/lang/Integer;"⟩ : MethodName) (head1 (Jvm.Cond.code (⟨"java/lang/Integer", "valueOf", "(I)Ljava/lang/Integer;"⟩ : MethodName) jdk_33_method_22_code 1 (some (.object "java/lang/Integer")) :: ws) ({ frames := 3, cells := 1, slots := 1, locals := 60 } : Room)) (fun a U => a = #[(.int p1)] ∧ Z.Warmed39 U.vm ∧ U.heap = h0) (fun _ _ _ _ _ => True) (fun _ U o U' => ∃ v L, o = .returned v ∧ Q18a Z p1 w2 h0 n0 v U'.heap L ∧ FrameEnd U o U' L ({ frames := 3, cells := 1, slots := 1, locals := 60 } : Room).cells ({ frames := 3, cells := 1, slots := 1, locals := 60 } : Room).slots) := by
  refine MetFree.of_bodySF (plainFor_of_name pnc_java_lang_Integer) hisR ?_
  intro p e s m args below meth c s₁ Bd hml0 hP hK
  obtain ⟨rfl, hZ, hh⟩ := hP
  have hx := Bd.exec
  have hby := Bd.bytes
  have hml : c.maxLocals = 1 := hml0
  have hown : s.vm.findClass "java/lang/Integer" = some m.cls := findClass_of_methodNamed Bd.named
  have hnm := (name_of_methodNamed Bd.named Bd.method).1
  have X0 : Stand p l e ({ frames := 3, cells := 1, slots := 1, locals := 60 } : Room) s m #[(.int p1)] below meth c s₁ [] 0 0 := Stand.of_body Bd
  have e0 : s₁.heap = h0 := by rw [← hh, Bd.state]; rfl
  have N0 := Fr.nil n0
  have Z0 : n0 ≤ h0.size := O0.1 ▸ O0.2.1
  have pre0 : ∀ t, Steps p.tables e below (s₁.setTop (mkF m 0 #[.val (.int p1)] [])) t → Steps p.tables e below (s₁.setTop (entryFrame m #[(.int p1)] 1)) t := fun t k => castTop (ef_18 m p1) k
  obtain ⟨T3, X3, e3, st3⟩ := getS2 X0 hx hZ hown (host := "") (Or.inl (hw _ (List.mem_of_getElem? (i := 149) rfl))) Via.refl e0 (S_high.ext O0.2) (g := (mkF m 7 #[.val (.int p1)] [(.int p1)])) rfl (hb hby d18_7)
  obtain ⟨T4, h4, X4, e4, E4, A4, D4, -, st4⟩ := newO X3 hx hZ hown (hw _ (List.mem_of_getElem? (i := 167) rfl)) (hw _ (List.mem_of_getElem? (i := 168) rfl)) (hw _ (List.mem_of_getElem? (i := 147) rfl)) e3 (g := (mkF m 23 #[.val (.int p1)] [])) rfl (hb hby d18_23) (by decide) (by decide)
  obtain ⟨b4, g4⟩ : ∃ z, z = h0.size := ⟨_, rfl⟩
  rw [← g4] at A4 D4 st4
  have g_b4 : n0 ≤ b4 := Nat.le_trans (Nat.le_trans Z0 (Keep.refl h0 []).1) (Nat.le_of_eq g4.symm)
  have sz_b4 : h0.size ≤ b4 := Nat.le_trans (Keep.refl h0 []).1 (Nat.le_of_eq g4.symm)
  have K5 : Keep h0 h4 [] := (Keep.refl h0 []).ext E4
  have O6 : Old Z n0 h4 := O0.ext E4
  have F_value_b4 : Fld Z h4 b4 "java/lang/Integer" "value" "I" (.int (0 : Int32)) := D4 (Or.inr (hw _ (List.mem_of_getElem? (i := 181) rfl))) (ty := .int) (by decide)
  replace X4 := X4.more (cells' := 1) (slots' := 1) (by decide) (by decide)
  obtain ⟨vr7, _, ⟨T7, L7, k7, n7⟩, -, X7, ⟨Lc7, hQ7, l7, y7, z7⟩, st7⟩ := X4.specialBack hx (y := (⟨"java/lang/Integer", "<init>", "(I)V"⟩ : MethodName)) rfl hown (mvT hZ (hw _ (List.mem_of_getElem? (i := 169) rfl))) (mvT hZ (hw _ (List.mem_of_getElem? (i := 170) rfl))) (mvT hZ (hw _ (List.mem_of_getElem? (i := 172) rfl))) (by decide) (backOf (W := 1) (rm20 l Z a0 hw [] b4 p1 ((.int (0 : Int32))) h4 n0 O6 A4 F_value_b4 g_b4) hZ (hw _ (List.mem_of_getElem? (i := 172) rfl)) (hw _ (List.mem_of_getElem? (i := 147) rfl)) (by decide) (by decide)) (g := (mkF m 28 #[.val (.int p1)] [(.int p1), (.ref b4), (.ref b4)])) rfl (by rw [hml]; rfl) (Steps.refl _) (a := b4) (argsL := [(.int p1)]) (rest := [(.ref b4)]) (lenOf pd_7 rfl) rfl (by show 2 * 0 + _ ≤ _; exact Nat.le_of_eq rfl) (hb hby d18_28) (fun _ _ => ⟨rfl, e4, (by decide : 1 + 0 ≤ _), (by decide : 1 + 0 ≤ _)⟩)
  dsimp only [Pt.U, Pt.locs, Pt.cells, Pt.slots] at X7 l7 y7 z7 st7 hQ7
  subst l7 y7 z7
  obtain ⟨rfl, N7q, K7, Y7_0, Y7_1⟩ := hQ7
  have N7 := Fr.app N0 N7q
  replace X7 := X7.more (cells' := 1) (slots' := 1) (by decide) (by decide)
  have K8 : Keep h0 T7.heap [] := K5.trans K7 (allS (Or.inr sz_b4) all0)
  have O9 : Old Z n0 T7.heap := O6.keep K7 (allS g_b4 all0)
  obtain ⟨fs, hr, hrun, hended, hW, hsame⟩ := X7.leave (v := some (.ref b4)) (fun h => by rw [Bd.returns] at h; cases h)
  refine ⟨_, _, pre0 _ ?_, hrun, hended, _, _, rfl, ?_, ⟨_, rfl⟩, hW, hsame.mono (by decide) (by decide)⟩
  · show Steps p.tables e below (s₁.setTop (mkF m 0 #[.val (.int p1)] [])) _
    refine XS.iloadN X0.here hx rfl (hb hby d18_0) rfl ?_
    show Steps p.tables e below (s₁.setTop (mkF m 1 #[.val (.int p1)] [(.int p1)])) _
    refine XS.bipush X0.here hx rfl (hb hby d18_1) ?_
    show Steps p.tables e below (s₁.setTop (mkF m 3 #[.val (.int p1)] [(.int (-128 : Int32)), (.int p1)])) _
    refine XS.icmpNo X0.here hx rfl (hb hby d18_3) rfl (flt hc3).1 ?_
    show Steps p.tables e below (s₁.setTop (mkF m 6 #[.val (.int p1)] [])) _
    refine XS.iloadN X0.here hx rfl (hb hby d18_6) rfl ?_
    show Steps p.tables e below (s₁.setTop (mkF m 7 #[.val (.int p1)] [(.int p1)])) _
    refine st3 _ ?_
    show Steps p.tables e below (T3.setTop (mkF m 10 #[.val (.int p1)] [(.int w2), (.int p1)])) _
    refine XS.icmpYes X3.here hx rfl (pc0 := 10) (pc' := 23) rfl (hb hby d18_10) rfl (tlt hc10).2.2.1 (by decide) (by decide) ?_
    show Steps p.tables e below (T3.setTop (mkF m 23 #[.val (.int p1)] [])) _
    refine st4 _ ?_
    show Steps p.tables e below (T4.setTop (mkF m 26 #[.val (.int p1)] [(.ref b4)])) _
    refine XS.dup X4.here hx rfl (hb hby d18_26) rfl rfl ?_
    show Steps p.tables e below (T4.setTop (mkF m 27 #[.val (.int p1)] [(.ref b4), (.ref b4)])) _
    refine XS.iloadN X4.here hx rfl (hb hby d18_27) rfl ?_
    show Steps p.tables e below (T4.setTop (mkF m 28 #[.val (.int p1)] [(.int p1), (.ref b4), (.ref b4)])) _
    refine st7.trans ?_
    show Steps p.tables e below (T7.setTop (mkF m 31 #[.val (.int p1)] [(.ref b4)])) _
    exact own_retR X7 hx Bd.returns rfl rfl (hb hby d18_31) hr
  · show Q18a Z p1 w2 h0 n0 _ T7.heap _
    exact ⟨b4, rfl, N7, K8, sz_b4, Y7_0, Y7_1⟩
theorem d18_13 : decode jdk_33_method_22_code 13 = .ok (.getstatic 195, 3) := by decide +kernel
theorem d18_16 : decode jdk_33_method_22_code 16 = .ok (.iload_n 0, 1) := by decide +kernel
theorem d18_17 : decode jdk_33_method_22_code 17 = .ok (.sipush 128, 3) := by decide +kernel
theorem d18_20 : decode jdk_33_method_22_code 20 = .ok (.iadd, 1) := by decide +kernel
theorem d18_21 : decode jdk_33_method_22_code 21 = .ok (.aaload, 1) := by decide +kernel
theorem d18_22 : decode jdk_33_method_22_code 22 = .ok (.areturn, 1) := by decide +kernel
def Q18c (Z : State) (p1 w2 : Int32) (w4 : Addr) (cl6 : Cell) (w7 : Addr) (h0 : Heap) (n0 : Nat) (v : Option Value) (h : Heap) (L : List Loc) : Prop := v = some (.ref w7) ∧ Fr n0 L ∧ h = h0
set_option maxRecDepth 65536 in
set_option maxHeartbeats 40000000 in
theorem rm18c (l : Launch) (Z : State) (a0 : Array Value) (hw : ∀ d ∈ tables_1, d.before a0 Z = true) (ws : List Jvm.Cond) (p1 w2 : Int32) (w4 : Addr) (cl6 : Cell) (w7 : Addr) (h0 : Heap) (n0 : Nat) (O0 : Old Z n0 h0) (hc3 : ¬ (p1 < (-128 : Int32))) (S_high : Sta Z Z.heap "java/lang/Integer$IntegerCache" "high" "I" (.int w2)) (hc10 : ¬ (w2 < p1)) (S_cache : Sta Z Z.heap "java/lang/Integer$IntegerCache" "cache" "[Ljava/lang/Integer;" (.ref w4)) (HA_w4 : Arr Z h0 w4 cl6 (.object "java/lang/Integer")) (hin21 : ¬ ((p1 + (128 : Int32)) < 0 ∨ cl6.slots.size ≤ ((p1 + (128 : Int32))).toNatClampNeg)) (hat21 : cl6.slots[((p1 + (128 : Int32))).toNatClampNeg]? = some (.ref w7)) :
    MetFree l (⟨"java/lang/Integer", "valueOf", "(I)Ljava/lang/Integer;"⟩ : MethodName) (head1 (Jvm.Cond.code (⟨"java/lang/Integer", "valueOf", "(I)Ljava/lang/Integer;"⟩ : MethodName) jdk_33_method_22_code 1 (some (.object "java/lang/Integer")) :: ws) ({ frames := 3, cells := 1, slots := 1, locals := 60 } : Room)) (fun a U => a = #[(.int p1)] ∧ Z.Warmed39 U.vm ∧ U.heap = h0) (fun _ _ _ _ _ => True) (fun _ U o U' => ∃ v L, o = .returned v ∧ Q18c Z p1 w2 w4 cl6 w7 h0 n0 v U'.heap L ∧ FrameEnd U o U' L ({ frames := 3, cells := 1, slots := 1, locals := 60 } : Room).cells ({ frames := 3, cells := 1, slots := 1, locals := 60 } : Room).slots) := by
  refine MetFree.of_bodySF (plainFor_of_name pnc_java_lang_Integer) hisR ?_
  intro p e s m args below meth c s₁ Bd hml0 hP hK
  obtain ⟨rfl, hZ, hh⟩ := hP
  have hx := Bd.exec
  have hby := Bd.bytes
  have hml : c.maxLocals = 1 := hml0
  have hown : s.vm.findClass "java/lang/Integer" = some m.cls := findClass_of_methodNamed Bd.named
  have hnm := (name_of_methodNamed Bd.named Bd.method).1
  have X0 : Stand p l e ({ frames := 3, cells := 1, slots := 1, locals := 60 } : Room) s m #[(.int p1)] below meth c s₁ [] 0 0 := Stand.of_body Bd
  have e0 : s₁.heap = h0 := by rw [← hh, Bd.state]; rfl
  have N0 := Fr.nil n0
  have Z0 : n0 ≤ h0.size := O0.1 ▸ O0.2.1
  have pre0 : ∀ t, Steps p.tables e below (s₁.setTop (mkF m 0 #[.val (.int p1)] [])) t → Steps p.tables e below (s₁.setTop (entryFrame m #[(.int p1)] 1)) t := fun t k => castTop (ef_18 m p1) k
  obtain ⟨T3, X3, e3, st3⟩ := getS2 X0 hx hZ hown (host := "") (Or.inl (hw _ (List.mem_of_getElem? (i := 149) rfl))) Via.refl e0 (S_high.ext O0.2) (g := (mkF m 7 #[.val (.int p1)] [(.int p1)])) rfl (hb hby d18_7)
  obtain ⟨T5, X5, e5, st5⟩ := getS2 X3 hx hZ hown (host := "") (Or.inl (hw _ (List.mem_of_getElem? (i := 151) rfl))) Via.refl e3 (S_cache.ext O0.2) (g := (mkF m 13 #[.val (.int p1)] [])) rfl (hb hby d18_13)
  obtain ⟨fs, hr, hrun, hended, hW, hsame⟩ := X5.leave (v := some (.ref w7)) (fun h => by rw [Bd.returns] at h; cases h)
  refine ⟨_, _, pre0 _ ?_, hrun, hended, _, _, rfl, ?_, ⟨_, rfl⟩, hW, hsame.mono (by decide) (by decide)⟩
  · show Steps p.tables e below (s₁.setTop (mkF m 0 #[.val (.int p1)] [])) _
    refine XS.iloadN X0.here hx rfl (hb hby d18_0) rfl ?_
    show Steps p.tables e below (s₁.setTop (mkF m 1 #[.val (.int p1)] [(.int p1)])) _
    refine XS.bipush X0.here hx rfl (hb hby d18_1) ?_
    show Steps p.tables e below (s₁.setTop (mkF m 3 #[.val (.int p1)] [(.int (-128 : Int32)), (.int p1)])) _
    refine XS.icmpNo X0.here hx rfl (hb hby d18_3) rfl (flt hc3).1 ?_
    show Steps p.tables e below (s₁.setTop (mkF m 6 #[.val (.int p1)] [])) _
    refine XS.iloadN X0.here hx rfl (hb hby d18_6) rfl ?_
    show Steps p.tables e below (s₁.setTop (mkF m 7 #[.val (.int p1)] [(.int p1)])) _
    refine st3 _ ?_
    show Steps p.tables e below (T3.setTop (mkF m 10 #[.val (.int p1)] [(.int w2), (.int p1)])) _
    refine XS.icmpNo X3.here hx rfl (hb hby d18_10) rfl (flt hc10).2.2.1 ?_
    show Steps p.tables e below (T3.setTop (mkF m 13 #[.val (.int p1)] [])) _
    refine st5 _ ?_
    show Steps p.tables e below (T5.setTop (mkF m 16 #[.val (.int p1)] [(.ref w4)])) _
    refine XS.iloadN X5.here hx rfl (hb hby d18_16) rfl ?_
    show Steps p.tables e below (T5.setTop (mkF m 17 #[.val (.int p1)] [(.int p1), (.ref w4)])) _
    refine XS.sipush X5.here hx rfl (hb hby d18_17) ?_
    show Steps p.tables e below (T5.setTop (mkF m 20 #[.val (.int p1)] [(.int (128 : Int32)), (.int p1), (.ref w4)])) _
    refine XS.iadd X5.here hx rfl (hb hby d18_20) rfl ?_
    show Steps p.tables e below (T5.setTop (mkF m 21 #[.val (.int p1)] [(.int (p1 + (128 : Int32))), (.ref w4)])) _
    refine X5.aaload hx (j := (p1 + (128 : Int32))) (v := (.ref w7)) (by rw [e5]; exact HA_w4.1) (State.isArrayOf_alike hZ.alike HA_w4.2.1) rfl HA_w4.2.2 hin21 hat21 (g := (mkF m 21 #[.val (.int p1)] [(.int (p1 + (128 : Int32))), (.ref w4)])) rfl rfl (hb hby d18_21) _ ?_
    show Steps p.tables e below (T5.setTop (mkF m 22 #[.val (.int p1)] [(.ref w7)])) _
    exact own_retR X5 hx Bd.returns rfl rfl (hb hby d18_22) hr
  · show Q18c Z p1 w2 w4 cl6 w7 h0 n0 _ T5.heap _
    rw [e5]
    exact ⟨rfl, N0, rfl⟩
def Q18 (Z : State) (p1 : Int32) (wI : Addr) (clI : Cell) (h0 : Heap) (n0 : Nat) (v : Option Value) (h : Heap) (L : List Loc) : Prop := ∃ y : Addr, v = some (.ref y) ∧ Fr n0 L ∧ Keep h0 h [] ∧ Exa Z h y "java/lang/Integer"
theorem rm18 (l : Launch) (Z : State) (a0 : Array Value) (hw : ∀ d ∈ tables_1, d.before a0 Z = true) (ws : List Jvm.Cond) (p1 : Int32) (wI : Addr) (clI : Cell) (h0 : Heap) (n0 : Nat) (O0 : Old Z n0 h0) (S_high : Sta Z Z.heap "java/lang/Integer$IntegerCache" "high" "I" (.int (127 : Int32))) (S_cache : Sta Z Z.heap "java/lang/Integer$IntegerCache" "cache" "[Ljava/lang/Integer;" (.ref wI)) (HAI : Arr Z Z.heap wI clI (.object "java/lang/Integer")) (HCI : ∀ j : Int32, ¬ j < 0 → j < 256 → ¬ (j < 0 ∨ clI.slots.size ≤ j.toNatClampNeg) ∧ ∃ y, clI.slots[j.toNatClampNeg]? = some (.ref y) ∧ Exa Z Z.heap y "java/lang/Integer") :
    MetFree l (⟨"java/lang/Integer", "valueOf", "(I)Ljava/lang/Integer;"⟩ : MethodName) (head1 (Jvm.Cond.code (⟨"java/lang/Integer", "valueOf", "(I)Ljava/lang/Integer;"⟩ : MethodName) jdk_33_method_22_code 1 (some (.object "java/lang/Integer")) :: ws) ({ frames := 3, cells := 1, slots := 1, locals := 60 } : Room)) (fun a U => a = #[(.int p1)] ∧ Z.Warmed39 U.vm ∧ U.heap = h0) (fun _ _ _ _ _ => True) (fun _ U o U' => ∃ v L, o = .returned v ∧ Q18 Z p1 wI clI h0 n0 v U'.heap L ∧ FrameEnd U o U' L ({ frames := 3, cells := 1, slots := 1, locals := 60 } : Room).cells ({ frames := 3, cells := 1, slots := 1, locals := 60 } : Room).slots) := by
  intro p e ha hc hk s m args below hf happ hP hK
  by_cases c1 : p1 < (-128 : Int32)
  · obtain ⟨n, o, q1, q2, q3, v, L, rfl, ⟨b, rfl, N, K, -, E, -⟩, hF⟩ := rm18b l Z a0 hw ws p1 h0 n0 O0 c1 p e ha hc hk s m args below hf happ hP hK
    exact ⟨n, _, q1, q2, q3, _, L, rfl, ⟨b, rfl, N, K, E⟩, hF⟩
  · by_cases c2 : (127 : Int32) < p1
    · obtain ⟨n, o, q1, q2, q3, v, L, rfl, ⟨b, rfl, N, K, -, E, -⟩, hF⟩ := rm18a l Z a0 hw ws p1 127 h0 n0 O0 c1 S_high c2 p e ha hc hk s m args below hf happ hP hK
      exact ⟨n, _, q1, q2, q3, _, L, rfl, ⟨b, rfl, N, K, E⟩, hF⟩
    · have r1 := c1
      have r2 := c2
      rw [Int32.lt_iff_toInt_lt, show (-128 : Int32).toInt = -128 from rfl] at r1
      rw [Int32.lt_iff_toInt_lt, show (127 : Int32).toInt = 127 from rfl] at r2
      have t2 := c_iadd p1 128
      have t3 := rng32 (p1 + 128)
      rw [show (128 : Int32).toInt = 128 from rfl] at t2
      obtain ⟨z1, y, z2, E⟩ := HCI (p1 + 128) (by rw [Int32.lt_iff_toInt_lt, show (0 : Int32).toInt = 0 from rfl]; omega) (by rw [Int32.lt_iff_toInt_lt, show (256 : Int32).toInt = 256 from rfl]; omega)
      obtain ⟨n, o, q1, q2, q3, v, L, rfl, ⟨rfl, N, e1⟩, hF⟩ := rm18c l Z a0 hw ws p1 127 wI clI y h0 n0 O0 c1 S_high c2 S_cache (HAI.ext O0.2) z1 z2 p e ha hc hk s m args below hf happ hP hK
      exact ⟨n, _, q1, q2, q3, _, L, rfl, ⟨y, rfl, N, by rw [e1]; exact Keep.refl _ _, by rw [e1]; exact E.ext O0.2⟩, hF⟩
theorem d11_0 : decode jdk_43_method_3_code 0 = .ok (.iload_n 0, 1) := by decide +kernel
theorem d11_1 : decode jdk_43_method_3_code 1 = .ok (.sipush 255, 3) := by decide +kernel
theorem d11_4 : decode jdk_43_method_3_code 4 = .ok (.if_icmp .gt 7, 3) := by decide +kernel
theorem d11_7 : decode jdk_43_method_3_code 7 = .ok (.iconst 1, 1) := by decide +kernel
theorem d11_8 : decode jdk_43_method_3_code 8 = .ok (.goto 4, 3) := by decide +kernel
theorem d11_12 : decode jdk_43_method_3_code 12 = .ok (.ireturn, 1) := by decide +kernel
def Q11 (Z : State) (p1 : Int32) (h0 : Heap) (n0 : Nat) (v : Option Value) (h : Heap) (L : List Loc) : Prop := v = some (.int (1 : Int32)) ∧ Fr n0 L ∧ h = h0
theorem ef_11 (m : MethodId) (x0 : Int32) : entryFrame m #[(.int x0)] 1 = mkF m 0 #[.val (.int x0)] [] := by first | (simp [entryFrame, mkF, argsToLocals, Value.category]; done) | rfl
theorem pnc_java_lang_StringLatin1 : plainName "java/lang/StringLatin1" = true := by first | (simp [plainName, overriddenIn]; done) | decide +kernel
set_option maxRecDepth 65536 in
set_option maxHeartbeats 40000000 in
theorem rm11 (l : Launch) (Z : State) (a0 : Array Value) (hw : ∀ d ∈ tables_1, d.before a0 Z = true) (ws : List Jvm.Cond) (p1 : Int32) (h0 : Heap) (n0 : Nat) (O0 : Old Z n0 h0) (hc4 : ¬ ((255 : Int32) < p1)) :
    MetFree l (⟨"java/lang/StringLatin1", "canEncode", "(C)Z"⟩ : MethodName) (head1 (Jvm.Cond.code (⟨"java/lang/StringLatin1", "canEncode", "(C)Z"⟩ : MethodName) jdk_43_method_3_code 1 (some .boolean) :: ws) ({ frames := 0, cells := 0, slots := 0, locals := 0 } : Room)) (fun a U => a = #[(.int p1)] ∧ Z.Warmed39 U.vm ∧ U.heap = h0) (fun _ _ _ _ _ => True) (fun _ U o U' => ∃ v L, o = .returned v ∧ Q11 Z p1 h0 n0 v U'.heap L ∧ FrameEnd U o U' L ({ frames := 0, cells := 0, slots := 0, locals := 0 } : Room).cells ({ frames := 0, cells := 0, slots := 0, locals := 0 } : Room).slots) := by
  refine MetFree.of_bodySF (plainFor_of_name pnc_java_lang_StringLatin1) hisR ?_
  intro p e s m args below meth c s₁ Bd hml0 hP hK
  obtain ⟨rfl, hZ, hh⟩ := hP
  have hx := Bd.exec
  have hby := Bd.bytes
  have hml : c.maxLocals = 1 := hml0
  have hown : s.vm.findClass "java/lang/StringLatin1" = some m.cls := findClass_of_methodNamed Bd.named
  have hnm := (name_of_methodNamed Bd.named Bd.method).1
  have X0 : Stand p l e ({ frames := 0, cells := 0, slots := 0, locals := 0 } : Room) s m #[(.int p1)] below meth c s₁ [] 0 0 := Stand.of_body Bd
  have e0 : s₁.heap = h0 := by rw [← hh, Bd.state]; rfl
  have N0 := Fr.nil n0
  have Z0 : n0 ≤ h0.size := O0.1 ▸ O0.2.1
  have pre0 : ∀ t, Steps p.tables e below (s₁.setTop (mkF m 0 #[.val (.int p1)] [])) t → Steps p.tables e below (s₁.setTop (entryFrame m #[(.int p1)] 1)) t := fun t k => castTop (ef_11 m p1) k
  obtain ⟨fs, hr, hrun, hended, hW, hsame⟩ := X0.leave (v := some (.int (1 : Int32))) (fun h => by rw [Bd.returns] at h; cases h)
  refine ⟨_, _, pre0 _ ?_, hrun, hended, _, _, rfl, ?_, ⟨_, rfl⟩, hW, hsame.mono (by decide) (by decide)⟩
  · show Steps p.tables e below (s₁.setTop (mkF m 0 #[.val (.int p1)] [])) _
    refine XS.iloadN X0.here hx rfl (hb hby d11_0) rfl ?_
    show Steps p.tables e below (s₁.setTop (mkF m 1 #[.val (.int p1)] [(.int p1)])) _
    refine XS.sipush X0.here hx rfl (hb hby d11_1) ?_
    show Steps p.tables e below (s₁.setTop (mkF m 4 #[.val (.int p1)] [(.int (255 : Int32)), (.int p1)])) _
    refine XS.icmpNo X0.here hx rfl (hb hby d11_4) rfl (flt hc4).2.2.1 ?_
    show Steps p.tables e below (s₁.setTop (mkF m 7 #[.val (.int p1)] [])) _
    refine XS.iconst X0.here hx rfl (hb hby d11_7) ?_
    show Steps p.tables e below (s₁.setTop (mkF m 8 #[.val (.int p1)] [(.int (1 : Int32))])) _
    refine XS.goto X0.here hx rfl (pc0 := 8) (pc' := 12) rfl (hb hby d11_8) (by decide) (by decide) ?_
    show Steps p.tables e below (s₁.setTop (mkF m 12 #[.val (.int p1)] [(.int (1 : Int32))])) _
    exact retN X0 hx (t := .boolean) Bd.returns (by simp) (hb hby d11_12) hr
  · show Q11 Z p1 h0 n0 _ s₁.heap _
    rw [e0]
    exact ⟨rfl, N0, rfl⟩
theorem d12_0 : decode jdk_43_method_46_code 0 = .ok (.iconst 1, 1) := by decide +kernel
theorem d12_1 : decode jdk_43_method_46_code 1 = .ok (.newarray .byte, 2) := by decide +kernel
theorem d12_3 : decode jdk_43_method_46_code 3 = .ok (.dup, 1) := by decide +kernel
theorem d12_4 : decode jdk_43_method_46_code 4 = .ok (.iconst 0, 1) := by decide +kernel
theorem d12_5 : decode jdk_43_method_46_code 5 = .ok (.iload_n 0, 1) := by decide +kernel
theorem d12_6 : decode jdk_43_method_46_code 6 = .ok (.i2b, 1) := by decide +kernel
theorem d12_7 : decode jdk_43_method_46_code 7 = .ok (.bastore, 1) := by decide +kernel
theorem d12_8 : decode jdk_43_method_46_code 8 = .ok (.areturn, 1) := by decide +kernel
def Q12 (Z : State) (p1 : Int32) (h0 : Heap) (n0 : Nat) (v : Option Value) (h : Heap) (L : List Loc) : Prop := ∃ b2 : Addr, ∃ k2 : ClassId, v = some (.ref b2) ∧ Fr n0 L ∧ Keep h0 h [] ∧ h0.size ≤ b2 ∧ Arv Z h b2 k2 .byte (1 : Int32) [(.int (p1.toInt8.toInt32).toInt8.toInt32)] (.int (0 : Int32))
theorem ef_12 (m : MethodId) (x0 : Int32) : entryFrame m #[(.int x0)] 1 = mkF m 0 #[.val (.int x0)] [] := by first | (simp [entryFrame, mkF, argsToLocals, Value.category]; done) | rfl
set_option maxRecDepth 65536 in
set_option maxHeartbeats 40000000 in
theorem rm12 (l : Launch) (Z : State) (a0 : Array Value) (hw : ∀ d ∈ tables_1, d.before a0 Z = true) (ws : List Jvm.Cond) (p1 : Int32) (h0 : Heap) (n0 : Nat) (O0 : Old Z n0 h0) :
    MetFree l (⟨"java/lang/StringLatin1", "toBytes", "(C)[B"⟩ : MethodName) (head1 (Jvm.Cond.code (⟨"java/lang/StringLatin1", "toBytes", "(C)[B"⟩ : MethodName) jdk_43_method_46_code 1 (some (.array .byte)) :: ws) ({ frames := 0, cells := 1, slots := 1, locals := 0 } : Room)) (fun a U => a = #[(.int p1)] ∧ Z.Warmed39 U.vm ∧ U.heap = h0) (fun _ _ _ _ _ => True) (fun _ U o U' => ∃ v L, o = .returned v ∧ Q12 Z p1 h0 n0 v U'.heap L ∧ FrameEnd U o U' L ({ frames := 0, cells := 1, slots := 1, locals := 0 } : Room).cells ({ frames := 0, cells := 1, slots := 1, locals := 0 } : Room).slots) := by
  refine MetFree.of_bodySF (plainFor_of_name pnc_java_lang_StringLatin1) hisR ?_
  intro p e s m args below meth c s₁ Bd hml0 hP hK
  obtain ⟨rfl, hZ, hh⟩ := hP
  have hx := Bd.exec
  have hby := Bd.bytes
  have hml : c.maxLocals = 1 := hml0
  have hown : s.vm.findClass "java/lang/StringLatin1" = some m.cls := findClass_of_methodNamed Bd.named
  have hnm := (name_of_methodNamed Bd.named Bd.method).1
  have X0 : Stand p l e ({ frames := 0, cells := 1, slots := 1, locals := 0 } : Room) s m #[(.int p1)] below meth c s₁ [] 0 0 := Stand.of_body Bd
  have e0 : s₁.heap = h0 := by rw [← hh, Bd.state]; rfl
  have N0 := Fr.nil n0
  have Z0 : n0 ≤ h0.size := O0.1 ▸ O0.2.1
  have pre0 : ∀ t, Steps p.tables e below (s₁.setTop (mkF m 0 #[.val (.int p1)] [])) t → Steps p.tables e below (s₁.setTop (entryFrame m #[(.int p1)] 1)) t := fun t k => castTop (ef_12 m p1) k
  obtain ⟨T2, h2, k2, X2, e2, E2, A2, st2⟩ := newP X0 hx hZ (hw _ (List.mem_of_getElem? (i := 77) rfl)) e0 (g := (mkF m 1 #[.val (.int p1)] [(.int (1 : Int32))])) rfl (hb hby d12_1) rfl (by decide) (cap := 1) (by decide) (by decide) (by decide) (by decide)
  obtain ⟨b2, g2⟩ : ∃ z, z = h0.size := ⟨_, rfl⟩
  rw [← g2] at A2 st2
  have g_b2 : n0 ≤ b2 := Nat.le_trans (Nat.le_trans Z0 (Keep.refl h0 []).1) (Nat.le_of_eq g2.symm)
  have sz_b2 : h0.size ≤ b2 := Nat.le_trans (Keep.refl h0 []).1 (Nat.le_of_eq g2.symm)
  have K3 : Keep h0 h2 [] := (Keep.refl h0 []).ext E2
  have O4 : Old Z n0 h2 := O0.ext E2
  have V2 : Arv Z h2 b2 k2 .byte (1 : Int32) [(.int (0 : Int32))] (.int (0 : Int32)) := (Arv.new A2 (by decide)).pad (pad_rep [] (.int (0 : Int32)) 1)
  replace X2 := X2.more (cells' := 1) (slots' := 1) (by decide) (by decide)
  obtain ⟨cl5, Ar5, q5, S5, Nn5, Hh5, G5⟩ := id V2
  have hin5 : ¬ ((0 : Int32) < 0 ∨ cl5.slots.size ≤ ((0 : Int32)).toNatClampNeg) := inb_of S5 ⟨by decide, by decide⟩
  obtain ⟨T6, h6, X6, e6, W6, st6⟩ := stB X2 hx hZ e2 Ar5 (j := (0 : Int32)) hin5 (g := (mkF m 7 #[.val (.int p1)] [(.int (p1.toInt8.toInt32)), (.int (0 : Int32)), (.ref b2), (.ref b2)])) rfl rfl (hb hby d12_7)
  have N6 := Fr.snoc X6 N0 g_b2
  have K7 : Keep h0 h6 [] := K3.wr W6 (Or.inr sz_b2)
  have O8 : Old Z n0 h6 := O4.wr W6 g_b2
  have V6 : Arv Z h6 b2 k2 .byte (1 : Int32) [(.int (p1.toInt8.toInt32).toInt8.toInt32)] (.int (0 : Int32)) := Arv.set Ar5 q5 S5 Nn5 Hh5 G5 (fits_nar_byte _) W6 0 rfl (Nat.le_of_ble_eq_true rfl)
  obtain ⟨fs, hr, hrun, hended, hW, hsame⟩ := X6.leave (v := some (.ref b2)) (fun h => by rw [Bd.returns] at h; cases h)
  refine ⟨_, _, pre0 _ ?_, hrun, hended, _, _, rfl, ?_, ⟨_, rfl⟩, hW, hsame.mono (by decide) (by decide)⟩
  · show Steps p.tables e below (s₁.setTop (mkF m 0 #[.val (.int p1)] [])) _
    refine XS.iconst X0.here hx rfl (hb hby d12_0) ?_
    show Steps p.tables e below (s₁.setTop (mkF m 1 #[.val (.int p1)] [(.int (1 : Int32))])) _
    refine st2 _ ?_
    show Steps p.tables e below (T2.setTop (mkF m 3 #[.val (.int p1)] [(.ref b2)])) _
    refine XS.dup X2.here hx rfl (hb hby d12_3) rfl rfl ?_
    show Steps p.tables e below (T2.setTop (mkF m 4 #[.val (.int p1)] [(.ref b2), (.ref b2)])) _
    refine XS.iconst X2.here hx rfl (hb hby d12_4) ?_
    show Steps p.tables e below (T2.setTop (mkF m 5 #[.val (.int p1)] [(.int (0 : Int32)), (.ref b2), (.ref b2)])) _
    refine XS.iloadN X2.here hx rfl (hb hby d12_5) rfl ?_
    show Steps p.tables e below (T2.setTop (mkF m 6 #[.val (.int p1)] [(.int p1), (.int (0 : Int32)), (.ref b2), (.ref b2)])) _
    refine XS.i2b X2.here hx rfl (hb hby d12_6) rfl ?_
    show Steps p.tables e below (T2.setTop (mkF m 7 #[.val (.int p1)] [(.int (p1.toInt8.toInt32)), (.int (0 : Int32)), (.ref b2), (.ref b2)])) _
    refine st6 _ ?_
    show Steps p.tables e below (T6.setTop (mkF m 8 #[.val (.int p1)] [(.ref b2)])) _
    exact own_retR X6 hx Bd.returns rfl rfl (hb hby d12_8) hr
  · show Q12 Z p1 h0 n0 _ T6.heap _
    rw [e6]
    exact ⟨b2, k2, rfl, N6, K7, sz_b2, V6⟩
theorem d13_0 : decode jdk_42_method_151_code 0 = .ok (.aload_n 0, 1) := by decide +kernel
theorem d13_1 : decode jdk_42_method_151_code 1 = .ok (.invokespecial 1, 3) := by decide +kernel
theorem d13_4 : decode jdk_42_method_151_code 4 = .ok (.aload_n 0, 1) := by decide +kernel
theorem d13_5 : decode jdk_42_method_151_code 5 = .ok (.aload_n 1, 1) := by decide +kernel
theorem d13_6 : decode jdk_42_method_151_code 6 = .ok (.putfield 9, 3) := by decide +kernel
theorem d13_9 : decode jdk_42_method_151_code 9 = .ok (.aload_n 0, 1) := by decide +kernel
theorem d13_10 : decode jdk_42_method_151_code 10 = .ok (.iload_n 2, 1) := by decide +kernel
theorem d13_11 : decode jdk_42_method_151_code 11 = .ok (.putfield 15, 3) := by decide +kernel
theorem d13_14 : decode jdk_42_method_151_code 14 = .ok (.return_, 1) := by decide +kernel
def Q13 (Z : State) (a1 a2 : Addr) (p3 : Int32) (u5 u10 : Value) (h0 : Heap) (n0 : Nat) (v : Option Value) (h : Heap) (L : List Loc) : Prop := v = none ∧ Fr n0 L ∧ Keep h0 h [a1] ∧ Exa Z h a1 "java/lang/String" ∧ Fld Z h a1 "java/lang/String" "coder" "B" (.int p3.toInt8.toInt32) ∧ Fld Z h a1 "java/lang/String" "value" "[B" (.ref a2)
theorem ef_13 (m : MethodId) (x0 : Addr) (x1 : Addr) (x2 : Int32) : entryFrame m #[(.ref x0), (.ref x1), (.int x2)] 3 = mkF m 0 #[.val (.ref x0), .val (.ref x1), .val (.int x2)] [] := by first | (simp [entryFrame, mkF, argsToLocals, Value.category]; done) | rfl
theorem pnc_java_lang_String : plainName "java/lang/String" = true := by first | (simp [plainName, overriddenIn]; done) | decide +kernel
set_option maxRecDepth 65536 in
set_option maxHeartbeats 40000000 in
theorem rm13 (l : Launch) (Z : State) (a0 : Array Value) (hw : ∀ d ∈ tables_1, d.before a0 Z = true) (ws : List Jvm.Cond) (a1 a2 : Addr) (p3 : Int32) (u5 u10 : Value) (h0 : Heap) (n0 : Nat) (O0 : Old Z n0 h0) (HE_a1 : Exa Z h0 a1 "java/lang/String") (HF_a1_value : Fld Z h0 a1 "java/lang/String" "value" "[B" u5) (g_a1 : n0 ≤ a1) (HF_a1_coder : Fld Z h0 a1 "java/lang/String" "coder" "B" u10) :
    MetFree l (⟨"java/lang/String", "<init>", "([BB)V"⟩ : MethodName) (head1 (Jvm.Cond.code (⟨"java/lang/String", "<init>", "([BB)V"⟩ : MethodName) jdk_42_method_151_code 3 none :: ws) ({ frames := 1, cells := 0, slots := 0, locals := 12 } : Room)) (fun a U => a = #[(.ref a1), (.ref a2), (.int p3)] ∧ Z.Warmed39 U.vm ∧ U.heap = h0) (fun _ _ _ _ _ => True) (fun _ U o U' => ∃ v L, o = .returned v ∧ Q13 Z a1 a2 p3 u5 u10 h0 n0 v U'.heap L ∧ FrameEnd U o U' L ({ frames := 1, cells := 0, slots := 0, locals := 12 } : Room).cells ({ frames := 1, cells := 0, slots := 0, locals := 12 } : Room).slots) := by
  refine MetFree.of_bodySF (plainFor_of_name pnc_java_lang_String) hisR ?_
  intro p e s m args below meth c s₁ Bd hml0 hP hK
  obtain ⟨rfl, hZ, hh⟩ := hP
  have hx := Bd.exec
  have hby := Bd.bytes
  have hml : c.maxLocals = 3 := hml0
  have hown : s.vm.findClass "java/lang/String" = some m.cls := findClass_of_methodNamed Bd.named
  have hnm := (name_of_methodNamed Bd.named Bd.method).1
  have X0 : Stand p l e ({ frames := 1, cells := 0, slots := 0, locals := 12 } : Room) s m #[(.ref a1), (.ref a2), (.int p3)] below meth c s₁ [] 0 0 := Stand.of_body Bd
  have e0 : s₁.heap = h0 := by rw [← hh, Bd.state]; rfl
  have N0 := Fr.nil n0
  have Z0 : n0 ≤ h0.size := O0.1 ▸ O0.2.1
  have pre0 : ∀ t, Steps p.tables e below (s₁.setTop (mkF m 0 #[.val (.ref a1), .val (.ref a2), .val (.int p3)] [])) t → Steps p.tables e below (s₁.setTop (entryFrame m #[(.ref a1), (.ref a2), (.int p3)] 3)) t := fun t k => castTop (ef_13 m a1 a2 p3) k
  obtain ⟨T4, X4, e4, st4⟩ := initO X0 hx hZ hown (hw _ (List.mem_of_getElem? (i := 82) rfl)) (hw _ (List.mem_of_getElem? (i := 22) rfl)) (hw _ (List.mem_of_getElem? (i := 23) rfl)) e0 (g := (mkF m 1 #[.val (.ref a1), .val (.ref a2), .val (.int p3)] [(.ref a1)])) rfl (by rw [hml]; rfl) rfl (hb hby d13_1) (by decide) (W := 0) (by show 2 * 0 + _ ≤ _; exact Nat.le_of_eq rfl) (by decide)
  obtain ⟨T6, h6, X6, e6, W6, st6⟩ := putF X4 hx hZ hown (host := "") (Or.inl (hw _ (List.mem_of_getElem? (i := 83) rfl))) Via.refl e4 HF_a1_value HE_a1 (Or.inr ⟨(hw _ (List.mem_of_getElem? (i := 84) rfl)), rfl, hnm⟩) (hw _ (List.mem_of_getElem? (i := 73) rfl)) (ty := (.array .byte)) (by decide) rfl rfl (g := (mkF m 6 #[.val (.ref a1), .val (.ref a2), .val (.int p3)] [(.ref a2), (.ref a1)])) rfl rfl (hb hby d13_6)
  have N6 := Fr.snoc X6 N0 g_a1
  have K7 : Keep h0 h6 [a1] := (Keep.refl h0 [a1]).wr W6 (Or.inl (List.mem_of_getElem? (i := 0) rfl))
  have O8 : Old Z n0 h6 := O0.wr W6 g_a1
  have Fw6 : Fld Z h6 a1 "java/lang/String" "value" "[B" (.ref a2) := HF_a1_value.same W6
  have f9 := (HE_a1.wr W6)
  have f11 := (HF_a1_coder.other W6 (Or.inr (slot_ne (Or.inr (hw _ (List.mem_of_getElem? (i := 86) rfl))) (Or.inr (hw _ (List.mem_of_getElem? (i := 84) rfl))) (by decide) (t := .byte) (t' := (.array .byte)) (by decide) (by decide))))
  obtain ⟨T12, h12, X12, e12, W12, st12⟩ := putFN X6 hx hZ hown (hw _ (List.mem_of_getElem? (i := 85) rfl)) Via.refl e6 f11 f9 (Or.inr ⟨(hw _ (List.mem_of_getElem? (i := 86) rfl)), rfl, hnm⟩) (hw _ (List.mem_of_getElem? (i := 73) rfl)) (ty := .byte) (v' := (.int p3.toInt8.toInt32)) (by decide) rfl (fits_nar_byte _) (g := (mkF m 11 #[.val (.ref a1), .val (.ref a2), .val (.int p3)] [(.int p3), (.ref a1)])) rfl rfl (hb hby d13_11)
  have N12 := Fr.snoc X12 N6 g_a1
  have K13 : Keep h0 h12 [a1] := K7.wr W12 (Or.inl (List.mem_of_getElem? (i := 0) rfl))
  have O14 : Old Z n0 h12 := O8.wr W12 g_a1
  have Fw12 : Fld Z h12 a1 "java/lang/String" "coder" "B" (.int p3.toInt8.toInt32) := f11.same W12
  have f15 := (f9.wr W12)
  have f16 := (Fw6.other W12 (Or.inr (slot_ne (Or.inr (hw _ (List.mem_of_getElem? (i := 84) rfl))) (Or.inr (hw _ (List.mem_of_getElem? (i := 86) rfl))) (by decide) (t := (.array .byte)) (t' := .byte) (by decide) (by decide))))
  obtain ⟨fs, hr, hrun, hended, hW, hsame⟩ := X12.leave (v := none) (fun _ => rfl)
  refine ⟨_, _, pre0 _ ?_, hrun, hended, _, _, rfl, ?_, ⟨_, rfl⟩, hW, hsame.mono (by decide) (by decide)⟩
  · show Steps p.tables e below (s₁.setTop (mkF m 0 #[.val (.ref a1), .val (.ref a2), .val (.int p3)] [])) _
    refine XS.aloadN X0.here hx rfl (hb hby d13_0) rfl rfl ?_
    show Steps p.tables e below (s₁.setTop (mkF m 1 #[.val (.ref a1), .val (.ref a2), .val (.int p3)] [(.ref a1)])) _
    refine st4 _ ?_
    show Steps p.tables e below (T4.setTop (mkF m 4 #[.val (.ref a1), .val (.ref a2), .val (.int p3)] [])) _
    refine XS.aloadN X4.here hx rfl (hb hby d13_4) rfl rfl ?_
    show Steps p.tables e below (T4.setTop (mkF m 5 #[.val (.ref a1), .val (.ref a2), .val (.int p3)] [(.ref a1)])) _
    refine XS.aloadN X4.here hx rfl (hb hby d13_5) rfl rfl ?_
    show Steps p.tables e below (T4.setTop (mkF m 6 #[.val (.ref a1), .val (.ref a2), .val (.int p3)] [(.ref a2), (.ref a1)])) _
    refine st6 _ ?_
    show Steps p.tables e below (T6.setTop (mkF m 9 #[.val (.ref a1), .val (.ref a2), .val (.int p3)] [])) _
    refine XS.aloadN X6.here hx rfl (hb hby d13_9) rfl rfl ?_
    show Steps p.tables e below (T6.setTop (mkF m 10 #[.val (.ref a1), .val (.ref a2), .val (.int p3)] [(.ref a1)])) _
    refine XS.iloadN X6.here hx rfl (hb hby d13_10) rfl ?_
    show Steps p.tables e below (T6.setTop (mkF m 11 #[.val (.ref a1), .val (.ref a2), .val (.int p3)] [(.int p3), (.ref a1)])) _
    refine st12 _ ?_
    show Steps p.tables e below (T12.setTop (mkF m 14 #[.val (.ref a1), .val (.ref a2), .val (.int p3)] [])) _
    exact X12.returnOut hx Bd.returns (hb hby d13_14) hr
  · show Q13 Z a1 a2 p3 u5 u10 h0 n0 _ T12.heap _
    rw [e12]
    exact ⟨rfl, N12, K13, f15, Fw12, f16⟩
theorem d10_0 : decode jdk_42_method_139_code 0 = .ok (.getstatic 38, 3) := by decide +kernel
theorem d10_3 : decode jdk_42_method_139_code 3 = .ok (.ifCond .eq 23, 3) := by decide +kernel
theorem d10_6 : decode jdk_42_method_139_code 6 = .ok (.iload_n 0, 1) := by decide +kernel
theorem d10_7 : decode jdk_42_method_139_code 7 = .ok (.invokestatic 1015, 3) := by decide +kernel
theorem pd_4 : parseMethodDescriptor "(C)Z" = some ⟨[.char], some .boolean⟩ := by decide +kernel
theorem d10_10 : decode jdk_42_method_139_code 10 = .ok (.ifCond .eq 16, 3) := by decide +kernel
theorem d10_13 : decode jdk_42_method_139_code 13 = .ok (.new 10, 3) := by decide +kernel
theorem d10_16 : decode jdk_42_method_139_code 16 = .ok (.dup, 1) := by decide +kernel
theorem d10_17 : decode jdk_42_method_139_code 17 = .ok (.iload_n 0, 1) := by decide +kernel
theorem d10_18 : decode jdk_42_method_139_code 18 = .ok (.invokestatic 1018, 3) := by decide +kernel
theorem pd_5 : parseMethodDescriptor "(C)[B" = some ⟨[.char], some (.array .byte)⟩ := by decide +kernel
theorem d10_21 : decode jdk_42_method_139_code 21 = .ok (.iconst 0, 1) := by decide +kernel
theorem d10_22 : decode jdk_42_method_139_code 22 = .ok (.invokespecial 209, 3) := by decide +kernel
theorem pd_14 : parseMethodDescriptor "([BB)V" = some ⟨[(.array .byte), .byte], none⟩ := by decide +kernel
theorem d10_25 : decode jdk_42_method_139_code 25 = .ok (.areturn, 1) := by decide +kernel
def Q10 (Z : State) (p1 w2 : Int32) (h0 : Heap) (n0 : Nat) (v : Option Value) (h : Heap) (L : List Loc) : Prop := ∃ b5 : Addr, v = some (.ref b5) ∧ Fr n0 L ∧ Keep h0 h [] ∧ h0.size ≤ b5 ∧ Exa Z h b5 "java/lang/String"
theorem ef_10 (m : MethodId) (x0 : Int32) : entryFrame m #[(.int x0)] 1 = mkF m 0 #[.val (.int x0)] [] := by first | (simp [entryFrame, mkF, argsToLocals, Value.category]; done) | rfl
set_option maxRecDepth 65536 in
set_option maxHeartbeats 40000000 in
theorem rm10 (l : Launch) (Z : State) (a0 : Array Value) (hw : ∀ d ∈ tables_1, d.before a0 Z = true) (ws : List Jvm.Cond) (p1 w2 : Int32) (h0 : Heap) (n0 : Nat) (O0 : Old Z n0 h0) (S_COMPACT_STRINGS : Sta Z Z.heap "java/lang/String" "COMPACT_STRINGS" "Z" (.int w2)) (hc3 : ¬ (w2 = (0 : Int32))) (h7_hc4 : ¬ ((255 : Int32) < p1)) :
    MetFree l (⟨"java/lang/String", "valueOf", "(C)Ljava/lang/String;"⟩ : MethodName) (head1 (Jvm.Cond.code (⟨"java/lang/String", "valueOf", "(C)Ljava/lang/String;"⟩ : MethodName) jdk_42_method_139_code 1 (some (.object "java/lang/String")) :: ws) ({ frames := 2, cells := 2, slots := 5, locals := 27 } : Room)) (fun a U => a = #[(.int p1)] ∧ Z.Warmed39 U.vm ∧ U.heap = h0) (fun _ _ _ _ _ => True) (fun _ U o U' => ∃ v L, o = .returned v ∧ Q10 Z p1 w2 h0 n0 v U'.heap L ∧ FrameEnd U o U' L ({ frames := 2, cells := 2, slots := 5, locals := 27 } : Room).cells ({ frames := 2, cells := 2, slots := 5, locals := 27 } : Room).slots) := by
  refine MetFree.of_bodySF (plainFor_of_name pnc_java_lang_String) hisR ?_
  intro p e s m args below meth c s₁ Bd hml0 hP hK
  obtain ⟨rfl, hZ, hh⟩ := hP
  have hx := Bd.exec
  have hby := Bd.bytes
  have hml : c.maxLocals = 1 := hml0
  have hown : s.vm.findClass "java/lang/String" = some m.cls := findClass_of_methodNamed Bd.named
  have hnm := (name_of_methodNamed Bd.named Bd.method).1
  have X0 : Stand p l e ({ frames := 2, cells := 2, slots := 5, locals := 27 } : Room) s m #[(.int p1)] below meth c s₁ [] 0 0 := Stand.of_body Bd
  have e0 : s₁.heap = h0 := by rw [← hh, Bd.state]; rfl
  have N0 := Fr.nil n0
  have Z0 : n0 ≤ h0.size := O0.1 ▸ O0.2.1
  have pre0 : ∀ t, Steps p.tables e below (s₁.setTop (mkF m 0 #[.val (.int p1)] [])) t → Steps p.tables e below (s₁.setTop (entryFrame m #[(.int p1)] 1)) t := fun t k => castTop (ef_10 m p1) k
  obtain ⟨T3, X3, e3, st3⟩ := getS2 X0 hx hZ hown (host := "") (Or.inl (hw _ (List.mem_of_getElem? (i := 67) rfl))) Via.refl e0 (S_COMPACT_STRINGS.ext O0.2) (g := (mkF m 0 #[.val (.int p1)] [])) rfl (hb hby d10_0)
  obtain ⟨vr4, _, ⟨T4, L4, k4, n4⟩, -, X4, ⟨Lc4, hQ4, l4, y4, z4⟩, st4⟩ := Jvm.LawKit.callS X3 hx (y := (⟨"java/lang/StringLatin1", "canEncode", "(C)Z"⟩ : MethodName)) hown (mvT hZ (hw _ (List.mem_of_getElem? (i := 68) rfl))) (mvT hZ (hw _ (List.mem_of_getElem? (i := 69) rfl))) (mvT hZ (hw _ (List.mem_of_getElem? (i := 70) rfl))) (mvT hZ (hw _ (List.mem_of_getElem? (i := 71) rfl))) (by decide) (backOf (W := 0) (rm11 l Z a0 hw [] p1 h0 n0 O0 h7_hc4) hZ (hw _ (List.mem_of_getElem? (i := 71) rfl)) (hw _ (List.mem_of_getElem? (i := 70) rfl)) (by decide) (by decide)) (g := (mkF m 7 #[.val (.int p1)] [(.int p1)])) rfl (by rw [hml]; rfl) (argsL := [(.int p1)]) (rest := []) (lenOf pd_4 rfl) rfl (by show 2 * 0 + _ ≤ _; exact Nat.le_of_eq rfl) (hb hby d10_7) (fun _ _ => ⟨rfl, e3, (by decide : 0 + 0 ≤ _), (by decide : 0 + 0 ≤ _)⟩)
  dsimp only [Pt.U, Pt.locs, Pt.cells, Pt.slots] at X4 l4 y4 z4 st4 hQ4
  subst l4 y4 z4
  obtain ⟨rfl, N4q, e4⟩ := hQ4
  have N4 := Fr.app N0 N4q
  replace X4 := X4.more (cells' := 0) (slots' := 0) (by decide) (by decide)
  obtain ⟨T5, h5, X5, e5, E5, A5, D5, -, st5⟩ := newO X4 hx hZ hown (hw _ (List.mem_of_getElem? (i := 72) rfl)) (hw _ (List.mem_of_getElem? (i := 73) rfl)) (hw _ (List.mem_of_getElem? (i := 65) rfl)) e4 (g := (mkF m 13 #[.val (.int p1)] [])) rfl (hb hby d10_13) (by decide) (by decide)
  obtain ⟨b5, g5⟩ : ∃ z, z = h0.size := ⟨_, rfl⟩
  rw [← g5] at A5 D5 st5
  have g_b5 : n0 ≤ b5 := Nat.le_trans (Nat.le_trans Z0 (Keep.refl h0 []).1) (Nat.le_of_eq g5.symm)
  have sz_b5 : h0.size ≤ b5 := Nat.le_trans (Keep.refl h0 []).1 (Nat.le_of_eq g5.symm)
  have K6 : Keep h0 h5 [] := (Keep.refl h0 []).ext E5
  have O7 : Old Z n0 h5 := O0.ext E5
  have F_value_b5 : Fld Z h5 b5 "java/lang/String" "value" "[B" .null := D5 (Or.inr (hw _ (List.mem_of_getElem? (i := 84) rfl))) (ty := (.array .byte)) (by decide)
  have F_coder_b5 : Fld Z h5 b5 "java/lang/String" "coder" "B" (.int (0 : Int32)) := D5 (Or.inr (hw _ (List.mem_of_getElem? (i := 86) rfl))) (ty := .byte) (by decide)
  replace X5 := X5.more (cells' := 1) (slots' := 4) (by decide) (by decide)
  obtain ⟨vr8, _, ⟨T8, L8, k8, n8⟩, -, X8, ⟨Lc8, hQ8, l8, y8, z8⟩, st8⟩ := Jvm.LawKit.callS X5 hx (y := (⟨"java/lang/StringLatin1", "toBytes", "(C)[B"⟩ : MethodName)) hown (mvT hZ (hw _ (List.mem_of_getElem? (i := 74) rfl))) (mvT hZ (hw _ (List.mem_of_getElem? (i := 75) rfl))) (mvT hZ (hw _ (List.mem_of_getElem? (i := 70) rfl))) (mvT hZ (hw _ (List.mem_of_getElem? (i := 76) rfl))) (by decide) (backOf (W := 2) (rm12 l Z a0 hw [] p1 h5 n0 O7) hZ (hw _ (List.mem_of_getElem? (i := 76) rfl)) (hw _ (List.mem_of_getElem? (i := 70) rfl)) (by decide) (by decide)) (g := (mkF m 18 #[.val (.int p1)] [(.int p1), (.ref b5), (.ref b5)])) rfl (by rw [hml]; rfl) (argsL := [(.int p1)]) (rest := [(.ref b5), (.ref b5)]) (lenOf pd_5 rfl) rfl (by show 2 * 0 + _ ≤ _; exact Nat.le_of_eq rfl) (hb hby d10_18) (fun _ _ => ⟨rfl, e5, (by decide : 1 + 1 ≤ _), (by decide : 4 + 1 ≤ _)⟩)
  dsimp only [Pt.U, Pt.locs, Pt.cells, Pt.slots] at X8 l8 y8 z8 st8 hQ8
  subst l8 y8 z8
  obtain ⟨b9, k10, rfl, N8q, K8, Y8_z0, Y8_0⟩ := hQ8
  have N8 := Fr.app N4 N8q
  replace X8 := X8.more (cells' := 2) (slots' := 5) (by decide) (by decide)
  have g_b9 : n0 ≤ b9 := Nat.le_trans (Nat.le_trans Z0 K6.1) Y8_z0
  have sz_b9 : h0.size ≤ b9 := Nat.le_trans K6.1 Y8_z0
  have K11 : Keep h0 T8.heap [] := K6.trans K8 all0
  have O12 : Old Z n0 T8.heap := O7.keep K8 all0
  have f13 := (A5.keep K8)
  have f14 := (F_value_b5.keep K8 nin0)
  have f15 := (F_coder_b5.keep K8 nin0)
  obtain ⟨vr16, _, ⟨T16, L16, k16, n16⟩, -, X16, ⟨Lc16, hQ16, l16, y16, z16⟩, st16⟩ := X8.specialBack hx (y := (⟨"java/lang/String", "<init>", "([BB)V"⟩ : MethodName)) rfl hown (mvT hZ (hw _ (List.mem_of_getElem? (i := 78) rfl))) (mvT hZ (hw _ (List.mem_of_getElem? (i := 79) rfl))) (mvT hZ (hw _ (List.mem_of_getElem? (i := 81) rfl))) (by decide) (backOf (W := 1) (rm13 l Z a0 hw [] b5 b9 ((0 : Int32)) (.null) ((.int (0 : Int32))) T8.heap n0 O12 f13 f14 g_b5 f15) hZ (hw _ (List.mem_of_getElem? (i := 81) rfl)) (hw _ (List.mem_of_getElem? (i := 65) rfl)) (by decide) (by decide)) (g := (mkF m 22 #[.val (.int p1)] [(.int (0 : Int32)), (.ref b9), (.ref b5), (.ref b5)])) rfl (by rw [hml]; rfl) (Steps.refl _) (a := b5) (argsL := [(.ref b9), (.int (0 : Int32))]) (rest := [(.ref b5)]) (lenOf pd_14 rfl) rfl (by show 2 * 0 + _ ≤ _; exact Nat.le_of_eq rfl) (hb hby d10_22) (fun _ _ => ⟨rfl, rfl, (by decide : 2 + 0 ≤ _), (by decide : 5 + 0 ≤ _)⟩)
  dsimp only [Pt.U, Pt.locs, Pt.cells, Pt.slots] at X16 l16 y16 z16 st16 hQ16
  subst l16 y16 z16
  obtain ⟨rfl, N16q, K16, Y16_0, Y16_1, Y16_2⟩ := hQ16
  have N16 := Fr.app N8 N16q
  replace X16 := X16.more (cells' := 2) (slots' := 5) (by decide) (by decide)
  have K17 : Keep h0 T16.heap [] := K11.trans K16 (allS (Or.inr sz_b5) all0)
  have O18 : Old Z n0 T16.heap := O12.keep K16 (allS g_b5 all0)
  obtain ⟨fs, hr, hrun, hended, hW, hsame⟩ := X16.leave (v := some (.ref b5)) (fun h => by rw [Bd.returns] at h; cases h)
  refine ⟨_, _, pre0 _ ?_, hrun, hended, _, _, rfl, ?_, ⟨_, rfl⟩, hW, hsame.mono (by decide) (by decide)⟩
  · show Steps p.tables e below (s₁.setTop (mkF m 0 #[.val (.int p1)] [])) _
    refine st3 _ ?_
    show Steps p.tables e below (T3.setTop (mkF m 3 #[.val (.int p1)] [(.int w2)])) _
    refine XS.ifNo X3.here hx rfl (hb hby d10_3) rfl ((if0 _ _).trans (feq hc3).1) ?_
    show Steps p.tables e below (T3.setTop (mkF m 6 #[.val (.int p1)] [])) _
    refine XS.iloadN X3.here hx rfl (hb hby d10_6) rfl ?_
    show Steps p.tables e below (T3.setTop (mkF m 7 #[.val (.int p1)] [(.int p1)])) _
    refine st4 _ ?_
    show Steps p.tables e below (T4.setTop (mkF m 10 #[.val (.int p1)] [(.int (1 : Int32))])) _
    refine XS.ifNo X4.here hx rfl (hb hby d10_10) rfl ((if0 _ _).trans (feq (by decide : ¬ ((1 : Int32) = (0 : Int32)))).1) ?_
    show Steps p.tables e below (T4.setTop (mkF m 13 #[.val (.int p1)] [])) _
    refine st5 _ ?_
    show Steps p.tables e below (T5.setTop (mkF m 16 #[.val (.int p1)] [(.ref b5)])) _
    refine XS.dup X5.here hx rfl (hb hby d10_16) rfl rfl ?_
    show Steps p.tables e below (T5.setTop (mkF m 17 #[.val (.int p1)] [(.ref b5), (.ref b5)])) _
    refine XS.iloadN X5.here hx rfl (hb hby d10_17) rfl ?_
    show Steps p.tables e below (T5.setTop (mkF m 18 #[.val (.int p1)] [(.int p1), (.ref b5), (.ref b5)])) _
    refine st8 _ ?_
    show Steps p.tables e below (T8.setTop (mkF m 21 #[.val (.int p1)] [(.ref b9), (.ref b5), (.ref b5)])) _
    refine XS.iconst X8.here hx rfl (hb hby d10_21) ?_
    show Steps p.tables e below (T8.setTop (mkF m 22 #[.val (.int p1)] [(.int (0 : Int32)), (.ref b9), (.ref b5), (.ref b5)])) _
    refine st16.trans ?_
    show Steps p.tables e below (T16.setTop (mkF m 25 #[.val (.int p1)] [(.ref b5)])) _
    exact own_retR X16 hx Bd.returns rfl rfl (hb hby d10_25) hr
  · show Q10 Z p1 w2 h0 n0 _ T16.heap _
    exact ⟨b5, rfl, N16, K17, sz_b5, Y16_0⟩
theorem d6_0 : decode jdk_38_method_24_code 0 = .ok (.iload_n 3, 1) := by decide +kernel
theorem d6_1 : decode jdk_38_method_24_code 1 = .ok (.aload_n 2, 1) := by decide +kernel
theorem d6_2 : decode jdk_38_method_24_code 2 = .ok (.arraylength, 1) := by decide +kernel
theorem d6_3 : decode jdk_38_method_24_code 3 = .ok (.if_icmp .ne 8, 3) := by decide +kernel
theorem d6_6 : decode jdk_38_method_24_code 6 = .ok (.aload_n 0, 1) := by decide +kernel
theorem d6_7 : decode jdk_38_method_24_code 7 = .ok (.invokevirtual 129, 3) := by decide +kernel
theorem pd_2 : parseMethodDescriptor "()[Ljava/lang/Object;" = some ⟨[], some (.array (.object "java/lang/Object"))⟩ := by decide +kernel
theorem d6_10 : decode jdk_38_method_24_code 10 = .ok (.astore_n 2, 1) := by decide +kernel
theorem d6_11 : decode jdk_38_method_24_code 11 = .ok (.aload_n 2, 1) := by decide +kernel
theorem d6_12 : decode jdk_38_method_24_code 12 = .ok (.iload_n 3, 1) := by decide +kernel
theorem d6_13 : decode jdk_38_method_24_code 13 = .ok (.aload_n 1, 1) := by decide +kernel
theorem d6_14 : decode jdk_38_method_24_code 14 = .ok (.aastore, 1) := by decide +kernel
theorem own_inskeep {Z : State} {h h' : Heap} {a : Addr} {C : String} {b : Bool} {ws : List Addr} (F : Ins Z h a C b) (K : Keep h h' ws) : Ins Z h' a C b := by
  obtain ⟨cell, cT, h1, h2, h3⟩ := F
  obtain ⟨c', q1, q2, q3, -⟩ := K.2.2 _ _ h1
  exact ⟨c', cT, q1, h2, by rw [q2, q3]; exact h3⟩
theorem d6_15 : decode jdk_38_method_24_code 15 = .ok (.aload_n 0, 1) := by decide +kernel
theorem d6_16 : decode jdk_38_method_24_code 16 = .ok (.iload_n 3, 1) := by decide +kernel
theorem d6_17 : decode jdk_38_method_24_code 17 = .ok (.iconst 1, 1) := by decide +kernel
theorem d6_18 : decode jdk_38_method_24_code 18 = .ok (.iadd, 1) := by decide +kernel
theorem d6_19 : decode jdk_38_method_24_code 19 = .ok (.putfield 48, 3) := by decide +kernel
theorem d6_22 : decode jdk_38_method_24_code 22 = .ok (.return_, 1) := by decide +kernel
def Q6f (Z : State) (a1 a2 a3 : Addr) (p0 : Int32) (k0 : ClassId) (h0 : Heap) (n0 : Nat) (v : Option Value) (h : Heap) (L : List Loc) : Prop := ∃ b6 : Addr, ∃ k7 : ClassId, v = none ∧ Fr n0 L ∧ Keep h0 h [a1] ∧ h0.size ≤ b6 ∧ Exa Z h a1 "java/util/ArrayList" ∧ Fld Z h a1 "java/util/ArrayList" "elementData" "[Ljava/lang/Object;" (.ref b6) ∧ Fld Z h a1 "java/util/AbstractList" "modCount" "I" (.int p0) ∧ Fld Z h a1 "java/util/ArrayList" "size" "I" (.int (1 : Int32)) ∧ Exa Z h b6 "[Ljava/lang/Object;" ∧ Arv Z h b6 k7 (.object "java/lang/Object") (10 : Int32) [(.ref a2), .null, .null, .null, .null, .null, .null, .null, .null, .null] .null ∧ Ovr Z k7 "java/lang/Object"
theorem ef_6aaa__0___Int32__ (m : MethodId) (x0 : Addr) (x1 : Addr) (x2 : Addr) : entryFrame m #[(.ref x0), (.ref x1), (.ref x2), (.int (0 : Int32))] 4 = mkF m 0 #[.val (.ref x0), .val (.ref x1), .val (.ref x2), .val (.int (0 : Int32))] [] := by first | (simp [entryFrame, mkF, argsToLocals, Value.category]; done) | rfl
set_option maxRecDepth 65536 in
set_option maxHeartbeats 40000000 in
theorem rm6f (l : Launch) (Z : State) (a0 : Array Value) (hw : ∀ d ∈ tables_1, d.before a0 Z = true) (ws : List Jvm.Cond) (a1 a2 a3 : Addr) (p0 : Int32) (k0 : ClassId) (h0 : Heap) (n0 : Nat) (O0 : Old Z n0 h0) (HE_a1 : Exa Z h0 a1 "java/util/ArrayList") (HF_a1_modCount : Fld Z h0 a1 "java/util/AbstractList" "modCount" "I" (.int p0)) (HF_a1_elementData : Fld Z h0 a1 "java/util/ArrayList" "elementData" "[Ljava/lang/Object;" (.ref a3)) (HF_a1_size : Fld Z h0 a1 "java/util/ArrayList" "size" "I" (.int (0 : Int32))) (HV_a3 : Arv Z h0 a3 k0 (.object "java/lang/Object") (0 : Int32) [] .null) (S_DEFAULTCAPACITY_EMPTY_ELEMENTDATA : Sta Z Z.heap "java/util/ArrayList" "DEFAULTCAPACITY_EMPTY_ELEMENTDATA" "[Ljava/lang/Object;" (.ref a3)) (g_a1 : n0 ≤ a1) (HI_a2_java_lang_Object : Ins Z h0 a2 "java/lang/Object" true) :
    MetFree l (⟨"java/util/ArrayList", "add", "(Ljava/lang/Object;[Ljava/lang/Object;I)V"⟩ : MethodName) (head1 (Jvm.Cond.code (⟨"java/util/ArrayList", "add", "(Ljava/lang/Object;[Ljava/lang/Object;I)V"⟩ : MethodName) jdk_38_method_24_code 4 none :: ws) ({ frames := 3, cells := 1, slots := 10, locals := 41 } : Room)) (fun a U => a = #[(.ref a1), (.ref a2), (.ref a3), (.int (0 : Int32))] ∧ Z.Warmed39 U.vm ∧ U.heap = h0) (fun _ _ _ _ _ => True) (fun _ U o U' => ∃ v L, o = .returned v ∧ Q6f Z a1 a2 a3 p0 k0 h0 n0 v U'.heap L ∧ FrameEnd U o U' L ({ frames := 3, cells := 1, slots := 10, locals := 41 } : Room).cells ({ frames := 3, cells := 1, slots := 10, locals := 41 } : Room).slots) := by
  refine MetFree.of_bodySF (plainFor_of_name pnc_java_util_ArrayList) hisR ?_
  intro p e s m args below meth c s₁ Bd hml0 hP hK
  obtain ⟨rfl, hZ, hh⟩ := hP
  have hx := Bd.exec
  have hby := Bd.bytes
  have hml : c.maxLocals = 4 := hml0
  have hown : s.vm.findClass "java/util/ArrayList" = some m.cls := findClass_of_methodNamed Bd.named
  have hnm := (name_of_methodNamed Bd.named Bd.method).1
  have X0 : Stand p l e ({ frames := 3, cells := 1, slots := 10, locals := 41 } : Room) s m #[(.ref a1), (.ref a2), (.ref a3), (.int (0 : Int32))] below meth c s₁ [] 0 0 := Stand.of_body Bd
  have e0 : s₁.heap = h0 := by rw [← hh, Bd.state]; rfl
  have N0 := Fr.nil n0
  have Z0 : n0 ≤ h0.size := O0.1 ▸ O0.2.1
  have pre0 : ∀ t, Steps p.tables e below (s₁.setTop (mkF m 0 #[.val (.ref a1), .val (.ref a2), .val (.ref a3), .val (.int (0 : Int32))] [])) t → Steps p.tables e below (s₁.setTop (entryFrame m #[(.ref a1), (.ref a2), (.ref a3), (.int (0 : Int32))] 4)) t := fun t k => castTop (ef_6aaa__0___Int32__ m a1 a2 a3) k
  obtain ⟨cl4, Ar4, q4, S4, Nn4, Hh4, G4⟩ := id HV_a3
  obtain ⟨cq5, q5, q5'⟩ := HE_a1.cell
  obtain ⟨vr5, _, ⟨T5, L5, k5, n5⟩, -, X5, ⟨Lc5, hQ5, l5, y5, z5⟩, st5⟩ := X0.privateBack hx (y := (⟨"java/util/ArrayList", "grow", "()[Ljava/lang/Object;"⟩ : MethodName)) hown (mvT hZ (hw _ (List.mem_of_getElem? (i := 47) rfl))) (mvT hZ (hw _ (List.mem_of_getElem? (i := 48) rfl))) (mvT hZ (hw _ (List.mem_of_getElem? (i := 50) rfl))) (Cond.privateMethod_at (mvP hZ (hw _ (List.mem_of_getElem? (i := 49) rfl)) (args := #[]))) (mvT hZ (hw _ (List.mem_of_getElem? (i := 51) rfl))) (by decide) (backOf (W := 0) (rm7 l Z a0 hw [] a1 p0 a3 k0 h0 n0 O0 HE_a1 HF_a1_modCount HF_a1_elementData HF_a1_size HV_a3 S_DEFAULTCAPACITY_EMPTY_ELEMENTDATA g_a1) hZ (hw _ (List.mem_of_getElem? (i := 51) rfl)) (hw _ (List.mem_of_getElem? (i := 5) rfl)) (by decide) (by decide)) (g := (mkF m 7 #[.val (.ref a1), .val (.ref a2), .val (.ref a3), .val (.int (0 : Int32))] [(.ref a1)])) rfl (by rw [hml]; rfl) (Steps.refl _) (a := a1) (by rw [e0]; exact q5) q5' (argsL := []) (rest := []) (lenOf pd_2 rfl) rfl (by show 2 * 0 + _ ≤ _; exact Nat.le_of_eq rfl) (hb hby d6_7) (fun _ _ => ⟨rfl, e0, (by decide : 0 + 1 ≤ _), (by decide : 0 + 10 ≤ _)⟩)
  dsimp only [Pt.U, Pt.locs, Pt.cells, Pt.slots] at X5 l5 y5 z5 st5 hQ5
  subst l5 y5 z5
  obtain ⟨b6, k7, rfl, N5q, K5, Y5_z0, Y5_0, Y5_1, Y5_2, Y5_3, Y5_4, Y5_5, Y5_6⟩ := hQ5
  have N5 := Fr.app N0 N5q
  replace X5 := X5.more (cells' := 1) (slots' := 10) (by decide) (by decide)
  have g_b6 : n0 ≤ b6 := Nat.le_trans (Nat.le_trans Z0 (Keep.refl h0 [a1]).1) Y5_z0
  have sz_b6 : h0.size ≤ b6 := Nat.le_trans (Keep.refl h0 [a1]).1 Y5_z0
  have K8 : Keep h0 T5.heap [a1] := (Keep.refl h0 [a1]).trans K5 (allS (Or.inl (List.mem_of_getElem? (i := 0) rfl)) all0)
  have O9 : Old Z n0 T5.heap := O0.keep K5 (allS g_a1 all0)
  obtain ⟨cl10, Ar10, q10, S10, Nn10, Hh10, G10⟩ := id Y5_5
  have hin10 : ¬ ((0 : Int32) < 0 ∨ cl10.slots.size ≤ ((0 : Int32)).toNatClampNeg) := inb_of S10 ⟨by decide, by decide⟩
  have f11 := (own_inskeep HI_a2_java_lang_Object K5)
  obtain ⟨T12, h12, X12, e12, W12, st12⟩ := stR X5 hx hZ rfl Ar10 (j := (0 : Int32)) hin10 rfl (Sto.ofV Ar10 q10 Y5_6 f11) (g := (mkF m 14 #[.val (.ref a1), .val (.ref a2), .val (.ref b6), .val (.int (0 : Int32))] [(.ref a2), (.int (0 : Int32)), (.ref b6)])) rfl rfl (hb hby d6_14)
  have N12 := Fr.snoc X12 N5 g_b6
  have K13 : Keep h0 h12 [a1] := K8.wr W12 (Or.inr sz_b6)
  have O14 : Old Z n0 h12 := O9.wr W12 g_b6
  have V12 : Arv Z h12 b6 k7 (.object "java/lang/Object") (10 : Int32) [(.ref a2), .null, .null, .null, .null, .null, .null, .null, .null, .null] .null := Arv.set Ar10 q10 S10 Nn10 Hh10 G10 rfl W12 0 rfl (Nat.le_of_ble_eq_true rfl)
  have f15 := (Y5_0.wr W12)
  have f16 := (Y5_3.other W12 (Or.inl (Nat.ne_of_lt (Nat.lt_of_lt_of_le HE_a1.lt Y5_z0))))
  obtain ⟨T17, h17, X17, e17, W17, st17⟩ := putF X12 hx hZ hown (host := "") (Or.inl (hw _ (List.mem_of_getElem? (i := 40) rfl))) Via.refl e12 f16 f15 (Or.inl (hw _ (List.mem_of_getElem? (i := 41) rfl))) (hw _ (List.mem_of_getElem? (i := 4) rfl)) (ty := .int) (by decide) rfl rfl (g := (mkF m 19 #[.val (.ref a1), .val (.ref a2), .val (.ref b6), .val (.int (0 : Int32))] [(.int (1 : Int32)), (.ref a1)])) rfl rfl (hb hby d6_19)
  have N17 := Fr.snoc X17 N12 g_a1
  have K18 : Keep h0 h17 [a1] := K13.wr W17 (Or.inl (List.mem_of_getElem? (i := 0) rfl))
  have O19 : Old Z n0 h17 := O14.wr W17 g_a1
  have Fw17 : Fld Z h17 a1 "java/util/ArrayList" "size" "I" (.int (1 : Int32)) := f16.same W17
  have f20 := (f15.wr W17)
  have f21 := ((Y5_1.other W12 (Or.inl (Nat.ne_of_lt (Nat.lt_of_lt_of_le HE_a1.lt Y5_z0)))).other W17 (Or.inr (slot_ne (Or.inl (hw _ (List.mem_of_getElem? (i := 28) rfl))) (Or.inl (hw _ (List.mem_of_getElem? (i := 41) rfl))) (by decide) (t := (.array (.object "java/lang/Object"))) (t' := .int) (by decide) (by decide))))
  have f22 := ((Y5_2.other W12 (Or.inl (Nat.ne_of_lt (Nat.lt_of_lt_of_le HE_a1.lt Y5_z0)))).other W17 (Or.inr (slot_ne (Or.inl (hw _ (List.mem_of_getElem? (i := 25) rfl))) (Or.inl (hw _ (List.mem_of_getElem? (i := 41) rfl))) (by decide) (t := .int) (t' := .int) (by decide) (by decide))))
  have f23 := ((Y5_4.wr W12).wr W17)
  have f24 := (V12.other W17 (Ne.symm (Nat.ne_of_lt (Nat.lt_of_lt_of_le HE_a1.lt Y5_z0))))
  have f25 := Y5_6
  obtain ⟨fs, hr, hrun, hended, hW, hsame⟩ := X17.leave (v := none) (fun _ => rfl)
  refine ⟨_, _, pre0 _ ?_, hrun, hended, _, _, rfl, ?_, ⟨_, rfl⟩, hW, hsame.mono (by decide) (by decide)⟩
  · show Steps p.tables e below (s₁.setTop (mkF m 0 #[.val (.ref a1), .val (.ref a2), .val (.ref a3), .val (.int (0 : Int32))] [])) _
    refine XS.iloadN X0.here hx rfl (hb hby d6_0) rfl ?_
    show Steps p.tables e below (s₁.setTop (mkF m 1 #[.val (.ref a1), .val (.ref a2), .val (.ref a3), .val (.int (0 : Int32))] [(.int (0 : Int32))])) _
    refine XS.aloadN X0.here hx rfl (hb hby d6_1) rfl rfl ?_
    show Steps p.tables e below (s₁.setTop (mkF m 2 #[.val (.ref a1), .val (.ref a2), .val (.ref a3), .val (.int (0 : Int32))] [(.ref a3), (.int (0 : Int32))])) _
    refine X0.arraylength hx (by rw [e0]; exact Ar4.1) (State.isArrayOf_alike hZ.alike Ar4.2.1) (g := (mkF m 2 #[.val (.ref a1), .val (.ref a2), .val (.ref a3), .val (.int (0 : Int32))] [(.ref a3), (.int (0 : Int32))])) rfl rfl (hb hby d6_2) _ ?_
    rw [len_of S4 Nn4]
    show Steps p.tables e below (s₁.setTop (mkF m 3 #[.val (.ref a1), .val (.ref a2), .val (.ref a3), .val (.int (0 : Int32))] [(.int (0 : Int32)), (.int (0 : Int32))])) _
    refine XS.icmpNo X0.here hx rfl (hb hby d6_3) rfl (teq (by decide : (0 : Int32) = (0 : Int32))).2 ?_
    show Steps p.tables e below (s₁.setTop (mkF m 6 #[.val (.ref a1), .val (.ref a2), .val (.ref a3), .val (.int (0 : Int32))] [])) _
    refine XS.aloadN X0.here hx rfl (hb hby d6_6) rfl rfl ?_
    show Steps p.tables e below (s₁.setTop (mkF m 7 #[.val (.ref a1), .val (.ref a2), .val (.ref a3), .val (.int (0 : Int32))] [(.ref a1)])) _
    refine st5.trans ?_
    show Steps p.tables e below (T5.setTop (mkF m 10 #[.val (.ref a1), .val (.ref a2), .val (.ref a3), .val (.int (0 : Int32))] [(.ref b6)])) _
    refine XS.astoreN X5.here hx rfl (hb hby d6_10) rfl rfl (l' := #[.val (.ref a1), .val (.ref a2), .val (.ref b6), .val (.int (0 : Int32))]) rfl ?_
    show Steps p.tables e below (T5.setTop (mkF m 11 #[.val (.ref a1), .val (.ref a2), .val (.ref b6), .val (.int (0 : Int32))] [])) _
    refine XS.aloadN X5.here hx rfl (hb hby d6_11) rfl rfl ?_
    show Steps p.tables e below (T5.setTop (mkF m 12 #[.val (.ref a1), .val (.ref a2), .val (.ref b6), .val (.int (0 : Int32))] [(.ref b6)])) _
    refine XS.iloadN X5.here hx rfl (hb hby d6_12) rfl ?_
    show Steps p.tables e below (T5.setTop (mkF m 13 #[.val (.ref a1), .val (.ref a2), .val (.ref b6), .val (.int (0 : Int32))] [(.int (0 : Int32)), (.ref b6)])) _
    refine XS.aloadN X5.here hx rfl (hb hby d6_13) rfl rfl ?_
    show Steps p.tables e below (T5.setTop (mkF m 14 #[.val (.ref a1), .val (.ref a2), .val (.ref b6), .val (.int (0 : Int32))] [(.ref a2), (.int (0 : Int32)), (.ref b6)])) _
    refine st12 _ ?_
    show Steps p.tables e below (T12.setTop (mkF m 15 #[.val (.ref a1), .val (.ref a2), .val (.ref b6), .val (.int (0 : Int32))] [])) _
    refine XS.aloadN X12.here hx rfl (hb hby d6_15) rfl rfl ?_
    show Steps p.tables e below (T12.setTop (mkF m 16 #[.val (.ref a1), .val (.ref a2), .val (.ref b6), .val (.int (0 : Int32))] [(.ref a1)])) _
    refine XS.iloadN X12.here hx rfl (hb hby d6_16) rfl ?_
    show Steps p.tables e below (T12.setTop (mkF m 17 #[.val (.ref a1), .val (.ref a2), .val (.ref b6), .val (.int (0 : Int32))] [(.int (0 : Int32)), (.ref a1)])) _
    refine XS.iconst X12.here hx rfl (hb hby d6_17) ?_
    show Steps p.tables e below (T12.setTop (mkF m 18 #[.val (.ref a1), .val (.ref a2), .val (.ref b6), .val (.int (0 : Int32))] [(.int (1 : Int32)), (.int (0 : Int32)), (.ref a1)])) _
    refine XS.iadd X12.here hx rfl (hb hby d6_18) rfl ?_
    show Steps p.tables e below (T12.setTop (mkF m 19 #[.val (.ref a1), .val (.ref a2), .val (.ref b6), .val (.int (0 : Int32))] [(.int (1 : Int32)), (.ref a1)])) _
    refine st17 _ ?_
    show Steps p.tables e below (T17.setTop (mkF m 22 #[.val (.ref a1), .val (.ref a2), .val (.ref b6), .val (.int (0 : Int32))] [])) _
    exact X17.returnOut hx Bd.returns (hb hby d6_22) hr
  · show Q6f Z a1 a2 a3 p0 k0 h0 n0 _ T17.heap _
    rw [e17]
    exact ⟨b6, k7, rfl, N17, K18, sz_b6, f20, f21, f22, Fw17, f23, f24, f25⟩
theorem d5_0 : decode jdk_38_method_25_code 0 = .ok (.aload_n 0, 1) := by decide +kernel
theorem d5_1 : decode jdk_38_method_25_code 1 = .ok (.dup, 1) := by decide +kernel
theorem d5_2 : decode jdk_38_method_25_code 2 = .ok (.getfield 63, 3) := by decide +kernel
theorem d5_5 : decode jdk_38_method_25_code 5 = .ok (.iconst 1, 1) := by decide +kernel
theorem d5_6 : decode jdk_38_method_25_code 6 = .ok (.iadd, 1) := by decide +kernel
theorem d5_7 : decode jdk_38_method_25_code 7 = .ok (.putfield 63, 3) := by decide +kernel
theorem d5_10 : decode jdk_38_method_25_code 10 = .ok (.aload_n 0, 1) := by decide +kernel
theorem d5_11 : decode jdk_38_method_25_code 11 = .ok (.aload_n 1, 1) := by decide +kernel
theorem d5_12 : decode jdk_38_method_25_code 12 = .ok (.aload_n 0, 1) := by decide +kernel
theorem d5_13 : decode jdk_38_method_25_code 13 = .ok (.getfield 9, 3) := by decide +kernel
theorem d5_16 : decode jdk_38_method_25_code 16 = .ok (.aload_n 0, 1) := by decide +kernel
theorem d5_17 : decode jdk_38_method_25_code 17 = .ok (.getfield 48, 3) := by decide +kernel
theorem d5_20 : decode jdk_38_method_25_code 20 = .ok (.invokevirtual 131, 3) := by decide +kernel
theorem pd_13 : parseMethodDescriptor "(Ljava/lang/Object;[Ljava/lang/Object;I)V" = some ⟨[(.object "java/lang/Object"), (.array (.object "java/lang/Object")), .int], none⟩ := by decide +kernel
theorem d5_23 : decode jdk_38_method_25_code 23 = .ok (.iconst 1, 1) := by decide +kernel
theorem d5_24 : decode jdk_38_method_25_code 24 = .ok (.ireturn, 1) := by decide +kernel
def Q5f (Z : State) (a1 a2 : Addr) (p0 : Int32) (k0 : ClassId) (w0 : Addr) (h0 : Heap) (n0 : Nat) (v : Option Value) (h : Heap) (L : List Loc) : Prop := ∃ b15 : Addr, ∃ k16 : ClassId, v = some (.int (1 : Int32)) ∧ Fr n0 L ∧ Keep h0 h [a1] ∧ h0.size ≤ b15 ∧ Exa Z h a1 "java/util/ArrayList" ∧ Fld Z h a1 "java/util/ArrayList" "elementData" "[Ljava/lang/Object;" (.ref b15) ∧ Fld Z h a1 "java/util/AbstractList" "modCount" "I" (.int (p0 + (1 : Int32))) ∧ Fld Z h a1 "java/util/ArrayList" "size" "I" (.int (1 : Int32)) ∧ Exa Z h b15 "[Ljava/lang/Object;" ∧ Arv Z h b15 k16 (.object "java/lang/Object") (10 : Int32) [(.ref a2), .null, .null, .null, .null, .null, .null, .null, .null, .null] .null ∧ Ovr Z k16 "java/lang/Object"
theorem ef_5 (m : MethodId) (x0 : Addr) (x1 : Addr) : entryFrame m #[(.ref x0), (.ref x1)] 2 = mkF m 0 #[.val (.ref x0), .val (.ref x1)] [] := by first | (simp [entryFrame, mkF, argsToLocals, Value.category]; done) | rfl
set_option maxRecDepth 65536 in
set_option maxHeartbeats 40000000 in
theorem rm5f (l : Launch) (Z : State) (a0 : Array Value) (hw : ∀ d ∈ tables_1, d.before a0 Z = true) (ws : List Jvm.Cond) (a1 a2 : Addr) (p0 : Int32) (k0 : ClassId) (w0 : Addr) (h0 : Heap) (n0 : Nat) (O0 : Old Z n0 h0) (HE_a1 : Exa Z h0 a1 "java/util/ArrayList") (HF_a1_modCount : Fld Z h0 a1 "java/util/AbstractList" "modCount" "I" (.int p0)) (HF_a1_elementData : Fld Z h0 a1 "java/util/ArrayList" "elementData" "[Ljava/lang/Object;" (.ref w0)) (HF_a1_size : Fld Z h0 a1 "java/util/ArrayList" "size" "I" (.int (0 : Int32))) (HV_w0 : Arv Z h0 w0 k0 (.object "java/lang/Object") (0 : Int32) [] .null) (g_a1 : n0 ≤ a1) (ne_w0_a1 : w0 ≠ a1) (S_DEFAULTCAPACITY_EMPTY_ELEMENTDATA : Sta Z Z.heap "java/util/ArrayList" "DEFAULTCAPACITY_EMPTY_ELEMENTDATA" "[Ljava/lang/Object;" (.ref w0)) (HI_a2_java_lang_Object : Ins Z h0 a2 "java/lang/Object" true) :
    MetFree l (⟨"java/util/ArrayList", "add", "(Ljava/lang/Object;)Z"⟩ : MethodName) (head1 (Jvm.Cond.code (⟨"java/util/ArrayList", "add", "(Ljava/lang/Object;)Z"⟩ : MethodName) jdk_38_method_25_code 2 (some .boolean) :: ws) ({ frames := 4, cells := 1, slots := 10, locals := 56 } : Room)) (fun a U => a = #[(.ref a1), (.ref a2)] ∧ Z.Warmed39 U.vm ∧ U.heap = h0) (fun _ _ _ _ _ => True) (fun _ U o U' => ∃ v L, o = .returned v ∧ Q5f Z a1 a2 p0 k0 w0 h0 n0 v U'.heap L ∧ FrameEnd U o U' L ({ frames := 4, cells := 1, slots := 10, locals := 56 } : Room).cells ({ frames := 4, cells := 1, slots := 10, locals := 56 } : Room).slots) := by
  refine MetFree.of_bodySF (plainFor_of_name pnc_java_util_ArrayList) hisR ?_
  intro p e s m args below meth c s₁ Bd hml0 hP hK
  obtain ⟨rfl, hZ, hh⟩ := hP
  have hx := Bd.exec
  have hby := Bd.bytes
  have hml : c.maxLocals = 2 := hml0
  have hown : s.vm.findClass "java/util/ArrayList" = some m.cls := findClass_of_methodNamed Bd.named
  have hnm := (name_of_methodNamed Bd.named Bd.method).1
  have X0 : Stand p l e ({ frames := 4, cells := 1, slots := 10, locals := 56 } : Room) s m #[(.ref a1), (.ref a2)] below meth c s₁ [] 0 0 := Stand.of_body Bd
  have e0 : s₁.heap = h0 := by rw [← hh, Bd.state]; rfl
  have N0 := Fr.nil n0
  have Z0 : n0 ≤ h0.size := O0.1 ▸ O0.2.1
  have pre0 : ∀ t, Steps p.tables e below (s₁.setTop (mkF m 0 #[.val (.ref a1), .val (.ref a2)] [])) t → Steps p.tables e below (s₁.setTop (entryFrame m #[(.ref a1), (.ref a2)] 2)) t := fun t k => castTop (ef_5 m a1 a2) k
  obtain ⟨T3, X3, e3, st3⟩ := getF X0 hx hZ hown (host := "") (Or.inl (hw _ (List.mem_of_getElem? (i := 38) rfl))) (Via.of (hw _ (List.mem_of_getElem? (i := 39) rfl))) e0 HF_a1_modCount (g := (mkF m 2 #[.val (.ref a1), .val (.ref a2)] [(.ref a1), (.ref a1)])) rfl rfl (hb hby d5_2)
  obtain ⟨T4, h4, X4, e4, W4, st4⟩ := putF X3 hx hZ hown (host := "") (Or.inl (hw _ (List.mem_of_getElem? (i := 38) rfl))) (Via.of (hw _ (List.mem_of_getElem? (i := 39) rfl))) e3 HF_a1_modCount HE_a1 (Or.inl (hw _ (List.mem_of_getElem? (i := 25) rfl))) (hw _ (List.mem_of_getElem? (i := 4) rfl)) (ty := .int) (by decide) rfl rfl (g := (mkF m 7 #[.val (.ref a1), .val (.ref a2)] [(.int (p0 + (1 : Int32))), (.ref a1)])) rfl rfl (hb hby d5_7)
  have N4 := Fr.snoc X4 N0 g_a1
  have K5 : Keep h0 h4 [a1] := (Keep.refl h0 [a1]).wr W4 (Or.inl (List.mem_of_getElem? (i := 0) rfl))
  have O6 : Old Z n0 h4 := O0.wr W4 g_a1
  have Fw4 : Fld Z h4 a1 "java/util/AbstractList" "modCount" "I" (.int (p0 + (1 : Int32))) := HF_a1_modCount.same W4
  have f7 := (HF_a1_elementData.other W4 (Or.inr (slot_ne (Or.inl (hw _ (List.mem_of_getElem? (i := 28) rfl))) (Or.inl (hw _ (List.mem_of_getElem? (i := 25) rfl))) (by decide) (t := (.array (.object "java/lang/Object"))) (t' := .int) (by decide) (by decide))))
  obtain ⟨T8, X8, e8, st8⟩ := getF X4 hx hZ hown (host := "") (Or.inl (hw _ (List.mem_of_getElem? (i := 27) rfl))) Via.refl e4 f7 (g := (mkF m 13 #[.val (.ref a1), .val (.ref a2)] [(.ref a1), (.ref a2), (.ref a1)])) rfl rfl (hb hby d5_13)
  have f9 := (HF_a1_size.other W4 (Or.inr (slot_ne (Or.inl (hw _ (List.mem_of_getElem? (i := 41) rfl))) (Or.inl (hw _ (List.mem_of_getElem? (i := 25) rfl))) (by decide) (t := .int) (t' := .int) (by decide) (by decide))))
  obtain ⟨T10, X10, e10, st10⟩ := getF X8 hx hZ hown (host := "") (Or.inl (hw _ (List.mem_of_getElem? (i := 40) rfl))) Via.refl e8 f9 (g := (mkF m 17 #[.val (.ref a1), .val (.ref a2)] [(.ref a1), (.ref w0), (.ref a2), (.ref a1)])) rfl rfl (hb hby d5_17)
  have f11 := (HE_a1.wr W4)
  have f12 := (HV_w0.other W4 ne_w0_a1)
  have f13 := (HI_a2_java_lang_Object.wr W4)
  obtain ⟨cq14, q14, q14'⟩ := f11.cell
  obtain ⟨vr14, _, ⟨T14, L14, k14, n14⟩, -, X14, ⟨Lc14, hQ14, l14, y14, z14⟩, st14⟩ := X10.privateBack hx (y := (⟨"java/util/ArrayList", "add", "(Ljava/lang/Object;[Ljava/lang/Object;I)V"⟩ : MethodName)) hown (mvT hZ (hw _ (List.mem_of_getElem? (i := 42) rfl))) (mvT hZ (hw _ (List.mem_of_getElem? (i := 43) rfl))) (mvT hZ (hw _ (List.mem_of_getElem? (i := 45) rfl))) (Cond.privateMethod_at (mvP hZ (hw _ (List.mem_of_getElem? (i := 44) rfl)) (args := #[]))) (mvT hZ (hw _ (List.mem_of_getElem? (i := 46) rfl))) (by decide) (backOf (W := 0) (rm6f l Z a0 hw [] a1 a2 w0 ((p0 + (1 : Int32))) k0 h4 n0 O6 f11 Fw4 f7 f9 f12 S_DEFAULTCAPACITY_EMPTY_ELEMENTDATA g_a1 f13) hZ (hw _ (List.mem_of_getElem? (i := 46) rfl)) (hw _ (List.mem_of_getElem? (i := 5) rfl)) (by decide) (by decide)) (g := (mkF m 20 #[.val (.ref a1), .val (.ref a2)] [(.int (0 : Int32)), (.ref w0), (.ref a2), (.ref a1)])) rfl (by rw [hml]; rfl) (Steps.refl _) (a := a1) (by rw [e10]; exact q14) q14' (argsL := [(.ref a2), (.ref w0), (.int (0 : Int32))]) (rest := []) (lenOf pd_13 rfl) rfl (by show 2 * 0 + _ ≤ _; exact Nat.le_of_eq rfl) (hb hby d5_20) (fun _ _ => ⟨rfl, e10, (by decide : 0 + 1 ≤ _), (by decide : 0 + 10 ≤ _)⟩)
  dsimp only [Pt.U, Pt.locs, Pt.cells, Pt.slots] at X14 l14 y14 z14 st14 hQ14
  subst l14 y14 z14
  obtain ⟨b15, k16, rfl, N14q, K14, Y14_z0, Y14_0, Y14_1, Y14_2, Y14_3, Y14_4, Y14_5, Y14_6⟩ := hQ14
  have N14 := Fr.app N4 N14q
  replace X14 := X14.more (cells' := 1) (slots' := 10) (by decide) (by decide)
  have g_b15 : n0 ≤ b15 := Nat.le_trans (Nat.le_trans Z0 K5.1) Y14_z0
  have sz_b15 : h0.size ≤ b15 := Nat.le_trans K5.1 Y14_z0
  have K17 : Keep h0 T14.heap [a1] := K5.trans K14 (allS (Or.inl (List.mem_of_getElem? (i := 0) rfl)) all0)
  have O18 : Old Z n0 T14.heap := O6.keep K14 (allS g_a1 all0)
  obtain ⟨fs, hr, hrun, hended, hW, hsame⟩ := X14.leave (v := some (.int (1 : Int32))) (fun h => by rw [Bd.returns] at h; cases h)
  refine ⟨_, _, pre0 _ ?_, hrun, hended, _, _, rfl, ?_, ⟨_, rfl⟩, hW, hsame.mono (by decide) (by decide)⟩
  · show Steps p.tables e below (s₁.setTop (mkF m 0 #[.val (.ref a1), .val (.ref a2)] [])) _
    refine XS.aloadN X0.here hx rfl (hb hby d5_0) rfl rfl ?_
    show Steps p.tables e below (s₁.setTop (mkF m 1 #[.val (.ref a1), .val (.ref a2)] [(.ref a1)])) _
    refine XS.dup X0.here hx rfl (hb hby d5_1) rfl rfl ?_
    show Steps p.tables e below (s₁.setTop (mkF m 2 #[.val (.ref a1), .val (.ref a2)] [(.ref a1), (.ref a1)])) _
    refine st3 _ ?_
    show Steps p.tables e below (T3.setTop (mkF m 5 #[.val (.ref a1), .val (.ref a2)] [(.int p0), (.ref a1)])) _
    refine XS.iconst X3.here hx rfl (hb hby d5_5) ?_
    show Steps p.tables e below (T3.setTop (mkF m 6 #[.val (.ref a1), .val (.ref a2)] [(.int (1 : Int32)), (.int p0), (.ref a1)])) _
    refine XS.iadd X3.here hx rfl (hb hby d5_6) rfl ?_
    show Steps p.tables e below (T3.setTop (mkF m 7 #[.val (.ref a1), .val (.ref a2)] [(.int (p0 + (1 : Int32))), (.ref a1)])) _
    refine st4 _ ?_
    show Steps p.tables e below (T4.setTop (mkF m 10 #[.val (.ref a1), .val (.ref a2)] [])) _
    refine XS.aloadN X4.here hx rfl (hb hby d5_10) rfl rfl ?_
    show Steps p.tables e below (T4.setTop (mkF m 11 #[.val (.ref a1), .val (.ref a2)] [(.ref a1)])) _
    refine XS.aloadN X4.here hx rfl (hb hby d5_11) rfl rfl ?_
    show Steps p.tables e below (T4.setTop (mkF m 12 #[.val (.ref a1), .val (.ref a2)] [(.ref a2), (.ref a1)])) _
    refine XS.aloadN X4.here hx rfl (hb hby d5_12) rfl rfl ?_
    show Steps p.tables e below (T4.setTop (mkF m 13 #[.val (.ref a1), .val (.ref a2)] [(.ref a1), (.ref a2), (.ref a1)])) _
    refine st8 _ ?_
    show Steps p.tables e below (T8.setTop (mkF m 16 #[.val (.ref a1), .val (.ref a2)] [(.ref w0), (.ref a2), (.ref a1)])) _
    refine XS.aloadN X8.here hx rfl (hb hby d5_16) rfl rfl ?_
    show Steps p.tables e below (T8.setTop (mkF m 17 #[.val (.ref a1), .val (.ref a2)] [(.ref a1), (.ref w0), (.ref a2), (.ref a1)])) _
    refine st10 _ ?_
    show Steps p.tables e below (T10.setTop (mkF m 20 #[.val (.ref a1), .val (.ref a2)] [(.int (0 : Int32)), (.ref w0), (.ref a2), (.ref a1)])) _
    refine st14.trans ?_
    show Steps p.tables e below (T14.setTop (mkF m 23 #[.val (.ref a1), .val (.ref a2)] [])) _
    refine XS.iconst X14.here hx rfl (hb hby d5_23) ?_
    show Steps p.tables e below (T14.setTop (mkF m 24 #[.val (.ref a1), .val (.ref a2)] [(.int (1 : Int32))])) _
    exact retN X14 hx (t := .boolean) Bd.returns (by simp) (hb hby d5_24) hr
  · show Q5f Z a1 a2 p0 k0 w0 h0 n0 _ T14.heap _
    exact ⟨b15, k16, rfl, N14, K17, sz_b15, Y14_0, Y14_1, Y14_2, Y14_3, Y14_4, Y14_5, Y14_6⟩
def Q6fn (Z : State) (a1 a2 : Addr) (p0 : Int32) (k0 : ClassId) (h0 : Heap) (n0 : Nat) (v : Option Value) (h : Heap) (L : List Loc) : Prop := ∃ b5 : Addr, ∃ k6 : ClassId, v = none ∧ Fr n0 L ∧ Keep h0 h [a1] ∧ h0.size ≤ b5 ∧ Exa Z h a1 "java/util/ArrayList" ∧ Fld Z h a1 "java/util/ArrayList" "elementData" "[Ljava/lang/Object;" (.ref b5) ∧ Fld Z h a1 "java/util/AbstractList" "modCount" "I" (.int p0) ∧ Fld Z h a1 "java/util/ArrayList" "size" "I" (.int (1 : Int32)) ∧ Exa Z h b5 "[Ljava/lang/Object;" ∧ Arv Z h b5 k6 (.object "java/lang/Object") (10 : Int32) [.null, .null, .null, .null, .null, .null, .null, .null, .null, .null] .null ∧ Ovr Z k6 "java/lang/Object"
theorem ef_6ana__0___Int32__ (m : MethodId) (x0 : Addr) (x2 : Addr) : entryFrame m #[(.ref x0), .null, (.ref x2), (.int (0 : Int32))] 4 = mkF m 0 #[.val (.ref x0), .val .null, .val (.ref x2), .val (.int (0 : Int32))] [] := by first | (simp [entryFrame, mkF, argsToLocals, Value.category]; done) | rfl
set_option maxRecDepth 65536 in
set_option maxHeartbeats 40000000 in
theorem rm6fn (l : Launch) (Z : State) (a0 : Array Value) (hw : ∀ d ∈ tables_1, d.before a0 Z = true) (ws : List Jvm.Cond) (a1 a2 : Addr) (p0 : Int32) (k0 : ClassId) (h0 : Heap) (n0 : Nat) (O0 : Old Z n0 h0) (HE_a1 : Exa Z h0 a1 "java/util/ArrayList") (HF_a1_modCount : Fld Z h0 a1 "java/util/AbstractList" "modCount" "I" (.int p0)) (HF_a1_elementData : Fld Z h0 a1 "java/util/ArrayList" "elementData" "[Ljava/lang/Object;" (.ref a2)) (HF_a1_size : Fld Z h0 a1 "java/util/ArrayList" "size" "I" (.int (0 : Int32))) (HV_a2 : Arv Z h0 a2 k0 (.object "java/lang/Object") (0 : Int32) [] .null) (S_DEFAULTCAPACITY_EMPTY_ELEMENTDATA : Sta Z Z.heap "java/util/ArrayList" "DEFAULTCAPACITY_EMPTY_ELEMENTDATA" "[Ljava/lang/Object;" (.ref a2)) (g_a1 : n0 ≤ a1) :
    MetFree l (⟨"java/util/ArrayList", "add", "(Ljava/lang/Object;[Ljava/lang/Object;I)V"⟩ : MethodName) (head1 (Jvm.Cond.code (⟨"java/util/ArrayList", "add", "(Ljava/lang/Object;[Ljava/lang/Object;I)V"⟩ : MethodName) jdk_38_method_24_code 4 none :: ws) ({ frames := 3, cells := 1, slots := 10, locals := 41 } : Room)) (fun a U => a = #[(.ref a1), .null, (.ref a2), (.int (0 : Int32))] ∧ Z.Warmed39 U.vm ∧ U.heap = h0) (fun _ _ _ _ _ => True) (fun _ U o U' => ∃ v L, o = .returned v ∧ Q6fn Z a1 a2 p0 k0 h0 n0 v U'.heap L ∧ FrameEnd U o U' L ({ frames := 3, cells := 1, slots := 10, locals := 41 } : Room).cells ({ frames := 3, cells := 1, slots := 10, locals := 41 } : Room).slots) := by
  refine MetFree.of_bodySF (plainFor_of_name pnc_java_util_ArrayList) hisR ?_
  intro p e s m args below meth c s₁ Bd hml0 hP hK
  obtain ⟨rfl, hZ, hh⟩ := hP
  have hx := Bd.exec
  have hby := Bd.bytes
  have hml : c.maxLocals = 4 := hml0
  have hown : s.vm.findClass "java/util/ArrayList" = some m.cls := findClass_of_methodNamed Bd.named
  have hnm := (name_of_methodNamed Bd.named Bd.method).1
  have X0 : Stand p l e ({ frames := 3, cells := 1, slots := 10, locals := 41 } : Room) s m #[(.ref a1), .null, (.ref a2), (.int (0 : Int32))] below meth c s₁ [] 0 0 := Stand.of_body Bd
  have e0 : s₁.heap = h0 := by rw [← hh, Bd.state]; rfl
  have N0 := Fr.nil n0
  have Z0 : n0 ≤ h0.size := O0.1 ▸ O0.2.1
  have pre0 : ∀ t, Steps p.tables e below (s₁.setTop (mkF m 0 #[.val (.ref a1), .val .null, .val (.ref a2), .val (.int (0 : Int32))] [])) t → Steps p.tables e below (s₁.setTop (entryFrame m #[(.ref a1), .null, (.ref a2), (.int (0 : Int32))] 4)) t := fun t k => castTop (ef_6ana__0___Int32__ m a1 a2) k
  obtain ⟨cl3, Ar3, q3, S3, Nn3, Hh3, G3⟩ := id HV_a2
  obtain ⟨cq4, q4, q4'⟩ := HE_a1.cell
  obtain ⟨vr4, _, ⟨T4, L4, k4, n4⟩, -, X4, ⟨Lc4, hQ4, l4, y4, z4⟩, st4⟩ := X0.privateBack hx (y := (⟨"java/util/ArrayList", "grow", "()[Ljava/lang/Object;"⟩ : MethodName)) hown (mvT hZ (hw _ (List.mem_of_getElem? (i := 47) rfl))) (mvT hZ (hw _ (List.mem_of_getElem? (i := 48) rfl))) (mvT hZ (hw _ (List.mem_of_getElem? (i := 50) rfl))) (Cond.privateMethod_at (mvP hZ (hw _ (List.mem_of_getElem? (i := 49) rfl)) (args := #[]))) (mvT hZ (hw _ (List.mem_of_getElem? (i := 51) rfl))) (by decide) (backOf (W := 0) (rm7 l Z a0 hw [] a1 p0 a2 k0 h0 n0 O0 HE_a1 HF_a1_modCount HF_a1_elementData HF_a1_size HV_a2 S_DEFAULTCAPACITY_EMPTY_ELEMENTDATA g_a1) hZ (hw _ (List.mem_of_getElem? (i := 51) rfl)) (hw _ (List.mem_of_getElem? (i := 5) rfl)) (by decide) (by decide)) (g := (mkF m 7 #[.val (.ref a1), .val .null, .val (.ref a2), .val (.int (0 : Int32))] [(.ref a1)])) rfl (by rw [hml]; rfl) (Steps.refl _) (a := a1) (by rw [e0]; exact q4) q4' (argsL := []) (rest := []) (lenOf pd_2 rfl) rfl (by show 2 * 0 + _ ≤ _; exact Nat.le_of_eq rfl) (hb hby d6_7) (fun _ _ => ⟨rfl, e0, (by decide : 0 + 1 ≤ _), (by decide : 0 + 10 ≤ _)⟩)
  dsimp only [Pt.U, Pt.locs, Pt.cells, Pt.slots] at X4 l4 y4 z4 st4 hQ4
  subst l4 y4 z4
  obtain ⟨b5, k6, rfl, N4q, K4, Y4_z0, Y4_0, Y4_1, Y4_2, Y4_3, Y4_4, Y4_5, Y4_6⟩ := hQ4
  have N4 := Fr.app N0 N4q
  replace X4 := X4.more (cells' := 1) (slots' := 10) (by decide) (by decide)
  have g_b5 : n0 ≤ b5 := Nat.le_trans (Nat.le_trans Z0 (Keep.refl h0 [a1]).1) Y4_z0
  have sz_b5 : h0.size ≤ b5 := Nat.le_trans (Keep.refl h0 [a1]).1 Y4_z0
  have K7 : Keep h0 T4.heap [a1] := (Keep.refl h0 [a1]).trans K4 (allS (Or.inl (List.mem_of_getElem? (i := 0) rfl)) all0)
  have O8 : Old Z n0 T4.heap := O0.keep K4 (allS g_a1 all0)
  obtain ⟨cl9, Ar9, q9, S9, Nn9, Hh9, G9⟩ := id Y4_5
  have hin9 : ¬ ((0 : Int32) < 0 ∨ cl9.slots.size ≤ ((0 : Int32)).toNatClampNeg) := inb_of S9 ⟨by decide, by decide⟩
  obtain ⟨T10, h10, X10, e10, W10, st10⟩ := stR X4 hx hZ rfl Ar9 (j := (0 : Int32)) hin9 rfl (Or.inl rfl) (g := (mkF m 14 #[.val (.ref a1), .val .null, .val (.ref b5), .val (.int (0 : Int32))] [.null, (.int (0 : Int32)), (.ref b5)])) rfl rfl (hb hby d6_14)
  have N10 := Fr.snoc X10 N4 g_b5
  have K11 : Keep h0 h10 [a1] := K7.wr W10 (Or.inr sz_b5)
  have O12 : Old Z n0 h10 := O8.wr W10 g_b5
  have V10 : Arv Z h10 b5 k6 (.object "java/lang/Object") (10 : Int32) [.null, .null, .null, .null, .null, .null, .null, .null, .null, .null] .null := Arv.set Ar9 q9 S9 Nn9 Hh9 G9 rfl W10 0 rfl (Nat.le_of_ble_eq_true rfl)
  have f13 := (Y4_0.wr W10)
  have f14 := (Y4_3.other W10 (Or.inl (Nat.ne_of_lt (Nat.lt_of_lt_of_le HE_a1.lt Y4_z0))))
  obtain ⟨T15, h15, X15, e15, W15, st15⟩ := putF X10 hx hZ hown (host := "") (Or.inl (hw _ (List.mem_of_getElem? (i := 40) rfl))) Via.refl e10 f14 f13 (Or.inl (hw _ (List.mem_of_getElem? (i := 41) rfl))) (hw _ (List.mem_of_getElem? (i := 4) rfl)) (ty := .int) (by decide) rfl rfl (g := (mkF m 19 #[.val (.ref a1), .val .null, .val (.ref b5), .val (.int (0 : Int32))] [(.int (1 : Int32)), (.ref a1)])) rfl rfl (hb hby d6_19)
  have N15 := Fr.snoc X15 N10 g_a1
  have K16 : Keep h0 h15 [a1] := K11.wr W15 (Or.inl (List.mem_of_getElem? (i := 0) rfl))
  have O17 : Old Z n0 h15 := O12.wr W15 g_a1
  have Fw15 : Fld Z h15 a1 "java/util/ArrayList" "size" "I" (.int (1 : Int32)) := f14.same W15
  have f18 := (f13.wr W15)
  have f19 := ((Y4_1.other W10 (Or.inl (Nat.ne_of_lt (Nat.lt_of_lt_of_le HE_a1.lt Y4_z0)))).other W15 (Or.inr (slot_ne (Or.inl (hw _ (List.mem_of_getElem? (i := 28) rfl))) (Or.inl (hw _ (List.mem_of_getElem? (i := 41) rfl))) (by decide) (t := (.array (.object "java/lang/Object"))) (t' := .int) (by decide) (by decide))))
  have f20 := ((Y4_2.other W10 (Or.inl (Nat.ne_of_lt (Nat.lt_of_lt_of_le HE_a1.lt Y4_z0)))).other W15 (Or.inr (slot_ne (Or.inl (hw _ (List.mem_of_getElem? (i := 25) rfl))) (Or.inl (hw _ (List.mem_of_getElem? (i := 41) rfl))) (by decide) (t := .int) (t' := .int) (by decide) (by decide))))
  have f21 := ((Y4_4.wr W10).wr W15)
  have f22 := (V10.other W15 (Ne.symm (Nat.ne_of_lt (Nat.lt_of_lt_of_le HE_a1.lt Y4_z0))))
  have f23 := Y4_6
  obtain ⟨fs, hr, hrun, hended, hW, hsame⟩ := X15.leave (v := none) (fun _ => rfl)
  refine ⟨_, _, pre0 _ ?_, hrun, hended, _, _, rfl, ?_, ⟨_, rfl⟩, hW, hsame.mono (by decide) (by decide)⟩
  · show Steps p.tables e below (s₁.setTop (mkF m 0 #[.val (.ref a1), .val .null, .val (.ref a2), .val (.int (0 : Int32))] [])) _
    refine XS.iloadN X0.here hx rfl (hb hby d6_0) rfl ?_
    show Steps p.tables e below (s₁.setTop (mkF m 1 #[.val (.ref a1), .val .null, .val (.ref a2), .val (.int (0 : Int32))] [(.int (0 : Int32))])) _
    refine XS.aloadN X0.here hx rfl (hb hby d6_1) rfl rfl ?_
    show Steps p.tables e below (s₁.setTop (mkF m 2 #[.val (.ref a1), .val .null, .val (.ref a2), .val (.int (0 : Int32))] [(.ref a2), (.int (0 : Int32))])) _
    refine X0.arraylength hx (by rw [e0]; exact Ar3.1) (State.isArrayOf_alike hZ.alike Ar3.2.1) (g := (mkF m 2 #[.val (.ref a1), .val .null, .val (.ref a2), .val (.int (0 : Int32))] [(.ref a2), (.int (0 : Int32))])) rfl rfl (hb hby d6_2) _ ?_
    rw [len_of S3 Nn3]
    show Steps p.tables e below (s₁.setTop (mkF m 3 #[.val (.ref a1), .val .null, .val (.ref a2), .val (.int (0 : Int32))] [(.int (0 : Int32)), (.int (0 : Int32))])) _
    refine XS.icmpNo X0.here hx rfl (hb hby d6_3) rfl (teq (by decide : (0 : Int32) = (0 : Int32))).2 ?_
    show Steps p.tables e below (s₁.setTop (mkF m 6 #[.val (.ref a1), .val .null, .val (.ref a2), .val (.int (0 : Int32))] [])) _
    refine XS.aloadN X0.here hx rfl (hb hby d6_6) rfl rfl ?_
    show Steps p.tables e below (s₁.setTop (mkF m 7 #[.val (.ref a1), .val .null, .val (.ref a2), .val (.int (0 : Int32))] [(.ref a1)])) _
    refine st4.trans ?_
    show Steps p.tables e below (T4.setTop (mkF m 10 #[.val (.ref a1), .val .null, .val (.ref a2), .val (.int (0 : Int32))] [(.ref b5)])) _
    refine XS.astoreN X4.here hx rfl (hb hby d6_10) rfl rfl (l' := #[.val (.ref a1), .val .null, .val (.ref b5), .val (.int (0 : Int32))]) rfl ?_
    show Steps p.tables e below (T4.setTop (mkF m 11 #[.val (.ref a1), .val .null, .val (.ref b5), .val (.int (0 : Int32))] [])) _
    refine XS.aloadN X4.here hx rfl (hb hby d6_11) rfl rfl ?_
    show Steps p.tables e below (T4.setTop (mkF m 12 #[.val (.ref a1), .val .null, .val (.ref b5), .val (.int (0 : Int32))] [(.ref b5)])) _
    refine XS.iloadN X4.here hx rfl (hb hby d6_12) rfl ?_
    show Steps p.tables e below (T4.setTop (mkF m 13 #[.val (.ref a1), .val .null, .val (.ref b5), .val (.int (0 : Int32))] [(.int (0 : Int32)), (.ref b5)])) _
    refine XS.aloadN X4.here hx rfl (hb hby d6_13) rfl rfl ?_
    show Steps p.tables e below (T4.setTop (mkF m 14 #[.val (.ref a1), .val .null, .val (.ref b5), .val (.int (0 : Int32))] [.null, (.int (0 : Int32)), (.ref b5)])) _
    refine st10 _ ?_
    show Steps p.tables e below (T10.setTop (mkF m 15 #[.val (.ref a1), .val .null, .val (.ref b5), .val (.int (0 : Int32))] [])) _
    refine XS.aloadN X10.here hx rfl (hb hby d6_15) rfl rfl ?_
    show Steps p.tables e below (T10.setTop (mkF m 16 #[.val (.ref a1), .val .null, .val (.ref b5), .val (.int (0 : Int32))] [(.ref a1)])) _
    refine XS.iloadN X10.here hx rfl (hb hby d6_16) rfl ?_
    show Steps p.tables e below (T10.setTop (mkF m 17 #[.val (.ref a1), .val .null, .val (.ref b5), .val (.int (0 : Int32))] [(.int (0 : Int32)), (.ref a1)])) _
    refine XS.iconst X10.here hx rfl (hb hby d6_17) ?_
    show Steps p.tables e below (T10.setTop (mkF m 18 #[.val (.ref a1), .val .null, .val (.ref b5), .val (.int (0 : Int32))] [(.int (1 : Int32)), (.int (0 : Int32)), (.ref a1)])) _
    refine XS.iadd X10.here hx rfl (hb hby d6_18) rfl ?_
    show Steps p.tables e below (T10.setTop (mkF m 19 #[.val (.ref a1), .val .null, .val (.ref b5), .val (.int (0 : Int32))] [(.int (1 : Int32)), (.ref a1)])) _
    refine st15 _ ?_
    show Steps p.tables e below (T15.setTop (mkF m 22 #[.val (.ref a1), .val .null, .val (.ref b5), .val (.int (0 : Int32))] [])) _
    exact X15.returnOut hx Bd.returns (hb hby d6_22) hr
  · show Q6fn Z a1 a2 p0 k0 h0 n0 _ T15.heap _
    rw [e15]
    exact ⟨b5, k6, rfl, N15, K16, sz_b5, f18, f19, f20, Fw15, f21, f22, f23⟩
def Q5fn (Z : State) (a1 : Addr) (p0 : Int32) (k0 : ClassId) (w0 : Addr) (h0 : Heap) (n0 : Nat) (v : Option Value) (h : Heap) (L : List Loc) : Prop := ∃ b13 : Addr, ∃ k14 : ClassId, v = some (.int (1 : Int32)) ∧ Fr n0 L ∧ Keep h0 h [a1] ∧ h0.size ≤ b13 ∧ Exa Z h a1 "java/util/ArrayList" ∧ Fld Z h a1 "java/util/ArrayList" "elementData" "[Ljava/lang/Object;" (.ref b13) ∧ Fld Z h a1 "java/util/AbstractList" "modCount" "I" (.int (p0 + (1 : Int32))) ∧ Fld Z h a1 "java/util/ArrayList" "size" "I" (.int (1 : Int32)) ∧ Exa Z h b13 "[Ljava/lang/Object;" ∧ Arv Z h b13 k14 (.object "java/lang/Object") (10 : Int32) [.null, .null, .null, .null, .null, .null, .null, .null, .null, .null] .null ∧ Ovr Z k14 "java/lang/Object"
theorem ef_5an (m : MethodId) (x0 : Addr) : entryFrame m #[(.ref x0), .null] 2 = mkF m 0 #[.val (.ref x0), .val .null] [] := by first | (simp [entryFrame, mkF, argsToLocals, Value.category]; done) | rfl
set_option maxRecDepth 65536 in
set_option maxHeartbeats 40000000 in
theorem rm5fn (l : Launch) (Z : State) (a0 : Array Value) (hw : ∀ d ∈ tables_1, d.before a0 Z = true) (ws : List Jvm.Cond) (a1 : Addr) (p0 : Int32) (k0 : ClassId) (w0 : Addr) (h0 : Heap) (n0 : Nat) (O0 : Old Z n0 h0) (HE_a1 : Exa Z h0 a1 "java/util/ArrayList") (HF_a1_modCount : Fld Z h0 a1 "java/util/AbstractList" "modCount" "I" (.int p0)) (HF_a1_elementData : Fld Z h0 a1 "java/util/ArrayList" "elementData" "[Ljava/lang/Object;" (.ref w0)) (HF_a1_size : Fld Z h0 a1 "java/util/ArrayList" "size" "I" (.int (0 : Int32))) (HV_w0 : Arv Z h0 w0 k0 (.object "java/lang/Object") (0 : Int32) [] .null) (g_a1 : n0 ≤ a1) (ne_w0_a1 : w0 ≠ a1) (S_DEFAULTCAPACITY_EMPTY_ELEMENTDATA : Sta Z Z.heap "java/util/ArrayList" "DEFAULTCAPACITY_EMPTY_ELEMENTDATA" "[Ljava/lang/Object;" (.ref w0)) :
    MetFree l (⟨"java/util/ArrayList", "add", "(Ljava/lang/Object;)Z"⟩ : MethodName) (head1 (Jvm.Cond.code (⟨"java/util/ArrayList", "add", "(Ljava/lang/Object;)Z"⟩ : MethodName) jdk_38_method_25_code 2 (some .boolean) :: ws) ({ frames := 4, cells := 1, slots := 10, locals := 56 } : Room)) (fun a U => a = #[(.ref a1), .null] ∧ Z.Warmed39 U.vm ∧ U.heap = h0) (fun _ _ _ _ _ => True) (fun _ U o U' => ∃ v L, o = .returned v ∧ Q5fn Z a1 p0 k0 w0 h0 n0 v U'.heap L ∧ FrameEnd U o U' L ({ frames := 4, cells := 1, slots := 10, locals := 56 } : Room).cells ({ frames := 4, cells := 1, slots := 10, locals := 56 } : Room).slots) := by
  refine MetFree.of_bodySF (plainFor_of_name pnc_java_util_ArrayList) hisR ?_
  intro p e s m args below meth c s₁ Bd hml0 hP hK
  obtain ⟨rfl, hZ, hh⟩ := hP
  have hx := Bd.exec
  have hby := Bd.bytes
  have hml : c.maxLocals = 2 := hml0
  have hown : s.vm.findClass "java/util/ArrayList" = some m.cls := findClass_of_methodNamed Bd.named
  have hnm := (name_of_methodNamed Bd.named Bd.method).1
  have X0 : Stand p l e ({ frames := 4, cells := 1, slots := 10, locals := 56 } : Room) s m #[(.ref a1), .null] below meth c s₁ [] 0 0 := Stand.of_body Bd
  have e0 : s₁.heap = h0 := by rw [← hh, Bd.state]; rfl
  have N0 := Fr.nil n0
  have Z0 : n0 ≤ h0.size := O0.1 ▸ O0.2.1
  have pre0 : ∀ t, Steps p.tables e below (s₁.setTop (mkF m 0 #[.val (.ref a1), .val .null] [])) t → Steps p.tables e below (s₁.setTop (entryFrame m #[(.ref a1), .null] 2)) t := fun t k => castTop (ef_5an m a1) k
  obtain ⟨T2, X2, e2, st2⟩ := getF X0 hx hZ hown (host := "") (Or.inl (hw _ (List.mem_of_getElem? (i := 38) rfl))) (Via.of (hw _ (List.mem_of_getElem? (i := 39) rfl))) e0 HF_a1_modCount (g := (mkF m 2 #[.val (.ref a1), .val .null] [(.ref a1), (.ref a1)])) rfl rfl (hb hby d5_2)
  obtain ⟨T3, h3, X3, e3, W3, st3⟩ := putF X2 hx hZ hown (host := "") (Or.inl (hw _ (List.mem_of_getElem? (i := 38) rfl))) (Via.of (hw _ (List.mem_of_getElem? (i := 39) rfl))) e2 HF_a1_modCount HE_a1 (Or.inl (hw _ (List.mem_of_getElem? (i := 25) rfl))) (hw _ (List.mem_of_getElem? (i := 4) rfl)) (ty := .int) (by decide) rfl rfl (g := (mkF m 7 #[.val (.ref a1), .val .null] [(.int (p0 + (1 : Int32))), (.ref a1)])) rfl rfl (hb hby d5_7)
  have N3 := Fr.snoc X3 N0 g_a1
  have K4 : Keep h0 h3 [a1] := (Keep.refl h0 [a1]).wr W3 (Or.inl (List.mem_of_getElem? (i := 0) rfl))
  have O5 : Old Z n0 h3 := O0.wr W3 g_a1
  have Fw3 : Fld Z h3 a1 "java/util/AbstractList" "modCount" "I" (.int (p0 + (1 : Int32))) := HF_a1_modCount.same W3
  have f6 := (HF_a1_elementData.other W3 (Or.inr (slot_ne (Or.inl (hw _ (List.mem_of_getElem? (i := 28) rfl))) (Or.inl (hw _ (List.mem_of_getElem? (i := 25) rfl))) (by decide) (t := (.array (.object "java/lang/Object"))) (t' := .int) (by decide) (by decide))))
  obtain ⟨T7, X7, e7, st7⟩ := getF X3 hx hZ hown (host := "") (Or.inl (hw _ (List.mem_of_getElem? (i := 27) rfl))) Via.refl e3 f6 (g := (mkF m 13 #[.val (.ref a1), .val .null] [(.ref a1), .null, (.ref a1)])) rfl rfl (hb hby d5_13)
  have f8 := (HF_a1_size.other W3 (Or.inr (slot_ne (Or.inl (hw _ (List.mem_of_getElem? (i := 41) rfl))) (Or.inl (hw _ (List.mem_of_getElem? (i := 25) rfl))) (by decide) (t := .int) (t' := .int) (by decide) (by decide))))
  obtain ⟨T9, X9, e9, st9⟩ := getF X7 hx hZ hown (host := "") (Or.inl (hw _ (List.mem_of_getElem? (i := 40) rfl))) Via.refl e7 f8 (g := (mkF m 17 #[.val (.ref a1), .val .null] [(.ref a1), (.ref w0), .null, (.ref a1)])) rfl rfl (hb hby d5_17)
  have f10 := (HE_a1.wr W3)
  have f11 := (HV_w0.other W3 ne_w0_a1)
  obtain ⟨cq12, q12, q12'⟩ := f10.cell
  obtain ⟨vr12, _, ⟨T12, L12, k12, n12⟩, -, X12, ⟨Lc12, hQ12, l12, y12, z12⟩, st12⟩ := X9.privateBack hx (y := (⟨"java/util/ArrayList", "add", "(Ljava/lang/Object;[Ljava/lang/Object;I)V"⟩ : MethodName)) hown (mvT hZ (hw _ (List.mem_of_getElem? (i := 42) rfl))) (mvT hZ (hw _ (List.mem_of_getElem? (i := 43) rfl))) (mvT hZ (hw _ (List.mem_of_getElem? (i := 45) rfl))) (Cond.privateMethod_at (mvP hZ (hw _ (List.mem_of_getElem? (i := 44) rfl)) (args := #[]))) (mvT hZ (hw _ (List.mem_of_getElem? (i := 46) rfl))) (by decide) (backOf (W := 0) (rm6fn l Z a0 hw [] a1 w0 ((p0 + (1 : Int32))) k0 h3 n0 O5 f10 Fw3 f6 f8 f11 S_DEFAULTCAPACITY_EMPTY_ELEMENTDATA g_a1) hZ (hw _ (List.mem_of_getElem? (i := 46) rfl)) (hw _ (List.mem_of_getElem? (i := 5) rfl)) (by decide) (by decide)) (g := (mkF m 20 #[.val (.ref a1), .val .null] [(.int (0 : Int32)), (.ref w0), .null, (.ref a1)])) rfl (by rw [hml]; rfl) (Steps.refl _) (a := a1) (by rw [e9]; exact q12) q12' (argsL := [.null, (.ref w0), (.int (0 : Int32))]) (rest := []) (lenOf pd_13 rfl) rfl (by show 2 * 0 + _ ≤ _; exact Nat.le_of_eq rfl) (hb hby d5_20) (fun _ _ => ⟨rfl, e9, (by decide : 0 + 1 ≤ _), (by decide : 0 + 10 ≤ _)⟩)
  dsimp only [Pt.U, Pt.locs, Pt.cells, Pt.slots] at X12 l12 y12 z12 st12 hQ12
  subst l12 y12 z12
  obtain ⟨b13, k14, rfl, N12q, K12, Y12_z0, Y12_0, Y12_1, Y12_2, Y12_3, Y12_4, Y12_5, Y12_6⟩ := hQ12
  have N12 := Fr.app N3 N12q
  replace X12 := X12.more (cells' := 1) (slots' := 10) (by decide) (by decide)
  have g_b13 : n0 ≤ b13 := Nat.le_trans (Nat.le_trans Z0 K4.1) Y12_z0
  have sz_b13 : h0.size ≤ b13 := Nat.le_trans K4.1 Y12_z0
  have K15 : Keep h0 T12.heap [a1] := K4.trans K12 (allS (Or.inl (List.mem_of_getElem? (i := 0) rfl)) all0)
  have O16 : Old Z n0 T12.heap := O5.keep K12 (allS g_a1 all0)
  obtain ⟨fs, hr, hrun, hended, hW, hsame⟩ := X12.leave (v := some (.int (1 : Int32))) (fun h => by rw [Bd.returns] at h; cases h)
  refine ⟨_, _, pre0 _ ?_, hrun, hended, _, _, rfl, ?_, ⟨_, rfl⟩, hW, hsame.mono (by decide) (by decide)⟩
  · show Steps p.tables e below (s₁.setTop (mkF m 0 #[.val (.ref a1), .val .null] [])) _
    refine XS.aloadN X0.here hx rfl (hb hby d5_0) rfl rfl ?_
    show Steps p.tables e below (s₁.setTop (mkF m 1 #[.val (.ref a1), .val .null] [(.ref a1)])) _
    refine XS.dup X0.here hx rfl (hb hby d5_1) rfl rfl ?_
    show Steps p.tables e below (s₁.setTop (mkF m 2 #[.val (.ref a1), .val .null] [(.ref a1), (.ref a1)])) _
    refine st2 _ ?_
    show Steps p.tables e below (T2.setTop (mkF m 5 #[.val (.ref a1), .val .null] [(.int p0), (.ref a1)])) _
    refine XS.iconst X2.here hx rfl (hb hby d5_5) ?_
    show Steps p.tables e below (T2.setTop (mkF m 6 #[.val (.ref a1), .val .null] [(.int (1 : Int32)), (.int p0), (.ref a1)])) _
    refine XS.iadd X2.here hx rfl (hb hby d5_6) rfl ?_
    show Steps p.tables e below (T2.setTop (mkF m 7 #[.val (.ref a1), .val .null] [(.int (p0 + (1 : Int32))), (.ref a1)])) _
    refine st3 _ ?_
    show Steps p.tables e below (T3.setTop (mkF m 10 #[.val (.ref a1), .val .null] [])) _
    refine XS.aloadN X3.here hx rfl (hb hby d5_10) rfl rfl ?_
    show Steps p.tables e below (T3.setTop (mkF m 11 #[.val (.ref a1), .val .null] [(.ref a1)])) _
    refine XS.aloadN X3.here hx rfl (hb hby d5_11) rfl rfl ?_
    show Steps p.tables e below (T3.setTop (mkF m 12 #[.val (.ref a1), .val .null] [.null, (.ref a1)])) _
    refine XS.aloadN X3.here hx rfl (hb hby d5_12) rfl rfl ?_
    show Steps p.tables e below (T3.setTop (mkF m 13 #[.val (.ref a1), .val .null] [(.ref a1), .null, (.ref a1)])) _
    refine st7 _ ?_
    show Steps p.tables e below (T7.setTop (mkF m 16 #[.val (.ref a1), .val .null] [(.ref w0), .null, (.ref a1)])) _
    refine XS.aloadN X7.here hx rfl (hb hby d5_16) rfl rfl ?_
    show Steps p.tables e below (T7.setTop (mkF m 17 #[.val (.ref a1), .val .null] [(.ref a1), (.ref w0), .null, (.ref a1)])) _
    refine st9 _ ?_
    show Steps p.tables e below (T9.setTop (mkF m 20 #[.val (.ref a1), .val .null] [(.int (0 : Int32)), (.ref w0), .null, (.ref a1)])) _
    refine st12.trans ?_
    show Steps p.tables e below (T12.setTop (mkF m 23 #[.val (.ref a1), .val .null] [])) _
    refine XS.iconst X12.here hx rfl (hb hby d5_23) ?_
    show Steps p.tables e below (T12.setTop (mkF m 24 #[.val (.ref a1), .val .null] [(.int (1 : Int32))])) _
    exact retN X12 hx (t := .boolean) Bd.returns (by simp) (hb hby d5_24) hr
  · show Q5fn Z a1 p0 k0 w0 h0 n0 _ T12.heap _
    exact ⟨b13, k14, rfl, N12, K15, sz_b13, Y12_0, Y12_1, Y12_2, Y12_3, Y12_4, Y12_5, Y12_6⟩
def Q6r1a (Z : State) (a1 a2 a3 : Addr) (p0 : Int32) (k0 : ClassId) (el0 : Addr) (h0 : Heap) (n0 : Nat) (v : Option Value) (h : Heap) (L : List Loc) : Prop := v = none ∧ Fr n0 L ∧ Keep h0 h [a3, a1] ∧ Exa Z h a3 "[Ljava/lang/Object;" ∧ Arv Z h a3 k0 (.object "java/lang/Object") (10 : Int32) [(.ref el0), (.ref a2), .null, .null, .null, .null, .null, .null, .null, .null] .null ∧ Ovr Z k0 "java/lang/Object" ∧ Exa Z h a1 "java/util/ArrayList" ∧ Fld Z h a1 "java/util/ArrayList" "elementData" "[Ljava/lang/Object;" (.ref a3) ∧ Fld Z h a1 "java/util/AbstractList" "modCount" "I" (.int p0) ∧ Fld Z h a1 "java/util/ArrayList" "size" "I" (.int (2 : Int32))
theorem ef_6aaa__1___Int32__ (m : MethodId) (x0 : Addr) (x1 : Addr) (x2 : Addr) : entryFrame m #[(.ref x0), (.ref x1), (.ref x2), (.int (1 : Int32))] 4 = mkF m 0 #[.val (.ref x0), .val (.ref x1), .val (.ref x2), .val (.int (1 : Int32))] [] := by first | (simp [entryFrame, mkF, argsToLocals, Value.category]; done) | rfl
set_option maxRecDepth 65536 in
set_option maxHeartbeats 40000000 in
theorem rm6r1a (l : Launch) (Z : State) (a0 : Array Value) (hw : ∀ d ∈ tables_1, d.before a0 Z = true) (ws : List Jvm.Cond) (a1 a2 a3 : Addr) (p0 : Int32) (k0 : ClassId) (el0 : Addr) (h0 : Heap) (n0 : Nat) (O0 : Old Z n0 h0) (HE_a1 : Exa Z h0 a1 "java/util/ArrayList") (HF_a1_modCount : Fld Z h0 a1 "java/util/AbstractList" "modCount" "I" (.int p0)) (HF_a1_elementData : Fld Z h0 a1 "java/util/ArrayList" "elementData" "[Ljava/lang/Object;" (.ref a3)) (HF_a1_size : Fld Z h0 a1 "java/util/ArrayList" "size" "I" (.int (1 : Int32))) (HE_a3 : Exa Z h0 a3 "[Ljava/lang/Object;") (HV_a3 : Arv Z h0 a3 k0 (.object "java/lang/Object") (10 : Int32) [(.ref el0), .null, .null, .null, .null, .null, .null, .null, .null, .null] .null) (HY_a3 : Ovr Z k0 "java/lang/Object") (HI_a2_java_lang_Object : Ins Z h0 a2 "java/lang/Object" true) (g_a3 : n0 ≤ a3) (ne_a1_a3 : a1 ≠ a3) (g_a1 : n0 ≤ a1) :
    MetFree l (⟨"java/util/ArrayList", "add", "(Ljava/lang/Object;[Ljava/lang/Object;I)V"⟩ : MethodName) (head1 (Jvm.Cond.code (⟨"java/util/ArrayList", "add", "(Ljava/lang/Object;[Ljava/lang/Object;I)V"⟩ : MethodName) jdk_38_method_24_code 4 none :: ws) ({ frames := 0, cells := 0, slots := 0, locals := 0 } : Room)) (fun a U => a = #[(.ref a1), (.ref a2), (.ref a3), (.int (1 : Int32))] ∧ Z.Warmed39 U.vm ∧ U.heap = h0) (fun _ _ _ _ _ => True) (fun _ U o U' => ∃ v L, o = .returned v ∧ Q6r1a Z a1 a2 a3 p0 k0 el0 h0 n0 v U'.heap L ∧ FrameEnd U o U' L ({ frames := 0, cells := 0, slots := 0, locals := 0 } : Room).cells ({ frames := 0, cells := 0, slots := 0, locals := 0 } : Room).slots) := by
  refine MetFree.of_bodySF (plainFor_of_name pnc_java_util_ArrayList) hisR ?_
  intro p e s m args below meth c s₁ Bd hml0 hP hK
  obtain ⟨rfl, hZ, hh⟩ := hP
  have hx := Bd.exec
  have hby := Bd.bytes
  have hml : c.maxLocals = 4 := hml0
  have hown : s.vm.findClass "java/util/ArrayList" = some m.cls := findClass_of_methodNamed Bd.named
  have hnm := (name_of_methodNamed Bd.named Bd.method).1
  have X0 : Stand p l e ({ frames := 0, cells := 0, slots := 0, locals := 0 } : Room) s m #[(.ref a1), (.ref a2), (.ref a3), (.int (1 : Int32))] below meth c s₁ [] 0 0 := Stand.of_body Bd
  have e0 : s₁.heap = h0 := by rw [← hh, Bd.state]; rfl
  have N0 := Fr.nil n0
  have Z0 : n0 ≤ h0.size := O0.1 ▸ O0.2.1
  have pre0 : ∀ t, Steps p.tables e below (s₁.setTop (mkF m 0 #[.val (.ref a1), .val (.ref a2), .val (.ref a3), .val (.int (1 : Int32))] [])) t → Steps p.tables e below (s₁.setTop (entryFrame m #[(.ref a1), (.ref a2), (.ref a3), (.int (1 : Int32))] 4)) t := fun t k => castTop (ef_6aaa__1___Int32__ m a1 a2 a3) k
  obtain ⟨cl4, Ar4, q4, S4, Nn4, Hh4, G4⟩ := id HV_a3
  obtain ⟨cl5, Ar5, q5, S5, Nn5, Hh5, G5⟩ := id HV_a3
  have hin5 : ¬ ((1 : Int32) < 0 ∨ cl5.slots.size ≤ ((1 : Int32)).toNatClampNeg) := inb_of S5 ⟨by decide, by decide⟩
  obtain ⟨T6, h6, X6, e6, W6, st6⟩ := stR X0 hx hZ e0 Ar5 (j := (1 : Int32)) hin5 rfl (Sto.ofV Ar5 q5 HY_a3 HI_a2_java_lang_Object) (g := (mkF m 14 #[.val (.ref a1), .val (.ref a2), .val (.ref a3), .val (.int (1 : Int32))] [(.ref a2), (.int (1 : Int32)), (.ref a3)])) rfl rfl (hb hby d6_14)
  have N6 := Fr.snoc X6 N0 g_a3
  have K7 : Keep h0 h6 [a3, a1] := (Keep.refl h0 [a3, a1]).wr W6 (Or.inl (List.mem_of_getElem? (i := 0) rfl))
  have O8 : Old Z n0 h6 := O0.wr W6 g_a3
  have V6 : Arv Z h6 a3 k0 (.object "java/lang/Object") (10 : Int32) [(.ref el0), (.ref a2), .null, .null, .null, .null, .null, .null, .null, .null] .null := Arv.set Ar5 q5 S5 Nn5 Hh5 G5 rfl W6 1 rfl (Nat.le_of_ble_eq_true rfl)
  have f9 := (HE_a1.wr W6)
  have f10 := (HF_a1_size.other W6 (Or.inl ne_a1_a3))
  obtain ⟨T11, h11, X11, e11, W11, st11⟩ := putF X6 hx hZ hown (host := "") (Or.inl (hw _ (List.mem_of_getElem? (i := 40) rfl))) Via.refl e6 f10 f9 (Or.inl (hw _ (List.mem_of_getElem? (i := 41) rfl))) (hw _ (List.mem_of_getElem? (i := 4) rfl)) (ty := .int) (by decide) rfl rfl (g := (mkF m 19 #[.val (.ref a1), .val (.ref a2), .val (.ref a3), .val (.int (1 : Int32))] [(.int (2 : Int32)), (.ref a1)])) rfl rfl (hb hby d6_19)
  have N11 := Fr.snoc X11 N6 g_a1
  have K12 : Keep h0 h11 [a3, a1] := K7.wr W11 (Or.inl (List.mem_of_getElem? (i := 1) rfl))
  have O13 : Old Z n0 h11 := O8.wr W11 g_a1
  have Fw11 : Fld Z h11 a1 "java/util/ArrayList" "size" "I" (.int (2 : Int32)) := f10.same W11
  have f14 := ((HE_a3.wr W6).wr W11)
  have f15 := (V6.other W11 (Ne.symm ne_a1_a3))
  have f16 := HY_a3
  have f17 := (f9.wr W11)
  have f18 := ((HF_a1_elementData.other W6 (Or.inl ne_a1_a3)).other W11 (Or.inr (slot_ne (Or.inl (hw _ (List.mem_of_getElem? (i := 28) rfl))) (Or.inl (hw _ (List.mem_of_getElem? (i := 41) rfl))) (by decide) (t := (.array (.object "java/lang/Object"))) (t' := .int) (by decide) (by decide))))
  have f19 := ((HF_a1_modCount.other W6 (Or.inl ne_a1_a3)).other W11 (Or.inr (slot_ne (Or.inl (hw _ (List.mem_of_getElem? (i := 25) rfl))) (Or.inl (hw _ (List.mem_of_getElem? (i := 41) rfl))) (by decide) (t := .int) (t' := .int) (by decide) (by decide))))
  obtain ⟨fs, hr, hrun, hended, hW, hsame⟩ := X11.leave (v := none) (fun _ => rfl)
  refine ⟨_, _, pre0 _ ?_, hrun, hended, _, _, rfl, ?_, ⟨_, rfl⟩, hW, hsame.mono (by decide) (by decide)⟩
  · show Steps p.tables e below (s₁.setTop (mkF m 0 #[.val (.ref a1), .val (.ref a2), .val (.ref a3), .val (.int (1 : Int32))] [])) _
    refine XS.iloadN X0.here hx rfl (hb hby d6_0) rfl ?_
    show Steps p.tables e below (s₁.setTop (mkF m 1 #[.val (.ref a1), .val (.ref a2), .val (.ref a3), .val (.int (1 : Int32))] [(.int (1 : Int32))])) _
    refine XS.aloadN X0.here hx rfl (hb hby d6_1) rfl rfl ?_
    show Steps p.tables e below (s₁.setTop (mkF m 2 #[.val (.ref a1), .val (.ref a2), .val (.ref a3), .val (.int (1 : Int32))] [(.ref a3), (.int (1 : Int32))])) _
    refine X0.arraylength hx (by rw [e0]; exact Ar4.1) (State.isArrayOf_alike hZ.alike Ar4.2.1) (g := (mkF m 2 #[.val (.ref a1), .val (.ref a2), .val (.ref a3), .val (.int (1 : Int32))] [(.ref a3), (.int (1 : Int32))])) rfl rfl (hb hby d6_2) _ ?_
    rw [len_of S4 Nn4]
    show Steps p.tables e below (s₁.setTop (mkF m 3 #[.val (.ref a1), .val (.ref a2), .val (.ref a3), .val (.int (1 : Int32))] [(.int (10 : Int32)), (.int (1 : Int32))])) _
    refine XS.icmpYes X0.here hx rfl (pc0 := 3) (pc' := 11) rfl (hb hby d6_3) rfl (feq (by decide : ¬ ((1 : Int32) = (10 : Int32)))).2 (by decide) (by decide) ?_
    show Steps p.tables e below (s₁.setTop (mkF m 11 #[.val (.ref a1), .val (.ref a2), .val (.ref a3), .val (.int (1 : Int32))] [])) _
    refine XS.aloadN X0.here hx rfl (hb hby d6_11) rfl rfl ?_
    show Steps p.tables e below (s₁.setTop (mkF m 12 #[.val (.ref a1), .val (.ref a2), .val (.ref a3), .val (.int (1 : Int32))] [(.ref a3)])) _
    refine XS.iloadN X0.here hx rfl (hb hby d6_12) rfl ?_
    show Steps p.tables e below (s₁.setTop (mkF m 13 #[.val (.ref a1), .val (.ref a2), .val (.ref a3), .val (.int (1 : Int32))] [(.int (1 : Int32)), (.ref a3)])) _
    refine XS.aloadN X0.here hx rfl (hb hby d6_13) rfl rfl ?_
    show Steps p.tables e below (s₁.setTop (mkF m 14 #[.val (.ref a1), .val (.ref a2), .val (.ref a3), .val (.int (1 : Int32))] [(.ref a2), (.int (1 : Int32)), (.ref a3)])) _
    refine st6 _ ?_
    show Steps p.tables e below (T6.setTop (mkF m 15 #[.val (.ref a1), .val (.ref a2), .val (.ref a3), .val (.int (1 : Int32))] [])) _
    refine XS.aloadN X6.here hx rfl (hb hby d6_15) rfl rfl ?_
    show Steps p.tables e below (T6.setTop (mkF m 16 #[.val (.ref a1), .val (.ref a2), .val (.ref a3), .val (.int (1 : Int32))] [(.ref a1)])) _
    refine XS.iloadN X6.here hx rfl (hb hby d6_16) rfl ?_
    show Steps p.tables e below (T6.setTop (mkF m 17 #[.val (.ref a1), .val (.ref a2), .val (.ref a3), .val (.int (1 : Int32))] [(.int (1 : Int32)), (.ref a1)])) _
    refine XS.iconst X6.here hx rfl (hb hby d6_17) ?_
    show Steps p.tables e below (T6.setTop (mkF m 18 #[.val (.ref a1), .val (.ref a2), .val (.ref a3), .val (.int (1 : Int32))] [(.int (1 : Int32)), (.int (1 : Int32)), (.ref a1)])) _
    refine XS.iadd X6.here hx rfl (hb hby d6_18) rfl ?_
    show Steps p.tables e below (T6.setTop (mkF m 19 #[.val (.ref a1), .val (.ref a2), .val (.ref a3), .val (.int (1 : Int32))] [(.int (2 : Int32)), (.ref a1)])) _
    refine st11 _ ?_
    show Steps p.tables e below (T11.setTop (mkF m 22 #[.val (.ref a1), .val (.ref a2), .val (.ref a3), .val (.int (1 : Int32))] [])) _
    exact X11.returnOut hx Bd.returns (hb hby d6_22) hr
  · show Q6r1a Z a1 a2 a3 p0 k0 el0 h0 n0 _ T11.heap _
    rw [e11]
    exact ⟨rfl, N11, K12, f14, f15, f16, f17, f18, f19, Fw11⟩
def Q5r1a (Z : State) (a1 a2 : Addr) (p0 : Int32) (k0 : ClassId) (el0 w0 : Addr) (h0 : Heap) (n0 : Nat) (v : Option Value) (h : Heap) (L : List Loc) : Prop := v = some (.int (1 : Int32)) ∧ Fr n0 L ∧ Keep h0 h [a1, w0] ∧ Exa Z h a1 "java/util/ArrayList" ∧ Fld Z h a1 "java/util/ArrayList" "elementData" "[Ljava/lang/Object;" (.ref w0) ∧ Fld Z h a1 "java/util/AbstractList" "modCount" "I" (.int (p0 + (1 : Int32))) ∧ Fld Z h a1 "java/util/ArrayList" "size" "I" (.int (2 : Int32)) ∧ Exa Z h w0 "[Ljava/lang/Object;" ∧ Arv Z h w0 k0 (.object "java/lang/Object") (10 : Int32) [(.ref el0), (.ref a2), .null, .null, .null, .null, .null, .null, .null, .null] .null ∧ Ovr Z k0 "java/lang/Object"
set_option maxRecDepth 65536 in
set_option maxHeartbeats 40000000 in
theorem rm5r1a (l : Launch) (Z : State) (a0 : Array Value) (hw : ∀ d ∈ tables_1, d.before a0 Z = true) (ws : List Jvm.Cond) (a1 a2 : Addr) (p0 : Int32) (k0 : ClassId) (el0 w0 : Addr) (h0 : Heap) (n0 : Nat) (O0 : Old Z n0 h0) (HE_a1 : Exa Z h0 a1 "java/util/ArrayList") (HF_a1_modCount : Fld Z h0 a1 "java/util/AbstractList" "modCount" "I" (.int p0)) (HF_a1_elementData : Fld Z h0 a1 "java/util/ArrayList" "elementData" "[Ljava/lang/Object;" (.ref w0)) (HF_a1_size : Fld Z h0 a1 "java/util/ArrayList" "size" "I" (.int (1 : Int32))) (HE_w0 : Exa Z h0 w0 "[Ljava/lang/Object;") (HV_w0 : Arv Z h0 w0 k0 (.object "java/lang/Object") (10 : Int32) [(.ref el0), .null, .null, .null, .null, .null, .null, .null, .null, .null] .null) (HY_w0 : Ovr Z k0 "java/lang/Object") (g_a1 : n0 ≤ a1) (ne_w0_a1 : w0 ≠ a1) (HI_a2_java_lang_Object : Ins Z h0 a2 "java/lang/Object" true) (g_w0 : n0 ≤ w0) :
    MetFree l (⟨"java/util/ArrayList", "add", "(Ljava/lang/Object;)Z"⟩ : MethodName) (head1 (Jvm.Cond.code (⟨"java/util/ArrayList", "add", "(Ljava/lang/Object;)Z"⟩ : MethodName) jdk_38_method_25_code 2 (some .boolean) :: ws) ({ frames := 1, cells := 0, slots := 0, locals := 15 } : Room)) (fun a U => a = #[(.ref a1), (.ref a2)] ∧ Z.Warmed39 U.vm ∧ U.heap = h0) (fun _ _ _ _ _ => True) (fun _ U o U' => ∃ v L, o = .returned v ∧ Q5r1a Z a1 a2 p0 k0 el0 w0 h0 n0 v U'.heap L ∧ FrameEnd U o U' L ({ frames := 1, cells := 0, slots := 0, locals := 15 } : Room).cells ({ frames := 1, cells := 0, slots := 0, locals := 15 } : Room).slots) := by
  refine MetFree.of_bodySF (plainFor_of_name pnc_java_util_ArrayList) hisR ?_
  intro p e s m args below meth c s₁ Bd hml0 hP hK
  obtain ⟨rfl, hZ, hh⟩ := hP
  have hx := Bd.exec
  have hby := Bd.bytes
  have hml : c.maxLocals = 2 := hml0
  have hown : s.vm.findClass "java/util/ArrayList" = some m.cls := findClass_of_methodNamed Bd.named
  have hnm := (name_of_methodNamed Bd.named Bd.method).1
  have X0 : Stand p l e ({ frames := 1, cells := 0, slots := 0, locals := 15 } : Room) s m #[(.ref a1), (.ref a2)] below meth c s₁ [] 0 0 := Stand.of_body Bd
  have e0 : s₁.heap = h0 := by rw [← hh, Bd.state]; rfl
  have N0 := Fr.nil n0
  have Z0 : n0 ≤ h0.size := O0.1 ▸ O0.2.1
  have pre0 : ∀ t, Steps p.tables e below (s₁.setTop (mkF m 0 #[.val (.ref a1), .val (.ref a2)] [])) t → Steps p.tables e below (s₁.setTop (entryFrame m #[(.ref a1), (.ref a2)] 2)) t := fun t k => castTop (ef_5 m a1 a2) k
  obtain ⟨T3, X3, e3, st3⟩ := getF X0 hx hZ hown (host := "") (Or.inl (hw _ (List.mem_of_getElem? (i := 38) rfl))) (Via.of (hw _ (List.mem_of_getElem? (i := 39) rfl))) e0 HF_a1_modCount (g := (mkF m 2 #[.val (.ref a1), .val (.ref a2)] [(.ref a1), (.ref a1)])) rfl rfl (hb hby d5_2)
  obtain ⟨T4, h4, X4, e4, W4, st4⟩ := putF X3 hx hZ hown (host := "") (Or.inl (hw _ (List.mem_of_getElem? (i := 38) rfl))) (Via.of (hw _ (List.mem_of_getElem? (i := 39) rfl))) e3 HF_a1_modCount HE_a1 (Or.inl (hw _ (List.mem_of_getElem? (i := 25) rfl))) (hw _ (List.mem_of_getElem? (i := 4) rfl)) (ty := .int) (by decide) rfl rfl (g := (mkF m 7 #[.val (.ref a1), .val (.ref a2)] [(.int (p0 + (1 : Int32))), (.ref a1)])) rfl rfl (hb hby d5_7)
  have N4 := Fr.snoc X4 N0 g_a1
  have K5 : Keep h0 h4 [a1, w0] := (Keep.refl h0 [a1, w0]).wr W4 (Or.inl (List.mem_of_getElem? (i := 0) rfl))
  have O6 : Old Z n0 h4 := O0.wr W4 g_a1
  have Fw4 : Fld Z h4 a1 "java/util/AbstractList" "modCount" "I" (.int (p0 + (1 : Int32))) := HF_a1_modCount.same W4
  have f7 := (HF_a1_elementData.other W4 (Or.inr (slot_ne (Or.inl (hw _ (List.mem_of_getElem? (i := 28) rfl))) (Or.inl (hw _ (List.mem_of_getElem? (i := 25) rfl))) (by decide) (t := (.array (.object "java/lang/Object"))) (t' := .int) (by decide) (by decide))))
  obtain ⟨T8, X8, e8, st8⟩ := getF X4 hx hZ hown (host := "") (Or.inl (hw _ (List.mem_of_getElem? (i := 27) rfl))) Via.refl e4 f7 (g := (mkF m 13 #[.val (.ref a1), .val (.ref a2)] [(.ref a1), (.ref a2), (.ref a1)])) rfl rfl (hb hby d5_13)
  have f9 := (HF_a1_size.other W4 (Or.inr (slot_ne (Or.inl (hw _ (List.mem_of_getElem? (i := 41) rfl))) (Or.inl (hw _ (List.mem_of_getElem? (i := 25) rfl))) (by decide) (t := .int) (t' := .int) (by decide) (by decide))))
  obtain ⟨T10, X10, e10, st10⟩ := getF X8 hx hZ hown (host := "") (Or.inl (hw _ (List.mem_of_getElem? (i := 40) rfl))) Via.refl e8 f9 (g := (mkF m 17 #[.val (.ref a1), .val (.ref a2)] [(.ref a1), (.ref w0), (.ref a2), (.ref a1)])) rfl rfl (hb hby d5_17)
  have f11 := (HE_a1.wr W4)
  have f12 := (HE_w0.wr W4)
  have f13 := (HV_w0.other W4 ne_w0_a1)
  have f14 := HY_w0
  have f15 := (HI_a2_java_lang_Object.wr W4)
  obtain ⟨cq16, q16, q16'⟩ := f11.cell
  obtain ⟨vr16, _, ⟨T16, L16, k16, n16⟩, -, X16, ⟨Lc16, hQ16, l16, y16, z16⟩, st16⟩ := X10.privateBack hx (y := (⟨"java/util/ArrayList", "add", "(Ljava/lang/Object;[Ljava/lang/Object;I)V"⟩ : MethodName)) hown (mvT hZ (hw _ (List.mem_of_getElem? (i := 42) rfl))) (mvT hZ (hw _ (List.mem_of_getElem? (i := 43) rfl))) (mvT hZ (hw _ (List.mem_of_getElem? (i := 45) rfl))) (Cond.privateMethod_at (mvP hZ (hw _ (List.mem_of_getElem? (i := 44) rfl)) (args := #[]))) (mvT hZ (hw _ (List.mem_of_getElem? (i := 46) rfl))) (by decide) (backOf (W := 0) (rm6r1a l Z a0 hw [] a1 a2 w0 ((p0 + (1 : Int32))) k0 el0 h4 n0 O6 f11 Fw4 f7 f9 f12 f13 f14 f15 g_w0 (Ne.symm ne_w0_a1) g_a1) hZ (hw _ (List.mem_of_getElem? (i := 46) rfl)) (hw _ (List.mem_of_getElem? (i := 5) rfl)) (by decide) (by decide)) (g := (mkF m 20 #[.val (.ref a1), .val (.ref a2)] [(.int (1 : Int32)), (.ref w0), (.ref a2), (.ref a1)])) rfl (by rw [hml]; rfl) (Steps.refl _) (a := a1) (by rw [e10]; exact q16) q16' (argsL := [(.ref a2), (.ref w0), (.int (1 : Int32))]) (rest := []) (lenOf pd_13 rfl) rfl (by show 2 * 0 + _ ≤ _; exact Nat.le_of_eq rfl) (hb hby d5_20) (fun _ _ => ⟨rfl, e10, (by decide : 0 + 0 ≤ _), (by decide : 0 + 0 ≤ _)⟩)
  dsimp only [Pt.U, Pt.locs, Pt.cells, Pt.slots] at X16 l16 y16 z16 st16 hQ16
  subst l16 y16 z16
  obtain ⟨rfl, N16q, K16, Y16_0, Y16_1, Y16_2, Y16_3, Y16_4, Y16_5, Y16_6⟩ := hQ16
  have N16 := Fr.app N4 N16q
  replace X16 := X16.more (cells' := 0) (slots' := 0) (by decide) (by decide)
  have K17 : Keep h0 T16.heap [a1, w0] := K5.trans K16 (allS (Or.inl (List.mem_of_getElem? (i := 1) rfl)) (allS (Or.inl (List.mem_of_getElem? (i := 0) rfl)) all0))
  have O18 : Old Z n0 T16.heap := O6.keep K16 (allS g_w0 (allS g_a1 all0))
  obtain ⟨fs, hr, hrun, hended, hW, hsame⟩ := X16.leave (v := some (.int (1 : Int32))) (fun h => by rw [Bd.returns] at h; cases h)
  refine ⟨_, _, pre0 _ ?_, hrun, hended, _, _, rfl, ?_, ⟨_, rfl⟩, hW, hsame.mono (by decide) (by decide)⟩
  · show Steps p.tables e below (s₁.setTop (mkF m 0 #[.val (.ref a1), .val (.ref a2)] [])) _
    refine XS.aloadN X0.here hx rfl (hb hby d5_0) rfl rfl ?_
    show Steps p.tables e below (s₁.setTop (mkF m 1 #[.val (.ref a1), .val (.ref a2)] [(.ref a1)])) _
    refine XS.dup X0.here hx rfl (hb hby d5_1) rfl rfl ?_
    show Steps p.tables e below (s₁.setTop (mkF m 2 #[.val (.ref a1), .val (.ref a2)] [(.ref a1), (.ref a1)])) _
    refine st3 _ ?_
    show Steps p.tables e below (T3.setTop (mkF m 5 #[.val (.ref a1), .val (.ref a2)] [(.int p0), (.ref a1)])) _
    refine XS.iconst X3.here hx rfl (hb hby d5_5) ?_
    show Steps p.tables e below (T3.setTop (mkF m 6 #[.val (.ref a1), .val (.ref a2)] [(.int (1 : Int32)), (.int p0), (.ref a1)])) _
    refine XS.iadd X3.here hx rfl (hb hby d5_6) rfl ?_
    show Steps p.tables e below (T3.setTop (mkF m 7 #[.val (.ref a1), .val (.ref a2)] [(.int (p0 + (1 : Int32))), (.ref a1)])) _
    refine st4 _ ?_
    show Steps p.tables e below (T4.setTop (mkF m 10 #[.val (.ref a1), .val (.ref a2)] [])) _
    refine XS.aloadN X4.here hx rfl (hb hby d5_10) rfl rfl ?_
    show Steps p.tables e below (T4.setTop (mkF m 11 #[.val (.ref a1), .val (.ref a2)] [(.ref a1)])) _
    refine XS.aloadN X4.here hx rfl (hb hby d5_11) rfl rfl ?_
    show Steps p.tables e below (T4.setTop (mkF m 12 #[.val (.ref a1), .val (.ref a2)] [(.ref a2), (.ref a1)])) _
    refine XS.aloadN X4.here hx rfl (hb hby d5_12) rfl rfl ?_
    show Steps p.tables e below (T4.setTop (mkF m 13 #[.val (.ref a1), .val (.ref a2)] [(.ref a1), (.ref a2), (.ref a1)])) _
    refine st8 _ ?_
    show Steps p.tables e below (T8.setTop (mkF m 16 #[.val (.ref a1), .val (.ref a2)] [(.ref w0), (.ref a2), (.ref a1)])) _
    refine XS.aloadN X8.here hx rfl (hb hby d5_16) rfl rfl ?_
    show Steps p.tables e below (T8.setTop (mkF m 17 #[.val (.ref a1), .val (.ref a2)] [(.ref a1), (.ref w0), (.ref a2), (.ref a1)])) _
    refine st10 _ ?_
    show Steps p.tables e below (T10.setTop (mkF m 20 #[.val (.ref a1), .val (.ref a2)] [(.int (1 : Int32)), (.ref w0), (.ref a2), (.ref a1)])) _
    refine st16.trans ?_
    show Steps p.tables e below (T16.setTop (mkF m 23 #[.val (.ref a1), .val (.ref a2)] [])) _
    refine XS.iconst X16.here hx rfl (hb hby d5_23) ?_
    show Steps p.tables e below (T16.setTop (mkF m 24 #[.val (.ref a1), .val (.ref a2)] [(.int (1 : Int32))])) _
    exact retN X16 hx (t := .boolean) Bd.returns (by simp) (hb hby d5_24) hr
  · show Q5r1a Z a1 a2 p0 k0 el0 w0 h0 n0 _ T16.heap _
    exact ⟨rfl, N16, K17, Y16_3, Y16_4, Y16_5, Y16_6, Y16_0, Y16_1, Y16_2⟩
theorem d17_0 : decode jdk_38_method_9_code 0 = .ok (.aload_n 0, 1) := by decide +kernel
theorem d17_1 : decode jdk_38_method_9_code 1 = .ok (.getfield 48, 3) := by decide +kernel
theorem d17_4 : decode jdk_38_method_9_code 4 = .ok (.ifCond .ne 7, 3) := by decide +kernel
theorem d17_7 : decode jdk_38_method_9_code 7 = .ok (.iconst 1, 1) := by decide +kernel
theorem d17_8 : decode jdk_38_method_9_code 8 = .ok (.goto 4, 3) := by decide +kernel
theorem d17_12 : decode jdk_38_method_9_code 12 = .ok (.ireturn, 1) := by decide +kernel
def Q17y (Z : State) (a1 : Addr) (w2 : Int32) (h0 : Heap) (n0 : Nat) (v : Option Value) (h : Heap) (L : List Loc) : Prop := v = some (.int (1 : Int32)) ∧ Fr n0 L ∧ h = h0
theorem ef_17 (m : MethodId) (x0 : Addr) : entryFrame m #[(.ref x0)] 1 = mkF m 0 #[.val (.ref x0)] [] := by first | (simp [entryFrame, mkF, argsToLocals, Value.category]; done) | rfl
set_option maxRecDepth 65536 in
set_option maxHeartbeats 40000000 in
theorem rm17y (l : Launch) (Z : State) (a0 : Array Value) (hw : ∀ d ∈ tables_1, d.before a0 Z = true) (ws : List Jvm.Cond) (a1 : Addr) (w2 : Int32) (h0 : Heap) (n0 : Nat) (O0 : Old Z n0 h0) (HF_a1_size : Fld Z h0 a1 "java/util/ArrayList" "size" "I" (.int w2)) (hc4 : w2 = (0 : Int32)) :
    MetFree l (⟨"java/util/ArrayList", "isEmpty", "()Z"⟩ : MethodName) (head1 (Jvm.Cond.code (⟨"java/util/ArrayList", "isEmpty", "()Z"⟩ : MethodName) jdk_38_method_9_code 1 (some .boolean) :: ws) ({ frames := 0, cells := 0, slots := 0, locals := 0 } : Room)) (fun a U => a = #[(.ref a1)] ∧ Z.Warmed39 U.vm ∧ U.heap = h0) (fun _ _ _ _ _ => True) (fun _ U o U' => ∃ v L, o = .returned v ∧ Q17y Z a1 w2 h0 n0 v U'.heap L ∧ FrameEnd U o U' L ({ frames := 0, cells := 0, slots := 0, locals := 0 } : Room).cells ({ frames := 0, cells := 0, slots := 0, locals := 0 } : Room).slots) := by
  refine MetFree.of_bodySF (plainFor_of_name pnc_java_util_ArrayList) hisR ?_
  intro p e s m args below meth c s₁ Bd hml0 hP hK
  obtain ⟨rfl, hZ, hh⟩ := hP
  have hx := Bd.exec
  have hby := Bd.bytes
  have hml : c.maxLocals = 1 := hml0
  have hown : s.vm.findClass "java/util/ArrayList" = some m.cls := findClass_of_methodNamed Bd.named
  have hnm := (name_of_methodNamed Bd.named Bd.method).1
  have X0 : Stand p l e ({ frames := 0, cells := 0, slots := 0, locals := 0 } : Room) s m #[(.ref a1)] below meth c s₁ [] 0 0 := Stand.of_body Bd
  have e0 : s₁.heap = h0 := by rw [← hh, Bd.state]; rfl
  have N0 := Fr.nil n0
  have Z0 : n0 ≤ h0.size := O0.1 ▸ O0.2.1
  have pre0 : ∀ t, Steps p.tables e below (s₁.setTop (mkF m 0 #[.val (.ref a1)] [])) t → Steps p.tables e below (s₁.setTop (entryFrame m #[(.ref a1)] 1)) t := fun t k => castTop (ef_17 m a1) k
  obtain ⟨T3, X3, e3, st3⟩ := getF X0 hx hZ hown (host := "") (Or.inl (hw _ (List.mem_of_getElem? (i := 40) rfl))) Via.refl e0 HF_a1_size (g := (mkF m 1 #[.val (.ref a1)] [(.ref a1)])) rfl rfl (hb hby d17_1)
  obtain ⟨fs, hr, hrun, hended, hW, hsame⟩ := X3.leave (v := some (.int (1 : Int32))) (fun h => by rw [Bd.returns] at h; cases h)
  refine ⟨_, _, pre0 _ ?_, hrun, hended, _, _, rfl, ?_, ⟨_, rfl⟩, hW, hsame.mono (by decide) (by decide)⟩
  · show Steps p.tables e below (s₁.setTop (mkF m 0 #[.val (.ref a1)] [])) _
    refine XS.aloadN X0.here hx rfl (hb hby d17_0) rfl rfl ?_
    show Steps p.tables e below (s₁.setTop (mkF m 1 #[.val (.ref a1)] [(.ref a1)])) _
    refine st3 _ ?_
    show Steps p.tables e below (T3.setTop (mkF m 4 #[.val (.ref a1)] [(.int w2)])) _
    refine XS.ifNo X3.here hx rfl (hb hby d17_4) rfl ((if0 _ _).trans (teq hc4).2) ?_
    show Steps p.tables e below (T3.setTop (mkF m 7 #[.val (.ref a1)] [])) _
    refine XS.iconst X3.here hx rfl (hb hby d17_7) ?_
    show Steps p.tables e below (T3.setTop (mkF m 8 #[.val (.ref a1)] [(.int (1 : Int32))])) _
    refine XS.goto X3.here hx rfl (pc0 := 8) (pc' := 12) rfl (hb hby d17_8) (by decide) (by decide) ?_
    show Steps p.tables e below (T3.setTop (mkF m 12 #[.val (.ref a1)] [(.int (1 : Int32))])) _
    exact retN X3 hx (t := .boolean) Bd.returns (by simp) (hb hby d17_12) hr
  · show Q17y Z a1 w2 h0 n0 _ T3.heap _
    rw [e3]
    exact ⟨rfl, N0, rfl⟩
theorem d17_11 : decode jdk_38_method_9_code 11 = .ok (.iconst 0, 1) := by decide +kernel
def Q17n (Z : State) (a1 : Addr) (w2 : Int32) (h0 : Heap) (n0 : Nat) (v : Option Value) (h : Heap) (L : List Loc) : Prop := v = some (.int (0 : Int32)) ∧ Fr n0 L ∧ h = h0
set_option maxRecDepth 65536 in
set_option maxHeartbeats 40000000 in
theorem rm17n (l : Launch) (Z : State) (a0 : Array Value) (hw : ∀ d ∈ tables_1, d.before a0 Z = true) (ws : List Jvm.Cond) (a1 : Addr) (w2 : Int32) (h0 : Heap) (n0 : Nat) (O0 : Old Z n0 h0) (HF_a1_size : Fld Z h0 a1 "java/util/ArrayList" "size" "I" (.int w2)) (hc4 : ¬ (w2 = (0 : Int32))) :
    MetFree l (⟨"java/util/ArrayList", "isEmpty", "()Z"⟩ : MethodName) (head1 (Jvm.Cond.code (⟨"java/util/ArrayList", "isEmpty", "()Z"⟩ : MethodName) jdk_38_method_9_code 1 (some .boolean) :: ws) ({ frames := 0, cells := 0, slots := 0, locals := 0 } : Room)) (fun a U => a = #[(.ref a1)] ∧ Z.Warmed39 U.vm ∧ U.heap = h0) (fun _ _ _ _ _ => True) (fun _ U o U' => ∃ v L, o = .returned v ∧ Q17n Z a1 w2 h0 n0 v U'.heap L ∧ FrameEnd U o U' L ({ frames := 0, cells := 0, slots := 0, locals := 0 } : Room).cells ({ frames := 0, cells := 0, slots := 0, locals := 0 } : Room).slots) := by
  refine MetFree.of_bodySF (plainFor_of_name pnc_java_util_ArrayList) hisR ?_
  intro p e s m args below meth c s₁ Bd hml0 hP hK
  obtain ⟨rfl, hZ, hh⟩ := hP
  have hx := Bd.exec
  have hby := Bd.bytes
  have hml : c.maxLocals = 1 := hml0
  have hown : s.vm.findClass "java/util/ArrayList" = some m.cls := findClass_of_methodNamed Bd.named
  have hnm := (name_of_methodNamed Bd.named Bd.method).1
  have X0 : Stand p l e ({ frames := 0, cells := 0, slots := 0, locals := 0 } : Room) s m #[(.ref a1)] below meth c s₁ [] 0 0 := Stand.of_body Bd
  have e0 : s₁.heap = h0 := by rw [← hh, Bd.state]; rfl
  have N0 := Fr.nil n0
  have Z0 : n0 ≤ h0.size := O0.1 ▸ O0.2.1
  have pre0 : ∀ t, Steps p.tables e below (s₁.setTop (mkF m 0 #[.val (.ref a1)] [])) t → Steps p.tables e below (s₁.setTop (entryFrame m #[(.ref a1)] 1)) t := fun t k => castTop (ef_17 m a1) k
  obtain ⟨T3, X3, e3, st3⟩ := getF X0 hx hZ hown (host := "") (Or.inl (hw _ (List.mem_of_getElem? (i := 40) rfl))) Via.refl e0 HF_a1_size (g := (mkF m 1 #[.val (.ref a1)] [(.ref a1)])) rfl rfl (hb hby d17_1)
  obtain ⟨fs, hr, hrun, hended, hW, hsame⟩ := X3.leave (v := some (.int (0 : Int32))) (fun h => by rw [Bd.returns] at h; cases h)
  refine ⟨_, _, pre0 _ ?_, hrun, hended, _, _, rfl, ?_, ⟨_, rfl⟩, hW, hsame.mono (by decide) (by decide)⟩
  · show Steps p.tables e below (s₁.setTop (mkF m 0 #[.val (.ref a1)] [])) _
    refine XS.aloadN X0.here hx rfl (hb hby d17_0) rfl rfl ?_
    show Steps p.tables e below (s₁.setTop (mkF m 1 #[.val (.ref a1)] [(.ref a1)])) _
    refine st3 _ ?_
    show Steps p.tables e below (T3.setTop (mkF m 4 #[.val (.ref a1)] [(.int w2)])) _
    refine XS.ifYes X3.here hx rfl (pc0 := 4) (pc' := 11) rfl (hb hby d17_4) rfl ((if0 _ _).trans (feq hc4).2) (by decide) (by decide) ?_
    show Steps p.tables e below (T3.setTop (mkF m 11 #[.val (.ref a1)] [])) _
    refine XS.iconst X3.here hx rfl (hb hby d17_11) ?_
    show Steps p.tables e below (T3.setTop (mkF m 12 #[.val (.ref a1)] [(.int (0 : Int32))])) _
    exact retN X3 hx (t := .boolean) Bd.returns (by simp) (hb hby d17_12) hr
  · show Q17n Z a1 w2 h0 n0 _ T3.heap _
    rw [e3]
    exact ⟨rfl, N0, rfl⟩
set_option maxRecDepth 65536 in
set_option maxHeartbeats 40000000 in
theorem tn0t {p : Program} {l : Launch} {e : Env} {s : State} {m : MethodId} {args : Array Value} {below : List Frame} {meth : Method} {c : Code} {T0 : State} {locs : List Loc} {Z : State} {a0 : Array Value} (hw : ∀ d ∈ tables_1, d.before a0 Z = true) (p1 p2 p3 p4 p5 p6 : Int32) (h0 : Heap) (n0 : Nat) (X0 : Stand p l e room_1 s m args below meth c T0 locs 0 0) (N0 : Fr n0 locs) (hx : p.tables.exec = Jvm.exec) (hZ : Z.Warmed39 s.vm) (hby : c.code = code) (hml : c.maxLocals = 23) (hown : s.vm.findClass "com/example/mirante/mirante/FieldDefHasRuleChecksPinLaw" = some m.cls) (e0 : T0.heap = h0) (O0 : Old Z n0 h0) (hc3 : (p4 &&& (1 : Int32)) = (0 : Int32)) :
    ∃ (T' : State) (locs' : List Loc), Stand p l e room_1 s m args below meth c T' locs' 0 0 ∧ Fr n0 locs' ∧ T'.heap = h0 ∧
      ∀ target, Steps p.tables e below (T'.setTop (mkF m 13 #[.val (.int p1), .val (.int p2), .val (.int p3), .val (.int p4), .val (.int p5), .val (.int p6), .val (.int (0 : Int32)), .unset, .unset, .unset, .unset, .unset, .unset, .unset, .unset, .unset, .unset, .unset, .unset, .unset, .unset, .unset, .unset] [])) target → Steps p.tables e below (T0.setTop (mkF m 0 #[.val (.int p1), .val (.int p2), .val (.int p3), .val (.int p4), .val (.int p5), .val (.int p6), .unset, .unset, .unset, .unset, .unset, .unset, .unset, .unset, .unset, .unset, .unset, .unset, .unset, .unset, .unset, .unset, .unset] [])) target := by
  have Z0 : n0 ≤ h0.size := O0.1 ▸ O0.2.1
  refine ⟨T0, _, X0, N0, e0, fun target kt => ?_⟩
  show Steps p.tables e below (T0.setTop (mkF m 0 #[.val (.int p1), .val (.int p2), .val (.int p3), .val (.int p4), .val (.int p5), .val (.int p6), .unset, .unset, .unset, .unset, .unset, .unset, .unset, .unset, .unset, .unset, .unset, .unset, .unset, .unset, .unset, .unset, .unset] [])) _
  refine XS.iloadN X0.here hx rfl (hb hby at_0) rfl ?_
  show Steps p.tables e below (T0.setTop (mkF m 1 #[.val (.int p1), .val (.int p2), .val (.int p3), .val (.int p4), .val (.int p5), .val (.int p6), .unset, .unset, .unset, .unset, .unset, .unset, .unset, .unset, .unset, .unset, .unset, .unset, .unset, .unset, .unset, .unset, .unset] [(.int p4)])) _
  refine XS.iconst X0.here hx rfl (hb hby at_1) ?_
  show Steps p.tables e below (T0.setTop (mkF m 2 #[.val (.int p1), .val (.int p2), .val (.int p3), .val (.int p4), .val (.int p5), .val (.int p6), .unset, .unset, .unset, .unset, .unset, .unset, .unset, .unset, .unset, .unset, .unset, .unset, .unset, .unset, .unset, .unset, .unset] [(.int (1 : Int32)), (.int p4)])) _
  refine XS.iand X0.here hx rfl (hb hby at_2) rfl ?_
  show Steps p.tables e below (T0.setTop (mkF m 3 #[.val (.int p1), .val (.int p2), .val (.int p3), .val (.int p4), .val (.int p5), .val (.int p6), .unset, .unset, .unset, .unset, .unset, .unset, .unset, .unset, .unset, .unset, .unset, .unset, .unset, .unset, .unset, .unset, .unset] [(.int (p4 &&& (1 : Int32)))])) _
  refine XS.ifYes X0.here hx rfl (pc0 := 3) (pc' := 10) rfl (hb hby at_3) rfl ((if0 _ _).trans (teq hc3).1) (by decide) (by decide) ?_
  show Steps p.tables e below (T0.setTop (mkF m 10 #[.val (.int p1), .val (.int p2), .val (.int p3), .val (.int p4), .val (.int p5), .val (.int p6), .unset, .unset, .unset, .unset, .unset, .unset, .unset, .unset, .unset, .unset, .unset, .unset, .unset, .unset, .unset, .unset, .unset] [])) _
  refine XS.iconst X0.here hx rfl (hb hby at_10) ?_
  show Steps p.tables e below (T0.setTop (mkF m 11 #[.val (.int p1), .val (.int p2), .val (.int p3), .val (.int p4), .val (.int p5), .val (.int p6), .unset, .unset, .unset, .unset, .unset, .unset, .unset, .unset, .unset, .unset, .unset, .unset, .unset, .unset, .unset, .unset, .unset] [(.int (0 : Int32))])) _
  refine XS.istore X0.here hx rfl (hb hby at_11) rfl (l' := #[.val (.int p1), .val (.int p2), .val (.int p3), .val (.int p4), .val (.int p5), .val (.int p6), .val (.int (0 : Int32)), .unset, .unset, .unset, .unset, .unset, .unset, .unset, .unset, .unset, .unset, .unset, .unset, .unset, .unset, .unset, .unset]) rfl ?_
  exact kt
set_option maxRecDepth 65536 in
set_option maxHeartbeats 40000000 in
theorem tn0f {p : Program} {l : Launch} {e : Env} {s : State} {m : MethodId} {args : Array Value} {below : List Frame} {meth : Method} {c : Code} {T0 : State} {locs : List Loc} {Z : State} {a0 : Array Value} (hw : ∀ d ∈ tables_1, d.before a0 Z = true) (p1 p2 p3 p4 p5 p6 : Int32) (h0 : Heap) (n0 : Nat) (X0 : Stand p l e room_1 s m args below meth c T0 locs 0 0) (N0 : Fr n0 locs) (hx : p.tables.exec = Jvm.exec) (hZ : Z.Warmed39 s.vm) (hby : c.code = code) (hml : c.maxLocals = 23) (hown : s.vm.findClass "com/example/mirante/mirante/FieldDefHasRuleChecksPinLaw" = some m.cls) (e0 : T0.heap = h0) (O0 : Old Z n0 h0) (hc3 : ¬ ((p4 &&& (1 : Int32)) = (0 : Int32))) :
    ∃ (T' : State) (locs' : List Loc), Stand p l e room_1 s m args below meth c T' locs' 0 0 ∧ Fr n0 locs' ∧ T'.heap = h0 ∧
      ∀ target, Steps p.tables e below (T'.setTop (mkF m 13 #[.val (.int p1), .val (.int p2), .val (.int p3), .val (.int p4), .val (.int p5), .val (.int p6), .val (.int (1 : Int32)), .unset, .unset, .unset, .unset, .unset, .unset, .unset, .unset, .unset, .unset, .unset, .unset, .unset, .unset, .unset, .unset] [])) target → Steps p.tables e below (T0.setTop (mkF m 0 #[.val (.int p1), .val (.int p2), .val (.int p3), .val (.int p4), .val (.int p5), .val (.int p6), .unset, .unset, .unset, .unset, .unset, .unset, .unset, .unset, .unset, .unset, .unset, .unset, .unset, .unset, .unset, .unset, .unset] [])) target := by
  have Z0 : n0 ≤ h0.size := O0.1 ▸ O0.2.1
  refine ⟨T0, _, X0, N0, e0, fun target kt => ?_⟩
  show Steps p.tables e below (T0.setTop (mkF m 0 #[.val (.int p1), .val (.int p2), .val (.int p3), .val (.int p4), .val (.int p5), .val (.int p6), .unset, .unset, .unset, .unset, .unset, .unset, .unset, .unset, .unset, .unset, .unset, .unset, .unset, .unset, .unset, .unset, .unset] [])) _
  refine XS.iloadN X0.here hx rfl (hb hby at_0) rfl ?_
  show Steps p.tables e below (T0.setTop (mkF m 1 #[.val (.int p1), .val (.int p2), .val (.int p3), .val (.int p4), .val (.int p5), .val (.int p6), .unset, .unset, .unset, .unset, .unset, .unset, .unset, .unset, .unset, .unset, .unset, .unset, .unset, .unset, .unset, .unset, .unset] [(.int p4)])) _
  refine XS.iconst X0.here hx rfl (hb hby at_1) ?_
  show Steps p.tables e below (T0.setTop (mkF m 2 #[.val (.int p1), .val (.int p2), .val (.int p3), .val (.int p4), .val (.int p5), .val (.int p6), .unset, .unset, .unset, .unset, .unset, .unset, .unset, .unset, .unset, .unset, .unset, .unset, .unset, .unset, .unset, .unset, .unset] [(.int (1 : Int32)), (.int p4)])) _
  refine XS.iand X0.here hx rfl (hb hby at_2) rfl ?_
  show Steps p.tables e below (T0.setTop (mkF m 3 #[.val (.int p1), .val (.int p2), .val (.int p3), .val (.int p4), .val (.int p5), .val (.int p6), .unset, .unset, .unset, .unset, .unset, .unset, .unset, .unset, .unset, .unset, .unset, .unset, .unset, .unset, .unset, .unset, .unset] [(.int (p4 &&& (1 : Int32)))])) _
  refine XS.ifNo X0.here hx rfl (hb hby at_3) rfl ((if0 _ _).trans (feq hc3).1) ?_
  show Steps p.tables e below (T0.setTop (mkF m 6 #[.val (.int p1), .val (.int p2), .val (.int p3), .val (.int p4), .val (.int p5), .val (.int p6), .unset, .unset, .unset, .unset, .unset, .unset, .unset, .unset, .unset, .unset, .unset, .unset, .unset, .unset, .unset, .unset, .unset] [])) _
  refine XS.iconst X0.here hx rfl (hb hby at_6) ?_
  show Steps p.tables e below (T0.setTop (mkF m 7 #[.val (.int p1), .val (.int p2), .val (.int p3), .val (.int p4), .val (.int p5), .val (.int p6), .unset, .unset, .unset, .unset, .unset, .unset, .unset, .unset, .unset, .unset, .unset, .unset, .unset, .unset, .unset, .unset, .unset] [(.int (1 : Int32))])) _
  refine XS.goto X0.here hx rfl (pc0 := 7) (pc' := 11) rfl (hb hby at_7) (by decide) (by decide) ?_
  show Steps p.tables e below (T0.setTop (mkF m 11 #[.val (.int p1), .val (.int p2), .val (.int p3), .val (.int p4), .val (.int p5), .val (.int p6), .unset, .unset, .unset, .unset, .unset, .unset, .unset, .unset, .unset, .unset, .unset, .unset, .unset, .unset, .unset, .unset, .unset] [(.int (1 : Int32))])) _
  refine XS.istore X0.here hx rfl (hb hby at_11) rfl (l' := #[.val (.int p1), .val (.int p2), .val (.int p3), .val (.int p4), .val (.int p5), .val (.int p6), .val (.int (1 : Int32)), .unset, .unset, .unset, .unset, .unset, .unset, .unset, .unset, .unset, .unset, .unset, .unset, .unset, .unset, .unset, .unset]) rfl ?_
  exact kt
set_option maxRecDepth 65536 in
set_option maxHeartbeats 40000000 in
theorem tn0 {p : Program} {l : Launch} {e : Env} {s : State} {m : MethodId} {args : Array Value} {below : List Frame} {meth : Method} {c : Code} {T0 : State} {locs : List Loc} {Z : State} {a0 : Array Value} (hw : ∀ d ∈ tables_1, d.before a0 Z = true) (p1 p2 p3 p4 p5 p6 k6 : Int32) (h0 : Heap) (n0 : Nat) (X0 : Stand p l e room_1 s m args below meth c T0 locs 0 0) (N0 : Fr n0 locs) (hx : p.tables.exec = Jvm.exec) (hZ : Z.Warmed39 s.vm) (hby : c.code = code) (hml : c.maxLocals = 23) (hown : s.vm.findClass "com/example/mirante/mirante/FieldDefHasRuleChecksPinLaw" = some m.cls) (e0 : T0.heap = h0) (O0 : Old Z n0 h0) (hk6 : k6 = if (p4 &&& (1 : Int32)) = (0 : Int32) then (0 : Int32) else (1 : Int32)) :
    ∃ (T' : State) (locs' : List Loc), Stand p l e room_1 s m args below meth c T' locs' 0 0 ∧ Fr n0 locs' ∧ T'.heap = h0 ∧
      ∀ target, Steps p.tables e below (T'.setTop (mkF m 13 #[.val (.int p1), .val (.int p2), .val (.int p3), .val (.int p4), .val (.int p5), .val (.int p6), .val (.int k6), .unset, .unset, .unset, .unset, .unset, .unset, .unset, .unset, .unset, .unset, .unset, .unset, .unset, .unset, .unset, .unset] [])) target → Steps p.tables e below (T0.setTop (mkF m 0 #[.val (.int p1), .val (.int p2), .val (.int p3), .val (.int p4), .val (.int p5), .val (.int p6), .unset, .unset, .unset, .unset, .unset, .unset, .unset, .unset, .unset, .unset, .unset, .unset, .unset, .unset, .unset, .unset, .unset] [])) target := by
  by_cases c1 : (p4 &&& (1 : Int32)) = (0 : Int32)
  · rw [if_pos c1] at hk6; subst hk6; exact tn0t hw p1 p2 p3 p4 p5 p6 h0 n0 X0 N0 hx hZ hby hml hown e0 O0 c1
  · rw [if_neg c1] at hk6; subst hk6; exact tn0f hw p1 p2 p3 p4 p5 p6 h0 n0 X0 N0 hx hZ hby hml hown e0 O0 c1
set_option maxRecDepth 65536 in
set_option maxHeartbeats 40000000 in
theorem tn13t {p : Program} {l : Launch} {e : Env} {s : State} {m : MethodId} {args : Array Value} {below : List Frame} {meth : Method} {c : Code} {T0 : State} {locs : List Loc} {Z : State} {a0 : Array Value} (hw : ∀ d ∈ tables_1, d.before a0 Z = true) (p1 p2 p3 p4 p5 p6 k6 : Int32) (h0 : Heap) (n0 : Nat) (X0 : Stand p l e room_1 s m args below meth c T0 locs 0 0) (N0 : Fr n0 locs) (hx : p.tables.exec = Jvm.exec) (hZ : Z.Warmed39 s.vm) (hby : c.code = code) (hml : c.maxLocals = 23) (hown : s.vm.findClass "com/example/mirante/mirante/FieldDefHasRuleChecksPinLaw" = some m.cls) (e0 : T0.heap = h0) (O0 : Old Z n0 h0) (hc16 : (p4 &&& (2 : Int32)) = (0 : Int32)) :
    ∃ (T' : State) (locs' : List Loc), Stand p l e room_1 s m args below meth c T' locs' 0 0 ∧ Fr n0 locs' ∧ T'.heap = h0 ∧
      ∀ target, Steps p.tables e below (T'.setTop (mkF m 26 #[.val (.int p1), .val (.int p2), .val (.int p3), .val (.int p4), .val (.int p5), .val (.int p6), .val (.int k6), .val (.int (0 : Int32)), .unset, .unset, .unset, .unset, .unset, .unset, .unset, .unset, .unset, .unset, .unset, .unset, .unset, .unset, .unset] [])) target → Steps p.tables e below (T0.setTop (mkF m 13 #[.val (.int p1), .val (.int p2), .val (.int p3), .val (.int p4), .val (.int p5), .val (.int p6), .val (.int k6), .unset, .unset, .unset, .unset, .unset, .unset, .unset, .unset, .unset, .unset, .unset, .unset, .unset, .unset, .unset, .unset] [])) target := by
  have Z0 : n0 ≤ h0.size := O0.1 ▸ O0.2.1
  refine ⟨T0, _, X0, N0, e0, fun target kt => ?_⟩
  show Steps p.tables e below (T0.setTop (mkF m 13 #[.val (.int p1), .val (.int p2), .val (.int p3), .val (.int p4), .val (.int p5), .val (.int p6), .val (.int k6), .unset, .unset, .unset, .unset, .unset, .unset, .unset, .unset, .unset, .unset, .unset, .unset, .unset, .unset, .unset, .unset] [])) _
  refine XS.iloadN X0.here hx rfl (hb hby at_13) rfl ?_
  show Steps p.tables e below (T0.setTop (mkF m 14 #[.val (.int p1), .val (.int p2), .val (.int p3), .val (.int p4), .val (.int p5), .val (.int p6), .val (.int k6), .unset, .unset, .unset, .unset, .unset, .unset, .unset, .unset, .unset, .unset, .unset, .unset, .unset, .unset, .unset, .unset] [(.int p4)])) _
  refine XS.iconst X0.here hx rfl (hb hby at_14) ?_
  show Steps p.tables e below (T0.setTop (mkF m 15 #[.val (.int p1), .val (.int p2), .val (.int p3), .val (.int p4), .val (.int p5), .val (.int p6), .val (.int k6), .unset, .unset, .unset, .unset, .unset, .unset, .unset, .unset, .unset, .unset, .unset, .unset, .unset, .unset, .unset, .unset] [(.int (2 : Int32)), (.int p4)])) _
  refine XS.iand X0.here hx rfl (hb hby at_15) rfl ?_
  show Steps p.tables e below (T0.setTop (mkF m 16 #[.val (.int p1), .val (.int p2), .val (.int p3), .val (.int p4), .val (.int p5), .val (.int p6), .val (.int k6), .unset, .unset, .unset, .unset, .unset, .unset, .unset, .unset, .unset, .unset, .unset, .unset, .unset, .unset, .unset, .unset] [(.int (p4 &&& (2 : Int32)))])) _
  refine XS.ifYes X0.here hx rfl (pc0 := 16) (pc' := 23) rfl (hb hby at_16) rfl ((if0 _ _).trans (teq hc16).1) (by decide) (by decide) ?_
  show Steps p.tables e below (T0.setTop (mkF m 23 #[.val (.int p1), .val (.int p2), .val (.int p3), .val (.int p4), .val (.int p5), .val (.int p6), .val (.int k6), .unset, .unset, .unset, .unset, .unset, .unset, .unset, .unset, .unset, .unset, .unset, .unset, .unset, .unset, .unset, .unset] [])) _
  refine XS.iconst X0.here hx rfl (hb hby at_23) ?_
  show Steps p.tables e below (T0.setTop (mkF m 24 #[.val (.int p1), .val (.int p2), .val (.int p3), .val (.int p4), .val (.int p5), .val (.int p6), .val (.int k6), .unset, .unset, .unset, .unset, .unset, .unset, .unset, .unset, .unset, .unset, .unset, .unset, .unset, .unset, .unset, .unset] [(.int (0 : Int32))])) _
  refine XS.istore X0.here hx rfl (hb hby at_24) rfl (l' := #[.val (.int p1), .val (.int p2), .val (.int p3), .val (.int p4), .val (.int p5), .val (.int p6), .val (.int k6), .val (.int (0 : Int32)), .unset, .unset, .unset, .unset, .unset, .unset, .unset, .unset, .unset, .unset, .unset, .unset, .unset, .unset, .unset]) rfl ?_
  exact kt
set_option maxRecDepth 65536 in
set_option maxHeartbeats 40000000 in
theorem tn13f {p : Program} {l : Launch} {e : Env} {s : State} {m : MethodId} {args : Array Value} {below : List Frame} {meth : Method} {c : Code} {T0 : State} {locs : List Loc} {Z : State} {a0 : Array Value} (hw : ∀ d ∈ tables_1, d.before a0 Z = true) (p1 p2 p3 p4 p5 p6 k6 : Int32) (h0 : Heap) (n0 : Nat) (X0 : Stand p l e room_1 s m args below meth c T0 locs 0 0) (N0 : Fr n0 locs) (hx : p.tables.exec = Jvm.exec) (hZ : Z.Warmed39 s.vm) (hby : c.code = code) (hml : c.maxLocals = 23) (hown : s.vm.findClass "com/example/mirante/mirante/FieldDefHasRuleChecksPinLaw" = some m.cls) (e0 : T0.heap = h0) (O0 : Old Z n0 h0) (hc16 : ¬ ((p4 &&& (2 : Int32)) = (0 : Int32))) :
    ∃ (T' : State) (locs' : List Loc), Stand p l e room_1 s m args below meth c T' locs' 0 0 ∧ Fr n0 locs' ∧ T'.heap = h0 ∧
      ∀ target, Steps p.tables e below (T'.setTop (mkF m 26 #[.val (.int p1), .val (.int p2), .val (.int p3), .val (.int p4), .val (.int p5), .val (.int p6), .val (.int k6), .val (.int (1 : Int32)), .unset, .unset, .unset, .unset, .unset, .unset, .unset, .unset, .unset, .unset, .unset, .unset, .unset, .unset, .unset] [])) target → Steps p.tables e below (T0.setTop (mkF m 13 #[.val (.int p1), .val (.int p2), .val (.int p3), .val (.int p4), .val (.int p5), .val (.int p6), .val (.int k6), .unset, .unset, .unset, .unset, .unset, .unset, .unset, .unset, .unset, .unset, .unset, .unset, .unset, .unset, .unset, .unset] [])) target := by
  have Z0 : n0 ≤ h0.size := O0.1 ▸ O0.2.1
  refine ⟨T0, _, X0, N0, e0, fun target kt => ?_⟩
  show Steps p.tables e below (T0.setTop (mkF m 13 #[.val (.int p1), .val (.int p2), .val (.int p3), .val (.int p4), .val (.int p5), .val (.int p6), .val (.int k6), .unset, .unset, .unset, .unset, .unset, .unset, .unset, .unset, .unset, .unset, .unset, .unset, .unset, .unset, .unset, .unset] [])) _
  refine XS.iloadN X0.here hx rfl (hb hby at_13) rfl ?_
  show Steps p.tables e below (T0.setTop (mkF m 14 #[.val (.int p1), .val (.int p2), .val (.int p3), .val (.int p4), .val (.int p5), .val (.int p6), .val (.int k6), .unset, .unset, .unset, .unset, .unset, .unset, .unset, .unset, .unset, .unset, .unset, .unset, .unset, .unset, .unset, .unset] [(.int p4)])) _
  refine XS.iconst X0.here hx rfl (hb hby at_14) ?_
  show Steps p.tables e below (T0.setTop (mkF m 15 #[.val (.int p1), .val (.int p2), .val (.int p3), .val (.int p4), .val (.int p5), .val (.int p6), .val (.int k6), .unset, .unset, .unset, .unset, .unset, .unset, .unset, .unset, .unset, .unset, .unset, .unset, .unset, .unset, .unset, .unset] [(.int (2 : Int32)), (.int p4)])) _
  refine XS.iand X0.here hx rfl (hb hby at_15) rfl ?_
  show Steps p.tables e below (T0.setTop (mkF m 16 #[.val (.int p1), .val (.int p2), .val (.int p3), .val (.int p4), .val (.int p5), .val (.int p6), .val (.int k6), .unset, .unset, .unset, .unset, .unset, .unset, .unset, .unset, .unset, .unset, .unset, .unset, .unset, .unset, .unset, .unset] [(.int (p4 &&& (2 : Int32)))])) _
  refine XS.ifNo X0.here hx rfl (hb hby at_16) rfl ((if0 _ _).trans (feq hc16).1) ?_
  show Steps p.tables e below (T0.setTop (mkF m 19 #[.val (.int p1), .val (.int p2), .val (.int p3), .val (.int p4), .val (.int p5), .val (.int p6), .val (.int k6), .unset, .unset, .unset, .unset, .unset, .unset, .unset, .unset, .unset, .unset, .unset, .unset, .unset, .unset, .unset, .unset] [])) _
  refine XS.iconst X0.here hx rfl (hb hby at_19) ?_
  show Steps p.tables e below (T0.setTop (mkF m 20 #[.val (.int p1), .val (.int p2), .val (.int p3), .val (.int p4), .val (.int p5), .val (.int p6), .val (.int k6), .unset, .unset, .unset, .unset, .unset, .unset, .unset, .unset, .unset, .unset, .unset, .unset, .unset, .unset, .unset, .unset] [(.int (1 : Int32))])) _
  refine XS.goto X0.here hx rfl (pc0 := 20) (pc' := 24) rfl (hb hby at_20) (by decide) (by decide) ?_
  show Steps p.tables e below (T0.setTop (mkF m 24 #[.val (.int p1), .val (.int p2), .val (.int p3), .val (.int p4), .val (.int p5), .val (.int p6), .val (.int k6), .unset, .unset, .unset, .unset, .unset, .unset, .unset, .unset, .unset, .unset, .unset, .unset, .unset, .unset, .unset, .unset] [(.int (1 : Int32))])) _
  refine XS.istore X0.here hx rfl (hb hby at_24) rfl (l' := #[.val (.int p1), .val (.int p2), .val (.int p3), .val (.int p4), .val (.int p5), .val (.int p6), .val (.int k6), .val (.int (1 : Int32)), .unset, .unset, .unset, .unset, .unset, .unset, .unset, .unset, .unset, .unset, .unset, .unset, .unset, .unset, .unset]) rfl ?_
  exact kt
set_option maxRecDepth 65536 in
set_option maxHeartbeats 40000000 in
theorem tn13 {p : Program} {l : Launch} {e : Env} {s : State} {m : MethodId} {args : Array Value} {below : List Frame} {meth : Method} {c : Code} {T0 : State} {locs : List Loc} {Z : State} {a0 : Array Value} (hw : ∀ d ∈ tables_1, d.before a0 Z = true) (p1 p2 p3 p4 p5 p6 k6 k7 : Int32) (h0 : Heap) (n0 : Nat) (X0 : Stand p l e room_1 s m args below meth c T0 locs 0 0) (N0 : Fr n0 locs) (hx : p.tables.exec = Jvm.exec) (hZ : Z.Warmed39 s.vm) (hby : c.code = code) (hml : c.maxLocals = 23) (hown : s.vm.findClass "com/example/mirante/mirante/FieldDefHasRuleChecksPinLaw" = some m.cls) (e0 : T0.heap = h0) (O0 : Old Z n0 h0) (hk7 : k7 = if (p4 &&& (2 : Int32)) = (0 : Int32) then (0 : Int32) else (1 : Int32)) :
    ∃ (T' : State) (locs' : List Loc), Stand p l e room_1 s m args below meth c T' locs' 0 0 ∧ Fr n0 locs' ∧ T'.heap = h0 ∧
      ∀ target, Steps p.tables e below (T'.setTop (mkF m 26 #[.val (.int p1), .val (.int p2), .val (.int p3), .val (.int p4), .val (.int p5), .val (.int p6), .val (.int k6), .val (.int k7), .unset, .unset, .unset, .unset, .unset, .unset, .unset, .unset, .unset, .unset, .unset, .unset, .unset, .unset, .unset] [])) target → Steps p.tables e below (T0.setTop (mkF m 13 #[.val (.int p1), .val (.int p2), .val (.int p3), .val (.int p4), .val (.int p5), .val (.int p6), .val (.int k6), .unset, .unset, .unset, .unset, .unset, .unset, .unset, .unset, .unset, .unset, .unset, .unset, .unset, .unset, .unset, .unset] [])) target := by
  by_cases c1 : (p4 &&& (2 : Int32)) = (0 : Int32)
  · rw [if_pos c1] at hk7; subst hk7; exact tn13t hw p1 p2 p3 p4 p5 p6 k6 h0 n0 X0 N0 hx hZ hby hml hown e0 O0 c1
  · rw [if_neg c1] at hk7; subst hk7; exact tn13f hw p1 p2 p3 p4 p5 p6 k6 h0 n0 X0 N0 hx hZ hby hml hown e0 O0 c1
set_option maxRecDepth 65536 in
set_option maxHeartbeats 40000000 in
theorem tn26t {p : Program} {l : Launch} {e : Env} {s : State} {m : MethodId} {args : Array Value} {below : List Frame} {meth : Method} {c : Code} {T0 : State} {locs : List Loc} {Z : State} {a0 : Array Value} (hw : ∀ d ∈ tables_1, d.before a0 Z = true) (p1 p2 p3 p4 p5 p6 k6 k7 : Int32) (h0 : Heap) (n0 : Nat) (X0 : Stand p l e room_1 s m args below meth c T0 locs 0 0) (N0 : Fr n0 locs) (hx : p.tables.exec = Jvm.exec) (hZ : Z.Warmed39 s.vm) (hby : c.code = code) (hml : c.maxLocals = 23) (hown : s.vm.findClass "com/example/mirante/mirante/FieldDefHasRuleChecksPinLaw" = some m.cls) (e0 : T0.heap = h0) (O0 : Old Z n0 h0) (hc29 : (p4 &&& (4 : Int32)) = (0 : Int32)) :
    ∃ (T' : State) (locs' : List Loc), Stand p l e room_1 s m args below meth c T' locs' 0 0 ∧ Fr n0 locs' ∧ T'.heap = h0 ∧
      ∀ target, Steps p.tables e below (T'.setTop (mkF m 39 #[.val (.int p1), .val (.int p2), .val (.int p3), .val (.int p4), .val (.int p5), .val (.int p6), .val (.int k6), .val (.int k7), .val (.int (0 : Int32)), .unset, .unset, .unset, .unset, .unset, .unset, .unset, .unset, .unset, .unset, .unset, .unset, .unset, .unset] [])) target → Steps p.tables e below (T0.setTop (mkF m 26 #[.val (.int p1), .val (.int p2), .val (.int p3), .val (.int p4), .val (.int p5), .val (.int p6), .val (.int k6), .val (.int k7), .unset, .unset, .unset, .unset, .unset, .unset, .unset, .unset, .unset, .unset, .unset, .unset, .unset, .unset, .unset] [])) target := by
  have Z0 : n0 ≤ h0.size := O0.1 ▸ O0.2.1
  refine ⟨T0, _, X0, N0, e0, fun target kt => ?_⟩
  show Steps p.tables e below (T0.setTop (mkF m 26 #[.val (.int p1), .val (.int p2), .val (.int p3), .val (.int p4), .val (.int p5), .val (.int p6), .val (.int k6), .val (.int k7), .unset, .unset, .unset, .unset, .unset, .unset, .unset, .unset, .unset, .unset, .unset, .unset, .unset, .unset, .unset] [])) _
  refine XS.iloadN X0.here hx rfl (hb hby at_26) rfl ?_
  show Steps p.tables e below (T0.setTop (mkF m 27 #[.val (.int p1), .val (.int p2), .val (.int p3), .val (.int p4), .val (.int p5), .val (.int p6), .val (.int k6), .val (.int k7), .unset, .unset, .unset, .unset, .unset, .unset, .unset, .unset, .unset, .unset, .unset, .unset, .unset, .unset, .unset] [(.int p4)])) _
  refine XS.iconst X0.here hx rfl (hb hby at_27) ?_
  show Steps p.tables e below (T0.setTop (mkF m 28 #[.val (.int p1), .val (.int p2), .val (.int p3), .val (.int p4), .val (.int p5), .val (.int p6), .val (.int k6), .val (.int k7), .unset, .unset, .unset, .unset, .unset, .unset, .unset, .unset, .unset, .unset, .unset, .unset, .unset, .unset, .unset] [(.int (4 : Int32)), (.int p4)])) _
  refine XS.iand X0.here hx rfl (hb hby at_28) rfl ?_
  show Steps p.tables e below (T0.setTop (mkF m 29 #[.val (.int p1), .val (.int p2), .val (.int p3), .val (.int p4), .val (.int p5), .val (.int p6), .val (.int k6), .val (.int k7), .unset, .unset, .unset, .unset, .unset, .unset, .unset, .unset, .unset, .unset, .unset, .unset, .unset, .unset, .unset] [(.int (p4 &&& (4 : Int32)))])) _
  refine XS.ifYes X0.here hx rfl (pc0 := 29) (pc' := 36) rfl (hb hby at_29) rfl ((if0 _ _).trans (teq hc29).1) (by decide) (by decide) ?_
  show Steps p.tables e below (T0.setTop (mkF m 36 #[.val (.int p1), .val (.int p2), .val (.int p3), .val (.int p4), .val (.int p5), .val (.int p6), .val (.int k6), .val (.int k7), .unset, .unset, .unset, .unset, .unset, .unset, .unset, .unset, .unset, .unset, .unset, .unset, .unset, .unset, .unset] [])) _
  refine XS.iconst X0.here hx rfl (hb hby at_36) ?_
  show Steps p.tables e below (T0.setTop (mkF m 37 #[.val (.int p1), .val (.int p2), .val (.int p3), .val (.int p4), .val (.int p5), .val (.int p6), .val (.int k6), .val (.int k7), .unset, .unset, .unset, .unset, .unset, .unset, .unset, .unset, .unset, .unset, .unset, .unset, .unset, .unset, .unset] [(.int (0 : Int32))])) _
  refine XS.istore X0.here hx rfl (hb hby at_37) rfl (l' := #[.val (.int p1), .val (.int p2), .val (.int p3), .val (.int p4), .val (.int p5), .val (.int p6), .val (.int k6), .val (.int k7), .val (.int (0 : Int32)), .unset, .unset, .unset, .unset, .unset, .unset, .unset, .unset, .unset, .unset, .unset, .unset, .unset, .unset]) rfl ?_
  exact kt
set_option maxRecDepth 65536 in
set_option maxHeartbeats 40000000 in
theorem tn26f {p : Program} {l : Launch} {e : Env} {s : State} {m : MethodId} {args : Array Value} {below : List Frame} {meth : Method} {c : Code} {T0 : State} {locs : List Loc} {Z : State} {a0 : Array Value} (hw : ∀ d ∈ tables_1, d.before a0 Z = true) (p1 p2 p3 p4 p5 p6 k6 k7 : Int32) (h0 : Heap) (n0 : Nat) (X0 : Stand p l e room_1 s m args below meth c T0 locs 0 0) (N0 : Fr n0 locs) (hx : p.tables.exec = Jvm.exec) (hZ : Z.Warmed39 s.vm) (hby : c.code = code) (hml : c.maxLocals = 23) (hown : s.vm.findClass "com/example/mirante/mirante/FieldDefHasRuleChecksPinLaw" = some m.cls) (e0 : T0.heap = h0) (O0 : Old Z n0 h0) (hc29 : ¬ ((p4 &&& (4 : Int32)) = (0 : Int32))) :
    ∃ (T' : State) (locs' : List Loc), Stand p l e room_1 s m args below meth c T' locs' 0 0 ∧ Fr n0 locs' ∧ T'.heap = h0 ∧
      ∀ target, Steps p.tables e below (T'.setTop (mkF m 39 #[.val (.int p1), .val (.int p2), .val (.int p3), .val (.int p4), .val (.int p5), .val (.int p6), .val (.int k6), .val (.int k7), .val (.int (1 : Int32)), .unset, .unset, .unset, .unset, .unset, .unset, .unset, .unset, .unset, .unset, .unset, .unset, .unset, .unset] [])) target → Steps p.tables e below (T0.setTop (mkF m 26 #[.val (.int p1), .val (.int p2), .val (.int p3), .val (.int p4), .val (.int p5), .val (.int p6), .val (.int k6), .val (.int k7), .unset, .unset, .unset, .unset, .unset, .unset, .unset, .unset, .unset, .unset, .unset, .unset, .unset, .unset, .unset] [])) target := by
  have Z0 : n0 ≤ h0.size := O0.1 ▸ O0.2.1
  refine ⟨T0, _, X0, N0, e0, fun target kt => ?_⟩
  show Steps p.tables e below (T0.setTop (mkF m 26 #[.val (.int p1), .val (.int p2), .val (.int p3), .val (.int p4), .val (.int p5), .val (.int p6), .val (.int k6), .val (.int k7), .unset, .unset, .unset, .unset, .unset, .unset, .unset, .unset, .unset, .unset, .unset, .unset, .unset, .unset, .unset] [])) _
  refine XS.iloadN X0.here hx rfl (hb hby at_26) rfl ?_
  show Steps p.tables e below (T0.setTop (mkF m 27 #[.val (.int p1), .val (.int p2), .val (.int p3), .val (.int p4), .val (.int p5), .val (.int p6), .val (.int k6), .val (.int k7), .unset, .unset, .unset, .unset, .unset, .unset, .unset, .unset, .unset, .unset, .unset, .unset, .unset, .unset, .unset] [(.int p4)])) _
  refine XS.iconst X0.here hx rfl (hb hby at_27) ?_
  show Steps p.tables e below (T0.setTop (mkF m 28 #[.val (.int p1), .val (.int p2), .val (.int p3), .val (.int p4), .val (.int p5), .val (.int p6), .val (.int k6), .val (.int k7), .unset, .unset, .unset, .unset, .unset, .unset, .unset, .unset, .unset, .unset, .unset, .unset, .unset, .unset, .unset] [(.int (4 : Int32)), (.int p4)])) _
  refine XS.iand X0.here hx rfl (hb hby at_28) rfl ?_
  show Steps p.tables e below (T0.setTop (mkF m 29 #[.val (.int p1), .val (.int p2), .val (.int p3), .val (.int p4), .val (.int p5), .val (.int p6), .val (.int k6), .val (.int k7), .unset, .unset, .unset, .unset, .unset, .unset, .unset, .unset, .unset, .unset, .unset, .unset, .unset, .unset, .unset] [(.int (p4 &&& (4 : Int32)))])) _
  refine XS.ifNo X0.here hx rfl (hb hby at_29) rfl ((if0 _ _).trans (feq hc29).1) ?_
  show Steps p.tables e below (T0.setTop (mkF m 32 #[.val (.int p1), .val (.int p2), .val (.int p3), .val (.int p4), .val (.int p5), .val (.int p6), .val (.int k6), .val (.int k7), .unset, .unset, .unset, .unset, .unset, .unset, .unset, .unset, .unset, .unset, .unset, .unset, .unset, .unset, .unset] [])) _
  refine XS.iconst X0.here hx rfl (hb hby at_32) ?_
  show Steps p.tables e below (T0.setTop (mkF m 33 #[.val (.int p1), .val (.int p2), .val (.int p3), .val (.int p4), .val (.int p5), .val (.int p6), .val (.int k6), .val (.int k7), .unset, .unset, .unset, .unset, .unset, .unset, .unset, .unset, .unset, .unset, .unset, .unset, .unset, .unset, .unset] [(.int (1 : Int32))])) _
  refine XS.goto X0.here hx rfl (pc0 := 33) (pc' := 37) rfl (hb hby at_33) (by decide) (by decide) ?_
  show Steps p.tables e below (T0.setTop (mkF m 37 #[.val (.int p1), .val (.int p2), .val (.int p3), .val (.int p4), .val (.int p5), .val (.int p6), .val (.int k6), .val (.int k7), .unset, .unset, .unset, .unset, .unset, .unset, .unset, .unset, .unset, .unset, .unset, .unset, .unset, .unset, .unset] [(.int (1 : Int32))])) _
  refine XS.istore X0.here hx rfl (hb hby at_37) rfl (l' := #[.val (.int p1), .val (.int p2), .val (.int p3), .val (.int p4), .val (.int p5), .val (.int p6), .val (.int k6), .val (.int k7), .val (.int (1 : Int32)), .unset, .unset, .unset, .unset, .unset, .unset, .unset, .unset, .unset, .unset, .unset, .unset, .unset, .unset]) rfl ?_
  exact kt
set_option maxRecDepth 65536 in
set_option maxHeartbeats 40000000 in
theorem tn26 {p : Program} {l : Launch} {e : Env} {s : State} {m : MethodId} {args : Array Value} {below : List Frame} {meth : Method} {c : Code} {T0 : State} {locs : List Loc} {Z : State} {a0 : Array Value} (hw : ∀ d ∈ tables_1, d.before a0 Z = true) (p1 p2 p3 p4 p5 p6 k6 k7 k8 : Int32) (h0 : Heap) (n0 : Nat) (X0 : Stand p l e room_1 s m args below meth c T0 locs 0 0) (N0 : Fr n0 locs) (hx : p.tables.exec = Jvm.exec) (hZ : Z.Warmed39 s.vm) (hby : c.code = code) (hml : c.maxLocals = 23) (hown : s.vm.findClass "com/example/mirante/mirante/FieldDefHasRuleChecksPinLaw" = some m.cls) (e0 : T0.heap = h0) (O0 : Old Z n0 h0) (hk8 : k8 = if (p4 &&& (4 : Int32)) = (0 : Int32) then (0 : Int32) else (1 : Int32)) :
    ∃ (T' : State) (locs' : List Loc), Stand p l e room_1 s m args below meth c T' locs' 0 0 ∧ Fr n0 locs' ∧ T'.heap = h0 ∧
      ∀ target, Steps p.tables e below (T'.setTop (mkF m 39 #[.val (.int p1), .val (.int p2), .val (.int p3), .val (.int p4), .val (.int p5), .val (.int p6), .val (.int k6), .val (.int k7), .val (.int k8), .unset, .unset, .unset, .unset, .unset, .unset, .unset, .unset, .unset, .unset, .unset, .unset, .unset, .unset] [])) target → Steps p.tables e below (T0.setTop (mkF m 26 #[.val (.int p1), .val (.int p2), .val (.int p3), .val (.int p4), .val (.int p5), .val (.int p6), .val (.int k6), .val (.int k7), .unset, .unset, .unset, .unset, .unset, .unset, .unset, .unset, .unset, .unset, .unset, .unset, .unset, .unset, .unset] [])) target := by
  by_cases c1 : (p4 &&& (4 : Int32)) = (0 : Int32)
  · rw [if_pos c1] at hk8; subst hk8; exact tn26t hw p1 p2 p3 p4 p5 p6 k6 k7 h0 n0 X0 N0 hx hZ hby hml hown e0 O0 c1
  · rw [if_neg c1] at hk8; subst hk8; exact tn26f hw p1 p2 p3 p4 p5 p6 k6 k7 h0 n0 X0 N0 hx hZ hby hml hown e0 O0 c1
set_option maxRecDepth 65536 in
set_option maxHeartbeats 40000000 in
theorem tn39t {p : Program} {l : Launch} {e : Env} {s : State} {m : MethodId} {args : Array Value} {below : List Frame} {meth : Method} {c : Code} {T0 : State} {locs : List Loc} {Z : State} {a0 : Array Value} (hw : ∀ d ∈ tables_1, d.before a0 Z = true) (p1 p2 p3 p4 p5 p6 k6 k7 k8 : Int32) (h0 : Heap) (n0 : Nat) (X0 : Stand p l e room_1 s m args below meth c T0 locs 0 0) (N0 : Fr n0 locs) (hx : p.tables.exec = Jvm.exec) (hZ : Z.Warmed39 s.vm) (hby : c.code = code) (hml : c.maxLocals = 23) (hown : s.vm.findClass "com/example/mirante/mirante/FieldDefHasRuleChecksPinLaw" = some m.cls) (e0 : T0.heap = h0) (O0 : Old Z n0 h0) (hc43 : (p4 &&& (8 : Int32)) = (0 : Int32)) :
    ∃ (T' : State) (locs' : List Loc), Stand p l e room_1 s m args below meth c T' locs' 0 0 ∧ Fr n0 locs' ∧ T'.heap = h0 ∧
      ∀ target, Steps p.tables e below (T'.setTop (mkF m 53 #[.val (.int p1), .val (.int p2), .val (.int p3), .val (.int p4), .val (.int p5), .val (.int p6), .val (.int k6), .val (.int k7), .val (.int k8), .val (.int (0 : Int32)), .unset, .unset, .unset, .unset, .unset, .unset, .unset, .unset, .unset, .unset, .unset, .unset, .unset] [])) target → Steps p.tables e below (T0.setTop (mkF m 39 #[.val (.int p1), .val (.int p2), .val (.int p3), .val (.int p4), .val (.int p5), .val (.int p6), .val (.int k6), .val (.int k7), .val (.int k8), .unset, .unset, .unset, .unset, .unset, .unset, .unset, .unset, .unset, .unset, .unset, .unset, .unset, .unset] [])) target := by
  have Z0 : n0 ≤ h0.size := O0.1 ▸ O0.2.1
  refine ⟨T0, _, X0, N0, e0, fun target kt => ?_⟩
  show Steps p.tables e below (T0.setTop (mkF m 39 #[.val (.int p1), .val (.int p2), .val (.int p3), .val (.int p4), .val (.int p5), .val (.int p6), .val (.int k6), .val (.int k7), .val (.int k8), .unset, .unset, .unset, .unset, .unset, .unset, .unset, .unset, .unset, .unset, .unset, .unset, .unset, .unset] [])) _
  refine XS.iloadN X0.here hx rfl (hb hby at_39) rfl ?_
  show Steps p.tables e below (T0.setTop (mkF m 40 #[.val (.int p1), .val (.int p2), .val (.int p3), .val (.int p4), .val (.int p5), .val (.int p6), .val (.int k6), .val (.int k7), .val (.int k8), .unset, .unset, .unset, .unset, .unset, .unset, .unset, .unset, .unset, .unset, .unset, .unset, .unset, .unset] [(.int p4)])) _
  refine XS.bipush X0.here hx rfl (hb hby at_40) ?_
  show Steps p.tables e below (T0.setTop (mkF m 42 #[.val (.int p1), .val (.int p2), .val (.int p3), .val (.int p4), .val (.int p5), .val (.int p6), .val (.int k6), .val (.int k7), .val (.int k8), .unset, .unset, .unset, .unset, .unset, .unset, .unset, .unset, .unset, .unset, .unset, .unset, .unset, .unset] [(.int (8 : Int32)), (.int p4)])) _
  refine XS.iand X0.here hx rfl (hb hby at_42) rfl ?_
  show Steps p.tables e below (T0.setTop (mkF m 43 #[.val (.int p1), .val (.int p2), .val (.int p3), .val (.int p4), .val (.int p5), .val (.int p6), .val (.int k6), .val (.int k7), .val (.int k8), .unset, .unset, .unset, .unset, .unset, .unset, .unset, .unset, .unset, .unset, .unset, .unset, .unset, .unset] [(.int (p4 &&& (8 : Int32)))])) _
  refine XS.ifYes X0.here hx rfl (pc0 := 43) (pc' := 50) rfl (hb hby at_43) rfl ((if0 _ _).trans (teq hc43).1) (by decide) (by decide) ?_
  show Steps p.tables e below (T0.setTop (mkF m 50 #[.val (.int p1), .val (.int p2), .val (.int p3), .val (.int p4), .val (.int p5), .val (.int p6), .val (.int k6), .val (.int k7), .val (.int k8), .unset, .unset, .unset, .unset, .unset, .unset, .unset, .unset, .unset, .unset, .unset, .unset, .unset, .unset] [])) _
  refine XS.iconst X0.here hx rfl (hb hby at_50) ?_
  show Steps p.tables e below (T0.setTop (mkF m 51 #[.val (.int p1), .val (.int p2), .val (.int p3), .val (.int p4), .val (.int p5), .val (.int p6), .val (.int k6), .val (.int k7), .val (.int k8), .unset, .unset, .unset, .unset, .unset, .unset, .unset, .unset, .unset, .unset, .unset, .unset, .unset, .unset] [(.int (0 : Int32))])) _
  refine XS.istore X0.here hx rfl (hb hby at_51) rfl (l' := #[.val (.int p1), .val (.int p2), .val (.int p3), .val (.int p4), .val (.int p5), .val (.int p6), .val (.int k6), .val (.int k7), .val (.int k8), .val (.int (0 : Int32)), .unset, .unset, .unset, .unset, .unset, .unset, .unset, .unset, .unset, .unset, .unset, .unset, .unset]) rfl ?_
  exact kt
set_option maxRecDepth 65536 in
set_option maxHeartbeats 40000000 in
theorem tn39f {p : Program} {l : Launch} {e : Env} {s : State} {m : MethodId} {args : Array Value} {below : List Frame} {meth : Method} {c : Code} {T0 : State} {locs : List Loc} {Z : State} {a0 : Array Value} (hw : ∀ d ∈ tables_1, d.before a0 Z = true) (p1 p2 p3 p4 p5 p6 k6 k7 k8 : Int32) (h0 : Heap) (n0 : Nat) (X0 : Stand p l e room_1 s m args below meth c T0 locs 0 0) (N0 : Fr n0 locs) (hx : p.tables.exec = Jvm.exec) (hZ : Z.Warmed39 s.vm) (hby : c.code = code) (hml : c.maxLocals = 23) (hown : s.vm.findClass "com/example/mirante/mirante/FieldDefHasRuleChecksPinLaw" = some m.cls) (e0 : T0.heap = h0) (O0 : Old Z n0 h0) (hc43 : ¬ ((p4 &&& (8 : Int32)) = (0 : Int32))) :
    ∃ (T' : State) (locs' : List Loc), Stand p l e room_1 s m args below meth c T' locs' 0 0 ∧ Fr n0 locs' ∧ T'.heap = h0 ∧
      ∀ target, Steps p.tables e below (T'.setTop (mkF m 53 #[.val (.int p1), .val (.int p2), .val (.int p3), .val (.int p4), .val (.int p5), .val (.int p6), .val (.int k6), .val (.int k7), .val (.int k8), .val (.int (1 : Int32)), .unset, .unset, .unset, .unset, .unset, .unset, .unset, .unset, .unset, .unset, .unset, .unset, .unset] [])) target → Steps p.tables e below (T0.setTop (mkF m 39 #[.val (.int p1), .val (.int p2), .val (.int p3), .val (.int p4), .val (.int p5), .val (.int p6), .val (.int k6), .val (.int k7), .val (.int k8), .unset, .unset, .unset, .unset, .unset, .unset, .unset, .unset, .unset, .unset, .unset, .unset, .unset, .unset] [])) target := by
  have Z0 : n0 ≤ h0.size := O0.1 ▸ O0.2.1
  refine ⟨T0, _, X0, N0, e0, fun target kt => ?_⟩
  show Steps p.tables e below (T0.setTop (mkF m 39 #[.val (.int p1), .val (.int p2), .val (.int p3), .val (.int p4), .val (.int p5), .val (.int p6), .val (.int k6), .val (.int k7), .val (.int k8), .unset, .unset, .unset, .unset, .unset, .unset, .unset, .unset, .unset, .unset, .unset, .unset, .unset, .unset] [])) _
  refine XS.iloadN X0.here hx rfl (hb hby at_39) rfl ?_
  show Steps p.tables e below (T0.setTop (mkF m 40 #[.val (.int p1), .val (.int p2), .val (.int p3), .val (.int p4), .val (.int p5), .val (.int p6), .val (.int k6), .val (.int k7), .val (.int k8), .unset, .unset, .unset, .unset, .unset, .unset, .unset, .unset, .unset, .unset, .unset, .unset, .unset, .unset] [(.int p4)])) _
  refine XS.bipush X0.here hx rfl (hb hby at_40) ?_
  show Steps p.tables e below (T0.setTop (mkF m 42 #[.val (.int p1), .val (.int p2), .val (.int p3), .val (.int p4), .val (.int p5), .val (.int p6), .val (.int k6), .val (.int k7), .val (.int k8), .unset, .unset, .unset, .unset, .unset, .unset, .unset, .unset, .unset, .unset, .unset, .unset, .unset, .unset] [(.int (8 : Int32)), (.int p4)])) _
  refine XS.iand X0.here hx rfl (hb hby at_42) rfl ?_
  show Steps p.tables e below (T0.setTop (mkF m 43 #[.val (.int p1), .val (.int p2), .val (.int p3), .val (.int p4), .val (.int p5), .val (.int p6), .val (.int k6), .val (.int k7), .val (.int k8), .unset, .unset, .unset, .unset, .unset, .unset, .unset, .unset, .unset, .unset, .unset, .unset, .unset, .unset] [(.int (p4 &&& (8 : Int32)))])) _
  refine XS.ifNo X0.here hx rfl (hb hby at_43) rfl ((if0 _ _).trans (feq hc43).1) ?_
  show Steps p.tables e below (T0.setTop (mkF m 46 #[.val (.int p1), .val (.int p2), .val (.int p3), .val (.int p4), .val (.int p5), .val (.int p6), .val (.int k6), .val (.int k7), .val (.int k8), .unset, .unset, .unset, .unset, .unset, .unset, .unset, .unset, .unset, .unset, .unset, .unset, .unset, .unset] [])) _
  refine XS.iconst X0.here hx rfl (hb hby at_46) ?_
  show Steps p.tables e below (T0.setTop (mkF m 47 #[.val (.int p1), .val (.int p2), .val (.int p3), .val (.int p4), .val (.int p5), .val (.int p6), .val (.int k6), .val (.int k7), .val (.int k8), .unset, .unset, .unset, .unset, .unset, .unset, .unset, .unset, .unset, .unset, .unset, .unset, .unset, .unset] [(.int (1 : Int32))])) _
  refine XS.goto X0.here hx rfl (pc0 := 47) (pc' := 51) rfl (hb hby at_47) (by decide) (by decide) ?_
  show Steps p.tables e below (T0.setTop (mkF m 51 #[.val (.int p1), .val (.int p2), .val (.int p3), .val (.int p4), .val (.int p5), .val (.int p6), .val (.int k6), .val (.int k7), .val (.int k8), .unset, .unset, .unset, .unset, .unset, .unset, .unset, .unset, .unset, .unset, .unset, .unset, .unset, .unset] [(.int (1 : Int32))])) _
  refine XS.istore X0.here hx rfl (hb hby at_51) rfl (l' := #[.val (.int p1), .val (.int p2), .val (.int p3), .val (.int p4), .val (.int p5), .val (.int p6), .val (.int k6), .val (.int k7), .val (.int k8), .val (.int (1 : Int32)), .unset, .unset, .unset, .unset, .unset, .unset, .unset, .unset, .unset, .unset, .unset, .unset, .unset]) rfl ?_
  exact kt
set_option maxRecDepth 65536 in
set_option maxHeartbeats 40000000 in
theorem tn39 {p : Program} {l : Launch} {e : Env} {s : State} {m : MethodId} {args : Array Value} {below : List Frame} {meth : Method} {c : Code} {T0 : State} {locs : List Loc} {Z : State} {a0 : Array Value} (hw : ∀ d ∈ tables_1, d.before a0 Z = true) (p1 p2 p3 p4 p5 p6 k6 k7 k8 k9 : Int32) (h0 : Heap) (n0 : Nat) (X0 : Stand p l e room_1 s m args below meth c T0 locs 0 0) (N0 : Fr n0 locs) (hx : p.tables.exec = Jvm.exec) (hZ : Z.Warmed39 s.vm) (hby : c.code = code) (hml : c.maxLocals = 23) (hown : s.vm.findClass "com/example/mirante/mirante/FieldDefHasRuleChecksPinLaw" = some m.cls) (e0 : T0.heap = h0) (O0 : Old Z n0 h0) (hk9 : k9 = if (p4 &&& (8 : Int32)) = (0 : Int32) then (0 : Int32) else (1 : Int32)) :
    ∃ (T' : State) (locs' : List Loc), Stand p l e room_1 s m args below meth c T' locs' 0 0 ∧ Fr n0 locs' ∧ T'.heap = h0 ∧
      ∀ target, Steps p.tables e below (T'.setTop (mkF m 53 #[.val (.int p1), .val (.int p2), .val (.int p3), .val (.int p4), .val (.int p5), .val (.int p6), .val (.int k6), .val (.int k7), .val (.int k8), .val (.int k9), .unset, .unset, .unset, .unset, .unset, .unset, .unset, .unset, .unset, .unset, .unset, .unset, .unset] [])) target → Steps p.tables e below (T0.setTop (mkF m 39 #[.val (.int p1), .val (.int p2), .val (.int p3), .val (.int p4), .val (.int p5), .val (.int p6), .val (.int k6), .val (.int k7), .val (.int k8), .unset, .unset, .unset, .unset, .unset, .unset, .unset, .unset, .unset, .unset, .unset, .unset, .unset, .unset] [])) target := by
  by_cases c1 : (p4 &&& (8 : Int32)) = (0 : Int32)
  · rw [if_pos c1] at hk9; subst hk9; exact tn39t hw p1 p2 p3 p4 p5 p6 k6 k7 k8 h0 n0 X0 N0 hx hZ hby hml hown e0 O0 c1
  · rw [if_neg c1] at hk9; subst hk9; exact tn39f hw p1 p2 p3 p4 p5 p6 k6 k7 k8 h0 n0 X0 N0 hx hZ hby hml hown e0 O0 c1
set_option maxRecDepth 65536 in
set_option maxHeartbeats 40000000 in
theorem tn53t {p : Program} {l : Launch} {e : Env} {s : State} {m : MethodId} {args : Array Value} {below : List Frame} {meth : Method} {c : Code} {T0 : State} {locs : List Loc} {Z : State} {a0 : Array Value} (hw : ∀ d ∈ tables_1, d.before a0 Z = true) (p1 p2 p3 p4 p5 p6 k6 k7 k8 k9 : Int32) (h0 : Heap) (n0 : Nat) (X0 : Stand p l e room_1 s m args below meth c T0 locs 0 0) (N0 : Fr n0 locs) (hx : p.tables.exec = Jvm.exec) (hZ : Z.Warmed39 s.vm) (hby : c.code = code) (hml : c.maxLocals = 23) (hown : s.vm.findClass "com/example/mirante/mirante/FieldDefHasRuleChecksPinLaw" = some m.cls) (e0 : T0.heap = h0) (O0 : Old Z n0 h0) (hc57 : (p4 &&& (16 : Int32)) = (0 : Int32)) :
    ∃ (T' : State) (locs' : List Loc), Stand p l e room_1 s m args below meth c T' locs' 0 0 ∧ Fr n0 locs' ∧ T'.heap = h0 ∧
      ∀ target, Steps p.tables e below (T'.setTop (mkF m 67 #[.val (.int p1), .val (.int p2), .val (.int p3), .val (.int p4), .val (.int p5), .val (.int p6), .val (.int k6), .val (.int k7), .val (.int k8), .val (.int k9), .val (.int (0 : Int32)), .unset, .unset, .unset, .unset, .unset, .unset, .unset, .unset, .unset, .unset, .unset, .unset] [])) target → Steps p.tables e below (T0.setTop (mkF m 53 #[.val (.int p1), .val (.int p2), .val (.int p3), .val (.int p4), .val (.int p5), .val (.int p6), .val (.int k6), .val (.int k7), .val (.int k8), .val (.int k9), .unset, .unset, .unset, .unset, .unset, .unset, .unset, .unset, .unset, .unset, .unset, .unset, .unset] [])) target := by
  have Z0 : n0 ≤ h0.size := O0.1 ▸ O0.2.1
  refine ⟨T0, _, X0, N0, e0, fun target kt => ?_⟩
  show Steps p.tables e below (T0.setTop (mkF m 53 #[.val (.int p1), .val (.int p2), .val (.int p3), .val (.int p4), .val (.int p5), .val (.int p6), .val (.int k6), .val (.int k7), .val (.int k8), .val (.int k9), .unset, .unset, .unset, .unset, .unset, .unset, .unset, .unset, .unset, .unset, .unset, .unset, .unset] [])) _
  refine XS.iloadN X0.here hx rfl (hb hby at_53) rfl ?_
  show Steps p.tables e below (T0.setTop (mkF m 54 #[.val (.int p1), .val (.int p2), .val (.int p3), .val (.int p4), .val (.int p5), .val (.int p6), .val (.int k6), .val (.int k7), .val (.int k8), .val (.int k9), .unset, .unset, .unset, .unset, .unset, .unset, .unset, .unset, .unset, .unset, .unset, .unset, .unset] [(.int p4)])) _
  refine XS.bipush X0.here hx rfl (hb hby at_54) ?_
  show Steps p.tables e below (T0.setTop (mkF m 56 #[.val (.int p1), .val (.int p2), .val (.int p3), .val (.int p4), .val (.int p5), .val (.int p6), .val (.int k6), .val (.int k7), .val (.int k8), .val (.int k9), .unset, .unset, .unset, .unset, .unset, .unset, .unset, .unset, .unset, .unset, .unset, .unset, .unset] [(.int (16 : Int32)), (.int p4)])) _
  refine XS.iand X0.here hx rfl (hb hby at_56) rfl ?_
  show Steps p.tables e below (T0.setTop (mkF m 57 #[.val (.int p1), .val (.int p2), .val (.int p3), .val (.int p4), .val (.int p5), .val (.int p6), .val (.int k6), .val (.int k7), .val (.int k8), .val (.int k9), .unset, .unset, .unset, .unset, .unset, .unset, .unset, .unset, .unset, .unset, .unset, .unset, .unset] [(.int (p4 &&& (16 : Int32)))])) _
  refine XS.ifYes X0.here hx rfl (pc0 := 57) (pc' := 64) rfl (hb hby at_57) rfl ((if0 _ _).trans (teq hc57).1) (by decide) (by decide) ?_
  show Steps p.tables e below (T0.setTop (mkF m 64 #[.val (.int p1), .val (.int p2), .val (.int p3), .val (.int p4), .val (.int p5), .val (.int p6), .val (.int k6), .val (.int k7), .val (.int k8), .val (.int k9), .unset, .unset, .unset, .unset, .unset, .unset, .unset, .unset, .unset, .unset, .unset, .unset, .unset] [])) _
  refine XS.iconst X0.here hx rfl (hb hby at_64) ?_
  show Steps p.tables e below (T0.setTop (mkF m 65 #[.val (.int p1), .val (.int p2), .val (.int p3), .val (.int p4), .val (.int p5), .val (.int p6), .val (.int k6), .val (.int k7), .val (.int k8), .val (.int k9), .unset, .unset, .unset, .unset, .unset, .unset, .unset, .unset, .unset, .unset, .unset, .unset, .unset] [(.int (0 : Int32))])) _
  refine XS.istore X0.here hx rfl (hb hby at_65) rfl (l' := #[.val (.int p1), .val (.int p2), .val (.int p3), .val (.int p4), .val (.int p5), .val (.int p6), .val (.int k6), .val (.int k7), .val (.int k8), .val (.int k9), .val (.int (0 : Int32)), .unset, .unset, .unset, .unset, .unset, .unset, .unset, .unset, .unset, .unset, .unset, .unset]) rfl ?_
  exact kt
set_option maxRecDepth 65536 in
set_option maxHeartbeats 40000000 in
theorem tn53f {p : Program} {l : Launch} {e : Env} {s : State} {m : MethodId} {args : Array Value} {below : List Frame} {meth : Method} {c : Code} {T0 : State} {locs : List Loc} {Z : State} {a0 : Array Value} (hw : ∀ d ∈ tables_1, d.before a0 Z = true) (p1 p2 p3 p4 p5 p6 k6 k7 k8 k9 : Int32) (h0 : Heap) (n0 : Nat) (X0 : Stand p l e room_1 s m args below meth c T0 locs 0 0) (N0 : Fr n0 locs) (hx : p.tables.exec = Jvm.exec) (hZ : Z.Warmed39 s.vm) (hby : c.code = code) (hml : c.maxLocals = 23) (hown : s.vm.findClass "com/example/mirante/mirante/FieldDefHasRuleChecksPinLaw" = some m.cls) (e0 : T0.heap = h0) (O0 : Old Z n0 h0) (hc57 : ¬ ((p4 &&& (16 : Int32)) = (0 : Int32))) :
    ∃ (T' : State) (locs' : List Loc), Stand p l e room_1 s m args below meth c T' locs' 0 0 ∧ Fr n0 locs' ∧ T'.heap = h0 ∧
      ∀ target, Steps p.tables e below (T'.setTop (mkF m 67 #[.val (.int p1), .val (.int p2), .val (.int p3), .val (.int p4), .val (.int p5), .val (.int p6), .val (.int k6), .val (.int k7), .val (.int k8), .val (.int k9), .val (.int (1 : Int32)), .unset, .unset, .unset, .unset, .unset, .unset, .unset, .unset, .unset, .unset, .unset, .unset] [])) target → Steps p.tables e below (T0.setTop (mkF m 53 #[.val (.int p1), .val (.int p2), .val (.int p3), .val (.int p4), .val (.int p5), .val (.int p6), .val (.int k6), .val (.int k7), .val (.int k8), .val (.int k9), .unset, .unset, .unset, .unset, .unset, .unset, .unset, .unset, .unset, .unset, .unset, .unset, .unset] [])) target := by
  have Z0 : n0 ≤ h0.size := O0.1 ▸ O0.2.1
  refine ⟨T0, _, X0, N0, e0, fun target kt => ?_⟩
  show Steps p.tables e below (T0.setTop (mkF m 53 #[.val (.int p1), .val (.int p2), .val (.int p3), .val (.int p4), .val (.int p5), .val (.int p6), .val (.int k6), .val (.int k7), .val (.int k8), .val (.int k9), .unset, .unset, .unset, .unset, .unset, .unset, .unset, .unset, .unset, .unset, .unset, .unset, .unset] [])) _
  refine XS.iloadN X0.here hx rfl (hb hby at_53) rfl ?_
  show Steps p.tables e below (T0.setTop (mkF m 54 #[.val (.int p1), .val (.int p2), .val (.int p3), .val (.int p4), .val (.int p5), .val (.int p6), .val (.int k6), .val (.int k7), .val (.int k8), .val (.int k9), .unset, .unset, .unset, .unset, .unset, .unset, .unset, .unset, .unset, .unset, .unset, .unset, .unset] [(.int p4)])) _
  refine XS.bipush X0.here hx rfl (hb hby at_54) ?_
  show Steps p.tables e below (T0.setTop (mkF m 56 #[.val (.int p1), .val (.int p2), .val (.int p3), .val (.int p4), .val (.int p5), .val (.int p6), .val (.int k6), .val (.int k7), .val (.int k8), .val (.int k9), .unset, .unset, .unset, .unset, .unset, .unset, .unset, .unset, .unset, .unset, .unset, .unset, .unset] [(.int (16 : Int32)), (.int p4)])) _
  refine XS.iand X0.here hx rfl (hb hby at_56) rfl ?_
  show Steps p.tables e below (T0.setTop (mkF m 57 #[.val (.int p1), .val (.int p2), .val (.int p3), .val (.int p4), .val (.int p5), .val (.int p6), .val (.int k6), .val (.int k7), .val (.int k8), .val (.int k9), .unset, .unset, .unset, .unset, .unset, .unset, .unset, .unset, .unset, .unset, .unset, .unset, .unset] [(.int (p4 &&& (16 : Int32)))])) _
  refine XS.ifNo X0.here hx rfl (hb hby at_57) rfl ((if0 _ _).trans (feq hc57).1) ?_
  show Steps p.tables e below (T0.setTop (mkF m 60 #[.val (.int p1), .val (.int p2), .val (.int p3), .val (.int p4), .val (.int p5), .val (.int p6), .val (.int k6), .val (.int k7), .val (.int k8), .val (.int k9), .unset, .unset, .unset, .unset, .unset, .unset, .unset, .unset, .unset, .unset, .unset, .unset, .unset] [])) _
  refine XS.iconst X0.here hx rfl (hb hby at_60) ?_
  show Steps p.tables e below (T0.setTop (mkF m 61 #[.val (.int p1), .val (.int p2), .val (.int p3), .val (.int p4), .val (.int p5), .val (.int p6), .val (.int k6), .val (.int k7), .val (.int k8), .val (.int k9), .unset, .unset, .unset, .unset, .unset, .unset, .unset, .unset, .unset, .unset, .unset, .unset, .unset] [(.int (1 : Int32))])) _
  refine XS.goto X0.here hx rfl (pc0 := 61) (pc' := 65) rfl (hb hby at_61) (by decide) (by decide) ?_
  show Steps p.tables e below (T0.setTop (mkF m 65 #[.val (.int p1), .val (.int p2), .val (.int p3), .val (.int p4), .val (.int p5), .val (.int p6), .val (.int k6), .val (.int k7), .val (.int k8), .val (.int k9), .unset, .unset, .unset, .unset, .unset, .unset, .unset, .unset, .unset, .unset, .unset, .unset, .unset] [(.int (1 : Int32))])) _
  refine XS.istore X0.here hx rfl (hb hby at_65) rfl (l' := #[.val (.int p1), .val (.int p2), .val (.int p3), .val (.int p4), .val (.int p5), .val (.int p6), .val (.int k6), .val (.int k7), .val (.int k8), .val (.int k9), .val (.int (1 : Int32)), .unset, .unset, .unset, .unset, .unset, .unset, .unset, .unset, .unset, .unset, .unset, .unset]) rfl ?_
  exact kt
set_option maxRecDepth 65536 in
set_option maxHeartbeats 40000000 in
theorem tn53 {p : Program} {l : Launch} {e : Env} {s : State} {m : MethodId} {args : Array Value} {below : List Frame} {meth : Method} {c : Code} {T0 : State} {locs : List Loc} {Z : State} {a0 : Array Value} (hw : ∀ d ∈ tables_1, d.before a0 Z = true) (p1 p2 p3 p4 p5 p6 k6 k7 k8 k9 k10 : Int32) (h0 : Heap) (n0 : Nat) (X0 : Stand p l e room_1 s m args below meth c T0 locs 0 0) (N0 : Fr n0 locs) (hx : p.tables.exec = Jvm.exec) (hZ : Z.Warmed39 s.vm) (hby : c.code = code) (hml : c.maxLocals = 23) (hown : s.vm.findClass "com/example/mirante/mirante/FieldDefHasRuleChecksPinLaw" = some m.cls) (e0 : T0.heap = h0) (O0 : Old Z n0 h0) (hk10 : k10 = if (p4 &&& (16 : Int32)) = (0 : Int32) then (0 : Int32) else (1 : Int32)) :
    ∃ (T' : State) (locs' : List Loc), Stand p l e room_1 s m args below meth c T' locs' 0 0 ∧ Fr n0 locs' ∧ T'.heap = h0 ∧
      ∀ target, Steps p.tables e below (T'.setTop (mkF m 67 #[.val (.int p1), .val (.int p2), .val (.int p3), .val (.int p4), .val (.int p5), .val (.int p6), .val (.int k6), .val (.int k7), .val (.int k8), .val (.int k9), .val (.int k10), .unset, .unset, .unset, .unset, .unset, .unset, .unset, .unset, .unset, .unset, .unset, .unset] [])) target → Steps p.tables e below (T0.setTop (mkF m 53 #[.val (.int p1), .val (.int p2), .val (.int p3), .val (.int p4), .val (.int p5), .val (.int p6), .val (.int k6), .val (.int k7), .val (.int k8), .val (.int k9), .unset, .unset, .unset, .unset, .unset, .unset, .unset, .unset, .unset, .unset, .unset, .unset, .unset] [])) target := by
  by_cases c1 : (p4 &&& (16 : Int32)) = (0 : Int32)
  · rw [if_pos c1] at hk10; subst hk10; exact tn53t hw p1 p2 p3 p4 p5 p6 k6 k7 k8 k9 h0 n0 X0 N0 hx hZ hby hml hown e0 O0 c1
  · rw [if_neg c1] at hk10; subst hk10; exact tn53f hw p1 p2 p3 p4 p5 p6 k6 k7 k8 k9 h0 n0 X0 N0 hx hZ hby hml hown e0 O0 c1
set_option maxRecDepth 65536 in
set_option maxHeartbeats 40000000 in
theorem tn67t {p : Program} {l : Launch} {e : Env} {s : State} {m : MethodId} {args : Array Value} {below : List Frame} {meth : Method} {c : Code} {T0 : State} {locs : List Loc} {Z : State} {a0 : Array Value} (hw : ∀ d ∈ tables_1, d.before a0 Z = true) (p1 p2 p3 p4 p5 p6 k6 k7 k8 k9 k10 : Int32) (h0 : Heap) (n0 : Nat) (X0 : Stand p l e room_1 s m args below meth c T0 locs 0 0) (N0 : Fr n0 locs) (hx : p.tables.exec = Jvm.exec) (hZ : Z.Warmed39 s.vm) (hby : c.code = code) (hml : c.maxLocals = 23) (hown : s.vm.findClass "com/example/mirante/mirante/FieldDefHasRuleChecksPinLaw" = some m.cls) (e0 : T0.heap = h0) (O0 : Old Z n0 h0) (hc71 : (p4 &&& (32 : Int32)) = (0 : Int32)) :
    ∃ (T' : State) (locs' : List Loc), Stand p l e room_1 s m args below meth c T' locs' 0 0 ∧ Fr n0 locs' ∧ T'.heap = h0 ∧
      ∀ target, Steps p.tables e below (T'.setTop (mkF m 81 #[.val (.int p1), .val (.int p2), .val (.int p3), .val (.int p4), .val (.int p5), .val (.int p6), .val (.int k6), .val (.int k7), .val (.int k8), .val (.int k9), .val (.int k10), .val (.int (0 : Int32)), .unset, .unset, .unset, .unset, .unset, .unset, .unset, .unset, .unset, .unset, .unset] [])) target → Steps p.tables e below (T0.setTop (mkF m 67 #[.val (.int p1), .val (.int p2), .val (.int p3), .val (.int p4), .val (.int p5), .val (.int p6), .val (.int k6), .val (.int k7), .val (.int k8), .val (.int k9), .val (.int k10), .unset, .unset, .unset, .unset, .unset, .unset, .unset, .unset, .unset, .unset, .unset, .unset] [])) target := by
  have Z0 : n0 ≤ h0.size := O0.1 ▸ O0.2.1
  refine ⟨T0, _, X0, N0, e0, fun target kt => ?_⟩
  show Steps p.tables e below (T0.setTop (mkF m 67 #[.val (.int p1), .val (.int p2), .val (.int p3), .val (.int p4), .val (.int p5), .val (.int p6), .val (.int k6), .val (.int k7), .val (.int k8), .val (.int k9), .val (.int k10), .unset, .unset, .unset, .unset, .unset, .unset, .unset, .unset, .unset, .unset, .unset, .unset] [])) _
  refine XS.iloadN X0.here hx rfl (hb hby at_67) rfl ?_
  show Steps p.tables e below (T0.setTop (mkF m 68 #[.val (.int p1), .val (.int p2), .val (.int p3), .val (.int p4), .val (.int p5), .val (.int p6), .val (.int k6), .val (.int k7), .val (.int k8), .val (.int k9), .val (.int k10), .unset, .unset, .unset, .unset, .unset, .unset, .unset, .unset, .unset, .unset, .unset, .unset] [(.int p4)])) _
  refine XS.bipush X0.here hx rfl (hb hby at_68) ?_
  show Steps p.tables e below (T0.setTop (mkF m 70 #[.val (.int p1), .val (.int p2), .val (.int p3), .val (.int p4), .val (.int p5), .val (.int p6), .val (.int k6), .val (.int k7), .val (.int k8), .val (.int k9), .val (.int k10), .unset, .unset, .unset, .unset, .unset, .unset, .unset, .unset, .unset, .unset, .unset, .unset] [(.int (32 : Int32)), (.int p4)])) _
  refine XS.iand X0.here hx rfl (hb hby at_70) rfl ?_
  show Steps p.tables e below (T0.setTop (mkF m 71 #[.val (.int p1), .val (.int p2), .val (.int p3), .val (.int p4), .val (.int p5), .val (.int p6), .val (.int k6), .val (.int k7), .val (.int k8), .val (.int k9), .val (.int k10), .unset, .unset, .unset, .unset, .unset, .unset, .unset, .unset, .unset, .unset, .unset, .unset] [(.int (p4 &&& (32 : Int32)))])) _
  refine XS.ifYes X0.here hx rfl (pc0 := 71) (pc' := 78) rfl (hb hby at_71) rfl ((if0 _ _).trans (teq hc71).1) (by decide) (by decide) ?_
  show Steps p.tables e below (T0.setTop (mkF m 78 #[.val (.int p1), .val (.int p2), .val (.int p3), .val (.int p4), .val (.int p5), .val (.int p6), .val (.int k6), .val (.int k7), .val (.int k8), .val (.int k9), .val (.int k10), .unset, .unset, .unset, .unset, .unset, .unset, .unset, .unset, .unset, .unset, .unset, .unset] [])) _
  refine XS.iconst X0.here hx rfl (hb hby at_78) ?_
  show Steps p.tables e below (T0.setTop (mkF m 79 #[.val (.int p1), .val (.int p2), .val (.int p3), .val (.int p4), .val (.int p5), .val (.int p6), .val (.int k6), .val (.int k7), .val (.int k8), .val (.int k9), .val (.int k10), .unset, .unset, .unset, .unset, .unset, .unset, .unset, .unset, .unset, .unset, .unset, .unset] [(.int (0 : Int32))])) _
  refine XS.istore X0.here hx rfl (hb hby at_79) rfl (l' := #[.val (.int p1), .val (.int p2), .val (.int p3), .val (.int p4), .val (.int p5), .val (.int p6), .val (.int k6), .val (.int k7), .val (.int k8), .val (.int k9), .val (.int k10), .val (.int (0 : Int32)), .unset, .unset, .unset, .unset, .unset, .unset, .unset, .unset, .unset, .unset, .unset]) rfl ?_
  exact kt
set_option maxRecDepth 65536 in
set_option maxHeartbeats 40000000 in
theorem tn67f {p : Program} {l : Launch} {e : Env} {s : State} {m : MethodId} {args : Array Value} {below : List Frame} {meth : Method} {c : Code} {T0 : State} {locs : List Loc} {Z : State} {a0 : Array Value} (hw : ∀ d ∈ tables_1, d.before a0 Z = true) (p1 p2 p3 p4 p5 p6 k6 k7 k8 k9 k10 : Int32) (h0 : Heap) (n0 : Nat) (X0 : Stand p l e room_1 s m args below meth c T0 locs 0 0) (N0 : Fr n0 locs) (hx : p.tables.exec = Jvm.exec) (hZ : Z.Warmed39 s.vm) (hby : c.code = code) (hml : c.maxLocals = 23) (hown : s.vm.findClass "com/example/mirante/mirante/FieldDefHasRuleChecksPinLaw" = some m.cls) (e0 : T0.heap = h0) (O0 : Old Z n0 h0) (hc71 : ¬ ((p4 &&& (32 : Int32)) = (0 : Int32))) :
    ∃ (T' : State) (locs' : List Loc), Stand p l e room_1 s m args below meth c T' locs' 0 0 ∧ Fr n0 locs' ∧ T'.heap = h0 ∧
      ∀ target, Steps p.tables e below (T'.setTop (mkF m 81 #[.val (.int p1), .val (.int p2), .val (.int p3), .val (.int p4), .val (.int p5), .val (.int p6), .val (.int k6), .val (.int k7), .val (.int k8), .val (.int k9), .val (.int k10), .val (.int (1 : Int32)), .unset, .unset, .unset, .unset, .unset, .unset, .unset, .unset, .unset, .unset, .unset] [])) target → Steps p.tables e below (T0.setTop (mkF m 67 #[.val (.int p1), .val (.int p2), .val (.int p3), .val (.int p4), .val (.int p5), .val (.int p6), .val (.int k6), .val (.int k7), .val (.int k8), .val (.int k9), .val (.int k10), .unset, .unset, .unset, .unset, .unset, .unset, .unset, .unset, .unset, .unset, .unset, .unset] [])) target := by
  have Z0 : n0 ≤ h0.size := O0.1 ▸ O0.2.1
  refine ⟨T0, _, X0, N0, e0, fun target kt => ?_⟩
  show Steps p.tables e below (T0.setTop (mkF m 67 #[.val (.int p1), .val (.int p2), .val (.int p3), .val (.int p4), .val (.int p5), .val (.int p6), .val (.int k6), .val (.int k7), .val (.int k8), .val (.int k9), .val (.int k10), .unset, .unset, .unset, .unset, .unset, .unset, .unset, .unset, .unset, .unset, .unset, .unset] [])) _
  refine XS.iloadN X0.here hx rfl (hb hby at_67) rfl ?_
  show Steps p.tables e below (T0.setTop (mkF m 68 #[.val (.int p1), .val (.int p2), .val (.int p3), .val (.int p4), .val (.int p5), .val (.int p6), .val (.int k6), .val (.int k7), .val (.int k8), .val (.int k9), .val (.int k10), .unset, .unset, .unset, .unset, .unset, .unset, .unset, .unset, .unset, .unset, .unset, .unset] [(.int p4)])) _
  refine XS.bipush X0.here hx rfl (hb hby at_68) ?_
  show Steps p.tables e below (T0.setTop (mkF m 70 #[.val (.int p1), .val (.int p2), .val (.int p3), .val (.int p4), .val (.int p5), .val (.int p6), .val (.int k6), .val (.int k7), .val (.int k8), .val (.int k9), .val (.int k10), .unset, .unset, .unset, .unset, .unset, .unset, .unset, .unset, .unset, .unset, .unset, .unset] [(.int (32 : Int32)), (.int p4)])) _
  refine XS.iand X0.here hx rfl (hb hby at_70) rfl ?_
  show Steps p.tables e below (T0.setTop (mkF m 71 #[.val (.int p1), .val (.int p2), .val (.int p3), .val (.int p4), .val (.int p5), .val (.int p6), .val (.int k6), .val (.int k7), .val (.int k8), .val (.int k9), .val (.int k10), .unset, .unset, .unset, .unset, .unset, .unset, .unset, .unset, .unset, .unset, .unset, .unset] [(.int (p4 &&& (32 : Int32)))])) _
  refine XS.ifNo X0.here hx rfl (hb hby at_71) rfl ((if0 _ _).trans (feq hc71).1) ?_
  show Steps p.tables e below (T0.setTop (mkF m 74 #[.val (.int p1), .val (.int p2), .val (.int p3), .val (.int p4), .val (.int p5), .val (.int p6), .val (.int k6), .val (.int k7), .val (.int k8), .val (.int k9), .val (.int k10), .unset, .unset, .unset, .unset, .unset, .unset, .unset, .unset, .unset, .unset, .unset, .unset] [])) _
  refine XS.iconst X0.here hx rfl (hb hby at_74) ?_
  show Steps p.tables e below (T0.setTop (mkF m 75 #[.val (.int p1), .val (.int p2), .val (.int p3), .val (.int p4), .val (.int p5), .val (.int p6), .val (.int k6), .val (.int k7), .val (.int k8), .val (.int k9), .val (.int k10), .unset, .unset, .unset, .unset, .unset, .unset, .unset, .unset, .unset, .unset, .unset, .unset] [(.int (1 : Int32))])) _
  refine XS.goto X0.here hx rfl (pc0 := 75) (pc' := 79) rfl (hb hby at_75) (by decide) (by decide) ?_
  show Steps p.tables e below (T0.setTop (mkF m 79 #[.val (.int p1), .val (.int p2), .val (.int p3), .val (.int p4), .val (.int p5), .val (.int p6), .val (.int k6), .val (.int k7), .val (.int k8), .val (.int k9), .val (.int k10), .unset, .unset, .unset, .unset, .unset, .unset, .unset, .unset, .unset, .unset, .unset, .unset] [(.int (1 : Int32))])) _
  refine XS.istore X0.here hx rfl (hb hby at_79) rfl (l' := #[.val (.int p1), .val (.int p2), .val (.int p3), .val (.int p4), .val (.int p5), .val (.int p6), .val (.int k6), .val (.int k7), .val (.int k8), .val (.int k9), .val (.int k10), .val (.int (1 : Int32)), .unset, .unset, .unset, .unset, .unset, .unset, .unset, .unset, .unset, .unset, .unset]) rfl ?_
  exact kt
set_option maxRecDepth 65536 in
set_option maxHeartbeats 40000000 in
theorem tn67 {p : Program} {l : Launch} {e : Env} {s : State} {m : MethodId} {args : Array Value} {below : List Frame} {meth : Method} {c : Code} {T0 : State} {locs : List Loc} {Z : State} {a0 : Array Value} (hw : ∀ d ∈ tables_1, d.before a0 Z = true) (p1 p2 p3 p4 p5 p6 k6 k7 k8 k9 k10 k11 : Int32) (h0 : Heap) (n0 : Nat) (X0 : Stand p l e room_1 s m args below meth c T0 locs 0 0) (N0 : Fr n0 locs) (hx : p.tables.exec = Jvm.exec) (hZ : Z.Warmed39 s.vm) (hby : c.code = code) (hml : c.maxLocals = 23) (hown : s.vm.findClass "com/example/mirante/mirante/FieldDefHasRuleChecksPinLaw" = some m.cls) (e0 : T0.heap = h0) (O0 : Old Z n0 h0) (hk11 : k11 = if (p4 &&& (32 : Int32)) = (0 : Int32) then (0 : Int32) else (1 : Int32)) :
    ∃ (T' : State) (locs' : List Loc), Stand p l e room_1 s m args below meth c T' locs' 0 0 ∧ Fr n0 locs' ∧ T'.heap = h0 ∧
      ∀ target, Steps p.tables e below (T'.setTop (mkF m 81 #[.val (.int p1), .val (.int p2), .val (.int p3), .val (.int p4), .val (.int p5), .val (.int p6), .val (.int k6), .val (.int k7), .val (.int k8), .val (.int k9), .val (.int k10), .val (.int k11), .unset, .unset, .unset, .unset, .unset, .unset, .unset, .unset, .unset, .unset, .unset] [])) target → Steps p.tables e below (T0.setTop (mkF m 67 #[.val (.int p1), .val (.int p2), .val (.int p3), .val (.int p4), .val (.int p5), .val (.int p6), .val (.int k6), .val (.int k7), .val (.int k8), .val (.int k9), .val (.int k10), .unset, .unset, .unset, .unset, .unset, .unset, .unset, .unset, .unset, .unset, .unset, .unset] [])) target := by
  by_cases c1 : (p4 &&& (32 : Int32)) = (0 : Int32)
  · rw [if_pos c1] at hk11; subst hk11; exact tn67t hw p1 p2 p3 p4 p5 p6 k6 k7 k8 k9 k10 h0 n0 X0 N0 hx hZ hby hml hown e0 O0 c1
  · rw [if_neg c1] at hk11; subst hk11; exact tn67f hw p1 p2 p3 p4 p5 p6 k6 k7 k8 k9 k10 h0 n0 X0 N0 hx hZ hby hml hown e0 O0 c1
set_option maxRecDepth 65536 in
set_option maxHeartbeats 40000000 in
theorem tn81f {p : Program} {l : Launch} {e : Env} {s : State} {m : MethodId} {args : Array Value} {below : List Frame} {meth : Method} {c : Code} {T0 : State} {locs : List Loc} {Z : State} {a0 : Array Value} (hw : ∀ d ∈ tables_1, d.before a0 Z = true) (p1 p2 p3 p4 p5 p6 k6 k7 k8 k9 k10 k11 : Int32) (wR wO wC : Addr) (h0 : Heap) (n0 : Nat) (X0 : Stand p l e room_1 s m args below meth c T0 locs 0 0) (N0 : Fr n0 locs) (hx : p.tables.exec = Jvm.exec) (hZ : Z.Warmed39 s.vm) (hby : c.code = code) (hml : c.maxLocals = 23) (hown : s.vm.findClass "com/example/mirante/mirante/FieldDefHasRuleChecksPinLaw" = some m.cls) (e0 : T0.heap = h0) (O0 : Old Z n0 h0) (hc91 : (((p4.toUInt32 >>> ((8 : Int32) &&& 31).toUInt32).toInt32) % (3 : Int32)) = (0 : Int32)) (S_REQUIRED : Sta Z Z.heap "com/example/mirante/mirante/FieldDef$Presence" "REQUIRED" "Lcom/example/mirante/mirante/FieldDef$Presence;" (.ref wR)) :
    ∃ (T' : State) (locs' : List Loc), Stand p l e room_1 s m args below meth c T' locs' 0 0 ∧ Fr n0 locs' ∧ T'.heap = h0 ∧
      ∀ target, Steps p.tables e below (T'.setTop (mkF m 117 #[.val (.int p1), .val (.int p2), .val (.int p3), .val (.int p4), .val (.int p5), .val (.int p6), .val (.int k6), .val (.int k7), .val (.int k8), .val (.int k9), .val (.int k10), .val (.int k11), .val (.int (((p4.toUInt32 >>> ((8 : Int32) &&& 31).toUInt32).toInt32) % (3 : Int32))), .val (.ref wR), .unset, .unset, .unset, .unset, .unset, .unset, .unset, .unset, .unset] [])) target → Steps p.tables e below (T0.setTop (mkF m 81 #[.val (.int p1), .val (.int p2), .val (.int p3), .val (.int p4), .val (.int p5), .val (.int p6), .val (.int k6), .val (.int k7), .val (.int k8), .val (.int k9), .val (.int k10), .val (.int k11), .unset, .unset, .unset, .unset, .unset, .unset, .unset, .unset, .unset, .unset, .unset] [])) target := by
  have Z0 : n0 ≤ h0.size := O0.1 ▸ O0.2.1
  obtain ⟨T1, X1, e1, st1⟩ := getS2 X0 hx hZ hown (host := "") (Or.inl (hw _ (List.mem_of_getElem? (i := 0) rfl))) Via.refl e0 (S_REQUIRED.ext O0.2) (g := (mkF m 94 #[.val (.int p1), .val (.int p2), .val (.int p3), .val (.int p4), .val (.int p5), .val (.int p6), .val (.int k6), .val (.int k7), .val (.int k8), .val (.int k9), .val (.int k10), .val (.int k11), .val (.int (((p4.toUInt32 >>> ((8 : Int32) &&& 31).toUInt32).toInt32) % (3 : Int32))), .unset, .unset, .unset, .unset, .unset, .unset, .unset, .unset, .unset, .unset] [])) rfl (hb hby at_94)
  refine ⟨T1, _, X1, N0, e1, fun target kt => ?_⟩
  show Steps p.tables e below (T0.setTop (mkF m 81 #[.val (.int p1), .val (.int p2), .val (.int p3), .val (.int p4), .val (.int p5), .val (.int p6), .val (.int k6), .val (.int k7), .val (.int k8), .val (.int k9), .val (.int k10), .val (.int k11), .unset, .unset, .unset, .unset, .unset, .unset, .unset, .unset, .unset, .unset, .unset] [])) _
  refine XS.iloadN X0.here hx rfl (hb hby at_81) rfl ?_
  show Steps p.tables e below (T0.setTop (mkF m 82 #[.val (.int p1), .val (.int p2), .val (.int p3), .val (.int p4), .val (.int p5), .val (.int p6), .val (.int k6), .val (.int k7), .val (.int k8), .val (.int k9), .val (.int k10), .val (.int k11), .unset, .unset, .unset, .unset, .unset, .unset, .unset, .unset, .unset, .unset, .unset] [(.int p4)])) _
  refine XS.bipush X0.here hx rfl (hb hby at_82) ?_
  show Steps p.tables e below (T0.setTop (mkF m 84 #[.val (.int p1), .val (.int p2), .val (.int p3), .val (.int p4), .val (.int p5), .val (.int p6), .val (.int k6), .val (.int k7), .val (.int k8), .val (.int k9), .val (.int k10), .val (.int k11), .unset, .unset, .unset, .unset, .unset, .unset, .unset, .unset, .unset, .unset, .unset] [(.int (8 : Int32)), (.int p4)])) _
  refine XS.iushr X0.here hx rfl (hb hby at_84) rfl ?_
  show Steps p.tables e below (T0.setTop (mkF m 85 #[.val (.int p1), .val (.int p2), .val (.int p3), .val (.int p4), .val (.int p5), .val (.int p6), .val (.int k6), .val (.int k7), .val (.int k8), .val (.int k9), .val (.int k10), .val (.int k11), .unset, .unset, .unset, .unset, .unset, .unset, .unset, .unset, .unset, .unset, .unset] [(.int ((p4.toUInt32 >>> ((8 : Int32) &&& 31).toUInt32).toInt32))])) _
  refine XS.iconst X0.here hx rfl (hb hby at_85) ?_
  show Steps p.tables e below (T0.setTop (mkF m 86 #[.val (.int p1), .val (.int p2), .val (.int p3), .val (.int p4), .val (.int p5), .val (.int p6), .val (.int k6), .val (.int k7), .val (.int k8), .val (.int k9), .val (.int k10), .val (.int k11), .unset, .unset, .unset, .unset, .unset, .unset, .unset, .unset, .unset, .unset, .unset] [(.int (3 : Int32)), (.int ((p4.toUInt32 >>> ((8 : Int32) &&& 31).toUInt32).toInt32))])) _
  refine iremM X0 hx rfl (hb hby at_86) rfl (by decide : ¬ ((3 : Int32) = (0 : Int32))) ?_
  show Steps p.tables e below (T0.setTop (mkF m 87 #[.val (.int p1), .val (.int p2), .val (.int p3), .val (.int p4), .val (.int p5), .val (.int p6), .val (.int k6), .val (.int k7), .val (.int k8), .val (.int k9), .val (.int k10), .val (.int k11), .unset, .unset, .unset, .unset, .unset, .unset, .unset, .unset, .unset, .unset, .unset] [(.int (((p4.toUInt32 >>> ((8 : Int32) &&& 31).toUInt32).toInt32) % (3 : Int32)))])) _
  refine XS.istore X0.here hx rfl (hb hby at_87) rfl (l' := #[.val (.int p1), .val (.int p2), .val (.int p3), .val (.int p4), .val (.int p5), .val (.int p6), .val (.int k6), .val (.int k7), .val (.int k8), .val (.int k9), .val (.int k10), .val (.int k11), .val (.int (((p4.toUInt32 >>> ((8 : Int32) &&& 31).toUInt32).toInt32) % (3 : Int32))), .unset, .unset, .unset, .unset, .unset, .unset, .unset, .unset, .unset, .unset]) rfl ?_
  show Steps p.tables e below (T0.setTop (mkF m 89 #[.val (.int p1), .val (.int p2), .val (.int p3), .val (.int p4), .val (.int p5), .val (.int p6), .val (.int k6), .val (.int k7), .val (.int k8), .val (.int k9), .val (.int k10), .val (.int k11), .val (.int (((p4.toUInt32 >>> ((8 : Int32) &&& 31).toUInt32).toInt32) % (3 : Int32))), .unset, .unset, .unset, .unset, .unset, .unset, .unset, .unset, .unset, .unset] [])) _
  refine XS.iload X0.here hx rfl (hb hby at_89) rfl ?_
  show Steps p.tables e below (T0.setTop (mkF m 91 #[.val (.int p1), .val (.int p2), .val (.int p3), .val (.int p4), .val (.int p5), .val (.int p6), .val (.int k6), .val (.int k7), .val (.int k8), .val (.int k9), .val (.int k10), .val (.int k11), .val (.int (((p4.toUInt32 >>> ((8 : Int32) &&& 31).toUInt32).toInt32) % (3 : Int32))), .unset, .unset, .unset, .unset, .unset, .unset, .unset, .unset, .unset, .unset] [(.int (((p4.toUInt32 >>> ((8 : Int32) &&& 31).toUInt32).toInt32) % (3 : Int32)))])) _
  refine XS.ifNo X0.here hx rfl (hb hby at_91) rfl ((if0 _ _).trans (teq hc91).2) ?_
  show Steps p.tables e below (T0.setTop (mkF m 94 #[.val (.int p1), .val (.int p2), .val (.int p3), .val (.int p4), .val (.int p5), .val (.int p6), .val (.int k6), .val (.int k7), .val (.int k8), .val (.int k9), .val (.int k10), .val (.int k11), .val (.int (((p4.toUInt32 >>> ((8 : Int32) &&& 31).toUInt32).toInt32) % (3 : Int32))), .unset, .unset, .unset, .unset, .unset, .unset, .unset, .unset, .unset, .unset] [])) _
  refine st1 _ ?_
  show Steps p.tables e below (T1.setTop (mkF m 97 #[.val (.int p1), .val (.int p2), .val (.int p3), .val (.int p4), .val (.int p5), .val (.int p6), .val (.int k6), .val (.int k7), .val (.int k8), .val (.int k9), .val (.int k10), .val (.int k11), .val (.int (((p4.toUInt32 >>> ((8 : Int32) &&& 31).toUInt32).toInt32) % (3 : Int32))), .unset, .unset, .unset, .unset, .unset, .unset, .unset, .unset, .unset, .unset] [(.ref wR)])) _
  refine XS.goto X1.here hx rfl (pc0 := 97) (pc' := 115) rfl (hb hby at_97) (by decide) (by decide) ?_
  show Steps p.tables e below (T1.setTop (mkF m 115 #[.val (.int p1), .val (.int p2), .val (.int p3), .val (.int p4), .val (.int p5), .val (.int p6), .val (.int k6), .val (.int k7), .val (.int k8), .val (.int k9), .val (.int k10), .val (.int k11), .val (.int (((p4.toUInt32 >>> ((8 : Int32) &&& 31).toUInt32).toInt32) % (3 : Int32))), .unset, .unset, .unset, .unset, .unset, .unset, .unset, .unset, .unset, .unset] [(.ref wR)])) _
  refine XS.astore X1.here hx rfl (hb hby at_115) rfl rfl (l' := #[.val (.int p1), .val (.int p2), .val (.int p3), .val (.int p4), .val (.int p5), .val (.int p6), .val (.int k6), .val (.int k7), .val (.int k8), .val (.int k9), .val (.int k10), .val (.int k11), .val (.int (((p4.toUInt32 >>> ((8 : Int32) &&& 31).toUInt32).toInt32) % (3 : Int32))), .val (.ref wR), .unset, .unset, .unset, .unset, .unset, .unset, .unset, .unset, .unset]) rfl ?_
  exact kt
set_option maxRecDepth 65536 in
set_option maxHeartbeats 40000000 in
theorem tn81tf {p : Program} {l : Launch} {e : Env} {s : State} {m : MethodId} {args : Array Value} {below : List Frame} {meth : Method} {c : Code} {T0 : State} {locs : List Loc} {Z : State} {a0 : Array Value} (hw : ∀ d ∈ tables_1, d.before a0 Z = true) (p1 p2 p3 p4 p5 p6 k6 k7 k8 k9 k10 k11 : Int32) (wR wO wC : Addr) (h0 : Heap) (n0 : Nat) (X0 : Stand p l e room_1 s m args below meth c T0 locs 0 0) (N0 : Fr n0 locs) (hx : p.tables.exec = Jvm.exec) (hZ : Z.Warmed39 s.vm) (hby : c.code = code) (hml : c.maxLocals = 23) (hown : s.vm.findClass "com/example/mirante/mirante/FieldDefHasRuleChecksPinLaw" = some m.cls) (e0 : T0.heap = h0) (O0 : Old Z n0 h0) (hc91 : ¬ ((((p4.toUInt32 >>> ((8 : Int32) &&& 31).toUInt32).toInt32) % (3 : Int32)) = (0 : Int32))) (hc103 : (((p4.toUInt32 >>> ((8 : Int32) &&& 31).toUInt32).toInt32) % (3 : Int32)) = (1 : Int32)) (S_OPTIONAL : Sta Z Z.heap "com/example/mirante/mirante/FieldDef$Presence" "OPTIONAL" "Lcom/example/mirante/mirante/FieldDef$Presence;" (.ref wO)) :
    ∃ (T' : State) (locs' : List Loc), Stand p l e room_1 s m args below meth c T' locs' 0 0 ∧ Fr n0 locs' ∧ T'.heap = h0 ∧
      ∀ target, Steps p.tables e below (T'.setTop (mkF m 117 #[.val (.int p1), .val (.int p2), .val (.int p3), .val (.int p4), .val (.int p5), .val (.int p6), .val (.int k6), .val (.int k7), .val (.int k8), .val (.int k9), .val (.int k10), .val (.int k11), .val (.int (((p4.toUInt32 >>> ((8 : Int32) &&& 31).toUInt32).toInt32) % (3 : Int32))), .val (.ref wO), .unset, .unset, .unset, .unset, .unset, .unset, .unset, .unset, .unset] [])) target → Steps p.tables e below (T0.setTop (mkF m 81 #[.val (.int p1), .val (.int p2), .val (.int p3), .val (.int p4), .val (.int p5), .val (.int p6), .val (.int k6), .val (.int k7), .val (.int k8), .val (.int k9), .val (.int k10), .val (.int k11), .unset, .unset, .unset, .unset, .unset, .unset, .unset, .unset, .unset, .unset, .unset] [])) target := by
  have Z0 : n0 ≤ h0.size := O0.1 ▸ O0.2.1
  obtain ⟨T1, X1, e1, st1⟩ := getS2 X0 hx hZ hown (host := "") (Or.inl (hw _ (List.mem_of_getElem? (i := 165) rfl))) Via.refl e0 (S_OPTIONAL.ext O0.2) (g := (mkF m 106 #[.val (.int p1), .val (.int p2), .val (.int p3), .val (.int p4), .val (.int p5), .val (.int p6), .val (.int k6), .val (.int k7), .val (.int k8), .val (.int k9), .val (.int k10), .val (.int k11), .val (.int (((p4.toUInt32 >>> ((8 : Int32) &&& 31).toUInt32).toInt32) % (3 : Int32))), .unset, .unset, .unset, .unset, .unset, .unset, .unset, .unset, .unset, .unset] [])) rfl (hb hby at_106)
  refine ⟨T1, _, X1, N0, e1, fun target kt => ?_⟩
  show Steps p.tables e below (T0.setTop (mkF m 81 #[.val (.int p1), .val (.int p2), .val (.int p3), .val (.int p4), .val (.int p5), .val (.int p6), .val (.int k6), .val (.int k7), .val (.int k8), .val (.int k9), .val (.int k10), .val (.int k11), .unset, .unset, .unset, .unset, .unset, .unset, .unset, .unset, .unset, .unset, .unset] [])) _
  refine XS.iloadN X0.here hx rfl (hb hby at_81) rfl ?_
  show Steps p.tables e below (T0.setTop (mkF m 82 #[.val (.int p1), .val (.int p2), .val (.int p3), .val (.int p4), .val (.int p5), .val (.int p6), .val (.int k6), .val (.int k7), .val (.int k8), .val (.int k9), .val (.int k10), .val (.int k11), .unset, .unset, .unset, .unset, .unset, .unset, .unset, .unset, .unset, .unset, .unset] [(.int p4)])) _
  refine XS.bipush X0.here hx rfl (hb hby at_82) ?_
  show Steps p.tables e below (T0.setTop (mkF m 84 #[.val (.int p1), .val (.int p2), .val (.int p3), .val (.int p4), .val (.int p5), .val (.int p6), .val (.int k6), .val (.int k7), .val (.int k8), .val (.int k9), .val (.int k10), .val (.int k11), .unset, .unset, .unset, .unset, .unset, .unset, .unset, .unset, .unset, .unset, .unset] [(.int (8 : Int32)), (.int p4)])) _
  refine XS.iushr X0.here hx rfl (hb hby at_84) rfl ?_
  show Steps p.tables e below (T0.setTop (mkF m 85 #[.val (.int p1), .val (.int p2), .val (.int p3), .val (.int p4), .val (.int p5), .val (.int p6), .val (.int k6), .val (.int k7), .val (.int k8), .val (.int k9), .val (.int k10), .val (.int k11), .unset, .unset, .unset, .unset, .unset, .unset, .unset, .unset, .unset, .unset, .unset] [(.int ((p4.toUInt32 >>> ((8 : Int32) &&& 31).toUInt32).toInt32))])) _
  refine XS.iconst X0.here hx rfl (hb hby at_85) ?_
  show Steps p.tables e below (T0.setTop (mkF m 86 #[.val (.int p1), .val (.int p2), .val (.int p3), .val (.int p4), .val (.int p5), .val (.int p6), .val (.int k6), .val (.int k7), .val (.int k8), .val (.int k9), .val (.int k10), .val (.int k11), .unset, .unset, .unset, .unset, .unset, .unset, .unset, .unset, .unset, .unset, .unset] [(.int (3 : Int32)), (.int ((p4.toUInt32 >>> ((8 : Int32) &&& 31).toUInt32).toInt32))])) _
  refine iremM X0 hx rfl (hb hby at_86) rfl (by decide : ¬ ((3 : Int32) = (0 : Int32))) ?_
  show Steps p.tables e below (T0.setTop (mkF m 87 #[.val (.int p1), .val (.int p2), .val (.int p3), .val (.int p4), .val (.int p5), .val (.int p6), .val (.int k6), .val (.int k7), .val (.int k8), .val (.int k9), .val (.int k10), .val (.int k11), .unset, .unset, .unset, .unset, .unset, .unset, .unset, .unset, .unset, .unset, .unset] [(.int (((p4.toUInt32 >>> ((8 : Int32) &&& 31).toUInt32).toInt32) % (3 : Int32)))])) _
  refine XS.istore X0.here hx rfl (hb hby at_87) rfl (l' := #[.val (.int p1), .val (.int p2), .val (.int p3), .val (.int p4), .val (.int p5), .val (.int p6), .val (.int k6), .val (.int k7), .val (.int k8), .val (.int k9), .val (.int k10), .val (.int k11), .val (.int (((p4.toUInt32 >>> ((8 : Int32) &&& 31).toUInt32).toInt32) % (3 : Int32))), .unset, .unset, .unset, .unset, .unset, .unset, .unset, .unset, .unset, .unset]) rfl ?_
  show Steps p.tables e below (T0.setTop (mkF m 89 #[.val (.int p1), .val (.int p2), .val (.int p3), .val (.int p4), .val (.int p5), .val (.int p6), .val (.int k6), .val (.int k7), .val (.int k8), .val (.int k9), .val (.int k10), .val (.int k11), .val (.int (((p4.toUInt32 >>> ((8 : Int32) &&& 31).toUInt32).toInt32) % (3 : Int32))), .unset, .unset, .unset, .unset, .unset, .unset, .unset, .unset, .unset, .unset] [])) _
  refine XS.iload X0.here hx rfl (hb hby at_89) rfl ?_
  show Steps p.tables e below (T0.setTop (mkF m 91 #[.val (.int p1), .val (.int p2), .val (.int p3), .val (.int p4), .val (.int p5), .val (.int p6), .val (.int k6), .val (.int k7), .val (.int k8), .val (.int k9), .val (.int k10), .val (.int k11), .val (.int (((p4.toUInt32 >>> ((8 : Int32) &&& 31).toUInt32).toInt32) % (3 : Int32))), .unset, .unset, .unset, .unset, .unset, .unset, .unset, .unset, .unset, .unset] [(.int (((p4.toUInt32 >>> ((8 : Int32) &&& 31).toUInt32).toInt32) % (3 : Int32)))])) _
  refine XS.ifYes X0.here hx rfl (pc0 := 91) (pc' := 100) rfl (hb hby at_91) rfl ((if0 _ _).trans (feq hc91).2) (by decide) (by decide) ?_
  show Steps p.tables e below (T0.setTop (mkF m 100 #[.val (.int p1), .val (.int p2), .val (.int p3), .val (.int p4), .val (.int p5), .val (.int p6), .val (.int k6), .val (.int k7), .val (.int k8), .val (.int k9), .val (.int k10), .val (.int k11), .val (.int (((p4.toUInt32 >>> ((8 : Int32) &&& 31).toUInt32).toInt32) % (3 : Int32))), .unset, .unset, .unset, .unset, .unset, .unset, .unset, .unset, .unset, .unset] [])) _
  refine XS.iload X0.here hx rfl (hb hby at_100) rfl ?_
  show Steps p.tables e below (T0.setTop (mkF m 102 #[.val (.int p1), .val (.int p2), .val (.int p3), .val (.int p4), .val (.int p5), .val (.int p6), .val (.int k6), .val (.int k7), .val (.int k8), .val (.int k9), .val (.int k10), .val (.int k11), .val (.int (((p4.toUInt32 >>> ((8 : Int32) &&& 31).toUInt32).toInt32) % (3 : Int32))), .unset, .unset, .unset, .unset, .unset, .unset, .unset, .unset, .unset, .unset] [(.int (((p4.toUInt32 >>> ((8 : Int32) &&& 31).toUInt32).toInt32) % (3 : Int32)))])) _
  refine XS.iconst X0.here hx rfl (hb hby at_102) ?_
  show Steps p.tables e below (T0.setTop (mkF m 103 #[.val (.int p1), .val (.int p2), .val (.int p3), .val (.int p4), .val (.int p5), .val (.int p6), .val (.int k6), .val (.int k7), .val (.int k8), .val (.int k9), .val (.int k10), .val (.int k11), .val (.int (((p4.toUInt32 >>> ((8 : Int32) &&& 31).toUInt32).toInt32) % (3 : Int32))), .unset, .unset, .unset, .unset, .unset, .unset, .unset, .unset, .unset, .unset] [(.int (1 : Int32)), (.int (((p4.toUInt32 >>> ((8 : Int32) &&& 31).toUInt32).toInt32) % (3 : Int32)))])) _
  refine XS.icmpNo X0.here hx rfl (hb hby at_103) rfl (teq hc103).2 ?_
  show Steps p.tables e below (T0.setTop (mkF m 106 #[.val (.int p1), .val (.int p2), .val (.int p3), .val (.int p4), .val (.int p5), .val (.int p6), .val (.int k6), .val (.int k7), .val (.int k8), .val (.int k9), .val (.int k10), .val (.int k11), .val (.int (((p4.toUInt32 >>> ((8 : Int32) &&& 31).toUInt32).toInt32) % (3 : Int32))), .unset, .unset, .unset, .unset, .unset, .unset, .unset, .unset, .unset, .unset] [])) _
  refine st1 _ ?_
  show Steps p.tables e below (T1.setTop (mkF m 109 #[.val (.int p1), .val (.int p2), .val (.int p3), .val (.int p4), .val (.int p5), .val (.int p6), .val (.int k6), .val (.int k7), .val (.int k8), .val (.int k9), .val (.int k10), .val (.int k11), .val (.int (((p4.toUInt32 >>> ((8 : Int32) &&& 31).toUInt32).toInt32) % (3 : Int32))), .unset, .unset, .unset, .unset, .unset, .unset, .unset, .unset, .unset, .unset] [(.ref wO)])) _
  refine XS.goto X1.here hx rfl (pc0 := 109) (pc' := 115) rfl (hb hby at_109) (by decide) (by decide) ?_
  show Steps p.tables e below (T1.setTop (mkF m 115 #[.val (.int p1), .val (.int p2), .val (.int p3), .val (.int p4), .val (.int p5), .val (.int p6), .val (.int k6), .val (.int k7), .val (.int k8), .val (.int k9), .val (.int k10), .val (.int k11), .val (.int (((p4.toUInt32 >>> ((8 : Int32) &&& 31).toUInt32).toInt32) % (3 : Int32))), .unset, .unset, .unset, .unset, .unset, .unset, .unset, .unset, .unset, .unset] [(.ref wO)])) _
  refine XS.astore X1.here hx rfl (hb hby at_115) rfl rfl (l' := #[.val (.int p1), .val (.int p2), .val (.int p3), .val (.int p4), .val (.int p5), .val (.int p6), .val (.int k6), .val (.int k7), .val (.int k8), .val (.int k9), .val (.int k10), .val (.int k11), .val (.int (((p4.toUInt32 >>> ((8 : Int32) &&& 31).toUInt32).toInt32) % (3 : Int32))), .val (.ref wO), .unset, .unset, .unset, .unset, .unset, .unset, .unset, .unset, .unset]) rfl ?_
  exact kt
set_option maxRecDepth 65536 in
set_option maxHeartbeats 40000000 in
theorem tn81tt {p : Program} {l : Launch} {e : Env} {s : State} {m : MethodId} {args : Array Value} {below : List Frame} {meth : Method} {c : Code} {T0 : State} {locs : List Loc} {Z : State} {a0 : Array Value} (hw : ∀ d ∈ tables_1, d.before a0 Z = true) (p1 p2 p3 p4 p5 p6 k6 k7 k8 k9 k10 k11 : Int32) (wR wO wC : Addr) (h0 : Heap) (n0 : Nat) (X0 : Stand p l e room_1 s m args below meth c T0 locs 0 0) (N0 : Fr n0 locs) (hx : p.tables.exec = Jvm.exec) (hZ : Z.Warmed39 s.vm) (hby : c.code = code) (hml : c.maxLocals = 23) (hown : s.vm.findClass "com/example/mirante/mirante/FieldDefHasRuleChecksPinLaw" = some m.cls) (e0 : T0.heap = h0) (O0 : Old Z n0 h0) (hc91 : ¬ ((((p4.toUInt32 >>> ((8 : Int32) &&& 31).toUInt32).toInt32) % (3 : Int32)) = (0 : Int32))) (hc103 : ¬ ((((p4.toUInt32 >>> ((8 : Int32) &&& 31).toUInt32).toInt32) % (3 : Int32)) = (1 : Int32))) (S_CONDITIONAL : Sta Z Z.heap "com/example/mirante/mirante/FieldDef$Presence" "CONDITIONAL" "Lcom/example/mirante/mirante/FieldDef$Presence;" (.ref wC)) :
    ∃ (T' : State) (locs' : List Loc), Stand p l e room_1 s m args below meth c T' locs' 0 0 ∧ Fr n0 locs' ∧ T'.heap = h0 ∧
      ∀ target, Steps p.tables e below (T'.setTop (mkF m 117 #[.val (.int p1), .val (.int p2), .val (.int p3), .val (.int p4), .val (.int p5), .val (.int p6), .val (.int k6), .val (.int k7), .val (.int k8), .val (.int k9), .val (.int k10), .val (.int k11), .val (.int (((p4.toUInt32 >>> ((8 : Int32) &&& 31).toUInt32).toInt32) % (3 : Int32))), .val (.ref wC), .unset, .unset, .unset, .unset, .unset, .unset, .unset, .unset, .unset] [])) target → Steps p.tables e below (T0.setTop (mkF m 81 #[.val (.int p1), .val (.int p2), .val (.int p3), .val (.int p4), .val (.int p5), .val (.int p6), .val (.int k6), .val (.int k7), .val (.int k8), .val (.int k9), .val (.int k10), .val (.int k11), .unset, .unset, .unset, .unset, .unset, .unset, .unset, .unset, .unset, .unset, .unset] [])) target := by
  have Z0 : n0 ≤ h0.size := O0.1 ▸ O0.2.1
  obtain ⟨T1, X1, e1, st1⟩ := getS2 X0 hx hZ hown (host := "") (Or.inl (hw _ (List.mem_of_getElem? (i := 183) rfl))) Via.refl e0 (S_CONDITIONAL.ext O0.2) (g := (mkF m 112 #[.val (.int p1), .val (.int p2), .val (.int p3), .val (.int p4), .val (.int p5), .val (.int p6), .val (.int k6), .val (.int k7), .val (.int k8), .val (.int k9), .val (.int k10), .val (.int k11), .val (.int (((p4.toUInt32 >>> ((8 : Int32) &&& 31).toUInt32).toInt32) % (3 : Int32))), .unset, .unset, .unset, .unset, .unset, .unset, .unset, .unset, .unset, .unset] [])) rfl (hb hby at_112)
  refine ⟨T1, _, X1, N0, e1, fun target kt => ?_⟩
  show Steps p.tables e below (T0.setTop (mkF m 81 #[.val (.int p1), .val (.int p2), .val (.int p3), .val (.int p4), .val (.int p5), .val (.int p6), .val (.int k6), .val (.int k7), .val (.int k8), .val (.int k9), .val (.int k10), .val (.int k11), .unset, .unset, .unset, .unset, .unset, .unset, .unset, .unset, .unset, .unset, .unset] [])) _
  refine XS.iloadN X0.here hx rfl (hb hby at_81) rfl ?_
  show Steps p.tables e below (T0.setTop (mkF m 82 #[.val (.int p1), .val (.int p2), .val (.int p3), .val (.int p4), .val (.int p5), .val (.int p6), .val (.int k6), .val (.int k7), .val (.int k8), .val (.int k9), .val (.int k10), .val (.int k11), .unset, .unset, .unset, .unset, .unset, .unset, .unset, .unset, .unset, .unset, .unset] [(.int p4)])) _
  refine XS.bipush X0.here hx rfl (hb hby at_82) ?_
  show Steps p.tables e below (T0.setTop (mkF m 84 #[.val (.int p1), .val (.int p2), .val (.int p3), .val (.int p4), .val (.int p5), .val (.int p6), .val (.int k6), .val (.int k7), .val (.int k8), .val (.int k9), .val (.int k10), .val (.int k11), .unset, .unset, .unset, .unset, .unset, .unset, .unset, .unset, .unset, .unset, .unset] [(.int (8 : Int32)), (.int p4)])) _
  refine XS.iushr X0.here hx rfl (hb hby at_84) rfl ?_
  show Steps p.tables e below (T0.setTop (mkF m 85 #[.val (.int p1), .val (.int p2), .val (.int p3), .val (.int p4), .val (.int p5), .val (.int p6), .val (.int k6), .val (.int k7), .val (.int k8), .val (.int k9), .val (.int k10), .val (.int k11), .unset, .unset, .unset, .unset, .unset, .unset, .unset, .unset, .unset, .unset, .unset] [(.int ((p4.toUInt32 >>> ((8 : Int32) &&& 31).toUInt32).toInt32))])) _
  refine XS.iconst X0.here hx rfl (hb hby at_85) ?_
  show Steps p.tables e below (T0.setTop (mkF m 86 #[.val (.int p1), .val (.int p2), .val (.int p3), .val (.int p4), .val (.int p5), .val (.int p6), .val (.int k6), .val (.int k7), .val (.int k8), .val (.int k9), .val (.int k10), .val (.int k11), .unset, .unset, .unset, .unset, .unset, .unset, .unset, .unset, .unset, .unset, .unset] [(.int (3 : Int32)), (.int ((p4.toUInt32 >>> ((8 : Int32) &&& 31).toUInt32).toInt32))])) _
  refine iremM X0 hx rfl (hb hby at_86) rfl (by decide : ¬ ((3 : Int32) = (0 : Int32))) ?_
  show Steps p.tables e below (T0.setTop (mkF m 87 #[.val (.int p1), .val (.int p2), .val (.int p3), .val (.int p4), .val (.int p5), .val (.int p6), .val (.int k6), .val (.int k7), .val (.int k8), .val (.int k9), .val (.int k10), .val (.int k11), .unset, .unset, .unset, .unset, .unset, .unset, .unset, .unset, .unset, .unset, .unset] [(.int (((p4.toUInt32 >>> ((8 : Int32) &&& 31).toUInt32).toInt32) % (3 : Int32)))])) _
  refine XS.istore X0.here hx rfl (hb hby at_87) rfl (l' := #[.val (.int p1), .val (.int p2), .val (.int p3), .val (.int p4), .val (.int p5), .val (.int p6), .val (.int k6), .val (.int k7), .val (.int k8), .val (.int k9), .val (.int k10), .val (.int k11), .val (.int (((p4.toUInt32 >>> ((8 : Int32) &&& 31).toUInt32).toInt32) % (3 : Int32))), .unset, .unset, .unset, .unset, .unset, .unset, .unset, .unset, .unset, .unset]) rfl ?_
  show Steps p.tables e below (T0.setTop (mkF m 89 #[.val (.int p1), .val (.int p2), .val (.int p3), .val (.int p4), .val (.int p5), .val (.int p6), .val (.int k6), .val (.int k7), .val (.int k8), .val (.int k9), .val (.int k10), .val (.int k11), .val (.int (((p4.toUInt32 >>> ((8 : Int32) &&& 31).toUInt32).toInt32) % (3 : Int32))), .unset, .unset, .unset, .unset, .unset, .unset, .unset, .unset, .unset, .unset] [])) _
  refine XS.iload X0.here hx rfl (hb hby at_89) rfl ?_
  show Steps p.tables e below (T0.setTop (mkF m 91 #[.val (.int p1), .val (.int p2), .val (.int p3), .val (.int p4), .val (.int p5), .val (.int p6), .val (.int k6), .val (.int k7), .val (.int k8), .val (.int k9), .val (.int k10), .val (.int k11), .val (.int (((p4.toUInt32 >>> ((8 : Int32) &&& 31).toUInt32).toInt32) % (3 : Int32))), .unset, .unset, .unset, .unset, .unset, .unset, .unset, .unset, .unset, .unset] [(.int (((p4.toUInt32 >>> ((8 : Int32) &&& 31).toUInt32).toInt32) % (3 : Int32)))])) _
  refine XS.ifYes X0.here hx rfl (pc0 := 91) (pc' := 100) rfl (hb hby at_91) rfl ((if0 _ _).trans (feq hc91).2) (by decide) (by decide) ?_
  show Steps p.tables e below (T0.setTop (mkF m 100 #[.val (.int p1), .val (.int p2), .val (.int p3), .val (.int p4), .val (.int p5), .val (.int p6), .val (.int k6), .val (.int k7), .val (.int k8), .val (.int k9), .val (.int k10), .val (.int k11), .val (.int (((p4.toUInt32 >>> ((8 : Int32) &&& 31).toUInt32).toInt32) % (3 : Int32))), .unset, .unset, .unset, .unset, .unset, .unset, .unset, .unset, .unset, .unset] [])) _
  refine XS.iload X0.here hx rfl (hb hby at_100) rfl ?_
  show Steps p.tables e below (T0.setTop (mkF m 102 #[.val (.int p1), .val (.int p2), .val (.int p3), .val (.int p4), .val (.int p5), .val (.int p6), .val (.int k6), .val (.int k7), .val (.int k8), .val (.int k9), .val (.int k10), .val (.int k11), .val (.int (((p4.toUInt32 >>> ((8 : Int32) &&& 31).toUInt32).toInt32) % (3 : Int32))), .unset, .unset, .unset, .unset, .unset, .unset, .unset, .unset, .unset, .unset] [(.int (((p4.toUInt32 >>> ((8 : Int32) &&& 31).toUInt32).toInt32) % (3 : Int32)))])) _
  refine XS.iconst X0.here hx rfl (hb hby at_102) ?_
  show Steps p.tables e below (T0.setTop (mkF m 103 #[.val (.int p1), .val (.int p2), .val (.int p3), .val (.int p4), .val (.int p5), .val (.int p6), .val (.int k6), .val (.int k7), .val (.int k8), .val (.int k9), .val (.int k10), .val (.int k11), .val (.int (((p4.toUInt32 >>> ((8 : Int32) &&& 31).toUInt32).toInt32) % (3 : Int32))), .unset, .unset, .unset, .unset, .unset, .unset, .unset, .unset, .unset, .unset] [(.int (1 : Int32)), (.int (((p4.toUInt32 >>> ((8 : Int32) &&& 31).toUInt32).toInt32) % (3 : Int32)))])) _
  refine XS.icmpYes X0.here hx rfl (pc0 := 103) (pc' := 112) rfl (hb hby at_103) rfl (feq hc103).2 (by decide) (by decide) ?_
  show Steps p.tables e below (T0.setTop (mkF m 112 #[.val (.int p1), .val (.int p2), .val (.int p3), .val (.int p4), .val (.int p5), .val (.int p6), .val (.int k6), .val (.int k7), .val (.int k8), .val (.int k9), .val (.int k10), .val (.int k11), .val (.int (((p4.toUInt32 >>> ((8 : Int32) &&& 31).toUInt32).toInt32) % (3 : Int32))), .unset, .unset, .unset, .unset, .unset, .unset, .unset, .unset, .unset, .unset] [])) _
  refine st1 _ ?_
  show Steps p.tables e below (T1.setTop (mkF m 115 #[.val (.int p1), .val (.int p2), .val (.int p3), .val (.int p4), .val (.int p5), .val (.int p6), .val (.int k6), .val (.int k7), .val (.int k8), .val (.int k9), .val (.int k10), .val (.int k11), .val (.int (((p4.toUInt32 >>> ((8 : Int32) &&& 31).toUInt32).toInt32) % (3 : Int32))), .unset, .unset, .unset, .unset, .unset, .unset, .unset, .unset, .unset, .unset] [(.ref wC)])) _
  refine XS.astore X1.here hx rfl (hb hby at_115) rfl rfl (l' := #[.val (.int p1), .val (.int p2), .val (.int p3), .val (.int p4), .val (.int p5), .val (.int p6), .val (.int k6), .val (.int k7), .val (.int k8), .val (.int k9), .val (.int k10), .val (.int k11), .val (.int (((p4.toUInt32 >>> ((8 : Int32) &&& 31).toUInt32).toInt32) % (3 : Int32))), .val (.ref wC), .unset, .unset, .unset, .unset, .unset, .unset, .unset, .unset, .unset]) rfl ?_
  exact kt
set_option maxRecDepth 65536 in
set_option maxHeartbeats 40000000 in
theorem tn81 {p : Program} {l : Launch} {e : Env} {s : State} {m : MethodId} {args : Array Value} {below : List Frame} {meth : Method} {c : Code} {T0 : State} {locs : List Loc} {Z : State} {a0 : Array Value} (hw : ∀ d ∈ tables_1, d.before a0 Z = true) (p1 p2 p3 p4 p5 p6 k6 k7 k8 k9 k10 k11 : Int32) (wR wO wC wP : Addr) (h0 : Heap) (n0 : Nat) (X0 : Stand p l e room_1 s m args below meth c T0 locs 0 0) (N0 : Fr n0 locs) (hx : p.tables.exec = Jvm.exec) (hZ : Z.Warmed39 s.vm) (hby : c.code = code) (hml : c.maxLocals = 23) (hown : s.vm.findClass "com/example/mirante/mirante/FieldDefHasRuleChecksPinLaw" = some m.cls) (e0 : T0.heap = h0) (O0 : Old Z n0 h0) (S_REQUIRED : Sta Z Z.heap "com/example/mirante/mirante/FieldDef$Presence" "REQUIRED" "Lcom/example/mirante/mirante/FieldDef$Presence;" (.ref wR)) (S_OPTIONAL : Sta Z Z.heap "com/example/mirante/mirante/FieldDef$Presence" "OPTIONAL" "Lcom/example/mirante/mirante/FieldDef$Presence;" (.ref wO)) (S_CONDITIONAL : Sta Z Z.heap "com/example/mirante/mirante/FieldDef$Presence" "CONDITIONAL" "Lcom/example/mirante/mirante/FieldDef$Presence;" (.ref wC)) (hwP : wP = if (((p4.toUInt32 >>> ((8 : Int32) &&& 31).toUInt32).toInt32) % (3 : Int32)) = (0 : Int32) then wR else if (((p4.toUInt32 >>> ((8 : Int32) &&& 31).toUInt32).toInt32) % (3 : Int32)) = (1 : Int32) then wO else wC) :
    ∃ (T' : State) (locs' : List Loc), Stand p l e room_1 s m args below meth c T' locs' 0 0 ∧ Fr n0 locs' ∧ T'.heap = h0 ∧
      ∀ target, Steps p.tables e below (T'.setTop (mkF m 117 #[.val (.int p1), .val (.int p2), .val (.int p3), .val (.int p4), .val (.int p5), .val (.int p6), .val (.int k6), .val (.int k7), .val (.int k8), .val (.int k9), .val (.int k10), .val (.int k11), .val (.int (((p4.toUInt32 >>> ((8 : Int32) &&& 31).toUInt32).toInt32) % (3 : Int32))), .val (.ref wP), .unset, .unset, .unset, .unset, .unset, .unset, .unset, .unset, .unset] [])) target → Steps p.tables e below (T0.setTop (mkF m 81 #[.val (.int p1), .val (.int p2), .val (.int p3), .val (.int p4), .val (.int p5), .val (.int p6), .val (.int k6), .val (.int k7), .val (.int k8), .val (.int k9), .val (.int k10), .val (.int k11), .unset, .unset, .unset, .unset, .unset, .unset, .unset, .unset, .unset, .unset, .unset] [])) target := by
  by_cases c1 : (((p4.toUInt32 >>> ((8 : Int32) &&& 31).toUInt32).toInt32) % (3 : Int32)) = (0 : Int32)
  · rw [if_pos c1] at hwP; rw [hwP]; exact tn81f hw p1 p2 p3 p4 p5 p6 k6 k7 k8 k9 k10 k11 wR wO wC h0 n0 X0 N0 hx hZ hby hml hown e0 O0 c1 S_REQUIRED
  · rw [if_neg c1] at hwP
    by_cases c2 : (((p4.toUInt32 >>> ((8 : Int32) &&& 31).toUInt32).toInt32) % (3 : Int32)) = (1 : Int32)
    · rw [if_pos c2] at hwP; rw [hwP]; exact tn81tf hw p1 p2 p3 p4 p5 p6 k6 k7 k8 k9 k10 k11 wR wO wC h0 n0 X0 N0 hx hZ hby hml hown e0 O0 c1 c2 S_OPTIONAL
    · rw [if_neg c2] at hwP; rw [hwP]; exact tn81tt hw p1 p2 p3 p4 p5 p6 k6 k7 k8 k9 k10 k11 wR wO wC h0 n0 X0 N0 hx hZ hby hml hown e0 O0 c1 c2 S_CONDITIONAL
theorem own_compact {s : State} {args : Array Value} {t : Term} (h1 : (Jvm.Cond.isInt t).value args s none s [] = some true) (h2 : (Jvm.Cond.not (.eq t (.int 0))).value args s none s [] = some true) : ∃ z : Int32, t.eval args s none [] s = some (.int z) ∧ ¬ z = 0 := by
  obtain ⟨z, ez⟩ := is_v h1
  refine ⟨z, ez, fun q => ?_⟩
  subst q
  simp [Cond.value, Term.eval, ez] at h2
theorem own_m255 (x : Int32) : ¬ (x &&& 255) < 0 ∧ ¬ (255 : Int32) < (x &&& 255) := by
  have h := c_and x 255 (by decide)
  rw [show (255 : Int32).toInt = 255 from rfl] at h
  rw [Int32.lt_iff_toInt_lt, Int32.lt_iff_toInt_lt, show (255 : Int32).toInt = 255 from rfl, show (0 : Int32).toInt = 0 from rfl]
  omega
set_option maxRecDepth 65536 in
set_option maxHeartbeats 40000000 in
theorem tn117t {p : Program} {l : Launch} {e : Env} {s : State} {m : MethodId} {args : Array Value} {below : List Frame} {meth : Method} {c : Code} {T0 : State} {locs : List Loc} {Z : State} {a0 : Array Value} (hw : ∀ d ∈ tables_1, d.before a0 Z = true) (p1 p2 p3 p4 p5 p6 k6 k7 k8 k9 k10 k11 p12 : Int32) (o13 wD : Addr) (kD : ClassId) (h0 : Heap) (n0 : Nat) (X0 : Stand p l e room_1 s m args below meth c T0 locs 0 0) (N0 : Fr n0 locs) (hx : p.tables.exec = Jvm.exec) (hZ : Z.Warmed39 s.vm) (hby : c.code = code) (hml : c.maxLocals = 23) (hown : s.vm.findClass "com/example/mirante/mirante/FieldDefHasRuleChecksPinLaw" = some m.cls) (e0 : T0.heap = h0) (O0 : Old Z n0 h0) (HV_wD : Arv Z h0 wD kD (.object "java/lang/Object") (0 : Int32) [] .null) (S_DEFAULTCAPACITY_EMPTY_ELEMENTDATA : Sta Z Z.heap "java/util/ArrayList" "DEFAULTCAPACITY_EMPTY_ELEMENTDATA" "[Ljava/lang/Object;" (.ref wD)) (hc128 : k6 = (0 : Int32)) :
    ∃ (T' : State) (locs' : List Loc) (h' : Heap) (b1 : Addr), Stand p l e room_1 s m args below meth c T' locs' 1 3 ∧ Fr n0 locs' ∧ T'.heap = h' ∧ Keep h0 h' [] ∧ h0.size ≤ b1 ∧ Exa Z h' b1 "java/util/ArrayList" ∧ Fld Z h' b1 "java/util/ArrayList" "size" "I" (.int (0 : Int32)) ∧
      ∀ target, Steps p.tables e below (T'.setTop (mkF m 140 #[.val (.int p1), .val (.int p2), .val (.int p3), .val (.int p4), .val (.int p5), .val (.int p6), .val (.int k6), .val (.int k7), .val (.int k8), .val (.int k9), .val (.int k10), .val (.int k11), .val (.int p12), .val (.ref o13), .val (.ref b1), .unset, .unset, .unset, .unset, .unset, .unset, .unset, .unset] [])) target → Steps p.tables e below (T0.setTop (mkF m 117 #[.val (.int p1), .val (.int p2), .val (.int p3), .val (.int p4), .val (.int p5), .val (.int p6), .val (.int k6), .val (.int k7), .val (.int k8), .val (.int k9), .val (.int k10), .val (.int k11), .val (.int p12), .val (.ref o13), .unset, .unset, .unset, .unset, .unset, .unset, .unset, .unset, .unset] [])) target := by
  have Z0 : n0 ≤ h0.size := O0.1 ▸ O0.2.1
  obtain ⟨T1, h1, X1, e1, E1, A1, D1, -, st1⟩ := newO X0 hx hZ hown (hw _ (List.mem_of_getElem? (i := 3) rfl)) (hw _ (List.mem_of_getElem? (i := 4) rfl)) (hw _ (List.mem_of_getElem? (i := 5) rfl)) e0 (g := (mkF m 117 #[.val (.int p1), .val (.int p2), .val (.int p3), .val (.int p4), .val (.int p5), .val (.int p6), .val (.int k6), .val (.int k7), .val (.int k8), .val (.int k9), .val (.int k10), .val (.int k11), .val (.int p12), .val (.ref o13), .unset, .unset, .unset, .unset, .unset, .unset, .unset, .unset, .unset] [])) rfl (hb hby at_117) (by decide) (by decide)
  obtain ⟨b1, g1⟩ : ∃ z, z = h0.size := ⟨_, rfl⟩
  rw [← g1] at A1 D1 st1
  have g_b1 : n0 ≤ b1 := Nat.le_trans (Nat.le_trans Z0 (Keep.refl h0 []).1) (Nat.le_of_eq g1.symm)
  have sz_b1 : h0.size ≤ b1 := Nat.le_trans (Keep.refl h0 []).1 (Nat.le_of_eq g1.symm)
  have K2 : Keep h0 h1 [] := (Keep.refl h0 []).ext E1
  have O3 : Old Z n0 h1 := O0.ext E1
  have F_modCount_b1 : Fld Z h1 b1 "java/util/AbstractList" "modCount" "I" (.int (0 : Int32)) := D1 (Or.inl (hw _ (List.mem_of_getElem? (i := 25) rfl))) (ty := .int) (by decide)
  have F_elementData_b1 : Fld Z h1 b1 "java/util/ArrayList" "elementData" "[Ljava/lang/Object;" .null := D1 (Or.inl (hw _ (List.mem_of_getElem? (i := 28) rfl))) (ty := (.array (.object "java/lang/Object"))) (by decide)
  have F_size_b1 : Fld Z h1 b1 "java/util/ArrayList" "size" "I" (.int (0 : Int32)) := D1 (Or.inl (hw _ (List.mem_of_getElem? (i := 41) rfl))) (ty := .int) (by decide)
  replace X1 := X1.more (cells' := 1) (slots' := 3) (by decide) (by decide)
  obtain ⟨vr4, _, ⟨T4, L4, k4, n4⟩, -, X4, ⟨Lc4, hQ4, l4, y4, z4⟩, st4⟩ := X1.specialBack hx (y := (⟨"java/util/ArrayList", "<init>", "()V"⟩ : MethodName)) rfl hown (mvT hZ (hw _ (List.mem_of_getElem? (i := 6) rfl))) (mvT hZ (hw _ (List.mem_of_getElem? (i := 7) rfl))) (mvT hZ (hw _ (List.mem_of_getElem? (i := 8) rfl))) (by decide) (backOf (W := 1) (rm1 l Z a0 hw [] b1 ((.int (0 : Int32))) (.null) ((.int (0 : Int32))) wD h1 n0 O3 A1 F_modCount_b1 F_elementData_b1 F_size_b1 g_b1 S_DEFAULTCAPACITY_EMPTY_ELEMENTDATA) hZ (hw _ (List.mem_of_getElem? (i := 8) rfl)) (hw _ (List.mem_of_getElem? (i := 5) rfl)) (by decide) (by decide)) (g := (mkF m 121 #[.val (.int p1), .val (.int p2), .val (.int p3), .val (.int p4), .val (.int p5), .val (.int p6), .val (.int k6), .val (.int k7), .val (.int k8), .val (.int k9), .val (.int k10), .val (.int k11), .val (.int p12), .val (.ref o13), .unset, .unset, .unset, .unset, .unset, .unset, .unset, .unset, .unset] [(.ref b1), (.ref b1)])) rfl (by rw [hml]; rfl) (Steps.refl _) (a := b1) (argsL := []) (rest := [(.ref b1)]) (lenOf pd_0 rfl) rfl (by show 2 * 0 + _ ≤ _; exact Nat.le_of_eq rfl) (hb hby at_121) (fun _ _ => ⟨rfl, e1, (by decide : 1 + 0 ≤ _), (by decide : 3 + 0 ≤ _)⟩)
  dsimp only [Pt.U, Pt.locs, Pt.cells, Pt.slots] at X4 l4 y4 z4 st4 hQ4
  subst l4 y4 z4
  obtain ⟨rfl, N4q, K4, Y4_0, Y4_1, Y4_2, Y4_3⟩ := hQ4
  have N4 := Fr.app N0 N4q
  replace X4 := X4.more (cells' := 1) (slots' := 3) (by decide) (by decide)
  have K5 : Keep h0 T4.heap [] := K2.trans K4 (allS (Or.inr sz_b1) all0)
  have O6 : Old Z n0 T4.heap := O3.keep K4 (allS g_b1 all0)
  refine ⟨T4, _, _, b1, X4, N4, rfl, K5, sz_b1, Y4_0, Y4_3, fun target kt => ?_⟩
  show Steps p.tables e below (T0.setTop (mkF m 117 #[.val (.int p1), .val (.int p2), .val (.int p3), .val (.int p4), .val (.int p5), .val (.int p6), .val (.int k6), .val (.int k7), .val (.int k8), .val (.int k9), .val (.int k10), .val (.int k11), .val (.int p12), .val (.ref o13), .unset, .unset, .unset, .unset, .unset, .unset, .unset, .unset, .unset] [])) _
  refine st1 _ ?_
  show Steps p.tables e below (T1.setTop (mkF m 120 #[.val (.int p1), .val (.int p2), .val (.int p3), .val (.int p4), .val (.int p5), .val (.int p6), .val (.int k6), .val (.int k7), .val (.int k8), .val (.int k9), .val (.int k10), .val (.int k11), .val (.int p12), .val (.ref o13), .unset, .unset, .unset, .unset, .unset, .unset, .unset, .unset, .unset] [(.ref b1)])) _
  refine XS.dup X1.here hx rfl (hb hby at_120) rfl rfl ?_
  show Steps p.tables e below (T1.setTop (mkF m 121 #[.val (.int p1), .val (.int p2), .val (.int p3), .val (.int p4), .val (.int p5), .val (.int p6), .val (.int k6), .val (.int k7), .val (.int k8), .val (.int k9), .val (.int k10), .val (.int k11), .val (.int p12), .val (.ref o13), .unset, .unset, .unset, .unset, .unset, .unset, .unset, .unset, .unset] [(.ref b1), (.ref b1)])) _
  refine st4.trans ?_
  show Steps p.tables e below (T4.setTop (mkF m 124 #[.val (.int p1), .val (.int p2), .val (.int p3), .val (.int p4), .val (.int p5), .val (.int p6), .val (.int k6), .val (.int k7), .val (.int k8), .val (.int k9), .val (.int k10), .val (.int k11), .val (.int p12), .val (.ref o13), .unset, .unset, .unset, .unset, .unset, .unset, .unset, .unset, .unset] [(.ref b1)])) _
  refine XS.astore X4.here hx rfl (hb hby at_124) rfl rfl (l' := #[.val (.int p1), .val (.int p2), .val (.int p3), .val (.int p4), .val (.int p5), .val (.int p6), .val (.int k6), .val (.int k7), .val (.int k8), .val (.int k9), .val (.int k10), .val (.int k11), .val (.int p12), .val (.ref o13), .val (.ref b1), .unset, .unset, .unset, .unset, .unset, .unset, .unset, .unset]) rfl ?_
  show Steps p.tables e below (T4.setTop (mkF m 126 #[.val (.int p1), .val (.int p2), .val (.int p3), .val (.int p4), .val (.int p5), .val (.int p6), .val (.int k6), .val (.int k7), .val (.int k8), .val (.int k9), .val (.int k10), .val (.int k11), .val (.int p12), .val (.ref o13), .val (.ref b1), .unset, .unset, .unset, .unset, .unset, .unset, .unset, .unset] [])) _
  refine XS.iload X4.here hx rfl (hb hby at_126) rfl ?_
  show Steps p.tables e below (T4.setTop (mkF m 128 #[.val (.int p1), .val (.int p2), .val (.int p3), .val (.int p4), .val (.int p5), .val (.int p6), .val (.int k6), .val (.int k7), .val (.int k8), .val (.int k9), .val (.int k10), .val (.int k11), .val (.int p12), .val (.ref o13), .val (.ref b1), .unset, .unset, .unset, .unset, .unset, .unset, .unset, .unset] [(.int k6)])) _
  refine XS.ifYes X4.here hx rfl (pc0 := 128) (pc' := 140) rfl (hb hby at_128) rfl ((if0 _ _).trans (teq hc128).1) (by decide) (by decide) ?_
  exact kt
theorem pd_12 : parseMethodDescriptor "(Ljava/lang/Object;)Z" = some ⟨[(.object "java/lang/Object")], some .boolean⟩ := by decide +kernel
set_option maxRecDepth 65536 in
set_option maxHeartbeats 40000000 in
theorem tn117f {p : Program} {l : Launch} {e : Env} {s : State} {m : MethodId} {args : Array Value} {below : List Frame} {meth : Method} {c : Code} {T0 : State} {locs : List Loc} {Z : State} {a0 : Array Value} (hw : ∀ d ∈ tables_1, d.before a0 Z = true) (p1 p2 p3 p4 p5 p6 k6 k7 k8 k9 k10 k11 p12 : Int32) (o13 wD : Addr) (kD : ClassId) (h0 : Heap) (n0 : Nat) (X0 : Stand p l e room_1 s m args below meth c T0 locs 0 0) (N0 : Fr n0 locs) (hx : p.tables.exec = Jvm.exec) (hZ : Z.Warmed39 s.vm) (hby : c.code = code) (hml : c.maxLocals = 23) (hown : s.vm.findClass "com/example/mirante/mirante/FieldDefHasRuleChecksPinLaw" = some m.cls) (e0 : T0.heap = h0) (O0 : Old Z n0 h0) (HV_wD : Arv Z h0 wD kD (.object "java/lang/Object") (0 : Int32) [] .null) (S_DEFAULTCAPACITY_EMPTY_ELEMENTDATA : Sta Z Z.heap "java/util/ArrayList" "DEFAULTCAPACITY_EMPTY_ELEMENTDATA" "[Ljava/lang/Object;" (.ref wD)) (hc128 : ¬ (k6 = (0 : Int32))) :
    ∃ (T' : State) (locs' : List Loc) (h' : Heap) (b1 : Addr), Stand p l e room_1 s m args below meth c T' locs' 2 13 ∧ Fr n0 locs' ∧ T'.heap = h' ∧ Keep h0 h' [] ∧ h0.size ≤ b1 ∧ Exa Z h' b1 "java/util/ArrayList" ∧ Fld Z h' b1 "java/util/ArrayList" "size" "I" (.int (1 : Int32)) ∧
      ∀ target, Steps p.tables e below (T'.setTop (mkF m 140 #[.val (.int p1), .val (.int p2), .val (.int p3), .val (.int p4), .val (.int p5), .val (.int p6), .val (.int k6), .val (.int k7), .val (.int k8), .val (.int k9), .val (.int k10), .val (.int k11), .val (.int p12), .val (.ref o13), .val (.ref b1), .unset, .unset, .unset, .unset, .unset, .unset, .unset, .unset] [])) target → Steps p.tables e below (T0.setTop (mkF m 117 #[.val (.int p1), .val (.int p2), .val (.int p3), .val (.int p4), .val (.int p5), .val (.int p6), .val (.int k6), .val (.int k7), .val (.int k8), .val (.int k9), .val (.int k10), .val (.int k11), .val (.int p12), .val (.ref o13), .unset, .unset, .unset, .unset, .unset, .unset, .unset, .unset, .unset] [])) target := by
  have Z0 : n0 ≤ h0.size := O0.1 ▸ O0.2.1
  obtain ⟨T1, h1, X1, e1, E1, A1, D1, -, st1⟩ := newO X0 hx hZ hown (hw _ (List.mem_of_getElem? (i := 3) rfl)) (hw _ (List.mem_of_getElem? (i := 4) rfl)) (hw _ (List.mem_of_getElem? (i := 5) rfl)) e0 (g := (mkF m 117 #[.val (.int p1), .val (.int p2), .val (.int p3), .val (.int p4), .val (.int p5), .val (.int p6), .val (.int k6), .val (.int k7), .val (.int k8), .val (.int k9), .val (.int k10), .val (.int k11), .val (.int p12), .val (.ref o13), .unset, .unset, .unset, .unset, .unset, .unset, .unset, .unset, .unset] [])) rfl (hb hby at_117) (by decide) (by decide)
  obtain ⟨b1, g1⟩ : ∃ z, z = h0.size := ⟨_, rfl⟩
  rw [← g1] at A1 D1 st1
  have g_b1 : n0 ≤ b1 := Nat.le_trans (Nat.le_trans Z0 (Keep.refl h0 []).1) (Nat.le_of_eq g1.symm)
  have sz_b1 : h0.size ≤ b1 := Nat.le_trans (Keep.refl h0 []).1 (Nat.le_of_eq g1.symm)
  have K2 : Keep h0 h1 [] := (Keep.refl h0 []).ext E1
  have O3 : Old Z n0 h1 := O0.ext E1
  have F_modCount_b1 : Fld Z h1 b1 "java/util/AbstractList" "modCount" "I" (.int (0 : Int32)) := D1 (Or.inl (hw _ (List.mem_of_getElem? (i := 25) rfl))) (ty := .int) (by decide)
  have F_elementData_b1 : Fld Z h1 b1 "java/util/ArrayList" "elementData" "[Ljava/lang/Object;" .null := D1 (Or.inl (hw _ (List.mem_of_getElem? (i := 28) rfl))) (ty := (.array (.object "java/lang/Object"))) (by decide)
  have F_size_b1 : Fld Z h1 b1 "java/util/ArrayList" "size" "I" (.int (0 : Int32)) := D1 (Or.inl (hw _ (List.mem_of_getElem? (i := 41) rfl))) (ty := .int) (by decide)
  replace X1 := X1.more (cells' := 1) (slots' := 3) (by decide) (by decide)
  obtain ⟨vr4, _, ⟨T4, L4, k4, n4⟩, -, X4, ⟨Lc4, hQ4, l4, y4, z4⟩, st4⟩ := X1.specialBack hx (y := (⟨"java/util/ArrayList", "<init>", "()V"⟩ : MethodName)) rfl hown (mvT hZ (hw _ (List.mem_of_getElem? (i := 6) rfl))) (mvT hZ (hw _ (List.mem_of_getElem? (i := 7) rfl))) (mvT hZ (hw _ (List.mem_of_getElem? (i := 8) rfl))) (by decide) (backOf (W := 1) (rm1 l Z a0 hw [] b1 ((.int (0 : Int32))) (.null) ((.int (0 : Int32))) wD h1 n0 O3 A1 F_modCount_b1 F_elementData_b1 F_size_b1 g_b1 S_DEFAULTCAPACITY_EMPTY_ELEMENTDATA) hZ (hw _ (List.mem_of_getElem? (i := 8) rfl)) (hw _ (List.mem_of_getElem? (i := 5) rfl)) (by decide) (by decide)) (g := (mkF m 121 #[.val (.int p1), .val (.int p2), .val (.int p3), .val (.int p4), .val (.int p5), .val (.int p6), .val (.int k6), .val (.int k7), .val (.int k8), .val (.int k9), .val (.int k10), .val (.int k11), .val (.int p12), .val (.ref o13), .unset, .unset, .unset, .unset, .unset, .unset, .unset, .unset, .unset] [(.ref b1), (.ref b1)])) rfl (by rw [hml]; rfl) (Steps.refl _) (a := b1) (argsL := []) (rest := [(.ref b1)]) (lenOf pd_0 rfl) rfl (by show 2 * 0 + _ ≤ _; exact Nat.le_of_eq rfl) (hb hby at_121) (fun _ _ => ⟨rfl, e1, (by decide : 1 + 0 ≤ _), (by decide : 3 + 0 ≤ _)⟩)
  dsimp only [Pt.U, Pt.locs, Pt.cells, Pt.slots] at X4 l4 y4 z4 st4 hQ4
  subst l4 y4 z4
  obtain ⟨rfl, N4q, K4, Y4_0, Y4_1, Y4_2, Y4_3⟩ := hQ4
  have N4 := Fr.app N0 N4q
  replace X4 := X4.more (cells' := 1) (slots' := 3) (by decide) (by decide)
  have K5 : Keep h0 T4.heap [] := K2.trans K4 (allS (Or.inr sz_b1) all0)
  have O6 : Old Z n0 T4.heap := O3.keep K4 (allS g_b1 all0)
  have f7 := ((HV_wD.ext E1).keep K4 (ninS (Nat.ne_of_lt (Nat.lt_of_lt_of_le HV_wD.lt (Nat.le_of_eq g1.symm))) nin0))
  obtain ⟨cq8, kq8, q8a, q8b, q8c⟩ := isOf hZ rfl Y4_0
  obtain ⟨vr8, _, ⟨T8, L8, k8, n8⟩, -, X8, ⟨Lc8, hQ8, l8, y8, z8⟩, st8⟩ := X4.interfaceBack hx (xi := (⟨"java/util/List", "add", "(Ljava/lang/Object;)Z"⟩ : MethodName)) (y := (⟨"java/util/ArrayList", "add", "(Ljava/lang/Object;)Z"⟩ : MethodName)) hown (mvT hZ (hw _ (List.mem_of_getElem? (i := 29) rfl))) (mvT hZ (hw _ (List.mem_of_getElem? (i := 30) rfl))) (mvT hZ (hw _ (List.mem_of_getElem? (i := 31) rfl))) (mvT hZ (hw _ (List.mem_of_getElem? (i := 32) rfl))) (mvT hZ (hw _ (List.mem_of_getElem? (i := 33) rfl))) (mvT hZ (hw _ (List.mem_of_getElem? (i := 34) rfl))) (mvT hZ (hw _ (List.mem_of_getElem? (i := 35) rfl))) (mvT hZ (hw _ (List.mem_of_getElem? (i := 36) rfl))) (by decide) (backOf (W := 0) (rm5fn l Z a0 hw [] b1 ((0 : Int32)) kD wD T4.heap n0 O6 Y4_0 Y4_2 Y4_1 Y4_3 f7 g_b1 (Nat.ne_of_lt (Nat.lt_of_lt_of_le HV_wD.lt (Nat.le_of_eq g1.symm))) S_DEFAULTCAPACITY_EMPTY_ELEMENTDATA) hZ (hw _ (List.mem_of_getElem? (i := 37) rfl)) (hw _ (List.mem_of_getElem? (i := 5) rfl)) (by decide) (by decide)) q8a q8b q8c (g := (mkF m 134 #[.val (.int p1), .val (.int p2), .val (.int p3), .val (.int p4), .val (.int p5), .val (.int p6), .val (.int k6), .val (.int k7), .val (.int k8), .val (.int k9), .val (.int k10), .val (.int k11), .val (.int p12), .val (.ref o13), .val (.ref b1), .unset, .unset, .unset, .unset, .unset, .unset, .unset, .unset] [.null, (.ref b1)])) rfl (by rw [hml]; rfl) (Steps.refl _) (argsL := [.null]) (rest := []) (lenOf pd_12 rfl) rfl (by show 2 * 0 + _ ≤ _; exact Nat.le_of_eq rfl) (hb hby at_134) (fun _ _ => ⟨rfl, rfl, (by decide : 1 + 1 ≤ _), (by decide : 3 + 10 ≤ _)⟩)
  dsimp only [Pt.U, Pt.locs, Pt.cells, Pt.slots] at X8 l8 y8 z8 st8 hQ8
  subst l8 y8 z8
  obtain ⟨b9, k12, rfl, N8q, K8, Y8_z0, Y8_0, Y8_1, Y8_2, Y8_3, Y8_4, Y8_5, Y8_6⟩ := hQ8
  have N8 := Fr.app N4 N8q
  replace X8 := X8.more (cells' := 2) (slots' := 13) (by decide) (by decide)
  have g_b9 : n0 ≤ b9 := Nat.le_trans (Nat.le_trans Z0 K5.1) Y8_z0
  have sz_b9 : h0.size ≤ b9 := Nat.le_trans K5.1 Y8_z0
  have K13 : Keep h0 T8.heap [] := K5.trans K8 (allS (Or.inr sz_b1) all0)
  have O14 : Old Z n0 T8.heap := O6.keep K8 (allS g_b1 all0)
  refine ⟨T8, _, _, b1, X8, N8, rfl, K13, sz_b1, Y8_0, Y8_3, fun target kt => ?_⟩
  show Steps p.tables e below (T0.setTop (mkF m 117 #[.val (.int p1), .val (.int p2), .val (.int p3), .val (.int p4), .val (.int p5), .val (.int p6), .val (.int k6), .val (.int k7), .val (.int k8), .val (.int k9), .val (.int k10), .val (.int k11), .val (.int p12), .val (.ref o13), .unset, .unset, .unset, .unset, .unset, .unset, .unset, .unset, .unset] [])) _
  refine st1 _ ?_
  show Steps p.tables e below (T1.setTop (mkF m 120 #[.val (.int p1), .val (.int p2), .val (.int p3), .val (.int p4), .val (.int p5), .val (.int p6), .val (.int k6), .val (.int k7), .val (.int k8), .val (.int k9), .val (.int k10), .val (.int k11), .val (.int p12), .val (.ref o13), .unset, .unset, .unset, .unset, .unset, .unset, .unset, .unset, .unset] [(.ref b1)])) _
  refine XS.dup X1.here hx rfl (hb hby at_120) rfl rfl ?_
  show Steps p.tables e below (T1.setTop (mkF m 121 #[.val (.int p1), .val (.int p2), .val (.int p3), .val (.int p4), .val (.int p5), .val (.int p6), .val (.int k6), .val (.int k7), .val (.int k8), .val (.int k9), .val (.int k10), .val (.int k11), .val (.int p12), .val (.ref o13), .unset, .unset, .unset, .unset, .unset, .unset, .unset, .unset, .unset] [(.ref b1), (.ref b1)])) _
  refine st4.trans ?_
  show Steps p.tables e below (T4.setTop (mkF m 124 #[.val (.int p1), .val (.int p2), .val (.int p3), .val (.int p4), .val (.int p5), .val (.int p6), .val (.int k6), .val (.int k7), .val (.int k8), .val (.int k9), .val (.int k10), .val (.int k11), .val (.int p12), .val (.ref o13), .unset, .unset, .unset, .unset, .unset, .unset, .unset, .unset, .unset] [(.ref b1)])) _
  refine XS.astore X4.here hx rfl (hb hby at_124) rfl rfl (l' := #[.val (.int p1), .val (.int p2), .val (.int p3), .val (.int p4), .val (.int p5), .val (.int p6), .val (.int k6), .val (.int k7), .val (.int k8), .val (.int k9), .val (.int k10), .val (.int k11), .val (.int p12), .val (.ref o13), .val (.ref b1), .unset, .unset, .unset, .unset, .unset, .unset, .unset, .unset]) rfl ?_
  show Steps p.tables e below (T4.setTop (mkF m 126 #[.val (.int p1), .val (.int p2), .val (.int p3), .val (.int p4), .val (.int p5), .val (.int p6), .val (.int k6), .val (.int k7), .val (.int k8), .val (.int k9), .val (.int k10), .val (.int k11), .val (.int p12), .val (.ref o13), .val (.ref b1), .unset, .unset, .unset, .unset, .unset, .unset, .unset, .unset] [])) _
  refine XS.iload X4.here hx rfl (hb hby at_126) rfl ?_
  show Steps p.tables e below (T4.setTop (mkF m 128 #[.val (.int p1), .val (.int p2), .val (.int p3), .val (.int p4), .val (.int p5), .val (.int p6), .val (.int k6), .val (.int k7), .val (.int k8), .val (.int k9), .val (.int k10), .val (.int k11), .val (.int p12), .val (.ref o13), .val (.ref b1), .unset, .unset, .unset, .unset, .unset, .unset, .unset, .unset] [(.int k6)])) _
  refine XS.ifNo X4.here hx rfl (hb hby at_128) rfl ((if0 _ _).trans (feq hc128).1) ?_
  show Steps p.tables e below (T4.setTop (mkF m 131 #[.val (.int p1), .val (.int p2), .val (.int p3), .val (.int p4), .val (.int p5), .val (.int p6), .val (.int k6), .val (.int k7), .val (.int k8), .val (.int k9), .val (.int k10), .val (.int k11), .val (.int p12), .val (.ref o13), .val (.ref b1), .unset, .unset, .unset, .unset, .unset, .unset, .unset, .unset] [])) _
  refine XS.aload X4.here hx rfl (hb hby at_131) rfl rfl ?_
  show Steps p.tables e below (T4.setTop (mkF m 133 #[.val (.int p1), .val (.int p2), .val (.int p3), .val (.int p4), .val (.int p5), .val (.int p6), .val (.int k6), .val (.int k7), .val (.int k8), .val (.int k9), .val (.int k10), .val (.int k11), .val (.int p12), .val (.ref o13), .val (.ref b1), .unset, .unset, .unset, .unset, .unset, .unset, .unset, .unset] [(.ref b1)])) _
  refine XS.aconstNull X4.here hx rfl (hb hby at_133) ?_
  show Steps p.tables e below (T4.setTop (mkF m 134 #[.val (.int p1), .val (.int p2), .val (.int p3), .val (.int p4), .val (.int p5), .val (.int p6), .val (.int k6), .val (.int k7), .val (.int k8), .val (.int k9), .val (.int k10), .val (.int k11), .val (.int p12), .val (.ref o13), .val (.ref b1), .unset, .unset, .unset, .unset, .unset, .unset, .unset, .unset] [.null, (.ref b1)])) _
  refine st8.trans ?_
  show Steps p.tables e below (T8.setTop (mkF m 139 #[.val (.int p1), .val (.int p2), .val (.int p3), .val (.int p4), .val (.int p5), .val (.int p6), .val (.int k6), .val (.int k7), .val (.int k8), .val (.int k9), .val (.int k10), .val (.int k11), .val (.int p12), .val (.ref o13), .val (.ref b1), .unset, .unset, .unset, .unset, .unset, .unset, .unset, .unset] [(.int (1 : Int32))])) _
  refine XS.pop X8.here hx rfl (hb hby at_139) rfl rfl ?_
  exact kt
set_option maxRecDepth 65536 in
set_option maxHeartbeats 40000000 in
theorem tn117 {p : Program} {l : Launch} {e : Env} {s : State} {m : MethodId} {args : Array Value} {below : List Frame} {meth : Method} {c : Code} {T0 : State} {locs : List Loc} {Z : State} {a0 : Array Value} (hw : ∀ d ∈ tables_1, d.before a0 Z = true) (p1 p2 p3 p4 p5 p6 k6 k7 k8 k9 k10 k11 p12 : Int32) (o13 wD : Addr) (kD : ClassId) (sz14 : Int32) (h0 : Heap) (n0 : Nat) (X0 : Stand p l e room_1 s m args below meth c T0 locs 0 0) (N0 : Fr n0 locs) (hx : p.tables.exec = Jvm.exec) (hZ : Z.Warmed39 s.vm) (hby : c.code = code) (hml : c.maxLocals = 23) (hown : s.vm.findClass "com/example/mirante/mirante/FieldDefHasRuleChecksPinLaw" = some m.cls) (e0 : T0.heap = h0) (O0 : Old Z n0 h0) (HV_wD : Arv Z h0 wD kD (.object "java/lang/Object") (0 : Int32) [] .null) (S_DEFAULTCAPACITY_EMPTY_ELEMENTDATA : Sta Z Z.heap "java/util/ArrayList" "DEFAULTCAPACITY_EMPTY_ELEMENTDATA" "[Ljava/lang/Object;" (.ref wD)) (hsz14 : sz14 = if k6 = (0 : Int32) then (0 : Int32) else (1 : Int32)) :
    ∃ (T' : State) (locs' : List Loc) (h' : Heap) (b1 : Addr), Stand p l e room_1 s m args below meth c T' locs' 2 13 ∧ Fr n0 locs' ∧ T'.heap = h' ∧ Keep h0 h' [] ∧ h0.size ≤ b1 ∧ Exa Z h' b1 "java/util/ArrayList" ∧ Fld Z h' b1 "java/util/ArrayList" "size" "I" (.int sz14) ∧
      ∀ target, Steps p.tables e below (T'.setTop (mkF m 140 #[.val (.int p1), .val (.int p2), .val (.int p3), .val (.int p4), .val (.int p5), .val (.int p6), .val (.int k6), .val (.int k7), .val (.int k8), .val (.int k9), .val (.int k10), .val (.int k11), .val (.int p12), .val (.ref o13), .val (.ref b1), .unset, .unset, .unset, .unset, .unset, .unset, .unset, .unset] [])) target → Steps p.tables e below (T0.setTop (mkF m 117 #[.val (.int p1), .val (.int p2), .val (.int p3), .val (.int p4), .val (.int p5), .val (.int p6), .val (.int k6), .val (.int k7), .val (.int k8), .val (.int k9), .val (.int k10), .val (.int k11), .val (.int p12), .val (.ref o13), .unset, .unset, .unset, .unset, .unset, .unset, .unset, .unset, .unset] [])) target := by
  by_cases c1 : k6 = (0 : Int32)
  · rw [if_pos c1] at hsz14; subst hsz14
    obtain ⟨T', L', h', b1, X', N', e', K', z0', Y0', Y1', st'⟩ := tn117t hw p1 p2 p3 p4 p5 p6 k6 k7 k8 k9 k10 k11 p12 o13 wD kD h0 n0 X0 N0 hx hZ hby hml hown e0 O0 HV_wD S_DEFAULTCAPACITY_EMPTY_ELEMENTDATA c1
    exact ⟨T', L', h', b1, X'.more (by decide) (by decide), N', e', K', z0', Y0', Y1', st'⟩
  · rw [if_neg c1] at hsz14; subst hsz14
    obtain ⟨T', L', h', b1, X', N', e', K', z0', Y0', Y1', st'⟩ := tn117f hw p1 p2 p3 p4 p5 p6 k6 k7 k8 k9 k10 k11 p12 o13 wD kD h0 n0 X0 N0 hx hZ hby hml hown e0 O0 HV_wD S_DEFAULTCAPACITY_EMPTY_ELEMENTDATA c1
    exact ⟨T', L', h', b1, X'.more (by decide) (by decide), N', e', K', z0', Y0', Y1', st'⟩
set_option maxRecDepth 65536 in
set_option maxHeartbeats 40000000 in
theorem tn140t {p : Program} {l : Launch} {e : Env} {s : State} {m : MethodId} {args : Array Value} {below : List Frame} {meth : Method} {c : Code} {T0 : State} {locs : List Loc} {Z : State} {a0 : Array Value} (hw : ∀ d ∈ tables_1, d.before a0 Z = true) (p1 p2 p3 p4 p5 p6 k6 k7 k8 k9 k10 k11 p12 : Int32) (o13 o14 wD : Addr) (kD : ClassId) (wI : Addr) (clI : Cell) (h0 : Heap) (n0 : Nat) (X0 : Stand p l e room_1 s m args below meth c T0 locs 2 13) (N0 : Fr n0 locs) (hx : p.tables.exec = Jvm.exec) (hZ : Z.Warmed39 s.vm) (hby : c.code = code) (hml : c.maxLocals = 23) (hown : s.vm.findClass "com/example/mirante/mirante/FieldDefHasRuleChecksPinLaw" = some m.cls) (e0 : T0.heap = h0) (O0 : Old Z n0 h0) (HV_wD : Arv Z h0 wD kD (.object "java/lang/Object") (0 : Int32) [] .null) (S_DEFAULTCAPACITY_EMPTY_ELEMENTDATA : Sta Z Z.heap "java/util/ArrayList" "DEFAULTCAPACITY_EMPTY_ELEMENTDATA" "[Ljava/lang/Object;" (.ref wD)) (hc151 : k7 = (0 : Int32)) :
    ∃ (T' : State) (locs' : List Loc) (h' : Heap) (b1 : Addr) (b7 : Addr), Stand p l e room_1 s m args below meth c T' locs' 4 19 ∧ Fr n0 locs' ∧ T'.heap = h' ∧ Keep h0 h' [] ∧ h0.size ≤ b1 ∧ h0.size ≤ b7 ∧ b1 ≠ b7 ∧ Exa Z h' b1 "java/util/ArrayList" ∧ Fld Z h' b1 "java/util/ArrayList" "size" "I" (.int (0 : Int32)) ∧ Exa Z h' b7 "java/util/ArrayList" ∧ Fld Z h' b7 "java/util/AbstractList" "modCount" "I" (.int (0 : Int32)) ∧ Fld Z h' b7 "java/util/ArrayList" "elementData" "[Ljava/lang/Object;" (.ref wD) ∧ Fld Z h' b7 "java/util/ArrayList" "size" "I" (.int (0 : Int32)) ∧
      ∀ target, Steps p.tables e below (T'.setTop (mkF m 207 #[.val (.int p1), .val (.int p2), .val (.int p3), .val (.int p4), .val (.int p5), .val (.int p6), .val (.int k6), .val (.int k7), .val (.int k8), .val (.int k9), .val (.int k10), .val (.int k11), .val (.int p12), .val (.ref o13), .val (.ref o14), .val (.ref b1), .val (.ref b7), .unset, .unset, .unset, .unset, .unset, .unset] [])) target → Steps p.tables e below (T0.setTop (mkF m 140 #[.val (.int p1), .val (.int p2), .val (.int p3), .val (.int p4), .val (.int p5), .val (.int p6), .val (.int k6), .val (.int k7), .val (.int k8), .val (.int k9), .val (.int k10), .val (.int k11), .val (.int p12), .val (.ref o13), .val (.ref o14), .unset, .unset, .unset, .unset, .unset, .unset, .unset, .unset] [])) target := by
  have Z0 : n0 ≤ h0.size := O0.1 ▸ O0.2.1
  obtain ⟨T1, h1, X1, e1, E1, A1, D1, -, st1⟩ := newO X0 hx hZ hown (hw _ (List.mem_of_getElem? (i := 3) rfl)) (hw _ (List.mem_of_getElem? (i := 4) rfl)) (hw _ (List.mem_of_getElem? (i := 5) rfl)) e0 (g := (mkF m 140 #[.val (.int p1), .val (.int p2), .val (.int p3), .val (.int p4), .val (.int p5), .val (.int p6), .val (.int k6), .val (.int k7), .val (.int k8), .val (.int k9), .val (.int k10), .val (.int k11), .val (.int p12), .val (.ref o13), .val (.ref o14), .unset, .unset, .unset, .unset, .unset, .unset, .unset, .unset] [])) rfl (hb hby at_140) (by decide) (by decide)
  obtain ⟨b1, g1⟩ : ∃ z, z = h0.size := ⟨_, rfl⟩
  rw [← g1] at A1 D1 st1
  have g_b1 : n0 ≤ b1 := Nat.le_trans (Nat.le_trans Z0 (Keep.refl h0 []).1) (Nat.le_of_eq g1.symm)
  have sz_b1 : h0.size ≤ b1 := Nat.le_trans (Keep.refl h0 []).1 (Nat.le_of_eq g1.symm)
  have K2 : Keep h0 h1 [] := (Keep.refl h0 []).ext E1
  have O3 : Old Z n0 h1 := O0.ext E1
  have F_modCount_b1 : Fld Z h1 b1 "java/util/AbstractList" "modCount" "I" (.int (0 : Int32)) := D1 (Or.inl (hw _ (List.mem_of_getElem? (i := 25) rfl))) (ty := .int) (by decide)
  have F_elementData_b1 : Fld Z h1 b1 "java/util/ArrayList" "elementData" "[Ljava/lang/Object;" .null := D1 (Or.inl (hw _ (List.mem_of_getElem? (i := 28) rfl))) (ty := (.array (.object "java/lang/Object"))) (by decide)
  have F_size_b1 : Fld Z h1 b1 "java/util/ArrayList" "size" "I" (.int (0 : Int32)) := D1 (Or.inl (hw _ (List.mem_of_getElem? (i := 41) rfl))) (ty := .int) (by decide)
  replace X1 := X1.more (cells' := 3) (slots' := 16) (by decide) (by decide)
  obtain ⟨vr4, _, ⟨T4, L4, k4, n4⟩, -, X4, ⟨Lc4, hQ4, l4, y4, z4⟩, st4⟩ := X1.specialBack hx (y := (⟨"java/util/ArrayList", "<init>", "()V"⟩ : MethodName)) rfl hown (mvT hZ (hw _ (List.mem_of_getElem? (i := 6) rfl))) (mvT hZ (hw _ (List.mem_of_getElem? (i := 7) rfl))) (mvT hZ (hw _ (List.mem_of_getElem? (i := 8) rfl))) (by decide) (backOf (W := 1) (rm1 l Z a0 hw [] b1 ((.int (0 : Int32))) (.null) ((.int (0 : Int32))) wD h1 n0 O3 A1 F_modCount_b1 F_elementData_b1 F_size_b1 g_b1 S_DEFAULTCAPACITY_EMPTY_ELEMENTDATA) hZ (hw _ (List.mem_of_getElem? (i := 8) rfl)) (hw _ (List.mem_of_getElem? (i := 5) rfl)) (by decide) (by decide)) (g := (mkF m 144 #[.val (.int p1), .val (.int p2), .val (.int p3), .val (.int p4), .val (.int p5), .val (.int p6), .val (.int k6), .val (.int k7), .val (.int k8), .val (.int k9), .val (.int k10), .val (.int k11), .val (.int p12), .val (.ref o13), .val (.ref o14), .unset, .unset, .unset, .unset, .unset, .unset, .unset, .unset] [(.ref b1), (.ref b1)])) rfl (by rw [hml]; rfl) (Steps.refl _) (a := b1) (argsL := []) (rest := [(.ref b1)]) (lenOf pd_0 rfl) rfl (by show 2 * 0 + _ ≤ _; exact Nat.le_of_eq rfl) (hb hby at_144) (fun _ _ => ⟨rfl, e1, (by decide : 3 + 0 ≤ _), (by decide : 16 + 0 ≤ _)⟩)
  dsimp only [Pt.U, Pt.locs, Pt.cells, Pt.slots] at X4 l4 y4 z4 st4 hQ4
  subst l4 y4 z4
  obtain ⟨rfl, N4q, K4, Y4_0, Y4_1, Y4_2, Y4_3⟩ := hQ4
  have N4 := Fr.app N0 N4q
  replace X4 := X4.more (cells' := 3) (slots' := 16) (by decide) (by decide)
  have K5 : Keep h0 T4.heap [] := K2.trans K4 (allS (Or.inr sz_b1) all0)
  have O6 : Old Z n0 T4.heap := O3.keep K4 (allS g_b1 all0)
  obtain ⟨T7, h7, X7, e7, E7, A7, D7, -, st7⟩ := newO X4 hx hZ hown (hw _ (List.mem_of_getElem? (i := 3) rfl)) (hw _ (List.mem_of_getElem? (i := 4) rfl)) (hw _ (List.mem_of_getElem? (i := 5) rfl)) rfl (g := (mkF m 198 #[.val (.int p1), .val (.int p2), .val (.int p3), .val (.int p4), .val (.int p5), .val (.int p6), .val (.int k6), .val (.int k7), .val (.int k8), .val (.int k9), .val (.int k10), .val (.int k11), .val (.int p12), .val (.ref o13), .val (.ref o14), .val (.ref b1), .unset, .unset, .unset, .unset, .unset, .unset, .unset] [])) rfl (hb hby at_198) (by decide) (by decide)
  obtain ⟨b7, g7⟩ : ∃ z, z = T4.heap.size := ⟨_, rfl⟩
  rw [← g7] at A7 D7 st7
  have g_b7 : n0 ≤ b7 := Nat.le_trans (Nat.le_trans Z0 K5.1) (Nat.le_of_eq g7.symm)
  have sz_b7 : h0.size ≤ b7 := Nat.le_trans K5.1 (Nat.le_of_eq g7.symm)
  have K8 : Keep h0 h7 [] := K5.ext E7
  have O9 : Old Z n0 h7 := O6.ext E7
  have F_modCount_b7 : Fld Z h7 b7 "java/util/AbstractList" "modCount" "I" (.int (0 : Int32)) := D7 (Or.inl (hw _ (List.mem_of_getElem? (i := 25) rfl))) (ty := .int) (by decide)
  have F_elementData_b7 : Fld Z h7 b7 "java/util/ArrayList" "elementData" "[Ljava/lang/Object;" .null := D7 (Or.inl (hw _ (List.mem_of_getElem? (i := 28) rfl))) (ty := (.array (.object "java/lang/Object"))) (by decide)
  have F_size_b7 : Fld Z h7 b7 "java/util/ArrayList" "size" "I" (.int (0 : Int32)) := D7 (Or.inl (hw _ (List.mem_of_getElem? (i := 41) rfl))) (ty := .int) (by decide)
  replace X7 := X7.more (cells' := 4) (slots' := 19) (by decide) (by decide)
  obtain ⟨vr10, _, ⟨T10, L10, k10, n10⟩, -, X10, ⟨Lc10, hQ10, l10, y10, z10⟩, st10⟩ := X7.specialBack hx (y := (⟨"java/util/ArrayList", "<init>", "()V"⟩ : MethodName)) rfl hown (mvT hZ (hw _ (List.mem_of_getElem? (i := 6) rfl))) (mvT hZ (hw _ (List.mem_of_getElem? (i := 7) rfl))) (mvT hZ (hw _ (List.mem_of_getElem? (i := 8) rfl))) (by decide) (backOf (W := 1) (rm1 l Z a0 hw [] b7 ((.int (0 : Int32))) (.null) ((.int (0 : Int32))) wD h7 n0 O9 A7 F_modCount_b7 F_elementData_b7 F_size_b7 g_b7 S_DEFAULTCAPACITY_EMPTY_ELEMENTDATA) hZ (hw _ (List.mem_of_getElem? (i := 8) rfl)) (hw _ (List.mem_of_getElem? (i := 5) rfl)) (by decide) (by decide)) (g := (mkF m 202 #[.val (.int p1), .val (.int p2), .val (.int p3), .val (.int p4), .val (.int p5), .val (.int p6), .val (.int k6), .val (.int k7), .val (.int k8), .val (.int k9), .val (.int k10), .val (.int k11), .val (.int p12), .val (.ref o13), .val (.ref o14), .val (.ref b1), .unset, .unset, .unset, .unset, .unset, .unset, .unset] [(.ref b7), (.ref b7)])) rfl (by rw [hml]; rfl) (Steps.refl _) (a := b7) (argsL := []) (rest := [(.ref b7)]) (lenOf pd_0 rfl) rfl (by show 2 * 0 + _ ≤ _; exact Nat.le_of_eq rfl) (hb hby at_202) (fun _ _ => ⟨rfl, e7, (by decide : 4 + 0 ≤ _), (by decide : 19 + 0 ≤ _)⟩)
  dsimp only [Pt.U, Pt.locs, Pt.cells, Pt.slots] at X10 l10 y10 z10 st10 hQ10
  subst l10 y10 z10
  obtain ⟨rfl, N10q, K10, Y10_0, Y10_1, Y10_2, Y10_3⟩ := hQ10
  have N10 := Fr.app N4 N10q
  replace X10 := X10.more (cells' := 4) (slots' := 19) (by decide) (by decide)
  have K11 : Keep h0 T10.heap [] := K8.trans K10 (allS (Or.inr sz_b7) all0)
  have O12 : Old Z n0 T10.heap := O9.keep K10 (allS g_b7 all0)
  have f13 := ((Y4_0.ext E7).keep K10)
  have f14 := ((Y4_3.ext E7).keep K10 (ninS (Nat.ne_of_lt (Nat.lt_of_lt_of_le (Nat.lt_of_lt_of_le A1.lt K4.1) (Nat.le_of_eq g7.symm))) nin0))
  refine ⟨T10, _, _, b1, b7, X10, N10, rfl, K11, sz_b1, sz_b7, (Nat.ne_of_lt (Nat.lt_of_lt_of_le (Nat.lt_of_lt_of_le A1.lt K4.1) (Nat.le_of_eq g7.symm))), f13, f14, Y10_0, Y10_2, Y10_1, Y10_3, fun target kt => ?_⟩
  show Steps p.tables e below (T0.setTop (mkF m 140 #[.val (.int p1), .val (.int p2), .val (.int p3), .val (.int p4), .val (.int p5), .val (.int p6), .val (.int k6), .val (.int k7), .val (.int k8), .val (.int k9), .val (.int k10), .val (.int k11), .val (.int p12), .val (.ref o13), .val (.ref o14), .unset, .unset, .unset, .unset, .unset, .unset, .unset, .unset] [])) _
  refine st1 _ ?_
  show Steps p.tables e below (T1.setTop (mkF m 143 #[.val (.int p1), .val (.int p2), .val (.int p3), .val (.int p4), .val (.int p5), .val (.int p6), .val (.int k6), .val (.int k7), .val (.int k8), .val (.int k9), .val (.int k10), .val (.int k11), .val (.int p12), .val (.ref o13), .val (.ref o14), .unset, .unset, .unset, .unset, .unset, .unset, .unset, .unset] [(.ref b1)])) _
  refine XS.dup X1.here hx rfl (hb hby at_143) rfl rfl ?_
  show Steps p.tables e below (T1.setTop (mkF m 144 #[.val (.int p1), .val (.int p2), .val (.int p3), .val (.int p4), .val (.int p5), .val (.int p6), .val (.int k6), .val (.int k7), .val (.int k8), .val (.int k9), .val (.int k10), .val (.int k11), .val (.int p12), .val (.ref o13), .val (.ref o14), .unset, .unset, .unset, .unset, .unset, .unset, .unset, .unset] [(.ref b1), (.ref b1)])) _
  refine st4.trans ?_
  show Steps p.tables e below (T4.setTop (mkF m 147 #[.val (.int p1), .val (.int p2), .val (.int p3), .val (.int p4), .val (.int p5), .val (.int p6), .val (.int k6), .val (.int k7), .val (.int k8), .val (.int k9), .val (.int k10), .val (.int k11), .val (.int p12), .val (.ref o13), .val (.ref o14), .unset, .unset, .unset, .unset, .unset, .unset, .unset, .unset] [(.ref b1)])) _
  refine XS.astore X4.here hx rfl (hb hby at_147) rfl rfl (l' := #[.val (.int p1), .val (.int p2), .val (.int p3), .val (.int p4), .val (.int p5), .val (.int p6), .val (.int k6), .val (.int k7), .val (.int k8), .val (.int k9), .val (.int k10), .val (.int k11), .val (.int p12), .val (.ref o13), .val (.ref o14), .val (.ref b1), .unset, .unset, .unset, .unset, .unset, .unset, .unset]) rfl ?_
  show Steps p.tables e below (T4.setTop (mkF m 149 #[.val (.int p1), .val (.int p2), .val (.int p3), .val (.int p4), .val (.int p5), .val (.int p6), .val (.int k6), .val (.int k7), .val (.int k8), .val (.int k9), .val (.int k10), .val (.int k11), .val (.int p12), .val (.ref o13), .val (.ref o14), .val (.ref b1), .unset, .unset, .unset, .unset, .unset, .unset, .unset] [])) _
  refine XS.iload X4.here hx rfl (hb hby at_149) rfl ?_
  show Steps p.tables e below (T4.setTop (mkF m 151 #[.val (.int p1), .val (.int p2), .val (.int p3), .val (.int p4), .val (.int p5), .val (.int p6), .val (.int k6), .val (.int k7), .val (.int k8), .val (.int k9), .val (.int k10), .val (.int k11), .val (.int p12), .val (.ref o13), .val (.ref o14), .val (.ref b1), .unset, .unset, .unset, .unset, .unset, .unset, .unset] [(.int k7)])) _
  refine XS.ifYes X4.here hx rfl (pc0 := 151) (pc' := 198) rfl (hb hby at_151) rfl ((if0 _ _).trans (teq hc151).1) (by decide) (by decide) ?_
  show Steps p.tables e below (T4.setTop (mkF m 198 #[.val (.int p1), .val (.int p2), .val (.int p3), .val (.int p4), .val (.int p5), .val (.int p6), .val (.int k6), .val (.int k7), .val (.int k8), .val (.int k9), .val (.int k10), .val (.int k11), .val (.int p12), .val (.ref o13), .val (.ref o14), .val (.ref b1), .unset, .unset, .unset, .unset, .unset, .unset, .unset] [])) _
  refine st7 _ ?_
  show Steps p.tables e below (T7.setTop (mkF m 201 #[.val (.int p1), .val (.int p2), .val (.int p3), .val (.int p4), .val (.int p5), .val (.int p6), .val (.int k6), .val (.int k7), .val (.int k8), .val (.int k9), .val (.int k10), .val (.int k11), .val (.int p12), .val (.ref o13), .val (.ref o14), .val (.ref b1), .unset, .unset, .unset, .unset, .unset, .unset, .unset] [(.ref b7)])) _
  refine XS.dup X7.here hx rfl (hb hby at_201) rfl rfl ?_
  show Steps p.tables e below (T7.setTop (mkF m 202 #[.val (.int p1), .val (.int p2), .val (.int p3), .val (.int p4), .val (.int p5), .val (.int p6), .val (.int k6), .val (.int k7), .val (.int k8), .val (.int k9), .val (.int k10), .val (.int k11), .val (.int p12), .val (.ref o13), .val (.ref o14), .val (.ref b1), .unset, .unset, .unset, .unset, .unset, .unset, .unset] [(.ref b7), (.ref b7)])) _
  refine st10.trans ?_
  show Steps p.tables e below (T10.setTop (mkF m 205 #[.val (.int p1), .val (.int p2), .val (.int p3), .val (.int p4), .val (.int p5), .val (.int p6), .val (.int k6), .val (.int k7), .val (.int k8), .val (.int k9), .val (.int k10), .val (.int k11), .val (.int p12), .val (.ref o13), .val (.ref o14), .val (.ref b1), .unset, .unset, .unset, .unset, .unset, .unset, .unset] [(.ref b7)])) _
  refine XS.astore X10.here hx rfl (hb hby at_205) rfl rfl (l' := #[.val (.int p1), .val (.int p2), .val (.int p3), .val (.int p4), .val (.int p5), .val (.int p6), .val (.int k6), .val (.int k7), .val (.int k8), .val (.int k9), .val (.int k10), .val (.int k11), .val (.int p12), .val (.ref o13), .val (.ref o14), .val (.ref b1), .val (.ref b7), .unset, .unset, .unset, .unset, .unset, .unset]) rfl ?_
  exact kt
theorem pd_6 : parseMethodDescriptor "(I)Ljava/lang/Integer;" = some ⟨[.int], some (.object "java/lang/Integer")⟩ := by decide +kernel
set_option maxRecDepth 65536 in
set_option maxHeartbeats 40000000 in
theorem tn140f {p : Program} {l : Launch} {e : Env} {s : State} {m : MethodId} {args : Array Value} {below : List Frame} {meth : Method} {c : Code} {T0 : State} {locs : List Loc} {Z : State} {a0 : Array Value} (hw : ∀ d ∈ tables_1, d.before a0 Z = true) (p1 p2 p3 p4 p5 p6 k6 k7 k8 k9 k10 k11 p12 : Int32) (o13 o14 wD : Addr) (kD : ClassId) (wI : Addr) (clI : Cell) (h0 : Heap) (n0 : Nat) (X0 : Stand p l e room_1 s m args below meth c T0 locs 2 13) (N0 : Fr n0 locs) (hx : p.tables.exec = Jvm.exec) (hZ : Z.Warmed39 s.vm) (hby : c.code = code) (hml : c.maxLocals = 23) (hown : s.vm.findClass "com/example/mirante/mirante/FieldDefHasRuleChecksPinLaw" = some m.cls) (e0 : T0.heap = h0) (O0 : Old Z n0 h0) (HV_wD : Arv Z h0 wD kD (.object "java/lang/Object") (0 : Int32) [] .null) (S_DEFAULTCAPACITY_EMPTY_ELEMENTDATA : Sta Z Z.heap "java/util/ArrayList" "DEFAULTCAPACITY_EMPTY_ELEMENTDATA" "[Ljava/lang/Object;" (.ref wD)) (hc151 : ¬ (k7 = (0 : Int32))) (S_high : Sta Z Z.heap "java/lang/Integer$IntegerCache" "high" "I" (.int (127 : Int32))) (S_cache : Sta Z Z.heap "java/lang/Integer$IntegerCache" "cache" "[Ljava/lang/Integer;" (.ref wI)) (h166_HAI : Arr Z Z.heap wI clI (.object "java/lang/Integer")) (h166_HCI : ∀ j : Int32, ¬ j < 0 → j < 256 → ¬ (j < 0 ∨ clI.slots.size ≤ j.toNatClampNeg) ∧ ∃ y, clI.slots[j.toNatClampNeg]? = some (.ref y) ∧ Exa Z Z.heap y "java/lang/Integer") :
    ∃ (T' : State) (locs' : List Loc) (h' : Heap) (b1 : Addr) (b51 : Addr), Stand p l e room_1 s m args below meth c T' locs' 9 44 ∧ Fr n0 locs' ∧ T'.heap = h' ∧ Keep h0 h' [] ∧ h0.size ≤ b1 ∧ h0.size ≤ b51 ∧ b1 ≠ b51 ∧ Exa Z h' b1 "java/util/ArrayList" ∧ Fld Z h' b1 "java/util/ArrayList" "size" "I" (.int (1 : Int32)) ∧ Exa Z h' b51 "java/util/ArrayList" ∧ Fld Z h' b51 "java/util/AbstractList" "modCount" "I" (.int (0 : Int32)) ∧ Fld Z h' b51 "java/util/ArrayList" "elementData" "[Ljava/lang/Object;" (.ref wD) ∧ Fld Z h' b51 "java/util/ArrayList" "size" "I" (.int (0 : Int32)) ∧
      ∀ target, Steps p.tables e below (T'.setTop (mkF m 207 #[.val (.int p1), .val (.int p2), .val (.int p3), .val (.int p4), .val (.int p5), .val (.int p6), .val (.int k6), .val (.int k7), .val (.int k8), .val (.int k9), .val (.int k10), .val (.int k11), .val (.int p12), .val (.ref o13), .val (.ref o14), .val (.ref b1), .val (.ref b51), .unset, .unset, .unset, .unset, .unset, .unset] [])) target → Steps p.tables e below (T0.setTop (mkF m 140 #[.val (.int p1), .val (.int p2), .val (.int p3), .val (.int p4), .val (.int p5), .val (.int p6), .val (.int k6), .val (.int k7), .val (.int k8), .val (.int k9), .val (.int k10), .val (.int k11), .val (.int p12), .val (.ref o13), .val (.ref o14), .unset, .unset, .unset, .unset, .unset, .unset, .unset, .unset] [])) target := by
  have Z0 : n0 ≤ h0.size := O0.1 ▸ O0.2.1
  obtain ⟨T1, h1, X1, e1, E1, A1, D1, -, st1⟩ := newO X0 hx hZ hown (hw _ (List.mem_of_getElem? (i := 3) rfl)) (hw _ (List.mem_of_getElem? (i := 4) rfl)) (hw _ (List.mem_of_getElem? (i := 5) rfl)) e0 (g := (mkF m 140 #[.val (.int p1), .val (.int p2), .val (.int p3), .val (.int p4), .val (.int p5), .val (.int p6), .val (.int k6), .val (.int k7), .val (.int k8), .val (.int k9), .val (.int k10), .val (.int k11), .val (.int p12), .val (.ref o13), .val (.ref o14), .unset, .unset, .unset, .unset, .unset, .unset, .unset, .unset] [])) rfl (hb hby at_140) (by decide) (by decide)
  obtain ⟨b1, g1⟩ : ∃ z, z = h0.size := ⟨_, rfl⟩
  rw [← g1] at A1 D1 st1
  have g_b1 : n0 ≤ b1 := Nat.le_trans (Nat.le_trans Z0 (Keep.refl h0 []).1) (Nat.le_of_eq g1.symm)
  have sz_b1 : h0.size ≤ b1 := Nat.le_trans (Keep.refl h0 []).1 (Nat.le_of_eq g1.symm)
  have K2 : Keep h0 h1 [] := (Keep.refl h0 []).ext E1
  have O3 : Old Z n0 h1 := O0.ext E1
  have F_modCount_b1 : Fld Z h1 b1 "java/util/AbstractList" "modCount" "I" (.int (0 : Int32)) := D1 (Or.inl (hw _ (List.mem_of_getElem? (i := 25) rfl))) (ty := .int) (by decide)
  have F_elementData_b1 : Fld Z h1 b1 "java/util/ArrayList" "elementData" "[Ljava/lang/Object;" .null := D1 (Or.inl (hw _ (List.mem_of_getElem? (i := 28) rfl))) (ty := (.array (.object "java/lang/Object"))) (by decide)
  have F_size_b1 : Fld Z h1 b1 "java/util/ArrayList" "size" "I" (.int (0 : Int32)) := D1 (Or.inl (hw _ (List.mem_of_getElem? (i := 41) rfl))) (ty := .int) (by decide)
  replace X1 := X1.more (cells' := 3) (slots' := 16) (by decide) (by decide)
  obtain ⟨vr4, _, ⟨T4, L4, k4, n4⟩, -, X4, ⟨Lc4, hQ4, l4, y4, z4⟩, st4⟩ := X1.specialBack hx (y := (⟨"java/util/ArrayList", "<init>", "()V"⟩ : MethodName)) rfl hown (mvT hZ (hw _ (List.mem_of_getElem? (i := 6) rfl))) (mvT hZ (hw _ (List.mem_of_getElem? (i := 7) rfl))) (mvT hZ (hw _ (List.mem_of_getElem? (i := 8) rfl))) (by decide) (backOf (W := 1) (rm1 l Z a0 hw [] b1 ((.int (0 : Int32))) (.null) ((.int (0 : Int32))) wD h1 n0 O3 A1 F_modCount_b1 F_elementData_b1 F_size_b1 g_b1 S_DEFAULTCAPACITY_EMPTY_ELEMENTDATA) hZ (hw _ (List.mem_of_getElem? (i := 8) rfl)) (hw _ (List.mem_of_getElem? (i := 5) rfl)) (by decide) (by decide)) (g := (mkF m 144 #[.val (.int p1), .val (.int p2), .val (.int p3), .val (.int p4), .val (.int p5), .val (.int p6), .val (.int k6), .val (.int k7), .val (.int k8), .val (.int k9), .val (.int k10), .val (.int k11), .val (.int p12), .val (.ref o13), .val (.ref o14), .unset, .unset, .unset, .unset, .unset, .unset, .unset, .unset] [(.ref b1), (.ref b1)])) rfl (by rw [hml]; rfl) (Steps.refl _) (a := b1) (argsL := []) (rest := [(.ref b1)]) (lenOf pd_0 rfl) rfl (by show 2 * 0 + _ ≤ _; exact Nat.le_of_eq rfl) (hb hby at_144) (fun _ _ => ⟨rfl, e1, (by decide : 3 + 0 ≤ _), (by decide : 16 + 0 ≤ _)⟩)
  dsimp only [Pt.U, Pt.locs, Pt.cells, Pt.slots] at X4 l4 y4 z4 st4 hQ4
  subst l4 y4 z4
  obtain ⟨rfl, N4q, K4, Y4_0, Y4_1, Y4_2, Y4_3⟩ := hQ4
  have N4 := Fr.app N0 N4q
  replace X4 := X4.more (cells' := 3) (slots' := 16) (by decide) (by decide)
  have K5 : Keep h0 T4.heap [] := K2.trans K4 (allS (Or.inr sz_b1) all0)
  have O6 : Old Z n0 T4.heap := O3.keep K4 (allS g_b1 all0)
  obtain ⟨T7, h7, X7, e7, E7, A7, D7, -, st7⟩ := newO X4 hx hZ hown (hw _ (List.mem_of_getElem? (i := 3) rfl)) (hw _ (List.mem_of_getElem? (i := 4) rfl)) (hw _ (List.mem_of_getElem? (i := 5) rfl)) rfl (g := (mkF m 154 #[.val (.int p1), .val (.int p2), .val (.int p3), .val (.int p4), .val (.int p5), .val (.int p6), .val (.int k6), .val (.int k7), .val (.int k8), .val (.int k9), .val (.int k10), .val (.int k11), .val (.int p12), .val (.ref o13), .val (.ref o14), .val (.ref b1), .unset, .unset, .unset, .unset, .unset, .unset, .unset] [])) rfl (hb hby at_154) (by decide) (by decide)
  obtain ⟨b7, g7⟩ : ∃ z, z = T4.heap.size := ⟨_, rfl⟩
  rw [← g7] at A7 D7 st7
  have g_b7 : n0 ≤ b7 := Nat.le_trans (Nat.le_trans Z0 K5.1) (Nat.le_of_eq g7.symm)
  have sz_b7 : h0.size ≤ b7 := Nat.le_trans K5.1 (Nat.le_of_eq g7.symm)
  have K8 : Keep h0 h7 [] := K5.ext E7
  have O9 : Old Z n0 h7 := O6.ext E7
  have F_modCount_b7 : Fld Z h7 b7 "java/util/AbstractList" "modCount" "I" (.int (0 : Int32)) := D7 (Or.inl (hw _ (List.mem_of_getElem? (i := 25) rfl))) (ty := .int) (by decide)
  have F_elementData_b7 : Fld Z h7 b7 "java/util/ArrayList" "elementData" "[Ljava/lang/Object;" .null := D7 (Or.inl (hw _ (List.mem_of_getElem? (i := 28) rfl))) (ty := (.array (.object "java/lang/Object"))) (by decide)
  have F_size_b7 : Fld Z h7 b7 "java/util/ArrayList" "size" "I" (.int (0 : Int32)) := D7 (Or.inl (hw _ (List.mem_of_getElem? (i := 41) rfl))) (ty := .int) (by decide)
  replace X7 := X7.more (cells' := 4) (slots' := 19) (by decide) (by decide)
  obtain ⟨vr10, _, ⟨T10, L10, k10, n10⟩, -, X10, ⟨Lc10, hQ10, l10, y10, z10⟩, st10⟩ := X7.specialBack hx (y := (⟨"java/util/ArrayList", "<init>", "()V"⟩ : MethodName)) rfl hown (mvT hZ (hw _ (List.mem_of_getElem? (i := 6) rfl))) (mvT hZ (hw _ (List.mem_of_getElem? (i := 7) rfl))) (mvT hZ (hw _ (List.mem_of_getElem? (i := 8) rfl))) (by decide) (backOf (W := 1) (rm1 l Z a0 hw [] b7 ((.int (0 : Int32))) (.null) ((.int (0 : Int32))) wD h7 n0 O9 A7 F_modCount_b7 F_elementData_b7 F_size_b7 g_b7 S_DEFAULTCAPACITY_EMPTY_ELEMENTDATA) hZ (hw _ (List.mem_of_getElem? (i := 8) rfl)) (hw _ (List.mem_of_getElem? (i := 5) rfl)) (by decide) (by decide)) (g := (mkF m 158 #[.val (.int p1), .val (.int p2), .val (.int p3), .val (.int p4), .val (.int p5), .val (.int p6), .val (.int k6), .val (.int k7), .val (.int k8), .val (.int k9), .val (.int k10), .val (.int k11), .val (.int p12), .val (.ref o13), .val (.ref o14), .val (.ref b1), .unset, .unset, .unset, .unset, .unset, .unset, .unset] [(.ref b7), (.ref b7)])) rfl (by rw [hml]; rfl) (Steps.refl _) (a := b7) (argsL := []) (rest := [(.ref b7)]) (lenOf pd_0 rfl) rfl (by show 2 * 0 + _ ≤ _; exact Nat.le_of_eq rfl) (hb hby at_158) (fun _ _ => ⟨rfl, e7, (by decide : 4 + 0 ≤ _), (by decide : 19 + 0 ≤ _)⟩)
  dsimp only [Pt.U, Pt.locs, Pt.cells, Pt.slots] at X10 l10 y10 z10 st10 hQ10
  subst l10 y10 z10
  obtain ⟨rfl, N10q, K10, Y10_0, Y10_1, Y10_2, Y10_3⟩ := hQ10
  have N10 := Fr.app N4 N10q
  replace X10 := X10.more (cells' := 4) (slots' := 19) (by decide) (by decide)
  have K11 : Keep h0 T10.heap [] := K8.trans K10 (allS (Or.inr sz_b7) all0)
  have O12 : Old Z n0 T10.heap := O9.keep K10 (allS g_b7 all0)
  obtain ⟨vr13, _, ⟨T13, L13, k13, n13⟩, -, X13, ⟨Lc13, hQ13, l13, y13, z13⟩, st13⟩ := Jvm.LawKit.callS X10 hx (y := (⟨"java/lang/Integer", "valueOf", "(I)Ljava/lang/Integer;"⟩ : MethodName)) hown (mvT hZ (hw _ (List.mem_of_getElem? (i := 145) rfl))) (mvT hZ (hw _ (List.mem_of_getElem? (i := 146) rfl))) (mvT hZ (hw _ (List.mem_of_getElem? (i := 147) rfl))) (mvT hZ (hw _ (List.mem_of_getElem? (i := 148) rfl))) (by decide) (backOf (W := 1) (rm18 l Z a0 hw [] p1 wI clI T10.heap n0 O12 S_high S_cache h166_HAI h166_HCI) hZ (hw _ (List.mem_of_getElem? (i := 148) rfl)) (hw _ (List.mem_of_getElem? (i := 147) rfl)) (by decide) (by decide)) (g := (mkF m 166 #[.val (.int p1), .val (.int p2), .val (.int p3), .val (.int p4), .val (.int p5), .val (.int p6), .val (.int k6), .val (.int k7), .val (.int k8), .val (.int k9), .val (.int k10), .val (.int k11), .val (.int p12), .val (.ref o13), .val (.ref o14), .val (.ref b1), .val (.ref b7), .unset, .unset, .unset, .unset, .unset, .unset] [(.int p1), (.ref b7)])) rfl (by rw [hml]; rfl) (argsL := [(.int p1)]) (rest := [(.ref b7)]) (lenOf pd_6 rfl) rfl (by show 2 * 0 + _ ≤ _; exact Nat.le_of_eq rfl) (hb hby at_166) (fun _ _ => ⟨rfl, rfl, (by decide : 4 + 1 ≤ _), (by decide : 19 + 1 ≤ _)⟩)
  dsimp only [Pt.U, Pt.locs, Pt.cells, Pt.slots] at X13 l13 y13 z13 st13 hQ13
  subst l13 y13 z13
  obtain ⟨y14, rfl, N13q, K13, Y13_0⟩ := hQ13
  have N13 := Fr.app N10 N13q
  replace X13 := X13.more (cells' := 5) (slots' := 20) (by decide) (by decide)
  have K15 : Keep h0 T13.heap [] := K11.trans K13 all0
  have O16 : Old Z n0 T13.heap := O12.keep K13 all0
  have f17 := (Y10_0.keep K13)
  have f18 := (Y10_2.keep K13 nin0)
  have f19 := (Y10_1.keep K13 nin0)
  have f20 := (Y10_3.keep K13 nin0)
  have f21 := (((((HV_wD.ext E1).keep K4 (ninS (Nat.ne_of_lt (Nat.lt_of_lt_of_le HV_wD.lt (Nat.le_of_eq g1.symm))) nin0)).ext E7).keep K10 (ninS (Nat.ne_of_lt (Nat.lt_of_lt_of_le (Nat.lt_of_lt_of_le HV_wD.lt (Nat.le_trans E1.1 K4.1)) (Nat.le_of_eq g7.symm))) nin0)).keep K13 nin0)
  obtain ⟨cq22, kq22, q22a, q22b, q22c⟩ := isOf hZ rfl f17
  obtain ⟨vr22, _, ⟨T22, L22, k22, n22⟩, -, X22, ⟨Lc22, hQ22, l22, y22, z22⟩, st22⟩ := X13.interfaceBack hx (xi := (⟨"java/util/List", "add", "(Ljava/lang/Object;)Z"⟩ : MethodName)) (y := (⟨"java/util/ArrayList", "add", "(Ljava/lang/Object;)Z"⟩ : MethodName)) hown (mvT hZ (hw _ (List.mem_of_getElem? (i := 29) rfl))) (mvT hZ (hw _ (List.mem_of_getElem? (i := 30) rfl))) (mvT hZ (hw _ (List.mem_of_getElem? (i := 31) rfl))) (mvT hZ (hw _ (List.mem_of_getElem? (i := 32) rfl))) (mvT hZ (hw _ (List.mem_of_getElem? (i := 33) rfl))) (mvT hZ (hw _ (List.mem_of_getElem? (i := 34) rfl))) (mvT hZ (hw _ (List.mem_of_getElem? (i := 35) rfl))) (mvT hZ (hw _ (List.mem_of_getElem? (i := 36) rfl))) (by decide) (backOf (W := 0) (rm5f l Z a0 hw [] b7 y14 ((0 : Int32)) kD wD T13.heap n0 O16 f17 f18 f19 f20 f21 g_b7 (Nat.ne_of_lt (Nat.lt_of_lt_of_le (Nat.lt_of_lt_of_le HV_wD.lt (Nat.le_trans E1.1 K4.1)) (Nat.le_of_eq g7.symm))) S_DEFAULTCAPACITY_EMPTY_ELEMENTDATA (Ins.of_exa Y13_0 (hw _ (List.mem_of_getElem? (i := 152) rfl)))) hZ (hw _ (List.mem_of_getElem? (i := 37) rfl)) (hw _ (List.mem_of_getElem? (i := 5) rfl)) (by decide) (by decide)) q22a q22b q22c (g := (mkF m 169 #[.val (.int p1), .val (.int p2), .val (.int p3), .val (.int p4), .val (.int p5), .val (.int p6), .val (.int k6), .val (.int k7), .val (.int k8), .val (.int k9), .val (.int k10), .val (.int k11), .val (.int p12), .val (.ref o13), .val (.ref o14), .val (.ref b1), .val (.ref b7), .unset, .unset, .unset, .unset, .unset, .unset] [(.ref y14), (.ref b7)])) rfl (by rw [hml]; rfl) (Steps.refl _) (argsL := [(.ref y14)]) (rest := []) (lenOf pd_12 rfl) rfl (by show 2 * 0 + _ ≤ _; exact Nat.le_of_eq rfl) (hb hby at_169) (fun _ _ => ⟨rfl, rfl, (by decide : 5 + 1 ≤ _), (by decide : 20 + 10 ≤ _)⟩)
  dsimp only [Pt.U, Pt.locs, Pt.cells, Pt.slots] at X22 l22 y22 z22 st22 hQ22
  subst l22 y22 z22
  obtain ⟨b23, k24, rfl, N22q, K22, Y22_z0, Y22_0, Y22_1, Y22_2, Y22_3, Y22_4, Y22_5, Y22_6⟩ := hQ22
  have N22 := Fr.app N13 N22q
  replace X22 := X22.more (cells' := 6) (slots' := 30) (by decide) (by decide)
  have g_b23 : n0 ≤ b23 := Nat.le_trans (Nat.le_trans Z0 K15.1) Y22_z0
  have sz_b23 : h0.size ≤ b23 := Nat.le_trans K15.1 Y22_z0
  have K25 : Keep h0 T22.heap [] := K15.trans K22 (allS (Or.inr sz_b7) all0)
  have O26 : Old Z n0 T22.heap := O16.keep K22 (allS g_b7 all0)
  obtain ⟨vr27, _, ⟨T27, L27, k27, n27⟩, -, X27, ⟨Lc27, hQ27, l27, y27, z27⟩, st27⟩ := Jvm.LawKit.callS X22 hx (y := (⟨"java/lang/Integer", "valueOf", "(I)Ljava/lang/Integer;"⟩ : MethodName)) hown (mvT hZ (hw _ (List.mem_of_getElem? (i := 145) rfl))) (mvT hZ (hw _ (List.mem_of_getElem? (i := 146) rfl))) (mvT hZ (hw _ (List.mem_of_getElem? (i := 147) rfl))) (mvT hZ (hw _ (List.mem_of_getElem? (i := 148) rfl))) (by decide) (backOf (W := 1) (rm18 l Z a0 hw [] p6 wI clI T22.heap n0 O26 S_high S_cache h166_HAI h166_HCI) hZ (hw _ (List.mem_of_getElem? (i := 148) rfl)) (hw _ (List.mem_of_getElem? (i := 147) rfl)) (by decide) (by decide)) (g := (mkF m 179 #[.val (.int p1), .val (.int p2), .val (.int p3), .val (.int p4), .val (.int p5), .val (.int p6), .val (.int k6), .val (.int k7), .val (.int k8), .val (.int k9), .val (.int k10), .val (.int k11), .val (.int p12), .val (.ref o13), .val (.ref o14), .val (.ref b1), .val (.ref b7), .unset, .unset, .unset, .unset, .unset, .unset] [(.int p6), (.ref b7)])) rfl (by rw [hml]; rfl) (argsL := [(.int p6)]) (rest := [(.ref b7)]) (lenOf pd_6 rfl) rfl (by show 2 * 0 + _ ≤ _; exact Nat.le_of_eq rfl) (hb hby at_179) (fun _ _ => ⟨rfl, rfl, (by decide : 6 + 1 ≤ _), (by decide : 30 + 1 ≤ _)⟩)
  dsimp only [Pt.U, Pt.locs, Pt.cells, Pt.slots] at X27 l27 y27 z27 st27 hQ27
  subst l27 y27 z27
  obtain ⟨y28, rfl, N27q, K27, Y27_0⟩ := hQ27
  have N27 := Fr.app N22 N27q
  replace X27 := X27.more (cells' := 7) (slots' := 31) (by decide) (by decide)
  have K29 : Keep h0 T27.heap [] := K25.trans K27 all0
  have O30 : Old Z n0 T27.heap := O26.keep K27 all0
  have f31 := (Y22_0.keep K27)
  have f32 := (Y22_2.keep K27 nin0)
  have f33 := (Y22_1.keep K27 nin0)
  have f34 := (Y22_3.keep K27 nin0)
  have f35 := (Y22_4.keep K27)
  have f36 := (Y22_5.keep K27 nin0)
  have f37 := Y22_6
  obtain ⟨cq38, kq38, q38a, q38b, q38c⟩ := isOf hZ rfl f31
  obtain ⟨vr38, _, ⟨T38, L38, k38, n38⟩, -, X38, ⟨Lc38, hQ38, l38, y38, z38⟩, st38⟩ := X27.interfaceBack hx (xi := (⟨"java/util/List", "add", "(Ljava/lang/Object;)Z"⟩ : MethodName)) (y := (⟨"java/util/ArrayList", "add", "(Ljava/lang/Object;)Z"⟩ : MethodName)) hown (mvT hZ (hw _ (List.mem_of_getElem? (i := 29) rfl))) (mvT hZ (hw _ (List.mem_of_getElem? (i := 30) rfl))) (mvT hZ (hw _ (List.mem_of_getElem? (i := 31) rfl))) (mvT hZ (hw _ (List.mem_of_getElem? (i := 32) rfl))) (mvT hZ (hw _ (List.mem_of_getElem? (i := 33) rfl))) (mvT hZ (hw _ (List.mem_of_getElem? (i := 34) rfl))) (mvT hZ (hw _ (List.mem_of_getElem? (i := 35) rfl))) (mvT hZ (hw _ (List.mem_of_getElem? (i := 36) rfl))) (by decide) (backOf (W := 0) (rm5r1a l Z a0 hw [] b7 y28 (((0 : Int32) + (1 : Int32))) k24 y14 b23 T27.heap n0 O30 f31 f32 f33 f34 f35 f36 f37 g_b7 (Ne.symm (Nat.ne_of_lt (Nat.lt_of_lt_of_le (Nat.lt_of_lt_of_le A7.lt (Nat.le_trans K10.1 K13.1)) Y22_z0))) (Ins.of_exa Y27_0 (hw _ (List.mem_of_getElem? (i := 152) rfl))) g_b23) hZ (hw _ (List.mem_of_getElem? (i := 37) rfl)) (hw _ (List.mem_of_getElem? (i := 5) rfl)) (by decide) (by decide)) q38a q38b q38c (g := (mkF m 182 #[.val (.int p1), .val (.int p2), .val (.int p3), .val (.int p4), .val (.int p5), .val (.int p6), .val (.int k6), .val (.int k7), .val (.int k8), .val (.int k9), .val (.int k10), .val (.int k11), .val (.int p12), .val (.ref o13), .val (.ref o14), .val (.ref b1), .val (.ref b7), .unset, .unset, .unset, .unset, .unset, .unset] [(.ref y28), (.ref b7)])) rfl (by rw [hml]; rfl) (Steps.refl _) (argsL := [(.ref y28)]) (rest := []) (lenOf pd_12 rfl) rfl (by show 2 * 0 + _ ≤ _; exact Nat.le_of_eq rfl) (hb hby at_182) (fun _ _ => ⟨rfl, rfl, (by decide : 7 + 0 ≤ _), (by decide : 31 + 0 ≤ _)⟩)
  dsimp only [Pt.U, Pt.locs, Pt.cells, Pt.slots] at X38 l38 y38 z38 st38 hQ38
  subst l38 y38 z38
  obtain ⟨rfl, N38q, K38, Y38_0, Y38_1, Y38_2, Y38_3, Y38_4, Y38_5, Y38_6⟩ := hQ38
  have N38 := Fr.app N27 N38q
  replace X38 := X38.more (cells' := 7) (slots' := 31) (by decide) (by decide)
  have K39 : Keep h0 T38.heap [] := K29.trans K38 (allS (Or.inr sz_b7) (allS (Or.inr sz_b23) all0))
  have O40 : Old Z n0 T38.heap := O30.keep K38 (allS g_b7 (allS g_b23 all0))
  have f41 := ((((((Y4_0.ext E7).keep K10).keep K13).keep K22).keep K27).keep K38)
  have f42 := ((((((Y4_2.ext E7).keep K10 (ninS (Nat.ne_of_lt (Nat.lt_of_lt_of_le (Nat.lt_of_lt_of_le A1.lt K4.1) (Nat.le_of_eq g7.symm))) nin0)).keep K13 nin0).keep K22 (ninS (Nat.ne_of_lt (Nat.lt_of_lt_of_le (Nat.lt_of_lt_of_le A1.lt K4.1) (Nat.le_of_eq g7.symm))) nin0)).keep K27 nin0).keep K38 (ninS (Nat.ne_of_lt (Nat.lt_of_lt_of_le (Nat.lt_of_lt_of_le A1.lt K4.1) (Nat.le_of_eq g7.symm))) (ninS (Nat.ne_of_lt (Nat.lt_of_lt_of_le (Nat.lt_of_lt_of_le A1.lt (Nat.le_trans (Nat.le_trans (Nat.le_trans K4.1 E7.1) K10.1) K13.1)) Y22_z0)) nin0)))
  have f43 := ((((((Y4_1.ext E7).keep K10 (ninS (Nat.ne_of_lt (Nat.lt_of_lt_of_le (Nat.lt_of_lt_of_le A1.lt K4.1) (Nat.le_of_eq g7.symm))) nin0)).keep K13 nin0).keep K22 (ninS (Nat.ne_of_lt (Nat.lt_of_lt_of_le (Nat.lt_of_lt_of_le A1.lt K4.1) (Nat.le_of_eq g7.symm))) nin0)).keep K27 nin0).keep K38 (ninS (Nat.ne_of_lt (Nat.lt_of_lt_of_le (Nat.lt_of_lt_of_le A1.lt K4.1) (Nat.le_of_eq g7.symm))) (ninS (Nat.ne_of_lt (Nat.lt_of_lt_of_le (Nat.lt_of_lt_of_le A1.lt (Nat.le_trans (Nat.le_trans (Nat.le_trans K4.1 E7.1) K10.1) K13.1)) Y22_z0)) nin0)))
  have f44 := ((((((Y4_3.ext E7).keep K10 (ninS (Nat.ne_of_lt (Nat.lt_of_lt_of_le (Nat.lt_of_lt_of_le A1.lt K4.1) (Nat.le_of_eq g7.symm))) nin0)).keep K13 nin0).keep K22 (ninS (Nat.ne_of_lt (Nat.lt_of_lt_of_le (Nat.lt_of_lt_of_le A1.lt K4.1) (Nat.le_of_eq g7.symm))) nin0)).keep K27 nin0).keep K38 (ninS (Nat.ne_of_lt (Nat.lt_of_lt_of_le (Nat.lt_of_lt_of_le A1.lt K4.1) (Nat.le_of_eq g7.symm))) (ninS (Nat.ne_of_lt (Nat.lt_of_lt_of_le (Nat.lt_of_lt_of_le A1.lt (Nat.le_trans (Nat.le_trans (Nat.le_trans K4.1 E7.1) K10.1) K13.1)) Y22_z0)) nin0)))
  have f45 := (((f21.keep K22 (ninS (Nat.ne_of_lt (Nat.lt_of_lt_of_le (Nat.lt_of_lt_of_le HV_wD.lt (Nat.le_trans E1.1 K4.1)) (Nat.le_of_eq g7.symm))) nin0)).keep K27 nin0).keep K38 (ninS (Nat.ne_of_lt (Nat.lt_of_lt_of_le (Nat.lt_of_lt_of_le HV_wD.lt (Nat.le_trans E1.1 K4.1)) (Nat.le_of_eq g7.symm))) (ninS (Nat.ne_of_lt (Nat.lt_of_lt_of_le (Nat.lt_of_lt_of_le HV_wD.lt (Nat.le_trans (Nat.le_trans (Nat.le_trans (Nat.le_trans E1.1 K4.1) E7.1) K10.1) K13.1)) Y22_z0)) nin0)))
  obtain ⟨cq46, kq46, q46a, q46b, q46c⟩ := isOf hZ rfl f41
  obtain ⟨vr46, _, ⟨T46, L46, k46, n46⟩, -, X46, ⟨Lc46, hQ46, l46, y46, z46⟩, st46⟩ := X38.interfaceBack hx (xi := (⟨"java/util/List", "add", "(Ljava/lang/Object;)Z"⟩ : MethodName)) (y := (⟨"java/util/ArrayList", "add", "(Ljava/lang/Object;)Z"⟩ : MethodName)) hown (mvT hZ (hw _ (List.mem_of_getElem? (i := 29) rfl))) (mvT hZ (hw _ (List.mem_of_getElem? (i := 30) rfl))) (mvT hZ (hw _ (List.mem_of_getElem? (i := 31) rfl))) (mvT hZ (hw _ (List.mem_of_getElem? (i := 32) rfl))) (mvT hZ (hw _ (List.mem_of_getElem? (i := 33) rfl))) (mvT hZ (hw _ (List.mem_of_getElem? (i := 34) rfl))) (mvT hZ (hw _ (List.mem_of_getElem? (i := 35) rfl))) (mvT hZ (hw _ (List.mem_of_getElem? (i := 36) rfl))) (by decide) (backOf (W := 0) (rm5f l Z a0 hw [] b1 b7 ((0 : Int32)) kD wD T38.heap n0 O40 f41 f42 f43 f44 f45 g_b1 (Nat.ne_of_lt (Nat.lt_of_lt_of_le HV_wD.lt (Nat.le_of_eq g1.symm))) S_DEFAULTCAPACITY_EMPTY_ELEMENTDATA (Ins.of_exa Y38_0 (hw _ (List.mem_of_getElem? (i := 153) rfl)))) hZ (hw _ (List.mem_of_getElem? (i := 37) rfl)) (hw _ (List.mem_of_getElem? (i := 5) rfl)) (by decide) (by decide)) q46a q46b q46c (g := (mkF m 192 #[.val (.int p1), .val (.int p2), .val (.int p3), .val (.int p4), .val (.int p5), .val (.int p6), .val (.int k6), .val (.int k7), .val (.int k8), .val (.int k9), .val (.int k10), .val (.int k11), .val (.int p12), .val (.ref o13), .val (.ref o14), .val (.ref b1), .val (.ref b7), .unset, .unset, .unset, .unset, .unset, .unset] [(.ref b7), (.ref b1)])) rfl (by rw [hml]; rfl) (Steps.refl _) (argsL := [(.ref b7)]) (rest := []) (lenOf pd_12 rfl) rfl (by show 2 * 0 + _ ≤ _; exact Nat.le_of_eq rfl) (hb hby at_192) (fun _ _ => ⟨rfl, rfl, (by decide : 7 + 1 ≤ _), (by decide : 31 + 10 ≤ _)⟩)
  dsimp only [Pt.U, Pt.locs, Pt.cells, Pt.slots] at X46 l46 y46 z46 st46 hQ46
  subst l46 y46 z46
  obtain ⟨b47, k48, rfl, N46q, K46, Y46_z0, Y46_0, Y46_1, Y46_2, Y46_3, Y46_4, Y46_5, Y46_6⟩ := hQ46
  have N46 := Fr.app N38 N46q
  replace X46 := X46.more (cells' := 8) (slots' := 41) (by decide) (by decide)
  have g_b47 : n0 ≤ b47 := Nat.le_trans (Nat.le_trans Z0 K39.1) Y46_z0
  have sz_b47 : h0.size ≤ b47 := Nat.le_trans K39.1 Y46_z0
  have K49 : Keep h0 T46.heap [] := K39.trans K46 (allS (Or.inr sz_b1) all0)
  have O50 : Old Z n0 T46.heap := O40.keep K46 (allS g_b1 all0)
  obtain ⟨T51, h51, X51, e51, E51, A51, D51, -, st51⟩ := newO X46 hx hZ hown (hw _ (List.mem_of_getElem? (i := 3) rfl)) (hw _ (List.mem_of_getElem? (i := 4) rfl)) (hw _ (List.mem_of_getElem? (i := 5) rfl)) rfl (g := (mkF m 198 #[.val (.int p1), .val (.int p2), .val (.int p3), .val (.int p4), .val (.int p5), .val (.int p6), .val (.int k6), .val (.int k7), .val (.int k8), .val (.int k9), .val (.int k10), .val (.int k11), .val (.int p12), .val (.ref o13), .val (.ref o14), .val (.ref b1), .val (.ref b7), .unset, .unset, .unset, .unset, .unset, .unset] [])) rfl (hb hby at_198) (by decide) (by decide)
  obtain ⟨b51, g51⟩ : ∃ z, z = T46.heap.size := ⟨_, rfl⟩
  rw [← g51] at A51 D51 st51
  have g_b51 : n0 ≤ b51 := Nat.le_trans (Nat.le_trans Z0 K49.1) (Nat.le_of_eq g51.symm)
  have sz_b51 : h0.size ≤ b51 := Nat.le_trans K49.1 (Nat.le_of_eq g51.symm)
  have K52 : Keep h0 h51 [] := K49.ext E51
  have O53 : Old Z n0 h51 := O50.ext E51
  have F_modCount_b51 : Fld Z h51 b51 "java/util/AbstractList" "modCount" "I" (.int (0 : Int32)) := D51 (Or.inl (hw _ (List.mem_of_getElem? (i := 25) rfl))) (ty := .int) (by decide)
  have F_elementData_b51 : Fld Z h51 b51 "java/util/ArrayList" "elementData" "[Ljava/lang/Object;" .null := D51 (Or.inl (hw _ (List.mem_of_getElem? (i := 28) rfl))) (ty := (.array (.object "java/lang/Object"))) (by decide)
  have F_size_b51 : Fld Z h51 b51 "java/util/ArrayList" "size" "I" (.int (0 : Int32)) := D51 (Or.inl (hw _ (List.mem_of_getElem? (i := 41) rfl))) (ty := .int) (by decide)
  replace X51 := X51.more (cells' := 9) (slots' := 44) (by decide) (by decide)
  obtain ⟨vr54, _, ⟨T54, L54, k54, n54⟩, -, X54, ⟨Lc54, hQ54, l54, y54, z54⟩, st54⟩ := X51.specialBack hx (y := (⟨"java/util/ArrayList", "<init>", "()V"⟩ : MethodName)) rfl hown (mvT hZ (hw _ (List.mem_of_getElem? (i := 6) rfl))) (mvT hZ (hw _ (List.mem_of_getElem? (i := 7) rfl))) (mvT hZ (hw _ (List.mem_of_getElem? (i := 8) rfl))) (by decide) (backOf (W := 1) (rm1 l Z a0 hw [] b51 ((.int (0 : Int32))) (.null) ((.int (0 : Int32))) wD h51 n0 O53 A51 F_modCount_b51 F_elementData_b51 F_size_b51 g_b51 S_DEFAULTCAPACITY_EMPTY_ELEMENTDATA) hZ (hw _ (List.mem_of_getElem? (i := 8) rfl)) (hw _ (List.mem_of_getElem? (i := 5) rfl)) (by decide) (by decide)) (g := (mkF m 202 #[.val (.int p1), .val (.int p2), .val (.int p3), .val (.int p4), .val (.int p5), .val (.int p6), .val (.int k6), .val (.int k7), .val (.int k8), .val (.int k9), .val (.int k10), .val (.int k11), .val (.int p12), .val (.ref o13), .val (.ref o14), .val (.ref b1), .val (.ref b7), .unset, .unset, .unset, .unset, .unset, .unset] [(.ref b51), (.ref b51)])) rfl (by rw [hml]; rfl) (Steps.refl _) (a := b51) (argsL := []) (rest := [(.ref b51)]) (lenOf pd_0 rfl) rfl (by show 2 * 0 + _ ≤ _; exact Nat.le_of_eq rfl) (hb hby at_202) (fun _ _ => ⟨rfl, e51, (by decide : 9 + 0 ≤ _), (by decide : 44 + 0 ≤ _)⟩)
  dsimp only [Pt.U, Pt.locs, Pt.cells, Pt.slots] at X54 l54 y54 z54 st54 hQ54
  subst l54 y54 z54
  obtain ⟨rfl, N54q, K54, Y54_0, Y54_1, Y54_2, Y54_3⟩ := hQ54
  have N54 := Fr.app N46 N54q
  replace X54 := X54.more (cells' := 9) (slots' := 44) (by decide) (by decide)
  have K55 : Keep h0 T54.heap [] := K52.trans K54 (allS (Or.inr sz_b51) all0)
  have O56 : Old Z n0 T54.heap := O53.keep K54 (allS g_b51 all0)
  have f57 := ((Y46_0.ext E51).keep K54)
  have f58 := ((Y46_3.ext E51).keep K54 (ninS (Nat.ne_of_lt (Nat.lt_of_lt_of_le (Nat.lt_of_lt_of_le A1.lt (Nat.le_trans (Nat.le_trans (Nat.le_trans (Nat.le_trans (Nat.le_trans (Nat.le_trans (Nat.le_trans K4.1 E7.1) K10.1) K13.1) K22.1) K27.1) K38.1) K46.1)) (Nat.le_of_eq g51.symm))) nin0))
  refine ⟨T54, _, _, b1, b51, X54, N54, rfl, K55, sz_b1, sz_b51, (Nat.ne_of_lt (Nat.lt_of_lt_of_le (Nat.lt_of_lt_of_le A1.lt (Nat.le_trans (Nat.le_trans (Nat.le_trans (Nat.le_trans (Nat.le_trans (Nat.le_trans (Nat.le_trans K4.1 E7.1) K10.1) K13.1) K22.1) K27.1) K38.1) K46.1)) (Nat.le_of_eq g51.symm))), f57, f58, Y54_0, Y54_2, Y54_1, Y54_3, fun target kt => ?_⟩
  show Steps p.tables e below (T0.setTop (mkF m 140 #[.val (.int p1), .val (.int p2), .val (.int p3), .val (.int p4), .val (.int p5), .val (.int p6), .val (.int k6), .val (.int k7), .val (.int k8), .val (.int k9), .val (.int k10), .val (.int k11), .val (.int p12), .val (.ref o13), .val (.ref o14), .unset, .unset, .unset, .unset, .unset, .unset, .unset, .unset] [])) _
  refine st1 _ ?_
  show Steps p.tables e below (T1.setTop (mkF m 143 #[.val (.int p1), .val (.int p2), .val (.int p3), .val (.int p4), .val (.int p5), .val (.int p6), .val (.int k6), .val (.int k7), .val (.int k8), .val (.int k9), .val (.int k10), .val (.int k11), .val (.int p12), .val (.ref o13), .val (.ref o14), .unset, .unset, .unset, .unset, .unset, .unset, .unset, .unset] [(.ref b1)])) _
  refine XS.dup X1.here hx rfl (hb hby at_143) rfl rfl ?_
  show Steps p.tables e below (T1.setTop (mkF m 144 #[.val (.int p1), .val (.int p2), .val (.int p3), .val (.int p4), .val (.int p5), .val (.int p6), .val (.int k6), .val (.int k7), .val (.int k8), .val (.int k9), .val (.int k10), .val (.int k11), .val (.int p12), .val (.ref o13), .val (.ref o14), .unset, .unset, .unset, .unset, .unset, .unset, .unset, .unset] [(.ref b1), (.ref b1)])) _
  refine st4.trans ?_
  show Steps p.tables e below (T4.setTop (mkF m 147 #[.val (.int p1), .val (.int p2), .val (.int p3), .val (.int p4), .val (.int p5), .val (.int p6), .val (.int k6), .val (.int k7), .val (.int k8), .val (.int k9), .val (.int k10), .val (.int k11), .val (.int p12), .val (.ref o13), .val (.ref o14), .unset, .unset, .unset, .unset, .unset, .unset, .unset, .unset] [(.ref b1)])) _
  refine XS.astore X4.here hx rfl (hb hby at_147) rfl rfl (l' := #[.val (.int p1), .val (.int p2), .val (.int p3), .val (.int p4), .val (.int p5), .val (.int p6), .val (.int k6), .val (.int k7), .val (.int k8), .val (.int k9), .val (.int k10), .val (.int k11), .val (.int p12), .val (.ref o13), .val (.ref o14), .val (.ref b1), .unset, .unset, .unset, .unset, .unset, .unset, .unset]) rfl ?_
  show Steps p.tables e below (T4.setTop (mkF m 149 #[.val (.int p1), .val (.int p2), .val (.int p3), .val (.int p4), .val (.int p5), .val (.int p6), .val (.int k6), .val (.int k7), .val (.int k8), .val (.int k9), .val (.int k10), .val (.int k11), .val (.int p12), .val (.ref o13), .val (.ref o14), .val (.ref b1), .unset, .unset, .unset, .unset, .unset, .unset, .unset] [])) _
  refine XS.iload X4.here hx rfl (hb hby at_149) rfl ?_
  show Steps p.tables e below (T4.setTop (mkF m 151 #[.val (.int p1), .val (.int p2), .val (.int p3), .val (.int p4), .val (.int p5), .val (.int p6), .val (.int k6), .val (.int k7), .val (.int k8), .val (.int k9), .val (.int k10), .val (.int k11), .val (.int p12), .val (.ref o13), .val (.ref o14), .val (.ref b1), .unset, .unset, .unset, .unset, .unset, .unset, .unset] [(.int k7)])) _
  refine XS.ifNo X4.here hx rfl (hb hby at_151) rfl ((if0 _ _).trans (feq hc151).1) ?_
  show Steps p.tables e below (T4.setTop (mkF m 154 #[.val (.int p1), .val (.int p2), .val (.int p3), .val (.int p4), .val (.int p5), .val (.int p6), .val (.int k6), .val (.int k7), .val (.int k8), .val (.int k9), .val (.int k10), .val (.int k11), .val (.int p12), .val (.ref o13), .val (.ref o14), .val (.ref b1), .unset, .unset, .unset, .unset, .unset, .unset, .unset] [])) _
  refine st7 _ ?_
  show Steps p.tables e below (T7.setTop (mkF m 157 #[.val (.int p1), .val (.int p2), .val (.int p3), .val (.int p4), .val (.int p5), .val (.int p6), .val (.int k6), .val (.int k7), .val (.int k8), .val (.int k9), .val (.int k10), .val (.int k11), .val (.int p12), .val (.ref o13), .val (.ref o14), .val (.ref b1), .unset, .unset, .unset, .unset, .unset, .unset, .unset] [(.ref b7)])) _
  refine XS.dup X7.here hx rfl (hb hby at_157) rfl rfl ?_
  show Steps p.tables e below (T7.setTop (mkF m 158 #[.val (.int p1), .val (.int p2), .val (.int p3), .val (.int p4), .val (.int p5), .val (.int p6), .val (.int k6), .val (.int k7), .val (.int k8), .val (.int k9), .val (.int k10), .val (.int k11), .val (.int p12), .val (.ref o13), .val (.ref o14), .val (.ref b1), .unset, .unset, .unset, .unset, .unset, .unset, .unset] [(.ref b7), (.ref b7)])) _
  refine st10.trans ?_
  show Steps p.tables e below (T10.setTop (mkF m 161 #[.val (.int p1), .val (.int p2), .val (.int p3), .val (.int p4), .val (.int p5), .val (.int p6), .val (.int k6), .val (.int k7), .val (.int k8), .val (.int k9), .val (.int k10), .val (.int k11), .val (.int p12), .val (.ref o13), .val (.ref o14), .val (.ref b1), .unset, .unset, .unset, .unset, .unset, .unset, .unset] [(.ref b7)])) _
  refine XS.astore X10.here hx rfl (hb hby at_161) rfl rfl (l' := #[.val (.int p1), .val (.int p2), .val (.int p3), .val (.int p4), .val (.int p5), .val (.int p6), .val (.int k6), .val (.int k7), .val (.int k8), .val (.int k9), .val (.int k10), .val (.int k11), .val (.int p12), .val (.ref o13), .val (.ref o14), .val (.ref b1), .val (.ref b7), .unset, .unset, .unset, .unset, .unset, .unset]) rfl ?_
  show Steps p.tables e below (T10.setTop (mkF m 163 #[.val (.int p1), .val (.int p2), .val (.int p3), .val (.int p4), .val (.int p5), .val (.int p6), .val (.int k6), .val (.int k7), .val (.int k8), .val (.int k9), .val (.int k10), .val (.int k11), .val (.int p12), .val (.ref o13), .val (.ref o14), .val (.ref b1), .val (.ref b7), .unset, .unset, .unset, .unset, .unset, .unset] [])) _
  refine XS.aload X10.here hx rfl (hb hby at_163) rfl rfl ?_
  show Steps p.tables e below (T10.setTop (mkF m 165 #[.val (.int p1), .val (.int p2), .val (.int p3), .val (.int p4), .val (.int p5), .val (.int p6), .val (.int k6), .val (.int k7), .val (.int k8), .val (.int k9), .val (.int k10), .val (.int k11), .val (.int p12), .val (.ref o13), .val (.ref o14), .val (.ref b1), .val (.ref b7), .unset, .unset, .unset, .unset, .unset, .unset] [(.ref b7)])) _
  refine XS.iloadN X10.here hx rfl (hb hby at_165) rfl ?_
  show Steps p.tables e below (T10.setTop (mkF m 166 #[.val (.int p1), .val (.int p2), .val (.int p3), .val (.int p4), .val (.int p5), .val (.int p6), .val (.int k6), .val (.int k7), .val (.int k8), .val (.int k9), .val (.int k10), .val (.int k11), .val (.int p12), .val (.ref o13), .val (.ref o14), .val (.ref b1), .val (.ref b7), .unset, .unset, .unset, .unset, .unset, .unset] [(.int p1), (.ref b7)])) _
  refine st13 _ ?_
  show Steps p.tables e below (T13.setTop (mkF m 169 #[.val (.int p1), .val (.int p2), .val (.int p3), .val (.int p4), .val (.int p5), .val (.int p6), .val (.int k6), .val (.int k7), .val (.int k8), .val (.int k9), .val (.int k10), .val (.int k11), .val (.int p12), .val (.ref o13), .val (.ref o14), .val (.ref b1), .val (.ref b7), .unset, .unset, .unset, .unset, .unset, .unset] [(.ref y14), (.ref b7)])) _
  refine st22.trans ?_
  show Steps p.tables e below (T22.setTop (mkF m 174 #[.val (.int p1), .val (.int p2), .val (.int p3), .val (.int p4), .val (.int p5), .val (.int p6), .val (.int k6), .val (.int k7), .val (.int k8), .val (.int k9), .val (.int k10), .val (.int k11), .val (.int p12), .val (.ref o13), .val (.ref o14), .val (.ref b1), .val (.ref b7), .unset, .unset, .unset, .unset, .unset, .unset] [(.int (1 : Int32))])) _
  refine XS.pop X22.here hx rfl (hb hby at_174) rfl rfl ?_
  show Steps p.tables e below (T22.setTop (mkF m 175 #[.val (.int p1), .val (.int p2), .val (.int p3), .val (.int p4), .val (.int p5), .val (.int p6), .val (.int k6), .val (.int k7), .val (.int k8), .val (.int k9), .val (.int k10), .val (.int k11), .val (.int p12), .val (.ref o13), .val (.ref o14), .val (.ref b1), .val (.ref b7), .unset, .unset, .unset, .unset, .unset, .unset] [])) _
  refine XS.aload X22.here hx rfl (hb hby at_175) rfl rfl ?_
  show Steps p.tables e below (T22.setTop (mkF m 177 #[.val (.int p1), .val (.int p2), .val (.int p3), .val (.int p4), .val (.int p5), .val (.int p6), .val (.int k6), .val (.int k7), .val (.int k8), .val (.int k9), .val (.int k10), .val (.int k11), .val (.int p12), .val (.ref o13), .val (.ref o14), .val (.ref b1), .val (.ref b7), .unset, .unset, .unset, .unset, .unset, .unset] [(.ref b7)])) _
  refine XS.iload X22.here hx rfl (hb hby at_177) rfl ?_
  show Steps p.tables e below (T22.setTop (mkF m 179 #[.val (.int p1), .val (.int p2), .val (.int p3), .val (.int p4), .val (.int p5), .val (.int p6), .val (.int k6), .val (.int k7), .val (.int k8), .val (.int k9), .val (.int k10), .val (.int k11), .val (.int p12), .val (.ref o13), .val (.ref o14), .val (.ref b1), .val (.ref b7), .unset, .unset, .unset, .unset, .unset, .unset] [(.int p6), (.ref b7)])) _
  refine st27 _ ?_
  show Steps p.tables e below (T27.setTop (mkF m 182 #[.val (.int p1), .val (.int p2), .val (.int p3), .val (.int p4), .val (.int p5), .val (.int p6), .val (.int k6), .val (.int k7), .val (.int k8), .val (.int k9), .val (.int k10), .val (.int k11), .val (.int p12), .val (.ref o13), .val (.ref o14), .val (.ref b1), .val (.ref b7), .unset, .unset, .unset, .unset, .unset, .unset] [(.ref y28), (.ref b7)])) _
  refine st38.trans ?_
  show Steps p.tables e below (T38.setTop (mkF m 187 #[.val (.int p1), .val (.int p2), .val (.int p3), .val (.int p4), .val (.int p5), .val (.int p6), .val (.int k6), .val (.int k7), .val (.int k8), .val (.int k9), .val (.int k10), .val (.int k11), .val (.int p12), .val (.ref o13), .val (.ref o14), .val (.ref b1), .val (.ref b7), .unset, .unset, .unset, .unset, .unset, .unset] [(.int (1 : Int32))])) _
  refine XS.pop X38.here hx rfl (hb hby at_187) rfl rfl ?_
  show Steps p.tables e below (T38.setTop (mkF m 188 #[.val (.int p1), .val (.int p2), .val (.int p3), .val (.int p4), .val (.int p5), .val (.int p6), .val (.int k6), .val (.int k7), .val (.int k8), .val (.int k9), .val (.int k10), .val (.int k11), .val (.int p12), .val (.ref o13), .val (.ref o14), .val (.ref b1), .val (.ref b7), .unset, .unset, .unset, .unset, .unset, .unset] [])) _
  refine XS.aload X38.here hx rfl (hb hby at_188) rfl rfl ?_
  show Steps p.tables e below (T38.setTop (mkF m 190 #[.val (.int p1), .val (.int p2), .val (.int p3), .val (.int p4), .val (.int p5), .val (.int p6), .val (.int k6), .val (.int k7), .val (.int k8), .val (.int k9), .val (.int k10), .val (.int k11), .val (.int p12), .val (.ref o13), .val (.ref o14), .val (.ref b1), .val (.ref b7), .unset, .unset, .unset, .unset, .unset, .unset] [(.ref b1)])) _
  refine XS.aload X38.here hx rfl (hb hby at_190) rfl rfl ?_
  show Steps p.tables e below (T38.setTop (mkF m 192 #[.val (.int p1), .val (.int p2), .val (.int p3), .val (.int p4), .val (.int p5), .val (.int p6), .val (.int k6), .val (.int k7), .val (.int k8), .val (.int k9), .val (.int k10), .val (.int k11), .val (.int p12), .val (.ref o13), .val (.ref o14), .val (.ref b1), .val (.ref b7), .unset, .unset, .unset, .unset, .unset, .unset] [(.ref b7), (.ref b1)])) _
  refine st46.trans ?_
  show Steps p.tables e below (T46.setTop (mkF m 197 #[.val (.int p1), .val (.int p2), .val (.int p3), .val (.int p4), .val (.int p5), .val (.int p6), .val (.int k6), .val (.int k7), .val (.int k8), .val (.int k9), .val (.int k10), .val (.int k11), .val (.int p12), .val (.ref o13), .val (.ref o14), .val (.ref b1), .val (.ref b7), .unset, .unset, .unset, .unset, .unset, .unset] [(.int (1 : Int32))])) _
  refine XS.pop X46.here hx rfl (hb hby at_197) rfl rfl ?_
  show Steps p.tables e below (T46.setTop (mkF m 198 #[.val (.int p1), .val (.int p2), .val (.int p3), .val (.int p4), .val (.int p5), .val (.int p6), .val (.int k6), .val (.int k7), .val (.int k8), .val (.int k9), .val (.int k10), .val (.int k11), .val (.int p12), .val (.ref o13), .val (.ref o14), .val (.ref b1), .val (.ref b7), .unset, .unset, .unset, .unset, .unset, .unset] [])) _
  refine st51 _ ?_
  show Steps p.tables e below (T51.setTop (mkF m 201 #[.val (.int p1), .val (.int p2), .val (.int p3), .val (.int p4), .val (.int p5), .val (.int p6), .val (.int k6), .val (.int k7), .val (.int k8), .val (.int k9), .val (.int k10), .val (.int k11), .val (.int p12), .val (.ref o13), .val (.ref o14), .val (.ref b1), .val (.ref b7), .unset, .unset, .unset, .unset, .unset, .unset] [(.ref b51)])) _
  refine XS.dup X51.here hx rfl (hb hby at_201) rfl rfl ?_
  show Steps p.tables e below (T51.setTop (mkF m 202 #[.val (.int p1), .val (.int p2), .val (.int p3), .val (.int p4), .val (.int p5), .val (.int p6), .val (.int k6), .val (.int k7), .val (.int k8), .val (.int k9), .val (.int k10), .val (.int k11), .val (.int p12), .val (.ref o13), .val (.ref o14), .val (.ref b1), .val (.ref b7), .unset, .unset, .unset, .unset, .unset, .unset] [(.ref b51), (.ref b51)])) _
  refine st54.trans ?_
  show Steps p.tables e below (T54.setTop (mkF m 205 #[.val (.int p1), .val (.int p2), .val (.int p3), .val (.int p4), .val (.int p5), .val (.int p6), .val (.int k6), .val (.int k7), .val (.int k8), .val (.int k9), .val (.int k10), .val (.int k11), .val (.int p12), .val (.ref o13), .val (.ref o14), .val (.ref b1), .val (.ref b7), .unset, .unset, .unset, .unset, .unset, .unset] [(.ref b51)])) _
  refine XS.astore X54.here hx rfl (hb hby at_205) rfl rfl (l' := #[.val (.int p1), .val (.int p2), .val (.int p3), .val (.int p4), .val (.int p5), .val (.int p6), .val (.int k6), .val (.int k7), .val (.int k8), .val (.int k9), .val (.int k10), .val (.int k11), .val (.int p12), .val (.ref o13), .val (.ref o14), .val (.ref b1), .val (.ref b51), .unset, .unset, .unset, .unset, .unset, .unset]) rfl ?_
  exact kt
set_option maxRecDepth 65536 in
set_option maxHeartbeats 40000000 in
theorem tn140 {p : Program} {l : Launch} {e : Env} {s : State} {m : MethodId} {args : Array Value} {below : List Frame} {meth : Method} {c : Code} {T0 : State} {locs : List Loc} {Z : State} {a0 : Array Value} (hw : ∀ d ∈ tables_1, d.before a0 Z = true) (p1 p2 p3 p4 p5 p6 k6 k7 k8 k9 k10 k11 p12 : Int32) (o13 o14 wD : Addr) (kD : ClassId) (wI : Addr) (clI : Cell) (sz15 : Int32) (h0 : Heap) (n0 : Nat) (X0 : Stand p l e room_1 s m args below meth c T0 locs 2 13) (N0 : Fr n0 locs) (hx : p.tables.exec = Jvm.exec) (hZ : Z.Warmed39 s.vm) (hby : c.code = code) (hml : c.maxLocals = 23) (hown : s.vm.findClass "com/example/mirante/mirante/FieldDefHasRuleChecksPinLaw" = some m.cls) (e0 : T0.heap = h0) (O0 : Old Z n0 h0) (HV_wD : Arv Z h0 wD kD (.object "java/lang/Object") (0 : Int32) [] .null) (S_DEFAULTCAPACITY_EMPTY_ELEMENTDATA : Sta Z Z.heap "java/util/ArrayList" "DEFAULTCAPACITY_EMPTY_ELEMENTDATA" "[Ljava/lang/Object;" (.ref wD)) (S_high : Sta Z Z.heap "java/lang/Integer$IntegerCache" "high" "I" (.int (127 : Int32))) (S_cache : Sta Z Z.heap "java/lang/Integer$IntegerCache" "cache" "[Ljava/lang/Integer;" (.ref wI)) (h166_HAI : Arr Z Z.heap wI clI (.object "java/lang/Integer")) (h166_HCI : ∀ j : Int32, ¬ j < 0 → j < 256 → ¬ (j < 0 ∨ clI.slots.size ≤ j.toNatClampNeg) ∧ ∃ y, clI.slots[j.toNatClampNeg]? = some (.ref y) ∧ Exa Z Z.heap y "java/lang/Integer") (hsz15 : sz15 = if k7 = (0 : Int32) then (0 : Int32) else (1 : Int32)) :
    ∃ (T' : State) (locs' : List Loc) (h' : Heap) (b1 : Addr) (b51 : Addr), Stand p l e room_1 s m args below meth c T' locs' 9 44 ∧ Fr n0 locs' ∧ T'.heap = h' ∧ Keep h0 h' [] ∧ h0.size ≤ b1 ∧ h0.size ≤ b51 ∧ b1 ≠ b51 ∧ Exa Z h' b1 "java/util/ArrayList" ∧ Fld Z h' b1 "java/util/ArrayList" "size" "I" (.int sz15) ∧ Exa Z h' b51 "java/util/ArrayList" ∧ Fld Z h' b51 "java/util/AbstractList" "modCount" "I" (.int (0 : Int32)) ∧ Fld Z h' b51 "java/util/ArrayList" "elementData" "[Ljava/lang/Object;" (.ref wD) ∧ Fld Z h' b51 "java/util/ArrayList" "size" "I" (.int (0 : Int32)) ∧
      ∀ target, Steps p.tables e below (T'.setTop (mkF m 207 #[.val (.int p1), .val (.int p2), .val (.int p3), .val (.int p4), .val (.int p5), .val (.int p6), .val (.int k6), .val (.int k7), .val (.int k8), .val (.int k9), .val (.int k10), .val (.int k11), .val (.int p12), .val (.ref o13), .val (.ref o14), .val (.ref b1), .val (.ref b51), .unset, .unset, .unset, .unset, .unset, .unset] [])) target → Steps p.tables e below (T0.setTop (mkF m 140 #[.val (.int p1), .val (.int p2), .val (.int p3), .val (.int p4), .val (.int p5), .val (.int p6), .val (.int k6), .val (.int k7), .val (.int k8), .val (.int k9), .val (.int k10), .val (.int k11), .val (.int p12), .val (.ref o13), .val (.ref o14), .unset, .unset, .unset, .unset, .unset, .unset, .unset, .unset] [])) target := by
  by_cases c1 : k7 = (0 : Int32)
  · rw [if_pos c1] at hsz15; subst hsz15
    obtain ⟨T', L', h', b1, b7, X', N', e', K', z0', z1', n0', Y0', Y1', Y2', Y3', Y4', Y5', st'⟩ := tn140t hw p1 p2 p3 p4 p5 p6 k6 k7 k8 k9 k10 k11 p12 o13 o14 wD kD wI clI h0 n0 X0 N0 hx hZ hby hml hown e0 O0 HV_wD S_DEFAULTCAPACITY_EMPTY_ELEMENTDATA c1
    exact ⟨T', L', h', b1, b7, X'.more (by decide) (by decide), N', e', K', z0', z1', n0', Y0', Y1', Y2', Y3', Y4', Y5', st'⟩
  · rw [if_neg c1] at hsz15; subst hsz15
    obtain ⟨T', L', h', b1, b51, X', N', e', K', z0', z1', n0', Y0', Y1', Y2', Y3', Y4', Y5', st'⟩ := tn140f hw p1 p2 p3 p4 p5 p6 k6 k7 k8 k9 k10 k11 p12 o13 o14 wD kD wI clI h0 n0 X0 N0 hx hZ hby hml hown e0 O0 HV_wD S_DEFAULTCAPACITY_EMPTY_ELEMENTDATA c1 S_high S_cache h166_HAI h166_HCI
    exact ⟨T', L', h', b1, b51, X'.more (by decide) (by decide), N', e', K', z0', z1', n0', Y0', Y1', Y2', Y3', Y4', Y5', st'⟩
set_option maxRecDepth 65536 in
set_option maxHeartbeats 40000000 in
theorem tn207t {p : Program} {l : Launch} {e : Env} {s : State} {m : MethodId} {args : Array Value} {below : List Frame} {meth : Method} {c : Code} {T0 : State} {locs : List Loc} {Z : State} {a0 : Array Value} (hw : ∀ d ∈ tables_1, d.before a0 Z = true) (p1 p2 p3 p4 p5 p6 k6 k7 k8 k9 k10 k11 p12 : Int32) (o13 o14 o15 o16 : Addr) (m16 : Int32) (wD : Addr) (kD : ClassId) (wI : Addr) (clI : Cell) (h0 : Heap) (n0 : Nat) (X0 : Stand p l e room_1 s m args below meth c T0 locs 9 44) (N0 : Fr n0 locs) (hx : p.tables.exec = Jvm.exec) (hZ : Z.Warmed39 s.vm) (hby : c.code = code) (hml : c.maxLocals = 23) (hown : s.vm.findClass "com/example/mirante/mirante/FieldDefHasRuleChecksPinLaw" = some m.cls) (e0 : T0.heap = h0) (O0 : Old Z n0 h0) (HE_o16 : Exa Z h0 o16 "java/util/ArrayList") (HF_o16_modCount : Fld Z h0 o16 "java/util/AbstractList" "modCount" "I" (.int m16)) (HF_o16_elementData : Fld Z h0 o16 "java/util/ArrayList" "elementData" "[Ljava/lang/Object;" (.ref wD)) (HF_o16_size : Fld Z h0 o16 "java/util/ArrayList" "size" "I" (.int (0 : Int32))) (HV_wD : Arv Z h0 wD kD (.object "java/lang/Object") (0 : Int32) [] .null) (hc209 : k8 = (0 : Int32)) :
    ∃ (T' : State) (locs' : List Loc), Stand p l e room_1 s m args below meth c T' locs' 9 44 ∧ Fr n0 locs' ∧ T'.heap = h0 ∧ Exa Z h0 o16 "java/util/ArrayList" ∧ Fld Z h0 o16 "java/util/ArrayList" "size" "I" (.int (0 : Int32)) ∧
      ∀ target, Steps p.tables e below (T'.setTop (mkF m 225 #[.val (.int p1), .val (.int p2), .val (.int p3), .val (.int p4), .val (.int p5), .val (.int p6), .val (.int k6), .val (.int k7), .val (.int k8), .val (.int k9), .val (.int k10), .val (.int k11), .val (.int p12), .val (.ref o13), .val (.ref o14), .val (.ref o15), .val (.ref o16), .unset, .unset, .unset, .unset, .unset, .unset] [])) target → Steps p.tables e below (T0.setTop (mkF m 207 #[.val (.int p1), .val (.int p2), .val (.int p3), .val (.int p4), .val (.int p5), .val (.int p6), .val (.int k6), .val (.int k7), .val (.int k8), .val (.int k9), .val (.int k10), .val (.int k11), .val (.int p12), .val (.ref o13), .val (.ref o14), .val (.ref o15), .val (.ref o16), .unset, .unset, .unset, .unset, .unset, .unset] [])) target := by
  have Z0 : n0 ≤ h0.size := O0.1 ▸ O0.2.1
  refine ⟨T0, _, X0, N0, e0, HE_o16, HF_o16_size, fun target kt => ?_⟩
  show Steps p.tables e below (T0.setTop (mkF m 207 #[.val (.int p1), .val (.int p2), .val (.int p3), .val (.int p4), .val (.int p5), .val (.int p6), .val (.int k6), .val (.int k7), .val (.int k8), .val (.int k9), .val (.int k10), .val (.int k11), .val (.int p12), .val (.ref o13), .val (.ref o14), .val (.ref o15), .val (.ref o16), .unset, .unset, .unset, .unset, .unset, .unset] [])) _
  refine XS.iload X0.here hx rfl (hb hby at_207) rfl ?_
  show Steps p.tables e below (T0.setTop (mkF m 209 #[.val (.int p1), .val (.int p2), .val (.int p3), .val (.int p4), .val (.int p5), .val (.int p6), .val (.int k6), .val (.int k7), .val (.int k8), .val (.int k9), .val (.int k10), .val (.int k11), .val (.int p12), .val (.ref o13), .val (.ref o14), .val (.ref o15), .val (.ref o16), .unset, .unset, .unset, .unset, .unset, .unset] [(.int k8)])) _
  refine XS.ifYes X0.here hx rfl (pc0 := 209) (pc' := 225) rfl (hb hby at_209) rfl ((if0 _ _).trans (teq hc209).1) (by decide) (by decide) ?_
  exact kt
set_option maxRecDepth 65536 in
set_option maxHeartbeats 40000000 in
theorem tn207f {p : Program} {l : Launch} {e : Env} {s : State} {m : MethodId} {args : Array Value} {below : List Frame} {meth : Method} {c : Code} {T0 : State} {locs : List Loc} {Z : State} {a0 : Array Value} (hw : ∀ d ∈ tables_1, d.before a0 Z = true) (p1 p2 p3 p4 p5 p6 k6 k7 k8 k9 k10 k11 p12 : Int32) (o13 o14 o15 o16 : Addr) (m16 : Int32) (wD : Addr) (kD : ClassId) (wI : Addr) (clI : Cell) (h0 : Heap) (n0 : Nat) (X0 : Stand p l e room_1 s m args below meth c T0 locs 9 44) (N0 : Fr n0 locs) (hx : p.tables.exec = Jvm.exec) (hZ : Z.Warmed39 s.vm) (hby : c.code = code) (hml : c.maxLocals = 23) (hown : s.vm.findClass "com/example/mirante/mirante/FieldDefHasRuleChecksPinLaw" = some m.cls) (e0 : T0.heap = h0) (O0 : Old Z n0 h0) (HE_o16 : Exa Z h0 o16 "java/util/ArrayList") (HF_o16_modCount : Fld Z h0 o16 "java/util/AbstractList" "modCount" "I" (.int m16)) (HF_o16_elementData : Fld Z h0 o16 "java/util/ArrayList" "elementData" "[Ljava/lang/Object;" (.ref wD)) (HF_o16_size : Fld Z h0 o16 "java/util/ArrayList" "size" "I" (.int (0 : Int32))) (HV_wD : Arv Z h0 wD kD (.object "java/lang/Object") (0 : Int32) [] .null) (hc209 : ¬ (k8 = (0 : Int32))) (S_high : Sta Z Z.heap "java/lang/Integer$IntegerCache" "high" "I" (.int (127 : Int32))) (S_cache : Sta Z Z.heap "java/lang/Integer$IntegerCache" "cache" "[Ljava/lang/Integer;" (.ref wI)) (h216_HAI : Arr Z Z.heap wI clI (.object "java/lang/Integer")) (h216_HCI : ∀ j : Int32, ¬ j < 0 → j < 256 → ¬ (j < 0 ∨ clI.slots.size ≤ j.toNatClampNeg) ∧ ∃ y, clI.slots[j.toNatClampNeg]? = some (.ref y) ∧ Exa Z Z.heap y "java/lang/Integer") (S_DEFAULTCAPACITY_EMPTY_ELEMENTDATA : Sta Z Z.heap "java/util/ArrayList" "DEFAULTCAPACITY_EMPTY_ELEMENTDATA" "[Ljava/lang/Object;" (.ref wD)) (g_o16 : n0 ≤ o16) (ne_wD_o16 : wD ≠ o16) :
    ∃ (T' : State) (locs' : List Loc) (h' : Heap), Stand p l e room_1 s m args below meth c T' locs' 11 55 ∧ Fr n0 locs' ∧ T'.heap = h' ∧ Keep h0 h' [o16] ∧ Exa Z h' o16 "java/util/ArrayList" ∧ Fld Z h' o16 "java/util/ArrayList" "size" "I" (.int (1 : Int32)) ∧
      ∀ target, Steps p.tables e below (T'.setTop (mkF m 225 #[.val (.int p1), .val (.int p2), .val (.int p3), .val (.int p4), .val (.int p5), .val (.int p6), .val (.int k6), .val (.int k7), .val (.int k8), .val (.int k9), .val (.int k10), .val (.int k11), .val (.int p12), .val (.ref o13), .val (.ref o14), .val (.ref o15), .val (.ref o16), .unset, .unset, .unset, .unset, .unset, .unset] [])) target → Steps p.tables e below (T0.setTop (mkF m 207 #[.val (.int p1), .val (.int p2), .val (.int p3), .val (.int p4), .val (.int p5), .val (.int p6), .val (.int k6), .val (.int k7), .val (.int k8), .val (.int k9), .val (.int k10), .val (.int k11), .val (.int p12), .val (.ref o13), .val (.ref o14), .val (.ref o15), .val (.ref o16), .unset, .unset, .unset, .unset, .unset, .unset] [])) target := by
  have Z0 : n0 ≤ h0.size := O0.1 ▸ O0.2.1
  obtain ⟨vr1, _, ⟨T1, L1, k1, n1⟩, -, X1, ⟨Lc1, hQ1, l1, y1, z1⟩, st1⟩ := Jvm.LawKit.callS X0 hx (y := (⟨"java/lang/Integer", "valueOf", "(I)Ljava/lang/Integer;"⟩ : MethodName)) hown (mvT hZ (hw _ (List.mem_of_getElem? (i := 145) rfl))) (mvT hZ (hw _ (List.mem_of_getElem? (i := 146) rfl))) (mvT hZ (hw _ (List.mem_of_getElem? (i := 147) rfl))) (mvT hZ (hw _ (List.mem_of_getElem? (i := 148) rfl))) (by decide) (backOf (W := 1) (rm18 l Z a0 hw [] p6 wI clI h0 n0 O0 S_high S_cache h216_HAI h216_HCI) hZ (hw _ (List.mem_of_getElem? (i := 148) rfl)) (hw _ (List.mem_of_getElem? (i := 147) rfl)) (by decide) (by decide)) (g := (mkF m 216 #[.val (.int p1), .val (.int p2), .val (.int p3), .val (.int p4), .val (.int p5), .val (.int p6), .val (.int k6), .val (.int k7), .val (.int k8), .val (.int k9), .val (.int k10), .val (.int k11), .val (.int p12), .val (.ref o13), .val (.ref o14), .val (.ref o15), .val (.ref o16), .unset, .unset, .unset, .unset, .unset, .unset] [(.int p6), (.ref o16)])) rfl (by rw [hml]; rfl) (argsL := [(.int p6)]) (rest := [(.ref o16)]) (lenOf pd_6 rfl) rfl (by show 2 * 0 + _ ≤ _; exact Nat.le_of_eq rfl) (hb hby at_216) (fun _ _ => ⟨rfl, e0, (by decide : 9 + 1 ≤ _), (by decide : 44 + 1 ≤ _)⟩)
  dsimp only [Pt.U, Pt.locs, Pt.cells, Pt.slots] at X1 l1 y1 z1 st1 hQ1
  subst l1 y1 z1
  obtain ⟨y2, rfl, N1q, K1, Y1_0⟩ := hQ1
  have N1 := Fr.app N0 N1q
  replace X1 := X1.more (cells' := 10) (slots' := 45) (by decide) (by decide)
  have K3 : Keep h0 T1.heap [o16] := (Keep.refl h0 [o16]).trans K1 all0
  have O4 : Old Z n0 T1.heap := O0.keep K1 all0
  have f5 := (HE_o16.keep K1)
  have f6 := (HF_o16_modCount.keep K1 nin0)
  have f7 := (HF_o16_elementData.keep K1 nin0)
  have f8 := (HF_o16_size.keep K1 nin0)
  have f9 := (HV_wD.keep K1 nin0)
  obtain ⟨cq10, kq10, q10a, q10b, q10c⟩ := isOf hZ rfl f5
  obtain ⟨vr10, _, ⟨T10, L10, k10, n10⟩, -, X10, ⟨Lc10, hQ10, l10, y10, z10⟩, st10⟩ := X1.interfaceBack hx (xi := (⟨"java/util/List", "add", "(Ljava/lang/Object;)Z"⟩ : MethodName)) (y := (⟨"java/util/ArrayList", "add", "(Ljava/lang/Object;)Z"⟩ : MethodName)) hown (mvT hZ (hw _ (List.mem_of_getElem? (i := 29) rfl))) (mvT hZ (hw _ (List.mem_of_getElem? (i := 30) rfl))) (mvT hZ (hw _ (List.mem_of_getElem? (i := 31) rfl))) (mvT hZ (hw _ (List.mem_of_getElem? (i := 32) rfl))) (mvT hZ (hw _ (List.mem_of_getElem? (i := 33) rfl))) (mvT hZ (hw _ (List.mem_of_getElem? (i := 34) rfl))) (mvT hZ (hw _ (List.mem_of_getElem? (i := 35) rfl))) (mvT hZ (hw _ (List.mem_of_getElem? (i := 36) rfl))) (by decide) (backOf (W := 0) (rm5f l Z a0 hw [] o16 y2 m16 kD wD T1.heap n0 O4 f5 f6 f7 f8 f9 g_o16 ne_wD_o16 S_DEFAULTCAPACITY_EMPTY_ELEMENTDATA (Ins.of_exa Y1_0 (hw _ (List.mem_of_getElem? (i := 152) rfl)))) hZ (hw _ (List.mem_of_getElem? (i := 37) rfl)) (hw _ (List.mem_of_getElem? (i := 5) rfl)) (by decide) (by decide)) q10a q10b q10c (g := (mkF m 219 #[.val (.int p1), .val (.int p2), .val (.int p3), .val (.int p4), .val (.int p5), .val (.int p6), .val (.int k6), .val (.int k7), .val (.int k8), .val (.int k9), .val (.int k10), .val (.int k11), .val (.int p12), .val (.ref o13), .val (.ref o14), .val (.ref o15), .val (.ref o16), .unset, .unset, .unset, .unset, .unset, .unset] [(.ref y2), (.ref o16)])) rfl (by rw [hml]; rfl) (Steps.refl _) (argsL := [(.ref y2)]) (rest := []) (lenOf pd_12 rfl) rfl (by show 2 * 0 + _ ≤ _; exact Nat.le_of_eq rfl) (hb hby at_219) (fun _ _ => ⟨rfl, rfl, (by decide : 10 + 1 ≤ _), (by decide : 45 + 10 ≤ _)⟩)
  dsimp only [Pt.U, Pt.locs, Pt.cells, Pt.slots] at X10 l10 y10 z10 st10 hQ10
  subst l10 y10 z10
  obtain ⟨b11, k12, rfl, N10q, K10, Y10_z0, Y10_0, Y10_1, Y10_2, Y10_3, Y10_4, Y10_5, Y10_6⟩ := hQ10
  have N10 := Fr.app N1 N10q
  replace X10 := X10.more (cells' := 11) (slots' := 55) (by decide) (by decide)
  have g_b11 : n0 ≤ b11 := Nat.le_trans (Nat.le_trans Z0 K3.1) Y10_z0
  have sz_b11 : h0.size ≤ b11 := Nat.le_trans K3.1 Y10_z0
  have K13 : Keep h0 T10.heap [o16] := K3.trans K10 (allS (Or.inl (List.mem_of_getElem? (i := 0) rfl)) all0)
  have O14 : Old Z n0 T10.heap := O4.keep K10 (allS g_o16 all0)
  refine ⟨T10, _, _, X10, N10, rfl, K13, Y10_0, Y10_3, fun target kt => ?_⟩
  show Steps p.tables e below (T0.setTop (mkF m 207 #[.val (.int p1), .val (.int p2), .val (.int p3), .val (.int p4), .val (.int p5), .val (.int p6), .val (.int k6), .val (.int k7), .val (.int k8), .val (.int k9), .val (.int k10), .val (.int k11), .val (.int p12), .val (.ref o13), .val (.ref o14), .val (.ref o15), .val (.ref o16), .unset, .unset, .unset, .unset, .unset, .unset] [])) _
  refine XS.iload X0.here hx rfl (hb hby at_207) rfl ?_
  show Steps p.tables e below (T0.setTop (mkF m 209 #[.val (.int p1), .val (.int p2), .val (.int p3), .val (.int p4), .val (.int p5), .val (.int p6), .val (.int k6), .val (.int k7), .val (.int k8), .val (.int k9), .val (.int k10), .val (.int k11), .val (.int p12), .val (.ref o13), .val (.ref o14), .val (.ref o15), .val (.ref o16), .unset, .unset, .unset, .unset, .unset, .unset] [(.int k8)])) _
  refine XS.ifNo X0.here hx rfl (hb hby at_209) rfl ((if0 _ _).trans (feq hc209).1) ?_
  show Steps p.tables e below (T0.setTop (mkF m 212 #[.val (.int p1), .val (.int p2), .val (.int p3), .val (.int p4), .val (.int p5), .val (.int p6), .val (.int k6), .val (.int k7), .val (.int k8), .val (.int k9), .val (.int k10), .val (.int k11), .val (.int p12), .val (.ref o13), .val (.ref o14), .val (.ref o15), .val (.ref o16), .unset, .unset, .unset, .unset, .unset, .unset] [])) _
  refine XS.aload X0.here hx rfl (hb hby at_212) rfl rfl ?_
  show Steps p.tables e below (T0.setTop (mkF m 214 #[.val (.int p1), .val (.int p2), .val (.int p3), .val (.int p4), .val (.int p5), .val (.int p6), .val (.int k6), .val (.int k7), .val (.int k8), .val (.int k9), .val (.int k10), .val (.int k11), .val (.int p12), .val (.ref o13), .val (.ref o14), .val (.ref o15), .val (.ref o16), .unset, .unset, .unset, .unset, .unset, .unset] [(.ref o16)])) _
  refine XS.iload X0.here hx rfl (hb hby at_214) rfl ?_
  show Steps p.tables e below (T0.setTop (mkF m 216 #[.val (.int p1), .val (.int p2), .val (.int p3), .val (.int p4), .val (.int p5), .val (.int p6), .val (.int k6), .val (.int k7), .val (.int k8), .val (.int k9), .val (.int k10), .val (.int k11), .val (.int p12), .val (.ref o13), .val (.ref o14), .val (.ref o15), .val (.ref o16), .unset, .unset, .unset, .unset, .unset, .unset] [(.int p6), (.ref o16)])) _
  refine st1 _ ?_
  show Steps p.tables e below (T1.setTop (mkF m 219 #[.val (.int p1), .val (.int p2), .val (.int p3), .val (.int p4), .val (.int p5), .val (.int p6), .val (.int k6), .val (.int k7), .val (.int k8), .val (.int k9), .val (.int k10), .val (.int k11), .val (.int p12), .val (.ref o13), .val (.ref o14), .val (.ref o15), .val (.ref o16), .unset, .unset, .unset, .unset, .unset, .unset] [(.ref y2), (.ref o16)])) _
  refine st10.trans ?_
  show Steps p.tables e below (T10.setTop (mkF m 224 #[.val (.int p1), .val (.int p2), .val (.int p3), .val (.int p4), .val (.int p5), .val (.int p6), .val (.int k6), .val (.int k7), .val (.int k8), .val (.int k9), .val (.int k10), .val (.int k11), .val (.int p12), .val (.ref o13), .val (.ref o14), .val (.ref o15), .val (.ref o16), .unset, .unset, .unset, .unset, .unset, .unset] [(.int (1 : Int32))])) _
  refine XS.pop X10.here hx rfl (hb hby at_224) rfl rfl ?_
  exact kt
set_option maxRecDepth 65536 in
set_option maxHeartbeats 40000000 in
theorem tn207 {p : Program} {l : Launch} {e : Env} {s : State} {m : MethodId} {args : Array Value} {below : List Frame} {meth : Method} {c : Code} {T0 : State} {locs : List Loc} {Z : State} {a0 : Array Value} (hw : ∀ d ∈ tables_1, d.before a0 Z = true) (p1 p2 p3 p4 p5 p6 k6 k7 k8 k9 k10 k11 p12 : Int32) (o13 o14 o15 o16 : Addr) (m16 : Int32) (wD : Addr) (kD : ClassId) (wI : Addr) (clI : Cell) (sz16 : Int32) (h0 : Heap) (n0 : Nat) (X0 : Stand p l e room_1 s m args below meth c T0 locs 9 44) (N0 : Fr n0 locs) (hx : p.tables.exec = Jvm.exec) (hZ : Z.Warmed39 s.vm) (hby : c.code = code) (hml : c.maxLocals = 23) (hown : s.vm.findClass "com/example/mirante/mirante/FieldDefHasRuleChecksPinLaw" = some m.cls) (e0 : T0.heap = h0) (O0 : Old Z n0 h0) (HE_o16 : Exa Z h0 o16 "java/util/ArrayList") (HF_o16_modCount : Fld Z h0 o16 "java/util/AbstractList" "modCount" "I" (.int m16)) (HF_o16_elementData : Fld Z h0 o16 "java/util/ArrayList" "elementData" "[Ljava/lang/Object;" (.ref wD)) (HF_o16_size : Fld Z h0 o16 "java/util/ArrayList" "size" "I" (.int (0 : Int32))) (HV_wD : Arv Z h0 wD kD (.object "java/lang/Object") (0 : Int32) [] .null) (S_high : Sta Z Z.heap "java/lang/Integer$IntegerCache" "high" "I" (.int (127 : Int32))) (S_cache : Sta Z Z.heap "java/lang/Integer$IntegerCache" "cache" "[Ljava/lang/Integer;" (.ref wI)) (h216_HAI : Arr Z Z.heap wI clI (.object "java/lang/Integer")) (h216_HCI : ∀ j : Int32, ¬ j < 0 → j < 256 → ¬ (j < 0 ∨ clI.slots.size ≤ j.toNatClampNeg) ∧ ∃ y, clI.slots[j.toNatClampNeg]? = some (.ref y) ∧ Exa Z Z.heap y "java/lang/Integer") (S_DEFAULTCAPACITY_EMPTY_ELEMENTDATA : Sta Z Z.heap "java/util/ArrayList" "DEFAULTCAPACITY_EMPTY_ELEMENTDATA" "[Ljava/lang/Object;" (.ref wD)) (g_o16 : n0 ≤ o16) (ne_wD_o16 : wD ≠ o16) (hsz16 : sz16 = if k8 = (0 : Int32) then (0 : Int32) else (1 : Int32)) :
    ∃ (T' : State) (locs' : List Loc) (h' : Heap), Stand p l e room_1 s m args below meth c T' locs' 11 55 ∧ Fr n0 locs' ∧ T'.heap = h' ∧ Keep h0 h' [o16] ∧ Exa Z h' o16 "java/util/ArrayList" ∧ Fld Z h' o16 "java/util/ArrayList" "size" "I" (.int sz16) ∧
      ∀ target, Steps p.tables e below (T'.setTop (mkF m 225 #[.val (.int p1), .val (.int p2), .val (.int p3), .val (.int p4), .val (.int p5), .val (.int p6), .val (.int k6), .val (.int k7), .val (.int k8), .val (.int k9), .val (.int k10), .val (.int k11), .val (.int p12), .val (.ref o13), .val (.ref o14), .val (.ref o15), .val (.ref o16), .unset, .unset, .unset, .unset, .unset, .unset] [])) target → Steps p.tables e below (T0.setTop (mkF m 207 #[.val (.int p1), .val (.int p2), .val (.int p3), .val (.int p4), .val (.int p5), .val (.int p6), .val (.int k6), .val (.int k7), .val (.int k8), .val (.int k9), .val (.int k10), .val (.int k11), .val (.int p12), .val (.ref o13), .val (.ref o14), .val (.ref o15), .val (.ref o16), .unset, .unset, .unset, .unset, .unset, .unset] [])) target := by
  by_cases c1 : k8 = (0 : Int32)
  · rw [if_pos c1] at hsz16; subst hsz16
    obtain ⟨T', L', X', N', e', Y0', Y1', st'⟩ := tn207t hw p1 p2 p3 p4 p5 p6 k6 k7 k8 k9 k10 k11 p12 o13 o14 o15 o16 m16 wD kD wI clI h0 n0 X0 N0 hx hZ hby hml hown e0 O0 HE_o16 HF_o16_modCount HF_o16_elementData HF_o16_size HV_wD c1
    exact ⟨T', L', h0, X'.more (by decide) (by decide), N', e', Keep.refl _ _, Y0', Y1', st'⟩
  · rw [if_neg c1] at hsz16; subst hsz16
    obtain ⟨T', L', h', X', N', e', K', Y0', Y1', st'⟩ := tn207f hw p1 p2 p3 p4 p5 p6 k6 k7 k8 k9 k10 k11 p12 o13 o14 o15 o16 m16 wD kD wI clI h0 n0 X0 N0 hx hZ hby hml hown e0 O0 HE_o16 HF_o16_modCount HF_o16_elementData HF_o16_size HV_wD c1 S_high S_cache h216_HAI h216_HCI S_DEFAULTCAPACITY_EMPTY_ELEMENTDATA g_o16 ne_wD_o16
    exact ⟨T', L', h', X'.more (by decide) (by decide), N', e', K', Y0', Y1', st'⟩
set_option maxRecDepth 65536 in
set_option maxHeartbeats 40000000 in
theorem tn225t {p : Program} {l : Launch} {e : Env} {s : State} {m : MethodId} {args : Array Value} {below : List Frame} {meth : Method} {c : Code} {T0 : State} {locs : List Loc} {Z : State} {a0 : Array Value} (hw : ∀ d ∈ tables_1, d.before a0 Z = true) (p1 p2 p3 p4 p5 p6 k6 k7 k8 k9 k10 k11 p12 : Int32) (o13 o14 o15 o16 wD : Addr) (kD : ClassId) (zC : Int32) (h0 : Heap) (n0 : Nat) (X0 : Stand p l e room_1 s m args below meth c T0 locs 11 55) (N0 : Fr n0 locs) (hx : p.tables.exec = Jvm.exec) (hZ : Z.Warmed39 s.vm) (hby : c.code = code) (hml : c.maxLocals = 23) (hown : s.vm.findClass "com/example/mirante/mirante/FieldDefHasRuleChecksPinLaw" = some m.cls) (e0 : T0.heap = h0) (O0 : Old Z n0 h0) (HV_wD : Arv Z h0 wD kD (.object "java/lang/Object") (0 : Int32) [] .null) (S_DEFAULTCAPACITY_EMPTY_ELEMENTDATA : Sta Z Z.heap "java/util/ArrayList" "DEFAULTCAPACITY_EMPTY_ELEMENTDATA" "[Ljava/lang/Object;" (.ref wD)) (hc236 : k9 = (0 : Int32)) :
    ∃ (T' : State) (locs' : List Loc) (h' : Heap) (b1 : Addr), Stand p l e room_1 s m args below meth c T' locs' 12 58 ∧ Fr n0 locs' ∧ T'.heap = h' ∧ Keep h0 h' [] ∧ h0.size ≤ b1 ∧
      ∀ target, Steps p.tables e below (T'.setTop (mkF m 256 #[.val (.int p1), .val (.int p2), .val (.int p3), .val (.int p4), .val (.int p5), .val (.int p6), .val (.int k6), .val (.int k7), .val (.int k8), .val (.int k9), .val (.int k10), .val (.int k11), .val (.int p12), .val (.ref o13), .val (.ref o14), .val (.ref o15), .val (.ref o16), .val (.ref b1), .unset, .unset, .unset, .unset, .unset] [])) target → Steps p.tables e below (T0.setTop (mkF m 225 #[.val (.int p1), .val (.int p2), .val (.int p3), .val (.int p4), .val (.int p5), .val (.int p6), .val (.int k6), .val (.int k7), .val (.int k8), .val (.int k9), .val (.int k10), .val (.int k11), .val (.int p12), .val (.ref o13), .val (.ref o14), .val (.ref o15), .val (.ref o16), .unset, .unset, .unset, .unset, .unset, .unset] [])) target := by
  have Z0 : n0 ≤ h0.size := O0.1 ▸ O0.2.1
  obtain ⟨T1, h1, X1, e1, E1, A1, D1, -, st1⟩ := newO X0 hx hZ hown (hw _ (List.mem_of_getElem? (i := 3) rfl)) (hw _ (List.mem_of_getElem? (i := 4) rfl)) (hw _ (List.mem_of_getElem? (i := 5) rfl)) e0 (g := (mkF m 225 #[.val (.int p1), .val (.int p2), .val (.int p3), .val (.int p4), .val (.int p5), .val (.int p6), .val (.int k6), .val (.int k7), .val (.int k8), .val (.int k9), .val (.int k10), .val (.int k11), .val (.int p12), .val (.ref o13), .val (.ref o14), .val (.ref o15), .val (.ref o16), .unset, .unset, .unset, .unset, .unset, .unset] [])) rfl (hb hby at_225) (by decide) (by decide)
  obtain ⟨b1, g1⟩ : ∃ z, z = h0.size := ⟨_, rfl⟩
  rw [← g1] at A1 D1 st1
  have g_b1 : n0 ≤ b1 := Nat.le_trans (Nat.le_trans Z0 (Keep.refl h0 []).1) (Nat.le_of_eq g1.symm)
  have sz_b1 : h0.size ≤ b1 := Nat.le_trans (Keep.refl h0 []).1 (Nat.le_of_eq g1.symm)
  have K2 : Keep h0 h1 [] := (Keep.refl h0 []).ext E1
  have O3 : Old Z n0 h1 := O0.ext E1
  have F_modCount_b1 : Fld Z h1 b1 "java/util/AbstractList" "modCount" "I" (.int (0 : Int32)) := D1 (Or.inl (hw _ (List.mem_of_getElem? (i := 25) rfl))) (ty := .int) (by decide)
  have F_elementData_b1 : Fld Z h1 b1 "java/util/ArrayList" "elementData" "[Ljava/lang/Object;" .null := D1 (Or.inl (hw _ (List.mem_of_getElem? (i := 28) rfl))) (ty := (.array (.object "java/lang/Object"))) (by decide)
  have F_size_b1 : Fld Z h1 b1 "java/util/ArrayList" "size" "I" (.int (0 : Int32)) := D1 (Or.inl (hw _ (List.mem_of_getElem? (i := 41) rfl))) (ty := .int) (by decide)
  replace X1 := X1.more (cells' := 12) (slots' := 58) (by decide) (by decide)
  obtain ⟨vr4, _, ⟨T4, L4, k4, n4⟩, -, X4, ⟨Lc4, hQ4, l4, y4, z4⟩, st4⟩ := X1.specialBack hx (y := (⟨"java/util/ArrayList", "<init>", "()V"⟩ : MethodName)) rfl hown (mvT hZ (hw _ (List.mem_of_getElem? (i := 6) rfl))) (mvT hZ (hw _ (List.mem_of_getElem? (i := 7) rfl))) (mvT hZ (hw _ (List.mem_of_getElem? (i := 8) rfl))) (by decide) (backOf (W := 1) (rm1 l Z a0 hw [] b1 ((.int (0 : Int32))) (.null) ((.int (0 : Int32))) wD h1 n0 O3 A1 F_modCount_b1 F_elementData_b1 F_size_b1 g_b1 S_DEFAULTCAPACITY_EMPTY_ELEMENTDATA) hZ (hw _ (List.mem_of_getElem? (i := 8) rfl)) (hw _ (List.mem_of_getElem? (i := 5) rfl)) (by decide) (by decide)) (g := (mkF m 229 #[.val (.int p1), .val (.int p2), .val (.int p3), .val (.int p4), .val (.int p5), .val (.int p6), .val (.int k6), .val (.int k7), .val (.int k8), .val (.int k9), .val (.int k10), .val (.int k11), .val (.int p12), .val (.ref o13), .val (.ref o14), .val (.ref o15), .val (.ref o16), .unset, .unset, .unset, .unset, .unset, .unset] [(.ref b1), (.ref b1)])) rfl (by rw [hml]; rfl) (Steps.refl _) (a := b1) (argsL := []) (rest := [(.ref b1)]) (lenOf pd_0 rfl) rfl (by show 2 * 0 + _ ≤ _; exact Nat.le_of_eq rfl) (hb hby at_229) (fun _ _ => ⟨rfl, e1, (by decide : 12 + 0 ≤ _), (by decide : 58 + 0 ≤ _)⟩)
  dsimp only [Pt.U, Pt.locs, Pt.cells, Pt.slots] at X4 l4 y4 z4 st4 hQ4
  subst l4 y4 z4
  obtain ⟨rfl, N4q, K4, Y4_0, Y4_1, Y4_2, Y4_3⟩ := hQ4
  have N4 := Fr.app N0 N4q
  replace X4 := X4.more (cells' := 12) (slots' := 58) (by decide) (by decide)
  have K5 : Keep h0 T4.heap [] := K2.trans K4 (allS (Or.inr sz_b1) all0)
  have O6 : Old Z n0 T4.heap := O3.keep K4 (allS g_b1 all0)
  refine ⟨T4, _, _, b1, X4, N4, rfl, K5, sz_b1, fun target kt => ?_⟩
  show Steps p.tables e below (T0.setTop (mkF m 225 #[.val (.int p1), .val (.int p2), .val (.int p3), .val (.int p4), .val (.int p5), .val (.int p6), .val (.int k6), .val (.int k7), .val (.int k8), .val (.int k9), .val (.int k10), .val (.int k11), .val (.int p12), .val (.ref o13), .val (.ref o14), .val (.ref o15), .val (.ref o16), .unset, .unset, .unset, .unset, .unset, .unset] [])) _
  refine st1 _ ?_
  show Steps p.tables e below (T1.setTop (mkF m 228 #[.val (.int p1), .val (.int p2), .val (.int p3), .val (.int p4), .val (.int p5), .val (.int p6), .val (.int k6), .val (.int k7), .val (.int k8), .val (.int k9), .val (.int k10), .val (.int k11), .val (.int p12), .val (.ref o13), .val (.ref o14), .val (.ref o15), .val (.ref o16), .unset, .unset, .unset, .unset, .unset, .unset] [(.ref b1)])) _
  refine XS.dup X1.here hx rfl (hb hby at_228) rfl rfl ?_
  show Steps p.tables e below (T1.setTop (mkF m 229 #[.val (.int p1), .val (.int p2), .val (.int p3), .val (.int p4), .val (.int p5), .val (.int p6), .val (.int k6), .val (.int k7), .val (.int k8), .val (.int k9), .val (.int k10), .val (.int k11), .val (.int p12), .val (.ref o13), .val (.ref o14), .val (.ref o15), .val (.ref o16), .unset, .unset, .unset, .unset, .unset, .unset] [(.ref b1), (.ref b1)])) _
  refine st4.trans ?_
  show Steps p.tables e below (T4.setTop (mkF m 232 #[.val (.int p1), .val (.int p2), .val (.int p3), .val (.int p4), .val (.int p5), .val (.int p6), .val (.int k6), .val (.int k7), .val (.int k8), .val (.int k9), .val (.int k10), .val (.int k11), .val (.int p12), .val (.ref o13), .val (.ref o14), .val (.ref o15), .val (.ref o16), .unset, .unset, .unset, .unset, .unset, .unset] [(.ref b1)])) _
  refine XS.astore X4.here hx rfl (hb hby at_232) rfl rfl (l' := #[.val (.int p1), .val (.int p2), .val (.int p3), .val (.int p4), .val (.int p5), .val (.int p6), .val (.int k6), .val (.int k7), .val (.int k8), .val (.int k9), .val (.int k10), .val (.int k11), .val (.int p12), .val (.ref o13), .val (.ref o14), .val (.ref o15), .val (.ref o16), .val (.ref b1), .unset, .unset, .unset, .unset, .unset]) rfl ?_
  show Steps p.tables e below (T4.setTop (mkF m 234 #[.val (.int p1), .val (.int p2), .val (.int p3), .val (.int p4), .val (.int p5), .val (.int p6), .val (.int k6), .val (.int k7), .val (.int k8), .val (.int k9), .val (.int k10), .val (.int k11), .val (.int p12), .val (.ref o13), .val (.ref o14), .val (.ref o15), .val (.ref o16), .val (.ref b1), .unset, .unset, .unset, .unset, .unset] [])) _
  refine XS.iload X4.here hx rfl (hb hby at_234) rfl ?_
  show Steps p.tables e below (T4.setTop (mkF m 236 #[.val (.int p1), .val (.int p2), .val (.int p3), .val (.int p4), .val (.int p5), .val (.int p6), .val (.int k6), .val (.int k7), .val (.int k8), .val (.int k9), .val (.int k10), .val (.int k11), .val (.int p12), .val (.ref o13), .val (.ref o14), .val (.ref o15), .val (.ref o16), .val (.ref b1), .unset, .unset, .unset, .unset, .unset] [(.int k9)])) _
  refine XS.ifYes X4.here hx rfl (pc0 := 236) (pc' := 256) rfl (hb hby at_236) rfl ((if0 _ _).trans (teq hc236).1) (by decide) (by decide) ?_
  exact kt
theorem pd_3 : parseMethodDescriptor "(C)Ljava/lang/String;" = some ⟨[.char], some (.object "java/lang/String")⟩ := by decide +kernel
set_option maxRecDepth 65536 in
set_option maxHeartbeats 40000000 in
theorem tn225f {p : Program} {l : Launch} {e : Env} {s : State} {m : MethodId} {args : Array Value} {below : List Frame} {meth : Method} {c : Code} {T0 : State} {locs : List Loc} {Z : State} {a0 : Array Value} (hw : ∀ d ∈ tables_1, d.before a0 Z = true) (p1 p2 p3 p4 p5 p6 k6 k7 k8 k9 k10 k11 p12 : Int32) (o13 o14 o15 o16 wD : Addr) (kD : ClassId) (zC : Int32) (h0 : Heap) (n0 : Nat) (X0 : Stand p l e room_1 s m args below meth c T0 locs 11 55) (N0 : Fr n0 locs) (hx : p.tables.exec = Jvm.exec) (hZ : Z.Warmed39 s.vm) (hby : c.code = code) (hml : c.maxLocals = 23) (hown : s.vm.findClass "com/example/mirante/mirante/FieldDefHasRuleChecksPinLaw" = some m.cls) (e0 : T0.heap = h0) (O0 : Old Z n0 h0) (HV_wD : Arv Z h0 wD kD (.object "java/lang/Object") (0 : Int32) [] .null) (S_DEFAULTCAPACITY_EMPTY_ELEMENTDATA : Sta Z Z.heap "java/util/ArrayList" "DEFAULTCAPACITY_EMPTY_ELEMENTDATA" "[Ljava/lang/Object;" (.ref wD)) (hc236 : ¬ (k9 = (0 : Int32))) (S_COMPACT_STRINGS : Sta Z Z.heap "java/lang/String" "COMPACT_STRINGS" "Z" (.int zC)) (h247_hc3 : ¬ (zC = (0 : Int32))) :
    ∃ (T' : State) (locs' : List Loc) (h' : Heap) (b1 : Addr), Stand p l e room_1 s m args below meth c T' locs' 15 73 ∧ Fr n0 locs' ∧ T'.heap = h' ∧ Keep h0 h' [] ∧ h0.size ≤ b1 ∧
      ∀ target, Steps p.tables e below (T'.setTop (mkF m 256 #[.val (.int p1), .val (.int p2), .val (.int p3), .val (.int p4), .val (.int p5), .val (.int p6), .val (.int k6), .val (.int k7), .val (.int k8), .val (.int k9), .val (.int k10), .val (.int k11), .val (.int p12), .val (.ref o13), .val (.ref o14), .val (.ref o15), .val (.ref o16), .val (.ref b1), .unset, .unset, .unset, .unset, .unset] [])) target → Steps p.tables e below (T0.setTop (mkF m 225 #[.val (.int p1), .val (.int p2), .val (.int p3), .val (.int p4), .val (.int p5), .val (.int p6), .val (.int k6), .val (.int k7), .val (.int k8), .val (.int k9), .val (.int k10), .val (.int k11), .val (.int p12), .val (.ref o13), .val (.ref o14), .val (.ref o15), .val (.ref o16), .unset, .unset, .unset, .unset, .unset, .unset] [])) target := by
  have Z0 : n0 ≤ h0.size := O0.1 ▸ O0.2.1
  obtain ⟨T1, h1, X1, e1, E1, A1, D1, -, st1⟩ := newO X0 hx hZ hown (hw _ (List.mem_of_getElem? (i := 3) rfl)) (hw _ (List.mem_of_getElem? (i := 4) rfl)) (hw _ (List.mem_of_getElem? (i := 5) rfl)) e0 (g := (mkF m 225 #[.val (.int p1), .val (.int p2), .val (.int p3), .val (.int p4), .val (.int p5), .val (.int p6), .val (.int k6), .val (.int k7), .val (.int k8), .val (.int k9), .val (.int k10), .val (.int k11), .val (.int p12), .val (.ref o13), .val (.ref o14), .val (.ref o15), .val (.ref o16), .unset, .unset, .unset, .unset, .unset, .unset] [])) rfl (hb hby at_225) (by decide) (by decide)
  obtain ⟨b1, g1⟩ : ∃ z, z = h0.size := ⟨_, rfl⟩
  rw [← g1] at A1 D1 st1
  have g_b1 : n0 ≤ b1 := Nat.le_trans (Nat.le_trans Z0 (Keep.refl h0 []).1) (Nat.le_of_eq g1.symm)
  have sz_b1 : h0.size ≤ b1 := Nat.le_trans (Keep.refl h0 []).1 (Nat.le_of_eq g1.symm)
  have K2 : Keep h0 h1 [] := (Keep.refl h0 []).ext E1
  have O3 : Old Z n0 h1 := O0.ext E1
  have F_modCount_b1 : Fld Z h1 b1 "java/util/AbstractList" "modCount" "I" (.int (0 : Int32)) := D1 (Or.inl (hw _ (List.mem_of_getElem? (i := 25) rfl))) (ty := .int) (by decide)
  have F_elementData_b1 : Fld Z h1 b1 "java/util/ArrayList" "elementData" "[Ljava/lang/Object;" .null := D1 (Or.inl (hw _ (List.mem_of_getElem? (i := 28) rfl))) (ty := (.array (.object "java/lang/Object"))) (by decide)
  have F_size_b1 : Fld Z h1 b1 "java/util/ArrayList" "size" "I" (.int (0 : Int32)) := D1 (Or.inl (hw _ (List.mem_of_getElem? (i := 41) rfl))) (ty := .int) (by decide)
  replace X1 := X1.more (cells' := 12) (slots' := 58) (by decide) (by decide)
  obtain ⟨vr4, _, ⟨T4, L4, k4, n4⟩, -, X4, ⟨Lc4, hQ4, l4, y4, z4⟩, st4⟩ := X1.specialBack hx (y := (⟨"java/util/ArrayList", "<init>", "()V"⟩ : MethodName)) rfl hown (mvT hZ (hw _ (List.mem_of_getElem? (i := 6) rfl))) (mvT hZ (hw _ (List.mem_of_getElem? (i := 7) rfl))) (mvT hZ (hw _ (List.mem_of_getElem? (i := 8) rfl))) (by decide) (backOf (W := 1) (rm1 l Z a0 hw [] b1 ((.int (0 : Int32))) (.null) ((.int (0 : Int32))) wD h1 n0 O3 A1 F_modCount_b1 F_elementData_b1 F_size_b1 g_b1 S_DEFAULTCAPACITY_EMPTY_ELEMENTDATA) hZ (hw _ (List.mem_of_getElem? (i := 8) rfl)) (hw _ (List.mem_of_getElem? (i := 5) rfl)) (by decide) (by decide)) (g := (mkF m 229 #[.val (.int p1), .val (.int p2), .val (.int p3), .val (.int p4), .val (.int p5), .val (.int p6), .val (.int k6), .val (.int k7), .val (.int k8), .val (.int k9), .val (.int k10), .val (.int k11), .val (.int p12), .val (.ref o13), .val (.ref o14), .val (.ref o15), .val (.ref o16), .unset, .unset, .unset, .unset, .unset, .unset] [(.ref b1), (.ref b1)])) rfl (by rw [hml]; rfl) (Steps.refl _) (a := b1) (argsL := []) (rest := [(.ref b1)]) (lenOf pd_0 rfl) rfl (by show 2 * 0 + _ ≤ _; exact Nat.le_of_eq rfl) (hb hby at_229) (fun _ _ => ⟨rfl, e1, (by decide : 12 + 0 ≤ _), (by decide : 58 + 0 ≤ _)⟩)
  dsimp only [Pt.U, Pt.locs, Pt.cells, Pt.slots] at X4 l4 y4 z4 st4 hQ4
  subst l4 y4 z4
  obtain ⟨rfl, N4q, K4, Y4_0, Y4_1, Y4_2, Y4_3⟩ := hQ4
  have N4 := Fr.app N0 N4q
  replace X4 := X4.more (cells' := 12) (slots' := 58) (by decide) (by decide)
  have K5 : Keep h0 T4.heap [] := K2.trans K4 (allS (Or.inr sz_b1) all0)
  have O6 : Old Z n0 T4.heap := O3.keep K4 (allS g_b1 all0)
  obtain ⟨vr7, _, ⟨T7, L7, k7, n7⟩, -, X7, ⟨Lc7, hQ7, l7, y7, z7⟩, st7⟩ := Jvm.LawKit.callS X4 hx (y := (⟨"java/lang/String", "valueOf", "(C)Ljava/lang/String;"⟩ : MethodName)) hown (mvT hZ (hw _ (List.mem_of_getElem? (i := 63) rfl))) (mvT hZ (hw _ (List.mem_of_getElem? (i := 64) rfl))) (mvT hZ (hw _ (List.mem_of_getElem? (i := 65) rfl))) (mvT hZ (hw _ (List.mem_of_getElem? (i := 66) rfl))) (by decide) (backOf (W := 1) (rm10 l Z a0 hw [] (((p1 &&& (255 : Int32)).toUInt32.toUInt16.toUInt32.toInt32)) zC T4.heap n0 O6 S_COMPACT_STRINGS h247_hc3 ((by rw [i2c_mask]; exact (own_m255 _).2) : ¬ ((255 : Int32) < ((p1 &&& (255 : Int32)).toUInt32.toUInt16.toUInt32.toInt32)))) hZ (hw _ (List.mem_of_getElem? (i := 66) rfl)) (hw _ (List.mem_of_getElem? (i := 65) rfl)) (by decide) (by decide)) (g := (mkF m 247 #[.val (.int p1), .val (.int p2), .val (.int p3), .val (.int p4), .val (.int p5), .val (.int p6), .val (.int k6), .val (.int k7), .val (.int k8), .val (.int k9), .val (.int k10), .val (.int k11), .val (.int p12), .val (.ref o13), .val (.ref o14), .val (.ref o15), .val (.ref o16), .val (.ref b1), .unset, .unset, .unset, .unset, .unset] [(.int ((p1 &&& (255 : Int32)).toUInt32.toUInt16.toUInt32.toInt32)), (.ref b1)])) rfl (by rw [hml]; rfl) (argsL := [(.int ((p1 &&& (255 : Int32)).toUInt32.toUInt16.toUInt32.toInt32))]) (rest := [(.ref b1)]) (lenOf pd_3 rfl) rfl (by show 2 * 0 + _ ≤ _; exact Nat.le_of_eq rfl) (hb hby at_247) (fun _ _ => ⟨rfl, rfl, (by decide : 12 + 2 ≤ _), (by decide : 58 + 5 ≤ _)⟩)
  dsimp only [Pt.U, Pt.locs, Pt.cells, Pt.slots] at X7 l7 y7 z7 st7 hQ7
  subst l7 y7 z7
  obtain ⟨b8, rfl, N7q, K7, Y7_z0, Y7_0⟩ := hQ7
  have N7 := Fr.app N4 N7q
  replace X7 := X7.more (cells' := 14) (slots' := 63) (by decide) (by decide)
  have g_b8 : n0 ≤ b8 := Nat.le_trans (Nat.le_trans Z0 K5.1) Y7_z0
  have sz_b8 : h0.size ≤ b8 := Nat.le_trans K5.1 Y7_z0
  have K9 : Keep h0 T7.heap [] := K5.trans K7 all0
  have O10 : Old Z n0 T7.heap := O6.keep K7 all0
  have f11 := (Y4_0.keep K7)
  have f12 := (Y4_2.keep K7 nin0)
  have f13 := (Y4_1.keep K7 nin0)
  have f14 := (Y4_3.keep K7 nin0)
  have f15 := (((HV_wD.ext E1).keep K4 (ninS (Nat.ne_of_lt (Nat.lt_of_lt_of_le HV_wD.lt (Nat.le_of_eq g1.symm))) nin0)).keep K7 nin0)
  obtain ⟨cq16, kq16, q16a, q16b, q16c⟩ := isOf hZ rfl f11
  obtain ⟨vr16, _, ⟨T16, L16, k16, n16⟩, -, X16, ⟨Lc16, hQ16, l16, y16, z16⟩, st16⟩ := X7.interfaceBack hx (xi := (⟨"java/util/List", "add", "(Ljava/lang/Object;)Z"⟩ : MethodName)) (y := (⟨"java/util/ArrayList", "add", "(Ljava/lang/Object;)Z"⟩ : MethodName)) hown (mvT hZ (hw _ (List.mem_of_getElem? (i := 29) rfl))) (mvT hZ (hw _ (List.mem_of_getElem? (i := 30) rfl))) (mvT hZ (hw _ (List.mem_of_getElem? (i := 31) rfl))) (mvT hZ (hw _ (List.mem_of_getElem? (i := 32) rfl))) (mvT hZ (hw _ (List.mem_of_getElem? (i := 33) rfl))) (mvT hZ (hw _ (List.mem_of_getElem? (i := 34) rfl))) (mvT hZ (hw _ (List.mem_of_getElem? (i := 35) rfl))) (mvT hZ (hw _ (List.mem_of_getElem? (i := 36) rfl))) (by decide) (backOf (W := 0) (rm5f l Z a0 hw [] b1 b8 ((0 : Int32)) kD wD T7.heap n0 O10 f11 f12 f13 f14 f15 g_b1 (Nat.ne_of_lt (Nat.lt_of_lt_of_le HV_wD.lt (Nat.le_of_eq g1.symm))) S_DEFAULTCAPACITY_EMPTY_ELEMENTDATA (Ins.of_exa Y7_0 (hw _ (List.mem_of_getElem? (i := 182) rfl)))) hZ (hw _ (List.mem_of_getElem? (i := 37) rfl)) (hw _ (List.mem_of_getElem? (i := 5) rfl)) (by decide) (by decide)) q16a q16b q16c (g := (mkF m 250 #[.val (.int p1), .val (.int p2), .val (.int p3), .val (.int p4), .val (.int p5), .val (.int p6), .val (.int k6), .val (.int k7), .val (.int k8), .val (.int k9), .val (.int k10), .val (.int k11), .val (.int p12), .val (.ref o13), .val (.ref o14), .val (.ref o15), .val (.ref o16), .val (.ref b1), .unset, .unset, .unset, .unset, .unset] [(.ref b8), (.ref b1)])) rfl (by rw [hml]; rfl) (Steps.refl _) (argsL := [(.ref b8)]) (rest := []) (lenOf pd_12 rfl) rfl (by show 2 * 0 + _ ≤ _; exact Nat.le_of_eq rfl) (hb hby at_250) (fun _ _ => ⟨rfl, rfl, (by decide : 14 + 1 ≤ _), (by decide : 63 + 10 ≤ _)⟩)
  dsimp only [Pt.U, Pt.locs, Pt.cells, Pt.slots] at X16 l16 y16 z16 st16 hQ16
  subst l16 y16 z16
  obtain ⟨b17, k18, rfl, N16q, K16, Y16_z0, Y16_0, Y16_1, Y16_2, Y16_3, Y16_4, Y16_5, Y16_6⟩ := hQ16
  have N16 := Fr.app N7 N16q
  replace X16 := X16.more (cells' := 15) (slots' := 73) (by decide) (by decide)
  have g_b17 : n0 ≤ b17 := Nat.le_trans (Nat.le_trans Z0 K9.1) Y16_z0
  have sz_b17 : h0.size ≤ b17 := Nat.le_trans K9.1 Y16_z0
  have K19 : Keep h0 T16.heap [] := K9.trans K16 (allS (Or.inr sz_b1) all0)
  have O20 : Old Z n0 T16.heap := O10.keep K16 (allS g_b1 all0)
  refine ⟨T16, _, _, b1, X16, N16, rfl, K19, sz_b1, fun target kt => ?_⟩
  show Steps p.tables e below (T0.setTop (mkF m 225 #[.val (.int p1), .val (.int p2), .val (.int p3), .val (.int p4), .val (.int p5), .val (.int p6), .val (.int k6), .val (.int k7), .val (.int k8), .val (.int k9), .val (.int k10), .val (.int k11), .val (.int p12), .val (.ref o13), .val (.ref o14), .val (.ref o15), .val (.ref o16), .unset, .unset, .unset, .unset, .unset, .unset] [])) _
  refine st1 _ ?_
  show Steps p.tables e below (T1.setTop (mkF m 228 #[.val (.int p1), .val (.int p2), .val (.int p3), .val (.int p4), .val (.int p5), .val (.int p6), .val (.int k6), .val (.int k7), .val (.int k8), .val (.int k9), .val (.int k10), .val (.int k11), .val (.int p12), .val (.ref o13), .val (.ref o14), .val (.ref o15), .val (.ref o16), .unset, .unset, .unset, .unset, .unset, .unset] [(.ref b1)])) _
  refine XS.dup X1.here hx rfl (hb hby at_228) rfl rfl ?_
  show Steps p.tables e below (T1.setTop (mkF m 229 #[.val (.int p1), .val (.int p2), .val (.int p3), .val (.int p4), .val (.int p5), .val (.int p6), .val (.int k6), .val (.int k7), .val (.int k8), .val (.int k9), .val (.int k10), .val (.int k11), .val (.int p12), .val (.ref o13), .val (.ref o14), .val (.ref o15), .val (.ref o16), .unset, .unset, .unset, .unset, .unset, .unset] [(.ref b1), (.ref b1)])) _
  refine st4.trans ?_
  show Steps p.tables e below (T4.setTop (mkF m 232 #[.val (.int p1), .val (.int p2), .val (.int p3), .val (.int p4), .val (.int p5), .val (.int p6), .val (.int k6), .val (.int k7), .val (.int k8), .val (.int k9), .val (.int k10), .val (.int k11), .val (.int p12), .val (.ref o13), .val (.ref o14), .val (.ref o15), .val (.ref o16), .unset, .unset, .unset, .unset, .unset, .unset] [(.ref b1)])) _
  refine XS.astore X4.here hx rfl (hb hby at_232) rfl rfl (l' := #[.val (.int p1), .val (.int p2), .val (.int p3), .val (.int p4), .val (.int p5), .val (.int p6), .val (.int k6), .val (.int k7), .val (.int k8), .val (.int k9), .val (.int k10), .val (.int k11), .val (.int p12), .val (.ref o13), .val (.ref o14), .val (.ref o15), .val (.ref o16), .val (.ref b1), .unset, .unset, .unset, .unset, .unset]) rfl ?_
  show Steps p.tables e below (T4.setTop (mkF m 234 #[.val (.int p1), .val (.int p2), .val (.int p3), .val (.int p4), .val (.int p5), .val (.int p6), .val (.int k6), .val (.int k7), .val (.int k8), .val (.int k9), .val (.int k10), .val (.int k11), .val (.int p12), .val (.ref o13), .val (.ref o14), .val (.ref o15), .val (.ref o16), .val (.ref b1), .unset, .unset, .unset, .unset, .unset] [])) _
  refine XS.iload X4.here hx rfl (hb hby at_234) rfl ?_
  show Steps p.tables e below (T4.setTop (mkF m 236 #[.val (.int p1), .val (.int p2), .val (.int p3), .val (.int p4), .val (.int p5), .val (.int p6), .val (.int k6), .val (.int k7), .val (.int k8), .val (.int k9), .val (.int k10), .val (.int k11), .val (.int p12), .val (.ref o13), .val (.ref o14), .val (.ref o15), .val (.ref o16), .val (.ref b1), .unset, .unset, .unset, .unset, .unset] [(.int k9)])) _
  refine XS.ifNo X4.here hx rfl (hb hby at_236) rfl ((if0 _ _).trans (feq hc236).1) ?_
  show Steps p.tables e below (T4.setTop (mkF m 239 #[.val (.int p1), .val (.int p2), .val (.int p3), .val (.int p4), .val (.int p5), .val (.int p6), .val (.int k6), .val (.int k7), .val (.int k8), .val (.int k9), .val (.int k10), .val (.int k11), .val (.int p12), .val (.ref o13), .val (.ref o14), .val (.ref o15), .val (.ref o16), .val (.ref b1), .unset, .unset, .unset, .unset, .unset] [])) _
  refine XS.aload X4.here hx rfl (hb hby at_239) rfl rfl ?_
  show Steps p.tables e below (T4.setTop (mkF m 241 #[.val (.int p1), .val (.int p2), .val (.int p3), .val (.int p4), .val (.int p5), .val (.int p6), .val (.int k6), .val (.int k7), .val (.int k8), .val (.int k9), .val (.int k10), .val (.int k11), .val (.int p12), .val (.ref o13), .val (.ref o14), .val (.ref o15), .val (.ref o16), .val (.ref b1), .unset, .unset, .unset, .unset, .unset] [(.ref b1)])) _
  refine XS.iloadN X4.here hx rfl (hb hby at_241) rfl ?_
  show Steps p.tables e below (T4.setTop (mkF m 242 #[.val (.int p1), .val (.int p2), .val (.int p3), .val (.int p4), .val (.int p5), .val (.int p6), .val (.int k6), .val (.int k7), .val (.int k8), .val (.int k9), .val (.int k10), .val (.int k11), .val (.int p12), .val (.ref o13), .val (.ref o14), .val (.ref o15), .val (.ref o16), .val (.ref b1), .unset, .unset, .unset, .unset, .unset] [(.int p1), (.ref b1)])) _
  refine XS.sipush X4.here hx rfl (hb hby at_242) ?_
  show Steps p.tables e below (T4.setTop (mkF m 245 #[.val (.int p1), .val (.int p2), .val (.int p3), .val (.int p4), .val (.int p5), .val (.int p6), .val (.int k6), .val (.int k7), .val (.int k8), .val (.int k9), .val (.int k10), .val (.int k11), .val (.int p12), .val (.ref o13), .val (.ref o14), .val (.ref o15), .val (.ref o16), .val (.ref b1), .unset, .unset, .unset, .unset, .unset] [(.int (255 : Int32)), (.int p1), (.ref b1)])) _
  refine XS.iand X4.here hx rfl (hb hby at_245) rfl ?_
  show Steps p.tables e below (T4.setTop (mkF m 246 #[.val (.int p1), .val (.int p2), .val (.int p3), .val (.int p4), .val (.int p5), .val (.int p6), .val (.int k6), .val (.int k7), .val (.int k8), .val (.int k9), .val (.int k10), .val (.int k11), .val (.int p12), .val (.ref o13), .val (.ref o14), .val (.ref o15), .val (.ref o16), .val (.ref b1), .unset, .unset, .unset, .unset, .unset] [(.int (p1 &&& (255 : Int32))), (.ref b1)])) _
  refine XS.i2c X4.here hx rfl (hb hby at_246) rfl ?_
  show Steps p.tables e below (T4.setTop (mkF m 247 #[.val (.int p1), .val (.int p2), .val (.int p3), .val (.int p4), .val (.int p5), .val (.int p6), .val (.int k6), .val (.int k7), .val (.int k8), .val (.int k9), .val (.int k10), .val (.int k11), .val (.int p12), .val (.ref o13), .val (.ref o14), .val (.ref o15), .val (.ref o16), .val (.ref b1), .unset, .unset, .unset, .unset, .unset] [(.int ((p1 &&& (255 : Int32)).toUInt32.toUInt16.toUInt32.toInt32)), (.ref b1)])) _
  refine st7 _ ?_
  show Steps p.tables e below (T7.setTop (mkF m 250 #[.val (.int p1), .val (.int p2), .val (.int p3), .val (.int p4), .val (.int p5), .val (.int p6), .val (.int k6), .val (.int k7), .val (.int k8), .val (.int k9), .val (.int k10), .val (.int k11), .val (.int p12), .val (.ref o13), .val (.ref o14), .val (.ref o15), .val (.ref o16), .val (.ref b1), .unset, .unset, .unset, .unset, .unset] [(.ref b8), (.ref b1)])) _
  refine st16.trans ?_
  show Steps p.tables e below (T16.setTop (mkF m 255 #[.val (.int p1), .val (.int p2), .val (.int p3), .val (.int p4), .val (.int p5), .val (.int p6), .val (.int k6), .val (.int k7), .val (.int k8), .val (.int k9), .val (.int k10), .val (.int k11), .val (.int p12), .val (.ref o13), .val (.ref o14), .val (.ref o15), .val (.ref o16), .val (.ref b1), .unset, .unset, .unset, .unset, .unset] [(.int (1 : Int32))])) _
  refine XS.pop X16.here hx rfl (hb hby at_255) rfl rfl ?_
  exact kt
set_option maxRecDepth 65536 in
set_option maxHeartbeats 40000000 in
theorem tn225 {p : Program} {l : Launch} {e : Env} {s : State} {m : MethodId} {args : Array Value} {below : List Frame} {meth : Method} {c : Code} {T0 : State} {locs : List Loc} {Z : State} {a0 : Array Value} (hw : ∀ d ∈ tables_1, d.before a0 Z = true) (p1 p2 p3 p4 p5 p6 k6 k7 k8 k9 k10 k11 p12 : Int32) (o13 o14 o15 o16 wD : Addr) (kD : ClassId) (zC : Int32) (h0 : Heap) (n0 : Nat) (X0 : Stand p l e room_1 s m args below meth c T0 locs 11 55) (N0 : Fr n0 locs) (hx : p.tables.exec = Jvm.exec) (hZ : Z.Warmed39 s.vm) (hby : c.code = code) (hml : c.maxLocals = 23) (hown : s.vm.findClass "com/example/mirante/mirante/FieldDefHasRuleChecksPinLaw" = some m.cls) (e0 : T0.heap = h0) (O0 : Old Z n0 h0) (HV_wD : Arv Z h0 wD kD (.object "java/lang/Object") (0 : Int32) [] .null) (S_DEFAULTCAPACITY_EMPTY_ELEMENTDATA : Sta Z Z.heap "java/util/ArrayList" "DEFAULTCAPACITY_EMPTY_ELEMENTDATA" "[Ljava/lang/Object;" (.ref wD)) (S_COMPACT_STRINGS : Sta Z Z.heap "java/lang/String" "COMPACT_STRINGS" "Z" (.int zC)) (h247_hc3 : ¬ (zC = (0 : Int32))) :
    ∃ (T' : State) (locs' : List Loc) (h' : Heap) (b1 : Addr), Stand p l e room_1 s m args below meth c T' locs' 15 73 ∧ Fr n0 locs' ∧ T'.heap = h' ∧ Keep h0 h' [] ∧ h0.size ≤ b1 ∧
      ∀ target, Steps p.tables e below (T'.setTop (mkF m 256 #[.val (.int p1), .val (.int p2), .val (.int p3), .val (.int p4), .val (.int p5), .val (.int p6), .val (.int k6), .val (.int k7), .val (.int k8), .val (.int k9), .val (.int k10), .val (.int k11), .val (.int p12), .val (.ref o13), .val (.ref o14), .val (.ref o15), .val (.ref o16), .val (.ref b1), .unset, .unset, .unset, .unset, .unset] [])) target → Steps p.tables e below (T0.setTop (mkF m 225 #[.val (.int p1), .val (.int p2), .val (.int p3), .val (.int p4), .val (.int p5), .val (.int p6), .val (.int k6), .val (.int k7), .val (.int k8), .val (.int k9), .val (.int k10), .val (.int k11), .val (.int p12), .val (.ref o13), .val (.ref o14), .val (.ref o15), .val (.ref o16), .unset, .unset, .unset, .unset, .unset, .unset] [])) target := by
  by_cases c1 : k9 = (0 : Int32)
  · obtain ⟨T', L', h', b1, X', N', e', K', z0', st'⟩ := tn225t hw p1 p2 p3 p4 p5 p6 k6 k7 k8 k9 k10 k11 p12 o13 o14 o15 o16 wD kD zC h0 n0 X0 N0 hx hZ hby hml hown e0 O0 HV_wD S_DEFAULTCAPACITY_EMPTY_ELEMENTDATA c1
    exact ⟨T', L', h', b1, X'.more (by decide) (by decide), N', e', K', z0', st'⟩
  · obtain ⟨T', L', h', b1, X', N', e', K', z0', st'⟩ := tn225f hw p1 p2 p3 p4 p5 p6 k6 k7 k8 k9 k10 k11 p12 o13 o14 o15 o16 wD kD zC h0 n0 X0 N0 hx hZ hby hml hown e0 O0 HV_wD S_DEFAULTCAPACITY_EMPTY_ELEMENTDATA c1 S_COMPACT_STRINGS h247_hc3
    exact ⟨T', L', h', b1, X'.more (by decide) (by decide), N', e', K', z0', st'⟩
set_option maxRecDepth 65536 in
set_option maxHeartbeats 40000000 in
theorem tn256t {p : Program} {l : Launch} {e : Env} {s : State} {m : MethodId} {args : Array Value} {below : List Frame} {meth : Method} {c : Code} {T0 : State} {locs : List Loc} {Z : State} {a0 : Array Value} (hw : ∀ d ∈ tables_1, d.before a0 Z = true) (p1 p2 p3 p4 p5 p6 k6 k7 k8 k9 k10 k11 p12 : Int32) (o13 o14 o15 o16 o17 wD : Addr) (kD : ClassId) (h0 : Heap) (n0 : Nat) (X0 : Stand p l e room_1 s m args below meth c T0 locs 15 73) (N0 : Fr n0 locs) (hx : p.tables.exec = Jvm.exec) (hZ : Z.Warmed39 s.vm) (hby : c.code = code) (hml : c.maxLocals = 23) (hown : s.vm.findClass "com/example/mirante/mirante/FieldDefHasRuleChecksPinLaw" = some m.cls) (e0 : T0.heap = h0) (O0 : Old Z n0 h0) (HV_wD : Arv Z h0 wD kD (.object "java/lang/Object") (0 : Int32) [] .null) (S_DEFAULTCAPACITY_EMPTY_ELEMENTDATA : Sta Z Z.heap "java/util/ArrayList" "DEFAULTCAPACITY_EMPTY_ELEMENTDATA" "[Ljava/lang/Object;" (.ref wD)) (hc267 : k10 = (0 : Int32)) :
    ∃ (T' : State) (locs' : List Loc) (h' : Heap) (b1 : Addr), Stand p l e room_1 s m args below meth c T' locs' 16 76 ∧ Fr n0 locs' ∧ T'.heap = h' ∧ Keep h0 h' [] ∧ h0.size ≤ b1 ∧
      ∀ target, Steps p.tables e below (T'.setTop (mkF m 279 #[.val (.int p1), .val (.int p2), .val (.int p3), .val (.int p4), .val (.int p5), .val (.int p6), .val (.int k6), .val (.int k7), .val (.int k8), .val (.int k9), .val (.int k10), .val (.int k11), .val (.int p12), .val (.ref o13), .val (.ref o14), .val (.ref o15), .val (.ref o16), .val (.ref o17), .val (.ref b1), .unset, .unset, .unset, .unset] [])) target → Steps p.tables e below (T0.setTop (mkF m 256 #[.val (.int p1), .val (.int p2), .val (.int p3), .val (.int p4), .val (.int p5), .val (.int p6), .val (.int k6), .val (.int k7), .val (.int k8), .val (.int k9), .val (.int k10), .val (.int k11), .val (.int p12), .val (.ref o13), .val (.ref o14), .val (.ref o15), .val (.ref o16), .val (.ref o17), .unset, .unset, .unset, .unset, .unset] [])) target := by
  have Z0 : n0 ≤ h0.size := O0.1 ▸ O0.2.1
  obtain ⟨T1, h1, X1, e1, E1, A1, D1, -, st1⟩ := newO X0 hx hZ hown (hw _ (List.mem_of_getElem? (i := 3) rfl)) (hw _ (List.mem_of_getElem? (i := 4) rfl)) (hw _ (List.mem_of_getElem? (i := 5) rfl)) e0 (g := (mkF m 256 #[.val (.int p1), .val (.int p2), .val (.int p3), .val (.int p4), .val (.int p5), .val (.int p6), .val (.int k6), .val (.int k7), .val (.int k8), .val (.int k9), .val (.int k10), .val (.int k11), .val (.int p12), .val (.ref o13), .val (.ref o14), .val (.ref o15), .val (.ref o16), .val (.ref o17), .unset, .unset, .unset, .unset, .unset] [])) rfl (hb hby at_256) (by decide) (by decide)
  obtain ⟨b1, g1⟩ : ∃ z, z = h0.size := ⟨_, rfl⟩
  rw [← g1] at A1 D1 st1
  have g_b1 : n0 ≤ b1 := Nat.le_trans (Nat.le_trans Z0 (Keep.refl h0 []).1) (Nat.le_of_eq g1.symm)
  have sz_b1 : h0.size ≤ b1 := Nat.le_trans (Keep.refl h0 []).1 (Nat.le_of_eq g1.symm)
  have K2 : Keep h0 h1 [] := (Keep.refl h0 []).ext E1
  have O3 : Old Z n0 h1 := O0.ext E1
  have F_modCount_b1 : Fld Z h1 b1 "java/util/AbstractList" "modCount" "I" (.int (0 : Int32)) := D1 (Or.inl (hw _ (List.mem_of_getElem? (i := 25) rfl))) (ty := .int) (by decide)
  have F_elementData_b1 : Fld Z h1 b1 "java/util/ArrayList" "elementData" "[Ljava/lang/Object;" .null := D1 (Or.inl (hw _ (List.mem_of_getElem? (i := 28) rfl))) (ty := (.array (.object "java/lang/Object"))) (by decide)
  have F_size_b1 : Fld Z h1 b1 "java/util/ArrayList" "size" "I" (.int (0 : Int32)) := D1 (Or.inl (hw _ (List.mem_of_getElem? (i := 41) rfl))) (ty := .int) (by decide)
  replace X1 := X1.more (cells' := 16) (slots' := 76) (by decide) (by decide)
  obtain ⟨vr4, _, ⟨T4, L4, k4, n4⟩, -, X4, ⟨Lc4, hQ4, l4, y4, z4⟩, st4⟩ := X1.specialBack hx (y := (⟨"java/util/ArrayList", "<init>", "()V"⟩ : MethodName)) rfl hown (mvT hZ (hw _ (List.mem_of_getElem? (i := 6) rfl))) (mvT hZ (hw _ (List.mem_of_getElem? (i := 7) rfl))) (mvT hZ (hw _ (List.mem_of_getElem? (i := 8) rfl))) (by decide) (backOf (W := 1) (rm1 l Z a0 hw [] b1 ((.int (0 : Int32))) (.null) ((.int (0 : Int32))) wD h1 n0 O3 A1 F_modCount_b1 F_elementData_b1 F_size_b1 g_b1 S_DEFAULTCAPACITY_EMPTY_ELEMENTDATA) hZ (hw _ (List.mem_of_getElem? (i := 8) rfl)) (hw _ (List.mem_of_getElem? (i := 5) rfl)) (by decide) (by decide)) (g := (mkF m 260 #[.val (.int p1), .val (.int p2), .val (.int p3), .val (.int p4), .val (.int p5), .val (.int p6), .val (.int k6), .val (.int k7), .val (.int k8), .val (.int k9), .val (.int k10), .val (.int k11), .val (.int p12), .val (.ref o13), .val (.ref o14), .val (.ref o15), .val (.ref o16), .val (.ref o17), .unset, .unset, .unset, .unset, .unset] [(.ref b1), (.ref b1)])) rfl (by rw [hml]; rfl) (Steps.refl _) (a := b1) (argsL := []) (rest := [(.ref b1)]) (lenOf pd_0 rfl) rfl (by show 2 * 0 + _ ≤ _; exact Nat.le_of_eq rfl) (hb hby at_260) (fun _ _ => ⟨rfl, e1, (by decide : 16 + 0 ≤ _), (by decide : 76 + 0 ≤ _)⟩)
  dsimp only [Pt.U, Pt.locs, Pt.cells, Pt.slots] at X4 l4 y4 z4 st4 hQ4
  subst l4 y4 z4
  obtain ⟨rfl, N4q, K4, Y4_0, Y4_1, Y4_2, Y4_3⟩ := hQ4
  have N4 := Fr.app N0 N4q
  replace X4 := X4.more (cells' := 16) (slots' := 76) (by decide) (by decide)
  have K5 : Keep h0 T4.heap [] := K2.trans K4 (allS (Or.inr sz_b1) all0)
  have O6 : Old Z n0 T4.heap := O3.keep K4 (allS g_b1 all0)
  refine ⟨T4, _, _, b1, X4, N4, rfl, K5, sz_b1, fun target kt => ?_⟩
  show Steps p.tables e below (T0.setTop (mkF m 256 #[.val (.int p1), .val (.int p2), .val (.int p3), .val (.int p4), .val (.int p5), .val (.int p6), .val (.int k6), .val (.int k7), .val (.int k8), .val (.int k9), .val (.int k10), .val (.int k11), .val (.int p12), .val (.ref o13), .val (.ref o14), .val (.ref o15), .val (.ref o16), .val (.ref o17), .unset, .unset, .unset, .unset, .unset] [])) _
  refine st1 _ ?_
  show Steps p.tables e below (T1.setTop (mkF m 259 #[.val (.int p1), .val (.int p2), .val (.int p3), .val (.int p4), .val (.int p5), .val (.int p6), .val (.int k6), .val (.int k7), .val (.int k8), .val (.int k9), .val (.int k10), .val (.int k11), .val (.int p12), .val (.ref o13), .val (.ref o14), .val (.ref o15), .val (.ref o16), .val (.ref o17), .unset, .unset, .unset, .unset, .unset] [(.ref b1)])) _
  refine XS.dup X1.here hx rfl (hb hby at_259) rfl rfl ?_
  show Steps p.tables e below (T1.setTop (mkF m 260 #[.val (.int p1), .val (.int p2), .val (.int p3), .val (.int p4), .val (.int p5), .val (.int p6), .val (.int k6), .val (.int k7), .val (.int k8), .val (.int k9), .val (.int k10), .val (.int k11), .val (.int p12), .val (.ref o13), .val (.ref o14), .val (.ref o15), .val (.ref o16), .val (.ref o17), .unset, .unset, .unset, .unset, .unset] [(.ref b1), (.ref b1)])) _
  refine st4.trans ?_
  show Steps p.tables e below (T4.setTop (mkF m 263 #[.val (.int p1), .val (.int p2), .val (.int p3), .val (.int p4), .val (.int p5), .val (.int p6), .val (.int k6), .val (.int k7), .val (.int k8), .val (.int k9), .val (.int k10), .val (.int k11), .val (.int p12), .val (.ref o13), .val (.ref o14), .val (.ref o15), .val (.ref o16), .val (.ref o17), .unset, .unset, .unset, .unset, .unset] [(.ref b1)])) _
  refine XS.astore X4.here hx rfl (hb hby at_263) rfl rfl (l' := #[.val (.int p1), .val (.int p2), .val (.int p3), .val (.int p4), .val (.int p5), .val (.int p6), .val (.int k6), .val (.int k7), .val (.int k8), .val (.int k9), .val (.int k10), .val (.int k11), .val (.int p12), .val (.ref o13), .val (.ref o14), .val (.ref o15), .val (.ref o16), .val (.ref o17), .val (.ref b1), .unset, .unset, .unset, .unset]) rfl ?_
  show Steps p.tables e below (T4.setTop (mkF m 265 #[.val (.int p1), .val (.int p2), .val (.int p3), .val (.int p4), .val (.int p5), .val (.int p6), .val (.int k6), .val (.int k7), .val (.int k8), .val (.int k9), .val (.int k10), .val (.int k11), .val (.int p12), .val (.ref o13), .val (.ref o14), .val (.ref o15), .val (.ref o16), .val (.ref o17), .val (.ref b1), .unset, .unset, .unset, .unset] [])) _
  refine XS.iload X4.here hx rfl (hb hby at_265) rfl ?_
  show Steps p.tables e below (T4.setTop (mkF m 267 #[.val (.int p1), .val (.int p2), .val (.int p3), .val (.int p4), .val (.int p5), .val (.int p6), .val (.int k6), .val (.int k7), .val (.int k8), .val (.int k9), .val (.int k10), .val (.int k11), .val (.int p12), .val (.ref o13), .val (.ref o14), .val (.ref o15), .val (.ref o16), .val (.ref o17), .val (.ref b1), .unset, .unset, .unset, .unset] [(.int k10)])) _
  refine XS.ifYes X4.here hx rfl (pc0 := 267) (pc' := 279) rfl (hb hby at_267) rfl ((if0 _ _).trans (teq hc267).1) (by decide) (by decide) ?_
  exact kt
set_option maxRecDepth 65536 in
set_option maxHeartbeats 40000000 in
theorem tn256f {p : Program} {l : Launch} {e : Env} {s : State} {m : MethodId} {args : Array Value} {below : List Frame} {meth : Method} {c : Code} {T0 : State} {locs : List Loc} {Z : State} {a0 : Array Value} (hw : ∀ d ∈ tables_1, d.before a0 Z = true) (p1 p2 p3 p4 p5 p6 k6 k7 k8 k9 k10 k11 p12 : Int32) (o13 o14 o15 o16 o17 wD : Addr) (kD : ClassId) (h0 : Heap) (n0 : Nat) (X0 : Stand p l e room_1 s m args below meth c T0 locs 15 73) (N0 : Fr n0 locs) (hx : p.tables.exec = Jvm.exec) (hZ : Z.Warmed39 s.vm) (hby : c.code = code) (hml : c.maxLocals = 23) (hown : s.vm.findClass "com/example/mirante/mirante/FieldDefHasRuleChecksPinLaw" = some m.cls) (e0 : T0.heap = h0) (O0 : Old Z n0 h0) (HV_wD : Arv Z h0 wD kD (.object "java/lang/Object") (0 : Int32) [] .null) (S_DEFAULTCAPACITY_EMPTY_ELEMENTDATA : Sta Z Z.heap "java/util/ArrayList" "DEFAULTCAPACITY_EMPTY_ELEMENTDATA" "[Ljava/lang/Object;" (.ref wD)) (hc267 : ¬ (k10 = (0 : Int32))) :
    ∃ (T' : State) (locs' : List Loc) (h' : Heap) (b1 : Addr), Stand p l e room_1 s m args below meth c T' locs' 17 86 ∧ Fr n0 locs' ∧ T'.heap = h' ∧ Keep h0 h' [] ∧ h0.size ≤ b1 ∧
      ∀ target, Steps p.tables e below (T'.setTop (mkF m 279 #[.val (.int p1), .val (.int p2), .val (.int p3), .val (.int p4), .val (.int p5), .val (.int p6), .val (.int k6), .val (.int k7), .val (.int k8), .val (.int k9), .val (.int k10), .val (.int k11), .val (.int p12), .val (.ref o13), .val (.ref o14), .val (.ref o15), .val (.ref o16), .val (.ref o17), .val (.ref b1), .unset, .unset, .unset, .unset] [])) target → Steps p.tables e below (T0.setTop (mkF m 256 #[.val (.int p1), .val (.int p2), .val (.int p3), .val (.int p4), .val (.int p5), .val (.int p6), .val (.int k6), .val (.int k7), .val (.int k8), .val (.int k9), .val (.int k10), .val (.int k11), .val (.int p12), .val (.ref o13), .val (.ref o14), .val (.ref o15), .val (.ref o16), .val (.ref o17), .unset, .unset, .unset, .unset, .unset] [])) target := by
  have Z0 : n0 ≤ h0.size := O0.1 ▸ O0.2.1
  obtain ⟨T1, h1, X1, e1, E1, A1, D1, -, st1⟩ := newO X0 hx hZ hown (hw _ (List.mem_of_getElem? (i := 3) rfl)) (hw _ (List.mem_of_getElem? (i := 4) rfl)) (hw _ (List.mem_of_getElem? (i := 5) rfl)) e0 (g := (mkF m 256 #[.val (.int p1), .val (.int p2), .val (.int p3), .val (.int p4), .val (.int p5), .val (.int p6), .val (.int k6), .val (.int k7), .val (.int k8), .val (.int k9), .val (.int k10), .val (.int k11), .val (.int p12), .val (.ref o13), .val (.ref o14), .val (.ref o15), .val (.ref o16), .val (.ref o17), .unset, .unset, .unset, .unset, .unset] [])) rfl (hb hby at_256) (by decide) (by decide)
  obtain ⟨b1, g1⟩ : ∃ z, z = h0.size := ⟨_, rfl⟩
  rw [← g1] at A1 D1 st1
  have g_b1 : n0 ≤ b1 := Nat.le_trans (Nat.le_trans Z0 (Keep.refl h0 []).1) (Nat.le_of_eq g1.symm)
  have sz_b1 : h0.size ≤ b1 := Nat.le_trans (Keep.refl h0 []).1 (Nat.le_of_eq g1.symm)
  have K2 : Keep h0 h1 [] := (Keep.refl h0 []).ext E1
  have O3 : Old Z n0 h1 := O0.ext E1
  have F_modCount_b1 : Fld Z h1 b1 "java/util/AbstractList" "modCount" "I" (.int (0 : Int32)) := D1 (Or.inl (hw _ (List.mem_of_getElem? (i := 25) rfl))) (ty := .int) (by decide)
  have F_elementData_b1 : Fld Z h1 b1 "java/util/ArrayList" "elementData" "[Ljava/lang/Object;" .null := D1 (Or.inl (hw _ (List.mem_of_getElem? (i := 28) rfl))) (ty := (.array (.object "java/lang/Object"))) (by decide)
  have F_size_b1 : Fld Z h1 b1 "java/util/ArrayList" "size" "I" (.int (0 : Int32)) := D1 (Or.inl (hw _ (List.mem_of_getElem? (i := 41) rfl))) (ty := .int) (by decide)
  replace X1 := X1.more (cells' := 16) (slots' := 76) (by decide) (by decide)
  obtain ⟨vr4, _, ⟨T4, L4, k4, n4⟩, -, X4, ⟨Lc4, hQ4, l4, y4, z4⟩, st4⟩ := X1.specialBack hx (y := (⟨"java/util/ArrayList", "<init>", "()V"⟩ : MethodName)) rfl hown (mvT hZ (hw _ (List.mem_of_getElem? (i := 6) rfl))) (mvT hZ (hw _ (List.mem_of_getElem? (i := 7) rfl))) (mvT hZ (hw _ (List.mem_of_getElem? (i := 8) rfl))) (by decide) (backOf (W := 1) (rm1 l Z a0 hw [] b1 ((.int (0 : Int32))) (.null) ((.int (0 : Int32))) wD h1 n0 O3 A1 F_modCount_b1 F_elementData_b1 F_size_b1 g_b1 S_DEFAULTCAPACITY_EMPTY_ELEMENTDATA) hZ (hw _ (List.mem_of_getElem? (i := 8) rfl)) (hw _ (List.mem_of_getElem? (i := 5) rfl)) (by decide) (by decide)) (g := (mkF m 260 #[.val (.int p1), .val (.int p2), .val (.int p3), .val (.int p4), .val (.int p5), .val (.int p6), .val (.int k6), .val (.int k7), .val (.int k8), .val (.int k9), .val (.int k10), .val (.int k11), .val (.int p12), .val (.ref o13), .val (.ref o14), .val (.ref o15), .val (.ref o16), .val (.ref o17), .unset, .unset, .unset, .unset, .unset] [(.ref b1), (.ref b1)])) rfl (by rw [hml]; rfl) (Steps.refl _) (a := b1) (argsL := []) (rest := [(.ref b1)]) (lenOf pd_0 rfl) rfl (by show 2 * 0 + _ ≤ _; exact Nat.le_of_eq rfl) (hb hby at_260) (fun _ _ => ⟨rfl, e1, (by decide : 16 + 0 ≤ _), (by decide : 76 + 0 ≤ _)⟩)
  dsimp only [Pt.U, Pt.locs, Pt.cells, Pt.slots] at X4 l4 y4 z4 st4 hQ4
  subst l4 y4 z4
  obtain ⟨rfl, N4q, K4, Y4_0, Y4_1, Y4_2, Y4_3⟩ := hQ4
  have N4 := Fr.app N0 N4q
  replace X4 := X4.more (cells' := 16) (slots' := 76) (by decide) (by decide)
  have K5 : Keep h0 T4.heap [] := K2.trans K4 (allS (Or.inr sz_b1) all0)
  have O6 : Old Z n0 T4.heap := O3.keep K4 (allS g_b1 all0)
  have f7 := ((HV_wD.ext E1).keep K4 (ninS (Nat.ne_of_lt (Nat.lt_of_lt_of_le HV_wD.lt (Nat.le_of_eq g1.symm))) nin0))
  obtain ⟨cq8, kq8, q8a, q8b, q8c⟩ := isOf hZ rfl Y4_0
  obtain ⟨vr8, _, ⟨T8, L8, k8, n8⟩, -, X8, ⟨Lc8, hQ8, l8, y8, z8⟩, st8⟩ := X4.interfaceBack hx (xi := (⟨"java/util/List", "add", "(Ljava/lang/Object;)Z"⟩ : MethodName)) (y := (⟨"java/util/ArrayList", "add", "(Ljava/lang/Object;)Z"⟩ : MethodName)) hown (mvT hZ (hw _ (List.mem_of_getElem? (i := 29) rfl))) (mvT hZ (hw _ (List.mem_of_getElem? (i := 30) rfl))) (mvT hZ (hw _ (List.mem_of_getElem? (i := 31) rfl))) (mvT hZ (hw _ (List.mem_of_getElem? (i := 32) rfl))) (mvT hZ (hw _ (List.mem_of_getElem? (i := 33) rfl))) (mvT hZ (hw _ (List.mem_of_getElem? (i := 34) rfl))) (mvT hZ (hw _ (List.mem_of_getElem? (i := 35) rfl))) (mvT hZ (hw _ (List.mem_of_getElem? (i := 36) rfl))) (by decide) (backOf (W := 0) (rm5fn l Z a0 hw [] b1 ((0 : Int32)) kD wD T4.heap n0 O6 Y4_0 Y4_2 Y4_1 Y4_3 f7 g_b1 (Nat.ne_of_lt (Nat.lt_of_lt_of_le HV_wD.lt (Nat.le_of_eq g1.symm))) S_DEFAULTCAPACITY_EMPTY_ELEMENTDATA) hZ (hw _ (List.mem_of_getElem? (i := 37) rfl)) (hw _ (List.mem_of_getElem? (i := 5) rfl)) (by decide) (by decide)) q8a q8b q8c (g := (mkF m 273 #[.val (.int p1), .val (.int p2), .val (.int p3), .val (.int p4), .val (.int p5), .val (.int p6), .val (.int k6), .val (.int k7), .val (.int k8), .val (.int k9), .val (.int k10), .val (.int k11), .val (.int p12), .val (.ref o13), .val (.ref o14), .val (.ref o15), .val (.ref o16), .val (.ref o17), .val (.ref b1), .unset, .unset, .unset, .unset] [.null, (.ref b1)])) rfl (by rw [hml]; rfl) (Steps.refl _) (argsL := [.null]) (rest := []) (lenOf pd_12 rfl) rfl (by show 2 * 0 + _ ≤ _; exact Nat.le_of_eq rfl) (hb hby at_273) (fun _ _ => ⟨rfl, rfl, (by decide : 16 + 1 ≤ _), (by decide : 76 + 10 ≤ _)⟩)
  dsimp only [Pt.U, Pt.locs, Pt.cells, Pt.slots] at X8 l8 y8 z8 st8 hQ8
  subst l8 y8 z8
  obtain ⟨b9, k12, rfl, N8q, K8, Y8_z0, Y8_0, Y8_1, Y8_2, Y8_3, Y8_4, Y8_5, Y8_6⟩ := hQ8
  have N8 := Fr.app N4 N8q
  replace X8 := X8.more (cells' := 17) (slots' := 86) (by decide) (by decide)
  have g_b9 : n0 ≤ b9 := Nat.le_trans (Nat.le_trans Z0 K5.1) Y8_z0
  have sz_b9 : h0.size ≤ b9 := Nat.le_trans K5.1 Y8_z0
  have K13 : Keep h0 T8.heap [] := K5.trans K8 (allS (Or.inr sz_b1) all0)
  have O14 : Old Z n0 T8.heap := O6.keep K8 (allS g_b1 all0)
  refine ⟨T8, _, _, b1, X8, N8, rfl, K13, sz_b1, fun target kt => ?_⟩
  show Steps p.tables e below (T0.setTop (mkF m 256 #[.val (.int p1), .val (.int p2), .val (.int p3), .val (.int p4), .val (.int p5), .val (.int p6), .val (.int k6), .val (.int k7), .val (.int k8), .val (.int k9), .val (.int k10), .val (.int k11), .val (.int p12), .val (.ref o13), .val (.ref o14), .val (.ref o15), .val (.ref o16), .val (.ref o17), .unset, .unset, .unset, .unset, .unset] [])) _
  refine st1 _ ?_
  show Steps p.tables e below (T1.setTop (mkF m 259 #[.val (.int p1), .val (.int p2), .val (.int p3), .val (.int p4), .val (.int p5), .val (.int p6), .val (.int k6), .val (.int k7), .val (.int k8), .val (.int k9), .val (.int k10), .val (.int k11), .val (.int p12), .val (.ref o13), .val (.ref o14), .val (.ref o15), .val (.ref o16), .val (.ref o17), .unset, .unset, .unset, .unset, .unset] [(.ref b1)])) _
  refine XS.dup X1.here hx rfl (hb hby at_259) rfl rfl ?_
  show Steps p.tables e below (T1.setTop (mkF m 260 #[.val (.int p1), .val (.int p2), .val (.int p3), .val (.int p4), .val (.int p5), .val (.int p6), .val (.int k6), .val (.int k7), .val (.int k8), .val (.int k9), .val (.int k10), .val (.int k11), .val (.int p12), .val (.ref o13), .val (.ref o14), .val (.ref o15), .val (.ref o16), .val (.ref o17), .unset, .unset, .unset, .unset, .unset] [(.ref b1), (.ref b1)])) _
  refine st4.trans ?_
  show Steps p.tables e below (T4.setTop (mkF m 263 #[.val (.int p1), .val (.int p2), .val (.int p3), .val (.int p4), .val (.int p5), .val (.int p6), .val (.int k6), .val (.int k7), .val (.int k8), .val (.int k9), .val (.int k10), .val (.int k11), .val (.int p12), .val (.ref o13), .val (.ref o14), .val (.ref o15), .val (.ref o16), .val (.ref o17), .unset, .unset, .unset, .unset, .unset] [(.ref b1)])) _
  refine XS.astore X4.here hx rfl (hb hby at_263) rfl rfl (l' := #[.val (.int p1), .val (.int p2), .val (.int p3), .val (.int p4), .val (.int p5), .val (.int p6), .val (.int k6), .val (.int k7), .val (.int k8), .val (.int k9), .val (.int k10), .val (.int k11), .val (.int p12), .val (.ref o13), .val (.ref o14), .val (.ref o15), .val (.ref o16), .val (.ref o17), .val (.ref b1), .unset, .unset, .unset, .unset]) rfl ?_
  show Steps p.tables e below (T4.setTop (mkF m 265 #[.val (.int p1), .val (.int p2), .val (.int p3), .val (.int p4), .val (.int p5), .val (.int p6), .val (.int k6), .val (.int k7), .val (.int k8), .val (.int k9), .val (.int k10), .val (.int k11), .val (.int p12), .val (.ref o13), .val (.ref o14), .val (.ref o15), .val (.ref o16), .val (.ref o17), .val (.ref b1), .unset, .unset, .unset, .unset] [])) _
  refine XS.iload X4.here hx rfl (hb hby at_265) rfl ?_
  show Steps p.tables e below (T4.setTop (mkF m 267 #[.val (.int p1), .val (.int p2), .val (.int p3), .val (.int p4), .val (.int p5), .val (.int p6), .val (.int k6), .val (.int k7), .val (.int k8), .val (.int k9), .val (.int k10), .val (.int k11), .val (.int p12), .val (.ref o13), .val (.ref o14), .val (.ref o15), .val (.ref o16), .val (.ref o17), .val (.ref b1), .unset, .unset, .unset, .unset] [(.int k10)])) _
  refine XS.ifNo X4.here hx rfl (hb hby at_267) rfl ((if0 _ _).trans (feq hc267).1) ?_
  show Steps p.tables e below (T4.setTop (mkF m 270 #[.val (.int p1), .val (.int p2), .val (.int p3), .val (.int p4), .val (.int p5), .val (.int p6), .val (.int k6), .val (.int k7), .val (.int k8), .val (.int k9), .val (.int k10), .val (.int k11), .val (.int p12), .val (.ref o13), .val (.ref o14), .val (.ref o15), .val (.ref o16), .val (.ref o17), .val (.ref b1), .unset, .unset, .unset, .unset] [])) _
  refine XS.aload X4.here hx rfl (hb hby at_270) rfl rfl ?_
  show Steps p.tables e below (T4.setTop (mkF m 272 #[.val (.int p1), .val (.int p2), .val (.int p3), .val (.int p4), .val (.int p5), .val (.int p6), .val (.int k6), .val (.int k7), .val (.int k8), .val (.int k9), .val (.int k10), .val (.int k11), .val (.int p12), .val (.ref o13), .val (.ref o14), .val (.ref o15), .val (.ref o16), .val (.ref o17), .val (.ref b1), .unset, .unset, .unset, .unset] [(.ref b1)])) _
  refine XS.aconstNull X4.here hx rfl (hb hby at_272) ?_
  show Steps p.tables e below (T4.setTop (mkF m 273 #[.val (.int p1), .val (.int p2), .val (.int p3), .val (.int p4), .val (.int p5), .val (.int p6), .val (.int k6), .val (.int k7), .val (.int k8), .val (.int k9), .val (.int k10), .val (.int k11), .val (.int p12), .val (.ref o13), .val (.ref o14), .val (.ref o15), .val (.ref o16), .val (.ref o17), .val (.ref b1), .unset, .unset, .unset, .unset] [.null, (.ref b1)])) _
  refine st8.trans ?_
  show Steps p.tables e below (T8.setTop (mkF m 278 #[.val (.int p1), .val (.int p2), .val (.int p3), .val (.int p4), .val (.int p5), .val (.int p6), .val (.int k6), .val (.int k7), .val (.int k8), .val (.int k9), .val (.int k10), .val (.int k11), .val (.int p12), .val (.ref o13), .val (.ref o14), .val (.ref o15), .val (.ref o16), .val (.ref o17), .val (.ref b1), .unset, .unset, .unset, .unset] [(.int (1 : Int32))])) _
  refine XS.pop X8.here hx rfl (hb hby at_278) rfl rfl ?_
  exact kt
set_option maxRecDepth 65536 in
set_option maxHeartbeats 40000000 in
theorem tn256 {p : Program} {l : Launch} {e : Env} {s : State} {m : MethodId} {args : Array Value} {below : List Frame} {meth : Method} {c : Code} {T0 : State} {locs : List Loc} {Z : State} {a0 : Array Value} (hw : ∀ d ∈ tables_1, d.before a0 Z = true) (p1 p2 p3 p4 p5 p6 k6 k7 k8 k9 k10 k11 p12 : Int32) (o13 o14 o15 o16 o17 wD : Addr) (kD : ClassId) (h0 : Heap) (n0 : Nat) (X0 : Stand p l e room_1 s m args below meth c T0 locs 15 73) (N0 : Fr n0 locs) (hx : p.tables.exec = Jvm.exec) (hZ : Z.Warmed39 s.vm) (hby : c.code = code) (hml : c.maxLocals = 23) (hown : s.vm.findClass "com/example/mirante/mirante/FieldDefHasRuleChecksPinLaw" = some m.cls) (e0 : T0.heap = h0) (O0 : Old Z n0 h0) (HV_wD : Arv Z h0 wD kD (.object "java/lang/Object") (0 : Int32) [] .null) (S_DEFAULTCAPACITY_EMPTY_ELEMENTDATA : Sta Z Z.heap "java/util/ArrayList" "DEFAULTCAPACITY_EMPTY_ELEMENTDATA" "[Ljava/lang/Object;" (.ref wD)) :
    ∃ (T' : State) (locs' : List Loc) (h' : Heap) (b1 : Addr), Stand p l e room_1 s m args below meth c T' locs' 17 86 ∧ Fr n0 locs' ∧ T'.heap = h' ∧ Keep h0 h' [] ∧ h0.size ≤ b1 ∧
      ∀ target, Steps p.tables e below (T'.setTop (mkF m 279 #[.val (.int p1), .val (.int p2), .val (.int p3), .val (.int p4), .val (.int p5), .val (.int p6), .val (.int k6), .val (.int k7), .val (.int k8), .val (.int k9), .val (.int k10), .val (.int k11), .val (.int p12), .val (.ref o13), .val (.ref o14), .val (.ref o15), .val (.ref o16), .val (.ref o17), .val (.ref b1), .unset, .unset, .unset, .unset] [])) target → Steps p.tables e below (T0.setTop (mkF m 256 #[.val (.int p1), .val (.int p2), .val (.int p3), .val (.int p4), .val (.int p5), .val (.int p6), .val (.int k6), .val (.int k7), .val (.int k8), .val (.int k9), .val (.int k10), .val (.int k11), .val (.int p12), .val (.ref o13), .val (.ref o14), .val (.ref o15), .val (.ref o16), .val (.ref o17), .unset, .unset, .unset, .unset, .unset] [])) target := by
  by_cases c1 : k10 = (0 : Int32)
  · obtain ⟨T', L', h', b1, X', N', e', K', z0', st'⟩ := tn256t hw p1 p2 p3 p4 p5 p6 k6 k7 k8 k9 k10 k11 p12 o13 o14 o15 o16 o17 wD kD h0 n0 X0 N0 hx hZ hby hml hown e0 O0 HV_wD S_DEFAULTCAPACITY_EMPTY_ELEMENTDATA c1
    exact ⟨T', L', h', b1, X'.more (by decide) (by decide), N', e', K', z0', st'⟩
  · obtain ⟨T', L', h', b1, X', N', e', K', z0', st'⟩ := tn256f hw p1 p2 p3 p4 p5 p6 k6 k7 k8 k9 k10 k11 p12 o13 o14 o15 o16 o17 wD kD h0 n0 X0 N0 hx hZ hby hml hown e0 O0 HV_wD S_DEFAULTCAPACITY_EMPTY_ELEMENTDATA c1
    exact ⟨T', L', h', b1, X'.more (by decide) (by decide), N', e', K', z0', st'⟩
theorem d16_0 : decode prog_14_method_3_code 0 = .ok (.aload_n 0, 1) := by decide +kernel
theorem d16_1 : decode prog_14_method_3_code 1 = .ok (.getfield 43, 3) := by decide +kernel
theorem d16_4 : decode prog_14_method_3_code 4 = .ok (.invokeinterface 61 1, 5) := by decide +kernel
theorem pd_1 : parseMethodDescriptor "()Z" = some ⟨[], some .boolean⟩ := by decide +kernel
theorem d16_9 : decode prog_14_method_3_code 9 = .ok (.ifCond .eq 34, 3) := by decide +kernel
theorem d16_43 : decode prog_14_method_3_code 43 = .ok (.iconst 1, 1) := by decide +kernel
theorem d16_44 : decode prog_14_method_3_code 44 = .ok (.goto 4, 3) := by decide +kernel
theorem d16_48 : decode prog_14_method_3_code 48 = .ok (.ireturn, 1) := by decide +kernel
def Q16r1 (Z : State) (a1 o1 o2 o3 : Addr) (pc z1 z2 z3 : Int32) (h0 : Heap) (n0 : Nat) (v : Option Value) (h : Heap) (L : List Loc) : Prop := v = some (.int (1 : Int32)) ∧ Fr n0 L ∧ h = h0
theorem ef_16 (m : MethodId) (x0 : Addr) : entryFrame m #[(.ref x0)] 1 = mkF m 0 #[.val (.ref x0)] [] := by first | (simp [entryFrame, mkF, argsToLocals, Value.category]; done) | rfl
theorem pnc_com_example_mirante_mirante_FieldDef : plainName "com/example/mirante/mirante/FieldDef" = true := by first | (simp [plainName, overriddenIn]; done) | decide +kernel
set_option maxRecDepth 65536 in
set_option maxHeartbeats 40000000 in
theorem rm16r1 (l : Launch) (Z : State) (a0 : Array Value) (hw : ∀ d ∈ tables_1, d.before a0 Z = true) (ws : List Jvm.Cond) (a1 o1 o2 o3 : Addr) (pc z1 z2 z3 : Int32) (h0 : Heap) (n0 : Nat) (O0 : Old Z n0 h0) (HF_a1_conditions : Fld Z h0 a1 "com/example/mirante/mirante/FieldDef" "conditions" "Ljava/util/List;" (.ref o1)) (HF_a1_count : Fld Z h0 a1 "com/example/mirante/mirante/FieldDef" "count" "I" (.int pc)) (HF_a1_anyPresent : Fld Z h0 a1 "com/example/mirante/mirante/FieldDef" "anyPresent" "Ljava/util/List;" (.ref o2)) (HF_a1_before : Fld Z h0 a1 "com/example/mirante/mirante/FieldDef" "before" "Ljava/util/List;" (.ref o3)) (HE_o1 : Exa Z h0 o1 "java/util/ArrayList") (HF_o1_size : Fld Z h0 o1 "java/util/ArrayList" "size" "I" (.int z1)) (HE_o2 : Exa Z h0 o2 "java/util/ArrayList") (HF_o2_size : Fld Z h0 o2 "java/util/ArrayList" "size" "I" (.int z2)) (HE_o3 : Exa Z h0 o3 "java/util/ArrayList") (HF_o3_size : Fld Z h0 o3 "java/util/ArrayList" "size" "I" (.int z3)) (h4_hc4 : ¬ (z1 = (0 : Int32))) :
    MetFree l (⟨"com/example/mirante/mirante/FieldDef", "hasRuleChecks", "()Z"⟩ : MethodName) (head1 (Jvm.Cond.code (⟨"com/example/mirante/mirante/FieldDef", "hasRuleChecks", "()Z"⟩ : MethodName) prog_14_method_3_code 1 (some .boolean) :: ws) ({ frames := 1, cells := 0, slots := 0, locals := 12 } : Room)) (fun a U => a = #[(.ref a1)] ∧ Z.Warmed39 U.vm ∧ U.heap = h0) (fun _ _ _ _ _ => True) (fun _ U o U' => ∃ v L, o = .returned v ∧ Q16r1 Z a1 o1 o2 o3 pc z1 z2 z3 h0 n0 v U'.heap L ∧ FrameEnd U o U' L ({ frames := 1, cells := 0, slots := 0, locals := 12 } : Room).cells ({ frames := 1, cells := 0, slots := 0, locals := 12 } : Room).slots) := by
  refine MetFree.of_bodySF (plainFor_of_name pnc_com_example_mirante_mirante_FieldDef) hisR ?_
  intro p e s m args below meth c s₁ Bd hml0 hP hK
  obtain ⟨rfl, hZ, hh⟩ := hP
  have hx := Bd.exec
  have hby := Bd.bytes
  have hml : c.maxLocals = 1 := hml0
  have hown : s.vm.findClass "com/example/mirante/mirante/FieldDef" = some m.cls := findClass_of_methodNamed Bd.named
  have hnm := (name_of_methodNamed Bd.named Bd.method).1
  have X0 : Stand p l e ({ frames := 1, cells := 0, slots := 0, locals := 12 } : Room) s m #[(.ref a1)] below meth c s₁ [] 0 0 := Stand.of_body Bd
  have e0 : s₁.heap = h0 := by rw [← hh, Bd.state]; rfl
  have N0 := Fr.nil n0
  have Z0 : n0 ≤ h0.size := O0.1 ▸ O0.2.1
  have pre0 : ∀ t, Steps p.tables e below (s₁.setTop (mkF m 0 #[.val (.ref a1)] [])) t → Steps p.tables e below (s₁.setTop (entryFrame m #[(.ref a1)] 1)) t := fun t k => castTop (ef_16 m a1) k
  obtain ⟨T2, X2, e2, st2⟩ := getF X0 hx hZ hown (host := "") (Or.inl (hw _ (List.mem_of_getElem? (i := 120) rfl))) Via.refl e0 HF_a1_conditions (g := (mkF m 1 #[.val (.ref a1)] [(.ref a1)])) rfl rfl (hb hby d16_1)
  obtain ⟨cq3, kq3, q3a, q3b, q3c⟩ := isOf hZ e2 HE_o1
  obtain ⟨vr3, _, ⟨T3, L3, k3, n3⟩, -, X3, ⟨Lc3, hQ3, l3, y3, z3⟩, st3⟩ := X2.interfaceBack hx (xi := (⟨"java/util/List", "isEmpty", "()Z"⟩ : MethodName)) (y := (⟨"java/util/ArrayList", "isEmpty", "()Z"⟩ : MethodName)) hown (mvT hZ (hw _ (List.mem_of_getElem? (i := 137) rfl))) (mvT hZ (hw _ (List.mem_of_getElem? (i := 138) rfl))) (mvT hZ (hw _ (List.mem_of_getElem? (i := 139) rfl))) (mvT hZ (hw _ (List.mem_of_getElem? (i := 140) rfl))) (mvT hZ (hw _ (List.mem_of_getElem? (i := 141) rfl))) (mvT hZ (hw _ (List.mem_of_getElem? (i := 142) rfl))) (mvT hZ (hw _ (List.mem_of_getElem? (i := 143) rfl))) (mvT hZ (hw _ (List.mem_of_getElem? (i := 36) rfl))) (by decide) (backOf (W := 0) (rm17n l Z a0 hw [] o1 z1 h0 n0 O0 HF_o1_size h4_hc4) hZ (hw _ (List.mem_of_getElem? (i := 144) rfl)) (hw _ (List.mem_of_getElem? (i := 5) rfl)) (by decide) (by decide)) q3a q3b q3c (g := (mkF m 4 #[.val (.ref a1)] [(.ref o1)])) rfl (by rw [hml]; rfl) (Steps.refl _) (argsL := []) (rest := []) (lenOf pd_1 rfl) rfl (by show 2 * 0 + _ ≤ _; exact Nat.le_of_eq rfl) (hb hby d16_4) (fun _ _ => ⟨rfl, e2, (by decide : 0 + 0 ≤ _), (by decide : 0 + 0 ≤ _)⟩)
  dsimp only [Pt.U, Pt.locs, Pt.cells, Pt.slots] at X3 l3 y3 z3 st3 hQ3
  subst l3 y3 z3
  obtain ⟨rfl, N3q, e3⟩ := hQ3
  have N3 := Fr.app N0 N3q
  replace X3 := X3.more (cells' := 0) (slots' := 0) (by decide) (by decide)
  obtain ⟨fs, hr, hrun, hended, hW, hsame⟩ := X3.leave (v := some (.int (1 : Int32))) (fun h => by rw [Bd.returns] at h; cases h)
  refine ⟨_, _, pre0 _ ?_, hrun, hended, _, _, rfl, ?_, ⟨_, rfl⟩, hW, hsame.mono (by decide) (by decide)⟩
  · show Steps p.tables e below (s₁.setTop (mkF m 0 #[.val (.ref a1)] [])) _
    refine XS.aloadN X0.here hx rfl (hb hby d16_0) rfl rfl ?_
    show Steps p.tables e below (s₁.setTop (mkF m 1 #[.val (.ref a1)] [(.ref a1)])) _
    refine st2 _ ?_
    show Steps p.tables e below (T2.setTop (mkF m 4 #[.val (.ref a1)] [(.ref o1)])) _
    refine st3.trans ?_
    show Steps p.tables e below (T3.setTop (mkF m 9 #[.val (.ref a1)] [(.int (0 : Int32))])) _
    refine XS.ifYes X3.here hx rfl (pc0 := 9) (pc' := 43) rfl (hb hby d16_9) rfl ((if0 _ _).trans (teq (by decide : (0 : Int32) = (0 : Int32))).1) (by decide) (by decide) ?_
    show Steps p.tables e below (T3.setTop (mkF m 43 #[.val (.ref a1)] [])) _
    refine XS.iconst X3.here hx rfl (hb hby d16_43) ?_
    show Steps p.tables e below (T3.setTop (mkF m 44 #[.val (.ref a1)] [(.int (1 : Int32))])) _
    refine XS.goto X3.here hx rfl (pc0 := 44) (pc' := 48) rfl (hb hby d16_44) (by decide) (by decide) ?_
    show Steps p.tables e below (T3.setTop (mkF m 48 #[.val (.ref a1)] [(.int (1 : Int32))])) _
    exact retN X3 hx (t := .boolean) Bd.returns (by simp) (hb hby d16_48) hr
  · show Q16r1 Z a1 o1 o2 o3 pc z1 z2 z3 h0 n0 _ T3.heap _
    rw [e3]
    exact ⟨rfl, N3, rfl⟩
theorem d16_12 : decode prog_14_method_3_code 12 = .ok (.aload_n 0, 1) := by decide +kernel
theorem d16_13 : decode prog_14_method_3_code 13 = .ok (.getfield 46, 3) := by decide +kernel
theorem d16_16 : decode prog_14_method_3_code 16 = .ok (.ifCond .gt 27, 3) := by decide +kernel
def Q16r2 (Z : State) (a1 o1 o2 o3 : Addr) (pc z1 z2 z3 : Int32) (h0 : Heap) (n0 : Nat) (v : Option Value) (h : Heap) (L : List Loc) : Prop := v = some (.int (1 : Int32)) ∧ Fr n0 L ∧ h = h0
set_option maxRecDepth 65536 in
set_option maxHeartbeats 40000000 in
theorem rm16r2 (l : Launch) (Z : State) (a0 : Array Value) (hw : ∀ d ∈ tables_1, d.before a0 Z = true) (ws : List Jvm.Cond) (a1 o1 o2 o3 : Addr) (pc z1 z2 z3 : Int32) (h0 : Heap) (n0 : Nat) (O0 : Old Z n0 h0) (HF_a1_conditions : Fld Z h0 a1 "com/example/mirante/mirante/FieldDef" "conditions" "Ljava/util/List;" (.ref o1)) (HF_a1_count : Fld Z h0 a1 "com/example/mirante/mirante/FieldDef" "count" "I" (.int pc)) (HF_a1_anyPresent : Fld Z h0 a1 "com/example/mirante/mirante/FieldDef" "anyPresent" "Ljava/util/List;" (.ref o2)) (HF_a1_before : Fld Z h0 a1 "com/example/mirante/mirante/FieldDef" "before" "Ljava/util/List;" (.ref o3)) (HE_o1 : Exa Z h0 o1 "java/util/ArrayList") (HF_o1_size : Fld Z h0 o1 "java/util/ArrayList" "size" "I" (.int z1)) (HE_o2 : Exa Z h0 o2 "java/util/ArrayList") (HF_o2_size : Fld Z h0 o2 "java/util/ArrayList" "size" "I" (.int z2)) (HE_o3 : Exa Z h0 o3 "java/util/ArrayList") (HF_o3_size : Fld Z h0 o3 "java/util/ArrayList" "size" "I" (.int z3)) (h4_hc4 : z1 = (0 : Int32)) (hc16 : (0 : Int32) < pc) :
    MetFree l (⟨"com/example/mirante/mirante/FieldDef", "hasRuleChecks", "()Z"⟩ : MethodName) (head1 (Jvm.Cond.code (⟨"com/example/mirante/mirante/FieldDef", "hasRuleChecks", "()Z"⟩ : MethodName) prog_14_method_3_code 1 (some .boolean) :: ws) ({ frames := 1, cells := 0, slots := 0, locals := 12 } : Room)) (fun a U => a = #[(.ref a1)] ∧ Z.Warmed39 U.vm ∧ U.heap = h0) (fun _ _ _ _ _ => True) (fun _ U o U' => ∃ v L, o = .returned v ∧ Q16r2 Z a1 o1 o2 o3 pc z1 z2 z3 h0 n0 v U'.heap L ∧ FrameEnd U o U' L ({ frames := 1, cells := 0, slots := 0, locals := 12 } : Room).cells ({ frames := 1, cells := 0, slots := 0, locals := 12 } : Room).slots) := by
  refine MetFree.of_bodySF (plainFor_of_name pnc_com_example_mirante_mirante_FieldDef) hisR ?_
  intro p e s m args below meth c s₁ Bd hml0 hP hK
  obtain ⟨rfl, hZ, hh⟩ := hP
  have hx := Bd.exec
  have hby := Bd.bytes
  have hml : c.maxLocals = 1 := hml0
  have hown : s.vm.findClass "com/example/mirante/mirante/FieldDef" = some m.cls := findClass_of_methodNamed Bd.named
  have hnm := (name_of_methodNamed Bd.named Bd.method).1
  have X0 : Stand p l e ({ frames := 1, cells := 0, slots := 0, locals := 12 } : Room) s m #[(.ref a1)] below meth c s₁ [] 0 0 := Stand.of_body Bd
  have e0 : s₁.heap = h0 := by rw [← hh, Bd.state]; rfl
  have N0 := Fr.nil n0
  have Z0 : n0 ≤ h0.size := O0.1 ▸ O0.2.1
  have pre0 : ∀ t, Steps p.tables e below (s₁.setTop (mkF m 0 #[.val (.ref a1)] [])) t → Steps p.tables e below (s₁.setTop (entryFrame m #[(.ref a1)] 1)) t := fun t k => castTop (ef_16 m a1) k
  obtain ⟨T2, X2, e2, st2⟩ := getF X0 hx hZ hown (host := "") (Or.inl (hw _ (List.mem_of_getElem? (i := 120) rfl))) Via.refl e0 HF_a1_conditions (g := (mkF m 1 #[.val (.ref a1)] [(.ref a1)])) rfl rfl (hb hby d16_1)
  obtain ⟨cq3, kq3, q3a, q3b, q3c⟩ := isOf hZ e2 HE_o1
  obtain ⟨vr3, _, ⟨T3, L3, k3, n3⟩, -, X3, ⟨Lc3, hQ3, l3, y3, z3⟩, st3⟩ := X2.interfaceBack hx (xi := (⟨"java/util/List", "isEmpty", "()Z"⟩ : MethodName)) (y := (⟨"java/util/ArrayList", "isEmpty", "()Z"⟩ : MethodName)) hown (mvT hZ (hw _ (List.mem_of_getElem? (i := 137) rfl))) (mvT hZ (hw _ (List.mem_of_getElem? (i := 138) rfl))) (mvT hZ (hw _ (List.mem_of_getElem? (i := 139) rfl))) (mvT hZ (hw _ (List.mem_of_getElem? (i := 140) rfl))) (mvT hZ (hw _ (List.mem_of_getElem? (i := 141) rfl))) (mvT hZ (hw _ (List.mem_of_getElem? (i := 142) rfl))) (mvT hZ (hw _ (List.mem_of_getElem? (i := 143) rfl))) (mvT hZ (hw _ (List.mem_of_getElem? (i := 36) rfl))) (by decide) (backOf (W := 0) (rm17y l Z a0 hw [] o1 z1 h0 n0 O0 HF_o1_size h4_hc4) hZ (hw _ (List.mem_of_getElem? (i := 144) rfl)) (hw _ (List.mem_of_getElem? (i := 5) rfl)) (by decide) (by decide)) q3a q3b q3c (g := (mkF m 4 #[.val (.ref a1)] [(.ref o1)])) rfl (by rw [hml]; rfl) (Steps.refl _) (argsL := []) (rest := []) (lenOf pd_1 rfl) rfl (by show 2 * 0 + _ ≤ _; exact Nat.le_of_eq rfl) (hb hby d16_4) (fun _ _ => ⟨rfl, e2, (by decide : 0 + 0 ≤ _), (by decide : 0 + 0 ≤ _)⟩)
  dsimp only [Pt.U, Pt.locs, Pt.cells, Pt.slots] at X3 l3 y3 z3 st3 hQ3
  subst l3 y3 z3
  obtain ⟨rfl, N3q, e3⟩ := hQ3
  have N3 := Fr.app N0 N3q
  replace X3 := X3.more (cells' := 0) (slots' := 0) (by decide) (by decide)
  obtain ⟨T4, X4, e4, st4⟩ := getF X3 hx hZ hown (host := "") (Or.inl (hw _ (List.mem_of_getElem? (i := 122) rfl))) Via.refl e3 HF_a1_count (g := (mkF m 13 #[.val (.ref a1)] [(.ref a1)])) rfl rfl (hb hby d16_13)
  obtain ⟨fs, hr, hrun, hended, hW, hsame⟩ := X4.leave (v := some (.int (1 : Int32))) (fun h => by rw [Bd.returns] at h; cases h)
  refine ⟨_, _, pre0 _ ?_, hrun, hended, _, _, rfl, ?_, ⟨_, rfl⟩, hW, hsame.mono (by decide) (by decide)⟩
  · show Steps p.tables e below (s₁.setTop (mkF m 0 #[.val (.ref a1)] [])) _
    refine XS.aloadN X0.here hx rfl (hb hby d16_0) rfl rfl ?_
    show Steps p.tables e below (s₁.setTop (mkF m 1 #[.val (.ref a1)] [(.ref a1)])) _
    refine st2 _ ?_
    show Steps p.tables e below (T2.setTop (mkF m 4 #[.val (.ref a1)] [(.ref o1)])) _
    refine st3.trans ?_
    show Steps p.tables e below (T3.setTop (mkF m 9 #[.val (.ref a1)] [(.int (1 : Int32))])) _
    refine XS.ifNo X3.here hx rfl (hb hby d16_9) rfl ((if0 _ _).trans (feq (by decide : ¬ ((1 : Int32) = (0 : Int32)))).1) ?_
    show Steps p.tables e below (T3.setTop (mkF m 12 #[.val (.ref a1)] [])) _
    refine XS.aloadN X3.here hx rfl (hb hby d16_12) rfl rfl ?_
    show Steps p.tables e below (T3.setTop (mkF m 13 #[.val (.ref a1)] [(.ref a1)])) _
    refine st4 _ ?_
    show Steps p.tables e below (T4.setTop (mkF m 16 #[.val (.ref a1)] [(.int pc)])) _
    refine XS.ifYes X4.here hx rfl (pc0 := 16) (pc' := 43) rfl (hb hby d16_16) rfl ((if0 _ _).trans (tlt hc16).2.2.1) (by decide) (by decide) ?_
    show Steps p.tables e below (T4.setTop (mkF m 43 #[.val (.ref a1)] [])) _
    refine XS.iconst X4.here hx rfl (hb hby d16_43) ?_
    show Steps p.tables e below (T4.setTop (mkF m 44 #[.val (.ref a1)] [(.int (1 : Int32))])) _
    refine XS.goto X4.here hx rfl (pc0 := 44) (pc' := 48) rfl (hb hby d16_44) (by decide) (by decide) ?_
    show Steps p.tables e below (T4.setTop (mkF m 48 #[.val (.ref a1)] [(.int (1 : Int32))])) _
    exact retN X4 hx (t := .boolean) Bd.returns (by simp) (hb hby d16_48) hr
  · show Q16r2 Z a1 o1 o2 o3 pc z1 z2 z3 h0 n0 _ T4.heap _
    rw [e4]
    exact ⟨rfl, N3, rfl⟩
theorem d16_19 : decode prog_14_method_3_code 19 = .ok (.aload_n 0, 1) := by decide +kernel
theorem d16_20 : decode prog_14_method_3_code 20 = .ok (.getfield 49, 3) := by decide +kernel
theorem d16_23 : decode prog_14_method_3_code 23 = .ok (.invokeinterface 61 1, 5) := by decide +kernel
theorem d16_28 : decode prog_14_method_3_code 28 = .ok (.ifCond .eq 15, 3) := by decide +kernel
def Q16r3 (Z : State) (a1 o1 o2 o3 : Addr) (pc z1 z2 z3 : Int32) (h0 : Heap) (n0 : Nat) (v : Option Value) (h : Heap) (L : List Loc) : Prop := v = some (.int (1 : Int32)) ∧ Fr n0 L ∧ h = h0
set_option maxRecDepth 65536 in
set_option maxHeartbeats 40000000 in
theorem rm16r3 (l : Launch) (Z : State) (a0 : Array Value) (hw : ∀ d ∈ tables_1, d.before a0 Z = true) (ws : List Jvm.Cond) (a1 o1 o2 o3 : Addr) (pc z1 z2 z3 : Int32) (h0 : Heap) (n0 : Nat) (O0 : Old Z n0 h0) (HF_a1_conditions : Fld Z h0 a1 "com/example/mirante/mirante/FieldDef" "conditions" "Ljava/util/List;" (.ref o1)) (HF_a1_count : Fld Z h0 a1 "com/example/mirante/mirante/FieldDef" "count" "I" (.int pc)) (HF_a1_anyPresent : Fld Z h0 a1 "com/example/mirante/mirante/FieldDef" "anyPresent" "Ljava/util/List;" (.ref o2)) (HF_a1_before : Fld Z h0 a1 "com/example/mirante/mirante/FieldDef" "before" "Ljava/util/List;" (.ref o3)) (HE_o1 : Exa Z h0 o1 "java/util/ArrayList") (HF_o1_size : Fld Z h0 o1 "java/util/ArrayList" "size" "I" (.int z1)) (HE_o2 : Exa Z h0 o2 "java/util/ArrayList") (HF_o2_size : Fld Z h0 o2 "java/util/ArrayList" "size" "I" (.int z2)) (HE_o3 : Exa Z h0 o3 "java/util/ArrayList") (HF_o3_size : Fld Z h0 o3 "java/util/ArrayList" "size" "I" (.int z3)) (h4_hc4 : z1 = (0 : Int32)) (hc16 : ¬ ((0 : Int32) < pc)) (h23_hc4 : ¬ (z2 = (0 : Int32))) :
    MetFree l (⟨"com/example/mirante/mirante/FieldDef", "hasRuleChecks", "()Z"⟩ : MethodName) (head1 (Jvm.Cond.code (⟨"com/example/mirante/mirante/FieldDef", "hasRuleChecks", "()Z"⟩ : MethodName) prog_14_method_3_code 1 (some .boolean) :: ws) ({ frames := 1, cells := 0, slots := 0, locals := 12 } : Room)) (fun a U => a = #[(.ref a1)] ∧ Z.Warmed39 U.vm ∧ U.heap = h0) (fun _ _ _ _ _ => True) (fun _ U o U' => ∃ v L, o = .returned v ∧ Q16r3 Z a1 o1 o2 o3 pc z1 z2 z3 h0 n0 v U'.heap L ∧ FrameEnd U o U' L ({ frames := 1, cells := 0, slots := 0, locals := 12 } : Room).cells ({ frames := 1, cells := 0, slots := 0, locals := 12 } : Room).slots) := by
  refine MetFree.of_bodySF (plainFor_of_name pnc_com_example_mirante_mirante_FieldDef) hisR ?_
  intro p e s m args below meth c s₁ Bd hml0 hP hK
  obtain ⟨rfl, hZ, hh⟩ := hP
  have hx := Bd.exec
  have hby := Bd.bytes
  have hml : c.maxLocals = 1 := hml0
  have hown : s.vm.findClass "com/example/mirante/mirante/FieldDef" = some m.cls := findClass_of_methodNamed Bd.named
  have hnm := (name_of_methodNamed Bd.named Bd.method).1
  have X0 : Stand p l e ({ frames := 1, cells := 0, slots := 0, locals := 12 } : Room) s m #[(.ref a1)] below meth c s₁ [] 0 0 := Stand.of_body Bd
  have e0 : s₁.heap = h0 := by rw [← hh, Bd.state]; rfl
  have N0 := Fr.nil n0
  have Z0 : n0 ≤ h0.size := O0.1 ▸ O0.2.1
  have pre0 : ∀ t, Steps p.tables e below (s₁.setTop (mkF m 0 #[.val (.ref a1)] [])) t → Steps p.tables e below (s₁.setTop (entryFrame m #[(.ref a1)] 1)) t := fun t k => castTop (ef_16 m a1) k
  obtain ⟨T2, X2, e2, st2⟩ := getF X0 hx hZ hown (host := "") (Or.inl (hw _ (List.mem_of_getElem? (i := 120) rfl))) Via.refl e0 HF_a1_conditions (g := (mkF m 1 #[.val (.ref a1)] [(.ref a1)])) rfl rfl (hb hby d16_1)
  obtain ⟨cq3, kq3, q3a, q3b, q3c⟩ := isOf hZ e2 HE_o1
  obtain ⟨vr3, _, ⟨T3, L3, k3, n3⟩, -, X3, ⟨Lc3, hQ3, l3, y3, z3⟩, st3⟩ := X2.interfaceBack hx (xi := (⟨"java/util/List", "isEmpty", "()Z"⟩ : MethodName)) (y := (⟨"java/util/ArrayList", "isEmpty", "()Z"⟩ : MethodName)) hown (mvT hZ (hw _ (List.mem_of_getElem? (i := 137) rfl))) (mvT hZ (hw _ (List.mem_of_getElem? (i := 138) rfl))) (mvT hZ (hw _ (List.mem_of_getElem? (i := 139) rfl))) (mvT hZ (hw _ (List.mem_of_getElem? (i := 140) rfl))) (mvT hZ (hw _ (List.mem_of_getElem? (i := 141) rfl))) (mvT hZ (hw _ (List.mem_of_getElem? (i := 142) rfl))) (mvT hZ (hw _ (List.mem_of_getElem? (i := 143) rfl))) (mvT hZ (hw _ (List.mem_of_getElem? (i := 36) rfl))) (by decide) (backOf (W := 0) (rm17y l Z a0 hw [] o1 z1 h0 n0 O0 HF_o1_size h4_hc4) hZ (hw _ (List.mem_of_getElem? (i := 144) rfl)) (hw _ (List.mem_of_getElem? (i := 5) rfl)) (by decide) (by decide)) q3a q3b q3c (g := (mkF m 4 #[.val (.ref a1)] [(.ref o1)])) rfl (by rw [hml]; rfl) (Steps.refl _) (argsL := []) (rest := []) (lenOf pd_1 rfl) rfl (by show 2 * 0 + _ ≤ _; exact Nat.le_of_eq rfl) (hb hby d16_4) (fun _ _ => ⟨rfl, e2, (by decide : 0 + 0 ≤ _), (by decide : 0 + 0 ≤ _)⟩)
  dsimp only [Pt.U, Pt.locs, Pt.cells, Pt.slots] at X3 l3 y3 z3 st3 hQ3
  subst l3 y3 z3
  obtain ⟨rfl, N3q, e3⟩ := hQ3
  have N3 := Fr.app N0 N3q
  replace X3 := X3.more (cells' := 0) (slots' := 0) (by decide) (by decide)
  obtain ⟨T4, X4, e4, st4⟩ := getF X3 hx hZ hown (host := "") (Or.inl (hw _ (List.mem_of_getElem? (i := 122) rfl))) Via.refl e3 HF_a1_count (g := (mkF m 13 #[.val (.ref a1)] [(.ref a1)])) rfl rfl (hb hby d16_13)
  obtain ⟨T5, X5, e5, st5⟩ := getF X4 hx hZ hown (host := "") (Or.inl (hw _ (List.mem_of_getElem? (i := 124) rfl))) Via.refl e4 HF_a1_anyPresent (g := (mkF m 20 #[.val (.ref a1)] [(.ref a1)])) rfl rfl (hb hby d16_20)
  obtain ⟨cq6, kq6, q6a, q6b, q6c⟩ := isOf hZ e5 HE_o2
  obtain ⟨vr6, _, ⟨T6, L6, k6, n6⟩, -, X6, ⟨Lc6, hQ6, l6, y6, z6⟩, st6⟩ := X5.interfaceBack hx (xi := (⟨"java/util/List", "isEmpty", "()Z"⟩ : MethodName)) (y := (⟨"java/util/ArrayList", "isEmpty", "()Z"⟩ : MethodName)) hown (mvT hZ (hw _ (List.mem_of_getElem? (i := 137) rfl))) (mvT hZ (hw _ (List.mem_of_getElem? (i := 138) rfl))) (mvT hZ (hw _ (List.mem_of_getElem? (i := 139) rfl))) (mvT hZ (hw _ (List.mem_of_getElem? (i := 140) rfl))) (mvT hZ (hw _ (List.mem_of_getElem? (i := 141) rfl))) (mvT hZ (hw _ (List.mem_of_getElem? (i := 142) rfl))) (mvT hZ (hw _ (List.mem_of_getElem? (i := 143) rfl))) (mvT hZ (hw _ (List.mem_of_getElem? (i := 36) rfl))) (by decide) (backOf (W := 0) (rm17n l Z a0 hw [] o2 z2 h0 n0 O0 HF_o2_size h23_hc4) hZ (hw _ (List.mem_of_getElem? (i := 144) rfl)) (hw _ (List.mem_of_getElem? (i := 5) rfl)) (by decide) (by decide)) q6a q6b q6c (g := (mkF m 23 #[.val (.ref a1)] [(.ref o2)])) rfl (by rw [hml]; rfl) (Steps.refl _) (argsL := []) (rest := []) (lenOf pd_1 rfl) rfl (by show 2 * 0 + _ ≤ _; exact Nat.le_of_eq rfl) (hb hby d16_23) (fun _ _ => ⟨rfl, e5, (by decide : 0 + 0 ≤ _), (by decide : 0 + 0 ≤ _)⟩)
  dsimp only [Pt.U, Pt.locs, Pt.cells, Pt.slots] at X6 l6 y6 z6 st6 hQ6
  subst l6 y6 z6
  obtain ⟨rfl, N6q, e6⟩ := hQ6
  have N6 := Fr.app N3 N6q
  replace X6 := X6.more (cells' := 0) (slots' := 0) (by decide) (by decide)
  obtain ⟨fs, hr, hrun, hended, hW, hsame⟩ := X6.leave (v := some (.int (1 : Int32))) (fun h => by rw [Bd.returns] at h; cases h)
  refine ⟨_, _, pre0 _ ?_, hrun, hended, _, _, rfl, ?_, ⟨_, rfl⟩, hW, hsame.mono (by decide) (by decide)⟩
  · show Steps p.tables e below (s₁.setTop (mkF m 0 #[.val (.ref a1)] [])) _
    refine XS.aloadN X0.here hx rfl (hb hby d16_0) rfl rfl ?_
    show Steps p.tables e below (s₁.setTop (mkF m 1 #[.val (.ref a1)] [(.ref a1)])) _
    refine st2 _ ?_
    show Steps p.tables e below (T2.setTop (mkF m 4 #[.val (.ref a1)] [(.ref o1)])) _
    refine st3.trans ?_
    show Steps p.tables e below (T3.setTop (mkF m 9 #[.val (.ref a1)] [(.int (1 : Int32))])) _
    refine XS.ifNo X3.here hx rfl (hb hby d16_9) rfl ((if0 _ _).trans (feq (by decide : ¬ ((1 : Int32) = (0 : Int32)))).1) ?_
    show Steps p.tables e below (T3.setTop (mkF m 12 #[.val (.ref a1)] [])) _
    refine XS.aloadN X3.here hx rfl (hb hby d16_12) rfl rfl ?_
    show Steps p.tables e below (T3.setTop (mkF m 13 #[.val (.ref a1)] [(.ref a1)])) _
    refine st4 _ ?_
    show Steps p.tables e below (T4.setTop (mkF m 16 #[.val (.ref a1)] [(.int pc)])) _
    refine XS.ifNo X4.here hx rfl (hb hby d16_16) rfl ((if0 _ _).trans (flt hc16).2.2.1) ?_
    show Steps p.tables e below (T4.setTop (mkF m 19 #[.val (.ref a1)] [])) _
    refine XS.aloadN X4.here hx rfl (hb hby d16_19) rfl rfl ?_
    show Steps p.tables e below (T4.setTop (mkF m 20 #[.val (.ref a1)] [(.ref a1)])) _
    refine st5 _ ?_
    show Steps p.tables e below (T5.setTop (mkF m 23 #[.val (.ref a1)] [(.ref o2)])) _
    refine st6.trans ?_
    show Steps p.tables e below (T6.setTop (mkF m 28 #[.val (.ref a1)] [(.int (0 : Int32))])) _
    refine XS.ifYes X6.here hx rfl (pc0 := 28) (pc' := 43) rfl (hb hby d16_28) rfl ((if0 _ _).trans (teq (by decide : (0 : Int32) = (0 : Int32))).1) (by decide) (by decide) ?_
    show Steps p.tables e below (T6.setTop (mkF m 43 #[.val (.ref a1)] [])) _
    refine XS.iconst X6.here hx rfl (hb hby d16_43) ?_
    show Steps p.tables e below (T6.setTop (mkF m 44 #[.val (.ref a1)] [(.int (1 : Int32))])) _
    refine XS.goto X6.here hx rfl (pc0 := 44) (pc' := 48) rfl (hb hby d16_44) (by decide) (by decide) ?_
    show Steps p.tables e below (T6.setTop (mkF m 48 #[.val (.ref a1)] [(.int (1 : Int32))])) _
    exact retN X6 hx (t := .boolean) Bd.returns (by simp) (hb hby d16_48) hr
  · show Q16r3 Z a1 o1 o2 o3 pc z1 z2 z3 h0 n0 _ T6.heap _
    rw [e6]
    exact ⟨rfl, N6, rfl⟩
theorem d16_31 : decode prog_14_method_3_code 31 = .ok (.aload_n 0, 1) := by decide +kernel
theorem d16_32 : decode prog_14_method_3_code 32 = .ok (.getfield 52, 3) := by decide +kernel
theorem d16_35 : decode prog_14_method_3_code 35 = .ok (.invokeinterface 61 1, 5) := by decide +kernel
theorem d16_40 : decode prog_14_method_3_code 40 = .ok (.ifCond .ne 7, 3) := by decide +kernel
def Q16r4 (Z : State) (a1 o1 o2 o3 : Addr) (pc z1 z2 z3 : Int32) (h0 : Heap) (n0 : Nat) (v : Option Value) (h : Heap) (L : List Loc) : Prop := v = some (.int (1 : Int32)) ∧ Fr n0 L ∧ h = h0
set_option maxRecDepth 65536 in
set_option maxHeartbeats 40000000 in
theorem rm16r4 (l : Launch) (Z : State) (a0 : Array Value) (hw : ∀ d ∈ tables_1, d.before a0 Z = true) (ws : List Jvm.Cond) (a1 o1 o2 o3 : Addr) (pc z1 z2 z3 : Int32) (h0 : Heap) (n0 : Nat) (O0 : Old Z n0 h0) (HF_a1_conditions : Fld Z h0 a1 "com/example/mirante/mirante/FieldDef" "conditions" "Ljava/util/List;" (.ref o1)) (HF_a1_count : Fld Z h0 a1 "com/example/mirante/mirante/FieldDef" "count" "I" (.int pc)) (HF_a1_anyPresent : Fld Z h0 a1 "com/example/mirante/mirante/FieldDef" "anyPresent" "Ljava/util/List;" (.ref o2)) (HF_a1_before : Fld Z h0 a1 "com/example/mirante/mirante/FieldDef" "before" "Ljava/util/List;" (.ref o3)) (HE_o1 : Exa Z h0 o1 "java/util/ArrayList") (HF_o1_size : Fld Z h0 o1 "java/util/ArrayList" "size" "I" (.int z1)) (HE_o2 : Exa Z h0 o2 "java/util/ArrayList") (HF_o2_size : Fld Z h0 o2 "java/util/ArrayList" "size" "I" (.int z2)) (HE_o3 : Exa Z h0 o3 "java/util/ArrayList") (HF_o3_size : Fld Z h0 o3 "java/util/ArrayList" "size" "I" (.int z3)) (h4_hc4 : z1 = (0 : Int32)) (hc16 : ¬ ((0 : Int32) < pc)) (h23_hc4 : z2 = (0 : Int32)) (h35_hc4 : ¬ (z3 = (0 : Int32))) :
    MetFree l (⟨"com/example/mirante/mirante/FieldDef", "hasRuleChecks", "()Z"⟩ : MethodName) (head1 (Jvm.Cond.code (⟨"com/example/mirante/mirante/FieldDef", "hasRuleChecks", "()Z"⟩ : MethodName) prog_14_method_3_code 1 (some .boolean) :: ws) ({ frames := 1, cells := 0, slots := 0, locals := 12 } : Room)) (fun a U => a = #[(.ref a1)] ∧ Z.Warmed39 U.vm ∧ U.heap = h0) (fun _ _ _ _ _ => True) (fun _ U o U' => ∃ v L, o = .returned v ∧ Q16r4 Z a1 o1 o2 o3 pc z1 z2 z3 h0 n0 v U'.heap L ∧ FrameEnd U o U' L ({ frames := 1, cells := 0, slots := 0, locals := 12 } : Room).cells ({ frames := 1, cells := 0, slots := 0, locals := 12 } : Room).slots) := by
  refine MetFree.of_bodySF (plainFor_of_name pnc_com_example_mirante_mirante_FieldDef) hisR ?_
  intro p e s m args below meth c s₁ Bd hml0 hP hK
  obtain ⟨rfl, hZ, hh⟩ := hP
  have hx := Bd.exec
  have hby := Bd.bytes
  have hml : c.maxLocals = 1 := hml0
  have hown : s.vm.findClass "com/example/mirante/mirante/FieldDef" = some m.cls := findClass_of_methodNamed Bd.named
  have hnm := (name_of_methodNamed Bd.named Bd.method).1
  have X0 : Stand p l e ({ frames := 1, cells := 0, slots := 0, locals := 12 } : Room) s m #[(.ref a1)] below meth c s₁ [] 0 0 := Stand.of_body Bd
  have e0 : s₁.heap = h0 := by rw [← hh, Bd.state]; rfl
  have N0 := Fr.nil n0
  have Z0 : n0 ≤ h0.size := O0.1 ▸ O0.2.1
  have pre0 : ∀ t, Steps p.tables e below (s₁.setTop (mkF m 0 #[.val (.ref a1)] [])) t → Steps p.tables e below (s₁.setTop (entryFrame m #[(.ref a1)] 1)) t := fun t k => castTop (ef_16 m a1) k
  obtain ⟨T2, X2, e2, st2⟩ := getF X0 hx hZ hown (host := "") (Or.inl (hw _ (List.mem_of_getElem? (i := 120) rfl))) Via.refl e0 HF_a1_conditions (g := (mkF m 1 #[.val (.ref a1)] [(.ref a1)])) rfl rfl (hb hby d16_1)
  obtain ⟨cq3, kq3, q3a, q3b, q3c⟩ := isOf hZ e2 HE_o1
  obtain ⟨vr3, _, ⟨T3, L3, k3, n3⟩, -, X3, ⟨Lc3, hQ3, l3, y3, z3⟩, st3⟩ := X2.interfaceBack hx (xi := (⟨"java/util/List", "isEmpty", "()Z"⟩ : MethodName)) (y := (⟨"java/util/ArrayList", "isEmpty", "()Z"⟩ : MethodName)) hown (mvT hZ (hw _ (List.mem_of_getElem? (i := 137) rfl))) (mvT hZ (hw _ (List.mem_of_getElem? (i := 138) rfl))) (mvT hZ (hw _ (List.mem_of_getElem? (i := 139) rfl))) (mvT hZ (hw _ (List.mem_of_getElem? (i := 140) rfl))) (mvT hZ (hw _ (List.mem_of_getElem? (i := 141) rfl))) (mvT hZ (hw _ (List.mem_of_getElem? (i := 142) rfl))) (mvT hZ (hw _ (List.mem_of_getElem? (i := 143) rfl))) (mvT hZ (hw _ (List.mem_of_getElem? (i := 36) rfl))) (by decide) (backOf (W := 0) (rm17y l Z a0 hw [] o1 z1 h0 n0 O0 HF_o1_size h4_hc4) hZ (hw _ (List.mem_of_getElem? (i := 144) rfl)) (hw _ (List.mem_of_getElem? (i := 5) rfl)) (by decide) (by decide)) q3a q3b q3c (g := (mkF m 4 #[.val (.ref a1)] [(.ref o1)])) rfl (by rw [hml]; rfl) (Steps.refl _) (argsL := []) (rest := []) (lenOf pd_1 rfl) rfl (by show 2 * 0 + _ ≤ _; exact Nat.le_of_eq rfl) (hb hby d16_4) (fun _ _ => ⟨rfl, e2, (by decide : 0 + 0 ≤ _), (by decide : 0 + 0 ≤ _)⟩)
  dsimp only [Pt.U, Pt.locs, Pt.cells, Pt.slots] at X3 l3 y3 z3 st3 hQ3
  subst l3 y3 z3
  obtain ⟨rfl, N3q, e3⟩ := hQ3
  have N3 := Fr.app N0 N3q
  replace X3 := X3.more (cells' := 0) (slots' := 0) (by decide) (by decide)
  obtain ⟨T4, X4, e4, st4⟩ := getF X3 hx hZ hown (host := "") (Or.inl (hw _ (List.mem_of_getElem? (i := 122) rfl))) Via.refl e3 HF_a1_count (g := (mkF m 13 #[.val (.ref a1)] [(.ref a1)])) rfl rfl (hb hby d16_13)
  obtain ⟨T5, X5, e5, st5⟩ := getF X4 hx hZ hown (host := "") (Or.inl (hw _ (List.mem_of_getElem? (i := 124) rfl))) Via.refl e4 HF_a1_anyPresent (g := (mkF m 20 #[.val (.ref a1)] [(.ref a1)])) rfl rfl (hb hby d16_20)
  obtain ⟨cq6, kq6, q6a, q6b, q6c⟩ := isOf hZ e5 HE_o2
  obtain ⟨vr6, _, ⟨T6, L6, k6, n6⟩, -, X6, ⟨Lc6, hQ6, l6, y6, z6⟩, st6⟩ := X5.interfaceBack hx (xi := (⟨"java/util/List", "isEmpty", "()Z"⟩ : MethodName)) (y := (⟨"java/util/ArrayList", "isEmpty", "()Z"⟩ : MethodName)) hown (mvT hZ (hw _ (List.mem_of_getElem? (i := 137) rfl))) (mvT hZ (hw _ (List.mem_of_getElem? (i := 138) rfl))) (mvT hZ (hw _ (List.mem_of_getElem? (i := 139) rfl))) (mvT hZ (hw _ (List.mem_of_getElem? (i := 140) rfl))) (mvT hZ (hw _ (List.mem_of_getElem? (i := 141) rfl))) (mvT hZ (hw _ (List.mem_of_getElem? (i := 142) rfl))) (mvT hZ (hw _ (List.mem_of_getElem? (i := 143) rfl))) (mvT hZ (hw _ (List.mem_of_getElem? (i := 36) rfl))) (by decide) (backOf (W := 0) (rm17y l Z a0 hw [] o2 z2 h0 n0 O0 HF_o2_size h23_hc4) hZ (hw _ (List.mem_of_getElem? (i := 144) rfl)) (hw _ (List.mem_of_getElem? (i := 5) rfl)) (by decide) (by decide)) q6a q6b q6c (g := (mkF m 23 #[.val (.ref a1)] [(.ref o2)])) rfl (by rw [hml]; rfl) (Steps.refl _) (argsL := []) (rest := []) (lenOf pd_1 rfl) rfl (by show 2 * 0 + _ ≤ _; exact Nat.le_of_eq rfl) (hb hby d16_23) (fun _ _ => ⟨rfl, e5, (by decide : 0 + 0 ≤ _), (by decide : 0 + 0 ≤ _)⟩)
  dsimp only [Pt.U, Pt.locs, Pt.cells, Pt.slots] at X6 l6 y6 z6 st6 hQ6
  subst l6 y6 z6
  obtain ⟨rfl, N6q, e6⟩ := hQ6
  have N6 := Fr.app N3 N6q
  replace X6 := X6.more (cells' := 0) (slots' := 0) (by decide) (by decide)
  obtain ⟨T7, X7, e7, st7⟩ := getF X6 hx hZ hown (host := "") (Or.inl (hw _ (List.mem_of_getElem? (i := 126) rfl))) Via.refl e6 HF_a1_before (g := (mkF m 32 #[.val (.ref a1)] [(.ref a1)])) rfl rfl (hb hby d16_32)
  obtain ⟨cq8, kq8, q8a, q8b, q8c⟩ := isOf hZ e7 HE_o3
  obtain ⟨vr8, _, ⟨T8, L8, k8, n8⟩, -, X8, ⟨Lc8, hQ8, l8, y8, z8⟩, st8⟩ := X7.interfaceBack hx (xi := (⟨"java/util/List", "isEmpty", "()Z"⟩ : MethodName)) (y := (⟨"java/util/ArrayList", "isEmpty", "()Z"⟩ : MethodName)) hown (mvT hZ (hw _ (List.mem_of_getElem? (i := 137) rfl))) (mvT hZ (hw _ (List.mem_of_getElem? (i := 138) rfl))) (mvT hZ (hw _ (List.mem_of_getElem? (i := 139) rfl))) (mvT hZ (hw _ (List.mem_of_getElem? (i := 140) rfl))) (mvT hZ (hw _ (List.mem_of_getElem? (i := 141) rfl))) (mvT hZ (hw _ (List.mem_of_getElem? (i := 142) rfl))) (mvT hZ (hw _ (List.mem_of_getElem? (i := 143) rfl))) (mvT hZ (hw _ (List.mem_of_getElem? (i := 36) rfl))) (by decide) (backOf (W := 0) (rm17n l Z a0 hw [] o3 z3 h0 n0 O0 HF_o3_size h35_hc4) hZ (hw _ (List.mem_of_getElem? (i := 144) rfl)) (hw _ (List.mem_of_getElem? (i := 5) rfl)) (by decide) (by decide)) q8a q8b q8c (g := (mkF m 35 #[.val (.ref a1)] [(.ref o3)])) rfl (by rw [hml]; rfl) (Steps.refl _) (argsL := []) (rest := []) (lenOf pd_1 rfl) rfl (by show 2 * 0 + _ ≤ _; exact Nat.le_of_eq rfl) (hb hby d16_35) (fun _ _ => ⟨rfl, e7, (by decide : 0 + 0 ≤ _), (by decide : 0 + 0 ≤ _)⟩)
  dsimp only [Pt.U, Pt.locs, Pt.cells, Pt.slots] at X8 l8 y8 z8 st8 hQ8
  subst l8 y8 z8
  obtain ⟨rfl, N8q, e8⟩ := hQ8
  have N8 := Fr.app N6 N8q
  replace X8 := X8.more (cells' := 0) (slots' := 0) (by decide) (by decide)
  obtain ⟨fs, hr, hrun, hended, hW, hsame⟩ := X8.leave (v := some (.int (1 : Int32))) (fun h => by rw [Bd.returns] at h; cases h)
  refine ⟨_, _, pre0 _ ?_, hrun, hended, _, _, rfl, ?_, ⟨_, rfl⟩, hW, hsame.mono (by decide) (by decide)⟩
  · show Steps p.tables e below (s₁.setTop (mkF m 0 #[.val (.ref a1)] [])) _
    refine XS.aloadN X0.here hx rfl (hb hby d16_0) rfl rfl ?_
    show Steps p.tables e below (s₁.setTop (mkF m 1 #[.val (.ref a1)] [(.ref a1)])) _
    refine st2 _ ?_
    show Steps p.tables e below (T2.setTop (mkF m 4 #[.val (.ref a1)] [(.ref o1)])) _
    refine st3.trans ?_
    show Steps p.tables e below (T3.setTop (mkF m 9 #[.val (.ref a1)] [(.int (1 : Int32))])) _
    refine XS.ifNo X3.here hx rfl (hb hby d16_9) rfl ((if0 _ _).trans (feq (by decide : ¬ ((1 : Int32) = (0 : Int32)))).1) ?_
    show Steps p.tables e below (T3.setTop (mkF m 12 #[.val (.ref a1)] [])) _
    refine XS.aloadN X3.here hx rfl (hb hby d16_12) rfl rfl ?_
    show Steps p.tables e below (T3.setTop (mkF m 13 #[.val (.ref a1)] [(.ref a1)])) _
    refine st4 _ ?_
    show Steps p.tables e below (T4.setTop (mkF m 16 #[.val (.ref a1)] [(.int pc)])) _
    refine XS.ifNo X4.here hx rfl (hb hby d16_16) rfl ((if0 _ _).trans (flt hc16).2.2.1) ?_
    show Steps p.tables e below (T4.setTop (mkF m 19 #[.val (.ref a1)] [])) _
    refine XS.aloadN X4.here hx rfl (hb hby d16_19) rfl rfl ?_
    show Steps p.tables e below (T4.setTop (mkF m 20 #[.val (.ref a1)] [(.ref a1)])) _
    refine st5 _ ?_
    show Steps p.tables e below (T5.setTop (mkF m 23 #[.val (.ref a1)] [(.ref o2)])) _
    refine st6.trans ?_
    show Steps p.tables e below (T6.setTop (mkF m 28 #[.val (.ref a1)] [(.int (1 : Int32))])) _
    refine XS.ifNo X6.here hx rfl (hb hby d16_28) rfl ((if0 _ _).trans (feq (by decide : ¬ ((1 : Int32) = (0 : Int32)))).1) ?_
    show Steps p.tables e below (T6.setTop (mkF m 31 #[.val (.ref a1)] [])) _
    refine XS.aloadN X6.here hx rfl (hb hby d16_31) rfl rfl ?_
    show Steps p.tables e below (T6.setTop (mkF m 32 #[.val (.ref a1)] [(.ref a1)])) _
    refine st7 _ ?_
    show Steps p.tables e below (T7.setTop (mkF m 35 #[.val (.ref a1)] [(.ref o3)])) _
    refine st8.trans ?_
    show Steps p.tables e below (T8.setTop (mkF m 40 #[.val (.ref a1)] [(.int (0 : Int32))])) _
    refine XS.ifNo X8.here hx rfl (hb hby d16_40) rfl ((if0 _ _).trans (teq (by decide : (0 : Int32) = (0 : Int32))).2) ?_
    show Steps p.tables e below (T8.setTop (mkF m 43 #[.val (.ref a1)] [])) _
    refine XS.iconst X8.here hx rfl (hb hby d16_43) ?_
    show Steps p.tables e below (T8.setTop (mkF m 44 #[.val (.ref a1)] [(.int (1 : Int32))])) _
    refine XS.goto X8.here hx rfl (pc0 := 44) (pc' := 48) rfl (hb hby d16_44) (by decide) (by decide) ?_
    show Steps p.tables e below (T8.setTop (mkF m 48 #[.val (.ref a1)] [(.int (1 : Int32))])) _
    exact retN X8 hx (t := .boolean) Bd.returns (by simp) (hb hby d16_48) hr
  · show Q16r4 Z a1 o1 o2 o3 pc z1 z2 z3 h0 n0 _ T8.heap _
    rw [e8]
    exact ⟨rfl, N8, rfl⟩
theorem d16_47 : decode prog_14_method_3_code 47 = .ok (.iconst 0, 1) := by decide +kernel
def Q16r5 (Z : State) (a1 o1 o2 o3 : Addr) (pc z1 z2 z3 : Int32) (h0 : Heap) (n0 : Nat) (v : Option Value) (h : Heap) (L : List Loc) : Prop := v = some (.int (0 : Int32)) ∧ Fr n0 L ∧ h = h0
set_option maxRecDepth 65536 in
set_option maxHeartbeats 40000000 in
theorem rm16r5 (l : Launch) (Z : State) (a0 : Array Value) (hw : ∀ d ∈ tables_1, d.before a0 Z = true) (ws : List Jvm.Cond) (a1 o1 o2 o3 : Addr) (pc z1 z2 z3 : Int32) (h0 : Heap) (n0 : Nat) (O0 : Old Z n0 h0) (HF_a1_conditions : Fld Z h0 a1 "com/example/mirante/mirante/FieldDef" "conditions" "Ljava/util/List;" (.ref o1)) (HF_a1_count : Fld Z h0 a1 "com/example/mirante/mirante/FieldDef" "count" "I" (.int pc)) (HF_a1_anyPresent : Fld Z h0 a1 "com/example/mirante/mirante/FieldDef" "anyPresent" "Ljava/util/List;" (.ref o2)) (HF_a1_before : Fld Z h0 a1 "com/example/mirante/mirante/FieldDef" "before" "Ljava/util/List;" (.ref o3)) (HE_o1 : Exa Z h0 o1 "java/util/ArrayList") (HF_o1_size : Fld Z h0 o1 "java/util/ArrayList" "size" "I" (.int z1)) (HE_o2 : Exa Z h0 o2 "java/util/ArrayList") (HF_o2_size : Fld Z h0 o2 "java/util/ArrayList" "size" "I" (.int z2)) (HE_o3 : Exa Z h0 o3 "java/util/ArrayList") (HF_o3_size : Fld Z h0 o3 "java/util/ArrayList" "size" "I" (.int z3)) (h4_hc4 : z1 = (0 : Int32)) (hc16 : ¬ ((0 : Int32) < pc)) (h23_hc4 : z2 = (0 : Int32)) (h35_hc4 : z3 = (0 : Int32)) :
    MetFree l (⟨"com/example/mirante/mirante/FieldDef", "hasRuleChecks", "()Z"⟩ : MethodName) (head1 (Jvm.Cond.code (⟨"com/example/mirante/mirante/FieldDef", "hasRuleChecks", "()Z"⟩ : MethodName) prog_14_method_3_code 1 (some .boolean) :: ws) ({ frames := 1, cells := 0, slots := 0, locals := 12 } : Room)) (fun a U => a = #[(.ref a1)] ∧ Z.Warmed39 U.vm ∧ U.heap = h0) (fun _ _ _ _ _ => True) (fun _ U o U' => ∃ v L, o = .returned v ∧ Q16r5 Z a1 o1 o2 o3 pc z1 z2 z3 h0 n0 v U'.heap L ∧ FrameEnd U o U' L ({ frames := 1, cells := 0, slots := 0, locals := 12 } : Room).cells ({ frames := 1, cells := 0, slots := 0, locals := 12 } : Room).slots) := by
  refine MetFree.of_bodySF (plainFor_of_name pnc_com_example_mirante_mirante_FieldDef) hisR ?_
  intro p e s m args below meth c s₁ Bd hml0 hP hK
  obtain ⟨rfl, hZ, hh⟩ := hP
  have hx := Bd.exec
  have hby := Bd.bytes
  have hml : c.maxLocals = 1 := hml0
  have hown : s.vm.findClass "com/example/mirante/mirante/FieldDef" = some m.cls := findClass_of_methodNamed Bd.named
  have hnm := (name_of_methodNamed Bd.named Bd.method).1
  have X0 : Stand p l e ({ frames := 1, cells := 0, slots := 0, locals := 12 } : Room) s m #[(.ref a1)] below meth c s₁ [] 0 0 := Stand.of_body Bd
  have e0 : s₁.heap = h0 := by rw [← hh, Bd.state]; rfl
  have N0 := Fr.nil n0
  have Z0 : n0 ≤ h0.size := O0.1 ▸ O0.2.1
  have pre0 : ∀ t, Steps p.tables e below (s₁.setTop (mkF m 0 #[.val (.ref a1)] [])) t → Steps p.tables e below (s₁.setTop (entryFrame m #[(.ref a1)] 1)) t := fun t k => castTop (ef_16 m a1) k
  obtain ⟨T2, X2, e2, st2⟩ := getF X0 hx hZ hown (host := "") (Or.inl (hw _ (List.mem_of_getElem? (i := 120) rfl))) Via.refl e0 HF_a1_conditions (g := (mkF m 1 #[.val (.ref a1)] [(.ref a1)])) rfl rfl (hb hby d16_1)
  obtain ⟨cq3, kq3, q3a, q3b, q3c⟩ := isOf hZ e2 HE_o1
  obtain ⟨vr3, _, ⟨T3, L3, k3, n3⟩, -, X3, ⟨Lc3, hQ3, l3, y3, z3⟩, st3⟩ := X2.interfaceBack hx (xi := (⟨"java/util/List", "isEmpty", "()Z"⟩ : MethodName)) (y := (⟨"java/util/ArrayList", "isEmpty", "()Z"⟩ : MethodName)) hown (mvT hZ (hw _ (List.mem_of_getElem? (i := 137) rfl))) (mvT hZ (hw _ (List.mem_of_getElem? (i := 138) rfl))) (mvT hZ (hw _ (List.mem_of_getElem? (i := 139) rfl))) (mvT hZ (hw _ (List.mem_of_getElem? (i := 140) rfl))) (mvT hZ (hw _ (List.mem_of_getElem? (i := 141) rfl))) (mvT hZ (hw _ (List.mem_of_getElem? (i := 142) rfl))) (mvT hZ (hw _ (List.mem_of_getElem? (i := 143) rfl))) (mvT hZ (hw _ (List.mem_of_getElem? (i := 36) rfl))) (by decide) (backOf (W := 0) (rm17y l Z a0 hw [] o1 z1 h0 n0 O0 HF_o1_size h4_hc4) hZ (hw _ (List.mem_of_getElem? (i := 144) rfl)) (hw _ (List.mem_of_getElem? (i := 5) rfl)) (by decide) (by decide)) q3a q3b q3c (g := (mkF m 4 #[.val (.ref a1)] [(.ref o1)])) rfl (by rw [hml]; rfl) (Steps.refl _) (argsL := []) (rest := []) (lenOf pd_1 rfl) rfl (by show 2 * 0 + _ ≤ _; exact Nat.le_of_eq rfl) (hb hby d16_4) (fun _ _ => ⟨rfl, e2, (by decide : 0 + 0 ≤ _), (by decide : 0 + 0 ≤ _)⟩)
  dsimp only [Pt.U, Pt.locs, Pt.cells, Pt.slots] at X3 l3 y3 z3 st3 hQ3
  subst l3 y3 z3
  obtain ⟨rfl, N3q, e3⟩ := hQ3
  have N3 := Fr.app N0 N3q
  replace X3 := X3.more (cells' := 0) (slots' := 0) (by decide) (by decide)
  obtain ⟨T4, X4, e4, st4⟩ := getF X3 hx hZ hown (host := "") (Or.inl (hw _ (List.mem_of_getElem? (i := 122) rfl))) Via.refl e3 HF_a1_count (g := (mkF m 13 #[.val (.ref a1)] [(.ref a1)])) rfl rfl (hb hby d16_13)
  obtain ⟨T5, X5, e5, st5⟩ := getF X4 hx hZ hown (host := "") (Or.inl (hw _ (List.mem_of_getElem? (i := 124) rfl))) Via.refl e4 HF_a1_anyPresent (g := (mkF m 20 #[.val (.ref a1)] [(.ref a1)])) rfl rfl (hb hby d16_20)
  obtain ⟨cq6, kq6, q6a, q6b, q6c⟩ := isOf hZ e5 HE_o2
  obtain ⟨vr6, _, ⟨T6, L6, k6, n6⟩, -, X6, ⟨Lc6, hQ6, l6, y6, z6⟩, st6⟩ := X5.interfaceBack hx (xi := (⟨"java/util/List", "isEmpty", "()Z"⟩ : MethodName)) (y := (⟨"java/util/ArrayList", "isEmpty", "()Z"⟩ : MethodName)) hown (mvT hZ (hw _ (List.mem_of_getElem? (i := 137) rfl))) (mvT hZ (hw _ (List.mem_of_getElem? (i := 138) rfl))) (mvT hZ (hw _ (List.mem_of_getElem? (i := 139) rfl))) (mvT hZ (hw _ (List.mem_of_getElem? (i := 140) rfl))) (mvT hZ (hw _ (List.mem_of_getElem? (i := 141) rfl))) (mvT hZ (hw _ (List.mem_of_getElem? (i := 142) rfl))) (mvT hZ (hw _ (List.mem_of_getElem? (i := 143) rfl))) (mvT hZ (hw _ (List.mem_of_getElem? (i := 36) rfl))) (by decide) (backOf (W := 0) (rm17y l Z a0 hw [] o2 z2 h0 n0 O0 HF_o2_size h23_hc4) hZ (hw _ (List.mem_of_getElem? (i := 144) rfl)) (hw _ (List.mem_of_getElem? (i := 5) rfl)) (by decide) (by decide)) q6a q6b q6c (g := (mkF m 23 #[.val (.ref a1)] [(.ref o2)])) rfl (by rw [hml]; rfl) (Steps.refl _) (argsL := []) (rest := []) (lenOf pd_1 rfl) rfl (by show 2 * 0 + _ ≤ _; exact Nat.le_of_eq rfl) (hb hby d16_23) (fun _ _ => ⟨rfl, e5, (by decide : 0 + 0 ≤ _), (by decide : 0 + 0 ≤ _)⟩)
  dsimp only [Pt.U, Pt.locs, Pt.cells, Pt.slots] at X6 l6 y6 z6 st6 hQ6
  subst l6 y6 z6
  obtain ⟨rfl, N6q, e6⟩ := hQ6
  have N6 := Fr.app N3 N6q
  replace X6 := X6.more (cells' := 0) (slots' := 0) (by decide) (by decide)
  obtain ⟨T7, X7, e7, st7⟩ := getF X6 hx hZ hown (host := "") (Or.inl (hw _ (List.mem_of_getElem? (i := 126) rfl))) Via.refl e6 HF_a1_before (g := (mkF m 32 #[.val (.ref a1)] [(.ref a1)])) rfl rfl (hb hby d16_32)
  obtain ⟨cq8, kq8, q8a, q8b, q8c⟩ := isOf hZ e7 HE_o3
  obtain ⟨vr8, _, ⟨T8, L8, k8, n8⟩, -, X8, ⟨Lc8, hQ8, l8, y8, z8⟩, st8⟩ := X7.interfaceBack hx (xi := (⟨"java/util/List", "isEmpty", "()Z"⟩ : MethodName)) (y := (⟨"java/util/ArrayList", "isEmpty", "()Z"⟩ : MethodName)) hown (mvT hZ (hw _ (List.mem_of_getElem? (i := 137) rfl))) (mvT hZ (hw _ (List.mem_of_getElem? (i := 138) rfl))) (mvT hZ (hw _ (List.mem_of_getElem? (i := 139) rfl))) (mvT hZ (hw _ (List.mem_of_getElem? (i := 140) rfl))) (mvT hZ (hw _ (List.mem_of_getElem? (i := 141) rfl))) (mvT hZ (hw _ (List.mem_of_getElem? (i := 142) rfl))) (mvT hZ (hw _ (List.mem_of_getElem? (i := 143) rfl))) (mvT hZ (hw _ (List.mem_of_getElem? (i := 36) rfl))) (by decide) (backOf (W := 0) (rm17y l Z a0 hw [] o3 z3 h0 n0 O0 HF_o3_size h35_hc4) hZ (hw _ (List.mem_of_getElem? (i := 144) rfl)) (hw _ (List.mem_of_getElem? (i := 5) rfl)) (by decide) (by decide)) q8a q8b q8c (g := (mkF m 35 #[.val (.ref a1)] [(.ref o3)])) rfl (by rw [hml]; rfl) (Steps.refl _) (argsL := []) (rest := []) (lenOf pd_1 rfl) rfl (by show 2 * 0 + _ ≤ _; exact Nat.le_of_eq rfl) (hb hby d16_35) (fun _ _ => ⟨rfl, e7, (by decide : 0 + 0 ≤ _), (by decide : 0 + 0 ≤ _)⟩)
  dsimp only [Pt.U, Pt.locs, Pt.cells, Pt.slots] at X8 l8 y8 z8 st8 hQ8
  subst l8 y8 z8
  obtain ⟨rfl, N8q, e8⟩ := hQ8
  have N8 := Fr.app N6 N8q
  replace X8 := X8.more (cells' := 0) (slots' := 0) (by decide) (by decide)
  obtain ⟨fs, hr, hrun, hended, hW, hsame⟩ := X8.leave (v := some (.int (0 : Int32))) (fun h => by rw [Bd.returns] at h; cases h)
  refine ⟨_, _, pre0 _ ?_, hrun, hended, _, _, rfl, ?_, ⟨_, rfl⟩, hW, hsame.mono (by decide) (by decide)⟩
  · show Steps p.tables e below (s₁.setTop (mkF m 0 #[.val (.ref a1)] [])) _
    refine XS.aloadN X0.here hx rfl (hb hby d16_0) rfl rfl ?_
    show Steps p.tables e below (s₁.setTop (mkF m 1 #[.val (.ref a1)] [(.ref a1)])) _
    refine st2 _ ?_
    show Steps p.tables e below (T2.setTop (mkF m 4 #[.val (.ref a1)] [(.ref o1)])) _
    refine st3.trans ?_
    show Steps p.tables e below (T3.setTop (mkF m 9 #[.val (.ref a1)] [(.int (1 : Int32))])) _
    refine XS.ifNo X3.here hx rfl (hb hby d16_9) rfl ((if0 _ _).trans (feq (by decide : ¬ ((1 : Int32) = (0 : Int32)))).1) ?_
    show Steps p.tables e below (T3.setTop (mkF m 12 #[.val (.ref a1)] [])) _
    refine XS.aloadN X3.here hx rfl (hb hby d16_12) rfl rfl ?_
    show Steps p.tables e below (T3.setTop (mkF m 13 #[.val (.ref a1)] [(.ref a1)])) _
    refine st4 _ ?_
    show Steps p.tables e below (T4.setTop (mkF m 16 #[.val (.ref a1)] [(.int pc)])) _
    refine XS.ifNo X4.here hx rfl (hb hby d16_16) rfl ((if0 _ _).trans (flt hc16).2.2.1) ?_
    show Steps p.tables e below (T4.setTop (mkF m 19 #[.val (.ref a1)] [])) _
    refine XS.aloadN X4.here hx rfl (hb hby d16_19) rfl rfl ?_
    show Steps p.tables e below (T4.setTop (mkF m 20 #[.val (.ref a1)] [(.ref a1)])) _
    refine st5 _ ?_
    show Steps p.tables e below (T5.setTop (mkF m 23 #[.val (.ref a1)] [(.ref o2)])) _
    refine st6.trans ?_
    show Steps p.tables e below (T6.setTop (mkF m 28 #[.val (.ref a1)] [(.int (1 : Int32))])) _
    refine XS.ifNo X6.here hx rfl (hb hby d16_28) rfl ((if0 _ _).trans (feq (by decide : ¬ ((1 : Int32) = (0 : Int32)))).1) ?_
    show Steps p.tables e below (T6.setTop (mkF m 31 #[.val (.ref a1)] [])) _
    refine XS.aloadN X6.here hx rfl (hb hby d16_31) rfl rfl ?_
    show Steps p.tables e below (T6.setTop (mkF m 32 #[.val (.ref a1)] [(.ref a1)])) _
    refine st7 _ ?_
    show Steps p.tables e below (T7.setTop (mkF m 35 #[.val (.ref a1)] [(.ref o3)])) _
    refine st8.trans ?_
    show Steps p.tables e below (T8.setTop (mkF m 40 #[.val (.ref a1)] [(.int (1 : Int32))])) _
    refine XS.ifYes X8.here hx rfl (pc0 := 40) (pc' := 47) rfl (hb hby d16_40) rfl ((if0 _ _).trans (feq (by decide : ¬ ((1 : Int32) = (0 : Int32)))).2) (by decide) (by decide) ?_
    show Steps p.tables e below (T8.setTop (mkF m 47 #[.val (.ref a1)] [])) _
    refine XS.iconst X8.here hx rfl (hb hby d16_47) ?_
    show Steps p.tables e below (T8.setTop (mkF m 48 #[.val (.ref a1)] [(.int (0 : Int32))])) _
    exact retN X8 hx (t := .boolean) Bd.returns (by simp) (hb hby d16_48) hr
  · show Q16r5 Z a1 o1 o2 o3 pc z1 z2 z3 h0 n0 _ T8.heap _
    rw [e8]
    exact ⟨rfl, N8, rfl⟩
def Q16 (Z : State) (a1 : Addr) (o1 : Addr) (o2 : Addr) (o3 : Addr) (pc : Int32) (z1 : Int32) (z2 : Int32) (z3 : Int32) (r : Int32) (h0 : Heap) (n0 : Nat) (v : Option Value) (h : Heap) (L : List Loc) : Prop := v = some (.int r) ∧ Fr n0 L ∧ h = h0
theorem rm16 (l : Launch) (Z : State) (a0 : Array Value) (hw : ∀ d ∈ tables_1, d.before a0 Z = true) (ws : List Jvm.Cond) (a1 : Addr) (o1 : Addr) (o2 : Addr) (o3 : Addr) (pc : Int32) (z1 : Int32) (z2 : Int32) (z3 : Int32) (r : Int32) (h0 : Heap) (n0 : Nat) (O0 : Old Z n0 h0) (HF_a1_conditions : Fld Z h0 a1 "com/example/mirante/mirante/FieldDef" "conditions" "Ljava/util/List;" (.ref o1)) (HF_a1_count : Fld Z h0 a1 "com/example/mirante/mirante/FieldDef" "count" "I" (.int pc)) (HF_a1_anyPresent : Fld Z h0 a1 "com/example/mirante/mirante/FieldDef" "anyPresent" "Ljava/util/List;" (.ref o2)) (HF_a1_before : Fld Z h0 a1 "com/example/mirante/mirante/FieldDef" "before" "Ljava/util/List;" (.ref o3)) (HE_o1 : Exa Z h0 o1 "java/util/ArrayList") (HF_o1_size : Fld Z h0 o1 "java/util/ArrayList" "size" "I" (.int z1)) (HE_o2 : Exa Z h0 o2 "java/util/ArrayList") (HF_o2_size : Fld Z h0 o2 "java/util/ArrayList" "size" "I" (.int z2)) (HE_o3 : Exa Z h0 o3 "java/util/ArrayList") (HF_o3_size : Fld Z h0 o3 "java/util/ArrayList" "size" "I" (.int z3)) (hr : r = if ¬ z1 = (0 : Int32) ∨ (0 : Int32) < pc ∨ ¬ z2 = (0 : Int32) ∨ ¬ z3 = (0 : Int32) then (1 : Int32) else (0 : Int32)) :
    MetFree l (⟨"com/example/mirante/mirante/FieldDef", "hasRuleChecks", "()Z"⟩ : MethodName) (head1 (Jvm.Cond.code (⟨"com/example/mirante/mirante/FieldDef", "hasRuleChecks", "()Z"⟩ : MethodName) prog_14_method_3_code 1 (some .boolean) :: ws) ({ frames := 1, cells := 0, slots := 0, locals := 12 } : Room)) (fun a U => a = #[(.ref a1)] ∧ Z.Warmed39 U.vm ∧ U.heap = h0) (fun _ _ _ _ _ => True) (fun _ U o U' => ∃ v L, o = .returned v ∧ Q16 Z a1 o1 o2 o3 pc z1 z2 z3 r h0 n0 v U'.heap L ∧ FrameEnd U o U' L ({ frames := 1, cells := 0, slots := 0, locals := 12 } : Room).cells ({ frames := 1, cells := 0, slots := 0, locals := 12 } : Room).slots) := by
  by_cases c1 : z1 = (0 : Int32)
  · by_cases c2 : (0 : Int32) < pc
    · rw [if_pos (Or.inr (Or.inl c2))] at hr; subst hr; exact rm16r2 l Z a0 hw ws a1 o1 o2 o3 pc z1 z2 z3 h0 n0 O0 HF_a1_conditions HF_a1_count HF_a1_anyPresent HF_a1_before HE_o1 HF_o1_size HE_o2 HF_o2_size HE_o3 HF_o3_size c1 c2
    · by_cases c3 : z2 = (0 : Int32)
      · by_cases c4 : z3 = (0 : Int32)
        · rw [if_neg (fun q => q.elim (fun q => q c1) fun q => q.elim c2 fun q => q.elim (fun q => q c3) fun q => q c4)] at hr; subst hr; exact rm16r5 l Z a0 hw ws a1 o1 o2 o3 pc z1 z2 z3 h0 n0 O0 HF_a1_conditions HF_a1_count HF_a1_anyPresent HF_a1_before HE_o1 HF_o1_size HE_o2 HF_o2_size HE_o3 HF_o3_size c1 c2 c3 c4
        · rw [if_pos (Or.inr (Or.inr (Or.inr c4)))] at hr; subst hr; exact rm16r4 l Z a0 hw ws a1 o1 o2 o3 pc z1 z2 z3 h0 n0 O0 HF_a1_conditions HF_a1_count HF_a1_anyPresent HF_a1_before HE_o1 HF_o1_size HE_o2 HF_o2_size HE_o3 HF_o3_size c1 c2 c3 c4
      · rw [if_pos (Or.inr (Or.inr (Or.inl c3)))] at hr; subst hr; exact rm16r3 l Z a0 hw ws a1 o1 o2 o3 pc z1 z2 z3 h0 n0 O0 HF_a1_conditions HF_a1_count HF_a1_anyPresent HF_a1_before HE_o1 HF_o1_size HE_o2 HF_o2_size HE_o3 HF_o3_size c1 c2 c3
  · rw [if_pos (Or.inl c1)] at hr; subst hr; exact rm16r1 l Z a0 hw ws a1 o1 o2 o3 pc z1 z2 z3 h0 n0 O0 HF_a1_conditions HF_a1_count HF_a1_anyPresent HF_a1_before HE_o1 HF_o1_size HE_o2 HF_o2_size HE_o3 HF_o3_size c1
theorem d14_0 : decode prog_14_method_1_code 0 = .ok (.aload_n 0, 1) := by decide +kernel
theorem d14_1 : decode prog_14_method_1_code 1 = .ok (.invokespecial 1, 3) := by decide +kernel
theorem d14_4 : decode prog_14_method_1_code 4 = .ok (.aload_n 0, 1) := by decide +kernel
theorem d14_5 : decode prog_14_method_1_code 5 = .ok (.iload_n 1, 1) := by decide +kernel
theorem d14_6 : decode prog_14_method_1_code 6 = .ok (.putfield 7, 3) := by decide +kernel
theorem d14_9 : decode prog_14_method_1_code 9 = .ok (.aload_n 0, 1) := by decide +kernel
theorem d14_10 : decode prog_14_method_1_code 10 = .ok (.aload_n 2, 1) := by decide +kernel
theorem d14_11 : decode prog_14_method_1_code 11 = .ok (.putfield 13, 3) := by decide +kernel
theorem d14_14 : decode prog_14_method_1_code 14 = .ok (.aload_n 0, 1) := by decide +kernel
theorem d14_15 : decode prog_14_method_1_code 15 = .ok (.aload_n 3, 1) := by decide +kernel
theorem d14_16 : decode prog_14_method_1_code 16 = .ok (.putfield 17, 3) := by decide +kernel
theorem d14_19 : decode prog_14_method_1_code 19 = .ok (.aload_n 0, 1) := by decide +kernel
theorem d14_20 : decode prog_14_method_1_code 20 = .ok (.aload 4, 2) := by decide +kernel
theorem d14_22 : decode prog_14_method_1_code 22 = .ok (.putfield 20, 3) := by decide +kernel
theorem d14_25 : decode prog_14_method_1_code 25 = .ok (.aload_n 0, 1) := by decide +kernel
theorem d14_26 : decode prog_14_method_1_code 26 = .ok (.iload 5, 2) := by decide +kernel
theorem d14_28 : decode prog_14_method_1_code 28 = .ok (.putfield 24, 3) := by decide +kernel
theorem d14_31 : decode prog_14_method_1_code 31 = .ok (.aload_n 0, 1) := by decide +kernel
theorem d14_32 : decode prog_14_method_1_code 32 = .ok (.aload 6, 2) := by decide +kernel
theorem d14_34 : decode prog_14_method_1_code 34 = .ok (.putfield 27, 3) := by decide +kernel
theorem d14_37 : decode prog_14_method_1_code 37 = .ok (.aload_n 0, 1) := by decide +kernel
theorem d14_38 : decode prog_14_method_1_code 38 = .ok (.aload 7, 2) := by decide +kernel
theorem d14_40 : decode prog_14_method_1_code 40 = .ok (.putfield 31, 3) := by decide +kernel
theorem d14_43 : decode prog_14_method_1_code 43 = .ok (.aload_n 0, 1) := by decide +kernel
theorem d14_44 : decode prog_14_method_1_code 44 = .ok (.aload 8, 2) := by decide +kernel
theorem d14_46 : decode prog_14_method_1_code 46 = .ok (.putfield 35, 3) := by decide +kernel
theorem d14_49 : decode prog_14_method_1_code 49 = .ok (.aload_n 0, 1) := by decide +kernel
theorem d14_50 : decode prog_14_method_1_code 50 = .ok (.aload 9, 2) := by decide +kernel
theorem d14_52 : decode prog_14_method_1_code 52 = .ok (.putfield 39, 3) := by decide +kernel
theorem d14_55 : decode prog_14_method_1_code 55 = .ok (.aload_n 0, 1) := by decide +kernel
theorem d14_56 : decode prog_14_method_1_code 56 = .ok (.aload 10, 2) := by decide +kernel
theorem d14_58 : decode prog_14_method_1_code 58 = .ok (.putfield 43, 3) := by decide +kernel
theorem d14_61 : decode prog_14_method_1_code 61 = .ok (.aload_n 0, 1) := by decide +kernel
theorem d14_62 : decode prog_14_method_1_code 62 = .ok (.iload 11, 2) := by decide +kernel
theorem d14_64 : decode prog_14_method_1_code 64 = .ok (.putfield 46, 3) := by decide +kernel
theorem d14_67 : decode prog_14_method_1_code 67 = .ok (.aload_n 0, 1) := by decide +kernel
theorem d14_68 : decode prog_14_method_1_code 68 = .ok (.aload 12, 2) := by decide +kernel
theorem d14_70 : decode prog_14_method_1_code 70 = .ok (.putfield 49, 3) := by decide +kernel
theorem d14_73 : decode prog_14_method_1_code 73 = .ok (.aload_n 0, 1) := by decide +kernel
theorem d14_74 : decode prog_14_method_1_code 74 = .ok (.aload 13, 2) := by decide +kernel
theorem d14_76 : decode prog_14_method_1_code 76 = .ok (.putfield 52, 3) := by decide +kernel
theorem d14_79 : decode prog_14_method_1_code 79 = .ok (.aload_n 0, 1) := by decide +kernel
theorem d14_80 : decode prog_14_method_1_code 80 = .ok (.iload 14, 2) := by decide +kernel
theorem d14_82 : decode prog_14_method_1_code 82 = .ok (.putfield 55, 3) := by decide +kernel
theorem d14_85 : decode prog_14_method_1_code 85 = .ok (.aload_n 0, 1) := by decide +kernel
theorem d14_86 : decode prog_14_method_1_code 86 = .ok (.aload 15, 2) := by decide +kernel
theorem d14_88 : decode prog_14_method_1_code 88 = .ok (.putfield 58, 3) := by decide +kernel
theorem d14_91 : decode prog_14_method_1_code 91 = .ok (.return_, 1) := by decide +kernel
def Q14rn (Z : State) (a1 : Addr) (p2 : Int32) (a3 a4 : Addr) (p5 : Int32) (a6 a7 a8 : Addr) (p9 : Int32) (a10 a11 : Addr) (p12 : Int32) (a13 : Addr) (u15 u20 u26 u32 u38 u44 u50 u56 u62 u68 u74 u80 u86 u92 u98 : Value) (h0 : Heap) (n0 : Nat) (v : Option Value) (h : Heap) (L : List Loc) : Prop := v = none ∧ Fr n0 L ∧ Keep h0 h [a1] ∧ Exa Z h a1 "com/example/mirante/mirante/FieldDef" ∧ Fld Z h a1 "com/example/mirante/mirante/FieldDef" "anyPresent" "Ljava/util/List;" (.ref a10) ∧ Fld Z h a1 "com/example/mirante/mirante/FieldDef" "before" "Ljava/util/List;" (.ref a11) ∧ Fld Z h a1 "com/example/mirante/mirante/FieldDef" "conditions" "Ljava/util/List;" (.ref a8) ∧ Fld Z h a1 "com/example/mirante/mirante/FieldDef" "count" "I" (.int p9)
theorem ef_14aaaanaannaaaaaaa (m : MethodId) (x0 : Addr) (x1 : Int32) (x2 : Addr) (x3 : Addr) (x5 : Int32) (x6 : Addr) (x9 : Addr) (x10 : Addr) (x11 : Int32) (x12 : Addr) (x13 : Addr) (x14 : Int32) (x15 : Addr) : entryFrame m #[(.ref x0), (.int x1), (.ref x2), (.ref x3), .null, (.int x5), (.ref x6), .null, .null, (.ref x9), (.ref x10), (.int x11), (.ref x12), (.ref x13), (.int x14), (.ref x15)] 16 = mkF m 0 #[.val (.ref x0), .val (.int x1), .val (.ref x2), .val (.ref x3), .val .null, .val (.int x5), .val (.ref x6), .val .null, .val .null, .val (.ref x9), .val (.ref x10), .val (.int x11), .val (.ref x12), .val (.ref x13), .val (.int x14), .val (.ref x15)] [] := by first | (simp [entryFrame, mkF, argsToLocals, Value.category]; done) | rfl
set_option maxRecDepth 65536 in
set_option maxHeartbeats 40000000 in
theorem rm14rn (l : Launch) (Z : State) (a0 : Array Value) (hw : ∀ d ∈ tables_1, d.before a0 Z = true) (ws : List Jvm.Cond) (a1 : Addr) (p2 : Int32) (a3 a4 : Addr) (p5 : Int32) (a6 a7 a8 : Addr) (p9 : Int32) (a10 a11 : Addr) (p12 : Int32) (a13 : Addr) (u15 u20 u26 u32 u38 u44 u50 u56 u62 u68 u74 u80 u86 u92 u98 : Value) (h0 : Heap) (n0 : Nat) (O0 : Old Z n0 h0) (HE_a1 : Exa Z h0 a1 "com/example/mirante/mirante/FieldDef") (HF_a1_tag : Fld Z h0 a1 "com/example/mirante/mirante/FieldDef" "tag" "I" u15) (g_a1 : n0 ≤ a1) (HF_a1_name : Fld Z h0 a1 "com/example/mirante/mirante/FieldDef" "name" "Ljava/lang/String;" u20) (HF_a1_type : Fld Z h0 a1 "com/example/mirante/mirante/FieldDef" "type" "Ljava/lang/String;" u26) (HF_a1_format : Fld Z h0 a1 "com/example/mirante/mirante/FieldDef" "format" "Lcom/example/mirante/mirante/FieldFormat;" u32) (HF_a1_maxLength : Fld Z h0 a1 "com/example/mirante/mirante/FieldDef" "maxLength" "I" u38) (HF_a1_presence : Fld Z h0 a1 "com/example/mirante/mirante/FieldDef" "presence" "Lcom/example/mirante/mirante/FieldDef$Presence;" u44) (HF_a1_values : Fld Z h0 a1 "com/example/mirante/mirante/FieldDef" "values" "Ljava/util/Map;" u50) (HF_a1_range : Fld Z h0 a1 "com/example/mirante/mirante/FieldDef" "range" "Lcom/example/mirante/mirante/FieldDef$Range;" u56) (HF_a1_rules : Fld Z h0 a1 "com/example/mirante/mirante/FieldDef" "rules" "Ljava/util/List;" u62) (HF_a1_conditions : Fld Z h0 a1 "com/example/mirante/mirante/FieldDef" "conditions" "Ljava/util/List;" u68) (HF_a1_count : Fld Z h0 a1 "com/example/mirante/mirante/FieldDef" "count" "I" u74) (HF_a1_anyPresent : Fld Z h0 a1 "com/example/mirante/mirante/FieldDef" "anyPresent" "Ljava/util/List;" u80) (HF_a1_before : Fld Z h0 a1 "com/example/mirante/mirante/FieldDef" "before" "Ljava/util/List;" u86) (HF_a1_lengthOf : Fld Z h0 a1 "com/example/mirante/mirante/FieldDef" "lengthOf" "I" u92) (HF_a1_members : Fld Z h0 a1 "com/example/mirante/mirante/FieldDef" "members" "Ljava/util/List;" u98) :
    MetFree l (⟨"com/example/mirante/mirante/FieldDef", "<init>", "(ILjava/lang/String;Ljava/lang/String;Lcom/example/mirante/mirante/FieldFormat;ILcom/example/mirante/mirante/FieldDef$Presence;Ljava/util/Map;Lcom/example/mirante/mirante/FieldDef$Range;Ljava/util/List;Ljava/util/List;ILjava/util/List;Ljava/util/List;ILjava/util/List;)V"⟩ : MethodName) (head1 (Jvm.Cond.code (⟨"com/example/mirante/mirante/FieldDef", "<init>", "(ILjava/lang/String;Ljava/lang/String;Lcom/example/mirante/mirante/FieldFormat;ILcom/example/mirante/mirante/FieldDef$Presence;Ljava/util/Map;Lcom/example/mirante/mirante/FieldDef$Range;Ljava/util/List;Ljava/util/List;ILjava/util/List;Ljava/util/List;ILjava/util/List;)V"⟩ : MethodName) prog_14_method_1_code 16 none :: ws) ({ frames := 2, cells := 0, slots := 0, locals := 24 } : Room)) (fun a U => a = #[(.ref a1), (.int p2), (.ref a3), (.ref a4), .null, (.int p5), (.ref a6), .null, .null, (.ref a7), (.ref a8), (.int p9), (.ref a10), (.ref a11), (.int p12), (.ref a13)] ∧ Z.Warmed39 U.vm ∧ U.heap = h0) (fun _ _ _ _ _ => True) (fun _ U o U' => ∃ v L, o = .returned v ∧ Q14rn Z a1 p2 a3 a4 p5 a6 a7 a8 p9 a10 a11 p12 a13 u15 u20 u26 u32 u38 u44 u50 u56 u62 u68 u74 u80 u86 u92 u98 h0 n0 v U'.heap L ∧ FrameEnd U o U' L ({ frames := 2, cells := 0, slots := 0, locals := 24 } : Room).cells ({ frames := 2, cells := 0, slots := 0, locals := 24 } : Room).slots) := by
  refine MetFree.of_bodySF (plainFor_of_name pnc_com_example_mirante_mirante_FieldDef) hisR ?_
  intro p e s m args below meth c s₁ Bd hml0 hP hK
  obtain ⟨rfl, hZ, hh⟩ := hP
  have hx := Bd.exec
  have hby := Bd.bytes
  have hml : c.maxLocals = 16 := hml0
  have hown : s.vm.findClass "com/example/mirante/mirante/FieldDef" = some m.cls := findClass_of_methodNamed Bd.named
  have hnm := (name_of_methodNamed Bd.named Bd.method).1
  have X0 : Stand p l e ({ frames := 2, cells := 0, slots := 0, locals := 24 } : Room) s m #[(.ref a1), (.int p2), (.ref a3), (.ref a4), .null, (.int p5), (.ref a6), .null, .null, (.ref a7), (.ref a8), (.int p9), (.ref a10), (.ref a11), (.int p12), (.ref a13)] below meth c s₁ [] 0 0 := Stand.of_body Bd
  have e0 : s₁.heap = h0 := by rw [← hh, Bd.state]; rfl
  have N0 := Fr.nil n0
  have Z0 : n0 ≤ h0.size := O0.1 ▸ O0.2.1
  have pre0 : ∀ t, Steps p.tables e below (s₁.setTop (mkF m 0 #[.val (.ref a1), .val (.int p2), .val (.ref a3), .val (.ref a4), .val .null, .val (.int p5), .val (.ref a6), .val .null, .val .null, .val (.ref a7), .val (.ref a8), .val (.int p9), .val (.ref a10), .val (.ref a11), .val (.int p12), .val (.ref a13)] [])) t → Steps p.tables e below (s₁.setTop (entryFrame m #[(.ref a1), (.int p2), (.ref a3), (.ref a4), .null, (.int p5), (.ref a6), .null, .null, (.ref a7), (.ref a8), (.int p9), (.ref a10), (.ref a11), (.int p12), (.ref a13)] 16)) t := fun t k => castTop (ef_14aaaanaannaaaaaaa m a1 p2 a3 a4 p5 a6 a7 a8 p9 a10 a11 p12 a13) k
  obtain ⟨vr14, _, ⟨T14, L14, k14, n14⟩, -, X14, ⟨Lc14, hQ14, l14, y14, z14⟩, st14⟩ := X0.specialBack hx (y := (⟨"java/lang/Record", "<init>", "()V"⟩ : MethodName)) rfl hown (mvT hZ (hw _ (List.mem_of_getElem? (i := 96) rfl))) (mvT hZ (hw _ (List.mem_of_getElem? (i := 97) rfl))) (mvT hZ (hw _ (List.mem_of_getElem? (i := 100) rfl))) (by decide) (backOf (W := 0) (rm15 l Z a0 hw [] a1 h0 n0 O0) hZ (hw _ (List.mem_of_getElem? (i := 100) rfl)) (hw _ (List.mem_of_getElem? (i := 99) rfl)) (by decide) (by decide)) (g := (mkF m 1 #[.val (.ref a1), .val (.int p2), .val (.ref a3), .val (.ref a4), .val .null, .val (.int p5), .val (.ref a6), .val .null, .val .null, .val (.ref a7), .val (.ref a8), .val (.int p9), .val (.ref a10), .val (.ref a11), .val (.int p12), .val (.ref a13)] [(.ref a1)])) rfl (by rw [hml]; rfl) (Steps.refl _) (a := a1) (argsL := []) (rest := []) (lenOf pd_0 rfl) rfl (by show 2 * 0 + _ ≤ _; exact Nat.le_of_eq rfl) (hb hby d14_1) (fun _ _ => ⟨rfl, e0, (by decide : 0 + 0 ≤ _), (by decide : 0 + 0 ≤ _)⟩)
  dsimp only [Pt.U, Pt.locs, Pt.cells, Pt.slots] at X14 l14 y14 z14 st14 hQ14
  subst l14 y14 z14
  obtain ⟨rfl, N14q, e14⟩ := hQ14
  have N14 := Fr.app N0 N14q
  replace X14 := X14.more (cells' := 0) (slots' := 0) (by decide) (by decide)
  obtain ⟨T16, h16, X16, e16, W16, st16⟩ := putF X14 hx hZ hown (host := "") (Or.inl (hw _ (List.mem_of_getElem? (i := 102) rfl))) Via.refl e14 HF_a1_tag HE_a1 (Or.inr ⟨(hw _ (List.mem_of_getElem? (i := 103) rfl)), rfl, hnm⟩) (hw _ (List.mem_of_getElem? (i := 88) rfl)) (ty := .int) (by decide) rfl rfl (g := (mkF m 6 #[.val (.ref a1), .val (.int p2), .val (.ref a3), .val (.ref a4), .val .null, .val (.int p5), .val (.ref a6), .val .null, .val .null, .val (.ref a7), .val (.ref a8), .val (.int p9), .val (.ref a10), .val (.ref a11), .val (.int p12), .val (.ref a13)] [(.int p2), (.ref a1)])) rfl rfl (hb hby d14_6)
  have N16 := Fr.snoc X16 N14 g_a1
  have K17 : Keep h0 h16 [a1] := (Keep.refl h0 [a1]).wr W16 (Or.inl (List.mem_of_getElem? (i := 0) rfl))
  have O18 : Old Z n0 h16 := O0.wr W16 g_a1
  have Fw16 : Fld Z h16 a1 "com/example/mirante/mirante/FieldDef" "tag" "I" (.int p2) := HF_a1_tag.same W16
  have f19 := (HE_a1.wr W16)
  have f21 := (HF_a1_name.other W16 (Or.inr (slot_ne (Or.inr (hw _ (List.mem_of_getElem? (i := 105) rfl))) (Or.inr (hw _ (List.mem_of_getElem? (i := 103) rfl))) (by decide) (t := (.object "java/lang/String")) (t' := .int) (by decide) (by decide))))
  obtain ⟨T22, h22, X22, e22, W22, st22⟩ := putF X16 hx hZ hown (host := "") (Or.inl (hw _ (List.mem_of_getElem? (i := 104) rfl))) Via.refl e16 f21 f19 (Or.inr ⟨(hw _ (List.mem_of_getElem? (i := 105) rfl)), rfl, hnm⟩) (hw _ (List.mem_of_getElem? (i := 88) rfl)) (ty := (.object "java/lang/String")) (by decide) rfl rfl (g := (mkF m 11 #[.val (.ref a1), .val (.int p2), .val (.ref a3), .val (.ref a4), .val .null, .val (.int p5), .val (.ref a6), .val .null, .val .null, .val (.ref a7), .val (.ref a8), .val (.int p9), .val (.ref a10), .val (.ref a11), .val (.int p12), .val (.ref a13)] [(.ref a3), (.ref a1)])) rfl rfl (hb hby d14_11)
  have N22 := Fr.snoc X22 N16 g_a1
  have K23 : Keep h0 h22 [a1] := K17.wr W22 (Or.inl (List.mem_of_getElem? (i := 0) rfl))
  have O24 : Old Z n0 h22 := O18.wr W22 g_a1
  have Fw22 : Fld Z h22 a1 "com/example/mirante/mirante/FieldDef" "name" "Ljava/lang/String;" (.ref a3) := f21.same W22
  have f25 := (f19.wr W22)
  have f27 := ((HF_a1_type.other W16 (Or.inr (slot_ne (Or.inr (hw _ (List.mem_of_getElem? (i := 107) rfl))) (Or.inr (hw _ (List.mem_of_getElem? (i := 103) rfl))) (by decide) (t := (.object "java/lang/String")) (t' := .int) (by decide) (by decide)))).other W22 (Or.inr (slot_ne (Or.inr (hw _ (List.mem_of_getElem? (i := 107) rfl))) (Or.inr (hw _ (List.mem_of_getElem? (i := 105) rfl))) (by decide) (t := (.object "java/lang/String")) (t' := (.object "java/lang/String")) (by decide) (by decide))))
  obtain ⟨T28, h28, X28, e28, W28, st28⟩ := putF X22 hx hZ hown (host := "") (Or.inl (hw _ (List.mem_of_getElem? (i := 106) rfl))) Via.refl e22 f27 f25 (Or.inr ⟨(hw _ (List.mem_of_getElem? (i := 107) rfl)), rfl, hnm⟩) (hw _ (List.mem_of_getElem? (i := 88) rfl)) (ty := (.object "java/lang/String")) (by decide) rfl rfl (g := (mkF m 16 #[.val (.ref a1), .val (.int p2), .val (.ref a3), .val (.ref a4), .val .null, .val (.int p5), .val (.ref a6), .val .null, .val .null, .val (.ref a7), .val (.ref a8), .val (.int p9), .val (.ref a10), .val (.ref a11), .val (.int p12), .val (.ref a13)] [(.ref a4), (.ref a1)])) rfl rfl (hb hby d14_16)
  have N28 := Fr.snoc X28 N22 g_a1
  have K29 : Keep h0 h28 [a1] := K23.wr W28 (Or.inl (List.mem_of_getElem? (i := 0) rfl))
  have O30 : Old Z n0 h28 := O24.wr W28 g_a1
  have Fw28 : Fld Z h28 a1 "com/example/mirante/mirante/FieldDef" "type" "Ljava/lang/String;" (.ref a4) := f27.same W28
  have f31 := (f25.wr W28)
  have f33 := (((HF_a1_format.other W16 (Or.inr (slot_ne (Or.inr (hw _ (List.mem_of_getElem? (i := 109) rfl))) (Or.inr (hw _ (List.mem_of_getElem? (i := 103) rfl))) (by decide) (t := (.object "com/example/mirante/mirante/FieldFormat")) (t' := .int) (by decide) (by decide)))).other W22 (Or.inr (slot_ne (Or.inr (hw _ (List.mem_of_getElem? (i := 109) rfl))) (Or.inr (hw _ (List.mem_of_getElem? (i := 105) rfl))) (by decide) (t := (.object "com/example/mirante/mirante/FieldFormat")) (t' := (.object "java/lang/String")) (by decide) (by decide)))).other W28 (Or.inr (slot_ne (Or.inr (hw _ (List.mem_of_getElem? (i := 109) rfl))) (Or.inr (hw _ (List.mem_of_getElem? (i := 107) rfl))) (by decide) (t := (.object "com/example/mirante/mirante/FieldFormat")) (t' := (.object "java/lang/String")) (by decide) (by decide))))
  obtain ⟨T34, h34, X34, e34, W34, st34⟩ := putF X28 hx hZ hown (host := "") (Or.inl (hw _ (List.mem_of_getElem? (i := 108) rfl))) Via.refl e28 f33 f31 (Or.inr ⟨(hw _ (List.mem_of_getElem? (i := 109) rfl)), rfl, hnm⟩) (hw _ (List.mem_of_getElem? (i := 88) rfl)) (ty := (.object "com/example/mirante/mirante/FieldFormat")) (by decide) rfl rfl (g := (mkF m 22 #[.val (.ref a1), .val (.int p2), .val (.ref a3), .val (.ref a4), .val .null, .val (.int p5), .val (.ref a6), .val .null, .val .null, .val (.ref a7), .val (.ref a8), .val (.int p9), .val (.ref a10), .val (.ref a11), .val (.int p12), .val (.ref a13)] [.null, (.ref a1)])) rfl rfl (hb hby d14_22)
  have N34 := Fr.snoc X34 N28 g_a1
  have K35 : Keep h0 h34 [a1] := K29.wr W34 (Or.inl (List.mem_of_getElem? (i := 0) rfl))
  have O36 : Old Z n0 h34 := O30.wr W34 g_a1
  have Fw34 : Fld Z h34 a1 "com/example/mirante/mirante/FieldDef" "format" "Lcom/example/mirante/mirante/FieldFormat;" .null := f33.same W34
  have f37 := (f31.wr W34)
  have f39 := ((((HF_a1_maxLength.other W16 (Or.inr (slot_ne (Or.inr (hw _ (List.mem_of_getElem? (i := 111) rfl))) (Or.inr (hw _ (List.mem_of_getElem? (i := 103) rfl))) (by decide) (t := .int) (t' := .int) (by decide) (by decide)))).other W22 (Or.inr (slot_ne (Or.inr (hw _ (List.mem_of_getElem? (i := 111) rfl))) (Or.inr (hw _ (List.mem_of_getElem? (i := 105) rfl))) (by decide) (t := .int) (t' := (.object "java/lang/String")) (by decide) (by decide)))).other W28 (Or.inr (slot_ne (Or.inr (hw _ (List.mem_of_getElem? (i := 111) rfl))) (Or.inr (hw _ (List.mem_of_getElem? (i := 107) rfl))) (by decide) (t := .int) (t' := (.object "java/lang/String")) (by decide) (by decide)))).other W34 (Or.inr (slot_ne (Or.inr (hw _ (List.mem_of_getElem? (i := 111) rfl))) (Or.inr (hw _ (List.mem_of_getElem? (i := 109) rfl))) (by decide) (t := .int) (t' := (.object "com/example/mirante/mirante/FieldFormat")) (by decide) (by decide))))
  obtain ⟨T40, h40, X40, e40, W40, st40⟩ := putF X34 hx hZ hown (host := "") (Or.inl (hw _ (List.mem_of_getElem? (i := 110) rfl))) Via.refl e34 f39 f37 (Or.inr ⟨(hw _ (List.mem_of_getElem? (i := 111) rfl)), rfl, hnm⟩) (hw _ (List.mem_of_getElem? (i := 88) rfl)) (ty := .int) (by decide) rfl rfl (g := (mkF m 28 #[.val (.ref a1), .val (.int p2), .val (.ref a3), .val (.ref a4), .val .null, .val (.int p5), .val (.ref a6), .val .null, .val .null, .val (.ref a7), .val (.ref a8), .val (.int p9), .val (.ref a10), .val (.ref a11), .val (.int p12), .val (.ref a13)] [(.int p5), (.ref a1)])) rfl rfl (hb hby d14_28)
  have N40 := Fr.snoc X40 N34 g_a1
  have K41 : Keep h0 h40 [a1] := K35.wr W40 (Or.inl (List.mem_of_getElem? (i := 0) rfl))
  have O42 : Old Z n0 h40 := O36.wr W40 g_a1
  have Fw40 : Fld Z h40 a1 "com/example/mirante/mirante/FieldDef" "maxLength" "I" (.int p5) := f39.same W40
  have f43 := (f37.wr W40)
  have f45 := (((((HF_a1_presence.other W16 (Or.inr (slot_ne (Or.inr (hw _ (List.mem_of_getElem? (i := 113) rfl))) (Or.inr (hw _ (List.mem_of_getElem? (i := 103) rfl))) (by decide) (t := (.object "com/example/mirante/mirante/FieldDef$Presence")) (t' := .int) (by decide) (by decide)))).other W22 (Or.inr (slot_ne (Or.inr (hw _ (List.mem_of_getElem? (i := 113) rfl))) (Or.inr (hw _ (List.mem_of_getElem? (i := 105) rfl))) (by decide) (t := (.object "com/example/mirante/mirante/FieldDef$Presence")) (t' := (.object "java/lang/String")) (by decide) (by decide)))).other W28 (Or.inr (slot_ne (Or.inr (hw _ (List.mem_of_getElem? (i := 113) rfl))) (Or.inr (hw _ (List.mem_of_getElem? (i := 107) rfl))) (by decide) (t := (.object "com/example/mirante/mirante/FieldDef$Presence")) (t' := (.object "java/lang/String")) (by decide) (by decide)))).other W34 (Or.inr (slot_ne (Or.inr (hw _ (List.mem_of_getElem? (i := 113) rfl))) (Or.inr (hw _ (List.mem_of_getElem? (i := 109) rfl))) (by decide) (t := (.object "com/example/mirante/mirante/FieldDef$Presence")) (t' := (.object "com/example/mirante/mirante/FieldFormat")) (by decide) (by decide)))).other W40 (Or.inr (slot_ne (Or.inr (hw _ (List.mem_of_getElem? (i := 113) rfl))) (Or.inr (hw _ (List.mem_of_getElem? (i := 111) rfl))) (by decide) (t := (.object "com/example/mirante/mirante/FieldDef$Presence")) (t' := .int) (by decide) (by decide))))
  obtain ⟨T46, h46, X46, e46, W46, st46⟩ := putF X40 hx hZ hown (host := "") (Or.inl (hw _ (List.mem_of_getElem? (i := 112) rfl))) Via.refl e40 f45 f43 (Or.inr ⟨(hw _ (List.mem_of_getElem? (i := 113) rfl)), rfl, hnm⟩) (hw _ (List.mem_of_getElem? (i := 88) rfl)) (ty := (.object "com/example/mirante/mirante/FieldDef$Presence")) (by decide) rfl rfl (g := (mkF m 34 #[.val (.ref a1), .val (.int p2), .val (.ref a3), .val (.ref a4), .val .null, .val (.int p5), .val (.ref a6), .val .null, .val .null, .val (.ref a7), .val (.ref a8), .val (.int p9), .val (.ref a10), .val (.ref a11), .val (.int p12), .val (.ref a13)] [(.ref a6), (.ref a1)])) rfl rfl (hb hby d14_34)
  have N46 := Fr.snoc X46 N40 g_a1
  have K47 : Keep h0 h46 [a1] := K41.wr W46 (Or.inl (List.mem_of_getElem? (i := 0) rfl))
  have O48 : Old Z n0 h46 := O42.wr W46 g_a1
  have Fw46 : Fld Z h46 a1 "com/example/mirante/mirante/FieldDef" "presence" "Lcom/example/mirante/mirante/FieldDef$Presence;" (.ref a6) := f45.same W46
  have f49 := (f43.wr W46)
  have f51 := ((((((HF_a1_values.other W16 (Or.inr (slot_ne (Or.inr (hw _ (List.mem_of_getElem? (i := 115) rfl))) (Or.inr (hw _ (List.mem_of_getElem? (i := 103) rfl))) (by decide) (t := (.object "java/util/Map")) (t' := .int) (by decide) (by decide)))).other W22 (Or.inr (slot_ne (Or.inr (hw _ (List.mem_of_getElem? (i := 115) rfl))) (Or.inr (hw _ (List.mem_of_getElem? (i := 105) rfl))) (by decide) (t := (.object "java/util/Map")) (t' := (.object "java/lang/String")) (by decide) (by decide)))).other W28 (Or.inr (slot_ne (Or.inr (hw _ (List.mem_of_getElem? (i := 115) rfl))) (Or.inr (hw _ (List.mem_of_getElem? (i := 107) rfl))) (by decide) (t := (.object "java/util/Map")) (t' := (.object "java/lang/String")) (by decide) (by decide)))).other W34 (Or.inr (slot_ne (Or.inr (hw _ (List.mem_of_getElem? (i := 115) rfl))) (Or.inr (hw _ (List.mem_of_getElem? (i := 109) rfl))) (by decide) (t := (.object "java/util/Map")) (t' := (.object "com/example/mirante/mirante/FieldFormat")) (by decide) (by decide)))).other W40 (Or.inr (slot_ne (Or.inr (hw _ (List.mem_of_getElem? (i := 115) rfl))) (Or.inr (hw _ (List.mem_of_getElem? (i := 111) rfl))) (by decide) (t := (.object "java/util/Map")) (t' := .int) (by decide) (by decide)))).other W46 (Or.inr (slot_ne (Or.inr (hw _ (List.mem_of_getElem? (i := 115) rfl))) (Or.inr (hw _ (List.mem_of_getElem? (i := 113) rfl))) (by decide) (t := (.object "java/util/Map")) (t' := (.object "com/example/mirante/mirante/FieldDef$Presence")) (by decide) (by decide))))
  obtain ⟨T52, h52, X52, e52, W52, st52⟩ := putF X46 hx hZ hown (host := "") (Or.inl (hw _ (List.mem_of_getElem? (i := 114) rfl))) Via.refl e46 f51 f49 (Or.inr ⟨(hw _ (List.mem_of_getElem? (i := 115) rfl)), rfl, hnm⟩) (hw _ (List.mem_of_getElem? (i := 88) rfl)) (ty := (.object "java/util/Map")) (by decide) rfl rfl (g := (mkF m 40 #[.val (.ref a1), .val (.int p2), .val (.ref a3), .val (.ref a4), .val .null, .val (.int p5), .val (.ref a6), .val .null, .val .null, .val (.ref a7), .val (.ref a8), .val (.int p9), .val (.ref a10), .val (.ref a11), .val (.int p12), .val (.ref a13)] [.null, (.ref a1)])) rfl rfl (hb hby d14_40)
  have N52 := Fr.snoc X52 N46 g_a1
  have K53 : Keep h0 h52 [a1] := K47.wr W52 (Or.inl (List.mem_of_getElem? (i := 0) rfl))
  have O54 : Old Z n0 h52 := O48.wr W52 g_a1
  have Fw52 : Fld Z h52 a1 "com/example/mirante/mirante/FieldDef" "values" "Ljava/util/Map;" .null := f51.same W52
  have f55 := (f49.wr W52)
  have f57 := (((((((HF_a1_range.other W16 (Or.inr (slot_ne (Or.inr (hw _ (List.mem_of_getElem? (i := 117) rfl))) (Or.inr (hw _ (List.mem_of_getElem? (i := 103) rfl))) (by decide) (t := (.object "com/example/mirante/mirante/FieldDef$Range")) (t' := .int) (by decide) (by decide)))).other W22 (Or.inr (slot_ne (Or.inr (hw _ (List.mem_of_getElem? (i := 117) rfl))) (Or.inr (hw _ (List.mem_of_getElem? (i := 105) rfl))) (by decide) (t := (.object "com/example/mirante/mirante/FieldDef$Range")) (t' := (.object "java/lang/String")) (by decide) (by decide)))).other W28 (Or.inr (slot_ne (Or.inr (hw _ (List.mem_of_getElem? (i := 117) rfl))) (Or.inr (hw _ (List.mem_of_getElem? (i := 107) rfl))) (by decide) (t := (.object "com/example/mirante/mirante/FieldDef$Range")) (t' := (.object "java/lang/String")) (by decide) (by decide)))).other W34 (Or.inr (slot_ne (Or.inr (hw _ (List.mem_of_getElem? (i := 117) rfl))) (Or.inr (hw _ (List.mem_of_getElem? (i := 109) rfl))) (by decide) (t := (.object "com/example/mirante/mirante/FieldDef$Range")) (t' := (.object "com/example/mirante/mirante/FieldFormat")) (by decide) (by decide)))).other W40 (Or.inr (slot_ne (Or.inr (hw _ (List.mem_of_getElem? (i := 117) rfl))) (Or.inr (hw _ (List.mem_of_getElem? (i := 111) rfl))) (by decide) (t := (.object "com/example/mirante/mirante/FieldDef$Range")) (t' := .int) (by decide) (by decide)))).other W46 (Or.inr (slot_ne (Or.inr (hw _ (List.mem_of_getElem? (i := 117) rfl))) (Or.inr (hw _ (List.mem_of_getElem? (i := 113) rfl))) (by decide) (t := (.object "com/example/mirante/mirante/FieldDef$Range")) (t' := (.object "com/example/mirante/mirante/FieldDef$Presence")) (by decide) (by decide)))).other W52 (Or.inr (slot_ne (Or.inr (hw _ (List.mem_of_getElem? (i := 117) rfl))) (Or.inr (hw _ (List.mem_of_getElem? (i := 115) rfl))) (by decide) (t := (.object "com/example/mirante/mirante/FieldDef$Range")) (t' := (.object "java/util/Map")) (by decide) (by decide))))
  obtain ⟨T58, h58, X58, e58, W58, st58⟩ := putF X52 hx hZ hown (host := "") (Or.inl (hw _ (List.mem_of_getElem? (i := 116) rfl))) Via.refl e52 f57 f55 (Or.inr ⟨(hw _ (List.mem_of_getElem? (i := 117) rfl)), rfl, hnm⟩) (hw _ (List.mem_of_getElem? (i := 88) rfl)) (ty := (.object "com/example/mirante/mirante/FieldDef$Range")) (by decide) rfl rfl (g := (mkF m 46 #[.val (.ref a1), .val (.int p2), .val (.ref a3), .val (.ref a4), .val .null, .val (.int p5), .val (.ref a6), .val .null, .val .null, .val (.ref a7), .val (.ref a8), .val (.int p9), .val (.ref a10), .val (.ref a11), .val (.int p12), .val (.ref a13)] [.null, (.ref a1)])) rfl rfl (hb hby d14_46)
  have N58 := Fr.snoc X58 N52 g_a1
  have K59 : Keep h0 h58 [a1] := K53.wr W58 (Or.inl (List.mem_of_getElem? (i := 0) rfl))
  have O60 : Old Z n0 h58 := O54.wr W58 g_a1
  have Fw58 : Fld Z h58 a1 "com/example/mirante/mirante/FieldDef" "range" "Lcom/example/mirante/mirante/FieldDef$Range;" .null := f57.same W58
  have f61 := (f55.wr W58)
  have f63 := ((((((((HF_a1_rules.other W16 (Or.inr (slot_ne (Or.inr (hw _ (List.mem_of_getElem? (i := 119) rfl))) (Or.inr (hw _ (List.mem_of_getElem? (i := 103) rfl))) (by decide) (t := (.object "java/util/List")) (t' := .int) (by decide) (by decide)))).other W22 (Or.inr (slot_ne (Or.inr (hw _ (List.mem_of_getElem? (i := 119) rfl))) (Or.inr (hw _ (List.mem_of_getElem? (i := 105) rfl))) (by decide) (t := (.object "java/util/List")) (t' := (.object "java/lang/String")) (by decide) (by decide)))).other W28 (Or.inr (slot_ne (Or.inr (hw _ (List.mem_of_getElem? (i := 119) rfl))) (Or.inr (hw _ (List.mem_of_getElem? (i := 107) rfl))) (by decide) (t := (.object "java/util/List")) (t' := (.object "java/lang/String")) (by decide) (by decide)))).other W34 (Or.inr (slot_ne (Or.inr (hw _ (List.mem_of_getElem? (i := 119) rfl))) (Or.inr (hw _ (List.mem_of_getElem? (i := 109) rfl))) (by decide) (t := (.object "java/util/List")) (t' := (.object "com/example/mirante/mirante/FieldFormat")) (by decide) (by decide)))).other W40 (Or.inr (slot_ne (Or.inr (hw _ (List.mem_of_getElem? (i := 119) rfl))) (Or.inr (hw _ (List.mem_of_getElem? (i := 111) rfl))) (by decide) (t := (.object "java/util/List")) (t' := .int) (by decide) (by decide)))).other W46 (Or.inr (slot_ne (Or.inr (hw _ (List.mem_of_getElem? (i := 119) rfl))) (Or.inr (hw _ (List.mem_of_getElem? (i := 113) rfl))) (by decide) (t := (.object "java/util/List")) (t' := (.object "com/example/mirante/mirante/FieldDef$Presence")) (by decide) (by decide)))).other W52 (Or.inr (slot_ne (Or.inr (hw _ (List.mem_of_getElem? (i := 119) rfl))) (Or.inr (hw _ (List.mem_of_getElem? (i := 115) rfl))) (by decide) (t := (.object "java/util/List")) (t' := (.object "java/util/Map")) (by decide) (by decide)))).other W58 (Or.inr (slot_ne (Or.inr (hw _ (List.mem_of_getElem? (i := 119) rfl))) (Or.inr (hw _ (List.mem_of_getElem? (i := 117) rfl))) (by decide) (t := (.object "java/util/List")) (t' := (.object "com/example/mirante/mirante/FieldDef$Range")) (by decide) (by decide))))
  obtain ⟨T64, h64, X64, e64, W64, st64⟩ := putF X58 hx hZ hown (host := "") (Or.inl (hw _ (List.mem_of_getElem? (i := 118) rfl))) Via.refl e58 f63 f61 (Or.inr ⟨(hw _ (List.mem_of_getElem? (i := 119) rfl)), rfl, hnm⟩) (hw _ (List.mem_of_getElem? (i := 88) rfl)) (ty := (.object "java/util/List")) (by decide) rfl rfl (g := (mkF m 52 #[.val (.ref a1), .val (.int p2), .val (.ref a3), .val (.ref a4), .val .null, .val (.int p5), .val (.ref a6), .val .null, .val .null, .val (.ref a7), .val (.ref a8), .val (.int p9), .val (.ref a10), .val (.ref a11), .val (.int p12), .val (.ref a13)] [(.ref a7), (.ref a1)])) rfl rfl (hb hby d14_52)
  have N64 := Fr.snoc X64 N58 g_a1
  have K65 : Keep h0 h64 [a1] := K59.wr W64 (Or.inl (List.mem_of_getElem? (i := 0) rfl))
  have O66 : Old Z n0 h64 := O60.wr W64 g_a1
  have Fw64 : Fld Z h64 a1 "com/example/mirante/mirante/FieldDef" "rules" "Ljava/util/List;" (.ref a7) := f63.same W64
  have f67 := (f61.wr W64)
  have f69 := (((((((((HF_a1_conditions.other W16 (Or.inr (slot_ne (Or.inr (hw _ (List.mem_of_getElem? (i := 121) rfl))) (Or.inr (hw _ (List.mem_of_getElem? (i := 103) rfl))) (by decide) (t := (.object "java/util/List")) (t' := .int) (by decide) (by decide)))).other W22 (Or.inr (slot_ne (Or.inr (hw _ (List.mem_of_getElem? (i := 121) rfl))) (Or.inr (hw _ (List.mem_of_getElem? (i := 105) rfl))) (by decide) (t := (.object "java/util/List")) (t' := (.object "java/lang/String")) (by decide) (by decide)))).other W28 (Or.inr (slot_ne (Or.inr (hw _ (List.mem_of_getElem? (i := 121) rfl))) (Or.inr (hw _ (List.mem_of_getElem? (i := 107) rfl))) (by decide) (t := (.object "java/util/List")) (t' := (.object "java/lang/String")) (by decide) (by decide)))).other W34 (Or.inr (slot_ne (Or.inr (hw _ (List.mem_of_getElem? (i := 121) rfl))) (Or.inr (hw _ (List.mem_of_getElem? (i := 109) rfl))) (by decide) (t := (.object "java/util/List")) (t' := (.object "com/example/mirante/mirante/FieldFormat")) (by decide) (by decide)))).other W40 (Or.inr (slot_ne (Or.inr (hw _ (List.mem_of_getElem? (i := 121) rfl))) (Or.inr (hw _ (List.mem_of_getElem? (i := 111) rfl))) (by decide) (t := (.object "java/util/List")) (t' := .int) (by decide) (by decide)))).other W46 (Or.inr (slot_ne (Or.inr (hw _ (List.mem_of_getElem? (i := 121) rfl))) (Or.inr (hw _ (List.mem_of_getElem? (i := 113) rfl))) (by decide) (t := (.object "java/util/List")) (t' := (.object "com/example/mirante/mirante/FieldDef$Presence")) (by decide) (by decide)))).other W52 (Or.inr (slot_ne (Or.inr (hw _ (List.mem_of_getElem? (i := 121) rfl))) (Or.inr (hw _ (List.mem_of_getElem? (i := 115) rfl))) (by decide) (t := (.object "java/util/List")) (t' := (.object "java/util/Map")) (by decide) (by decide)))).other W58 (Or.inr (slot_ne (Or.inr (hw _ (List.mem_of_getElem? (i := 121) rfl))) (Or.inr (hw _ (List.mem_of_getElem? (i := 117) rfl))) (by decide) (t := (.object "java/util/List")) (t' := (.object "com/example/mirante/mirante/FieldDef$Range")) (by decide) (by decide)))).other W64 (Or.inr (slot_ne (Or.inr (hw _ (List.mem_of_getElem? (i := 121) rfl))) (Or.inr (hw _ (List.mem_of_getElem? (i := 119) rfl))) (by decide) (t := (.object "java/util/List")) (t' := (.object "java/util/List")) (by decide) (by decide))))
  obtain ⟨T70, h70, X70, e70, W70, st70⟩ := putF X64 hx hZ hown (host := "") (Or.inl (hw _ (List.mem_of_getElem? (i := 120) rfl))) Via.refl e64 f69 f67 (Or.inr ⟨(hw _ (List.mem_of_getElem? (i := 121) rfl)), rfl, hnm⟩) (hw _ (List.mem_of_getElem? (i := 88) rfl)) (ty := (.object "java/util/List")) (by decide) rfl rfl (g := (mkF m 58 #[.val (.ref a1), .val (.int p2), .val (.ref a3), .val (.ref a4), .val .null, .val (.int p5), .val (.ref a6), .val .null, .val .null, .val (.ref a7), .val (.ref a8), .val (.int p9), .val (.ref a10), .val (.ref a11), .val (.int p12), .val (.ref a13)] [(.ref a8), (.ref a1)])) rfl rfl (hb hby d14_58)
  have N70 := Fr.snoc X70 N64 g_a1
  have K71 : Keep h0 h70 [a1] := K65.wr W70 (Or.inl (List.mem_of_getElem? (i := 0) rfl))
  have O72 : Old Z n0 h70 := O66.wr W70 g_a1
  have Fw70 : Fld Z h70 a1 "com/example/mirante/mirante/FieldDef" "conditions" "Ljava/util/List;" (.ref a8) := f69.same W70
  have f73 := (f67.wr W70)
  have f75 := ((((((((((HF_a1_count.other W16 (Or.inr (slot_ne (Or.inr (hw _ (List.mem_of_getElem? (i := 123) rfl))) (Or.inr (hw _ (List.mem_of_getElem? (i := 103) rfl))) (by decide) (t := .int) (t' := .int) (by decide) (by decide)))).other W22 (Or.inr (slot_ne (Or.inr (hw _ (List.mem_of_getElem? (i := 123) rfl))) (Or.inr (hw _ (List.mem_of_getElem? (i := 105) rfl))) (by decide) (t := .int) (t' := (.object "java/lang/String")) (by decide) (by decide)))).other W28 (Or.inr (slot_ne (Or.inr (hw _ (List.mem_of_getElem? (i := 123) rfl))) (Or.inr (hw _ (List.mem_of_getElem? (i := 107) rfl))) (by decide) (t := .int) (t' := (.object "java/lang/String")) (by decide) (by decide)))).other W34 (Or.inr (slot_ne (Or.inr (hw _ (List.mem_of_getElem? (i := 123) rfl))) (Or.inr (hw _ (List.mem_of_getElem? (i := 109) rfl))) (by decide) (t := .int) (t' := (.object "com/example/mirante/mirante/FieldFormat")) (by decide) (by decide)))).other W40 (Or.inr (slot_ne (Or.inr (hw _ (List.mem_of_getElem? (i := 123) rfl))) (Or.inr (hw _ (List.mem_of_getElem? (i := 111) rfl))) (by decide) (t := .int) (t' := .int) (by decide) (by decide)))).other W46 (Or.inr (slot_ne (Or.inr (hw _ (List.mem_of_getElem? (i := 123) rfl))) (Or.inr (hw _ (List.mem_of_getElem? (i := 113) rfl))) (by decide) (t := .int) (t' := (.object "com/example/mirante/mirante/FieldDef$Presence")) (by decide) (by decide)))).other W52 (Or.inr (slot_ne (Or.inr (hw _ (List.mem_of_getElem? (i := 123) rfl))) (Or.inr (hw _ (List.mem_of_getElem? (i := 115) rfl))) (by decide) (t := .int) (t' := (.object "java/util/Map")) (by decide) (by decide)))).other W58 (Or.inr (slot_ne (Or.inr (hw _ (List.mem_of_getElem? (i := 123) rfl))) (Or.inr (hw _ (List.mem_of_getElem? (i := 117) rfl))) (by decide) (t := .int) (t' := (.object "com/example/mirante/mirante/FieldDef$Range")) (by decide) (by decide)))).other W64 (Or.inr (slot_ne (Or.inr (hw _ (List.mem_of_getElem? (i := 123) rfl))) (Or.inr (hw _ (List.mem_of_getElem? (i := 119) rfl))) (by decide) (t := .int) (t' := (.object "java/util/List")) (by decide) (by decide)))).other W70 (Or.inr (slot_ne (Or.inr (hw _ (List.mem_of_getElem? (i := 123) rfl))) (Or.inr (hw _ (List.mem_of_getElem? (i := 121) rfl))) (by decide) (t := .int) (t' := (.object "java/util/List")) (by decide) (by decide))))
  obtain ⟨T76, h76, X76, e76, W76, st76⟩ := putF X70 hx hZ hown (host := "") (Or.inl (hw _ (List.mem_of_getElem? (i := 122) rfl))) Via.refl e70 f75 f73 (Or.inr ⟨(hw _ (List.mem_of_getElem? (i := 123) rfl)), rfl, hnm⟩) (hw _ (List.mem_of_getElem? (i := 88) rfl)) (ty := .int) (by decide) rfl rfl (g := (mkF m 64 #[.val (.ref a1), .val (.int p2), .val (.ref a3), .val (.ref a4), .val .null, .val (.int p5), .val (.ref a6), .val .null, .val .null, .val (.ref a7), .val (.ref a8), .val (.int p9), .val (.ref a10), .val (.ref a11), .val (.int p12), .val (.ref a13)] [(.int p9), (.ref a1)])) rfl rfl (hb hby d14_64)
  have N76 := Fr.snoc X76 N70 g_a1
  have K77 : Keep h0 h76 [a1] := K71.wr W76 (Or.inl (List.mem_of_getElem? (i := 0) rfl))
  have O78 : Old Z n0 h76 := O72.wr W76 g_a1
  have Fw76 : Fld Z h76 a1 "com/example/mirante/mirante/FieldDef" "count" "I" (.int p9) := f75.same W76
  have f79 := (f73.wr W76)
  have f81 := (((((((((((HF_a1_anyPresent.other W16 (Or.inr (slot_ne (Or.inr (hw _ (List.mem_of_getElem? (i := 125) rfl))) (Or.inr (hw _ (List.mem_of_getElem? (i := 103) rfl))) (by decide) (t := (.object "java/util/List")) (t' := .int) (by decide) (by decide)))).other W22 (Or.inr (slot_ne (Or.inr (hw _ (List.mem_of_getElem? (i := 125) rfl))) (Or.inr (hw _ (List.mem_of_getElem? (i := 105) rfl))) (by decide) (t := (.object "java/util/List")) (t' := (.object "java/lang/String")) (by decide) (by decide)))).other W28 (Or.inr (slot_ne (Or.inr (hw _ (List.mem_of_getElem? (i := 125) rfl))) (Or.inr (hw _ (List.mem_of_getElem? (i := 107) rfl))) (by decide) (t := (.object "java/util/List")) (t' := (.object "java/lang/String")) (by decide) (by decide)))).other W34 (Or.inr (slot_ne (Or.inr (hw _ (List.mem_of_getElem? (i := 125) rfl))) (Or.inr (hw _ (List.mem_of_getElem? (i := 109) rfl))) (by decide) (t := (.object "java/util/List")) (t' := (.object "com/example/mirante/mirante/FieldFormat")) (by decide) (by decide)))).other W40 (Or.inr (slot_ne (Or.inr (hw _ (List.mem_of_getElem? (i := 125) rfl))) (Or.inr (hw _ (List.mem_of_getElem? (i := 111) rfl))) (by decide) (t := (.object "java/util/List")) (t' := .int) (by decide) (by decide)))).other W46 (Or.inr (slot_ne (Or.inr (hw _ (List.mem_of_getElem? (i := 125) rfl))) (Or.inr (hw _ (List.mem_of_getElem? (i := 113) rfl))) (by decide) (t := (.object "java/util/List")) (t' := (.object "com/example/mirante/mirante/FieldDef$Presence")) (by decide) (by decide)))).other W52 (Or.inr (slot_ne (Or.inr (hw _ (List.mem_of_getElem? (i := 125) rfl))) (Or.inr (hw _ (List.mem_of_getElem? (i := 115) rfl))) (by decide) (t := (.object "java/util/List")) (t' := (.object "java/util/Map")) (by decide) (by decide)))).other W58 (Or.inr (slot_ne (Or.inr (hw _ (List.mem_of_getElem? (i := 125) rfl))) (Or.inr (hw _ (List.mem_of_getElem? (i := 117) rfl))) (by decide) (t := (.object "java/util/List")) (t' := (.object "com/example/mirante/mirante/FieldDef$Range")) (by decide) (by decide)))).other W64 (Or.inr (slot_ne (Or.inr (hw _ (List.mem_of_getElem? (i := 125) rfl))) (Or.inr (hw _ (List.mem_of_getElem? (i := 119) rfl))) (by decide) (t := (.object "java/util/List")) (t' := (.object "java/util/List")) (by decide) (by decide)))).other W70 (Or.inr (slot_ne (Or.inr (hw _ (List.mem_of_getElem? (i := 125) rfl))) (Or.inr (hw _ (List.mem_of_getElem? (i := 121) rfl))) (by decide) (t := (.object "java/util/List")) (t' := (.object "java/util/List")) (by decide) (by decide)))).other W76 (Or.inr (slot_ne (Or.inr (hw _ (List.mem_of_getElem? (i := 125) rfl))) (Or.inr (hw _ (List.mem_of_getElem? (i := 123) rfl))) (by decide) (t := (.object "java/util/List")) (t' := .int) (by decide) (by decide))))
  obtain ⟨T82, h82, X82, e82, W82, st82⟩ := putF X76 hx hZ hown (host := "") (Or.inl (hw _ (List.mem_of_getElem? (i := 124) rfl))) Via.refl e76 f81 f79 (Or.inr ⟨(hw _ (List.mem_of_getElem? (i := 125) rfl)), rfl, hnm⟩) (hw _ (List.mem_of_getElem? (i := 88) rfl)) (ty := (.object "java/util/List")) (by decide) rfl rfl (g := (mkF m 70 #[.val (.ref a1), .val (.int p2), .val (.ref a3), .val (.ref a4), .val .null, .val (.int p5), .val (.ref a6), .val .null, .val .null, .val (.ref a7), .val (.ref a8), .val (.int p9), .val (.ref a10), .val (.ref a11), .val (.int p12), .val (.ref a13)] [(.ref a10), (.ref a1)])) rfl rfl (hb hby d14_70)
  have N82 := Fr.snoc X82 N76 g_a1
  have K83 : Keep h0 h82 [a1] := K77.wr W82 (Or.inl (List.mem_of_getElem? (i := 0) rfl))
  have O84 : Old Z n0 h82 := O78.wr W82 g_a1
  have Fw82 : Fld Z h82 a1 "com/example/mirante/mirante/FieldDef" "anyPresent" "Ljava/util/List;" (.ref a10) := f81.same W82
  have f85 := (f79.wr W82)
  have f87 := ((((((((((((HF_a1_before.other W16 (Or.inr (slot_ne (Or.inr (hw _ (List.mem_of_getElem? (i := 127) rfl))) (Or.inr (hw _ (List.mem_of_getElem? (i := 103) rfl))) (by decide) (t := (.object "java/util/List")) (t' := .int) (by decide) (by decide)))).other W22 (Or.inr (slot_ne (Or.inr (hw _ (List.mem_of_getElem? (i := 127) rfl))) (Or.inr (hw _ (List.mem_of_getElem? (i := 105) rfl))) (by decide) (t := (.object "java/util/List")) (t' := (.object "java/lang/String")) (by decide) (by decide)))).other W28 (Or.inr (slot_ne (Or.inr (hw _ (List.mem_of_getElem? (i := 127) rfl))) (Or.inr (hw _ (List.mem_of_getElem? (i := 107) rfl))) (by decide) (t := (.object "java/util/List")) (t' := (.object "java/lang/String")) (by decide) (by decide)))).other W34 (Or.inr (slot_ne (Or.inr (hw _ (List.mem_of_getElem? (i := 127) rfl))) (Or.inr (hw _ (List.mem_of_getElem? (i := 109) rfl))) (by decide) (t := (.object "java/util/List")) (t' := (.object "com/example/mirante/mirante/FieldFormat")) (by decide) (by decide)))).other W40 (Or.inr (slot_ne (Or.inr (hw _ (List.mem_of_getElem? (i := 127) rfl))) (Or.inr (hw _ (List.mem_of_getElem? (i := 111) rfl))) (by decide) (t := (.object "java/util/List")) (t' := .int) (by decide) (by decide)))).other W46 (Or.inr (slot_ne (Or.inr (hw _ (List.mem_of_getElem? (i := 127) rfl))) (Or.inr (hw _ (List.mem_of_getElem? (i := 113) rfl))) (by decide) (t := (.object "java/util/List")) (t' := (.object "com/example/mirante/mirante/FieldDef$Presence")) (by decide) (by decide)))).other W52 (Or.inr (slot_ne (Or.inr (hw _ (List.mem_of_getElem? (i := 127) rfl))) (Or.inr (hw _ (List.mem_of_getElem? (i := 115) rfl))) (by decide) (t := (.object "java/util/List")) (t' := (.object "java/util/Map")) (by decide) (by decide)))).other W58 (Or.inr (slot_ne (Or.inr (hw _ (List.mem_of_getElem? (i := 127) rfl))) (Or.inr (hw _ (List.mem_of_getElem? (i := 117) rfl))) (by decide) (t := (.object "java/util/List")) (t' := (.object "com/example/mirante/mirante/FieldDef$Range")) (by decide) (by decide)))).other W64 (Or.inr (slot_ne (Or.inr (hw _ (List.mem_of_getElem? (i := 127) rfl))) (Or.inr (hw _ (List.mem_of_getElem? (i := 119) rfl))) (by decide) (t := (.object "java/util/List")) (t' := (.object "java/util/List")) (by decide) (by decide)))).other W70 (Or.inr (slot_ne (Or.inr (hw _ (List.mem_of_getElem? (i := 127) rfl))) (Or.inr (hw _ (List.mem_of_getElem? (i := 121) rfl))) (by decide) (t := (.object "java/util/List")) (t' := (.object "java/util/List")) (by decide) (by decide)))).other W76 (Or.inr (slot_ne (Or.inr (hw _ (List.mem_of_getElem? (i := 127) rfl))) (Or.inr (hw _ (List.mem_of_getElem? (i := 123) rfl))) (by decide) (t := (.object "java/util/List")) (t' := .int) (by decide) (by decide)))).other W82 (Or.inr (slot_ne (Or.inr (hw _ (List.mem_of_getElem? (i := 127) rfl))) (Or.inr (hw _ (List.mem_of_getElem? (i := 125) rfl))) (by decide) (t := (.object "java/util/List")) (t' := (.object "java/util/List")) (by decide) (by decide))))
  obtain ⟨T88, h88, X88, e88, W88, st88⟩ := putF X82 hx hZ hown (host := "") (Or.inl (hw _ (List.mem_of_getElem? (i := 126) rfl))) Via.refl e82 f87 f85 (Or.inr ⟨(hw _ (List.mem_of_getElem? (i := 127) rfl)), rfl, hnm⟩) (hw _ (List.mem_of_getElem? (i := 88) rfl)) (ty := (.object "java/util/List")) (by decide) rfl rfl (g := (mkF m 76 #[.val (.ref a1), .val (.int p2), .val (.ref a3), .val (.ref a4), .val .null, .val (.int p5), .val (.ref a6), .val .null, .val .null, .val (.ref a7), .val (.ref a8), .val (.int p9), .val (.ref a10), .val (.ref a11), .val (.int p12), .val (.ref a13)] [(.ref a11), (.ref a1)])) rfl rfl (hb hby d14_76)
  have N88 := Fr.snoc X88 N82 g_a1
  have K89 : Keep h0 h88 [a1] := K83.wr W88 (Or.inl (List.mem_of_getElem? (i := 0) rfl))
  have O90 : Old Z n0 h88 := O84.wr W88 g_a1
  have Fw88 : Fld Z h88 a1 "com/example/mirante/mirante/FieldDef" "before" "Ljava/util/List;" (.ref a11) := f87.same W88
  have f91 := (f85.wr W88)
  have f93 := (((((((((((((HF_a1_lengthOf.other W16 (Or.inr (slot_ne (Or.inr (hw _ (List.mem_of_getElem? (i := 129) rfl))) (Or.inr (hw _ (List.mem_of_getElem? (i := 103) rfl))) (by decide) (t := .int) (t' := .int) (by decide) (by decide)))).other W22 (Or.inr (slot_ne (Or.inr (hw _ (List.mem_of_getElem? (i := 129) rfl))) (Or.inr (hw _ (List.mem_of_getElem? (i := 105) rfl))) (by decide) (t := .int) (t' := (.object "java/lang/String")) (by decide) (by decide)))).other W28 (Or.inr (slot_ne (Or.inr (hw _ (List.mem_of_getElem? (i := 129) rfl))) (Or.inr (hw _ (List.mem_of_getElem? (i := 107) rfl))) (by decide) (t := .int) (t' := (.object "java/lang/String")) (by decide) (by decide)))).other W34 (Or.inr (slot_ne (Or.inr (hw _ (List.mem_of_getElem? (i := 129) rfl))) (Or.inr (hw _ (List.mem_of_getElem? (i := 109) rfl))) (by decide) (t := .int) (t' := (.object "com/example/mirante/mirante/FieldFormat")) (by decide) (by decide)))).other W40 (Or.inr (slot_ne (Or.inr (hw _ (List.mem_of_getElem? (i := 129) rfl))) (Or.inr (hw _ (List.mem_of_getElem? (i := 111) rfl))) (by decide) (t := .int) (t' := .int) (by decide) (by decide)))).other W46 (Or.inr (slot_ne (Or.inr (hw _ (List.mem_of_getElem? (i := 129) rfl))) (Or.inr (hw _ (List.mem_of_getElem? (i := 113) rfl))) (by decide) (t := .int) (t' := (.object "com/example/mirante/mirante/FieldDef$Presence")) (by decide) (by decide)))).other W52 (Or.inr (slot_ne (Or.inr (hw _ (List.mem_of_getElem? (i := 129) rfl))) (Or.inr (hw _ (List.mem_of_getElem? (i := 115) rfl))) (by decide) (t := .int) (t' := (.object "java/util/Map")) (by decide) (by decide)))).other W58 (Or.inr (slot_ne (Or.inr (hw _ (List.mem_of_getElem? (i := 129) rfl))) (Or.inr (hw _ (List.mem_of_getElem? (i := 117) rfl))) (by decide) (t := .int) (t' := (.object "com/example/mirante/mirante/FieldDef$Range")) (by decide) (by decide)))).other W64 (Or.inr (slot_ne (Or.inr (hw _ (List.mem_of_getElem? (i := 129) rfl))) (Or.inr (hw _ (List.mem_of_getElem? (i := 119) rfl))) (by decide) (t := .int) (t' := (.object "java/util/List")) (by decide) (by decide)))).other W70 (Or.inr (slot_ne (Or.inr (hw _ (List.mem_of_getElem? (i := 129) rfl))) (Or.inr (hw _ (List.mem_of_getElem? (i := 121) rfl))) (by decide) (t := .int) (t' := (.object "java/util/List")) (by decide) (by decide)))).other W76 (Or.inr (slot_ne (Or.inr (hw _ (List.mem_of_getElem? (i := 129) rfl))) (Or.inr (hw _ (List.mem_of_getElem? (i := 123) rfl))) (by decide) (t := .int) (t' := .int) (by decide) (by decide)))).other W82 (Or.inr (slot_ne (Or.inr (hw _ (List.mem_of_getElem? (i := 129) rfl))) (Or.inr (hw _ (List.mem_of_getElem? (i := 125) rfl))) (by decide) (t := .int) (t' := (.object "java/util/List")) (by decide) (by decide)))).other W88 (Or.inr (slot_ne (Or.inr (hw _ (List.mem_of_getElem? (i := 129) rfl))) (Or.inr (hw _ (List.mem_of_getElem? (i := 127) rfl))) (by decide) (t := .int) (t' := (.object "java/util/List")) (by decide) (by decide))))
  obtain ⟨T94, h94, X94, e94, W94, st94⟩ := putF X88 hx hZ hown (host := "") (Or.inl (hw _ (List.mem_of_getElem? (i := 128) rfl))) Via.refl e88 f93 f91 (Or.inr ⟨(hw _ (List.mem_of_getElem? (i := 129) rfl)), rfl, hnm⟩) (hw _ (List.mem_of_getElem? (i := 88) rfl)) (ty := .int) (by decide) rfl rfl (g := (mkF m 82 #[.val (.ref a1), .val (.int p2), .val (.ref a3), .val (.ref a4), .val .null, .val (.int p5), .val (.ref a6), .val .null, .val .null, .val (.ref a7), .val (.ref a8), .val (.int p9), .val (.ref a10), .val (.ref a11), .val (.int p12), .val (.ref a13)] [(.int p12), (.ref a1)])) rfl rfl (hb hby d14_82)
  have N94 := Fr.snoc X94 N88 g_a1
  have K95 : Keep h0 h94 [a1] := K89.wr W94 (Or.inl (List.mem_of_getElem? (i := 0) rfl))
  have O96 : Old Z n0 h94 := O90.wr W94 g_a1
  have Fw94 : Fld Z h94 a1 "com/example/mirante/mirante/FieldDef" "lengthOf" "I" (.int p12) := f93.same W94
  have f97 := (f91.wr W94)
  have f99 := ((((((((((((((HF_a1_members.other W16 (Or.inr (slot_ne (Or.inr (hw _ (List.mem_of_getElem? (i := 131) rfl))) (Or.inr (hw _ (List.mem_of_getElem? (i := 103) rfl))) (by decide) (t := (.object "java/util/List")) (t' := .int) (by decide) (by decide)))).other W22 (Or.inr (slot_ne (Or.inr (hw _ (List.mem_of_getElem? (i := 131) rfl))) (Or.inr (hw _ (List.mem_of_getElem? (i := 105) rfl))) (by decide) (t := (.object "java/util/List")) (t' := (.object "java/lang/String")) (by decide) (by decide)))).other W28 (Or.inr (slot_ne (Or.inr (hw _ (List.mem_of_getElem? (i := 131) rfl))) (Or.inr (hw _ (List.mem_of_getElem? (i := 107) rfl))) (by decide) (t := (.object "java/util/List")) (t' := (.object "java/lang/String")) (by decide) (by decide)))).other W34 (Or.inr (slot_ne (Or.inr (hw _ (List.mem_of_getElem? (i := 131) rfl))) (Or.inr (hw _ (List.mem_of_getElem? (i := 109) rfl))) (by decide) (t := (.object "java/util/List")) (t' := (.object "com/example/mirante/mirante/FieldFormat")) (by decide) (by decide)))).other W40 (Or.inr (slot_ne (Or.inr (hw _ (List.mem_of_getElem? (i := 131) rfl))) (Or.inr (hw _ (List.mem_of_getElem? (i := 111) rfl))) (by decide) (t := (.object "java/util/List")) (t' := .int) (by decide) (by decide)))).other W46 (Or.inr (slot_ne (Or.inr (hw _ (List.mem_of_getElem? (i := 131) rfl))) (Or.inr (hw _ (List.mem_of_getElem? (i := 113) rfl))) (by decide) (t := (.object "java/util/List")) (t' := (.object "com/example/mirante/mirante/FieldDef$Presence")) (by decide) (by decide)))).other W52 (Or.inr (slot_ne (Or.inr (hw _ (List.mem_of_getElem? (i := 131) rfl))) (Or.inr (hw _ (List.mem_of_getElem? (i := 115) rfl))) (by decide) (t := (.object "java/util/List")) (t' := (.object "java/util/Map")) (by decide) (by decide)))).other W58 (Or.inr (slot_ne (Or.inr (hw _ (List.mem_of_getElem? (i := 131) rfl))) (Or.inr (hw _ (List.mem_of_getElem? (i := 117) rfl))) (by decide) (t := (.object "java/util/List")) (t' := (.object "com/example/mirante/mirante/FieldDef$Range")) (by decide) (by decide)))).other W64 (Or.inr (slot_ne (Or.inr (hw _ (List.mem_of_getElem? (i := 131) rfl))) (Or.inr (hw _ (List.mem_of_getElem? (i := 119) rfl))) (by decide) (t := (.object "java/util/List")) (t' := (.object "java/util/List")) (by decide) (by decide)))).other W70 (Or.inr (slot_ne (Or.inr (hw _ (List.mem_of_getElem? (i := 131) rfl))) (Or.inr (hw _ (List.mem_of_getElem? (i := 121) rfl))) (by decide) (t := (.object "java/util/List")) (t' := (.object "java/util/List")) (by decide) (by decide)))).other W76 (Or.inr (slot_ne (Or.inr (hw _ (List.mem_of_getElem? (i := 131) rfl))) (Or.inr (hw _ (List.mem_of_getElem? (i := 123) rfl))) (by decide) (t := (.object "java/util/List")) (t' := .int) (by decide) (by decide)))).other W82 (Or.inr (slot_ne (Or.inr (hw _ (List.mem_of_getElem? (i := 131) rfl))) (Or.inr (hw _ (List.mem_of_getElem? (i := 125) rfl))) (by decide) (t := (.object "java/util/List")) (t' := (.object "java/util/List")) (by decide) (by decide)))).other W88 (Or.inr (slot_ne (Or.inr (hw _ (List.mem_of_getElem? (i := 131) rfl))) (Or.inr (hw _ (List.mem_of_getElem? (i := 127) rfl))) (by decide) (t := (.object "java/util/List")) (t' := (.object "java/util/List")) (by decide) (by decide)))).other W94 (Or.inr (slot_ne (Or.inr (hw _ (List.mem_of_getElem? (i := 131) rfl))) (Or.inr (hw _ (List.mem_of_getElem? (i := 129) rfl))) (by decide) (t := (.object "java/util/List")) (t' := .int) (by decide) (by decide))))
  obtain ⟨T100, h100, X100, e100, W100, st100⟩ := putF X94 hx hZ hown (host := "") (Or.inl (hw _ (List.mem_of_getElem? (i := 130) rfl))) Via.refl e94 f99 f97 (Or.inr ⟨(hw _ (List.mem_of_getElem? (i := 131) rfl)), rfl, hnm⟩) (hw _ (List.mem_of_getElem? (i := 88) rfl)) (ty := (.object "java/util/List")) (by decide) rfl rfl (g := (mkF m 88 #[.val (.ref a1), .val (.int p2), .val (.ref a3), .val (.ref a4), .val .null, .val (.int p5), .val (.ref a6), .val .null, .val .null, .val (.ref a7), .val (.ref a8), .val (.int p9), .val (.ref a10), .val (.ref a11), .val (.int p12), .val (.ref a13)] [(.ref a13), (.ref a1)])) rfl rfl (hb hby d14_88)
  have N100 := Fr.snoc X100 N94 g_a1
  have K101 : Keep h0 h100 [a1] := K95.wr W100 (Or.inl (List.mem_of_getElem? (i := 0) rfl))
  have O102 : Old Z n0 h100 := O96.wr W100 g_a1
  have Fw100 : Fld Z h100 a1 "com/example/mirante/mirante/FieldDef" "members" "Ljava/util/List;" (.ref a13) := f99.same W100
  have f103 := (f97.wr W100)
  have f104 := (((Fw82.other W88 (Or.inr (slot_ne (Or.inr (hw _ (List.mem_of_getElem? (i := 125) rfl))) (Or.inr (hw _ (List.mem_of_getElem? (i := 127) rfl))) (by decide) (t := (.object "java/util/List")) (t' := (.object "java/util/List")) (by decide) (by decide)))).other W94 (Or.inr (slot_ne (Or.inr (hw _ (List.mem_of_getElem? (i := 125) rfl))) (Or.inr (hw _ (List.mem_of_getElem? (i := 129) rfl))) (by decide) (t := (.object "java/util/List")) (t' := .int) (by decide) (by decide)))).other W100 (Or.inr (slot_ne (Or.inr (hw _ (List.mem_of_getElem? (i := 125) rfl))) (Or.inr (hw _ (List.mem_of_getElem? (i := 131) rfl))) (by decide) (t := (.object "java/util/List")) (t' := (.object "java/util/List")) (by decide) (by decide))))
  have f105 := ((Fw88.other W94 (Or.inr (slot_ne (Or.inr (hw _ (List.mem_of_getElem? (i := 127) rfl))) (Or.inr (hw _ (List.mem_of_getElem? (i := 129) rfl))) (by decide) (t := (.object "java/util/List")) (t' := .int) (by decide) (by decide)))).other W100 (Or.inr (slot_ne (Or.inr (hw _ (List.mem_of_getElem? (i := 127) rfl))) (Or.inr (hw _ (List.mem_of_getElem? (i := 131) rfl))) (by decide) (t := (.object "java/util/List")) (t' := (.object "java/util/List")) (by decide) (by decide))))
  have f106 := (((((Fw70.other W76 (Or.inr (slot_ne (Or.inr (hw _ (List.mem_of_getElem? (i := 121) rfl))) (Or.inr (hw _ (List.mem_of_getElem? (i := 123) rfl))) (by decide) (t := (.object "java/util/List")) (t' := .int) (by decide) (by decide)))).other W82 (Or.inr (slot_ne (Or.inr (hw _ (List.mem_of_getElem? (i := 121) rfl))) (Or.inr (hw _ (List.mem_of_getElem? (i := 125) rfl))) (by decide) (t := (.object "java/util/List")) (t' := (.object "java/util/List")) (by decide) (by decide)))).other W88 (Or.inr (slot_ne (Or.inr (hw _ (List.mem_of_getElem? (i := 121) rfl))) (Or.inr (hw _ (List.mem_of_getElem? (i := 127) rfl))) (by decide) (t := (.object "java/util/List")) (t' := (.object "java/util/List")) (by decide) (by decide)))).other W94 (Or.inr (slot_ne (Or.inr (hw _ (List.mem_of_getElem? (i := 121) rfl))) (Or.inr (hw _ (List.mem_of_getElem? (i := 129) rfl))) (by decide) (t := (.object "java/util/List")) (t' := .int) (by decide) (by decide)))).other W100 (Or.inr (slot_ne (Or.inr (hw _ (List.mem_of_getElem? (i := 121) rfl))) (Or.inr (hw _ (List.mem_of_getElem? (i := 131) rfl))) (by decide) (t := (.object "java/util/List")) (t' := (.object "java/util/List")) (by decide) (by decide))))
  have f107 := ((((Fw76.other W82 (Or.inr (slot_ne (Or.inr (hw _ (List.mem_of_getElem? (i := 123) rfl))) (Or.inr (hw _ (List.mem_of_getElem? (i := 125) rfl))) (by decide) (t := .int) (t' := (.object "java/util/List")) (by decide) (by decide)))).other W88 (Or.inr (slot_ne (Or.inr (hw _ (List.mem_of_getElem? (i := 123) rfl))) (Or.inr (hw _ (List.mem_of_getElem? (i := 127) rfl))) (by decide) (t := .int) (t' := (.object "java/util/List")) (by decide) (by decide)))).other W94 (Or.inr (slot_ne (Or.inr (hw _ (List.mem_of_getElem? (i := 123) rfl))) (Or.inr (hw _ (List.mem_of_getElem? (i := 129) rfl))) (by decide) (t := .int) (t' := .int) (by decide) (by decide)))).other W100 (Or.inr (slot_ne (Or.inr (hw _ (List.mem_of_getElem? (i := 123) rfl))) (Or.inr (hw _ (List.mem_of_getElem? (i := 131) rfl))) (by decide) (t := .int) (t' := (.object "java/util/List")) (by decide) (by decide))))
  obtain ⟨fs, hr, hrun, hended, hW, hsame⟩ := X100.leave (v := none) (fun _ => rfl)
  refine ⟨_, _, pre0 _ ?_, hrun, hended, _, _, rfl, ?_, ⟨_, rfl⟩, hW, hsame.mono (by decide) (by decide)⟩
  · show Steps p.tables e below (s₁.setTop (mkF m 0 #[.val (.ref a1), .val (.int p2), .val (.ref a3), .val (.ref a4), .val .null, .val (.int p5), .val (.ref a6), .val .null, .val .null, .val (.ref a7), .val (.ref a8), .val (.int p9), .val (.ref a10), .val (.ref a11), .val (.int p12), .val (.ref a13)] [])) _
    refine XS.aloadN X0.here hx rfl (hb hby d14_0) rfl rfl ?_
    show Steps p.tables e below (s₁.setTop (mkF m 1 #[.val (.ref a1), .val (.int p2), .val (.ref a3), .val (.ref a4), .val .null, .val (.int p5), .val (.ref a6), .val .null, .val .null, .val (.ref a7), .val (.ref a8), .val (.int p9), .val (.ref a10), .val (.ref a11), .val (.int p12), .val (.ref a13)] [(.ref a1)])) _
    refine st14.trans ?_
    show Steps p.tables e below (T14.setTop (mkF m 4 #[.val (.ref a1), .val (.int p2), .val (.ref a3), .val (.ref a4), .val .null, .val (.int p5), .val (.ref a6), .val .null, .val .null, .val (.ref a7), .val (.ref a8), .val (.int p9), .val (.ref a10), .val (.ref a11), .val (.int p12), .val (.ref a13)] [])) _
    refine XS.aloadN X14.here hx rfl (hb hby d14_4) rfl rfl ?_
    show Steps p.tables e below (T14.setTop (mkF m 5 #[.val (.ref a1), .val (.int p2), .val (.ref a3), .val (.ref a4), .val .null, .val (.int p5), .val (.ref a6), .val .null, .val .null, .val (.ref a7), .val (.ref a8), .val (.int p9), .val (.ref a10), .val (.ref a11), .val (.int p12), .val (.ref a13)] [(.ref a1)])) _
    refine XS.iloadN X14.here hx rfl (hb hby d14_5) rfl ?_
    show Steps p.tables e below (T14.setTop (mkF m 6 #[.val (.ref a1), .val (.int p2), .val (.ref a3), .val (.ref a4), .val .null, .val (.int p5), .val (.ref a6), .val .null, .val .null, .val (.ref a7), .val (.ref a8), .val (.int p9), .val (.ref a10), .val (.ref a11), .val (.int p12), .val (.ref a13)] [(.int p2), (.ref a1)])) _
    refine st16 _ ?_
    show Steps p.tables e below (T16.setTop (mkF m 9 #[.val (.ref a1), .val (.int p2), .val (.ref a3), .val (.ref a4), .val .null, .val (.int p5), .val (.ref a6), .val .null, .val .null, .val (.ref a7), .val (.ref a8), .val (.int p9), .val (.ref a10), .val (.ref a11), .val (.int p12), .val (.ref a13)] [])) _
    refine XS.aloadN X16.here hx rfl (hb hby d14_9) rfl rfl ?_
    show Steps p.tables e below (T16.setTop (mkF m 10 #[.val (.ref a1), .val (.int p2), .val (.ref a3), .val (.ref a4), .val .null, .val (.int p5), .val (.ref a6), .val .null, .val .null, .val (.ref a7), .val (.ref a8), .val (.int p9), .val (.ref a10), .val (.ref a11), .val (.int p12), .val (.ref a13)] [(.ref a1)])) _
    refine XS.aloadN X16.here hx rfl (hb hby d14_10) rfl rfl ?_
    show Steps p.tables e below (T16.setTop (mkF m 11 #[.val (.ref a1), .val (.int p2), .val (.ref a3), .val (.ref a4), .val .null, .val (.int p5), .val (.ref a6), .val .null, .val .null, .val (.ref a7), .val (.ref a8), .val (.int p9), .val (.ref a10), .val (.ref a11), .val (.int p12), .val (.ref a13)] [(.ref a3), (.ref a1)])) _
    refine st22 _ ?_
    show Steps p.tables e below (T22.setTop (mkF m 14 #[.val (.ref a1), .val (.int p2), .val (.ref a3), .val (.ref a4), .val .null, .val (.int p5), .val (.ref a6), .val .null, .val .null, .val (.ref a7), .val (.ref a8), .val (.int p9), .val (.ref a10), .val (.ref a11), .val (.int p12), .val (.ref a13)] [])) _
    refine XS.aloadN X22.here hx rfl (hb hby d14_14) rfl rfl ?_
    show Steps p.tables e below (T22.setTop (mkF m 15 #[.val (.ref a1), .val (.int p2), .val (.ref a3), .val (.ref a4), .val .null, .val (.int p5), .val (.ref a6), .val .null, .val .null, .val (.ref a7), .val (.ref a8), .val (.int p9), .val (.ref a10), .val (.ref a11), .val (.int p12), .val (.ref a13)] [(.ref a1)])) _
    refine XS.aloadN X22.here hx rfl (hb hby d14_15) rfl rfl ?_
    show Steps p.tables e below (T22.setTop (mkF m 16 #[.val (.ref a1), .val (.int p2), .val (.ref a3), .val (.ref a4), .val .null, .val (.int p5), .val (.ref a6), .val .null, .val .null, .val (.ref a7), .val (.ref a8), .val (.int p9), .val (.ref a10), .val (.ref a11), .val (.int p12), .val (.ref a13)] [(.ref a4), (.ref a1)])) _
    refine st28 _ ?_
    show Steps p.tables e below (T28.setTop (mkF m 19 #[.val (.ref a1), .val (.int p2), .val (.ref a3), .val (.ref a4), .val .null, .val (.int p5), .val (.ref a6), .val .null, .val .null, .val (.ref a7), .val (.ref a8), .val (.int p9), .val (.ref a10), .val (.ref a11), .val (.int p12), .val (.ref a13)] [])) _
    refine XS.aloadN X28.here hx rfl (hb hby d14_19) rfl rfl ?_
    show Steps p.tables e below (T28.setTop (mkF m 20 #[.val (.ref a1), .val (.int p2), .val (.ref a3), .val (.ref a4), .val .null, .val (.int p5), .val (.ref a6), .val .null, .val .null, .val (.ref a7), .val (.ref a8), .val (.int p9), .val (.ref a10), .val (.ref a11), .val (.int p12), .val (.ref a13)] [(.ref a1)])) _
    refine XS.aload X28.here hx rfl (hb hby d14_20) rfl rfl ?_
    show Steps p.tables e below (T28.setTop (mkF m 22 #[.val (.ref a1), .val (.int p2), .val (.ref a3), .val (.ref a4), .val .null, .val (.int p5), .val (.ref a6), .val .null, .val .null, .val (.ref a7), .val (.ref a8), .val (.int p9), .val (.ref a10), .val (.ref a11), .val (.int p12), .val (.ref a13)] [.null, (.ref a1)])) _
    refine st34 _ ?_
    show Steps p.tables e below (T34.setTop (mkF m 25 #[.val (.ref a1), .val (.int p2), .val (.ref a3), .val (.ref a4), .val .null, .val (.int p5), .val (.ref a6), .val .null, .val .null, .val (.ref a7), .val (.ref a8), .val (.int p9), .val (.ref a10), .val (.ref a11), .val (.int p12), .val (.ref a13)] [])) _
    refine XS.aloadN X34.here hx rfl (hb hby d14_25) rfl rfl ?_
    show Steps p.tables e below (T34.setTop (mkF m 26 #[.val (.ref a1), .val (.int p2), .val (.ref a3), .val (.ref a4), .val .null, .val (.int p5), .val (.ref a6), .val .null, .val .null, .val (.ref a7), .val (.ref a8), .val (.int p9), .val (.ref a10), .val (.ref a11), .val (.int p12), .val (.ref a13)] [(.ref a1)])) _
    refine XS.iload X34.here hx rfl (hb hby d14_26) rfl ?_
    show Steps p.tables e below (T34.setTop (mkF m 28 #[.val (.ref a1), .val (.int p2), .val (.ref a3), .val (.ref a4), .val .null, .val (.int p5), .val (.ref a6), .val .null, .val .null, .val (.ref a7), .val (.ref a8), .val (.int p9), .val (.ref a10), .val (.ref a11), .val (.int p12), .val (.ref a13)] [(.int p5), (.ref a1)])) _
    refine st40 _ ?_
    show Steps p.tables e below (T40.setTop (mkF m 31 #[.val (.ref a1), .val (.int p2), .val (.ref a3), .val (.ref a4), .val .null, .val (.int p5), .val (.ref a6), .val .null, .val .null, .val (.ref a7), .val (.ref a8), .val (.int p9), .val (.ref a10), .val (.ref a11), .val (.int p12), .val (.ref a13)] [])) _
    refine XS.aloadN X40.here hx rfl (hb hby d14_31) rfl rfl ?_
    show Steps p.tables e below (T40.setTop (mkF m 32 #[.val (.ref a1), .val (.int p2), .val (.ref a3), .val (.ref a4), .val .null, .val (.int p5), .val (.ref a6), .val .null, .val .null, .val (.ref a7), .val (.ref a8), .val (.int p9), .val (.ref a10), .val (.ref a11), .val (.int p12), .val (.ref a13)] [(.ref a1)])) _
    refine XS.aload X40.here hx rfl (hb hby d14_32) rfl rfl ?_
    show Steps p.tables e below (T40.setTop (mkF m 34 #[.val (.ref a1), .val (.int p2), .val (.ref a3), .val (.ref a4), .val .null, .val (.int p5), .val (.ref a6), .val .null, .val .null, .val (.ref a7), .val (.ref a8), .val (.int p9), .val (.ref a10), .val (.ref a11), .val (.int p12), .val (.ref a13)] [(.ref a6), (.ref a1)])) _
    refine st46 _ ?_
    show Steps p.tables e below (T46.setTop (mkF m 37 #[.val (.ref a1), .val (.int p2), .val (.ref a3), .val (.ref a4), .val .null, .val (.int p5), .val (.ref a6), .val .null, .val .null, .val (.ref a7), .val (.ref a8), .val (.int p9), .val (.ref a10), .val (.ref a11), .val (.int p12), .val (.ref a13)] [])) _
    refine XS.aloadN X46.here hx rfl (hb hby d14_37) rfl rfl ?_
    show Steps p.tables e below (T46.setTop (mkF m 38 #[.val (.ref a1), .val (.int p2), .val (.ref a3), .val (.ref a4), .val .null, .val (.int p5), .val (.ref a6), .val .null, .val .null, .val (.ref a7), .val (.ref a8), .val (.int p9), .val (.ref a10), .val (.ref a11), .val (.int p12), .val (.ref a13)] [(.ref a1)])) _
    refine XS.aload X46.here hx rfl (hb hby d14_38) rfl rfl ?_
    show Steps p.tables e below (T46.setTop (mkF m 40 #[.val (.ref a1), .val (.int p2), .val (.ref a3), .val (.ref a4), .val .null, .val (.int p5), .val (.ref a6), .val .null, .val .null, .val (.ref a7), .val (.ref a8), .val (.int p9), .val (.ref a10), .val (.ref a11), .val (.int p12), .val (.ref a13)] [.null, (.ref a1)])) _
    refine st52 _ ?_
    show Steps p.tables e below (T52.setTop (mkF m 43 #[.val (.ref a1), .val (.int p2), .val (.ref a3), .val (.ref a4), .val .null, .val (.int p5), .val (.ref a6), .val .null, .val .null, .val (.ref a7), .val (.ref a8), .val (.int p9), .val (.ref a10), .val (.ref a11), .val (.int p12), .val (.ref a13)] [])) _
    refine XS.aloadN X52.here hx rfl (hb hby d14_43) rfl rfl ?_
    show Steps p.tables e below (T52.setTop (mkF m 44 #[.val (.ref a1), .val (.int p2), .val (.ref a3), .val (.ref a4), .val .null, .val (.int p5), .val (.ref a6), .val .null, .val .null, .val (.ref a7), .val (.ref a8), .val (.int p9), .val (.ref a10), .val (.ref a11), .val (.int p12), .val (.ref a13)] [(.ref a1)])) _
    refine XS.aload X52.here hx rfl (hb hby d14_44) rfl rfl ?_
    show Steps p.tables e below (T52.setTop (mkF m 46 #[.val (.ref a1), .val (.int p2), .val (.ref a3), .val (.ref a4), .val .null, .val (.int p5), .val (.ref a6), .val .null, .val .null, .val (.ref a7), .val (.ref a8), .val (.int p9), .val (.ref a10), .val (.ref a11), .val (.int p12), .val (.ref a13)] [.null, (.ref a1)])) _
    refine st58 _ ?_
    show Steps p.tables e below (T58.setTop (mkF m 49 #[.val (.ref a1), .val (.int p2), .val (.ref a3), .val (.ref a4), .val .null, .val (.int p5), .val (.ref a6), .val .null, .val .null, .val (.ref a7), .val (.ref a8), .val (.int p9), .val (.ref a10), .val (.ref a11), .val (.int p12), .val (.ref a13)] [])) _
    refine XS.aloadN X58.here hx rfl (hb hby d14_49) rfl rfl ?_
    show Steps p.tables e below (T58.setTop (mkF m 50 #[.val (.ref a1), .val (.int p2), .val (.ref a3), .val (.ref a4), .val .null, .val (.int p5), .val (.ref a6), .val .null, .val .null, .val (.ref a7), .val (.ref a8), .val (.int p9), .val (.ref a10), .val (.ref a11), .val (.int p12), .val (.ref a13)] [(.ref a1)])) _
    refine XS.aload X58.here hx rfl (hb hby d14_50) rfl rfl ?_
    show Steps p.tables e below (T58.setTop (mkF m 52 #[.val (.ref a1), .val (.int p2), .val (.ref a3), .val (.ref a4), .val .null, .val (.int p5), .val (.ref a6), .val .null, .val .null, .val (.ref a7), .val (.ref a8), .val (.int p9), .val (.ref a10), .val (.ref a11), .val (.int p12), .val (.ref a13)] [(.ref a7), (.ref a1)])) _
    refine st64 _ ?_
    show Steps p.tables e below (T64.setTop (mkF m 55 #[.val (.ref a1), .val (.int p2), .val (.ref a3), .val (.ref a4), .val .null, .val (.int p5), .val (.ref a6), .val .null, .val .null, .val (.ref a7), .val (.ref a8), .val (.int p9), .val (.ref a10), .val (.ref a11), .val (.int p12), .val (.ref a13)] [])) _
    refine XS.aloadN X64.here hx rfl (hb hby d14_55) rfl rfl ?_
    show Steps p.tables e below (T64.setTop (mkF m 56 #[.val (.ref a1), .val (.int p2), .val (.ref a3), .val (.ref a4), .val .null, .val (.int p5), .val (.ref a6), .val .null, .val .null, .val (.ref a7), .val (.ref a8), .val (.int p9), .val (.ref a10), .val (.ref a11), .val (.int p12), .val (.ref a13)] [(.ref a1)])) _
    refine XS.aload X64.here hx rfl (hb hby d14_56) rfl rfl ?_
    show Steps p.tables e below (T64.setTop (mkF m 58 #[.val (.ref a1), .val (.int p2), .val (.ref a3), .val (.ref a4), .val .null, .val (.int p5), .val (.ref a6), .val .null, .val .null, .val (.ref a7), .val (.ref a8), .val (.int p9), .val (.ref a10), .val (.ref a11), .val (.int p12), .val (.ref a13)] [(.ref a8), (.ref a1)])) _
    refine st70 _ ?_
    show Steps p.tables e below (T70.setTop (mkF m 61 #[.val (.ref a1), .val (.int p2), .val (.ref a3), .val (.ref a4), .val .null, .val (.int p5), .val (.ref a6), .val .null, .val .null, .val (.ref a7), .val (.ref a8), .val (.int p9), .val (.ref a10), .val (.ref a11), .val (.int p12), .val (.ref a13)] [])) _
    refine XS.aloadN X70.here hx rfl (hb hby d14_61) rfl rfl ?_
    show Steps p.tables e below (T70.setTop (mkF m 62 #[.val (.ref a1), .val (.int p2), .val (.ref a3), .val (.ref a4), .val .null, .val (.int p5), .val (.ref a6), .val .null, .val .null, .val (.ref a7), .val (.ref a8), .val (.int p9), .val (.ref a10), .val (.ref a11), .val (.int p12), .val (.ref a13)] [(.ref a1)])) _
    refine XS.iload X70.here hx rfl (hb hby d14_62) rfl ?_
    show Steps p.tables e below (T70.setTop (mkF m 64 #[.val (.ref a1), .val (.int p2), .val (.ref a3), .val (.ref a4), .val .null, .val (.int p5), .val (.ref a6), .val .null, .val .null, .val (.ref a7), .val (.ref a8), .val (.int p9), .val (.ref a10), .val (.ref a11), .val (.int p12), .val (.ref a13)] [(.int p9), (.ref a1)])) _
    refine st76 _ ?_
    show Steps p.tables e below (T76.setTop (mkF m 67 #[.val (.ref a1), .val (.int p2), .val (.ref a3), .val (.ref a4), .val .null, .val (.int p5), .val (.ref a6), .val .null, .val .null, .val (.ref a7), .val (.ref a8), .val (.int p9), .val (.ref a10), .val (.ref a11), .val (.int p12), .val (.ref a13)] [])) _
    refine XS.aloadN X76.here hx rfl (hb hby d14_67) rfl rfl ?_
    show Steps p.tables e below (T76.setTop (mkF m 68 #[.val (.ref a1), .val (.int p2), .val (.ref a3), .val (.ref a4), .val .null, .val (.int p5), .val (.ref a6), .val .null, .val .null, .val (.ref a7), .val (.ref a8), .val (.int p9), .val (.ref a10), .val (.ref a11), .val (.int p12), .val (.ref a13)] [(.ref a1)])) _
    refine XS.aload X76.here hx rfl (hb hby d14_68) rfl rfl ?_
    show Steps p.tables e below (T76.setTop (mkF m 70 #[.val (.ref a1), .val (.int p2), .val (.ref a3), .val (.ref a4), .val .null, .val (.int p5), .val (.ref a6), .val .null, .val .null, .val (.ref a7), .val (.ref a8), .val (.int p9), .val (.ref a10), .val (.ref a11), .val (.int p12), .val (.ref a13)] [(.ref a10), (.ref a1)])) _
    refine st82 _ ?_
    show Steps p.tables e below (T82.setTop (mkF m 73 #[.val (.ref a1), .val (.int p2), .val (.ref a3), .val (.ref a4), .val .null, .val (.int p5), .val (.ref a6), .val .null, .val .null, .val (.ref a7), .val (.ref a8), .val (.int p9), .val (.ref a10), .val (.ref a11), .val (.int p12), .val (.ref a13)] [])) _
    refine XS.aloadN X82.here hx rfl (hb hby d14_73) rfl rfl ?_
    show Steps p.tables e below (T82.setTop (mkF m 74 #[.val (.ref a1), .val (.int p2), .val (.ref a3), .val (.ref a4), .val .null, .val (.int p5), .val (.ref a6), .val .null, .val .null, .val (.ref a7), .val (.ref a8), .val (.int p9), .val (.ref a10), .val (.ref a11), .val (.int p12), .val (.ref a13)] [(.ref a1)])) _
    refine XS.aload X82.here hx rfl (hb hby d14_74) rfl rfl ?_
    show Steps p.tables e below (T82.setTop (mkF m 76 #[.val (.ref a1), .val (.int p2), .val (.ref a3), .val (.ref a4), .val .null, .val (.int p5), .val (.ref a6), .val .null, .val .null, .val (.ref a7), .val (.ref a8), .val (.int p9), .val (.ref a10), .val (.ref a11), .val (.int p12), .val (.ref a13)] [(.ref a11), (.ref a1)])) _
    refine st88 _ ?_
    show Steps p.tables e below (T88.setTop (mkF m 79 #[.val (.ref a1), .val (.int p2), .val (.ref a3), .val (.ref a4), .val .null, .val (.int p5), .val (.ref a6), .val .null, .val .null, .val (.ref a7), .val (.ref a8), .val (.int p9), .val (.ref a10), .val (.ref a11), .val (.int p12), .val (.ref a13)] [])) _
    refine XS.aloadN X88.here hx rfl (hb hby d14_79) rfl rfl ?_
    show Steps p.tables e below (T88.setTop (mkF m 80 #[.val (.ref a1), .val (.int p2), .val (.ref a3), .val (.ref a4), .val .null, .val (.int p5), .val (.ref a6), .val .null, .val .null, .val (.ref a7), .val (.ref a8), .val (.int p9), .val (.ref a10), .val (.ref a11), .val (.int p12), .val (.ref a13)] [(.ref a1)])) _
    refine XS.iload X88.here hx rfl (hb hby d14_80) rfl ?_
    show Steps p.tables e below (T88.setTop (mkF m 82 #[.val (.ref a1), .val (.int p2), .val (.ref a3), .val (.ref a4), .val .null, .val (.int p5), .val (.ref a6), .val .null, .val .null, .val (.ref a7), .val (.ref a8), .val (.int p9), .val (.ref a10), .val (.ref a11), .val (.int p12), .val (.ref a13)] [(.int p12), (.ref a1)])) _
    refine st94 _ ?_
    show Steps p.tables e below (T94.setTop (mkF m 85 #[.val (.ref a1), .val (.int p2), .val (.ref a3), .val (.ref a4), .val .null, .val (.int p5), .val (.ref a6), .val .null, .val .null, .val (.ref a7), .val (.ref a8), .val (.int p9), .val (.ref a10), .val (.ref a11), .val (.int p12), .val (.ref a13)] [])) _
    refine XS.aloadN X94.here hx rfl (hb hby d14_85) rfl rfl ?_
    show Steps p.tables e below (T94.setTop (mkF m 86 #[.val (.ref a1), .val (.int p2), .val (.ref a3), .val (.ref a4), .val .null, .val (.int p5), .val (.ref a6), .val .null, .val .null, .val (.ref a7), .val (.ref a8), .val (.int p9), .val (.ref a10), .val (.ref a11), .val (.int p12), .val (.ref a13)] [(.ref a1)])) _
    refine XS.aload X94.here hx rfl (hb hby d14_86) rfl rfl ?_
    show Steps p.tables e below (T94.setTop (mkF m 88 #[.val (.ref a1), .val (.int p2), .val (.ref a3), .val (.ref a4), .val .null, .val (.int p5), .val (.ref a6), .val .null, .val .null, .val (.ref a7), .val (.ref a8), .val (.int p9), .val (.ref a10), .val (.ref a11), .val (.int p12), .val (.ref a13)] [(.ref a13), (.ref a1)])) _
    refine st100 _ ?_
    show Steps p.tables e below (T100.setTop (mkF m 91 #[.val (.ref a1), .val (.int p2), .val (.ref a3), .val (.ref a4), .val .null, .val (.int p5), .val (.ref a6), .val .null, .val .null, .val (.ref a7), .val (.ref a8), .val (.int p9), .val (.ref a10), .val (.ref a11), .val (.int p12), .val (.ref a13)] [])) _
    exact X100.returnOut hx Bd.returns (hb hby d14_91) hr
  · show Q14rn Z a1 p2 a3 a4 p5 a6 a7 a8 p9 a10 a11 p12 a13 u15 u20 u26 u32 u38 u44 u50 u56 u62 u68 u74 u80 u86 u92 u98 h0 n0 _ T100.heap _
    rw [e100]
    exact ⟨rfl, N100, K101, f103, f104, f105, f106, f107⟩
def Q14ro (Z : State) (a1 : Addr) (p2 : Int32) (a3 a4 : Addr) (p5 : Int32) (a6 a7 a8 a9 : Addr) (p10 : Int32) (a11 a12 : Addr) (p13 : Int32) (a14 : Addr) (u16 u21 u27 u33 u39 u45 u51 u57 u63 u69 u75 u81 u87 u93 u99 : Value) (h0 : Heap) (n0 : Nat) (v : Option Value) (h : Heap) (L : List Loc) : Prop := v = none ∧ Fr n0 L ∧ Keep h0 h [a1] ∧ Exa Z h a1 "com/example/mirante/mirante/FieldDef" ∧ Fld Z h a1 "com/example/mirante/mirante/FieldDef" "anyPresent" "Ljava/util/List;" (.ref a11) ∧ Fld Z h a1 "com/example/mirante/mirante/FieldDef" "before" "Ljava/util/List;" (.ref a12) ∧ Fld Z h a1 "com/example/mirante/mirante/FieldDef" "conditions" "Ljava/util/List;" (.ref a9) ∧ Fld Z h a1 "com/example/mirante/mirante/FieldDef" "count" "I" (.int p10)
theorem ef_14aaaanaanaaaaaaaa (m : MethodId) (x0 : Addr) (x1 : Int32) (x2 : Addr) (x3 : Addr) (x5 : Int32) (x6 : Addr) (x8 : Addr) (x9 : Addr) (x10 : Addr) (x11 : Int32) (x12 : Addr) (x13 : Addr) (x14 : Int32) (x15 : Addr) : entryFrame m #[(.ref x0), (.int x1), (.ref x2), (.ref x3), .null, (.int x5), (.ref x6), .null, (.ref x8), (.ref x9), (.ref x10), (.int x11), (.ref x12), (.ref x13), (.int x14), (.ref x15)] 16 = mkF m 0 #[.val (.ref x0), .val (.int x1), .val (.ref x2), .val (.ref x3), .val .null, .val (.int x5), .val (.ref x6), .val .null, .val (.ref x8), .val (.ref x9), .val (.ref x10), .val (.int x11), .val (.ref x12), .val (.ref x13), .val (.int x14), .val (.ref x15)] [] := by first | (simp [entryFrame, mkF, argsToLocals, Value.category]; done) | rfl
set_option maxRecDepth 65536 in
set_option maxHeartbeats 40000000 in
theorem rm14ro (l : Launch) (Z : State) (a0 : Array Value) (hw : ∀ d ∈ tables_1, d.before a0 Z = true) (ws : List Jvm.Cond) (a1 : Addr) (p2 : Int32) (a3 a4 : Addr) (p5 : Int32) (a6 a7 a8 a9 : Addr) (p10 : Int32) (a11 a12 : Addr) (p13 : Int32) (a14 : Addr) (u16 u21 u27 u33 u39 u45 u51 u57 u63 u69 u75 u81 u87 u93 u99 : Value) (h0 : Heap) (n0 : Nat) (O0 : Old Z n0 h0) (HE_a1 : Exa Z h0 a1 "com/example/mirante/mirante/FieldDef") (HF_a1_tag : Fld Z h0 a1 "com/example/mirante/mirante/FieldDef" "tag" "I" u16) (g_a1 : n0 ≤ a1) (HF_a1_name : Fld Z h0 a1 "com/example/mirante/mirante/FieldDef" "name" "Ljava/lang/String;" u21) (HF_a1_type : Fld Z h0 a1 "com/example/mirante/mirante/FieldDef" "type" "Ljava/lang/String;" u27) (HF_a1_format : Fld Z h0 a1 "com/example/mirante/mirante/FieldDef" "format" "Lcom/example/mirante/mirante/FieldFormat;" u33) (HF_a1_maxLength : Fld Z h0 a1 "com/example/mirante/mirante/FieldDef" "maxLength" "I" u39) (HF_a1_presence : Fld Z h0 a1 "com/example/mirante/mirante/FieldDef" "presence" "Lcom/example/mirante/mirante/FieldDef$Presence;" u45) (HF_a1_values : Fld Z h0 a1 "com/example/mirante/mirante/FieldDef" "values" "Ljava/util/Map;" u51) (HF_a1_range : Fld Z h0 a1 "com/example/mirante/mirante/FieldDef" "range" "Lcom/example/mirante/mirante/FieldDef$Range;" u57) (HF_a1_rules : Fld Z h0 a1 "com/example/mirante/mirante/FieldDef" "rules" "Ljava/util/List;" u63) (HF_a1_conditions : Fld Z h0 a1 "com/example/mirante/mirante/FieldDef" "conditions" "Ljava/util/List;" u69) (HF_a1_count : Fld Z h0 a1 "com/example/mirante/mirante/FieldDef" "count" "I" u75) (HF_a1_anyPresent : Fld Z h0 a1 "com/example/mirante/mirante/FieldDef" "anyPresent" "Ljava/util/List;" u81) (HF_a1_before : Fld Z h0 a1 "com/example/mirante/mirante/FieldDef" "before" "Ljava/util/List;" u87) (HF_a1_lengthOf : Fld Z h0 a1 "com/example/mirante/mirante/FieldDef" "lengthOf" "I" u93) (HF_a1_members : Fld Z h0 a1 "com/example/mirante/mirante/FieldDef" "members" "Ljava/util/List;" u99) :
    MetFree l (⟨"com/example/mirante/mirante/FieldDef", "<init>", "(ILjava/lang/String;Ljava/lang/String;Lcom/example/mirante/mirante/FieldFormat;ILcom/example/mirante/mirante/FieldDef$Presence;Ljava/util/Map;Lcom/example/mirante/mirante/FieldDef$Range;Ljava/util/List;Ljava/util/List;ILjava/util/List;Ljava/util/List;ILjava/util/List;)V"⟩ : MethodName) (head1 (Jvm.Cond.code (⟨"com/example/mirante/mirante/FieldDef", "<init>", "(ILjava/lang/String;Ljava/lang/String;Lcom/example/mirante/mirante/FieldFormat;ILcom/example/mirante/mirante/FieldDef$Presence;Ljava/util/Map;Lcom/example/mirante/mirante/FieldDef$Range;Ljava/util/List;Ljava/util/List;ILjava/util/List;Ljava/util/List;ILjava/util/List;)V"⟩ : MethodName) prog_14_method_1_code 16 none :: ws) ({ frames := 2, cells := 0, slots := 0, locals := 24 } : Room)) (fun a U => a = #[(.ref a1), (.int p2), (.ref a3), (.ref a4), .null, (.int p5), (.ref a6), .null, (.ref a7), (.ref a8), (.ref a9), (.int p10), (.ref a11), (.ref a12), (.int p13), (.ref a14)] ∧ Z.Warmed39 U.vm ∧ U.heap = h0) (fun _ _ _ _ _ => True) (fun _ U o U' => ∃ v L, o = .returned v ∧ Q14ro Z a1 p2 a3 a4 p5 a6 a7 a8 a9 p10 a11 a12 p13 a14 u16 u21 u27 u33 u39 u45 u51 u57 u63 u69 u75 u81 u87 u93 u99 h0 n0 v U'.heap L ∧ FrameEnd U o U' L ({ frames := 2, cells := 0, slots := 0, locals := 24 } : Room).cells ({ frames := 2, cells := 0, slots := 0, locals := 24 } : Room).slots) := by
  refine MetFree.of_bodySF (plainFor_of_name pnc_com_example_mirante_mirante_FieldDef) hisR ?_
  intro p e s m args below meth c s₁ Bd hml0 hP hK
  obtain ⟨rfl, hZ, hh⟩ := hP
  have hx := Bd.exec
  have hby := Bd.bytes
  have hml : c.maxLocals = 16 := hml0
  have hown : s.vm.findClass "com/example/mirante/mirante/FieldDef" = some m.cls := findClass_of_methodNamed Bd.named
  have hnm := (name_of_methodNamed Bd.named Bd.method).1
  have X0 : Stand p l e ({ frames := 2, cells := 0, slots := 0, locals := 24 } : Room) s m #[(.ref a1), (.int p2), (.ref a3), (.ref a4), .null, (.int p5), (.ref a6), .null, (.ref a7), (.ref a8), (.ref a9), (.int p10), (.ref a11), (.ref a12), (.int p13), (.ref a14)] below meth c s₁ [] 0 0 := Stand.of_body Bd
  have e0 : s₁.heap = h0 := by rw [← hh, Bd.state]; rfl
  have N0 := Fr.nil n0
  have Z0 : n0 ≤ h0.size := O0.1 ▸ O0.2.1
  have pre0 : ∀ t, Steps p.tables e below (s₁.setTop (mkF m 0 #[.val (.ref a1), .val (.int p2), .val (.ref a3), .val (.ref a4), .val .null, .val (.int p5), .val (.ref a6), .val .null, .val (.ref a7), .val (.ref a8), .val (.ref a9), .val (.int p10), .val (.ref a11), .val (.ref a12), .val (.int p13), .val (.ref a14)] [])) t → Steps p.tables e below (s₁.setTop (entryFrame m #[(.ref a1), (.int p2), (.ref a3), (.ref a4), .null, (.int p5), (.ref a6), .null, (.ref a7), (.ref a8), (.ref a9), (.int p10), (.ref a11), (.ref a12), (.int p13), (.ref a14)] 16)) t := fun t k => castTop (ef_14aaaanaanaaaaaaaa m a1 p2 a3 a4 p5 a6 a7 a8 a9 p10 a11 a12 p13 a14) k
  obtain ⟨vr15, _, ⟨T15, L15, k15, n15⟩, -, X15, ⟨Lc15, hQ15, l15, y15, z15⟩, st15⟩ := X0.specialBack hx (y := (⟨"java/lang/Record", "<init>", "()V"⟩ : MethodName)) rfl hown (mvT hZ (hw _ (List.mem_of_getElem? (i := 96) rfl))) (mvT hZ (hw _ (List.mem_of_getElem? (i := 97) rfl))) (mvT hZ (hw _ (List.mem_of_getElem? (i := 100) rfl))) (by decide) (backOf (W := 0) (rm15 l Z a0 hw [] a1 h0 n0 O0) hZ (hw _ (List.mem_of_getElem? (i := 100) rfl)) (hw _ (List.mem_of_getElem? (i := 99) rfl)) (by decide) (by decide)) (g := (mkF m 1 #[.val (.ref a1), .val (.int p2), .val (.ref a3), .val (.ref a4), .val .null, .val (.int p5), .val (.ref a6), .val .null, .val (.ref a7), .val (.ref a8), .val (.ref a9), .val (.int p10), .val (.ref a11), .val (.ref a12), .val (.int p13), .val (.ref a14)] [(.ref a1)])) rfl (by rw [hml]; rfl) (Steps.refl _) (a := a1) (argsL := []) (rest := []) (lenOf pd_0 rfl) rfl (by show 2 * 0 + _ ≤ _; exact Nat.le_of_eq rfl) (hb hby d14_1) (fun _ _ => ⟨rfl, e0, (by decide : 0 + 0 ≤ _), (by decide : 0 + 0 ≤ _)⟩)
  dsimp only [Pt.U, Pt.locs, Pt.cells, Pt.slots] at X15 l15 y15 z15 st15 hQ15
  subst l15 y15 z15
  obtain ⟨rfl, N15q, e15⟩ := hQ15
  have N15 := Fr.app N0 N15q
  replace X15 := X15.more (cells' := 0) (slots' := 0) (by decide) (by decide)
  obtain ⟨T17, h17, X17, e17, W17, st17⟩ := putF X15 hx hZ hown (host := "") (Or.inl (hw _ (List.mem_of_getElem? (i := 102) rfl))) Via.refl e15 HF_a1_tag HE_a1 (Or.inr ⟨(hw _ (List.mem_of_getElem? (i := 103) rfl)), rfl, hnm⟩) (hw _ (List.mem_of_getElem? (i := 88) rfl)) (ty := .int) (by decide) rfl rfl (g := (mkF m 6 #[.val (.ref a1), .val (.int p2), .val (.ref a3), .val (.ref a4), .val .null, .val (.int p5), .val (.ref a6), .val .null, .val (.ref a7), .val (.ref a8), .val (.ref a9), .val (.int p10), .val (.ref a11), .val (.ref a12), .val (.int p13), .val (.ref a14)] [(.int p2), (.ref a1)])) rfl rfl (hb hby d14_6)
  have N17 := Fr.snoc X17 N15 g_a1
  have K18 : Keep h0 h17 [a1] := (Keep.refl h0 [a1]).wr W17 (Or.inl (List.mem_of_getElem? (i := 0) rfl))
  have O19 : Old Z n0 h17 := O0.wr W17 g_a1
  have Fw17 : Fld Z h17 a1 "com/example/mirante/mirante/FieldDef" "tag" "I" (.int p2) := HF_a1_tag.same W17
  have f20 := (HE_a1.wr W17)
  have f22 := (HF_a1_name.other W17 (Or.inr (slot_ne (Or.inr (hw _ (List.mem_of_getElem? (i := 105) rfl))) (Or.inr (hw _ (List.mem_of_getElem? (i := 103) rfl))) (by decide) (t := (.object "java/lang/String")) (t' := .int) (by decide) (by decide))))
  obtain ⟨T23, h23, X23, e23, W23, st23⟩ := putF X17 hx hZ hown (host := "") (Or.inl (hw _ (List.mem_of_getElem? (i := 104) rfl))) Via.refl e17 f22 f20 (Or.inr ⟨(hw _ (List.mem_of_getElem? (i := 105) rfl)), rfl, hnm⟩) (hw _ (List.mem_of_getElem? (i := 88) rfl)) (ty := (.object "java/lang/String")) (by decide) rfl rfl (g := (mkF m 11 #[.val (.ref a1), .val (.int p2), .val (.ref a3), .val (.ref a4), .val .null, .val (.int p5), .val (.ref a6), .val .null, .val (.ref a7), .val (.ref a8), .val (.ref a9), .val (.int p10), .val (.ref a11), .val (.ref a12), .val (.int p13), .val (.ref a14)] [(.ref a3), (.ref a1)])) rfl rfl (hb hby d14_11)
  have N23 := Fr.snoc X23 N17 g_a1
  have K24 : Keep h0 h23 [a1] := K18.wr W23 (Or.inl (List.mem_of_getElem? (i := 0) rfl))
  have O25 : Old Z n0 h23 := O19.wr W23 g_a1
  have Fw23 : Fld Z h23 a1 "com/example/mirante/mirante/FieldDef" "name" "Ljava/lang/String;" (.ref a3) := f22.same W23
  have f26 := (f20.wr W23)
  have f28 := ((HF_a1_type.other W17 (Or.inr (slot_ne (Or.inr (hw _ (List.mem_of_getElem? (i := 107) rfl))) (Or.inr (hw _ (List.mem_of_getElem? (i := 103) rfl))) (by decide) (t := (.object "java/lang/String")) (t' := .int) (by decide) (by decide)))).other W23 (Or.inr (slot_ne (Or.inr (hw _ (List.mem_of_getElem? (i := 107) rfl))) (Or.inr (hw _ (List.mem_of_getElem? (i := 105) rfl))) (by decide) (t := (.object "java/lang/String")) (t' := (.object "java/lang/String")) (by decide) (by decide))))
  obtain ⟨T29, h29, X29, e29, W29, st29⟩ := putF X23 hx hZ hown (host := "") (Or.inl (hw _ (List.mem_of_getElem? (i := 106) rfl))) Via.refl e23 f28 f26 (Or.inr ⟨(hw _ (List.mem_of_getElem? (i := 107) rfl)), rfl, hnm⟩) (hw _ (List.mem_of_getElem? (i := 88) rfl)) (ty := (.object "java/lang/String")) (by decide) rfl rfl (g := (mkF m 16 #[.val (.ref a1), .val (.int p2), .val (.ref a3), .val (.ref a4), .val .null, .val (.int p5), .val (.ref a6), .val .null, .val (.ref a7), .val (.ref a8), .val (.ref a9), .val (.int p10), .val (.ref a11), .val (.ref a12), .val (.int p13), .val (.ref a14)] [(.ref a4), (.ref a1)])) rfl rfl (hb hby d14_16)
  have N29 := Fr.snoc X29 N23 g_a1
  have K30 : Keep h0 h29 [a1] := K24.wr W29 (Or.inl (List.mem_of_getElem? (i := 0) rfl))
  have O31 : Old Z n0 h29 := O25.wr W29 g_a1
  have Fw29 : Fld Z h29 a1 "com/example/mirante/mirante/FieldDef" "type" "Ljava/lang/String;" (.ref a4) := f28.same W29
  have f32 := (f26.wr W29)
  have f34 := (((HF_a1_format.other W17 (Or.inr (slot_ne (Or.inr (hw _ (List.mem_of_getElem? (i := 109) rfl))) (Or.inr (hw _ (List.mem_of_getElem? (i := 103) rfl))) (by decide) (t := (.object "com/example/mirante/mirante/FieldFormat")) (t' := .int) (by decide) (by decide)))).other W23 (Or.inr (slot_ne (Or.inr (hw _ (List.mem_of_getElem? (i := 109) rfl))) (Or.inr (hw _ (List.mem_of_getElem? (i := 105) rfl))) (by decide) (t := (.object "com/example/mirante/mirante/FieldFormat")) (t' := (.object "java/lang/String")) (by decide) (by decide)))).other W29 (Or.inr (slot_ne (Or.inr (hw _ (List.mem_of_getElem? (i := 109) rfl))) (Or.inr (hw _ (List.mem_of_getElem? (i := 107) rfl))) (by decide) (t := (.object "com/example/mirante/mirante/FieldFormat")) (t' := (.object "java/lang/String")) (by decide) (by decide))))
  obtain ⟨T35, h35, X35, e35, W35, st35⟩ := putF X29 hx hZ hown (host := "") (Or.inl (hw _ (List.mem_of_getElem? (i := 108) rfl))) Via.refl e29 f34 f32 (Or.inr ⟨(hw _ (List.mem_of_getElem? (i := 109) rfl)), rfl, hnm⟩) (hw _ (List.mem_of_getElem? (i := 88) rfl)) (ty := (.object "com/example/mirante/mirante/FieldFormat")) (by decide) rfl rfl (g := (mkF m 22 #[.val (.ref a1), .val (.int p2), .val (.ref a3), .val (.ref a4), .val .null, .val (.int p5), .val (.ref a6), .val .null, .val (.ref a7), .val (.ref a8), .val (.ref a9), .val (.int p10), .val (.ref a11), .val (.ref a12), .val (.int p13), .val (.ref a14)] [.null, (.ref a1)])) rfl rfl (hb hby d14_22)
  have N35 := Fr.snoc X35 N29 g_a1
  have K36 : Keep h0 h35 [a1] := K30.wr W35 (Or.inl (List.mem_of_getElem? (i := 0) rfl))
  have O37 : Old Z n0 h35 := O31.wr W35 g_a1
  have Fw35 : Fld Z h35 a1 "com/example/mirante/mirante/FieldDef" "format" "Lcom/example/mirante/mirante/FieldFormat;" .null := f34.same W35
  have f38 := (f32.wr W35)
  have f40 := ((((HF_a1_maxLength.other W17 (Or.inr (slot_ne (Or.inr (hw _ (List.mem_of_getElem? (i := 111) rfl))) (Or.inr (hw _ (List.mem_of_getElem? (i := 103) rfl))) (by decide) (t := .int) (t' := .int) (by decide) (by decide)))).other W23 (Or.inr (slot_ne (Or.inr (hw _ (List.mem_of_getElem? (i := 111) rfl))) (Or.inr (hw _ (List.mem_of_getElem? (i := 105) rfl))) (by decide) (t := .int) (t' := (.object "java/lang/String")) (by decide) (by decide)))).other W29 (Or.inr (slot_ne (Or.inr (hw _ (List.mem_of_getElem? (i := 111) rfl))) (Or.inr (hw _ (List.mem_of_getElem? (i := 107) rfl))) (by decide) (t := .int) (t' := (.object "java/lang/String")) (by decide) (by decide)))).other W35 (Or.inr (slot_ne (Or.inr (hw _ (List.mem_of_getElem? (i := 111) rfl))) (Or.inr (hw _ (List.mem_of_getElem? (i := 109) rfl))) (by decide) (t := .int) (t' := (.object "com/example/mirante/mirante/FieldFormat")) (by decide) (by decide))))
  obtain ⟨T41, h41, X41, e41, W41, st41⟩ := putF X35 hx hZ hown (host := "") (Or.inl (hw _ (List.mem_of_getElem? (i := 110) rfl))) Via.refl e35 f40 f38 (Or.inr ⟨(hw _ (List.mem_of_getElem? (i := 111) rfl)), rfl, hnm⟩) (hw _ (List.mem_of_getElem? (i := 88) rfl)) (ty := .int) (by decide) rfl rfl (g := (mkF m 28 #[.val (.ref a1), .val (.int p2), .val (.ref a3), .val (.ref a4), .val .null, .val (.int p5), .val (.ref a6), .val .null, .val (.ref a7), .val (.ref a8), .val (.ref a9), .val (.int p10), .val (.ref a11), .val (.ref a12), .val (.int p13), .val (.ref a14)] [(.int p5), (.ref a1)])) rfl rfl (hb hby d14_28)
  have N41 := Fr.snoc X41 N35 g_a1
  have K42 : Keep h0 h41 [a1] := K36.wr W41 (Or.inl (List.mem_of_getElem? (i := 0) rfl))
  have O43 : Old Z n0 h41 := O37.wr W41 g_a1
  have Fw41 : Fld Z h41 a1 "com/example/mirante/mirante/FieldDef" "maxLength" "I" (.int p5) := f40.same W41
  have f44 := (f38.wr W41)
  have f46 := (((((HF_a1_presence.other W17 (Or.inr (slot_ne (Or.inr (hw _ (List.mem_of_getElem? (i := 113) rfl))) (Or.inr (hw _ (List.mem_of_getElem? (i := 103) rfl))) (by decide) (t := (.object "com/example/mirante/mirante/FieldDef$Presence")) (t' := .int) (by decide) (by decide)))).other W23 (Or.inr (slot_ne (Or.inr (hw _ (List.mem_of_getElem? (i := 113) rfl))) (Or.inr (hw _ (List.mem_of_getElem? (i := 105) rfl))) (by decide) (t := (.object "com/example/mirante/mirante/FieldDef$Presence")) (t' := (.object "java/lang/String")) (by decide) (by decide)))).other W29 (Or.inr (slot_ne (Or.inr (hw _ (List.mem_of_getElem? (i := 113) rfl))) (Or.inr (hw _ (List.mem_of_getElem? (i := 107) rfl))) (by decide) (t := (.object "com/example/mirante/mirante/FieldDef$Presence")) (t' := (.object "java/lang/String")) (by decide) (by decide)))).other W35 (Or.inr (slot_ne (Or.inr (hw _ (List.mem_of_getElem? (i := 113) rfl))) (Or.inr (hw _ (List.mem_of_getElem? (i := 109) rfl))) (by decide) (t := (.object "com/example/mirante/mirante/FieldDef$Presence")) (t' := (.object "com/example/mirante/mirante/FieldFormat")) (by decide) (by decide)))).other W41 (Or.inr (slot_ne (Or.inr (hw _ (List.mem_of_getElem? (i := 113) rfl))) (Or.inr (hw _ (List.mem_of_getElem? (i := 111) rfl))) (by decide) (t := (.object "com/example/mirante/mirante/FieldDef$Presence")) (t' := .int) (by decide) (by decide))))
  obtain ⟨T47, h47, X47, e47, W47, st47⟩ := putF X41 hx hZ hown (host := "") (Or.inl (hw _ (List.mem_of_getElem? (i := 112) rfl))) Via.refl e41 f46 f44 (Or.inr ⟨(hw _ (List.mem_of_getElem? (i := 113) rfl)), rfl, hnm⟩) (hw _ (List.mem_of_getElem? (i := 88) rfl)) (ty := (.object "com/example/mirante/mirante/FieldDef$Presence")) (by decide) rfl rfl (g := (mkF m 34 #[.val (.ref a1), .val (.int p2), .val (.ref a3), .val (.ref a4), .val .null, .val (.int p5), .val (.ref a6), .val .null, .val (.ref a7), .val (.ref a8), .val (.ref a9), .val (.int p10), .val (.ref a11), .val (.ref a12), .val (.int p13), .val (.ref a14)] [(.ref a6), (.ref a1)])) rfl rfl (hb hby d14_34)
  have N47 := Fr.snoc X47 N41 g_a1
  have K48 : Keep h0 h47 [a1] := K42.wr W47 (Or.inl (List.mem_of_getElem? (i := 0) rfl))
  have O49 : Old Z n0 h47 := O43.wr W47 g_a1
  have Fw47 : Fld Z h47 a1 "com/example/mirante/mirante/FieldDef" "presence" "Lcom/example/mirante/mirante/FieldDef$Presence;" (.ref a6) := f46.same W47
  have f50 := (f44.wr W47)
  have f52 := ((((((HF_a1_values.other W17 (Or.inr (slot_ne (Or.inr (hw _ (List.mem_of_getElem? (i := 115) rfl))) (Or.inr (hw _ (List.mem_of_getElem? (i := 103) rfl))) (by decide) (t := (.object "java/util/Map")) (t' := .int) (by decide) (by decide)))).other W23 (Or.inr (slot_ne (Or.inr (hw _ (List.mem_of_getElem? (i := 115) rfl))) (Or.inr (hw _ (List.mem_of_getElem? (i := 105) rfl))) (by decide) (t := (.object "java/util/Map")) (t' := (.object "java/lang/String")) (by decide) (by decide)))).other W29 (Or.inr (slot_ne (Or.inr (hw _ (List.mem_of_getElem? (i := 115) rfl))) (Or.inr (hw _ (List.mem_of_getElem? (i := 107) rfl))) (by decide) (t := (.object "java/util/Map")) (t' := (.object "java/lang/String")) (by decide) (by decide)))).other W35 (Or.inr (slot_ne (Or.inr (hw _ (List.mem_of_getElem? (i := 115) rfl))) (Or.inr (hw _ (List.mem_of_getElem? (i := 109) rfl))) (by decide) (t := (.object "java/util/Map")) (t' := (.object "com/example/mirante/mirante/FieldFormat")) (by decide) (by decide)))).other W41 (Or.inr (slot_ne (Or.inr (hw _ (List.mem_of_getElem? (i := 115) rfl))) (Or.inr (hw _ (List.mem_of_getElem? (i := 111) rfl))) (by decide) (t := (.object "java/util/Map")) (t' := .int) (by decide) (by decide)))).other W47 (Or.inr (slot_ne (Or.inr (hw _ (List.mem_of_getElem? (i := 115) rfl))) (Or.inr (hw _ (List.mem_of_getElem? (i := 113) rfl))) (by decide) (t := (.object "java/util/Map")) (t' := (.object "com/example/mirante/mirante/FieldDef$Presence")) (by decide) (by decide))))
  obtain ⟨T53, h53, X53, e53, W53, st53⟩ := putF X47 hx hZ hown (host := "") (Or.inl (hw _ (List.mem_of_getElem? (i := 114) rfl))) Via.refl e47 f52 f50 (Or.inr ⟨(hw _ (List.mem_of_getElem? (i := 115) rfl)), rfl, hnm⟩) (hw _ (List.mem_of_getElem? (i := 88) rfl)) (ty := (.object "java/util/Map")) (by decide) rfl rfl (g := (mkF m 40 #[.val (.ref a1), .val (.int p2), .val (.ref a3), .val (.ref a4), .val .null, .val (.int p5), .val (.ref a6), .val .null, .val (.ref a7), .val (.ref a8), .val (.ref a9), .val (.int p10), .val (.ref a11), .val (.ref a12), .val (.int p13), .val (.ref a14)] [.null, (.ref a1)])) rfl rfl (hb hby d14_40)
  have N53 := Fr.snoc X53 N47 g_a1
  have K54 : Keep h0 h53 [a1] := K48.wr W53 (Or.inl (List.mem_of_getElem? (i := 0) rfl))
  have O55 : Old Z n0 h53 := O49.wr W53 g_a1
  have Fw53 : Fld Z h53 a1 "com/example/mirante/mirante/FieldDef" "values" "Ljava/util/Map;" .null := f52.same W53
  have f56 := (f50.wr W53)
  have f58 := (((((((HF_a1_range.other W17 (Or.inr (slot_ne (Or.inr (hw _ (List.mem_of_getElem? (i := 117) rfl))) (Or.inr (hw _ (List.mem_of_getElem? (i := 103) rfl))) (by decide) (t := (.object "com/example/mirante/mirante/FieldDef$Range")) (t' := .int) (by decide) (by decide)))).other W23 (Or.inr (slot_ne (Or.inr (hw _ (List.mem_of_getElem? (i := 117) rfl))) (Or.inr (hw _ (List.mem_of_getElem? (i := 105) rfl))) (by decide) (t := (.object "com/example/mirante/mirante/FieldDef$Range")) (t' := (.object "java/lang/String")) (by decide) (by decide)))).other W29 (Or.inr (slot_ne (Or.inr (hw _ (List.mem_of_getElem? (i := 117) rfl))) (Or.inr (hw _ (List.mem_of_getElem? (i := 107) rfl))) (by decide) (t := (.object "com/example/mirante/mirante/FieldDef$Range")) (t' := (.object "java/lang/String")) (by decide) (by decide)))).other W35 (Or.inr (slot_ne (Or.inr (hw _ (List.mem_of_getElem? (i := 117) rfl))) (Or.inr (hw _ (List.mem_of_getElem? (i := 109) rfl))) (by decide) (t := (.object "com/example/mirante/mirante/FieldDef$Range")) (t' := (.object "com/example/mirante/mirante/FieldFormat")) (by decide) (by decide)))).other W41 (Or.inr (slot_ne (Or.inr (hw _ (List.mem_of_getElem? (i := 117) rfl))) (Or.inr (hw _ (List.mem_of_getElem? (i := 111) rfl))) (by decide) (t := (.object "com/example/mirante/mirante/FieldDef$Range")) (t' := .int) (by decide) (by decide)))).other W47 (Or.inr (slot_ne (Or.inr (hw _ (List.mem_of_getElem? (i := 117) rfl))) (Or.inr (hw _ (List.mem_of_getElem? (i := 113) rfl))) (by decide) (t := (.object "com/example/mirante/mirante/FieldDef$Range")) (t' := (.object "com/example/mirante/mirante/FieldDef$Presence")) (by decide) (by decide)))).other W53 (Or.inr (slot_ne (Or.inr (hw _ (List.mem_of_getElem? (i := 117) rfl))) (Or.inr (hw _ (List.mem_of_getElem? (i := 115) rfl))) (by decide) (t := (.object "com/example/mirante/mirante/FieldDef$Range")) (t' := (.object "java/util/Map")) (by decide) (by decide))))
  obtain ⟨T59, h59, X59, e59, W59, st59⟩ := putF X53 hx hZ hown (host := "") (Or.inl (hw _ (List.mem_of_getElem? (i := 116) rfl))) Via.refl e53 f58 f56 (Or.inr ⟨(hw _ (List.mem_of_getElem? (i := 117) rfl)), rfl, hnm⟩) (hw _ (List.mem_of_getElem? (i := 88) rfl)) (ty := (.object "com/example/mirante/mirante/FieldDef$Range")) (by decide) rfl rfl (g := (mkF m 46 #[.val (.ref a1), .val (.int p2), .val (.ref a3), .val (.ref a4), .val .null, .val (.int p5), .val (.ref a6), .val .null, .val (.ref a7), .val (.ref a8), .val (.ref a9), .val (.int p10), .val (.ref a11), .val (.ref a12), .val (.int p13), .val (.ref a14)] [(.ref a7), (.ref a1)])) rfl rfl (hb hby d14_46)
  have N59 := Fr.snoc X59 N53 g_a1
  have K60 : Keep h0 h59 [a1] := K54.wr W59 (Or.inl (List.mem_of_getElem? (i := 0) rfl))
  have O61 : Old Z n0 h59 := O55.wr W59 g_a1
  have Fw59 : Fld Z h59 a1 "com/example/mirante/mirante/FieldDef" "range" "Lcom/example/mirante/mirante/FieldDef$Range;" (.ref a7) := f58.same W59
  have f62 := (f56.wr W59)
  have f64 := ((((((((HF_a1_rules.other W17 (Or.inr (slot_ne (Or.inr (hw _ (List.mem_of_getElem? (i := 119) rfl))) (Or.inr (hw _ (List.mem_of_getElem? (i := 103) rfl))) (by decide) (t := (.object "java/util/List")) (t' := .int) (by decide) (by decide)))).other W23 (Or.inr (slot_ne (Or.inr (hw _ (List.mem_of_getElem? (i := 119) rfl))) (Or.inr (hw _ (List.mem_of_getElem? (i := 105) rfl))) (by decide) (t := (.object "java/util/List")) (t' := (.object "java/lang/String")) (by decide) (by decide)))).other W29 (Or.inr (slot_ne (Or.inr (hw _ (List.mem_of_getElem? (i := 119) rfl))) (Or.inr (hw _ (List.mem_of_getElem? (i := 107) rfl))) (by decide) (t := (.object "java/util/List")) (t' := (.object "java/lang/String")) (by decide) (by decide)))).other W35 (Or.inr (slot_ne (Or.inr (hw _ (List.mem_of_getElem? (i := 119) rfl))) (Or.inr (hw _ (List.mem_of_getElem? (i := 109) rfl))) (by decide) (t := (.object "java/util/List")) (t' := (.object "com/example/mirante/mirante/FieldFormat")) (by decide) (by decide)))).other W41 (Or.inr (slot_ne (Or.inr (hw _ (List.mem_of_getElem? (i := 119) rfl))) (Or.inr (hw _ (List.mem_of_getElem? (i := 111) rfl))) (by decide) (t := (.object "java/util/List")) (t' := .int) (by decide) (by decide)))).other W47 (Or.inr (slot_ne (Or.inr (hw _ (List.mem_of_getElem? (i := 119) rfl))) (Or.inr (hw _ (List.mem_of_getElem? (i := 113) rfl))) (by decide) (t := (.object "java/util/List")) (t' := (.object "com/example/mirante/mirante/FieldDef$Presence")) (by decide) (by decide)))).other W53 (Or.inr (slot_ne (Or.inr (hw _ (List.mem_of_getElem? (i := 119) rfl))) (Or.inr (hw _ (List.mem_of_getElem? (i := 115) rfl))) (by decide) (t := (.object "java/util/List")) (t' := (.object "java/util/Map")) (by decide) (by decide)))).other W59 (Or.inr (slot_ne (Or.inr (hw _ (List.mem_of_getElem? (i := 119) rfl))) (Or.inr (hw _ (List.mem_of_getElem? (i := 117) rfl))) (by decide) (t := (.object "java/util/List")) (t' := (.object "com/example/mirante/mirante/FieldDef$Range")) (by decide) (by decide))))
  obtain ⟨T65, h65, X65, e65, W65, st65⟩ := putF X59 hx hZ hown (host := "") (Or.inl (hw _ (List.mem_of_getElem? (i := 118) rfl))) Via.refl e59 f64 f62 (Or.inr ⟨(hw _ (List.mem_of_getElem? (i := 119) rfl)), rfl, hnm⟩) (hw _ (List.mem_of_getElem? (i := 88) rfl)) (ty := (.object "java/util/List")) (by decide) rfl rfl (g := (mkF m 52 #[.val (.ref a1), .val (.int p2), .val (.ref a3), .val (.ref a4), .val .null, .val (.int p5), .val (.ref a6), .val .null, .val (.ref a7), .val (.ref a8), .val (.ref a9), .val (.int p10), .val (.ref a11), .val (.ref a12), .val (.int p13), .val (.ref a14)] [(.ref a8), (.ref a1)])) rfl rfl (hb hby d14_52)
  have N65 := Fr.snoc X65 N59 g_a1
  have K66 : Keep h0 h65 [a1] := K60.wr W65 (Or.inl (List.mem_of_getElem? (i := 0) rfl))
  have O67 : Old Z n0 h65 := O61.wr W65 g_a1
  have Fw65 : Fld Z h65 a1 "com/example/mirante/mirante/FieldDef" "rules" "Ljava/util/List;" (.ref a8) := f64.same W65
  have f68 := (f62.wr W65)
  have f70 := (((((((((HF_a1_conditions.other W17 (Or.inr (slot_ne (Or.inr (hw _ (List.mem_of_getElem? (i := 121) rfl))) (Or.inr (hw _ (List.mem_of_getElem? (i := 103) rfl))) (by decide) (t := (.object "java/util/List")) (t' := .int) (by decide) (by decide)))).other W23 (Or.inr (slot_ne (Or.inr (hw _ (List.mem_of_getElem? (i := 121) rfl))) (Or.inr (hw _ (List.mem_of_getElem? (i := 105) rfl))) (by decide) (t := (.object "java/util/List")) (t' := (.object "java/lang/String")) (by decide) (by decide)))).other W29 (Or.inr (slot_ne (Or.inr (hw _ (List.mem_of_getElem? (i := 121) rfl))) (Or.inr (hw _ (List.mem_of_getElem? (i := 107) rfl))) (by decide) (t := (.object "java/util/List")) (t' := (.object "java/lang/String")) (by decide) (by decide)))).other W35 (Or.inr (slot_ne (Or.inr (hw _ (List.mem_of_getElem? (i := 121) rfl))) (Or.inr (hw _ (List.mem_of_getElem? (i := 109) rfl))) (by decide) (t := (.object "java/util/List")) (t' := (.object "com/example/mirante/mirante/FieldFormat")) (by decide) (by decide)))).other W41 (Or.inr (slot_ne (Or.inr (hw _ (List.mem_of_getElem? (i := 121) rfl))) (Or.inr (hw _ (List.mem_of_getElem? (i := 111) rfl))) (by decide) (t := (.object "java/util/List")) (t' := .int) (by decide) (by decide)))).other W47 (Or.inr (slot_ne (Or.inr (hw _ (List.mem_of_getElem? (i := 121) rfl))) (Or.inr (hw _ (List.mem_of_getElem? (i := 113) rfl))) (by decide) (t := (.object "java/util/List")) (t' := (.object "com/example/mirante/mirante/FieldDef$Presence")) (by decide) (by decide)))).other W53 (Or.inr (slot_ne (Or.inr (hw _ (List.mem_of_getElem? (i := 121) rfl))) (Or.inr (hw _ (List.mem_of_getElem? (i := 115) rfl))) (by decide) (t := (.object "java/util/List")) (t' := (.object "java/util/Map")) (by decide) (by decide)))).other W59 (Or.inr (slot_ne (Or.inr (hw _ (List.mem_of_getElem? (i := 121) rfl))) (Or.inr (hw _ (List.mem_of_getElem? (i := 117) rfl))) (by decide) (t := (.object "java/util/List")) (t' := (.object "com/example/mirante/mirante/FieldDef$Range")) (by decide) (by decide)))).other W65 (Or.inr (slot_ne (Or.inr (hw _ (List.mem_of_getElem? (i := 121) rfl))) (Or.inr (hw _ (List.mem_of_getElem? (i := 119) rfl))) (by decide) (t := (.object "java/util/List")) (t' := (.object "java/util/List")) (by decide) (by decide))))
  obtain ⟨T71, h71, X71, e71, W71, st71⟩ := putF X65 hx hZ hown (host := "") (Or.inl (hw _ (List.mem_of_getElem? (i := 120) rfl))) Via.refl e65 f70 f68 (Or.inr ⟨(hw _ (List.mem_of_getElem? (i := 121) rfl)), rfl, hnm⟩) (hw _ (List.mem_of_getElem? (i := 88) rfl)) (ty := (.object "java/util/List")) (by decide) rfl rfl (g := (mkF m 58 #[.val (.ref a1), .val (.int p2), .val (.ref a3), .val (.ref a4), .val .null, .val (.int p5), .val (.ref a6), .val .null, .val (.ref a7), .val (.ref a8), .val (.ref a9), .val (.int p10), .val (.ref a11), .val (.ref a12), .val (.int p13), .val (.ref a14)] [(.ref a9), (.ref a1)])) rfl rfl (hb hby d14_58)
  have N71 := Fr.snoc X71 N65 g_a1
  have K72 : Keep h0 h71 [a1] := K66.wr W71 (Or.inl (List.mem_of_getElem? (i := 0) rfl))
  have O73 : Old Z n0 h71 := O67.wr W71 g_a1
  have Fw71 : Fld Z h71 a1 "com/example/mirante/mirante/FieldDef" "conditions" "Ljava/util/List;" (.ref a9) := f70.same W71
  have f74 := (f68.wr W71)
  have f76 := ((((((((((HF_a1_count.other W17 (Or.inr (slot_ne (Or.inr (hw _ (List.mem_of_getElem? (i := 123) rfl))) (Or.inr (hw _ (List.mem_of_getElem? (i := 103) rfl))) (by decide) (t := .int) (t' := .int) (by decide) (by decide)))).other W23 (Or.inr (slot_ne (Or.inr (hw _ (List.mem_of_getElem? (i := 123) rfl))) (Or.inr (hw _ (List.mem_of_getElem? (i := 105) rfl))) (by decide) (t := .int) (t' := (.object "java/lang/String")) (by decide) (by decide)))).other W29 (Or.inr (slot_ne (Or.inr (hw _ (List.mem_of_getElem? (i := 123) rfl))) (Or.inr (hw _ (List.mem_of_getElem? (i := 107) rfl))) (by decide) (t := .int) (t' := (.object "java/lang/String")) (by decide) (by decide)))).other W35 (Or.inr (slot_ne (Or.inr (hw _ (List.mem_of_getElem? (i := 123) rfl))) (Or.inr (hw _ (List.mem_of_getElem? (i := 109) rfl))) (by decide) (t := .int) (t' := (.object "com/example/mirante/mirante/FieldFormat")) (by decide) (by decide)))).other W41 (Or.inr (slot_ne (Or.inr (hw _ (List.mem_of_getElem? (i := 123) rfl))) (Or.inr (hw _ (List.mem_of_getElem? (i := 111) rfl))) (by decide) (t := .int) (t' := .int) (by decide) (by decide)))).other W47 (Or.inr (slot_ne (Or.inr (hw _ (List.mem_of_getElem? (i := 123) rfl))) (Or.inr (hw _ (List.mem_of_getElem? (i := 113) rfl))) (by decide) (t := .int) (t' := (.object "com/example/mirante/mirante/FieldDef$Presence")) (by decide) (by decide)))).other W53 (Or.inr (slot_ne (Or.inr (hw _ (List.mem_of_getElem? (i := 123) rfl))) (Or.inr (hw _ (List.mem_of_getElem? (i := 115) rfl))) (by decide) (t := .int) (t' := (.object "java/util/Map")) (by decide) (by decide)))).other W59 (Or.inr (slot_ne (Or.inr (hw _ (List.mem_of_getElem? (i := 123) rfl))) (Or.inr (hw _ (List.mem_of_getElem? (i := 117) rfl))) (by decide) (t := .int) (t' := (.object "com/example/mirante/mirante/FieldDef$Range")) (by decide) (by decide)))).other W65 (Or.inr (slot_ne (Or.inr (hw _ (List.mem_of_getElem? (i := 123) rfl))) (Or.inr (hw _ (List.mem_of_getElem? (i := 119) rfl))) (by decide) (t := .int) (t' := (.object "java/util/List")) (by decide) (by decide)))).other W71 (Or.inr (slot_ne (Or.inr (hw _ (List.mem_of_getElem? (i := 123) rfl))) (Or.inr (hw _ (List.mem_of_getElem? (i := 121) rfl))) (by decide) (t := .int) (t' := (.object "java/util/List")) (by decide) (by decide))))
  obtain ⟨T77, h77, X77, e77, W77, st77⟩ := putF X71 hx hZ hown (host := "") (Or.inl (hw _ (List.mem_of_getElem? (i := 122) rfl))) Via.refl e71 f76 f74 (Or.inr ⟨(hw _ (List.mem_of_getElem? (i := 123) rfl)), rfl, hnm⟩) (hw _ (List.mem_of_getElem? (i := 88) rfl)) (ty := .int) (by decide) rfl rfl (g := (mkF m 64 #[.val (.ref a1), .val (.int p2), .val (.ref a3), .val (.ref a4), .val .null, .val (.int p5), .val (.ref a6), .val .null, .val (.ref a7), .val (.ref a8), .val (.ref a9), .val (.int p10), .val (.ref a11), .val (.ref a12), .val (.int p13), .val (.ref a14)] [(.int p10), (.ref a1)])) rfl rfl (hb hby d14_64)
  have N77 := Fr.snoc X77 N71 g_a1
  have K78 : Keep h0 h77 [a1] := K72.wr W77 (Or.inl (List.mem_of_getElem? (i := 0) rfl))
  have O79 : Old Z n0 h77 := O73.wr W77 g_a1
  have Fw77 : Fld Z h77 a1 "com/example/mirante/mirante/FieldDef" "count" "I" (.int p10) := f76.same W77
  have f80 := (f74.wr W77)
  have f82 := (((((((((((HF_a1_anyPresent.other W17 (Or.inr (slot_ne (Or.inr (hw _ (List.mem_of_getElem? (i := 125) rfl))) (Or.inr (hw _ (List.mem_of_getElem? (i := 103) rfl))) (by decide) (t := (.object "java/util/List")) (t' := .int) (by decide) (by decide)))).other W23 (Or.inr (slot_ne (Or.inr (hw _ (List.mem_of_getElem? (i := 125) rfl))) (Or.inr (hw _ (List.mem_of_getElem? (i := 105) rfl))) (by decide) (t := (.object "java/util/List")) (t' := (.object "java/lang/String")) (by decide) (by decide)))).other W29 (Or.inr (slot_ne (Or.inr (hw _ (List.mem_of_getElem? (i := 125) rfl))) (Or.inr (hw _ (List.mem_of_getElem? (i := 107) rfl))) (by decide) (t := (.object "java/util/List")) (t' := (.object "java/lang/String")) (by decide) (by decide)))).other W35 (Or.inr (slot_ne (Or.inr (hw _ (List.mem_of_getElem? (i := 125) rfl))) (Or.inr (hw _ (List.mem_of_getElem? (i := 109) rfl))) (by decide) (t := (.object "java/util/List")) (t' := (.object "com/example/mirante/mirante/FieldFormat")) (by decide) (by decide)))).other W41 (Or.inr (slot_ne (Or.inr (hw _ (List.mem_of_getElem? (i := 125) rfl))) (Or.inr (hw _ (List.mem_of_getElem? (i := 111) rfl))) (by decide) (t := (.object "java/util/List")) (t' := .int) (by decide) (by decide)))).other W47 (Or.inr (slot_ne (Or.inr (hw _ (List.mem_of_getElem? (i := 125) rfl))) (Or.inr (hw _ (List.mem_of_getElem? (i := 113) rfl))) (by decide) (t := (.object "java/util/List")) (t' := (.object "com/example/mirante/mirante/FieldDef$Presence")) (by decide) (by decide)))).other W53 (Or.inr (slot_ne (Or.inr (hw _ (List.mem_of_getElem? (i := 125) rfl))) (Or.inr (hw _ (List.mem_of_getElem? (i := 115) rfl))) (by decide) (t := (.object "java/util/List")) (t' := (.object "java/util/Map")) (by decide) (by decide)))).other W59 (Or.inr (slot_ne (Or.inr (hw _ (List.mem_of_getElem? (i := 125) rfl))) (Or.inr (hw _ (List.mem_of_getElem? (i := 117) rfl))) (by decide) (t := (.object "java/util/List")) (t' := (.object "com/example/mirante/mirante/FieldDef$Range")) (by decide) (by decide)))).other W65 (Or.inr (slot_ne (Or.inr (hw _ (List.mem_of_getElem? (i := 125) rfl))) (Or.inr (hw _ (List.mem_of_getElem? (i := 119) rfl))) (by decide) (t := (.object "java/util/List")) (t' := (.object "java/util/List")) (by decide) (by decide)))).other W71 (Or.inr (slot_ne (Or.inr (hw _ (List.mem_of_getElem? (i := 125) rfl))) (Or.inr (hw _ (List.mem_of_getElem? (i := 121) rfl))) (by decide) (t := (.object "java/util/List")) (t' := (.object "java/util/List")) (by decide) (by decide)))).other W77 (Or.inr (slot_ne (Or.inr (hw _ (List.mem_of_getElem? (i := 125) rfl))) (Or.inr (hw _ (List.mem_of_getElem? (i := 123) rfl))) (by decide) (t := (.object "java/util/List")) (t' := .int) (by decide) (by decide))))
  obtain ⟨T83, h83, X83, e83, W83, st83⟩ := putF X77 hx hZ hown (host := "") (Or.inl (hw _ (List.mem_of_getElem? (i := 124) rfl))) Via.refl e77 f82 f80 (Or.inr ⟨(hw _ (List.mem_of_getElem? (i := 125) rfl)), rfl, hnm⟩) (hw _ (List.mem_of_getElem? (i := 88) rfl)) (ty := (.object "java/util/List")) (by decide) rfl rfl (g := (mkF m 70 #[.val (.ref a1), .val (.int p2), .val (.ref a3), .val (.ref a4), .val .null, .val (.int p5), .val (.ref a6), .val .null, .val (.ref a7), .val (.ref a8), .val (.ref a9), .val (.int p10), .val (.ref a11), .val (.ref a12), .val (.int p13), .val (.ref a14)] [(.ref a11), (.ref a1)])) rfl rfl (hb hby d14_70)
  have N83 := Fr.snoc X83 N77 g_a1
  have K84 : Keep h0 h83 [a1] := K78.wr W83 (Or.inl (List.mem_of_getElem? (i := 0) rfl))
  have O85 : Old Z n0 h83 := O79.wr W83 g_a1
  have Fw83 : Fld Z h83 a1 "com/example/mirante/mirante/FieldDef" "anyPresent" "Ljava/util/List;" (.ref a11) := f82.same W83
  have f86 := (f80.wr W83)
  have f88 := ((((((((((((HF_a1_before.other W17 (Or.inr (slot_ne (Or.inr (hw _ (List.mem_of_getElem? (i := 127) rfl))) (Or.inr (hw _ (List.mem_of_getElem? (i := 103) rfl))) (by decide) (t := (.object "java/util/List")) (t' := .int) (by decide) (by decide)))).other W23 (Or.inr (slot_ne (Or.inr (hw _ (List.mem_of_getElem? (i := 127) rfl))) (Or.inr (hw _ (List.mem_of_getElem? (i := 105) rfl))) (by decide) (t := (.object "java/util/List")) (t' := (.object "java/lang/String")) (by decide) (by decide)))).other W29 (Or.inr (slot_ne (Or.inr (hw _ (List.mem_of_getElem? (i := 127) rfl))) (Or.inr (hw _ (List.mem_of_getElem? (i := 107) rfl))) (by decide) (t := (.object "java/util/List")) (t' := (.object "java/lang/String")) (by decide) (by decide)))).other W35 (Or.inr (slot_ne (Or.inr (hw _ (List.mem_of_getElem? (i := 127) rfl))) (Or.inr (hw _ (List.mem_of_getElem? (i := 109) rfl))) (by decide) (t := (.object "java/util/List")) (t' := (.object "com/example/mirante/mirante/FieldFormat")) (by decide) (by decide)))).other W41 (Or.inr (slot_ne (Or.inr (hw _ (List.mem_of_getElem? (i := 127) rfl))) (Or.inr (hw _ (List.mem_of_getElem? (i := 111) rfl))) (by decide) (t := (.object "java/util/List")) (t' := .int) (by decide) (by decide)))).other W47 (Or.inr (slot_ne (Or.inr (hw _ (List.mem_of_getElem? (i := 127) rfl))) (Or.inr (hw _ (List.mem_of_getElem? (i := 113) rfl))) (by decide) (t := (.object "java/util/List")) (t' := (.object "com/example/mirante/mirante/FieldDef$Presence")) (by decide) (by decide)))).other W53 (Or.inr (slot_ne (Or.inr (hw _ (List.mem_of_getElem? (i := 127) rfl))) (Or.inr (hw _ (List.mem_of_getElem? (i := 115) rfl))) (by decide) (t := (.object "java/util/List")) (t' := (.object "java/util/Map")) (by decide) (by decide)))).other W59 (Or.inr (slot_ne (Or.inr (hw _ (List.mem_of_getElem? (i := 127) rfl))) (Or.inr (hw _ (List.mem_of_getElem? (i := 117) rfl))) (by decide) (t := (.object "java/util/List")) (t' := (.object "com/example/mirante/mirante/FieldDef$Range")) (by decide) (by decide)))).other W65 (Or.inr (slot_ne (Or.inr (hw _ (List.mem_of_getElem? (i := 127) rfl))) (Or.inr (hw _ (List.mem_of_getElem? (i := 119) rfl))) (by decide) (t := (.object "java/util/List")) (t' := (.object "java/util/List")) (by decide) (by decide)))).other W71 (Or.inr (slot_ne (Or.inr (hw _ (List.mem_of_getElem? (i := 127) rfl))) (Or.inr (hw _ (List.mem_of_getElem? (i := 121) rfl))) (by decide) (t := (.object "java/util/List")) (t' := (.object "java/util/List")) (by decide) (by decide)))).other W77 (Or.inr (slot_ne (Or.inr (hw _ (List.mem_of_getElem? (i := 127) rfl))) (Or.inr (hw _ (List.mem_of_getElem? (i := 123) rfl))) (by decide) (t := (.object "java/util/List")) (t' := .int) (by decide) (by decide)))).other W83 (Or.inr (slot_ne (Or.inr (hw _ (List.mem_of_getElem? (i := 127) rfl))) (Or.inr (hw _ (List.mem_of_getElem? (i := 125) rfl))) (by decide) (t := (.object "java/util/List")) (t' := (.object "java/util/List")) (by decide) (by decide))))
  obtain ⟨T89, h89, X89, e89, W89, st89⟩ := putF X83 hx hZ hown (host := "") (Or.inl (hw _ (List.mem_of_getElem? (i := 126) rfl))) Via.refl e83 f88 f86 (Or.inr ⟨(hw _ (List.mem_of_getElem? (i := 127) rfl)), rfl, hnm⟩) (hw _ (List.mem_of_getElem? (i := 88) rfl)) (ty := (.object "java/util/List")) (by decide) rfl rfl (g := (mkF m 76 #[.val (.ref a1), .val (.int p2), .val (.ref a3), .val (.ref a4), .val .null, .val (.int p5), .val (.ref a6), .val .null, .val (.ref a7), .val (.ref a8), .val (.ref a9), .val (.int p10), .val (.ref a11), .val (.ref a12), .val (.int p13), .val (.ref a14)] [(.ref a12), (.ref a1)])) rfl rfl (hb hby d14_76)
  have N89 := Fr.snoc X89 N83 g_a1
  have K90 : Keep h0 h89 [a1] := K84.wr W89 (Or.inl (List.mem_of_getElem? (i := 0) rfl))
  have O91 : Old Z n0 h89 := O85.wr W89 g_a1
  have Fw89 : Fld Z h89 a1 "com/example/mirante/mirante/FieldDef" "before" "Ljava/util/List;" (.ref a12) := f88.same W89
  have f92 := (f86.wr W89)
  have f94 := (((((((((((((HF_a1_lengthOf.other W17 (Or.inr (slot_ne (Or.inr (hw _ (List.mem_of_getElem? (i := 129) rfl))) (Or.inr (hw _ (List.mem_of_getElem? (i := 103) rfl))) (by decide) (t := .int) (t' := .int) (by decide) (by decide)))).other W23 (Or.inr (slot_ne (Or.inr (hw _ (List.mem_of_getElem? (i := 129) rfl))) (Or.inr (hw _ (List.mem_of_getElem? (i := 105) rfl))) (by decide) (t := .int) (t' := (.object "java/lang/String")) (by decide) (by decide)))).other W29 (Or.inr (slot_ne (Or.inr (hw _ (List.mem_of_getElem? (i := 129) rfl))) (Or.inr (hw _ (List.mem_of_getElem? (i := 107) rfl))) (by decide) (t := .int) (t' := (.object "java/lang/String")) (by decide) (by decide)))).other W35 (Or.inr (slot_ne (Or.inr (hw _ (List.mem_of_getElem? (i := 129) rfl))) (Or.inr (hw _ (List.mem_of_getElem? (i := 109) rfl))) (by decide) (t := .int) (t' := (.object "com/example/mirante/mirante/FieldFormat")) (by decide) (by decide)))).other W41 (Or.inr (slot_ne (Or.inr (hw _ (List.mem_of_getElem? (i := 129) rfl))) (Or.inr (hw _ (List.mem_of_getElem? (i := 111) rfl))) (by decide) (t := .int) (t' := .int) (by decide) (by decide)))).other W47 (Or.inr (slot_ne (Or.inr (hw _ (List.mem_of_getElem? (i := 129) rfl))) (Or.inr (hw _ (List.mem_of_getElem? (i := 113) rfl))) (by decide) (t := .int) (t' := (.object "com/example/mirante/mirante/FieldDef$Presence")) (by decide) (by decide)))).other W53 (Or.inr (slot_ne (Or.inr (hw _ (List.mem_of_getElem? (i := 129) rfl))) (Or.inr (hw _ (List.mem_of_getElem? (i := 115) rfl))) (by decide) (t := .int) (t' := (.object "java/util/Map")) (by decide) (by decide)))).other W59 (Or.inr (slot_ne (Or.inr (hw _ (List.mem_of_getElem? (i := 129) rfl))) (Or.inr (hw _ (List.mem_of_getElem? (i := 117) rfl))) (by decide) (t := .int) (t' := (.object "com/example/mirante/mirante/FieldDef$Range")) (by decide) (by decide)))).other W65 (Or.inr (slot_ne (Or.inr (hw _ (List.mem_of_getElem? (i := 129) rfl))) (Or.inr (hw _ (List.mem_of_getElem? (i := 119) rfl))) (by decide) (t := .int) (t' := (.object "java/util/List")) (by decide) (by decide)))).other W71 (Or.inr (slot_ne (Or.inr (hw _ (List.mem_of_getElem? (i := 129) rfl))) (Or.inr (hw _ (List.mem_of_getElem? (i := 121) rfl))) (by decide) (t := .int) (t' := (.object "java/util/List")) (by decide) (by decide)))).other W77 (Or.inr (slot_ne (Or.inr (hw _ (List.mem_of_getElem? (i := 129) rfl))) (Or.inr (hw _ (List.mem_of_getElem? (i := 123) rfl))) (by decide) (t := .int) (t' := .int) (by decide) (by decide)))).other W83 (Or.inr (slot_ne (Or.inr (hw _ (List.mem_of_getElem? (i := 129) rfl))) (Or.inr (hw _ (List.mem_of_getElem? (i := 125) rfl))) (by decide) (t := .int) (t' := (.object "java/util/List")) (by decide) (by decide)))).other W89 (Or.inr (slot_ne (Or.inr (hw _ (List.mem_of_getElem? (i := 129) rfl))) (Or.inr (hw _ (List.mem_of_getElem? (i := 127) rfl))) (by decide) (t := .int) (t' := (.object "java/util/List")) (by decide) (by decide))))
  obtain ⟨T95, h95, X95, e95, W95, st95⟩ := putF X89 hx hZ hown (host := "") (Or.inl (hw _ (List.mem_of_getElem? (i := 128) rfl))) Via.refl e89 f94 f92 (Or.inr ⟨(hw _ (List.mem_of_getElem? (i := 129) rfl)), rfl, hnm⟩) (hw _ (List.mem_of_getElem? (i := 88) rfl)) (ty := .int) (by decide) rfl rfl (g := (mkF m 82 #[.val (.ref a1), .val (.int p2), .val (.ref a3), .val (.ref a4), .val .null, .val (.int p5), .val (.ref a6), .val .null, .val (.ref a7), .val (.ref a8), .val (.ref a9), .val (.int p10), .val (.ref a11), .val (.ref a12), .val (.int p13), .val (.ref a14)] [(.int p13), (.ref a1)])) rfl rfl (hb hby d14_82)
  have N95 := Fr.snoc X95 N89 g_a1
  have K96 : Keep h0 h95 [a1] := K90.wr W95 (Or.inl (List.mem_of_getElem? (i := 0) rfl))
  have O97 : Old Z n0 h95 := O91.wr W95 g_a1
  have Fw95 : Fld Z h95 a1 "com/example/mirante/mirante/FieldDef" "lengthOf" "I" (.int p13) := f94.same W95
  have f98 := (f92.wr W95)
  have f100 := ((((((((((((((HF_a1_members.other W17 (Or.inr (slot_ne (Or.inr (hw _ (List.mem_of_getElem? (i := 131) rfl))) (Or.inr (hw _ (List.mem_of_getElem? (i := 103) rfl))) (by decide) (t := (.object "java/util/List")) (t' := .int) (by decide) (by decide)))).other W23 (Or.inr (slot_ne (Or.inr (hw _ (List.mem_of_getElem? (i := 131) rfl))) (Or.inr (hw _ (List.mem_of_getElem? (i := 105) rfl))) (by decide) (t := (.object "java/util/List")) (t' := (.object "java/lang/String")) (by decide) (by decide)))).other W29 (Or.inr (slot_ne (Or.inr (hw _ (List.mem_of_getElem? (i := 131) rfl))) (Or.inr (hw _ (List.mem_of_getElem? (i := 107) rfl))) (by decide) (t := (.object "java/util/List")) (t' := (.object "java/lang/String")) (by decide) (by decide)))).other W35 (Or.inr (slot_ne (Or.inr (hw _ (List.mem_of_getElem? (i := 131) rfl))) (Or.inr (hw _ (List.mem_of_getElem? (i := 109) rfl))) (by decide) (t := (.object "java/util/List")) (t' := (.object "com/example/mirante/mirante/FieldFormat")) (by decide) (by decide)))).other W41 (Or.inr (slot_ne (Or.inr (hw _ (List.mem_of_getElem? (i := 131) rfl))) (Or.inr (hw _ (List.mem_of_getElem? (i := 111) rfl))) (by decide) (t := (.object "java/util/List")) (t' := .int) (by decide) (by decide)))).other W47 (Or.inr (slot_ne (Or.inr (hw _ (List.mem_of_getElem? (i := 131) rfl))) (Or.inr (hw _ (List.mem_of_getElem? (i := 113) rfl))) (by decide) (t := (.object "java/util/List")) (t' := (.object "com/example/mirante/mirante/FieldDef$Presence")) (by decide) (by decide)))).other W53 (Or.inr (slot_ne (Or.inr (hw _ (List.mem_of_getElem? (i := 131) rfl))) (Or.inr (hw _ (List.mem_of_getElem? (i := 115) rfl))) (by decide) (t := (.object "java/util/List")) (t' := (.object "java/util/Map")) (by decide) (by decide)))).other W59 (Or.inr (slot_ne (Or.inr (hw _ (List.mem_of_getElem? (i := 131) rfl))) (Or.inr (hw _ (List.mem_of_getElem? (i := 117) rfl))) (by decide) (t := (.object "java/util/List")) (t' := (.object "com/example/mirante/mirante/FieldDef$Range")) (by decide) (by decide)))).other W65 (Or.inr (slot_ne (Or.inr (hw _ (List.mem_of_getElem? (i := 131) rfl))) (Or.inr (hw _ (List.mem_of_getElem? (i := 119) rfl))) (by decide) (t := (.object "java/util/List")) (t' := (.object "java/util/List")) (by decide) (by decide)))).other W71 (Or.inr (slot_ne (Or.inr (hw _ (List.mem_of_getElem? (i := 131) rfl))) (Or.inr (hw _ (List.mem_of_getElem? (i := 121) rfl))) (by decide) (t := (.object "java/util/List")) (t' := (.object "java/util/List")) (by decide) (by decide)))).other W77 (Or.inr (slot_ne (Or.inr (hw _ (List.mem_of_getElem? (i := 131) rfl))) (Or.inr (hw _ (List.mem_of_getElem? (i := 123) rfl))) (by decide) (t := (.object "java/util/List")) (t' := .int) (by decide) (by decide)))).other W83 (Or.inr (slot_ne (Or.inr (hw _ (List.mem_of_getElem? (i := 131) rfl))) (Or.inr (hw _ (List.mem_of_getElem? (i := 125) rfl))) (by decide) (t := (.object "java/util/List")) (t' := (.object "java/util/List")) (by decide) (by decide)))).other W89 (Or.inr (slot_ne (Or.inr (hw _ (List.mem_of_getElem? (i := 131) rfl))) (Or.inr (hw _ (List.mem_of_getElem? (i := 127) rfl))) (by decide) (t := (.object "java/util/List")) (t' := (.object "java/util/List")) (by decide) (by decide)))).other W95 (Or.inr (slot_ne (Or.inr (hw _ (List.mem_of_getElem? (i := 131) rfl))) (Or.inr (hw _ (List.mem_of_getElem? (i := 129) rfl))) (by decide) (t := (.object "java/util/List")) (t' := .int) (by decide) (by decide))))
  obtain ⟨T101, h101, X101, e101, W101, st101⟩ := putF X95 hx hZ hown (host := "") (Or.inl (hw _ (List.mem_of_getElem? (i := 130) rfl))) Via.refl e95 f100 f98 (Or.inr ⟨(hw _ (List.mem_of_getElem? (i := 131) rfl)), rfl, hnm⟩) (hw _ (List.mem_of_getElem? (i := 88) rfl)) (ty := (.object "java/util/List")) (by decide) rfl rfl (g := (mkF m 88 #[.val (.ref a1), .val (.int p2), .val (.ref a3), .val (.ref a4), .val .null, .val (.int p5), .val (.ref a6), .val .null, .val (.ref a7), .val (.ref a8), .val (.ref a9), .val (.int p10), .val (.ref a11), .val (.ref a12), .val (.int p13), .val (.ref a14)] [(.ref a14), (.ref a1)])) rfl rfl (hb hby d14_88)
  have N101 := Fr.snoc X101 N95 g_a1
  have K102 : Keep h0 h101 [a1] := K96.wr W101 (Or.inl (List.mem_of_getElem? (i := 0) rfl))
  have O103 : Old Z n0 h101 := O97.wr W101 g_a1
  have Fw101 : Fld Z h101 a1 "com/example/mirante/mirante/FieldDef" "members" "Ljava/util/List;" (.ref a14) := f100.same W101
  have f104 := (f98.wr W101)
  have f105 := (((Fw83.other W89 (Or.inr (slot_ne (Or.inr (hw _ (List.mem_of_getElem? (i := 125) rfl))) (Or.inr (hw _ (List.mem_of_getElem? (i := 127) rfl))) (by decide) (t := (.object "java/util/List")) (t' := (.object "java/util/List")) (by decide) (by decide)))).other W95 (Or.inr (slot_ne (Or.inr (hw _ (List.mem_of_getElem? (i := 125) rfl))) (Or.inr (hw _ (List.mem_of_getElem? (i := 129) rfl))) (by decide) (t := (.object "java/util/List")) (t' := .int) (by decide) (by decide)))).other W101 (Or.inr (slot_ne (Or.inr (hw _ (List.mem_of_getElem? (i := 125) rfl))) (Or.inr (hw _ (List.mem_of_getElem? (i := 131) rfl))) (by decide) (t := (.object "java/util/List")) (t' := (.object "java/util/List")) (by decide) (by decide))))
  have f106 := ((Fw89.other W95 (Or.inr (slot_ne (Or.inr (hw _ (List.mem_of_getElem? (i := 127) rfl))) (Or.inr (hw _ (List.mem_of_getElem? (i := 129) rfl))) (by decide) (t := (.object "java/util/List")) (t' := .int) (by decide) (by decide)))).other W101 (Or.inr (slot_ne (Or.inr (hw _ (List.mem_of_getElem? (i := 127) rfl))) (Or.inr (hw _ (List.mem_of_getElem? (i := 131) rfl))) (by decide) (t := (.object "java/util/List")) (t' := (.object "java/util/List")) (by decide) (by decide))))
  have f107 := (((((Fw71.other W77 (Or.inr (slot_ne (Or.inr (hw _ (List.mem_of_getElem? (i := 121) rfl))) (Or.inr (hw _ (List.mem_of_getElem? (i := 123) rfl))) (by decide) (t := (.object "java/util/List")) (t' := .int) (by decide) (by decide)))).other W83 (Or.inr (slot_ne (Or.inr (hw _ (List.mem_of_getElem? (i := 121) rfl))) (Or.inr (hw _ (List.mem_of_getElem? (i := 125) rfl))) (by decide) (t := (.object "java/util/List")) (t' := (.object "java/util/List")) (by decide) (by decide)))).other W89 (Or.inr (slot_ne (Or.inr (hw _ (List.mem_of_getElem? (i := 121) rfl))) (Or.inr (hw _ (List.mem_of_getElem? (i := 127) rfl))) (by decide) (t := (.object "java/util/List")) (t' := (.object "java/util/List")) (by decide) (by decide)))).other W95 (Or.inr (slot_ne (Or.inr (hw _ (List.mem_of_getElem? (i := 121) rfl))) (Or.inr (hw _ (List.mem_of_getElem? (i := 129) rfl))) (by decide) (t := (.object "java/util/List")) (t' := .int) (by decide) (by decide)))).other W101 (Or.inr (slot_ne (Or.inr (hw _ (List.mem_of_getElem? (i := 121) rfl))) (Or.inr (hw _ (List.mem_of_getElem? (i := 131) rfl))) (by decide) (t := (.object "java/util/List")) (t' := (.object "java/util/List")) (by decide) (by decide))))
  have f108 := ((((Fw77.other W83 (Or.inr (slot_ne (Or.inr (hw _ (List.mem_of_getElem? (i := 123) rfl))) (Or.inr (hw _ (List.mem_of_getElem? (i := 125) rfl))) (by decide) (t := .int) (t' := (.object "java/util/List")) (by decide) (by decide)))).other W89 (Or.inr (slot_ne (Or.inr (hw _ (List.mem_of_getElem? (i := 123) rfl))) (Or.inr (hw _ (List.mem_of_getElem? (i := 127) rfl))) (by decide) (t := .int) (t' := (.object "java/util/List")) (by decide) (by decide)))).other W95 (Or.inr (slot_ne (Or.inr (hw _ (List.mem_of_getElem? (i := 123) rfl))) (Or.inr (hw _ (List.mem_of_getElem? (i := 129) rfl))) (by decide) (t := .int) (t' := .int) (by decide) (by decide)))).other W101 (Or.inr (slot_ne (Or.inr (hw _ (List.mem_of_getElem? (i := 123) rfl))) (Or.inr (hw _ (List.mem_of_getElem? (i := 131) rfl))) (by decide) (t := .int) (t' := (.object "java/util/List")) (by decide) (by decide))))
  obtain ⟨fs, hr, hrun, hended, hW, hsame⟩ := X101.leave (v := none) (fun _ => rfl)
  refine ⟨_, _, pre0 _ ?_, hrun, hended, _, _, rfl, ?_, ⟨_, rfl⟩, hW, hsame.mono (by decide) (by decide)⟩
  · show Steps p.tables e below (s₁.setTop (mkF m 0 #[.val (.ref a1), .val (.int p2), .val (.ref a3), .val (.ref a4), .val .null, .val (.int p5), .val (.ref a6), .val .null, .val (.ref a7), .val (.ref a8), .val (.ref a9), .val (.int p10), .val (.ref a11), .val (.ref a12), .val (.int p13), .val (.ref a14)] [])) _
    refine XS.aloadN X0.here hx rfl (hb hby d14_0) rfl rfl ?_
    show Steps p.tables e below (s₁.setTop (mkF m 1 #[.val (.ref a1), .val (.int p2), .val (.ref a3), .val (.ref a4), .val .null, .val (.int p5), .val (.ref a6), .val .null, .val (.ref a7), .val (.ref a8), .val (.ref a9), .val (.int p10), .val (.ref a11), .val (.ref a12), .val (.int p13), .val (.ref a14)] [(.ref a1)])) _
    refine st15.trans ?_
    show Steps p.tables e below (T15.setTop (mkF m 4 #[.val (.ref a1), .val (.int p2), .val (.ref a3), .val (.ref a4), .val .null, .val (.int p5), .val (.ref a6), .val .null, .val (.ref a7), .val (.ref a8), .val (.ref a9), .val (.int p10), .val (.ref a11), .val (.ref a12), .val (.int p13), .val (.ref a14)] [])) _
    refine XS.aloadN X15.here hx rfl (hb hby d14_4) rfl rfl ?_
    show Steps p.tables e below (T15.setTop (mkF m 5 #[.val (.ref a1), .val (.int p2), .val (.ref a3), .val (.ref a4), .val .null, .val (.int p5), .val (.ref a6), .val .null, .val (.ref a7), .val (.ref a8), .val (.ref a9), .val (.int p10), .val (.ref a11), .val (.ref a12), .val (.int p13), .val (.ref a14)] [(.ref a1)])) _
    refine XS.iloadN X15.here hx rfl (hb hby d14_5) rfl ?_
    show Steps p.tables e below (T15.setTop (mkF m 6 #[.val (.ref a1), .val (.int p2), .val (.ref a3), .val (.ref a4), .val .null, .val (.int p5), .val (.ref a6), .val .null, .val (.ref a7), .val (.ref a8), .val (.ref a9), .val (.int p10), .val (.ref a11), .val (.ref a12), .val (.int p13), .val (.ref a14)] [(.int p2), (.ref a1)])) _
    refine st17 _ ?_
    show Steps p.tables e below (T17.setTop (mkF m 9 #[.val (.ref a1), .val (.int p2), .val (.ref a3), .val (.ref a4), .val .null, .val (.int p5), .val (.ref a6), .val .null, .val (.ref a7), .val (.ref a8), .val (.ref a9), .val (.int p10), .val (.ref a11), .val (.ref a12), .val (.int p13), .val (.ref a14)] [])) _
    refine XS.aloadN X17.here hx rfl (hb hby d14_9) rfl rfl ?_
    show Steps p.tables e below (T17.setTop (mkF m 10 #[.val (.ref a1), .val (.int p2), .val (.ref a3), .val (.ref a4), .val .null, .val (.int p5), .val (.ref a6), .val .null, .val (.ref a7), .val (.ref a8), .val (.ref a9), .val (.int p10), .val (.ref a11), .val (.ref a12), .val (.int p13), .val (.ref a14)] [(.ref a1)])) _
    refine XS.aloadN X17.here hx rfl (hb hby d14_10) rfl rfl ?_
    show Steps p.tables e below (T17.setTop (mkF m 11 #[.val (.ref a1), .val (.int p2), .val (.ref a3), .val (.ref a4), .val .null, .val (.int p5), .val (.ref a6), .val .null, .val (.ref a7), .val (.ref a8), .val (.ref a9), .val (.int p10), .val (.ref a11), .val (.ref a12), .val (.int p13), .val (.ref a14)] [(.ref a3), (.ref a1)])) _
    refine st23 _ ?_
    show Steps p.tables e below (T23.setTop (mkF m 14 #[.val (.ref a1), .val (.int p2), .val (.ref a3), .val (.ref a4), .val .null, .val (.int p5), .val (.ref a6), .val .null, .val (.ref a7), .val (.ref a8), .val (.ref a9), .val (.int p10), .val (.ref a11), .val (.ref a12), .val (.int p13), .val (.ref a14)] [])) _
    refine XS.aloadN X23.here hx rfl (hb hby d14_14) rfl rfl ?_
    show Steps p.tables e below (T23.setTop (mkF m 15 #[.val (.ref a1), .val (.int p2), .val (.ref a3), .val (.ref a4), .val .null, .val (.int p5), .val (.ref a6), .val .null, .val (.ref a7), .val (.ref a8), .val (.ref a9), .val (.int p10), .val (.ref a11), .val (.ref a12), .val (.int p13), .val (.ref a14)] [(.ref a1)])) _
    refine XS.aloadN X23.here hx rfl (hb hby d14_15) rfl rfl ?_
    show Steps p.tables e below (T23.setTop (mkF m 16 #[.val (.ref a1), .val (.int p2), .val (.ref a3), .val (.ref a4), .val .null, .val (.int p5), .val (.ref a6), .val .null, .val (.ref a7), .val (.ref a8), .val (.ref a9), .val (.int p10), .val (.ref a11), .val (.ref a12), .val (.int p13), .val (.ref a14)] [(.ref a4), (.ref a1)])) _
    refine st29 _ ?_
    show Steps p.tables e below (T29.setTop (mkF m 19 #[.val (.ref a1), .val (.int p2), .val (.ref a3), .val (.ref a4), .val .null, .val (.int p5), .val (.ref a6), .val .null, .val (.ref a7), .val (.ref a8), .val (.ref a9), .val (.int p10), .val (.ref a11), .val (.ref a12), .val (.int p13), .val (.ref a14)] [])) _
    refine XS.aloadN X29.here hx rfl (hb hby d14_19) rfl rfl ?_
    show Steps p.tables e below (T29.setTop (mkF m 20 #[.val (.ref a1), .val (.int p2), .val (.ref a3), .val (.ref a4), .val .null, .val (.int p5), .val (.ref a6), .val .null, .val (.ref a7), .val (.ref a8), .val (.ref a9), .val (.int p10), .val (.ref a11), .val (.ref a12), .val (.int p13), .val (.ref a14)] [(.ref a1)])) _
    refine XS.aload X29.here hx rfl (hb hby d14_20) rfl rfl ?_
    show Steps p.tables e below (T29.setTop (mkF m 22 #[.val (.ref a1), .val (.int p2), .val (.ref a3), .val (.ref a4), .val .null, .val (.int p5), .val (.ref a6), .val .null, .val (.ref a7), .val (.ref a8), .val (.ref a9), .val (.int p10), .val (.ref a11), .val (.ref a12), .val (.int p13), .val (.ref a14)] [.null, (.ref a1)])) _
    refine st35 _ ?_
    show Steps p.tables e below (T35.setTop (mkF m 25 #[.val (.ref a1), .val (.int p2), .val (.ref a3), .val (.ref a4), .val .null, .val (.int p5), .val (.ref a6), .val .null, .val (.ref a7), .val (.ref a8), .val (.ref a9), .val (.int p10), .val (.ref a11), .val (.ref a12), .val (.int p13), .val (.ref a14)] [])) _
    refine XS.aloadN X35.here hx rfl (hb hby d14_25) rfl rfl ?_
    show Steps p.tables e below (T35.setTop (mkF m 26 #[.val (.ref a1), .val (.int p2), .val (.ref a3), .val (.ref a4), .val .null, .val (.int p5), .val (.ref a6), .val .null, .val (.ref a7), .val (.ref a8), .val (.ref a9), .val (.int p10), .val (.ref a11), .val (.ref a12), .val (.int p13), .val (.ref a14)] [(.ref a1)])) _
    refine XS.iload X35.here hx rfl (hb hby d14_26) rfl ?_
    show Steps p.tables e below (T35.setTop (mkF m 28 #[.val (.ref a1), .val (.int p2), .val (.ref a3), .val (.ref a4), .val .null, .val (.int p5), .val (.ref a6), .val .null, .val (.ref a7), .val (.ref a8), .val (.ref a9), .val (.int p10), .val (.ref a11), .val (.ref a12), .val (.int p13), .val (.ref a14)] [(.int p5), (.ref a1)])) _
    refine st41 _ ?_
    show Steps p.tables e below (T41.setTop (mkF m 31 #[.val (.ref a1), .val (.int p2), .val (.ref a3), .val (.ref a4), .val .null, .val (.int p5), .val (.ref a6), .val .null, .val (.ref a7), .val (.ref a8), .val (.ref a9), .val (.int p10), .val (.ref a11), .val (.ref a12), .val (.int p13), .val (.ref a14)] [])) _
    refine XS.aloadN X41.here hx rfl (hb hby d14_31) rfl rfl ?_
    show Steps p.tables e below (T41.setTop (mkF m 32 #[.val (.ref a1), .val (.int p2), .val (.ref a3), .val (.ref a4), .val .null, .val (.int p5), .val (.ref a6), .val .null, .val (.ref a7), .val (.ref a8), .val (.ref a9), .val (.int p10), .val (.ref a11), .val (.ref a12), .val (.int p13), .val (.ref a14)] [(.ref a1)])) _
    refine XS.aload X41.here hx rfl (hb hby d14_32) rfl rfl ?_
    show Steps p.tables e below (T41.setTop (mkF m 34 #[.val (.ref a1), .val (.int p2), .val (.ref a3), .val (.ref a4), .val .null, .val (.int p5), .val (.ref a6), .val .null, .val (.ref a7), .val (.ref a8), .val (.ref a9), .val (.int p10), .val (.ref a11), .val (.ref a12), .val (.int p13), .val (.ref a14)] [(.ref a6), (.ref a1)])) _
    refine st47 _ ?_
    show Steps p.tables e below (T47.setTop (mkF m 37 #[.val (.ref a1), .val (.int p2), .val (.ref a3), .val (.ref a4), .val .null, .val (.int p5), .val (.ref a6), .val .null, .val (.ref a7), .val (.ref a8), .val (.ref a9), .val (.int p10), .val (.ref a11), .val (.ref a12), .val (.int p13), .val (.ref a14)] [])) _
    refine XS.aloadN X47.here hx rfl (hb hby d14_37) rfl rfl ?_
    show Steps p.tables e below (T47.setTop (mkF m 38 #[.val (.ref a1), .val (.int p2), .val (.ref a3), .val (.ref a4), .val .null, .val (.int p5), .val (.ref a6), .val .null, .val (.ref a7), .val (.ref a8), .val (.ref a9), .val (.int p10), .val (.ref a11), .val (.ref a12), .val (.int p13), .val (.ref a14)] [(.ref a1)])) _
    refine XS.aload X47.here hx rfl (hb hby d14_38) rfl rfl ?_
    show Steps p.tables e below (T47.setTop (mkF m 40 #[.val (.ref a1), .val (.int p2), .val (.ref a3), .val (.ref a4), .val .null, .val (.int p5), .val (.ref a6), .val .null, .val (.ref a7), .val (.ref a8), .val (.ref a9), .val (.int p10), .val (.ref a11), .val (.ref a12), .val (.int p13), .val (.ref a14)] [.null, (.ref a1)])) _
    refine st53 _ ?_
    show Steps p.tables e below (T53.setTop (mkF m 43 #[.val (.ref a1), .val (.int p2), .val (.ref a3), .val (.ref a4), .val .null, .val (.int p5), .val (.ref a6), .val .null, .val (.ref a7), .val (.ref a8), .val (.ref a9), .val (.int p10), .val (.ref a11), .val (.ref a12), .val (.int p13), .val (.ref a14)] [])) _
    refine XS.aloadN X53.here hx rfl (hb hby d14_43) rfl rfl ?_
    show Steps p.tables e below (T53.setTop (mkF m 44 #[.val (.ref a1), .val (.int p2), .val (.ref a3), .val (.ref a4), .val .null, .val (.int p5), .val (.ref a6), .val .null, .val (.ref a7), .val (.ref a8), .val (.ref a9), .val (.int p10), .val (.ref a11), .val (.ref a12), .val (.int p13), .val (.ref a14)] [(.ref a1)])) _
    refine XS.aload X53.here hx rfl (hb hby d14_44) rfl rfl ?_
    show Steps p.tables e below (T53.setTop (mkF m 46 #[.val (.ref a1), .val (.int p2), .val (.ref a3), .val (.ref a4), .val .null, .val (.int p5), .val (.ref a6), .val .null, .val (.ref a7), .val (.ref a8), .val (.ref a9), .val (.int p10), .val (.ref a11), .val (.ref a12), .val (.int p13), .val (.ref a14)] [(.ref a7), (.ref a1)])) _
    refine st59 _ ?_
    show Steps p.tables e below (T59.setTop (mkF m 49 #[.val (.ref a1), .val (.int p2), .val (.ref a3), .val (.ref a4), .val .null, .val (.int p5), .val (.ref a6), .val .null, .val (.ref a7), .val (.ref a8), .val (.ref a9), .val (.int p10), .val (.ref a11), .val (.ref a12), .val (.int p13), .val (.ref a14)] [])) _
    refine XS.aloadN X59.here hx rfl (hb hby d14_49) rfl rfl ?_
    show Steps p.tables e below (T59.setTop (mkF m 50 #[.val (.ref a1), .val (.int p2), .val (.ref a3), .val (.ref a4), .val .null, .val (.int p5), .val (.ref a6), .val .null, .val (.ref a7), .val (.ref a8), .val (.ref a9), .val (.int p10), .val (.ref a11), .val (.ref a12), .val (.int p13), .val (.ref a14)] [(.ref a1)])) _
    refine XS.aload X59.here hx rfl (hb hby d14_50) rfl rfl ?_
    show Steps p.tables e below (T59.setTop (mkF m 52 #[.val (.ref a1), .val (.int p2), .val (.ref a3), .val (.ref a4), .val .null, .val (.int p5), .val (.ref a6), .val .null, .val (.ref a7), .val (.ref a8), .val (.ref a9), .val (.int p10), .val (.ref a11), .val (.ref a12), .val (.int p13), .val (.ref a14)] [(.ref a8), (.ref a1)])) _
    refine st65 _ ?_
    show Steps p.tables e below (T65.setTop (mkF m 55 #[.val (.ref a1), .val (.int p2), .val (.ref a3), .val (.ref a4), .val .null, .val (.int p5), .val (.ref a6), .val .null, .val (.ref a7), .val (.ref a8), .val (.ref a9), .val (.int p10), .val (.ref a11), .val (.ref a12), .val (.int p13), .val (.ref a14)] [])) _
    refine XS.aloadN X65.here hx rfl (hb hby d14_55) rfl rfl ?_
    show Steps p.tables e below (T65.setTop (mkF m 56 #[.val (.ref a1), .val (.int p2), .val (.ref a3), .val (.ref a4), .val .null, .val (.int p5), .val (.ref a6), .val .null, .val (.ref a7), .val (.ref a8), .val (.ref a9), .val (.int p10), .val (.ref a11), .val (.ref a12), .val (.int p13), .val (.ref a14)] [(.ref a1)])) _
    refine XS.aload X65.here hx rfl (hb hby d14_56) rfl rfl ?_
    show Steps p.tables e below (T65.setTop (mkF m 58 #[.val (.ref a1), .val (.int p2), .val (.ref a3), .val (.ref a4), .val .null, .val (.int p5), .val (.ref a6), .val .null, .val (.ref a7), .val (.ref a8), .val (.ref a9), .val (.int p10), .val (.ref a11), .val (.ref a12), .val (.int p13), .val (.ref a14)] [(.ref a9), (.ref a1)])) _
    refine st71 _ ?_
    show Steps p.tables e below (T71.setTop (mkF m 61 #[.val (.ref a1), .val (.int p2), .val (.ref a3), .val (.ref a4), .val .null, .val (.int p5), .val (.ref a6), .val .null, .val (.ref a7), .val (.ref a8), .val (.ref a9), .val (.int p10), .val (.ref a11), .val (.ref a12), .val (.int p13), .val (.ref a14)] [])) _
    refine XS.aloadN X71.here hx rfl (hb hby d14_61) rfl rfl ?_
    show Steps p.tables e below (T71.setTop (mkF m 62 #[.val (.ref a1), .val (.int p2), .val (.ref a3), .val (.ref a4), .val .null, .val (.int p5), .val (.ref a6), .val .null, .val (.ref a7), .val (.ref a8), .val (.ref a9), .val (.int p10), .val (.ref a11), .val (.ref a12), .val (.int p13), .val (.ref a14)] [(.ref a1)])) _
    refine XS.iload X71.here hx rfl (hb hby d14_62) rfl ?_
    show Steps p.tables e below (T71.setTop (mkF m 64 #[.val (.ref a1), .val (.int p2), .val (.ref a3), .val (.ref a4), .val .null, .val (.int p5), .val (.ref a6), .val .null, .val (.ref a7), .val (.ref a8), .val (.ref a9), .val (.int p10), .val (.ref a11), .val (.ref a12), .val (.int p13), .val (.ref a14)] [(.int p10), (.ref a1)])) _
    refine st77 _ ?_
    show Steps p.tables e below (T77.setTop (mkF m 67 #[.val (.ref a1), .val (.int p2), .val (.ref a3), .val (.ref a4), .val .null, .val (.int p5), .val (.ref a6), .val .null, .val (.ref a7), .val (.ref a8), .val (.ref a9), .val (.int p10), .val (.ref a11), .val (.ref a12), .val (.int p13), .val (.ref a14)] [])) _
    refine XS.aloadN X77.here hx rfl (hb hby d14_67) rfl rfl ?_
    show Steps p.tables e below (T77.setTop (mkF m 68 #[.val (.ref a1), .val (.int p2), .val (.ref a3), .val (.ref a4), .val .null, .val (.int p5), .val (.ref a6), .val .null, .val (.ref a7), .val (.ref a8), .val (.ref a9), .val (.int p10), .val (.ref a11), .val (.ref a12), .val (.int p13), .val (.ref a14)] [(.ref a1)])) _
    refine XS.aload X77.here hx rfl (hb hby d14_68) rfl rfl ?_
    show Steps p.tables e below (T77.setTop (mkF m 70 #[.val (.ref a1), .val (.int p2), .val (.ref a3), .val (.ref a4), .val .null, .val (.int p5), .val (.ref a6), .val .null, .val (.ref a7), .val (.ref a8), .val (.ref a9), .val (.int p10), .val (.ref a11), .val (.ref a12), .val (.int p13), .val (.ref a14)] [(.ref a11), (.ref a1)])) _
    refine st83 _ ?_
    show Steps p.tables e below (T83.setTop (mkF m 73 #[.val (.ref a1), .val (.int p2), .val (.ref a3), .val (.ref a4), .val .null, .val (.int p5), .val (.ref a6), .val .null, .val (.ref a7), .val (.ref a8), .val (.ref a9), .val (.int p10), .val (.ref a11), .val (.ref a12), .val (.int p13), .val (.ref a14)] [])) _
    refine XS.aloadN X83.here hx rfl (hb hby d14_73) rfl rfl ?_
    show Steps p.tables e below (T83.setTop (mkF m 74 #[.val (.ref a1), .val (.int p2), .val (.ref a3), .val (.ref a4), .val .null, .val (.int p5), .val (.ref a6), .val .null, .val (.ref a7), .val (.ref a8), .val (.ref a9), .val (.int p10), .val (.ref a11), .val (.ref a12), .val (.int p13), .val (.ref a14)] [(.ref a1)])) _
    refine XS.aload X83.here hx rfl (hb hby d14_74) rfl rfl ?_
    show Steps p.tables e below (T83.setTop (mkF m 76 #[.val (.ref a1), .val (.int p2), .val (.ref a3), .val (.ref a4), .val .null, .val (.int p5), .val (.ref a6), .val .null, .val (.ref a7), .val (.ref a8), .val (.ref a9), .val (.int p10), .val (.ref a11), .val (.ref a12), .val (.int p13), .val (.ref a14)] [(.ref a12), (.ref a1)])) _
    refine st89 _ ?_
    show Steps p.tables e below (T89.setTop (mkF m 79 #[.val (.ref a1), .val (.int p2), .val (.ref a3), .val (.ref a4), .val .null, .val (.int p5), .val (.ref a6), .val .null, .val (.ref a7), .val (.ref a8), .val (.ref a9), .val (.int p10), .val (.ref a11), .val (.ref a12), .val (.int p13), .val (.ref a14)] [])) _
    refine XS.aloadN X89.here hx rfl (hb hby d14_79) rfl rfl ?_
    show Steps p.tables e below (T89.setTop (mkF m 80 #[.val (.ref a1), .val (.int p2), .val (.ref a3), .val (.ref a4), .val .null, .val (.int p5), .val (.ref a6), .val .null, .val (.ref a7), .val (.ref a8), .val (.ref a9), .val (.int p10), .val (.ref a11), .val (.ref a12), .val (.int p13), .val (.ref a14)] [(.ref a1)])) _
    refine XS.iload X89.here hx rfl (hb hby d14_80) rfl ?_
    show Steps p.tables e below (T89.setTop (mkF m 82 #[.val (.ref a1), .val (.int p2), .val (.ref a3), .val (.ref a4), .val .null, .val (.int p5), .val (.ref a6), .val .null, .val (.ref a7), .val (.ref a8), .val (.ref a9), .val (.int p10), .val (.ref a11), .val (.ref a12), .val (.int p13), .val (.ref a14)] [(.int p13), (.ref a1)])) _
    refine st95 _ ?_
    show Steps p.tables e below (T95.setTop (mkF m 85 #[.val (.ref a1), .val (.int p2), .val (.ref a3), .val (.ref a4), .val .null, .val (.int p5), .val (.ref a6), .val .null, .val (.ref a7), .val (.ref a8), .val (.ref a9), .val (.int p10), .val (.ref a11), .val (.ref a12), .val (.int p13), .val (.ref a14)] [])) _
    refine XS.aloadN X95.here hx rfl (hb hby d14_85) rfl rfl ?_
    show Steps p.tables e below (T95.setTop (mkF m 86 #[.val (.ref a1), .val (.int p2), .val (.ref a3), .val (.ref a4), .val .null, .val (.int p5), .val (.ref a6), .val .null, .val (.ref a7), .val (.ref a8), .val (.ref a9), .val (.int p10), .val (.ref a11), .val (.ref a12), .val (.int p13), .val (.ref a14)] [(.ref a1)])) _
    refine XS.aload X95.here hx rfl (hb hby d14_86) rfl rfl ?_
    show Steps p.tables e below (T95.setTop (mkF m 88 #[.val (.ref a1), .val (.int p2), .val (.ref a3), .val (.ref a4), .val .null, .val (.int p5), .val (.ref a6), .val .null, .val (.ref a7), .val (.ref a8), .val (.ref a9), .val (.int p10), .val (.ref a11), .val (.ref a12), .val (.int p13), .val (.ref a14)] [(.ref a14), (.ref a1)])) _
    refine st101 _ ?_
    show Steps p.tables e below (T101.setTop (mkF m 91 #[.val (.ref a1), .val (.int p2), .val (.ref a3), .val (.ref a4), .val .null, .val (.int p5), .val (.ref a6), .val .null, .val (.ref a7), .val (.ref a8), .val (.ref a9), .val (.int p10), .val (.ref a11), .val (.ref a12), .val (.int p13), .val (.ref a14)] [])) _
    exact X101.returnOut hx Bd.returns (hb hby d14_91) hr
  · show Q14ro Z a1 p2 a3 a4 p5 a6 a7 a8 a9 p10 a11 a12 p13 a14 u16 u21 u27 u33 u39 u45 u51 u57 u63 u69 u75 u81 u87 u93 u99 h0 n0 _ T101.heap _
    rw [e101]
    exact ⟨rfl, N101, K102, f104, f105, f106, f107, f108⟩
set_option maxRecDepth 65536 in
set_option maxHeartbeats 40000000 in
theorem tn350t {p : Program} {l : Launch} {e : Env} {s : State} {m : MethodId} {args : Array Value} {below : List Frame} {meth : Method} {c : Code} {T0 : State} {locs : List Loc} {Z : State} {a0 : Array Value} (hw : ∀ d ∈ tables_1, d.before a0 Z = true) (p1 p2 p3 p4 p5 p6 k6 k7 k8 : Int32) (s9 s10 s11 s12 s13 s14 s15 s16 s17 s18 s19 s20 s21 : Slot) (h0 : Heap) (n0 : Nat) (X0 : Stand p l e room_1 s m args below meth c T0 locs 23 136) (N0 : Fr n0 locs) (hx : p.tables.exec = Jvm.exec) (hZ : Z.Warmed39 s.vm) (hby : c.code = code) (hml : c.maxLocals = 23) (hown : s.vm.findClass "com/example/mirante/mirante/FieldDefHasRuleChecksPinLaw" = some m.cls) (e0 : T0.heap = h0) (O0 : Old Z n0 h0) (hc352 : ¬ (k6 = (0 : Int32))) :
    ∃ (T' : State) (locs' : List Loc), Stand p l e room_1 s m args below meth c T' locs' 23 136 ∧ Fr n0 locs' ∧ T'.heap = h0 ∧
      ∀ target, Steps p.tables e below (T'.setTop (mkF m 376 #[.val (.int p1), .val (.int p2), .val (.int p3), .val (.int p4), .val (.int p5), .val (.int p6), .val (.int k6), .val (.int k7), .val (.int k8), s9, s10, s11, s12, s13, s14, s15, s16, s17, s18, s19, s20, s21, .val (.int (1 : Int32))] [])) target → Steps p.tables e below (T0.setTop (mkF m 350 #[.val (.int p1), .val (.int p2), .val (.int p3), .val (.int p4), .val (.int p5), .val (.int p6), .val (.int k6), .val (.int k7), .val (.int k8), s9, s10, s11, s12, s13, s14, s15, s16, s17, s18, s19, s20, s21, .unset] [])) target := by
  have Z0 : n0 ≤ h0.size := O0.1 ▸ O0.2.1
  refine ⟨T0, _, X0, N0, e0, fun target kt => ?_⟩
  show Steps p.tables e below (T0.setTop (mkF m 350 #[.val (.int p1), .val (.int p2), .val (.int p3), .val (.int p4), .val (.int p5), .val (.int p6), .val (.int k6), .val (.int k7), .val (.int k8), s9, s10, s11, s12, s13, s14, s15, s16, s17, s18, s19, s20, s21, .unset] [])) _
  refine XS.iload X0.here hx rfl (hb hby at_350) rfl ?_
  show Steps p.tables e below (T0.setTop (mkF m 352 #[.val (.int p1), .val (.int p2), .val (.int p3), .val (.int p4), .val (.int p5), .val (.int p6), .val (.int k6), .val (.int k7), .val (.int k8), s9, s10, s11, s12, s13, s14, s15, s16, s17, s18, s19, s20, s21, .unset] [(.int k6)])) _
  refine XS.ifYes X0.here hx rfl (pc0 := 352) (pc' := 369) rfl (hb hby at_352) rfl ((if0 _ _).trans (feq hc352).2) (by decide) (by decide) ?_
  show Steps p.tables e below (T0.setTop (mkF m 369 #[.val (.int p1), .val (.int p2), .val (.int p3), .val (.int p4), .val (.int p5), .val (.int p6), .val (.int k6), .val (.int k7), .val (.int k8), s9, s10, s11, s12, s13, s14, s15, s16, s17, s18, s19, s20, s21, .unset] [])) _
  refine XS.iconst X0.here hx rfl (hb hby at_369) ?_
  show Steps p.tables e below (T0.setTop (mkF m 370 #[.val (.int p1), .val (.int p2), .val (.int p3), .val (.int p4), .val (.int p5), .val (.int p6), .val (.int k6), .val (.int k7), .val (.int k8), s9, s10, s11, s12, s13, s14, s15, s16, s17, s18, s19, s20, s21, .unset] [(.int (1 : Int32))])) _
  refine XS.goto X0.here hx rfl (pc0 := 370) (pc' := 374) rfl (hb hby at_370) (by decide) (by decide) ?_
  show Steps p.tables e below (T0.setTop (mkF m 374 #[.val (.int p1), .val (.int p2), .val (.int p3), .val (.int p4), .val (.int p5), .val (.int p6), .val (.int k6), .val (.int k7), .val (.int k8), s9, s10, s11, s12, s13, s14, s15, s16, s17, s18, s19, s20, s21, .unset] [(.int (1 : Int32))])) _
  refine XS.istore X0.here hx rfl (hb hby at_374) rfl (l' := #[.val (.int p1), .val (.int p2), .val (.int p3), .val (.int p4), .val (.int p5), .val (.int p6), .val (.int k6), .val (.int k7), .val (.int k8), s9, s10, s11, s12, s13, s14, s15, s16, s17, s18, s19, s20, s21, .val (.int (1 : Int32))]) rfl ?_
  exact kt
set_option maxRecDepth 65536 in
set_option maxHeartbeats 40000000 in
theorem tn350ft {p : Program} {l : Launch} {e : Env} {s : State} {m : MethodId} {args : Array Value} {below : List Frame} {meth : Method} {c : Code} {T0 : State} {locs : List Loc} {Z : State} {a0 : Array Value} (hw : ∀ d ∈ tables_1, d.before a0 Z = true) (p1 p2 p3 p4 p5 p6 k6 k7 k8 : Int32) (s9 s10 s11 s12 s13 s14 s15 s16 s17 s18 s19 s20 s21 : Slot) (h0 : Heap) (n0 : Nat) (X0 : Stand p l e room_1 s m args below meth c T0 locs 23 136) (N0 : Fr n0 locs) (hx : p.tables.exec = Jvm.exec) (hZ : Z.Warmed39 s.vm) (hby : c.code = code) (hml : c.maxLocals = 23) (hown : s.vm.findClass "com/example/mirante/mirante/FieldDefHasRuleChecksPinLaw" = some m.cls) (e0 : T0.heap = h0) (O0 : Old Z n0 h0) (hc352 : k6 = (0 : Int32)) (hc356 : (0 : Int32) < p2) :
    ∃ (T' : State) (locs' : List Loc), Stand p l e room_1 s m args below meth c T' locs' 23 136 ∧ Fr n0 locs' ∧ T'.heap = h0 ∧
      ∀ target, Steps p.tables e below (T'.setTop (mkF m 376 #[.val (.int p1), .val (.int p2), .val (.int p3), .val (.int p4), .val (.int p5), .val (.int p6), .val (.int k6), .val (.int k7), .val (.int k8), s9, s10, s11, s12, s13, s14, s15, s16, s17, s18, s19, s20, s21, .val (.int (1 : Int32))] [])) target → Steps p.tables e below (T0.setTop (mkF m 350 #[.val (.int p1), .val (.int p2), .val (.int p3), .val (.int p4), .val (.int p5), .val (.int p6), .val (.int k6), .val (.int k7), .val (.int k8), s9, s10, s11, s12, s13, s14, s15, s16, s17, s18, s19, s20, s21, .unset] [])) target := by
  have Z0 : n0 ≤ h0.size := O0.1 ▸ O0.2.1
  refine ⟨T0, _, X0, N0, e0, fun target kt => ?_⟩
  show Steps p.tables e below (T0.setTop (mkF m 350 #[.val (.int p1), .val (.int p2), .val (.int p3), .val (.int p4), .val (.int p5), .val (.int p6), .val (.int k6), .val (.int k7), .val (.int k8), s9, s10, s11, s12, s13, s14, s15, s16, s17, s18, s19, s20, s21, .unset] [])) _
  refine XS.iload X0.here hx rfl (hb hby at_350) rfl ?_
  show Steps p.tables e below (T0.setTop (mkF m 352 #[.val (.int p1), .val (.int p2), .val (.int p3), .val (.int p4), .val (.int p5), .val (.int p6), .val (.int k6), .val (.int k7), .val (.int k8), s9, s10, s11, s12, s13, s14, s15, s16, s17, s18, s19, s20, s21, .unset] [(.int k6)])) _
  refine XS.ifNo X0.here hx rfl (hb hby at_352) rfl ((if0 _ _).trans (teq hc352).2) ?_
  show Steps p.tables e below (T0.setTop (mkF m 355 #[.val (.int p1), .val (.int p2), .val (.int p3), .val (.int p4), .val (.int p5), .val (.int p6), .val (.int k6), .val (.int k7), .val (.int k8), s9, s10, s11, s12, s13, s14, s15, s16, s17, s18, s19, s20, s21, .unset] [])) _
  refine XS.iloadN X0.here hx rfl (hb hby at_355) rfl ?_
  show Steps p.tables e below (T0.setTop (mkF m 356 #[.val (.int p1), .val (.int p2), .val (.int p3), .val (.int p4), .val (.int p5), .val (.int p6), .val (.int k6), .val (.int k7), .val (.int k8), s9, s10, s11, s12, s13, s14, s15, s16, s17, s18, s19, s20, s21, .unset] [(.int p2)])) _
  refine XS.ifYes X0.here hx rfl (pc0 := 356) (pc' := 369) rfl (hb hby at_356) rfl ((if0 _ _).trans (tlt hc356).2.2.1) (by decide) (by decide) ?_
  show Steps p.tables e below (T0.setTop (mkF m 369 #[.val (.int p1), .val (.int p2), .val (.int p3), .val (.int p4), .val (.int p5), .val (.int p6), .val (.int k6), .val (.int k7), .val (.int k8), s9, s10, s11, s12, s13, s14, s15, s16, s17, s18, s19, s20, s21, .unset] [])) _
  refine XS.iconst X0.here hx rfl (hb hby at_369) ?_
  show Steps p.tables e below (T0.setTop (mkF m 370 #[.val (.int p1), .val (.int p2), .val (.int p3), .val (.int p4), .val (.int p5), .val (.int p6), .val (.int k6), .val (.int k7), .val (.int k8), s9, s10, s11, s12, s13, s14, s15, s16, s17, s18, s19, s20, s21, .unset] [(.int (1 : Int32))])) _
  refine XS.goto X0.here hx rfl (pc0 := 370) (pc' := 374) rfl (hb hby at_370) (by decide) (by decide) ?_
  show Steps p.tables e below (T0.setTop (mkF m 374 #[.val (.int p1), .val (.int p2), .val (.int p3), .val (.int p4), .val (.int p5), .val (.int p6), .val (.int k6), .val (.int k7), .val (.int k8), s9, s10, s11, s12, s13, s14, s15, s16, s17, s18, s19, s20, s21, .unset] [(.int (1 : Int32))])) _
  refine XS.istore X0.here hx rfl (hb hby at_374) rfl (l' := #[.val (.int p1), .val (.int p2), .val (.int p3), .val (.int p4), .val (.int p5), .val (.int p6), .val (.int k6), .val (.int k7), .val (.int k8), s9, s10, s11, s12, s13, s14, s15, s16, s17, s18, s19, s20, s21, .val (.int (1 : Int32))]) rfl ?_
  exact kt
set_option maxRecDepth 65536 in
set_option maxHeartbeats 40000000 in
theorem tn350fft {p : Program} {l : Launch} {e : Env} {s : State} {m : MethodId} {args : Array Value} {below : List Frame} {meth : Method} {c : Code} {T0 : State} {locs : List Loc} {Z : State} {a0 : Array Value} (hw : ∀ d ∈ tables_1, d.before a0 Z = true) (p1 p2 p3 p4 p5 p6 k6 k7 k8 : Int32) (s9 s10 s11 s12 s13 s14 s15 s16 s17 s18 s19 s20 s21 : Slot) (h0 : Heap) (n0 : Nat) (X0 : Stand p l e room_1 s m args below meth c T0 locs 23 136) (N0 : Fr n0 locs) (hx : p.tables.exec = Jvm.exec) (hZ : Z.Warmed39 s.vm) (hby : c.code = code) (hml : c.maxLocals = 23) (hown : s.vm.findClass "com/example/mirante/mirante/FieldDefHasRuleChecksPinLaw" = some m.cls) (e0 : T0.heap = h0) (O0 : Old Z n0 h0) (hc352 : k6 = (0 : Int32)) (hc356 : ¬ ((0 : Int32) < p2)) (hc361 : ¬ (k7 = (0 : Int32))) :
    ∃ (T' : State) (locs' : List Loc), Stand p l e room_1 s m args below meth c T' locs' 23 136 ∧ Fr n0 locs' ∧ T'.heap = h0 ∧
      ∀ target, Steps p.tables e below (T'.setTop (mkF m 376 #[.val (.int p1), .val (.int p2), .val (.int p3), .val (.int p4), .val (.int p5), .val (.int p6), .val (.int k6), .val (.int k7), .val (.int k8), s9, s10, s11, s12, s13, s14, s15, s16, s17, s18, s19, s20, s21, .val (.int (1 : Int32))] [])) target → Steps p.tables e below (T0.setTop (mkF m 350 #[.val (.int p1), .val (.int p2), .val (.int p3), .val (.int p4), .val (.int p5), .val (.int p6), .val (.int k6), .val (.int k7), .val (.int k8), s9, s10, s11, s12, s13, s14, s15, s16, s17, s18, s19, s20, s21, .unset] [])) target := by
  have Z0 : n0 ≤ h0.size := O0.1 ▸ O0.2.1
  refine ⟨T0, _, X0, N0, e0, fun target kt => ?_⟩
  show Steps p.tables e below (T0.setTop (mkF m 350 #[.val (.int p1), .val (.int p2), .val (.int p3), .val (.int p4), .val (.int p5), .val (.int p6), .val (.int k6), .val (.int k7), .val (.int k8), s9, s10, s11, s12, s13, s14, s15, s16, s17, s18, s19, s20, s21, .unset] [])) _
  refine XS.iload X0.here hx rfl (hb hby at_350) rfl ?_
  show Steps p.tables e below (T0.setTop (mkF m 352 #[.val (.int p1), .val (.int p2), .val (.int p3), .val (.int p4), .val (.int p5), .val (.int p6), .val (.int k6), .val (.int k7), .val (.int k8), s9, s10, s11, s12, s13, s14, s15, s16, s17, s18, s19, s20, s21, .unset] [(.int k6)])) _
  refine XS.ifNo X0.here hx rfl (hb hby at_352) rfl ((if0 _ _).trans (teq hc352).2) ?_
  show Steps p.tables e below (T0.setTop (mkF m 355 #[.val (.int p1), .val (.int p2), .val (.int p3), .val (.int p4), .val (.int p5), .val (.int p6), .val (.int k6), .val (.int k7), .val (.int k8), s9, s10, s11, s12, s13, s14, s15, s16, s17, s18, s19, s20, s21, .unset] [])) _
  refine XS.iloadN X0.here hx rfl (hb hby at_355) rfl ?_
  show Steps p.tables e below (T0.setTop (mkF m 356 #[.val (.int p1), .val (.int p2), .val (.int p3), .val (.int p4), .val (.int p5), .val (.int p6), .val (.int k6), .val (.int k7), .val (.int k8), s9, s10, s11, s12, s13, s14, s15, s16, s17, s18, s19, s20, s21, .unset] [(.int p2)])) _
  refine XS.ifNo X0.here hx rfl (hb hby at_356) rfl ((if0 _ _).trans (flt hc356).2.2.1) ?_
  show Steps p.tables e below (T0.setTop (mkF m 359 #[.val (.int p1), .val (.int p2), .val (.int p3), .val (.int p4), .val (.int p5), .val (.int p6), .val (.int k6), .val (.int k7), .val (.int k8), s9, s10, s11, s12, s13, s14, s15, s16, s17, s18, s19, s20, s21, .unset] [])) _
  refine XS.iload X0.here hx rfl (hb hby at_359) rfl ?_
  show Steps p.tables e below (T0.setTop (mkF m 361 #[.val (.int p1), .val (.int p2), .val (.int p3), .val (.int p4), .val (.int p5), .val (.int p6), .val (.int k6), .val (.int k7), .val (.int k8), s9, s10, s11, s12, s13, s14, s15, s16, s17, s18, s19, s20, s21, .unset] [(.int k7)])) _
  refine XS.ifYes X0.here hx rfl (pc0 := 361) (pc' := 369) rfl (hb hby at_361) rfl ((if0 _ _).trans (feq hc361).2) (by decide) (by decide) ?_
  show Steps p.tables e below (T0.setTop (mkF m 369 #[.val (.int p1), .val (.int p2), .val (.int p3), .val (.int p4), .val (.int p5), .val (.int p6), .val (.int k6), .val (.int k7), .val (.int k8), s9, s10, s11, s12, s13, s14, s15, s16, s17, s18, s19, s20, s21, .unset] [])) _
  refine XS.iconst X0.here hx rfl (hb hby at_369) ?_
  show Steps p.tables e below (T0.setTop (mkF m 370 #[.val (.int p1), .val (.int p2), .val (.int p3), .val (.int p4), .val (.int p5), .val (.int p6), .val (.int k6), .val (.int k7), .val (.int k8), s9, s10, s11, s12, s13, s14, s15, s16, s17, s18, s19, s20, s21, .unset] [(.int (1 : Int32))])) _
  refine XS.goto X0.here hx rfl (pc0 := 370) (pc' := 374) rfl (hb hby at_370) (by decide) (by decide) ?_
  show Steps p.tables e below (T0.setTop (mkF m 374 #[.val (.int p1), .val (.int p2), .val (.int p3), .val (.int p4), .val (.int p5), .val (.int p6), .val (.int k6), .val (.int k7), .val (.int k8), s9, s10, s11, s12, s13, s14, s15, s16, s17, s18, s19, s20, s21, .unset] [(.int (1 : Int32))])) _
  refine XS.istore X0.here hx rfl (hb hby at_374) rfl (l' := #[.val (.int p1), .val (.int p2), .val (.int p3), .val (.int p4), .val (.int p5), .val (.int p6), .val (.int k6), .val (.int k7), .val (.int k8), s9, s10, s11, s12, s13, s14, s15, s16, s17, s18, s19, s20, s21, .val (.int (1 : Int32))]) rfl ?_
  exact kt
set_option maxRecDepth 65536 in
set_option maxHeartbeats 40000000 in
theorem tn350ffff {p : Program} {l : Launch} {e : Env} {s : State} {m : MethodId} {args : Array Value} {below : List Frame} {meth : Method} {c : Code} {T0 : State} {locs : List Loc} {Z : State} {a0 : Array Value} (hw : ∀ d ∈ tables_1, d.before a0 Z = true) (p1 p2 p3 p4 p5 p6 k6 k7 k8 : Int32) (s9 s10 s11 s12 s13 s14 s15 s16 s17 s18 s19 s20 s21 : Slot) (h0 : Heap) (n0 : Nat) (X0 : Stand p l e room_1 s m args below meth c T0 locs 23 136) (N0 : Fr n0 locs) (hx : p.tables.exec = Jvm.exec) (hZ : Z.Warmed39 s.vm) (hby : c.code = code) (hml : c.maxLocals = 23) (hown : s.vm.findClass "com/example/mirante/mirante/FieldDefHasRuleChecksPinLaw" = some m.cls) (e0 : T0.heap = h0) (O0 : Old Z n0 h0) (hc352 : k6 = (0 : Int32)) (hc356 : ¬ ((0 : Int32) < p2)) (hc361 : k7 = (0 : Int32)) (hc366 : ¬ (k8 = (0 : Int32))) :
    ∃ (T' : State) (locs' : List Loc), Stand p l e room_1 s m args below meth c T' locs' 23 136 ∧ Fr n0 locs' ∧ T'.heap = h0 ∧
      ∀ target, Steps p.tables e below (T'.setTop (mkF m 376 #[.val (.int p1), .val (.int p2), .val (.int p3), .val (.int p4), .val (.int p5), .val (.int p6), .val (.int k6), .val (.int k7), .val (.int k8), s9, s10, s11, s12, s13, s14, s15, s16, s17, s18, s19, s20, s21, .val (.int (1 : Int32))] [])) target → Steps p.tables e below (T0.setTop (mkF m 350 #[.val (.int p1), .val (.int p2), .val (.int p3), .val (.int p4), .val (.int p5), .val (.int p6), .val (.int k6), .val (.int k7), .val (.int k8), s9, s10, s11, s12, s13, s14, s15, s16, s17, s18, s19, s20, s21, .unset] [])) target := by
  have Z0 : n0 ≤ h0.size := O0.1 ▸ O0.2.1
  refine ⟨T0, _, X0, N0, e0, fun target kt => ?_⟩
  show Steps p.tables e below (T0.setTop (mkF m 350 #[.val (.int p1), .val (.int p2), .val (.int p3), .val (.int p4), .val (.int p5), .val (.int p6), .val (.int k6), .val (.int k7), .val (.int k8), s9, s10, s11, s12, s13, s14, s15, s16, s17, s18, s19, s20, s21, .unset] [])) _
  refine XS.iload X0.here hx rfl (hb hby at_350) rfl ?_
  show Steps p.tables e below (T0.setTop (mkF m 352 #[.val (.int p1), .val (.int p2), .val (.int p3), .val (.int p4), .val (.int p5), .val (.int p6), .val (.int k6), .val (.int k7), .val (.int k8), s9, s10, s11, s12, s13, s14, s15, s16, s17, s18, s19, s20, s21, .unset] [(.int k6)])) _
  refine XS.ifNo X0.here hx rfl (hb hby at_352) rfl ((if0 _ _).trans (teq hc352).2) ?_
  show Steps p.tables e below (T0.setTop (mkF m 355 #[.val (.int p1), .val (.int p2), .val (.int p3), .val (.int p4), .val (.int p5), .val (.int p6), .val (.int k6), .val (.int k7), .val (.int k8), s9, s10, s11, s12, s13, s14, s15, s16, s17, s18, s19, s20, s21, .unset] [])) _
  refine XS.iloadN X0.here hx rfl (hb hby at_355) rfl ?_
  show Steps p.tables e below (T0.setTop (mkF m 356 #[.val (.int p1), .val (.int p2), .val (.int p3), .val (.int p4), .val (.int p5), .val (.int p6), .val (.int k6), .val (.int k7), .val (.int k8), s9, s10, s11, s12, s13, s14, s15, s16, s17, s18, s19, s20, s21, .unset] [(.int p2)])) _
  refine XS.ifNo X0.here hx rfl (hb hby at_356) rfl ((if0 _ _).trans (flt hc356).2.2.1) ?_
  show Steps p.tables e below (T0.setTop (mkF m 359 #[.val (.int p1), .val (.int p2), .val (.int p3), .val (.int p4), .val (.int p5), .val (.int p6), .val (.int k6), .val (.int k7), .val (.int k8), s9, s10, s11, s12, s13, s14, s15, s16, s17, s18, s19, s20, s21, .unset] [])) _
  refine XS.iload X0.here hx rfl (hb hby at_359) rfl ?_
  show Steps p.tables e below (T0.setTop (mkF m 361 #[.val (.int p1), .val (.int p2), .val (.int p3), .val (.int p4), .val (.int p5), .val (.int p6), .val (.int k6), .val (.int k7), .val (.int k8), s9, s10, s11, s12, s13, s14, s15, s16, s17, s18, s19, s20, s21, .unset] [(.int k7)])) _
  refine XS.ifNo X0.here hx rfl (hb hby at_361) rfl ((if0 _ _).trans (teq hc361).2) ?_
  show Steps p.tables e below (T0.setTop (mkF m 364 #[.val (.int p1), .val (.int p2), .val (.int p3), .val (.int p4), .val (.int p5), .val (.int p6), .val (.int k6), .val (.int k7), .val (.int k8), s9, s10, s11, s12, s13, s14, s15, s16, s17, s18, s19, s20, s21, .unset] [])) _
  refine XS.iload X0.here hx rfl (hb hby at_364) rfl ?_
  show Steps p.tables e below (T0.setTop (mkF m 366 #[.val (.int p1), .val (.int p2), .val (.int p3), .val (.int p4), .val (.int p5), .val (.int p6), .val (.int k6), .val (.int k7), .val (.int k8), s9, s10, s11, s12, s13, s14, s15, s16, s17, s18, s19, s20, s21, .unset] [(.int k8)])) _
  refine XS.ifNo X0.here hx rfl (hb hby at_366) rfl ((if0 _ _).trans (feq hc366).1) ?_
  show Steps p.tables e below (T0.setTop (mkF m 369 #[.val (.int p1), .val (.int p2), .val (.int p3), .val (.int p4), .val (.int p5), .val (.int p6), .val (.int k6), .val (.int k7), .val (.int k8), s9, s10, s11, s12, s13, s14, s15, s16, s17, s18, s19, s20, s21, .unset] [])) _
  refine XS.iconst X0.here hx rfl (hb hby at_369) ?_
  show Steps p.tables e below (T0.setTop (mkF m 370 #[.val (.int p1), .val (.int p2), .val (.int p3), .val (.int p4), .val (.int p5), .val (.int p6), .val (.int k6), .val (.int k7), .val (.int k8), s9, s10, s11, s12, s13, s14, s15, s16, s17, s18, s19, s20, s21, .unset] [(.int (1 : Int32))])) _
  refine XS.goto X0.here hx rfl (pc0 := 370) (pc' := 374) rfl (hb hby at_370) (by decide) (by decide) ?_
  show Steps p.tables e below (T0.setTop (mkF m 374 #[.val (.int p1), .val (.int p2), .val (.int p3), .val (.int p4), .val (.int p5), .val (.int p6), .val (.int k6), .val (.int k7), .val (.int k8), s9, s10, s11, s12, s13, s14, s15, s16, s17, s18, s19, s20, s21, .unset] [(.int (1 : Int32))])) _
  refine XS.istore X0.here hx rfl (hb hby at_374) rfl (l' := #[.val (.int p1), .val (.int p2), .val (.int p3), .val (.int p4), .val (.int p5), .val (.int p6), .val (.int k6), .val (.int k7), .val (.int k8), s9, s10, s11, s12, s13, s14, s15, s16, s17, s18, s19, s20, s21, .val (.int (1 : Int32))]) rfl ?_
  exact kt
set_option maxRecDepth 65536 in
set_option maxHeartbeats 40000000 in
theorem tn350ffft {p : Program} {l : Launch} {e : Env} {s : State} {m : MethodId} {args : Array Value} {below : List Frame} {meth : Method} {c : Code} {T0 : State} {locs : List Loc} {Z : State} {a0 : Array Value} (hw : ∀ d ∈ tables_1, d.before a0 Z = true) (p1 p2 p3 p4 p5 p6 k6 k7 k8 : Int32) (s9 s10 s11 s12 s13 s14 s15 s16 s17 s18 s19 s20 s21 : Slot) (h0 : Heap) (n0 : Nat) (X0 : Stand p l e room_1 s m args below meth c T0 locs 23 136) (N0 : Fr n0 locs) (hx : p.tables.exec = Jvm.exec) (hZ : Z.Warmed39 s.vm) (hby : c.code = code) (hml : c.maxLocals = 23) (hown : s.vm.findClass "com/example/mirante/mirante/FieldDefHasRuleChecksPinLaw" = some m.cls) (e0 : T0.heap = h0) (O0 : Old Z n0 h0) (hc352 : k6 = (0 : Int32)) (hc356 : ¬ ((0 : Int32) < p2)) (hc361 : k7 = (0 : Int32)) (hc366 : k8 = (0 : Int32)) :
    ∃ (T' : State) (locs' : List Loc), Stand p l e room_1 s m args below meth c T' locs' 23 136 ∧ Fr n0 locs' ∧ T'.heap = h0 ∧
      ∀ target, Steps p.tables e below (T'.setTop (mkF m 376 #[.val (.int p1), .val (.int p2), .val (.int p3), .val (.int p4), .val (.int p5), .val (.int p6), .val (.int k6), .val (.int k7), .val (.int k8), s9, s10, s11, s12, s13, s14, s15, s16, s17, s18, s19, s20, s21, .val (.int (0 : Int32))] [])) target → Steps p.tables e below (T0.setTop (mkF m 350 #[.val (.int p1), .val (.int p2), .val (.int p3), .val (.int p4), .val (.int p5), .val (.int p6), .val (.int k6), .val (.int k7), .val (.int k8), s9, s10, s11, s12, s13, s14, s15, s16, s17, s18, s19, s20, s21, .unset] [])) target := by
  have Z0 : n0 ≤ h0.size := O0.1 ▸ O0.2.1
  refine ⟨T0, _, X0, N0, e0, fun target kt => ?_⟩
  show Steps p.tables e below (T0.setTop (mkF m 350 #[.val (.int p1), .val (.int p2), .val (.int p3), .val (.int p4), .val (.int p5), .val (.int p6), .val (.int k6), .val (.int k7), .val (.int k8), s9, s10, s11, s12, s13, s14, s15, s16, s17, s18, s19, s20, s21, .unset] [])) _
  refine XS.iload X0.here hx rfl (hb hby at_350) rfl ?_
  show Steps p.tables e below (T0.setTop (mkF m 352 #[.val (.int p1), .val (.int p2), .val (.int p3), .val (.int p4), .val (.int p5), .val (.int p6), .val (.int k6), .val (.int k7), .val (.int k8), s9, s10, s11, s12, s13, s14, s15, s16, s17, s18, s19, s20, s21, .unset] [(.int k6)])) _
  refine XS.ifNo X0.here hx rfl (hb hby at_352) rfl ((if0 _ _).trans (teq hc352).2) ?_
  show Steps p.tables e below (T0.setTop (mkF m 355 #[.val (.int p1), .val (.int p2), .val (.int p3), .val (.int p4), .val (.int p5), .val (.int p6), .val (.int k6), .val (.int k7), .val (.int k8), s9, s10, s11, s12, s13, s14, s15, s16, s17, s18, s19, s20, s21, .unset] [])) _
  refine XS.iloadN X0.here hx rfl (hb hby at_355) rfl ?_
  show Steps p.tables e below (T0.setTop (mkF m 356 #[.val (.int p1), .val (.int p2), .val (.int p3), .val (.int p4), .val (.int p5), .val (.int p6), .val (.int k6), .val (.int k7), .val (.int k8), s9, s10, s11, s12, s13, s14, s15, s16, s17, s18, s19, s20, s21, .unset] [(.int p2)])) _
  refine XS.ifNo X0.here hx rfl (hb hby at_356) rfl ((if0 _ _).trans (flt hc356).2.2.1) ?_
  show Steps p.tables e below (T0.setTop (mkF m 359 #[.val (.int p1), .val (.int p2), .val (.int p3), .val (.int p4), .val (.int p5), .val (.int p6), .val (.int k6), .val (.int k7), .val (.int k8), s9, s10, s11, s12, s13, s14, s15, s16, s17, s18, s19, s20, s21, .unset] [])) _
  refine XS.iload X0.here hx rfl (hb hby at_359) rfl ?_
  show Steps p.tables e below (T0.setTop (mkF m 361 #[.val (.int p1), .val (.int p2), .val (.int p3), .val (.int p4), .val (.int p5), .val (.int p6), .val (.int k6), .val (.int k7), .val (.int k8), s9, s10, s11, s12, s13, s14, s15, s16, s17, s18, s19, s20, s21, .unset] [(.int k7)])) _
  refine XS.ifNo X0.here hx rfl (hb hby at_361) rfl ((if0 _ _).trans (teq hc361).2) ?_
  show Steps p.tables e below (T0.setTop (mkF m 364 #[.val (.int p1), .val (.int p2), .val (.int p3), .val (.int p4), .val (.int p5), .val (.int p6), .val (.int k6), .val (.int k7), .val (.int k8), s9, s10, s11, s12, s13, s14, s15, s16, s17, s18, s19, s20, s21, .unset] [])) _
  refine XS.iload X0.here hx rfl (hb hby at_364) rfl ?_
  show Steps p.tables e below (T0.setTop (mkF m 366 #[.val (.int p1), .val (.int p2), .val (.int p3), .val (.int p4), .val (.int p5), .val (.int p6), .val (.int k6), .val (.int k7), .val (.int k8), s9, s10, s11, s12, s13, s14, s15, s16, s17, s18, s19, s20, s21, .unset] [(.int k8)])) _
  refine XS.ifYes X0.here hx rfl (pc0 := 366) (pc' := 373) rfl (hb hby at_366) rfl ((if0 _ _).trans (teq hc366).1) (by decide) (by decide) ?_
  show Steps p.tables e below (T0.setTop (mkF m 373 #[.val (.int p1), .val (.int p2), .val (.int p3), .val (.int p4), .val (.int p5), .val (.int p6), .val (.int k6), .val (.int k7), .val (.int k8), s9, s10, s11, s12, s13, s14, s15, s16, s17, s18, s19, s20, s21, .unset] [])) _
  refine XS.iconst X0.here hx rfl (hb hby at_373) ?_
  show Steps p.tables e below (T0.setTop (mkF m 374 #[.val (.int p1), .val (.int p2), .val (.int p3), .val (.int p4), .val (.int p5), .val (.int p6), .val (.int k6), .val (.int k7), .val (.int k8), s9, s10, s11, s12, s13, s14, s15, s16, s17, s18, s19, s20, s21, .unset] [(.int (0 : Int32))])) _
  refine XS.istore X0.here hx rfl (hb hby at_374) rfl (l' := #[.val (.int p1), .val (.int p2), .val (.int p3), .val (.int p4), .val (.int p5), .val (.int p6), .val (.int k6), .val (.int k7), .val (.int k8), s9, s10, s11, s12, s13, s14, s15, s16, s17, s18, s19, s20, s21, .val (.int (0 : Int32))]) rfl ?_
  exact kt
set_option maxRecDepth 65536 in
set_option maxHeartbeats 40000000 in
theorem tn350 {p : Program} {l : Launch} {e : Env} {s : State} {m : MethodId} {args : Array Value} {below : List Frame} {meth : Method} {c : Code} {T0 : State} {locs : List Loc} {Z : State} {a0 : Array Value} (hw : ∀ d ∈ tables_1, d.before a0 Z = true) (p1 p2 p3 p4 p5 p6 k6 k7 k8 : Int32) (s9 s10 s11 s12 s13 s14 s15 s16 s17 s18 s19 s20 s21 : Slot) (v22 : Int32) (h0 : Heap) (n0 : Nat) (X0 : Stand p l e room_1 s m args below meth c T0 locs 23 136) (N0 : Fr n0 locs) (hx : p.tables.exec = Jvm.exec) (hZ : Z.Warmed39 s.vm) (hby : c.code = code) (hml : c.maxLocals = 23) (hown : s.vm.findClass "com/example/mirante/mirante/FieldDefHasRuleChecksPinLaw" = some m.cls) (e0 : T0.heap = h0) (O0 : Old Z n0 h0) (hv22 : v22 = if ¬ k6 = (0 : Int32) ∨ (0 : Int32) < p2 ∨ ¬ k7 = (0 : Int32) ∨ ¬ k8 = (0 : Int32) then (1 : Int32) else (0 : Int32)) :
    ∃ (T' : State) (locs' : List Loc), Stand p l e room_1 s m args below meth c T' locs' 23 136 ∧ Fr n0 locs' ∧ T'.heap = h0 ∧
      ∀ target, Steps p.tables e below (T'.setTop (mkF m 376 #[.val (.int p1), .val (.int p2), .val (.int p3), .val (.int p4), .val (.int p5), .val (.int p6), .val (.int k6), .val (.int k7), .val (.int k8), s9, s10, s11, s12, s13, s14, s15, s16, s17, s18, s19, s20, s21, .val (.int v22)] [])) target → Steps p.tables e below (T0.setTop (mkF m 350 #[.val (.int p1), .val (.int p2), .val (.int p3), .val (.int p4), .val (.int p5), .val (.int p6), .val (.int k6), .val (.int k7), .val (.int k8), s9, s10, s11, s12, s13, s14, s15, s16, s17, s18, s19, s20, s21, .unset] [])) target := by
  by_cases c1 : k6 = (0 : Int32)
  · by_cases c2 : (0 : Int32) < p2
    · rw [if_pos (Or.inr (Or.inl c2))] at hv22; subst hv22; exact tn350ft hw p1 p2 p3 p4 p5 p6 k6 k7 k8 s9 s10 s11 s12 s13 s14 s15 s16 s17 s18 s19 s20 s21 h0 n0 X0 N0 hx hZ hby hml hown e0 O0 c1 c2
    · by_cases c3 : k7 = (0 : Int32)
      · by_cases c4 : k8 = (0 : Int32)
        · rw [if_neg (fun q => q.elim (fun q => q c1) fun q => q.elim c2 fun q => q.elim (fun q => q c3) fun q => q c4)] at hv22; subst hv22; exact tn350ffft hw p1 p2 p3 p4 p5 p6 k6 k7 k8 s9 s10 s11 s12 s13 s14 s15 s16 s17 s18 s19 s20 s21 h0 n0 X0 N0 hx hZ hby hml hown e0 O0 c1 c2 c3 c4
        · rw [if_pos (Or.inr (Or.inr (Or.inr c4)))] at hv22; subst hv22; exact tn350ffff hw p1 p2 p3 p4 p5 p6 k6 k7 k8 s9 s10 s11 s12 s13 s14 s15 s16 s17 s18 s19 s20 s21 h0 n0 X0 N0 hx hZ hby hml hown e0 O0 c1 c2 c3 c4
      · rw [if_pos (Or.inr (Or.inr (Or.inl c3)))] at hv22; subst hv22; exact tn350fft hw p1 p2 p3 p4 p5 p6 k6 k7 k8 s9 s10 s11 s12 s13 s14 s15 s16 s17 s18 s19 s20 s21 h0 n0 X0 N0 hx hZ hby hml hown e0 O0 c1 c2 c3
  · rw [if_pos (Or.inl c1)] at hv22; subst hv22; exact tn350t hw p1 p2 p3 p4 p5 p6 k6 k7 k8 s9 s10 s11 s12 s13 s14 s15 s16 s17 s18 s19 s20 s21 h0 n0 X0 N0 hx hZ hby hml hown e0 O0 c1
theorem own_strw : ∀ d ∈ Bundle.stringAtoms, d ∈ tables_1 := by decide +kernel
theorem pd_10 : parseMethodDescriptor "(ILjava/lang/String;Ljava/lang/String;Lcom/example/mirante/mirante/FieldFormat;ILcom/example/mirante/mirante/FieldDef$Presence;Ljava/util/Map;Lcom/example/mirante/mirante/FieldDef$Range;Ljava/util/List;Ljava/util/List;ILjava/util/List;Ljava/util/List;ILjava/util/List;)V" = some ⟨[.int, (.object "java/lang/String"), (.object "java/lang/String"), (.object "com/example/mirante/mirante/FieldFormat"), .int, (.object "com/example/mirante/mirante/FieldDef$Presence"), (.object "java/util/Map"), (.object "com/example/mirante/mirante/FieldDef$Range"), (.object "java/util/List"), (.object "java/util/List"), .int, (.object "java/util/List"), (.object "java/util/List"), .int, (.object "java/util/List")], none⟩ := by decide +kernel
def own_Met (l : Launch) (Z : State) (ws : List Jvm.Cond) (as : Array Value) (h0 : Heap) (n0 : Nat) : Prop := MetFree l x (head1 (Jvm.Cond.code x code maxLocals ret :: ws) room_1) (fun a U => a = as ∧ Z.Warmed39 U.vm ∧ U.heap = h0) (fun _ _ _ _ _ => True) (fun _ U o U' => ∃ v L, o = .returned v ∧ (v = some (.int (1 : Int32)) ∧ Fr n0 L) ∧ ReturnedEndW U o U' L room_1.cells room_1.slots)
theorem ef_0 (m : MethodId) (x0 : Int32) (x1 : Int32) (x2 : Int32) (x3 : Int32) (x4 : Int32) (x5 : Int32) : entryFrame m #[(.int x0), (.int x1), (.int x2), (.int x3), (.int x4), (.int x5)] maxLocals = mkF m 0 #[.val (.int x0), .val (.int x1), .val (.int x2), .val (.int x3), .val (.int x4), .val (.int x5), .unset, .unset, .unset, .unset, .unset, .unset, .unset, .unset, .unset, .unset, .unset, .unset, .unset, .unset, .unset, .unset, .unset] [] := by first | (simp [entryFrame, mkF, argsToLocals, Value.category, maxLocals]; done) | rfl
theorem pnc_com_example_mirante_mirante_FieldDefHasRuleChecksPinLaw : plainName "com/example/mirante/mirante/FieldDefHasRuleChecksPinLaw" = true := by first | (simp [plainName, overriddenIn]; done) | decide +kernel
set_option maxRecDepth 65536 in
set_option maxHeartbeats 40000000 in
theorem rm0n (l : Launch) (Z : State) (a0 : Array Value) (hw : ∀ d ∈ tables_1, d.before a0 Z = true) (ws : List Jvm.Cond) (p1 p2 p3 p4 p5 p6 k6 k7 k8 k9 k10 k11 : Int32) (wR wO wC wP wD : Addr) (kD : ClassId) (wI : Addr) (clI : Cell) (zC sz14 sz15 sz16 v22 : Int32) (h0 : Heap) (n0 : Nat) (O0 : Old Z n0 h0) (HV_wD : Arv Z h0 wD kD (.object "java/lang/Object") (0 : Int32) [] .null) (h0_hk6 : k6 = if (p4 &&& (1 : Int32)) = (0 : Int32) then (0 : Int32) else (1 : Int32)) (h13_hk7 : k7 = if (p4 &&& (2 : Int32)) = (0 : Int32) then (0 : Int32) else (1 : Int32)) (h26_hk8 : k8 = if (p4 &&& (4 : Int32)) = (0 : Int32) then (0 : Int32) else (1 : Int32)) (h39_hk9 : k9 = if (p4 &&& (8 : Int32)) = (0 : Int32) then (0 : Int32) else (1 : Int32)) (h53_hk10 : k10 = if (p4 &&& (16 : Int32)) = (0 : Int32) then (0 : Int32) else (1 : Int32)) (h67_hk11 : k11 = if (p4 &&& (32 : Int32)) = (0 : Int32) then (0 : Int32) else (1 : Int32)) (S_REQUIRED : Sta Z Z.heap "com/example/mirante/mirante/FieldDef$Presence" "REQUIRED" "Lcom/example/mirante/mirante/FieldDef$Presence;" (.ref wR)) (S_OPTIONAL : Sta Z Z.heap "com/example/mirante/mirante/FieldDef$Presence" "OPTIONAL" "Lcom/example/mirante/mirante/FieldDef$Presence;" (.ref wO)) (S_CONDITIONAL : Sta Z Z.heap "com/example/mirante/mirante/FieldDef$Presence" "CONDITIONAL" "Lcom/example/mirante/mirante/FieldDef$Presence;" (.ref wC)) (h81_hwP : wP = if (((p4.toUInt32 >>> ((8 : Int32) &&& 31).toUInt32).toInt32) % (3 : Int32)) = (0 : Int32) then wR else if (((p4.toUInt32 >>> ((8 : Int32) &&& 31).toUInt32).toInt32) % (3 : Int32)) = (1 : Int32) then wO else wC) (S_DEFAULTCAPACITY_EMPTY_ELEMENTDATA : Sta Z Z.heap "java/util/ArrayList" "DEFAULTCAPACITY_EMPTY_ELEMENTDATA" "[Ljava/lang/Object;" (.ref wD)) (h117_hsz14 : sz14 = if k6 = (0 : Int32) then (0 : Int32) else (1 : Int32)) (S_high : Sta Z Z.heap "java/lang/Integer$IntegerCache" "high" "I" (.int (127 : Int32))) (S_cache : Sta Z Z.heap "java/lang/Integer$IntegerCache" "cache" "[Ljava/lang/Integer;" (.ref wI)) (h140_h166_HAI : Arr Z Z.heap wI clI (.object "java/lang/Integer")) (h140_h166_HCI : ∀ j : Int32, ¬ j < 0 → j < 256 → ¬ (j < 0 ∨ clI.slots.size ≤ j.toNatClampNeg) ∧ ∃ y, clI.slots[j.toNatClampNeg]? = some (.ref y) ∧ Exa Z Z.heap y "java/lang/Integer") (h140_hsz15 : sz15 = if k7 = (0 : Int32) then (0 : Int32) else (1 : Int32)) (h207_hsz16 : sz16 = if k8 = (0 : Int32) then (0 : Int32) else (1 : Int32)) (S_COMPACT_STRINGS : Sta Z Z.heap "java/lang/String" "COMPACT_STRINGS" "Z" (.int zC)) (h225_h247_hc3 : ¬ (zC = (0 : Int32))) (hc281 : k11 = (0 : Int32)) (h350_hv22 : v22 = if ¬ k6 = (0 : Int32) ∨ (0 : Int32) < p2 ∨ ¬ k7 = (0 : Int32) ∨ ¬ k8 = (0 : Int32) then (1 : Int32) else (0 : Int32)) (h378_hr : v22 = if ¬ sz14 = (0 : Int32) ∨ (0 : Int32) < p2 ∨ ¬ sz15 = (0 : Int32) ∨ ¬ sz16 = (0 : Int32) then (1 : Int32) else (0 : Int32)) :
    own_Met l Z ws #[(.int p1), (.int p2), (.int p3), (.int p4), (.int p5), (.int p6)] h0 n0 := by
  refine MetFree.of_bodySF (plainFor_of_name pnc_com_example_mirante_mirante_FieldDefHasRuleChecksPinLaw) hisR ?_
  intro p e s m args below meth c s₁ Bd hml0 hP hK
  obtain ⟨rfl, hZ_, hh⟩ := hP
  have hx := Bd.exec
  have hby := Bd.bytes
  have hml : c.maxLocals = 23 := hml0
  have hown : s.vm.findClass "com/example/mirante/mirante/FieldDefHasRuleChecksPinLaw" = some m.cls := findClass_of_methodNamed Bd.named
  have hnm := (name_of_methodNamed Bd.named Bd.method).1
  have X0 : Stand p l e room_1 (s.setVm s.vm) m #[(.int p1), (.int p2), (.int p3), (.int p4), (.int p5), (.int p6)] below meth c s₁ [] 0 0 := Stand.of_body Bd
  have hZ : Z.Warmed39 (s.setVm s.vm).vm := hZ_
  have hS0 : s.Since s.vm s.heap.size := (State.WarmedH.refl s).since s.heap.size
  have hk0 : s.heap.size ≤ h0.size := Nat.le_of_eq (by rw [hh])
  have e0 : s₁.heap = h0 := by rw [← hh, Bd.state]; rfl
  have N0 := Fr.nil n0
  have Z0 : n0 ≤ h0.size := O0.1 ▸ O0.2.1
  have pre0 : ∀ t, Steps p.tables e below (s₁.setTop (mkF m 0 #[.val (.int p1), .val (.int p2), .val (.int p3), .val (.int p4), .val (.int p5), .val (.int p6), .unset, .unset, .unset, .unset, .unset, .unset, .unset, .unset, .unset, .unset, .unset, .unset, .unset, .unset, .unset, .unset, .unset] [])) t → Steps p.tables e below (s₁.setTop (entryFrame m #[(.int p1), (.int p2), (.int p3), (.int p4), (.int p5), (.int p6)] maxLocals)) t := fun t k => castTop (ef_0 m p1 p2 p3 p4 p5 p6) k
  obtain ⟨T7, L7, X7, N7, e7, st7⟩ := tn0 hw p1 p2 p3 p4 p5 p6 k6 h0 n0 X0 N0 hx hZ hby hml hown e0 O0 h0_hk6
  obtain ⟨T8, L8, X8, N8, e8, st8⟩ := tn13 hw p1 p2 p3 p4 p5 p6 k6 k7 h0 n0 X7 N7 hx hZ hby hml hown e7 O0 h13_hk7
  obtain ⟨T9, L9, X9, N9, e9, st9⟩ := tn26 hw p1 p2 p3 p4 p5 p6 k6 k7 k8 h0 n0 X8 N8 hx hZ hby hml hown e8 O0 h26_hk8
  obtain ⟨T10, L10, X10, N10, e10, st10⟩ := tn39 hw p1 p2 p3 p4 p5 p6 k6 k7 k8 k9 h0 n0 X9 N9 hx hZ hby hml hown e9 O0 h39_hk9
  obtain ⟨T11, L11, X11, N11, e11, st11⟩ := tn53 hw p1 p2 p3 p4 p5 p6 k6 k7 k8 k9 k10 h0 n0 X10 N10 hx hZ hby hml hown e10 O0 h53_hk10
  obtain ⟨T12, L12, X12, N12, e12, st12⟩ := tn67 hw p1 p2 p3 p4 p5 p6 k6 k7 k8 k9 k10 k11 h0 n0 X11 N11 hx hZ hby hml hown e11 O0 h67_hk11
  obtain ⟨T13, L13, X13, N13, e13, st13⟩ := tn81 hw p1 p2 p3 p4 p5 p6 k6 k7 k8 k9 k10 k11 wR wO wC wP h0 n0 X12 N12 hx hZ hby hml hown e12 O0 S_REQUIRED S_OPTIONAL S_CONDITIONAL h81_hwP
  obtain ⟨T14, L14, h14, b15, X14, N14, e14, K14, Y14_z0, Y14_0, Y14_1, st14⟩ := tn117 hw p1 p2 p3 p4 p5 p6 k6 k7 k8 k9 k10 k11 ((((p4.toUInt32 >>> ((8 : Int32) &&& 31).toUInt32).toInt32) % (3 : Int32))) wP wD kD sz14 h0 n0 X13 N13 hx hZ hby hml hown e13 O0 HV_wD S_DEFAULTCAPACITY_EMPTY_ELEMENTDATA h117_hsz14
  have g_b15 : n0 ≤ b15 := Nat.le_trans (Nat.le_trans Z0 (Keep.refl h0 []).1) Y14_z0
  have sz_b15 : h0.size ≤ b15 := Nat.le_trans (Keep.refl h0 []).1 Y14_z0
  have K16 : Keep h0 h14 [] := (Keep.refl h0 []).trans K14 all0
  have O17 : Old Z n0 h14 := O0.keep K14 all0
  have f18 := (HV_wD.keep K14 nin0)
  obtain ⟨T19, L19, h19, b20, b21, X19, N19, e19, K19, Y19_z0, Y19_z1, Y19_n0, Y19_0, Y19_1, Y19_2, Y19_3, Y19_4, Y19_5, st19⟩ := tn140 hw p1 p2 p3 p4 p5 p6 k6 k7 k8 k9 k10 k11 ((((p4.toUInt32 >>> ((8 : Int32) &&& 31).toUInt32).toInt32) % (3 : Int32))) wP b15 wD kD wI clI sz15 h14 n0 X14 N14 hx hZ hby hml hown e14 O17 f18 S_DEFAULTCAPACITY_EMPTY_ELEMENTDATA S_high S_cache h140_h166_HAI h140_h166_HCI h140_hsz15
  have g_b20 : n0 ≤ b20 := Nat.le_trans (Nat.le_trans Z0 K16.1) Y19_z0
  have sz_b20 : h0.size ≤ b20 := Nat.le_trans K16.1 Y19_z0
  have g_b21 : n0 ≤ b21 := Nat.le_trans (Nat.le_trans Z0 K16.1) Y19_z1
  have sz_b21 : h0.size ≤ b21 := Nat.le_trans K16.1 Y19_z1
  have K22 : Keep h0 h19 [] := K16.trans K19 all0
  have O23 : Old Z n0 h19 := O17.keep K19 all0
  have f24 := (f18.keep K19 nin0)
  obtain ⟨T25, L25, h25, X25, N25, e25, K25, Y25_0, Y25_1, st25⟩ := tn207 hw p1 p2 p3 p4 p5 p6 k6 k7 k8 k9 k10 k11 ((((p4.toUInt32 >>> ((8 : Int32) &&& 31).toUInt32).toInt32) % (3 : Int32))) wP b15 b20 b21 ((0 : Int32)) wD kD wI clI sz16 h19 n0 X19 N19 hx hZ hby hml hown e19 O23 Y19_2 Y19_3 Y19_4 Y19_5 f24 S_high S_cache h140_h166_HAI h140_h166_HCI S_DEFAULTCAPACITY_EMPTY_ELEMENTDATA g_b21 (Nat.ne_of_lt (Nat.lt_of_lt_of_le (Nat.lt_of_lt_of_le HV_wD.lt K14.1) Y19_z1)) h207_hsz16
  have K26 : Keep h0 h25 [] := K22.trans K25 (allS (Or.inr sz_b21) all0)
  have O27 : Old Z n0 h25 := O23.keep K25 (allS g_b21 all0)
  have f28 := (f24.keep K25 (ninS (Nat.ne_of_lt (Nat.lt_of_lt_of_le (Nat.lt_of_lt_of_le HV_wD.lt K14.1) Y19_z1)) nin0))
  obtain ⟨T29, L29, h29, b30, X29, N29, e29, K29, Y29_z0, st29⟩ := tn225 hw p1 p2 p3 p4 p5 p6 k6 k7 k8 k9 k10 k11 ((((p4.toUInt32 >>> ((8 : Int32) &&& 31).toUInt32).toInt32) % (3 : Int32))) wP b15 b20 b21 wD kD zC h25 n0 X25 N25 hx hZ hby hml hown e25 O27 f28 S_DEFAULTCAPACITY_EMPTY_ELEMENTDATA S_COMPACT_STRINGS h225_h247_hc3
  have g_b30 : n0 ≤ b30 := Nat.le_trans (Nat.le_trans Z0 K26.1) Y29_z0
  have sz_b30 : h0.size ≤ b30 := Nat.le_trans K26.1 Y29_z0
  have K31 : Keep h0 h29 [] := K26.trans K29 all0
  have O32 : Old Z n0 h29 := O27.keep K29 all0
  have f33 := (f28.keep K29 nin0)
  obtain ⟨T34, L34, h34, b35, X34, N34, e34, K34, Y34_z0, st34⟩ := tn256 hw p1 p2 p3 p4 p5 p6 k6 k7 k8 k9 k10 k11 ((((p4.toUInt32 >>> ((8 : Int32) &&& 31).toUInt32).toInt32) % (3 : Int32))) wP b15 b20 b21 b30 wD kD h29 n0 X29 N29 hx hZ hby hml hown e29 O32 f33 S_DEFAULTCAPACITY_EMPTY_ELEMENTDATA
  have g_b35 : n0 ≤ b35 := Nat.le_trans (Nat.le_trans Z0 K31.1) Y34_z0
  have sz_b35 : h0.size ≤ b35 := Nat.le_trans K31.1 Y34_z0
  have K36 : Keep h0 h34 [] := K31.trans K34 all0
  have O37 : Old Z n0 h34 := O32.keep K34 all0
  obtain ⟨vr38, _, ⟨T38, L38, k38, n38⟩, -, X38, ⟨Lc38, hQ38, l38, y38, z38⟩, st38⟩ := Jvm.LawKit.callS X34 hx (y := (⟨"java/lang/String", "valueOf", "(C)Ljava/lang/String;"⟩ : MethodName)) hown (mvT hZ (hw _ (List.mem_of_getElem? (i := 63) rfl))) (mvT hZ (hw _ (List.mem_of_getElem? (i := 64) rfl))) (mvT hZ (hw _ (List.mem_of_getElem? (i := 65) rfl))) (mvT hZ (hw _ (List.mem_of_getElem? (i := 66) rfl))) (by decide) (backOf (W := 0) (rm10 l Z a0 hw [] (((((p4.toUInt32 >>> ((16 : Int32) &&& 31).toUInt32).toInt32) &&& (255 : Int32)).toUInt32.toUInt16.toUInt32.toInt32)) zC h34 n0 O37 S_COMPACT_STRINGS h225_h247_hc3 ((by rw [i2c_mask]; exact (own_m255 _).2) : ¬ ((255 : Int32) < ((((p4.toUInt32 >>> ((16 : Int32) &&& 31).toUInt32).toInt32) &&& (255 : Int32)).toUInt32.toUInt16.toUInt32.toInt32)))) hZ (hw _ (List.mem_of_getElem? (i := 66) rfl)) (hw _ (List.mem_of_getElem? (i := 65) rfl)) (by decide) (by decide)) (g := (mkF m 311 #[.val (.int p1), .val (.int p2), .val (.int p3), .val (.int p4), .val (.int p5), .val (.int p6), .val (.int k6), .val (.int k7), .val (.int k8), .val (.int k9), .val (.int k10), .val (.int k11), .val (.int (((p4.toUInt32 >>> ((8 : Int32) &&& 31).toUInt32).toInt32) % (3 : Int32))), .val (.ref wP), .val (.ref b15), .val (.ref b20), .val (.ref b21), .val (.ref b30), .val (.ref b35), .val .null, .unset, .unset, .unset] [(.int ((((p4.toUInt32 >>> ((16 : Int32) &&& 31).toUInt32).toInt32) &&& (255 : Int32)).toUInt32.toUInt16.toUInt32.toInt32))])) rfl (by rw [hml]; rfl) (argsL := [(.int ((((p4.toUInt32 >>> ((16 : Int32) &&& 31).toUInt32).toInt32) &&& (255 : Int32)).toUInt32.toUInt16.toUInt32.toInt32))]) (rest := []) (lenOf pd_3 rfl) rfl (by show 2 * 0 + _ ≤ _; exact Nat.le_of_eq rfl) (hb hby at_311) (fun _ _ => ⟨rfl, e34, (by decide : 17 + 2 ≤ _), (by decide : 86 + 5 ≤ _)⟩)
  dsimp only [Pt.U, Pt.locs, Pt.cells, Pt.slots] at X38 l38 y38 z38 st38 hQ38
  subst l38 y38 z38
  obtain ⟨b39, rfl, N38q, K38, Y38_z0, Y38_0⟩ := hQ38
  have N38 := Fr.app N34 N38q
  replace X38 := X38.more (cells' := 19) (slots' := 91) (by decide) (by decide)
  have g_b39 : n0 ≤ b39 := Nat.le_trans (Nat.le_trans Z0 K36.1) Y38_z0
  have sz_b39 : h0.size ≤ b39 := Nat.le_trans K36.1 Y38_z0
  have K40 : Keep h0 T38.heap [] := K36.trans K38 all0
  have O41 : Old Z n0 T38.heap := O37.keep K38 all0
  obtain ⟨T42, h42, X42, e42, E42, A42, D42, -, st42⟩ := newO X38 hx hZ hown (hw _ (List.mem_of_getElem? (i := 87) rfl)) (hw _ (List.mem_of_getElem? (i := 88) rfl)) (hw _ (List.mem_of_getElem? (i := 89) rfl)) rfl (g := (mkF m 316 #[.val (.int p1), .val (.int p2), .val (.int p3), .val (.int p4), .val (.int p5), .val (.int p6), .val (.int k6), .val (.int k7), .val (.int k8), .val (.int k9), .val (.int k10), .val (.int k11), .val (.int (((p4.toUInt32 >>> ((8 : Int32) &&& 31).toUInt32).toInt32) % (3 : Int32))), .val (.ref wP), .val (.ref b15), .val (.ref b20), .val (.ref b21), .val (.ref b30), .val (.ref b35), .val .null, .val (.ref b39), .unset, .unset] [])) rfl (hb hby at_316) (by decide) (by decide)
  obtain ⟨b42, g42⟩ : ∃ z, z = T38.heap.size := ⟨_, rfl⟩
  rw [← g42] at A42 D42 st42
  have g_b42 : n0 ≤ b42 := Nat.le_trans (Nat.le_trans Z0 K40.1) (Nat.le_of_eq g42.symm)
  have sz_b42 : h0.size ≤ b42 := Nat.le_trans K40.1 (Nat.le_of_eq g42.symm)
  have K43 : Keep h0 h42 [] := K40.ext E42
  have O44 : Old Z n0 h42 := O41.ext E42
  have F_tag_b42 : Fld Z h42 b42 "com/example/mirante/mirante/FieldDef" "tag" "I" (.int (0 : Int32)) := D42 (Or.inr (hw _ (List.mem_of_getElem? (i := 103) rfl))) (ty := .int) (by decide)
  have F_name_b42 : Fld Z h42 b42 "com/example/mirante/mirante/FieldDef" "name" "Ljava/lang/String;" .null := D42 (Or.inr (hw _ (List.mem_of_getElem? (i := 105) rfl))) (ty := (.object "java/lang/String")) (by decide)
  have F_type_b42 : Fld Z h42 b42 "com/example/mirante/mirante/FieldDef" "type" "Ljava/lang/String;" .null := D42 (Or.inr (hw _ (List.mem_of_getElem? (i := 107) rfl))) (ty := (.object "java/lang/String")) (by decide)
  have F_format_b42 : Fld Z h42 b42 "com/example/mirante/mirante/FieldDef" "format" "Lcom/example/mirante/mirante/FieldFormat;" .null := D42 (Or.inr (hw _ (List.mem_of_getElem? (i := 109) rfl))) (ty := (.object "com/example/mirante/mirante/FieldFormat")) (by decide)
  have F_maxLength_b42 : Fld Z h42 b42 "com/example/mirante/mirante/FieldDef" "maxLength" "I" (.int (0 : Int32)) := D42 (Or.inr (hw _ (List.mem_of_getElem? (i := 111) rfl))) (ty := .int) (by decide)
  have F_presence_b42 : Fld Z h42 b42 "com/example/mirante/mirante/FieldDef" "presence" "Lcom/example/mirante/mirante/FieldDef$Presence;" .null := D42 (Or.inr (hw _ (List.mem_of_getElem? (i := 113) rfl))) (ty := (.object "com/example/mirante/mirante/FieldDef$Presence")) (by decide)
  have F_values_b42 : Fld Z h42 b42 "com/example/mirante/mirante/FieldDef" "values" "Ljava/util/Map;" .null := D42 (Or.inr (hw _ (List.mem_of_getElem? (i := 115) rfl))) (ty := (.object "java/util/Map")) (by decide)
  have F_range_b42 : Fld Z h42 b42 "com/example/mirante/mirante/FieldDef" "range" "Lcom/example/mirante/mirante/FieldDef$Range;" .null := D42 (Or.inr (hw _ (List.mem_of_getElem? (i := 117) rfl))) (ty := (.object "com/example/mirante/mirante/FieldDef$Range")) (by decide)
  have F_rules_b42 : Fld Z h42 b42 "com/example/mirante/mirante/FieldDef" "rules" "Ljava/util/List;" .null := D42 (Or.inr (hw _ (List.mem_of_getElem? (i := 119) rfl))) (ty := (.object "java/util/List")) (by decide)
  have F_conditions_b42 : Fld Z h42 b42 "com/example/mirante/mirante/FieldDef" "conditions" "Ljava/util/List;" .null := D42 (Or.inr (hw _ (List.mem_of_getElem? (i := 121) rfl))) (ty := (.object "java/util/List")) (by decide)
  have F_count_b42 : Fld Z h42 b42 "com/example/mirante/mirante/FieldDef" "count" "I" (.int (0 : Int32)) := D42 (Or.inr (hw _ (List.mem_of_getElem? (i := 123) rfl))) (ty := .int) (by decide)
  have F_anyPresent_b42 : Fld Z h42 b42 "com/example/mirante/mirante/FieldDef" "anyPresent" "Ljava/util/List;" .null := D42 (Or.inr (hw _ (List.mem_of_getElem? (i := 125) rfl))) (ty := (.object "java/util/List")) (by decide)
  have F_before_b42 : Fld Z h42 b42 "com/example/mirante/mirante/FieldDef" "before" "Ljava/util/List;" .null := D42 (Or.inr (hw _ (List.mem_of_getElem? (i := 127) rfl))) (ty := (.object "java/util/List")) (by decide)
  have F_lengthOf_b42 : Fld Z h42 b42 "com/example/mirante/mirante/FieldDef" "lengthOf" "I" (.int (0 : Int32)) := D42 (Or.inr (hw _ (List.mem_of_getElem? (i := 129) rfl))) (ty := .int) (by decide)
  have F_members_b42 : Fld Z h42 b42 "com/example/mirante/mirante/FieldDef" "members" "Ljava/util/List;" .null := D42 (Or.inr (hw _ (List.mem_of_getElem? (i := 131) rfl))) (ty := (.object "java/util/List")) (by decide)
  replace X42 := X42.more (cells' := 20) (slots' := 106) (by decide) (by decide)
  obtain ⟨b45, T45, h45, k45, X45, e45, E45, hS45, hk45, hZ45, ho45, st45⟩ := ldcS X42 hx hZ hown (hw _ (List.mem_of_getElem? (i := 90) rfl)) (fun d hd => hw d (own_strw d hd)) e42 hS0 (Nat.le_trans hk0 (Nat.le_trans (Nat.le_trans (Nat.le_trans (Nat.le_trans (Nat.le_trans (Nat.le_trans K14.1 K19.1) K25.1) K29.1) K34.1) K38.1) E42.1)) (g := (mkF m 323 #[.val (.int p1), .val (.int p2), .val (.int p3), .val (.int p4), .val (.int p5), .val (.int p6), .val (.int k6), .val (.int k7), .val (.int k8), .val (.int k9), .val (.int k10), .val (.int k11), .val (.int (((p4.toUInt32 >>> ((8 : Int32) &&& 31).toUInt32).toInt32) % (3 : Int32))), .val (.ref wP), .val (.ref b15), .val (.ref b20), .val (.ref b21), .val (.ref b30), .val (.ref b35), .val .null, .val (.ref b39), .unset, .unset] [(.ref b39), (.int p1), (.ref b42), (.ref b42)])) rfl (hb hby at_323) (n := 24) (by decide) (by decide) (by decide) (by decide)
  have K46 : Keep h0 h45 [] := K43.ext E45
  have O47 : Old Z n0 h45 := O44.ext E45
  replace X45 := X45.more (cells' := 22) (slots' := 134) (by decide) (by decide)
  have f48 := (A42.ext E45)
  have f49 := (F_tag_b42.ext E45)
  have f50 := (F_name_b42.ext E45)
  have f51 := (F_type_b42.ext E45)
  have f52 := (F_format_b42.ext E45)
  have f53 := (F_maxLength_b42.ext E45)
  have f54 := (F_presence_b42.ext E45)
  have f55 := (F_values_b42.ext E45)
  have f56 := (F_range_b42.ext E45)
  have f57 := (F_rules_b42.ext E45)
  have f58 := (F_conditions_b42.ext E45)
  have f59 := (F_count_b42.ext E45)
  have f60 := (F_anyPresent_b42.ext E45)
  have f61 := (F_before_b42.ext E45)
  have f62 := (F_lengthOf_b42.ext E45)
  have f63 := (F_members_b42.ext E45)
  obtain ⟨vr64, _, ⟨T64, L64, k64, n64⟩, -, X64, ⟨Lc64, hQ64, l64, y64, z64⟩, st64⟩ := X45.specialBack hx (y := (⟨"com/example/mirante/mirante/FieldDef", "<init>", "(ILjava/lang/String;Ljava/lang/String;Lcom/example/mirante/mirante/FieldFormat;ILcom/example/mirante/mirante/FieldDef$Presence;Ljava/util/Map;Lcom/example/mirante/mirante/FieldDef$Range;Ljava/util/List;Ljava/util/List;ILjava/util/List;Ljava/util/List;ILjava/util/List;)V"⟩ : MethodName)) rfl ho45 (mvT hZ45 (hw _ (List.mem_of_getElem? (i := 93) rfl))) (mvT hZ45 (hw _ (List.mem_of_getElem? (i := 94) rfl))) (mvT hZ45 (hw _ (List.mem_of_getElem? (i := 95) rfl))) (by decide) (backOf (W := 1) (rm14rn l Z a0 hw [] b42 p1 b39 b45 p5 wP b30 b15 p2 b20 b21 p3 b35 ((.int (0 : Int32))) (.null) (.null) (.null) ((.int (0 : Int32))) (.null) (.null) (.null) (.null) (.null) ((.int (0 : Int32))) (.null) (.null) ((.int (0 : Int32))) (.null) h45 n0 O47 f48 f49 g_b42 f50 f51 f52 f53 f54 f55 f56 f57 f58 f59 f60 f61 f62 f63) hZ45 (hw _ (List.mem_of_getElem? (i := 95) rfl)) (hw _ (List.mem_of_getElem? (i := 89) rfl)) (by decide) (by decide)) (g := (mkF m 345 #[.val (.int p1), .val (.int p2), .val (.int p3), .val (.int p4), .val (.int p5), .val (.int p6), .val (.int k6), .val (.int k7), .val (.int k8), .val (.int k9), .val (.int k10), .val (.int k11), .val (.int (((p4.toUInt32 >>> ((8 : Int32) &&& 31).toUInt32).toInt32) % (3 : Int32))), .val (.ref wP), .val (.ref b15), .val (.ref b20), .val (.ref b21), .val (.ref b30), .val (.ref b35), .val .null, .val (.ref b39), .unset, .unset] [(.ref b35), (.int p3), (.ref b21), (.ref b20), (.int p2), (.ref b15), (.ref b30), .null, .null, (.ref wP), (.int p5), .null, (.ref b45), (.ref b39), (.int p1), (.ref b42), (.ref b42)])) rfl (by rw [hml]; rfl) (Steps.refl _) (a := b42) (argsL := [(.int p1), (.ref b39), (.ref b45), .null, (.int p5), (.ref wP), .null, .null, (.ref b30), (.ref b15), (.int p2), (.ref b20), (.ref b21), (.int p3), (.ref b35)]) (rest := [(.ref b42)]) (lenOf pd_10 rfl) rfl (by show 2 * 0 + _ ≤ _; exact Nat.le_of_eq rfl) (hb hby at_345) (fun _ _ => ⟨rfl, e45, (by decide : 22 + 0 ≤ _), (by decide : 134 + 0 ≤ _)⟩)
  dsimp only [Pt.U, Pt.locs, Pt.cells, Pt.slots] at X64 l64 y64 z64 st64 hQ64
  subst l64 y64 z64
  obtain ⟨rfl, N64q, K64, Y64_0, Y64_1, Y64_2, Y64_3, Y64_4⟩ := hQ64
  have N64 := Fr.app N38 N64q
  replace X64 := X64.more (cells' := 22) (slots' := 134) (by decide) (by decide)
  have K65 : Keep h0 T64.heap [] := K46.trans K64 (allS (Or.inr sz_b42) all0)
  have O66 : Old Z n0 T64.heap := O47.keep K64 (allS g_b42 all0)
  replace X64 := X64.more (cells' := 23) (slots' := 136) (by decide) (by decide)
  obtain ⟨T67, L67, X67, N67, e67, st67⟩ := tn350 hw p1 p2 p3 p4 p5 p6 k6 k7 k8 ((.val (.int k9))) ((.val (.int k10))) ((.val (.int k11))) ((.val (.int (((p4.toUInt32 >>> ((8 : Int32) &&& 31).toUInt32).toInt32) % (3 : Int32))))) ((.val (.ref wP))) ((.val (.ref b15))) ((.val (.ref b20))) ((.val (.ref b21))) ((.val (.ref b30))) ((.val (.ref b35))) ((.val .null)) ((.val (.ref b39))) ((.val (.ref b42))) v22 T64.heap n0 X64 N64 hx hZ45 hby hml ho45 rfl O66 h350_hv22
  have f68 := ((((((((Y14_0.keep K19).keep K25).keep K29).keep K34).keep K38).ext E42).ext E45).keep K64)
  have f69 := ((((((((Y14_1.keep K19 nin0).keep K25 (ninS (Nat.ne_of_lt (Nat.lt_of_lt_of_le Y14_0.lt Y19_z1)) nin0)).keep K29 nin0).keep K34 nin0).keep K38 nin0).ext E42).ext E45).keep K64 (ninS (Nat.ne_of_lt (Nat.lt_of_lt_of_le (Nat.lt_of_lt_of_le Y14_0.lt (Nat.le_trans (Nat.le_trans (Nat.le_trans (Nat.le_trans K19.1 K25.1) K29.1) K34.1) K38.1)) (Nat.le_of_eq g42.symm))) nin0))
  have f70 := (((((((Y19_0.keep K25).keep K29).keep K34).keep K38).ext E42).ext E45).keep K64)
  have f71 := (((((((Y19_1.keep K25 (ninS Y19_n0 nin0)).keep K29 nin0).keep K34 nin0).keep K38 nin0).ext E42).ext E45).keep K64 (ninS (Nat.ne_of_lt (Nat.lt_of_lt_of_le (Nat.lt_of_lt_of_le Y19_0.lt (Nat.le_trans (Nat.le_trans (Nat.le_trans K25.1 K29.1) K34.1) K38.1)) (Nat.le_of_eq g42.symm))) nin0))
  have f72 := ((((((Y25_0.keep K29).keep K34).keep K38).ext E42).ext E45).keep K64)
  have f73 := ((((((Y25_1.keep K29 nin0).keep K34 nin0).keep K38 nin0).ext E42).ext E45).keep K64 (ninS (Nat.ne_of_lt (Nat.lt_of_lt_of_le (Nat.lt_of_lt_of_le Y19_2.lt (Nat.le_trans (Nat.le_trans (Nat.le_trans K25.1 K29.1) K34.1) K38.1)) (Nat.le_of_eq g42.symm))) nin0))
  obtain ⟨cq74, kq74, q74a, q74b, q74c⟩ := isOf hZ45 e67 Y64_0
  obtain ⟨vr74, _, ⟨T74, L74, k74, n74⟩, -, X74, ⟨Lc74, hQ74, l74, y74, z74⟩, st74⟩ := X67.virtualBack hx (y := (⟨"com/example/mirante/mirante/FieldDef", "hasRuleChecks", "()Z"⟩ : MethodName)) (z := (⟨"com/example/mirante/mirante/FieldDef", "hasRuleChecks", "()Z"⟩ : MethodName)) ho45 (mvT hZ45 (hw _ (List.mem_of_getElem? (i := 132) rfl))) (mvT hZ45 (hw _ (List.mem_of_getElem? (i := 133) rfl))) (notFace_of_selects (args := #[]) (mvT hZ45 (hw _ (List.mem_of_getElem? (i := 135) rfl)))) (mvT hZ45 (hw _ (List.mem_of_getElem? (i := 135) rfl))) (mvT hZ45 (hw _ (List.mem_of_getElem? (i := 134) rfl))) (by decide) (backOf (W := 0) (rm16 l Z a0 hw [] b42 b15 b20 b21 p2 sz14 sz15 sz16 v22 T64.heap n0 O66 Y64_3 Y64_4 Y64_1 Y64_2 f68 f69 f70 f71 f72 f73 h378_hr) hZ45 (hw _ (List.mem_of_getElem? (i := 136) rfl)) (hw _ (List.mem_of_getElem? (i := 89) rfl)) (by decide) (by decide)) q74a q74c (g := (mkF m 378 #[.val (.int p1), .val (.int p2), .val (.int p3), .val (.int p4), .val (.int p5), .val (.int p6), .val (.int k6), .val (.int k7), .val (.int k8), .val (.int k9), .val (.int k10), .val (.int k11), .val (.int (((p4.toUInt32 >>> ((8 : Int32) &&& 31).toUInt32).toInt32) % (3 : Int32))), .val (.ref wP), .val (.ref b15), .val (.ref b20), .val (.ref b21), .val (.ref b30), .val (.ref b35), .val .null, .val (.ref b39), .val (.ref b42), .val (.int v22)] [(.ref b42)])) rfl (by rw [hml]; rfl) (Steps.refl _) (argsL := []) (rest := []) (lenOf pd_1 rfl) rfl (by show 2 * 0 + _ ≤ _; exact Nat.le_of_eq rfl) (hb hby at_378) (fun _ _ => ⟨rfl, e67, (by decide : 23 + 0 ≤ _), (by decide : 136 + 0 ≤ _)⟩)
  dsimp only [Pt.U, Pt.locs, Pt.cells, Pt.slots] at X74 l74 y74 z74 st74 hQ74
  subst l74 y74 z74
  obtain ⟨rfl, N74q, e74⟩ := hQ74
  have N74 := Fr.app N67 N74q
  replace X74 := X74.more (cells' := 23) (slots' := 136) (by decide) (by decide)
  obtain ⟨fs, hr, hrun, hended, hend⟩ := X74.leaveW hS45 (by rw [e74]; exact (Nat.le_trans hk45 K64.1)) (v := some (.int (1 : Int32))) (fun h => by rw [Bd.returns] at h; cases h)
  refine ⟨_, _, pre0 _ ?_, hrun, hended, _, _, rfl, ?_, hend.1, hend.2.1, hend.2.2.1, hend.2.2.2.mono (by decide) (by decide)⟩
  · show Steps p.tables e below (s₁.setTop (mkF m 0 #[.val (.int p1), .val (.int p2), .val (.int p3), .val (.int p4), .val (.int p5), .val (.int p6), .unset, .unset, .unset, .unset, .unset, .unset, .unset, .unset, .unset, .unset, .unset, .unset, .unset, .unset, .unset, .unset, .unset] [])) _
    refine st7 _ ?_
    show Steps p.tables e below (T7.setTop (mkF m 13 #[.val (.int p1), .val (.int p2), .val (.int p3), .val (.int p4), .val (.int p5), .val (.int p6), .val (.int k6), .unset, .unset, .unset, .unset, .unset, .unset, .unset, .unset, .unset, .unset, .unset, .unset, .unset, .unset, .unset, .unset] [])) _
    refine st8 _ ?_
    show Steps p.tables e below (T8.setTop (mkF m 26 #[.val (.int p1), .val (.int p2), .val (.int p3), .val (.int p4), .val (.int p5), .val (.int p6), .val (.int k6), .val (.int k7), .unset, .unset, .unset, .unset, .unset, .unset, .unset, .unset, .unset, .unset, .unset, .unset, .unset, .unset, .unset] [])) _
    refine st9 _ ?_
    show Steps p.tables e below (T9.setTop (mkF m 39 #[.val (.int p1), .val (.int p2), .val (.int p3), .val (.int p4), .val (.int p5), .val (.int p6), .val (.int k6), .val (.int k7), .val (.int k8), .unset, .unset, .unset, .unset, .unset, .unset, .unset, .unset, .unset, .unset, .unset, .unset, .unset, .unset] [])) _
    refine st10 _ ?_
    show Steps p.tables e below (T10.setTop (mkF m 53 #[.val (.int p1), .val (.int p2), .val (.int p3), .val (.int p4), .val (.int p5), .val (.int p6), .val (.int k6), .val (.int k7), .val (.int k8), .val (.int k9), .unset, .unset, .unset, .unset, .unset, .unset, .unset, .unset, .unset, .unset, .unset, .unset, .unset] [])) _
    refine st11 _ ?_
    show Steps p.tables e below (T11.setTop (mkF m 67 #[.val (.int p1), .val (.int p2), .val (.int p3), .val (.int p4), .val (.int p5), .val (.int p6), .val (.int k6), .val (.int k7), .val (.int k8), .val (.int k9), .val (.int k10), .unset, .unset, .unset, .unset, .unset, .unset, .unset, .unset, .unset, .unset, .unset, .unset] [])) _
    refine st12 _ ?_
    show Steps p.tables e below (T12.setTop (mkF m 81 #[.val (.int p1), .val (.int p2), .val (.int p3), .val (.int p4), .val (.int p5), .val (.int p6), .val (.int k6), .val (.int k7), .val (.int k8), .val (.int k9), .val (.int k10), .val (.int k11), .unset, .unset, .unset, .unset, .unset, .unset, .unset, .unset, .unset, .unset, .unset] [])) _
    refine st13 _ ?_
    show Steps p.tables e below (T13.setTop (mkF m 117 #[.val (.int p1), .val (.int p2), .val (.int p3), .val (.int p4), .val (.int p5), .val (.int p6), .val (.int k6), .val (.int k7), .val (.int k8), .val (.int k9), .val (.int k10), .val (.int k11), .val (.int (((p4.toUInt32 >>> ((8 : Int32) &&& 31).toUInt32).toInt32) % (3 : Int32))), .val (.ref wP), .unset, .unset, .unset, .unset, .unset, .unset, .unset, .unset, .unset] [])) _
    refine st14 _ ?_
    show Steps p.tables e below (T14.setTop (mkF m 140 #[.val (.int p1), .val (.int p2), .val (.int p3), .val (.int p4), .val (.int p5), .val (.int p6), .val (.int k6), .val (.int k7), .val (.int k8), .val (.int k9), .val (.int k10), .val (.int k11), .val (.int (((p4.toUInt32 >>> ((8 : Int32) &&& 31).toUInt32).toInt32) % (3 : Int32))), .val (.ref wP), .val (.ref b15), .unset, .unset, .unset, .unset, .unset, .unset, .unset, .unset] [])) _
    refine st19 _ ?_
    show Steps p.tables e below (T19.setTop (mkF m 207 #[.val (.int p1), .val (.int p2), .val (.int p3), .val (.int p4), .val (.int p5), .val (.int p6), .val (.int k6), .val (.int k7), .val (.int k8), .val (.int k9), .val (.int k10), .val (.int k11), .val (.int (((p4.toUInt32 >>> ((8 : Int32) &&& 31).toUInt32).toInt32) % (3 : Int32))), .val (.ref wP), .val (.ref b15), .val (.ref b20), .val (.ref b21), .unset, .unset, .unset, .unset, .unset, .unset] [])) _
    refine st25 _ ?_
    show Steps p.tables e below (T25.setTop (mkF m 225 #[.val (.int p1), .val (.int p2), .val (.int p3), .val (.int p4), .val (.int p5), .val (.int p6), .val (.int k6), .val (.int k7), .val (.int k8), .val (.int k9), .val (.int k10), .val (.int k11), .val (.int (((p4.toUInt32 >>> ((8 : Int32) &&& 31).toUInt32).toInt32) % (3 : Int32))), .val (.ref wP), .val (.ref b15), .val (.ref b20), .val (.ref b21), .unset, .unset, .unset, .unset, .unset, .unset] [])) _
    refine st29 _ ?_
    show Steps p.tables e below (T29.setTop (mkF m 256 #[.val (.int p1), .val (.int p2), .val (.int p3), .val (.int p4), .val (.int p5), .val (.int p6), .val (.int k6), .val (.int k7), .val (.int k8), .val (.int k9), .val (.int k10), .val (.int k11), .val (.int (((p4.toUInt32 >>> ((8 : Int32) &&& 31).toUInt32).toInt32) % (3 : Int32))), .val (.ref wP), .val (.ref b15), .val (.ref b20), .val (.ref b21), .val (.ref b30), .unset, .unset, .unset, .unset, .unset] [])) _
    refine st34 _ ?_
    show Steps p.tables e below (T34.setTop (mkF m 279 #[.val (.int p1), .val (.int p2), .val (.int p3), .val (.int p4), .val (.int p5), .val (.int p6), .val (.int k6), .val (.int k7), .val (.int k8), .val (.int k9), .val (.int k10), .val (.int k11), .val (.int (((p4.toUInt32 >>> ((8 : Int32) &&& 31).toUInt32).toInt32) % (3 : Int32))), .val (.ref wP), .val (.ref b15), .val (.ref b20), .val (.ref b21), .val (.ref b30), .val (.ref b35), .unset, .unset, .unset, .unset] [])) _
    refine XS.iload X34.here hx rfl (hb hby at_279) rfl ?_
    show Steps p.tables e below (T34.setTop (mkF m 281 #[.val (.int p1), .val (.int p2), .val (.int p3), .val (.int p4), .val (.int p5), .val (.int p6), .val (.int k6), .val (.int k7), .val (.int k8), .val (.int k9), .val (.int k10), .val (.int k11), .val (.int (((p4.toUInt32 >>> ((8 : Int32) &&& 31).toUInt32).toInt32) % (3 : Int32))), .val (.ref wP), .val (.ref b15), .val (.ref b20), .val (.ref b21), .val (.ref b30), .val (.ref b35), .unset, .unset, .unset, .unset] [(.int k11)])) _
    refine XS.ifYes X34.here hx rfl (pc0 := 281) (pc' := 299) rfl (hb hby at_281) rfl ((if0 _ _).trans (teq hc281).1) (by decide) (by decide) ?_
    show Steps p.tables e below (T34.setTop (mkF m 299 #[.val (.int p1), .val (.int p2), .val (.int p3), .val (.int p4), .val (.int p5), .val (.int p6), .val (.int k6), .val (.int k7), .val (.int k8), .val (.int k9), .val (.int k10), .val (.int k11), .val (.int (((p4.toUInt32 >>> ((8 : Int32) &&& 31).toUInt32).toInt32) % (3 : Int32))), .val (.ref wP), .val (.ref b15), .val (.ref b20), .val (.ref b21), .val (.ref b30), .val (.ref b35), .unset, .unset, .unset, .unset] [])) _
    refine XS.aconstNull X34.here hx rfl (hb hby at_299) ?_
    show Steps p.tables e below (T34.setTop (mkF m 300 #[.val (.int p1), .val (.int p2), .val (.int p3), .val (.int p4), .val (.int p5), .val (.int p6), .val (.int k6), .val (.int k7), .val (.int k8), .val (.int k9), .val (.int k10), .val (.int k11), .val (.int (((p4.toUInt32 >>> ((8 : Int32) &&& 31).toUInt32).toInt32) % (3 : Int32))), .val (.ref wP), .val (.ref b15), .val (.ref b20), .val (.ref b21), .val (.ref b30), .val (.ref b35), .unset, .unset, .unset, .unset] [.null])) _
    refine XS.astore X34.here hx rfl (hb hby at_300) rfl rfl (l' := #[.val (.int p1), .val (.int p2), .val (.int p3), .val (.int p4), .val (.int p5), .val (.int p6), .val (.int k6), .val (.int k7), .val (.int k8), .val (.int k9), .val (.int k10), .val (.int k11), .val (.int (((p4.toUInt32 >>> ((8 : Int32) &&& 31).toUInt32).toInt32) % (3 : Int32))), .val (.ref wP), .val (.ref b15), .val (.ref b20), .val (.ref b21), .val (.ref b30), .val (.ref b35), .val .null, .unset, .unset, .unset]) rfl ?_
    show Steps p.tables e below (T34.setTop (mkF m 302 #[.val (.int p1), .val (.int p2), .val (.int p3), .val (.int p4), .val (.int p5), .val (.int p6), .val (.int k6), .val (.int k7), .val (.int k8), .val (.int k9), .val (.int k10), .val (.int k11), .val (.int (((p4.toUInt32 >>> ((8 : Int32) &&& 31).toUInt32).toInt32) % (3 : Int32))), .val (.ref wP), .val (.ref b15), .val (.ref b20), .val (.ref b21), .val (.ref b30), .val (.ref b35), .val .null, .unset, .unset, .unset] [])) _
    refine XS.iloadN X34.here hx rfl (hb hby at_302) rfl ?_
    show Steps p.tables e below (T34.setTop (mkF m 303 #[.val (.int p1), .val (.int p2), .val (.int p3), .val (.int p4), .val (.int p5), .val (.int p6), .val (.int k6), .val (.int k7), .val (.int k8), .val (.int k9), .val (.int k10), .val (.int k11), .val (.int (((p4.toUInt32 >>> ((8 : Int32) &&& 31).toUInt32).toInt32) % (3 : Int32))), .val (.ref wP), .val (.ref b15), .val (.ref b20), .val (.ref b21), .val (.ref b30), .val (.ref b35), .val .null, .unset, .unset, .unset] [(.int p4)])) _
    refine XS.bipush X34.here hx rfl (hb hby at_303) ?_
    show Steps p.tables e below (T34.setTop (mkF m 305 #[.val (.int p1), .val (.int p2), .val (.int p3), .val (.int p4), .val (.int p5), .val (.int p6), .val (.int k6), .val (.int k7), .val (.int k8), .val (.int k9), .val (.int k10), .val (.int k11), .val (.int (((p4.toUInt32 >>> ((8 : Int32) &&& 31).toUInt32).toInt32) % (3 : Int32))), .val (.ref wP), .val (.ref b15), .val (.ref b20), .val (.ref b21), .val (.ref b30), .val (.ref b35), .val .null, .unset, .unset, .unset] [(.int (16 : Int32)), (.int p4)])) _
    refine XS.iushr X34.here hx rfl (hb hby at_305) rfl ?_
    show Steps p.tables e below (T34.setTop (mkF m 306 #[.val (.int p1), .val (.int p2), .val (.int p3), .val (.int p4), .val (.int p5), .val (.int p6), .val (.int k6), .val (.int k7), .val (.int k8), .val (.int k9), .val (.int k10), .val (.int k11), .val (.int (((p4.toUInt32 >>> ((8 : Int32) &&& 31).toUInt32).toInt32) % (3 : Int32))), .val (.ref wP), .val (.ref b15), .val (.ref b20), .val (.ref b21), .val (.ref b30), .val (.ref b35), .val .null, .unset, .unset, .unset] [(.int ((p4.toUInt32 >>> ((16 : Int32) &&& 31).toUInt32).toInt32))])) _
    refine XS.sipush X34.here hx rfl (hb hby at_306) ?_
    show Steps p.tables e below (T34.setTop (mkF m 309 #[.val (.int p1), .val (.int p2), .val (.int p3), .val (.int p4), .val (.int p5), .val (.int p6), .val (.int k6), .val (.int k7), .val (.int k8), .val (.int k9), .val (.int k10), .val (.int k11), .val (.int (((p4.toUInt32 >>> ((8 : Int32) &&& 31).toUInt32).toInt32) % (3 : Int32))), .val (.ref wP), .val (.ref b15), .val (.ref b20), .val (.ref b21), .val (.ref b30), .val (.ref b35), .val .null, .unset, .unset, .unset] [(.int (255 : Int32)), (.int ((p4.toUInt32 >>> ((16 : Int32) &&& 31).toUInt32).toInt32))])) _
    refine XS.iand X34.here hx rfl (hb hby at_309) rfl ?_
    show Steps p.tables e below (T34.setTop (mkF m 310 #[.val (.int p1), .val (.int p2), .val (.int p3), .val (.int p4), .val (.int p5), .val (.int p6), .val (.int k6), .val (.int k7), .val (.int k8), .val (.int k9), .val (.int k10), .val (.int k11), .val (.int (((p4.toUInt32 >>> ((8 : Int32) &&& 31).toUInt32).toInt32) % (3 : Int32))), .val (.ref wP), .val (.ref b15), .val (.ref b20), .val (.ref b21), .val (.ref b30), .val (.ref b35), .val .null, .unset, .unset, .unset] [(.int (((p4.toUInt32 >>> ((16 : Int32) &&& 31).toUInt32).toInt32) &&& (255 : Int32)))])) _
    refine XS.i2c X34.here hx rfl (hb hby at_310) rfl ?_
    show Steps p.tables e below (T34.setTop (mkF m 311 #[.val (.int p1), .val (.int p2), .val (.int p3), .val (.int p4), .val (.int p5), .val (.int p6), .val (.int k6), .val (.int k7), .val (.int k8), .val (.int k9), .val (.int k10), .val (.int k11), .val (.int (((p4.toUInt32 >>> ((8 : Int32) &&& 31).toUInt32).toInt32) % (3 : Int32))), .val (.ref wP), .val (.ref b15), .val (.ref b20), .val (.ref b21), .val (.ref b30), .val (.ref b35), .val .null, .unset, .unset, .unset] [(.int ((((p4.toUInt32 >>> ((16 : Int32) &&& 31).toUInt32).toInt32) &&& (255 : Int32)).toUInt32.toUInt16.toUInt32.toInt32))])) _
    refine st38 _ ?_
    show Steps p.tables e below (T38.setTop (mkF m 314 #[.val (.int p1), .val (.int p2), .val (.int p3), .val (.int p4), .val (.int p5), .val (.int p6), .val (.int k6), .val (.int k7), .val (.int k8), .val (.int k9), .val (.int k10), .val (.int k11), .val (.int (((p4.toUInt32 >>> ((8 : Int32) &&& 31).toUInt32).toInt32) % (3 : Int32))), .val (.ref wP), .val (.ref b15), .val (.ref b20), .val (.ref b21), .val (.ref b30), .val (.ref b35), .val .null, .unset, .unset, .unset] [(.ref b39)])) _
    refine XS.astore X38.here hx rfl (hb hby at_314) rfl rfl (l' := #[.val (.int p1), .val (.int p2), .val (.int p3), .val (.int p4), .val (.int p5), .val (.int p6), .val (.int k6), .val (.int k7), .val (.int k8), .val (.int k9), .val (.int k10), .val (.int k11), .val (.int (((p4.toUInt32 >>> ((8 : Int32) &&& 31).toUInt32).toInt32) % (3 : Int32))), .val (.ref wP), .val (.ref b15), .val (.ref b20), .val (.ref b21), .val (.ref b30), .val (.ref b35), .val .null, .val (.ref b39), .unset, .unset]) rfl ?_
    show Steps p.tables e below (T38.setTop (mkF m 316 #[.val (.int p1), .val (.int p2), .val (.int p3), .val (.int p4), .val (.int p5), .val (.int p6), .val (.int k6), .val (.int k7), .val (.int k8), .val (.int k9), .val (.int k10), .val (.int k11), .val (.int (((p4.toUInt32 >>> ((8 : Int32) &&& 31).toUInt32).toInt32) % (3 : Int32))), .val (.ref wP), .val (.ref b15), .val (.ref b20), .val (.ref b21), .val (.ref b30), .val (.ref b35), .val .null, .val (.ref b39), .unset, .unset] [])) _
    refine st42 _ ?_
    show Steps p.tables e below (T42.setTop (mkF m 319 #[.val (.int p1), .val (.int p2), .val (.int p3), .val (.int p4), .val (.int p5), .val (.int p6), .val (.int k6), .val (.int k7), .val (.int k8), .val (.int k9), .val (.int k10), .val (.int k11), .val (.int (((p4.toUInt32 >>> ((8 : Int32) &&& 31).toUInt32).toInt32) % (3 : Int32))), .val (.ref wP), .val (.ref b15), .val (.ref b20), .val (.ref b21), .val (.ref b30), .val (.ref b35), .val .null, .val (.ref b39), .unset, .unset] [(.ref b42)])) _
    refine XS.dup X42.here hx rfl (hb hby at_319) rfl rfl ?_
    show Steps p.tables e below (T42.setTop (mkF m 320 #[.val (.int p1), .val (.int p2), .val (.int p3), .val (.int p4), .val (.int p5), .val (.int p6), .val (.int k6), .val (.int k7), .val (.int k8), .val (.int k9), .val (.int k10), .val (.int k11), .val (.int (((p4.toUInt32 >>> ((8 : Int32) &&& 31).toUInt32).toInt32) % (3 : Int32))), .val (.ref wP), .val (.ref b15), .val (.ref b20), .val (.ref b21), .val (.ref b30), .val (.ref b35), .val .null, .val (.ref b39), .unset, .unset] [(.ref b42), (.ref b42)])) _
    refine XS.iloadN X42.here hx rfl (hb hby at_320) rfl ?_
    show Steps p.tables e below (T42.setTop (mkF m 321 #[.val (.int p1), .val (.int p2), .val (.int p3), .val (.int p4), .val (.int p5), .val (.int p6), .val (.int k6), .val (.int k7), .val (.int k8), .val (.int k9), .val (.int k10), .val (.int k11), .val (.int (((p4.toUInt32 >>> ((8 : Int32) &&& 31).toUInt32).toInt32) % (3 : Int32))), .val (.ref wP), .val (.ref b15), .val (.ref b20), .val (.ref b21), .val (.ref b30), .val (.ref b35), .val .null, .val (.ref b39), .unset, .unset] [(.int p1), (.ref b42), (.ref b42)])) _
    refine XS.aload X42.here hx rfl (hb hby at_321) rfl rfl ?_
    show Steps p.tables e below (T42.setTop (mkF m 323 #[.val (.int p1), .val (.int p2), .val (.int p3), .val (.int p4), .val (.int p5), .val (.int p6), .val (.int k6), .val (.int k7), .val (.int k8), .val (.int k9), .val (.int k10), .val (.int k11), .val (.int (((p4.toUInt32 >>> ((8 : Int32) &&& 31).toUInt32).toInt32) % (3 : Int32))), .val (.ref wP), .val (.ref b15), .val (.ref b20), .val (.ref b21), .val (.ref b30), .val (.ref b35), .val .null, .val (.ref b39), .unset, .unset] [(.ref b39), (.int p1), (.ref b42), (.ref b42)])) _
    refine st45 _ ?_
    show Steps p.tables e below (T45.setTop (mkF m 325 #[.val (.int p1), .val (.int p2), .val (.int p3), .val (.int p4), .val (.int p5), .val (.int p6), .val (.int k6), .val (.int k7), .val (.int k8), .val (.int k9), .val (.int k10), .val (.int k11), .val (.int (((p4.toUInt32 >>> ((8 : Int32) &&& 31).toUInt32).toInt32) % (3 : Int32))), .val (.ref wP), .val (.ref b15), .val (.ref b20), .val (.ref b21), .val (.ref b30), .val (.ref b35), .val .null, .val (.ref b39), .unset, .unset] [(.ref b45), (.ref b39), (.int p1), (.ref b42), (.ref b42)])) _
    refine XS.aconstNull X45.here hx rfl (hb hby at_325) ?_
    show Steps p.tables e below (T45.setTop (mkF m 326 #[.val (.int p1), .val (.int p2), .val (.int p3), .val (.int p4), .val (.int p5), .val (.int p6), .val (.int k6), .val (.int k7), .val (.int k8), .val (.int k9), .val (.int k10), .val (.int k11), .val (.int (((p4.toUInt32 >>> ((8 : Int32) &&& 31).toUInt32).toInt32) % (3 : Int32))), .val (.ref wP), .val (.ref b15), .val (.ref b20), .val (.ref b21), .val (.ref b30), .val (.ref b35), .val .null, .val (.ref b39), .unset, .unset] [.null, (.ref b45), (.ref b39), (.int p1), (.ref b42), (.ref b42)])) _
    refine XS.iload X45.here hx rfl (hb hby at_326) rfl ?_
    show Steps p.tables e below (T45.setTop (mkF m 328 #[.val (.int p1), .val (.int p2), .val (.int p3), .val (.int p4), .val (.int p5), .val (.int p6), .val (.int k6), .val (.int k7), .val (.int k8), .val (.int k9), .val (.int k10), .val (.int k11), .val (.int (((p4.toUInt32 >>> ((8 : Int32) &&& 31).toUInt32).toInt32) % (3 : Int32))), .val (.ref wP), .val (.ref b15), .val (.ref b20), .val (.ref b21), .val (.ref b30), .val (.ref b35), .val .null, .val (.ref b39), .unset, .unset] [(.int p5), .null, (.ref b45), (.ref b39), (.int p1), (.ref b42), (.ref b42)])) _
    refine XS.aload X45.here hx rfl (hb hby at_328) rfl rfl ?_
    show Steps p.tables e below (T45.setTop (mkF m 330 #[.val (.int p1), .val (.int p2), .val (.int p3), .val (.int p4), .val (.int p5), .val (.int p6), .val (.int k6), .val (.int k7), .val (.int k8), .val (.int k9), .val (.int k10), .val (.int k11), .val (.int (((p4.toUInt32 >>> ((8 : Int32) &&& 31).toUInt32).toInt32) % (3 : Int32))), .val (.ref wP), .val (.ref b15), .val (.ref b20), .val (.ref b21), .val (.ref b30), .val (.ref b35), .val .null, .val (.ref b39), .unset, .unset] [(.ref wP), (.int p5), .null, (.ref b45), (.ref b39), (.int p1), (.ref b42), (.ref b42)])) _
    refine XS.aconstNull X45.here hx rfl (hb hby at_330) ?_
    show Steps p.tables e below (T45.setTop (mkF m 331 #[.val (.int p1), .val (.int p2), .val (.int p3), .val (.int p4), .val (.int p5), .val (.int p6), .val (.int k6), .val (.int k7), .val (.int k8), .val (.int k9), .val (.int k10), .val (.int k11), .val (.int (((p4.toUInt32 >>> ((8 : Int32) &&& 31).toUInt32).toInt32) % (3 : Int32))), .val (.ref wP), .val (.ref b15), .val (.ref b20), .val (.ref b21), .val (.ref b30), .val (.ref b35), .val .null, .val (.ref b39), .unset, .unset] [.null, (.ref wP), (.int p5), .null, (.ref b45), (.ref b39), (.int p1), (.ref b42), (.ref b42)])) _
    refine XS.aload X45.here hx rfl (hb hby at_331) rfl rfl ?_
    show Steps p.tables e below (T45.setTop (mkF m 333 #[.val (.int p1), .val (.int p2), .val (.int p3), .val (.int p4), .val (.int p5), .val (.int p6), .val (.int k6), .val (.int k7), .val (.int k8), .val (.int k9), .val (.int k10), .val (.int k11), .val (.int (((p4.toUInt32 >>> ((8 : Int32) &&& 31).toUInt32).toInt32) % (3 : Int32))), .val (.ref wP), .val (.ref b15), .val (.ref b20), .val (.ref b21), .val (.ref b30), .val (.ref b35), .val .null, .val (.ref b39), .unset, .unset] [.null, .null, (.ref wP), (.int p5), .null, (.ref b45), (.ref b39), (.int p1), (.ref b42), (.ref b42)])) _
    refine XS.aload X45.here hx rfl (hb hby at_333) rfl rfl ?_
    show Steps p.tables e below (T45.setTop (mkF m 335 #[.val (.int p1), .val (.int p2), .val (.int p3), .val (.int p4), .val (.int p5), .val (.int p6), .val (.int k6), .val (.int k7), .val (.int k8), .val (.int k9), .val (.int k10), .val (.int k11), .val (.int (((p4.toUInt32 >>> ((8 : Int32) &&& 31).toUInt32).toInt32) % (3 : Int32))), .val (.ref wP), .val (.ref b15), .val (.ref b20), .val (.ref b21), .val (.ref b30), .val (.ref b35), .val .null, .val (.ref b39), .unset, .unset] [(.ref b30), .null, .null, (.ref wP), (.int p5), .null, (.ref b45), (.ref b39), (.int p1), (.ref b42), (.ref b42)])) _
    refine XS.aload X45.here hx rfl (hb hby at_335) rfl rfl ?_
    show Steps p.tables e below (T45.setTop (mkF m 337 #[.val (.int p1), .val (.int p2), .val (.int p3), .val (.int p4), .val (.int p5), .val (.int p6), .val (.int k6), .val (.int k7), .val (.int k8), .val (.int k9), .val (.int k10), .val (.int k11), .val (.int (((p4.toUInt32 >>> ((8 : Int32) &&& 31).toUInt32).toInt32) % (3 : Int32))), .val (.ref wP), .val (.ref b15), .val (.ref b20), .val (.ref b21), .val (.ref b30), .val (.ref b35), .val .null, .val (.ref b39), .unset, .unset] [(.ref b15), (.ref b30), .null, .null, (.ref wP), (.int p5), .null, (.ref b45), (.ref b39), (.int p1), (.ref b42), (.ref b42)])) _
    refine XS.iloadN X45.here hx rfl (hb hby at_337) rfl ?_
    show Steps p.tables e below (T45.setTop (mkF m 338 #[.val (.int p1), .val (.int p2), .val (.int p3), .val (.int p4), .val (.int p5), .val (.int p6), .val (.int k6), .val (.int k7), .val (.int k8), .val (.int k9), .val (.int k10), .val (.int k11), .val (.int (((p4.toUInt32 >>> ((8 : Int32) &&& 31).toUInt32).toInt32) % (3 : Int32))), .val (.ref wP), .val (.ref b15), .val (.ref b20), .val (.ref b21), .val (.ref b30), .val (.ref b35), .val .null, .val (.ref b39), .unset, .unset] [(.int p2), (.ref b15), (.ref b30), .null, .null, (.ref wP), (.int p5), .null, (.ref b45), (.ref b39), (.int p1), (.ref b42), (.ref b42)])) _
    refine XS.aload X45.here hx rfl (hb hby at_338) rfl rfl ?_
    show Steps p.tables e below (T45.setTop (mkF m 340 #[.val (.int p1), .val (.int p2), .val (.int p3), .val (.int p4), .val (.int p5), .val (.int p6), .val (.int k6), .val (.int k7), .val (.int k8), .val (.int k9), .val (.int k10), .val (.int k11), .val (.int (((p4.toUInt32 >>> ((8 : Int32) &&& 31).toUInt32).toInt32) % (3 : Int32))), .val (.ref wP), .val (.ref b15), .val (.ref b20), .val (.ref b21), .val (.ref b30), .val (.ref b35), .val .null, .val (.ref b39), .unset, .unset] [(.ref b20), (.int p2), (.ref b15), (.ref b30), .null, .null, (.ref wP), (.int p5), .null, (.ref b45), (.ref b39), (.int p1), (.ref b42), (.ref b42)])) _
    refine XS.aload X45.here hx rfl (hb hby at_340) rfl rfl ?_
    show Steps p.tables e below (T45.setTop (mkF m 342 #[.val (.int p1), .val (.int p2), .val (.int p3), .val (.int p4), .val (.int p5), .val (.int p6), .val (.int k6), .val (.int k7), .val (.int k8), .val (.int k9), .val (.int k10), .val (.int k11), .val (.int (((p4.toUInt32 >>> ((8 : Int32) &&& 31).toUInt32).toInt32) % (3 : Int32))), .val (.ref wP), .val (.ref b15), .val (.ref b20), .val (.ref b21), .val (.ref b30), .val (.ref b35), .val .null, .val (.ref b39), .unset, .unset] [(.ref b21), (.ref b20), (.int p2), (.ref b15), (.ref b30), .null, .null, (.ref wP), (.int p5), .null, (.ref b45), (.ref b39), (.int p1), (.ref b42), (.ref b42)])) _
    refine XS.iloadN X45.here hx rfl (hb hby at_342) rfl ?_
    show Steps p.tables e below (T45.setTop (mkF m 343 #[.val (.int p1), .val (.int p2), .val (.int p3), .val (.int p4), .val (.int p5), .val (.int p6), .val (.int k6), .val (.int k7), .val (.int k8), .val (.int k9), .val (.int k10), .val (.int k11), .val (.int (((p4.toUInt32 >>> ((8 : Int32) &&& 31).toUInt32).toInt32) % (3 : Int32))), .val (.ref wP), .val (.ref b15), .val (.ref b20), .val (.ref b21), .val (.ref b30), .val (.ref b35), .val .null, .val (.ref b39), .unset, .unset] [(.int p3), (.ref b21), (.ref b20), (.int p2), (.ref b15), (.ref b30), .null, .null, (.ref wP), (.int p5), .null, (.ref b45), (.ref b39), (.int p1), (.ref b42), (.ref b42)])) _
    refine XS.aload X45.here hx rfl (hb hby at_343) rfl rfl ?_
    show Steps p.tables e below (T45.setTop (mkF m 345 #[.val (.int p1), .val (.int p2), .val (.int p3), .val (.int p4), .val (.int p5), .val (.int p6), .val (.int k6), .val (.int k7), .val (.int k8), .val (.int k9), .val (.int k10), .val (.int k11), .val (.int (((p4.toUInt32 >>> ((8 : Int32) &&& 31).toUInt32).toInt32) % (3 : Int32))), .val (.ref wP), .val (.ref b15), .val (.ref b20), .val (.ref b21), .val (.ref b30), .val (.ref b35), .val .null, .val (.ref b39), .unset, .unset] [(.ref b35), (.int p3), (.ref b21), (.ref b20), (.int p2), (.ref b15), (.ref b30), .null, .null, (.ref wP), (.int p5), .null, (.ref b45), (.ref b39), (.int p1), (.ref b42), (.ref b42)])) _
    refine st64.trans ?_
    show Steps p.tables e below (T64.setTop (mkF m 348 #[.val (.int p1), .val (.int p2), .val (.int p3), .val (.int p4), .val (.int p5), .val (.int p6), .val (.int k6), .val (.int k7), .val (.int k8), .val (.int k9), .val (.int k10), .val (.int k11), .val (.int (((p4.toUInt32 >>> ((8 : Int32) &&& 31).toUInt32).toInt32) % (3 : Int32))), .val (.ref wP), .val (.ref b15), .val (.ref b20), .val (.ref b21), .val (.ref b30), .val (.ref b35), .val .null, .val (.ref b39), .unset, .unset] [(.ref b42)])) _
    refine XS.astore X64.here hx rfl (hb hby at_348) rfl rfl (l' := #[.val (.int p1), .val (.int p2), .val (.int p3), .val (.int p4), .val (.int p5), .val (.int p6), .val (.int k6), .val (.int k7), .val (.int k8), .val (.int k9), .val (.int k10), .val (.int k11), .val (.int (((p4.toUInt32 >>> ((8 : Int32) &&& 31).toUInt32).toInt32) % (3 : Int32))), .val (.ref wP), .val (.ref b15), .val (.ref b20), .val (.ref b21), .val (.ref b30), .val (.ref b35), .val .null, .val (.ref b39), .val (.ref b42), .unset]) rfl ?_
    show Steps p.tables e below (T64.setTop (mkF m 350 #[.val (.int p1), .val (.int p2), .val (.int p3), .val (.int p4), .val (.int p5), .val (.int p6), .val (.int k6), .val (.int k7), .val (.int k8), .val (.int k9), .val (.int k10), .val (.int k11), .val (.int (((p4.toUInt32 >>> ((8 : Int32) &&& 31).toUInt32).toInt32) % (3 : Int32))), .val (.ref wP), .val (.ref b15), .val (.ref b20), .val (.ref b21), .val (.ref b30), .val (.ref b35), .val .null, .val (.ref b39), .val (.ref b42), .unset] [])) _
    refine st67 _ ?_
    show Steps p.tables e below (T67.setTop (mkF m 376 #[.val (.int p1), .val (.int p2), .val (.int p3), .val (.int p4), .val (.int p5), .val (.int p6), .val (.int k6), .val (.int k7), .val (.int k8), .val (.int k9), .val (.int k10), .val (.int k11), .val (.int (((p4.toUInt32 >>> ((8 : Int32) &&& 31).toUInt32).toInt32) % (3 : Int32))), .val (.ref wP), .val (.ref b15), .val (.ref b20), .val (.ref b21), .val (.ref b30), .val (.ref b35), .val .null, .val (.ref b39), .val (.ref b42), .val (.int v22)] [])) _
    refine XS.aload X67.here hx rfl (hb hby at_376) rfl rfl ?_
    show Steps p.tables e below (T67.setTop (mkF m 378 #[.val (.int p1), .val (.int p2), .val (.int p3), .val (.int p4), .val (.int p5), .val (.int p6), .val (.int k6), .val (.int k7), .val (.int k8), .val (.int k9), .val (.int k10), .val (.int k11), .val (.int (((p4.toUInt32 >>> ((8 : Int32) &&& 31).toUInt32).toInt32) % (3 : Int32))), .val (.ref wP), .val (.ref b15), .val (.ref b20), .val (.ref b21), .val (.ref b30), .val (.ref b35), .val .null, .val (.ref b39), .val (.ref b42), .val (.int v22)] [(.ref b42)])) _
    refine st74.trans ?_
    show Steps p.tables e below (T74.setTop (mkF m 381 #[.val (.int p1), .val (.int p2), .val (.int p3), .val (.int p4), .val (.int p5), .val (.int p6), .val (.int k6), .val (.int k7), .val (.int k8), .val (.int k9), .val (.int k10), .val (.int k11), .val (.int (((p4.toUInt32 >>> ((8 : Int32) &&& 31).toUInt32).toInt32) % (3 : Int32))), .val (.ref wP), .val (.ref b15), .val (.ref b20), .val (.ref b21), .val (.ref b30), .val (.ref b35), .val .null, .val (.ref b39), .val (.ref b42), .val (.int v22)] [(.int v22)])) _
    refine XS.iload X74.here hx rfl (hb hby at_381) rfl ?_
    show Steps p.tables e below (T74.setTop (mkF m 383 #[.val (.int p1), .val (.int p2), .val (.int p3), .val (.int p4), .val (.int p5), .val (.int p6), .val (.int k6), .val (.int k7), .val (.int k8), .val (.int k9), .val (.int k10), .val (.int k11), .val (.int (((p4.toUInt32 >>> ((8 : Int32) &&& 31).toUInt32).toInt32) % (3 : Int32))), .val (.ref wP), .val (.ref b15), .val (.ref b20), .val (.ref b21), .val (.ref b30), .val (.ref b35), .val .null, .val (.ref b39), .val (.ref b42), .val (.int v22)] [(.int v22), (.int v22)])) _
    refine XS.icmpNo X74.here hx rfl (hb hby at_383) rfl (teq (rfl : v22 = v22)).2 ?_
    show Steps p.tables e below (T74.setTop (mkF m 386 #[.val (.int p1), .val (.int p2), .val (.int p3), .val (.int p4), .val (.int p5), .val (.int p6), .val (.int k6), .val (.int k7), .val (.int k8), .val (.int k9), .val (.int k10), .val (.int k11), .val (.int (((p4.toUInt32 >>> ((8 : Int32) &&& 31).toUInt32).toInt32) % (3 : Int32))), .val (.ref wP), .val (.ref b15), .val (.ref b20), .val (.ref b21), .val (.ref b30), .val (.ref b35), .val .null, .val (.ref b39), .val (.ref b42), .val (.int v22)] [])) _
    refine XS.iconst X74.here hx rfl (hb hby at_386) ?_
    show Steps p.tables e below (T74.setTop (mkF m 387 #[.val (.int p1), .val (.int p2), .val (.int p3), .val (.int p4), .val (.int p5), .val (.int p6), .val (.int k6), .val (.int k7), .val (.int k8), .val (.int k9), .val (.int k10), .val (.int k11), .val (.int (((p4.toUInt32 >>> ((8 : Int32) &&& 31).toUInt32).toInt32) % (3 : Int32))), .val (.ref wP), .val (.ref b15), .val (.ref b20), .val (.ref b21), .val (.ref b30), .val (.ref b35), .val .null, .val (.ref b39), .val (.ref b42), .val (.int v22)] [(.int (1 : Int32))])) _
    refine XS.goto X74.here hx rfl (pc0 := 387) (pc' := 391) rfl (hb hby at_387) (by decide) (by decide) ?_
    show Steps p.tables e below (T74.setTop (mkF m 391 #[.val (.int p1), .val (.int p2), .val (.int p3), .val (.int p4), .val (.int p5), .val (.int p6), .val (.int k6), .val (.int k7), .val (.int k8), .val (.int k9), .val (.int k10), .val (.int k11), .val (.int (((p4.toUInt32 >>> ((8 : Int32) &&& 31).toUInt32).toInt32) % (3 : Int32))), .val (.ref wP), .val (.ref b15), .val (.ref b20), .val (.ref b21), .val (.ref b30), .val (.ref b35), .val .null, .val (.ref b39), .val (.ref b42), .val (.int v22)] [(.int (1 : Int32))])) _
    exact retN X74 hx (t := .boolean) Bd.returns (by simp) (hb hby at_391) hr
  · skip
    exact ⟨rfl, N74⟩
theorem pd_11 : parseMethodDescriptor "(JJ)V" = some ⟨[.long, .long], none⟩ := by decide +kernel
set_option maxRecDepth 65536 in
set_option maxHeartbeats 40000000 in
theorem rm0o (l : Launch) (Z : State) (a0 : Array Value) (hw : ∀ d ∈ tables_1, d.before a0 Z = true) (ws : List Jvm.Cond) (p1 p2 p3 p4 p5 p6 k6 k7 k8 k9 k10 k11 : Int32) (wR wO wC wP wD : Addr) (kD : ClassId) (wI : Addr) (clI : Cell) (zC sz14 sz15 sz16 v22 : Int32) (h0 : Heap) (n0 : Nat) (O0 : Old Z n0 h0) (HV_wD : Arv Z h0 wD kD (.object "java/lang/Object") (0 : Int32) [] .null) (h0_hk6 : k6 = if (p4 &&& (1 : Int32)) = (0 : Int32) then (0 : Int32) else (1 : Int32)) (h13_hk7 : k7 = if (p4 &&& (2 : Int32)) = (0 : Int32) then (0 : Int32) else (1 : Int32)) (h26_hk8 : k8 = if (p4 &&& (4 : Int32)) = (0 : Int32) then (0 : Int32) else (1 : Int32)) (h39_hk9 : k9 = if (p4 &&& (8 : Int32)) = (0 : Int32) then (0 : Int32) else (1 : Int32)) (h53_hk10 : k10 = if (p4 &&& (16 : Int32)) = (0 : Int32) then (0 : Int32) else (1 : Int32)) (h67_hk11 : k11 = if (p4 &&& (32 : Int32)) = (0 : Int32) then (0 : Int32) else (1 : Int32)) (S_REQUIRED : Sta Z Z.heap "com/example/mirante/mirante/FieldDef$Presence" "REQUIRED" "Lcom/example/mirante/mirante/FieldDef$Presence;" (.ref wR)) (S_OPTIONAL : Sta Z Z.heap "com/example/mirante/mirante/FieldDef$Presence" "OPTIONAL" "Lcom/example/mirante/mirante/FieldDef$Presence;" (.ref wO)) (S_CONDITIONAL : Sta Z Z.heap "com/example/mirante/mirante/FieldDef$Presence" "CONDITIONAL" "Lcom/example/mirante/mirante/FieldDef$Presence;" (.ref wC)) (h81_hwP : wP = if (((p4.toUInt32 >>> ((8 : Int32) &&& 31).toUInt32).toInt32) % (3 : Int32)) = (0 : Int32) then wR else if (((p4.toUInt32 >>> ((8 : Int32) &&& 31).toUInt32).toInt32) % (3 : Int32)) = (1 : Int32) then wO else wC) (S_DEFAULTCAPACITY_EMPTY_ELEMENTDATA : Sta Z Z.heap "java/util/ArrayList" "DEFAULTCAPACITY_EMPTY_ELEMENTDATA" "[Ljava/lang/Object;" (.ref wD)) (h117_hsz14 : sz14 = if k6 = (0 : Int32) then (0 : Int32) else (1 : Int32)) (S_high : Sta Z Z.heap "java/lang/Integer$IntegerCache" "high" "I" (.int (127 : Int32))) (S_cache : Sta Z Z.heap "java/lang/Integer$IntegerCache" "cache" "[Ljava/lang/Integer;" (.ref wI)) (h140_h166_HAI : Arr Z Z.heap wI clI (.object "java/lang/Integer")) (h140_h166_HCI : ∀ j : Int32, ¬ j < 0 → j < 256 → ¬ (j < 0 ∨ clI.slots.size ≤ j.toNatClampNeg) ∧ ∃ y, clI.slots[j.toNatClampNeg]? = some (.ref y) ∧ Exa Z Z.heap y "java/lang/Integer") (h140_hsz15 : sz15 = if k7 = (0 : Int32) then (0 : Int32) else (1 : Int32)) (h207_hsz16 : sz16 = if k8 = (0 : Int32) then (0 : Int32) else (1 : Int32)) (S_COMPACT_STRINGS : Sta Z Z.heap "java/lang/String" "COMPACT_STRINGS" "Z" (.int zC)) (h225_h247_hc3 : ¬ (zC = (0 : Int32))) (hc281 : ¬ (k11 = (0 : Int32))) (h350_hv22 : v22 = if ¬ k6 = (0 : Int32) ∨ (0 : Int32) < p2 ∨ ¬ k7 = (0 : Int32) ∨ ¬ k8 = (0 : Int32) then (1 : Int32) else (0 : Int32)) (h378_hr : v22 = if ¬ sz14 = (0 : Int32) ∨ (0 : Int32) < p2 ∨ ¬ sz15 = (0 : Int32) ∨ ¬ sz16 = (0 : Int32) then (1 : Int32) else (0 : Int32)) :
    own_Met l Z ws #[(.int p1), (.int p2), (.int p3), (.int p4), (.int p5), (.int p6)] h0 n0 := by
  refine MetFree.of_bodySF (plainFor_of_name pnc_com_example_mirante_mirante_FieldDefHasRuleChecksPinLaw) hisR ?_
  intro p e s m args below meth c s₁ Bd hml0 hP hK
  obtain ⟨rfl, hZ_, hh⟩ := hP
  have hx := Bd.exec
  have hby := Bd.bytes
  have hml : c.maxLocals = 23 := hml0
  have hown : s.vm.findClass "com/example/mirante/mirante/FieldDefHasRuleChecksPinLaw" = some m.cls := findClass_of_methodNamed Bd.named
  have hnm := (name_of_methodNamed Bd.named Bd.method).1
  have X0 : Stand p l e room_1 (s.setVm s.vm) m #[(.int p1), (.int p2), (.int p3), (.int p4), (.int p5), (.int p6)] below meth c s₁ [] 0 0 := Stand.of_body Bd
  have hZ : Z.Warmed39 (s.setVm s.vm).vm := hZ_
  have hS0 : s.Since s.vm s.heap.size := (State.WarmedH.refl s).since s.heap.size
  have hk0 : s.heap.size ≤ h0.size := Nat.le_of_eq (by rw [hh])
  have e0 : s₁.heap = h0 := by rw [← hh, Bd.state]; rfl
  have N0 := Fr.nil n0
  have Z0 : n0 ≤ h0.size := O0.1 ▸ O0.2.1
  have pre0 : ∀ t, Steps p.tables e below (s₁.setTop (mkF m 0 #[.val (.int p1), .val (.int p2), .val (.int p3), .val (.int p4), .val (.int p5), .val (.int p6), .unset, .unset, .unset, .unset, .unset, .unset, .unset, .unset, .unset, .unset, .unset, .unset, .unset, .unset, .unset, .unset, .unset] [])) t → Steps p.tables e below (s₁.setTop (entryFrame m #[(.int p1), (.int p2), (.int p3), (.int p4), (.int p5), (.int p6)] maxLocals)) t := fun t k => castTop (ef_0 m p1 p2 p3 p4 p5 p6) k
  obtain ⟨T7, L7, X7, N7, e7, st7⟩ := tn0 hw p1 p2 p3 p4 p5 p6 k6 h0 n0 X0 N0 hx hZ hby hml hown e0 O0 h0_hk6
  obtain ⟨T8, L8, X8, N8, e8, st8⟩ := tn13 hw p1 p2 p3 p4 p5 p6 k6 k7 h0 n0 X7 N7 hx hZ hby hml hown e7 O0 h13_hk7
  obtain ⟨T9, L9, X9, N9, e9, st9⟩ := tn26 hw p1 p2 p3 p4 p5 p6 k6 k7 k8 h0 n0 X8 N8 hx hZ hby hml hown e8 O0 h26_hk8
  obtain ⟨T10, L10, X10, N10, e10, st10⟩ := tn39 hw p1 p2 p3 p4 p5 p6 k6 k7 k8 k9 h0 n0 X9 N9 hx hZ hby hml hown e9 O0 h39_hk9
  obtain ⟨T11, L11, X11, N11, e11, st11⟩ := tn53 hw p1 p2 p3 p4 p5 p6 k6 k7 k8 k9 k10 h0 n0 X10 N10 hx hZ hby hml hown e10 O0 h53_hk10
  obtain ⟨T12, L12, X12, N12, e12, st12⟩ := tn67 hw p1 p2 p3 p4 p5 p6 k6 k7 k8 k9 k10 k11 h0 n0 X11 N11 hx hZ hby hml hown e11 O0 h67_hk11
  obtain ⟨T13, L13, X13, N13, e13, st13⟩ := tn81 hw p1 p2 p3 p4 p5 p6 k6 k7 k8 k9 k10 k11 wR wO wC wP h0 n0 X12 N12 hx hZ hby hml hown e12 O0 S_REQUIRED S_OPTIONAL S_CONDITIONAL h81_hwP
  obtain ⟨T14, L14, h14, b15, X14, N14, e14, K14, Y14_z0, Y14_0, Y14_1, st14⟩ := tn117 hw p1 p2 p3 p4 p5 p6 k6 k7 k8 k9 k10 k11 ((((p4.toUInt32 >>> ((8 : Int32) &&& 31).toUInt32).toInt32) % (3 : Int32))) wP wD kD sz14 h0 n0 X13 N13 hx hZ hby hml hown e13 O0 HV_wD S_DEFAULTCAPACITY_EMPTY_ELEMENTDATA h117_hsz14
  have g_b15 : n0 ≤ b15 := Nat.le_trans (Nat.le_trans Z0 (Keep.refl h0 []).1) Y14_z0
  have sz_b15 : h0.size ≤ b15 := Nat.le_trans (Keep.refl h0 []).1 Y14_z0
  have K16 : Keep h0 h14 [] := (Keep.refl h0 []).trans K14 all0
  have O17 : Old Z n0 h14 := O0.keep K14 all0
  have f18 := (HV_wD.keep K14 nin0)
  obtain ⟨T19, L19, h19, b20, b21, X19, N19, e19, K19, Y19_z0, Y19_z1, Y19_n0, Y19_0, Y19_1, Y19_2, Y19_3, Y19_4, Y19_5, st19⟩ := tn140 hw p1 p2 p3 p4 p5 p6 k6 k7 k8 k9 k10 k11 ((((p4.toUInt32 >>> ((8 : Int32) &&& 31).toUInt32).toInt32) % (3 : Int32))) wP b15 wD kD wI clI sz15 h14 n0 X14 N14 hx hZ hby hml hown e14 O17 f18 S_DEFAULTCAPACITY_EMPTY_ELEMENTDATA S_high S_cache h140_h166_HAI h140_h166_HCI h140_hsz15
  have g_b20 : n0 ≤ b20 := Nat.le_trans (Nat.le_trans Z0 K16.1) Y19_z0
  have sz_b20 : h0.size ≤ b20 := Nat.le_trans K16.1 Y19_z0
  have g_b21 : n0 ≤ b21 := Nat.le_trans (Nat.le_trans Z0 K16.1) Y19_z1
  have sz_b21 : h0.size ≤ b21 := Nat.le_trans K16.1 Y19_z1
  have K22 : Keep h0 h19 [] := K16.trans K19 all0
  have O23 : Old Z n0 h19 := O17.keep K19 all0
  have f24 := (f18.keep K19 nin0)
  obtain ⟨T25, L25, h25, X25, N25, e25, K25, Y25_0, Y25_1, st25⟩ := tn207 hw p1 p2 p3 p4 p5 p6 k6 k7 k8 k9 k10 k11 ((((p4.toUInt32 >>> ((8 : Int32) &&& 31).toUInt32).toInt32) % (3 : Int32))) wP b15 b20 b21 ((0 : Int32)) wD kD wI clI sz16 h19 n0 X19 N19 hx hZ hby hml hown e19 O23 Y19_2 Y19_3 Y19_4 Y19_5 f24 S_high S_cache h140_h166_HAI h140_h166_HCI S_DEFAULTCAPACITY_EMPTY_ELEMENTDATA g_b21 (Nat.ne_of_lt (Nat.lt_of_lt_of_le (Nat.lt_of_lt_of_le HV_wD.lt K14.1) Y19_z1)) h207_hsz16
  have K26 : Keep h0 h25 [] := K22.trans K25 (allS (Or.inr sz_b21) all0)
  have O27 : Old Z n0 h25 := O23.keep K25 (allS g_b21 all0)
  have f28 := (f24.keep K25 (ninS (Nat.ne_of_lt (Nat.lt_of_lt_of_le (Nat.lt_of_lt_of_le HV_wD.lt K14.1) Y19_z1)) nin0))
  obtain ⟨T29, L29, h29, b30, X29, N29, e29, K29, Y29_z0, st29⟩ := tn225 hw p1 p2 p3 p4 p5 p6 k6 k7 k8 k9 k10 k11 ((((p4.toUInt32 >>> ((8 : Int32) &&& 31).toUInt32).toInt32) % (3 : Int32))) wP b15 b20 b21 wD kD zC h25 n0 X25 N25 hx hZ hby hml hown e25 O27 f28 S_DEFAULTCAPACITY_EMPTY_ELEMENTDATA S_COMPACT_STRINGS h225_h247_hc3
  have g_b30 : n0 ≤ b30 := Nat.le_trans (Nat.le_trans Z0 K26.1) Y29_z0
  have sz_b30 : h0.size ≤ b30 := Nat.le_trans K26.1 Y29_z0
  have K31 : Keep h0 h29 [] := K26.trans K29 all0
  have O32 : Old Z n0 h29 := O27.keep K29 all0
  have f33 := (f28.keep K29 nin0)
  obtain ⟨T34, L34, h34, b35, X34, N34, e34, K34, Y34_z0, st34⟩ := tn256 hw p1 p2 p3 p4 p5 p6 k6 k7 k8 k9 k10 k11 ((((p4.toUInt32 >>> ((8 : Int32) &&& 31).toUInt32).toInt32) % (3 : Int32))) wP b15 b20 b21 b30 wD kD h29 n0 X29 N29 hx hZ hby hml hown e29 O32 f33 S_DEFAULTCAPACITY_EMPTY_ELEMENTDATA
  have g_b35 : n0 ≤ b35 := Nat.le_trans (Nat.le_trans Z0 K31.1) Y34_z0
  have sz_b35 : h0.size ≤ b35 := Nat.le_trans K31.1 Y34_z0
  have K36 : Keep h0 h34 [] := K31.trans K34 all0
  have O37 : Old Z n0 h34 := O32.keep K34 all0
  obtain ⟨T38, h38, X38, e38, E38, A38, D38, -, st38⟩ := newO X34 hx hZ hown (hw _ (List.mem_of_getElem? (i := 154) rfl)) (hw _ (List.mem_of_getElem? (i := 155) rfl)) (hw _ (List.mem_of_getElem? (i := 156) rfl)) e34 (g := (mkF m 284 #[.val (.int p1), .val (.int p2), .val (.int p3), .val (.int p4), .val (.int p5), .val (.int p6), .val (.int k6), .val (.int k7), .val (.int k8), .val (.int k9), .val (.int k10), .val (.int k11), .val (.int (((p4.toUInt32 >>> ((8 : Int32) &&& 31).toUInt32).toInt32) % (3 : Int32))), .val (.ref wP), .val (.ref b15), .val (.ref b20), .val (.ref b21), .val (.ref b30), .val (.ref b35), .unset, .unset, .unset, .unset] [])) rfl (hb hby at_284) (by decide) (by decide)
  obtain ⟨b38, g38⟩ : ∃ z, z = h34.size := ⟨_, rfl⟩
  rw [← g38] at A38 D38 st38
  have g_b38 : n0 ≤ b38 := Nat.le_trans (Nat.le_trans Z0 K36.1) (Nat.le_of_eq g38.symm)
  have sz_b38 : h0.size ≤ b38 := Nat.le_trans K36.1 (Nat.le_of_eq g38.symm)
  have K39 : Keep h0 h38 [] := K36.ext E38
  have O40 : Old Z n0 h38 := O37.ext E38
  have F_min_b38 : Fld Z h38 b38 "com/example/mirante/mirante/FieldDef$Range" "min" "J" (.long (0 : Int64)) := D38 (Or.inr (hw _ (List.mem_of_getElem? (i := 162) rfl))) (ty := .long) (by decide)
  have F_max_b38 : Fld Z h38 b38 "com/example/mirante/mirante/FieldDef$Range" "max" "J" (.long (0 : Int64)) := D38 (Or.inr (hw _ (List.mem_of_getElem? (i := 164) rfl))) (ty := .long) (by decide)
  replace X38 := X38.more (cells' := 18) (slots' := 88) (by decide) (by decide)
  obtain ⟨vr41, _, ⟨T41, L41, k41, n41⟩, -, X41, ⟨Lc41, hQ41, l41, y41, z41⟩, st41⟩ := X38.specialBack hx (y := (⟨"com/example/mirante/mirante/FieldDef$Range", "<init>", "(JJ)V"⟩ : MethodName)) rfl hown (mvT hZ (hw _ (List.mem_of_getElem? (i := 157) rfl))) (mvT hZ (hw _ (List.mem_of_getElem? (i := 158) rfl))) (mvT hZ (hw _ (List.mem_of_getElem? (i := 159) rfl))) (by decide) (backOf (W := 1) (rm19 l Z a0 hw [] b38 ((p1.toInt64)) ((p6.toInt64)) ((.long (0 : Int64))) ((.long (0 : Int64))) h38 n0 O40 A38 F_min_b38 g_b38 F_max_b38) hZ (hw _ (List.mem_of_getElem? (i := 159) rfl)) (hw _ (List.mem_of_getElem? (i := 156) rfl)) (by decide) (by decide)) (g := (mkF m 293 #[.val (.int p1), .val (.int p2), .val (.int p3), .val (.int p4), .val (.int p5), .val (.int p6), .val (.int k6), .val (.int k7), .val (.int k8), .val (.int k9), .val (.int k10), .val (.int k11), .val (.int (((p4.toUInt32 >>> ((8 : Int32) &&& 31).toUInt32).toInt32) % (3 : Int32))), .val (.ref wP), .val (.ref b15), .val (.ref b20), .val (.ref b21), .val (.ref b30), .val (.ref b35), .unset, .unset, .unset, .unset] [(.long (p6.toInt64)), (.long (p1.toInt64)), (.ref b38), (.ref b38)])) rfl (by rw [hml]; rfl) (Steps.refl _) (a := b38) (argsL := [(.long (p1.toInt64)), (.long (p6.toInt64))]) (rest := [(.ref b38)]) (lenOf pd_11 rfl) rfl (by show 2 * 0 + _ ≤ _; exact Nat.le_of_eq rfl) (hb hby at_293) (fun _ _ => ⟨rfl, e38, (by decide : 18 + 0 ≤ _), (by decide : 88 + 0 ≤ _)⟩)
  dsimp only [Pt.U, Pt.locs, Pt.cells, Pt.slots] at X41 l41 y41 z41 st41 hQ41
  subst l41 y41 z41
  obtain ⟨rfl, N41q, K41, Y41_0, Y41_1, Y41_2⟩ := hQ41
  have N41 := Fr.app N34 N41q
  replace X41 := X41.more (cells' := 18) (slots' := 88) (by decide) (by decide)
  have K42 : Keep h0 T41.heap [] := K39.trans K41 (allS (Or.inr sz_b38) all0)
  have O43 : Old Z n0 T41.heap := O40.keep K41 (allS g_b38 all0)
  obtain ⟨vr44, _, ⟨T44, L44, k44, n44⟩, -, X44, ⟨Lc44, hQ44, l44, y44, z44⟩, st44⟩ := Jvm.LawKit.callS X41 hx (y := (⟨"java/lang/String", "valueOf", "(C)Ljava/lang/String;"⟩ : MethodName)) hown (mvT hZ (hw _ (List.mem_of_getElem? (i := 63) rfl))) (mvT hZ (hw _ (List.mem_of_getElem? (i := 64) rfl))) (mvT hZ (hw _ (List.mem_of_getElem? (i := 65) rfl))) (mvT hZ (hw _ (List.mem_of_getElem? (i := 66) rfl))) (by decide) (backOf (W := 0) (rm10 l Z a0 hw [] (((((p4.toUInt32 >>> ((16 : Int32) &&& 31).toUInt32).toInt32) &&& (255 : Int32)).toUInt32.toUInt16.toUInt32.toInt32)) zC T41.heap n0 O43 S_COMPACT_STRINGS h225_h247_hc3 ((by rw [i2c_mask]; exact (own_m255 _).2) : ¬ ((255 : Int32) < ((((p4.toUInt32 >>> ((16 : Int32) &&& 31).toUInt32).toInt32) &&& (255 : Int32)).toUInt32.toUInt16.toUInt32.toInt32)))) hZ (hw _ (List.mem_of_getElem? (i := 66) rfl)) (hw _ (List.mem_of_getElem? (i := 65) rfl)) (by decide) (by decide)) (g := (mkF m 311 #[.val (.int p1), .val (.int p2), .val (.int p3), .val (.int p4), .val (.int p5), .val (.int p6), .val (.int k6), .val (.int k7), .val (.int k8), .val (.int k9), .val (.int k10), .val (.int k11), .val (.int (((p4.toUInt32 >>> ((8 : Int32) &&& 31).toUInt32).toInt32) % (3 : Int32))), .val (.ref wP), .val (.ref b15), .val (.ref b20), .val (.ref b21), .val (.ref b30), .val (.ref b35), .val (.ref b38), .unset, .unset, .unset] [(.int ((((p4.toUInt32 >>> ((16 : Int32) &&& 31).toUInt32).toInt32) &&& (255 : Int32)).toUInt32.toUInt16.toUInt32.toInt32))])) rfl (by rw [hml]; rfl) (argsL := [(.int ((((p4.toUInt32 >>> ((16 : Int32) &&& 31).toUInt32).toInt32) &&& (255 : Int32)).toUInt32.toUInt16.toUInt32.toInt32))]) (rest := []) (lenOf pd_3 rfl) rfl (by show 2 * 0 + _ ≤ _; exact Nat.le_of_eq rfl) (hb hby at_311) (fun _ _ => ⟨rfl, rfl, (by decide : 18 + 2 ≤ _), (by decide : 88 + 5 ≤ _)⟩)
  dsimp only [Pt.U, Pt.locs, Pt.cells, Pt.slots] at X44 l44 y44 z44 st44 hQ44
  subst l44 y44 z44
  obtain ⟨b45, rfl, N44q, K44, Y44_z0, Y44_0⟩ := hQ44
  have N44 := Fr.app N41 N44q
  replace X44 := X44.more (cells' := 20) (slots' := 93) (by decide) (by decide)
  have g_b45 : n0 ≤ b45 := Nat.le_trans (Nat.le_trans Z0 K42.1) Y44_z0
  have sz_b45 : h0.size ≤ b45 := Nat.le_trans K42.1 Y44_z0
  have K46 : Keep h0 T44.heap [] := K42.trans K44 all0
  have O47 : Old Z n0 T44.heap := O43.keep K44 all0
  obtain ⟨T48, h48, X48, e48, E48, A48, D48, -, st48⟩ := newO X44 hx hZ hown (hw _ (List.mem_of_getElem? (i := 87) rfl)) (hw _ (List.mem_of_getElem? (i := 88) rfl)) (hw _ (List.mem_of_getElem? (i := 89) rfl)) rfl (g := (mkF m 316 #[.val (.int p1), .val (.int p2), .val (.int p3), .val (.int p4), .val (.int p5), .val (.int p6), .val (.int k6), .val (.int k7), .val (.int k8), .val (.int k9), .val (.int k10), .val (.int k11), .val (.int (((p4.toUInt32 >>> ((8 : Int32) &&& 31).toUInt32).toInt32) % (3 : Int32))), .val (.ref wP), .val (.ref b15), .val (.ref b20), .val (.ref b21), .val (.ref b30), .val (.ref b35), .val (.ref b38), .val (.ref b45), .unset, .unset] [])) rfl (hb hby at_316) (by decide) (by decide)
  obtain ⟨b48, g48⟩ : ∃ z, z = T44.heap.size := ⟨_, rfl⟩
  rw [← g48] at A48 D48 st48
  have g_b48 : n0 ≤ b48 := Nat.le_trans (Nat.le_trans Z0 K46.1) (Nat.le_of_eq g48.symm)
  have sz_b48 : h0.size ≤ b48 := Nat.le_trans K46.1 (Nat.le_of_eq g48.symm)
  have K49 : Keep h0 h48 [] := K46.ext E48
  have O50 : Old Z n0 h48 := O47.ext E48
  have F_tag_b48 : Fld Z h48 b48 "com/example/mirante/mirante/FieldDef" "tag" "I" (.int (0 : Int32)) := D48 (Or.inr (hw _ (List.mem_of_getElem? (i := 103) rfl))) (ty := .int) (by decide)
  have F_name_b48 : Fld Z h48 b48 "com/example/mirante/mirante/FieldDef" "name" "Ljava/lang/String;" .null := D48 (Or.inr (hw _ (List.mem_of_getElem? (i := 105) rfl))) (ty := (.object "java/lang/String")) (by decide)
  have F_type_b48 : Fld Z h48 b48 "com/example/mirante/mirante/FieldDef" "type" "Ljava/lang/String;" .null := D48 (Or.inr (hw _ (List.mem_of_getElem? (i := 107) rfl))) (ty := (.object "java/lang/String")) (by decide)
  have F_format_b48 : Fld Z h48 b48 "com/example/mirante/mirante/FieldDef" "format" "Lcom/example/mirante/mirante/FieldFormat;" .null := D48 (Or.inr (hw _ (List.mem_of_getElem? (i := 109) rfl))) (ty := (.object "com/example/mirante/mirante/FieldFormat")) (by decide)
  have F_maxLength_b48 : Fld Z h48 b48 "com/example/mirante/mirante/FieldDef" "maxLength" "I" (.int (0 : Int32)) := D48 (Or.inr (hw _ (List.mem_of_getElem? (i := 111) rfl))) (ty := .int) (by decide)
  have F_presence_b48 : Fld Z h48 b48 "com/example/mirante/mirante/FieldDef" "presence" "Lcom/example/mirante/mirante/FieldDef$Presence;" .null := D48 (Or.inr (hw _ (List.mem_of_getElem? (i := 113) rfl))) (ty := (.object "com/example/mirante/mirante/FieldDef$Presence")) (by decide)
  have F_values_b48 : Fld Z h48 b48 "com/example/mirante/mirante/FieldDef" "values" "Ljava/util/Map;" .null := D48 (Or.inr (hw _ (List.mem_of_getElem? (i := 115) rfl))) (ty := (.object "java/util/Map")) (by decide)
  have F_range_b48 : Fld Z h48 b48 "com/example/mirante/mirante/FieldDef" "range" "Lcom/example/mirante/mirante/FieldDef$Range;" .null := D48 (Or.inr (hw _ (List.mem_of_getElem? (i := 117) rfl))) (ty := (.object "com/example/mirante/mirante/FieldDef$Range")) (by decide)
  have F_rules_b48 : Fld Z h48 b48 "com/example/mirante/mirante/FieldDef" "rules" "Ljava/util/List;" .null := D48 (Or.inr (hw _ (List.mem_of_getElem? (i := 119) rfl))) (ty := (.object "java/util/List")) (by decide)
  have F_conditions_b48 : Fld Z h48 b48 "com/example/mirante/mirante/FieldDef" "conditions" "Ljava/util/List;" .null := D48 (Or.inr (hw _ (List.mem_of_getElem? (i := 121) rfl))) (ty := (.object "java/util/List")) (by decide)
  have F_count_b48 : Fld Z h48 b48 "com/example/mirante/mirante/FieldDef" "count" "I" (.int (0 : Int32)) := D48 (Or.inr (hw _ (List.mem_of_getElem? (i := 123) rfl))) (ty := .int) (by decide)
  have F_anyPresent_b48 : Fld Z h48 b48 "com/example/mirante/mirante/FieldDef" "anyPresent" "Ljava/util/List;" .null := D48 (Or.inr (hw _ (List.mem_of_getElem? (i := 125) rfl))) (ty := (.object "java/util/List")) (by decide)
  have F_before_b48 : Fld Z h48 b48 "com/example/mirante/mirante/FieldDef" "before" "Ljava/util/List;" .null := D48 (Or.inr (hw _ (List.mem_of_getElem? (i := 127) rfl))) (ty := (.object "java/util/List")) (by decide)
  have F_lengthOf_b48 : Fld Z h48 b48 "com/example/mirante/mirante/FieldDef" "lengthOf" "I" (.int (0 : Int32)) := D48 (Or.inr (hw _ (List.mem_of_getElem? (i := 129) rfl))) (ty := .int) (by decide)
  have F_members_b48 : Fld Z h48 b48 "com/example/mirante/mirante/FieldDef" "members" "Ljava/util/List;" .null := D48 (Or.inr (hw _ (List.mem_of_getElem? (i := 131) rfl))) (ty := (.object "java/util/List")) (by decide)
  replace X48 := X48.more (cells' := 21) (slots' := 108) (by decide) (by decide)
  obtain ⟨b51, T51, h51, k51, X51, e51, E51, hS51, hk51, hZ51, ho51, st51⟩ := ldcS X48 hx hZ hown (hw _ (List.mem_of_getElem? (i := 90) rfl)) (fun d hd => hw d (own_strw d hd)) e48 hS0 (Nat.le_trans hk0 (Nat.le_trans (Nat.le_trans (Nat.le_trans (Nat.le_trans (Nat.le_trans (Nat.le_trans (Nat.le_trans (Nat.le_trans K14.1 K19.1) K25.1) K29.1) K34.1) E38.1) K41.1) K44.1) E48.1)) (g := (mkF m 323 #[.val (.int p1), .val (.int p2), .val (.int p3), .val (.int p4), .val (.int p5), .val (.int p6), .val (.int k6), .val (.int k7), .val (.int k8), .val (.int k9), .val (.int k10), .val (.int k11), .val (.int (((p4.toUInt32 >>> ((8 : Int32) &&& 31).toUInt32).toInt32) % (3 : Int32))), .val (.ref wP), .val (.ref b15), .val (.ref b20), .val (.ref b21), .val (.ref b30), .val (.ref b35), .val (.ref b38), .val (.ref b45), .unset, .unset] [(.ref b45), (.int p1), (.ref b48), (.ref b48)])) rfl (hb hby at_323) (n := 24) (by decide) (by decide) (by decide) (by decide)
  have K52 : Keep h0 h51 [] := K49.ext E51
  have O53 : Old Z n0 h51 := O50.ext E51
  replace X51 := X51.more (cells' := 23) (slots' := 136) (by decide) (by decide)
  have f54 := (A48.ext E51)
  have f55 := (F_tag_b48.ext E51)
  have f56 := (F_name_b48.ext E51)
  have f57 := (F_type_b48.ext E51)
  have f58 := (F_format_b48.ext E51)
  have f59 := (F_maxLength_b48.ext E51)
  have f60 := (F_presence_b48.ext E51)
  have f61 := (F_values_b48.ext E51)
  have f62 := (F_range_b48.ext E51)
  have f63 := (F_rules_b48.ext E51)
  have f64 := (F_conditions_b48.ext E51)
  have f65 := (F_count_b48.ext E51)
  have f66 := (F_anyPresent_b48.ext E51)
  have f67 := (F_before_b48.ext E51)
  have f68 := (F_lengthOf_b48.ext E51)
  have f69 := (F_members_b48.ext E51)
  obtain ⟨vr70, _, ⟨T70, L70, k70, n70⟩, -, X70, ⟨Lc70, hQ70, l70, y70, z70⟩, st70⟩ := X51.specialBack hx (y := (⟨"com/example/mirante/mirante/FieldDef", "<init>", "(ILjava/lang/String;Ljava/lang/String;Lcom/example/mirante/mirante/FieldFormat;ILcom/example/mirante/mirante/FieldDef$Presence;Ljava/util/Map;Lcom/example/mirante/mirante/FieldDef$Range;Ljava/util/List;Ljava/util/List;ILjava/util/List;Ljava/util/List;ILjava/util/List;)V"⟩ : MethodName)) rfl ho51 (mvT hZ51 (hw _ (List.mem_of_getElem? (i := 93) rfl))) (mvT hZ51 (hw _ (List.mem_of_getElem? (i := 94) rfl))) (mvT hZ51 (hw _ (List.mem_of_getElem? (i := 95) rfl))) (by decide) (backOf (W := 1) (rm14ro l Z a0 hw [] b48 p1 b45 b51 p5 wP b38 b30 b15 p2 b20 b21 p3 b35 ((.int (0 : Int32))) (.null) (.null) (.null) ((.int (0 : Int32))) (.null) (.null) (.null) (.null) (.null) ((.int (0 : Int32))) (.null) (.null) ((.int (0 : Int32))) (.null) h51 n0 O53 f54 f55 g_b48 f56 f57 f58 f59 f60 f61 f62 f63 f64 f65 f66 f67 f68 f69) hZ51 (hw _ (List.mem_of_getElem? (i := 95) rfl)) (hw _ (List.mem_of_getElem? (i := 89) rfl)) (by decide) (by decide)) (g := (mkF m 345 #[.val (.int p1), .val (.int p2), .val (.int p3), .val (.int p4), .val (.int p5), .val (.int p6), .val (.int k6), .val (.int k7), .val (.int k8), .val (.int k9), .val (.int k10), .val (.int k11), .val (.int (((p4.toUInt32 >>> ((8 : Int32) &&& 31).toUInt32).toInt32) % (3 : Int32))), .val (.ref wP), .val (.ref b15), .val (.ref b20), .val (.ref b21), .val (.ref b30), .val (.ref b35), .val (.ref b38), .val (.ref b45), .unset, .unset] [(.ref b35), (.int p3), (.ref b21), (.ref b20), (.int p2), (.ref b15), (.ref b30), (.ref b38), .null, (.ref wP), (.int p5), .null, (.ref b51), (.ref b45), (.int p1), (.ref b48), (.ref b48)])) rfl (by rw [hml]; rfl) (Steps.refl _) (a := b48) (argsL := [(.int p1), (.ref b45), (.ref b51), .null, (.int p5), (.ref wP), .null, (.ref b38), (.ref b30), (.ref b15), (.int p2), (.ref b20), (.ref b21), (.int p3), (.ref b35)]) (rest := [(.ref b48)]) (lenOf pd_10 rfl) rfl (by show 2 * 0 + _ ≤ _; exact Nat.le_of_eq rfl) (hb hby at_345) (fun _ _ => ⟨rfl, e51, (by decide : 23 + 0 ≤ _), (by decide : 136 + 0 ≤ _)⟩)
  dsimp only [Pt.U, Pt.locs, Pt.cells, Pt.slots] at X70 l70 y70 z70 st70 hQ70
  subst l70 y70 z70
  obtain ⟨rfl, N70q, K70, Y70_0, Y70_1, Y70_2, Y70_3, Y70_4⟩ := hQ70
  have N70 := Fr.app N44 N70q
  replace X70 := X70.more (cells' := 23) (slots' := 136) (by decide) (by decide)
  have K71 : Keep h0 T70.heap [] := K52.trans K70 (allS (Or.inr sz_b48) all0)
  have O72 : Old Z n0 T70.heap := O53.keep K70 (allS g_b48 all0)
  obtain ⟨T73, L73, X73, N73, e73, st73⟩ := tn350 hw p1 p2 p3 p4 p5 p6 k6 k7 k8 ((.val (.int k9))) ((.val (.int k10))) ((.val (.int k11))) ((.val (.int (((p4.toUInt32 >>> ((8 : Int32) &&& 31).toUInt32).toInt32) % (3 : Int32))))) ((.val (.ref wP))) ((.val (.ref b15))) ((.val (.ref b20))) ((.val (.ref b21))) ((.val (.ref b30))) ((.val (.ref b35))) ((.val (.ref b38))) ((.val (.ref b45))) ((.val (.ref b48))) v22 T70.heap n0 X70 N70 hx hZ51 hby hml ho51 rfl O72 h350_hv22
  have f74 := ((((((((((Y14_0.keep K19).keep K25).keep K29).keep K34).ext E38).keep K41).keep K44).ext E48).ext E51).keep K70)
  have f75 := ((((((((((Y14_1.keep K19 nin0).keep K25 (ninS (Nat.ne_of_lt (Nat.lt_of_lt_of_le Y14_0.lt Y19_z1)) nin0)).keep K29 nin0).keep K34 nin0).ext E38).keep K41 (ninS (Nat.ne_of_lt (Nat.lt_of_lt_of_le (Nat.lt_of_lt_of_le Y14_0.lt (Nat.le_trans (Nat.le_trans (Nat.le_trans K19.1 K25.1) K29.1) K34.1)) (Nat.le_of_eq g38.symm))) nin0)).keep K44 nin0).ext E48).ext E51).keep K70 (ninS (Nat.ne_of_lt (Nat.lt_of_lt_of_le (Nat.lt_of_lt_of_le Y14_0.lt (Nat.le_trans (Nat.le_trans (Nat.le_trans (Nat.le_trans (Nat.le_trans (Nat.le_trans K19.1 K25.1) K29.1) K34.1) E38.1) K41.1) K44.1)) (Nat.le_of_eq g48.symm))) nin0))
  have f76 := (((((((((Y19_0.keep K25).keep K29).keep K34).ext E38).keep K41).keep K44).ext E48).ext E51).keep K70)
  have f77 := (((((((((Y19_1.keep K25 (ninS Y19_n0 nin0)).keep K29 nin0).keep K34 nin0).ext E38).keep K41 (ninS (Nat.ne_of_lt (Nat.lt_of_lt_of_le (Nat.lt_of_lt_of_le Y19_0.lt (Nat.le_trans (Nat.le_trans K25.1 K29.1) K34.1)) (Nat.le_of_eq g38.symm))) nin0)).keep K44 nin0).ext E48).ext E51).keep K70 (ninS (Nat.ne_of_lt (Nat.lt_of_lt_of_le (Nat.lt_of_lt_of_le Y19_0.lt (Nat.le_trans (Nat.le_trans (Nat.le_trans (Nat.le_trans (Nat.le_trans K25.1 K29.1) K34.1) E38.1) K41.1) K44.1)) (Nat.le_of_eq g48.symm))) nin0))
  have f78 := ((((((((Y25_0.keep K29).keep K34).ext E38).keep K41).keep K44).ext E48).ext E51).keep K70)
  have f79 := ((((((((Y25_1.keep K29 nin0).keep K34 nin0).ext E38).keep K41 (ninS (Nat.ne_of_lt (Nat.lt_of_lt_of_le (Nat.lt_of_lt_of_le Y19_2.lt (Nat.le_trans (Nat.le_trans K25.1 K29.1) K34.1)) (Nat.le_of_eq g38.symm))) nin0)).keep K44 nin0).ext E48).ext E51).keep K70 (ninS (Nat.ne_of_lt (Nat.lt_of_lt_of_le (Nat.lt_of_lt_of_le Y19_2.lt (Nat.le_trans (Nat.le_trans (Nat.le_trans (Nat.le_trans (Nat.le_trans K25.1 K29.1) K34.1) E38.1) K41.1) K44.1)) (Nat.le_of_eq g48.symm))) nin0))
  obtain ⟨cq80, kq80, q80a, q80b, q80c⟩ := isOf hZ51 e73 Y70_0
  obtain ⟨vr80, _, ⟨T80, L80, k80, n80⟩, -, X80, ⟨Lc80, hQ80, l80, y80, z80⟩, st80⟩ := X73.virtualBack hx (y := (⟨"com/example/mirante/mirante/FieldDef", "hasRuleChecks", "()Z"⟩ : MethodName)) (z := (⟨"com/example/mirante/mirante/FieldDef", "hasRuleChecks", "()Z"⟩ : MethodName)) ho51 (mvT hZ51 (hw _ (List.mem_of_getElem? (i := 132) rfl))) (mvT hZ51 (hw _ (List.mem_of_getElem? (i := 133) rfl))) (notFace_of_selects (args := #[]) (mvT hZ51 (hw _ (List.mem_of_getElem? (i := 135) rfl)))) (mvT hZ51 (hw _ (List.mem_of_getElem? (i := 135) rfl))) (mvT hZ51 (hw _ (List.mem_of_getElem? (i := 134) rfl))) (by decide) (backOf (W := 0) (rm16 l Z a0 hw [] b48 b15 b20 b21 p2 sz14 sz15 sz16 v22 T70.heap n0 O72 Y70_3 Y70_4 Y70_1 Y70_2 f74 f75 f76 f77 f78 f79 h378_hr) hZ51 (hw _ (List.mem_of_getElem? (i := 136) rfl)) (hw _ (List.mem_of_getElem? (i := 89) rfl)) (by decide) (by decide)) q80a q80c (g := (mkF m 378 #[.val (.int p1), .val (.int p2), .val (.int p3), .val (.int p4), .val (.int p5), .val (.int p6), .val (.int k6), .val (.int k7), .val (.int k8), .val (.int k9), .val (.int k10), .val (.int k11), .val (.int (((p4.toUInt32 >>> ((8 : Int32) &&& 31).toUInt32).toInt32) % (3 : Int32))), .val (.ref wP), .val (.ref b15), .val (.ref b20), .val (.ref b21), .val (.ref b30), .val (.ref b35), .val (.ref b38), .val (.ref b45), .val (.ref b48), .val (.int v22)] [(.ref b48)])) rfl (by rw [hml]; rfl) (Steps.refl _) (argsL := []) (rest := []) (lenOf pd_1 rfl) rfl (by show 2 * 0 + _ ≤ _; exact Nat.le_of_eq rfl) (hb hby at_378) (fun _ _ => ⟨rfl, e73, (by decide : 23 + 0 ≤ _), (by decide : 136 + 0 ≤ _)⟩)
  dsimp only [Pt.U, Pt.locs, Pt.cells, Pt.slots] at X80 l80 y80 z80 st80 hQ80
  subst l80 y80 z80
  obtain ⟨rfl, N80q, e80⟩ := hQ80
  have N80 := Fr.app N73 N80q
  replace X80 := X80.more (cells' := 23) (slots' := 136) (by decide) (by decide)
  obtain ⟨fs, hr, hrun, hended, hend⟩ := X80.leaveW hS51 (by rw [e80]; exact (Nat.le_trans hk51 K70.1)) (v := some (.int (1 : Int32))) (fun h => by rw [Bd.returns] at h; cases h)
  refine ⟨_, _, pre0 _ ?_, hrun, hended, _, _, rfl, ?_, hend.1, hend.2.1, hend.2.2.1, hend.2.2.2.mono (by decide) (by decide)⟩
  · show Steps p.tables e below (s₁.setTop (mkF m 0 #[.val (.int p1), .val (.int p2), .val (.int p3), .val (.int p4), .val (.int p5), .val (.int p6), .unset, .unset, .unset, .unset, .unset, .unset, .unset, .unset, .unset, .unset, .unset, .unset, .unset, .unset, .unset, .unset, .unset] [])) _
    refine st7 _ ?_
    show Steps p.tables e below (T7.setTop (mkF m 13 #[.val (.int p1), .val (.int p2), .val (.int p3), .val (.int p4), .val (.int p5), .val (.int p6), .val (.int k6), .unset, .unset, .unset, .unset, .unset, .unset, .unset, .unset, .unset, .unset, .unset, .unset, .unset, .unset, .unset, .unset] [])) _
    refine st8 _ ?_
    show Steps p.tables e below (T8.setTop (mkF m 26 #[.val (.int p1), .val (.int p2), .val (.int p3), .val (.int p4), .val (.int p5), .val (.int p6), .val (.int k6), .val (.int k7), .unset, .unset, .unset, .unset, .unset, .unset, .unset, .unset, .unset, .unset, .unset, .unset, .unset, .unset, .unset] [])) _
    refine st9 _ ?_
    show Steps p.tables e below (T9.setTop (mkF m 39 #[.val (.int p1), .val (.int p2), .val (.int p3), .val (.int p4), .val (.int p5), .val (.int p6), .val (.int k6), .val (.int k7), .val (.int k8), .unset, .unset, .unset, .unset, .unset, .unset, .unset, .unset, .unset, .unset, .unset, .unset, .unset, .unset] [])) _
    refine st10 _ ?_
    show Steps p.tables e below (T10.setTop (mkF m 53 #[.val (.int p1), .val (.int p2), .val (.int p3), .val (.int p4), .val (.int p5), .val (.int p6), .val (.int k6), .val (.int k7), .val (.int k8), .val (.int k9), .unset, .unset, .unset, .unset, .unset, .unset, .unset, .unset, .unset, .unset, .unset, .unset, .unset] [])) _
    refine st11 _ ?_
    show Steps p.tables e below (T11.setTop (mkF m 67 #[.val (.int p1), .val (.int p2), .val (.int p3), .val (.int p4), .val (.int p5), .val (.int p6), .val (.int k6), .val (.int k7), .val (.int k8), .val (.int k9), .val (.int k10), .unset, .unset, .unset, .unset, .unset, .unset, .unset, .unset, .unset, .unset, .unset, .unset] [])) _
    refine st12 _ ?_
    show Steps p.tables e below (T12.setTop (mkF m 81 #[.val (.int p1), .val (.int p2), .val (.int p3), .val (.int p4), .val (.int p5), .val (.int p6), .val (.int k6), .val (.int k7), .val (.int k8), .val (.int k9), .val (.int k10), .val (.int k11), .unset, .unset, .unset, .unset, .unset, .unset, .unset, .unset, .unset, .unset, .unset] [])) _
    refine st13 _ ?_
    show Steps p.tables e below (T13.setTop (mkF m 117 #[.val (.int p1), .val (.int p2), .val (.int p3), .val (.int p4), .val (.int p5), .val (.int p6), .val (.int k6), .val (.int k7), .val (.int k8), .val (.int k9), .val (.int k10), .val (.int k11), .val (.int (((p4.toUInt32 >>> ((8 : Int32) &&& 31).toUInt32).toInt32) % (3 : Int32))), .val (.ref wP), .unset, .unset, .unset, .unset, .unset, .unset, .unset, .unset, .unset] [])) _
    refine st14 _ ?_
    show Steps p.tables e below (T14.setTop (mkF m 140 #[.val (.int p1), .val (.int p2), .val (.int p3), .val (.int p4), .val (.int p5), .val (.int p6), .val (.int k6), .val (.int k7), .val (.int k8), .val (.int k9), .val (.int k10), .val (.int k11), .val (.int (((p4.toUInt32 >>> ((8 : Int32) &&& 31).toUInt32).toInt32) % (3 : Int32))), .val (.ref wP), .val (.ref b15), .unset, .unset, .unset, .unset, .unset, .unset, .unset, .unset] [])) _
    refine st19 _ ?_
    show Steps p.tables e below (T19.setTop (mkF m 207 #[.val (.int p1), .val (.int p2), .val (.int p3), .val (.int p4), .val (.int p5), .val (.int p6), .val (.int k6), .val (.int k7), .val (.int k8), .val (.int k9), .val (.int k10), .val (.int k11), .val (.int (((p4.toUInt32 >>> ((8 : Int32) &&& 31).toUInt32).toInt32) % (3 : Int32))), .val (.ref wP), .val (.ref b15), .val (.ref b20), .val (.ref b21), .unset, .unset, .unset, .unset, .unset, .unset] [])) _
    refine st25 _ ?_
    show Steps p.tables e below (T25.setTop (mkF m 225 #[.val (.int p1), .val (.int p2), .val (.int p3), .val (.int p4), .val (.int p5), .val (.int p6), .val (.int k6), .val (.int k7), .val (.int k8), .val (.int k9), .val (.int k10), .val (.int k11), .val (.int (((p4.toUInt32 >>> ((8 : Int32) &&& 31).toUInt32).toInt32) % (3 : Int32))), .val (.ref wP), .val (.ref b15), .val (.ref b20), .val (.ref b21), .unset, .unset, .unset, .unset, .unset, .unset] [])) _
    refine st29 _ ?_
    show Steps p.tables e below (T29.setTop (mkF m 256 #[.val (.int p1), .val (.int p2), .val (.int p3), .val (.int p4), .val (.int p5), .val (.int p6), .val (.int k6), .val (.int k7), .val (.int k8), .val (.int k9), .val (.int k10), .val (.int k11), .val (.int (((p4.toUInt32 >>> ((8 : Int32) &&& 31).toUInt32).toInt32) % (3 : Int32))), .val (.ref wP), .val (.ref b15), .val (.ref b20), .val (.ref b21), .val (.ref b30), .unset, .unset, .unset, .unset, .unset] [])) _
    refine st34 _ ?_
    show Steps p.tables e below (T34.setTop (mkF m 279 #[.val (.int p1), .val (.int p2), .val (.int p3), .val (.int p4), .val (.int p5), .val (.int p6), .val (.int k6), .val (.int k7), .val (.int k8), .val (.int k9), .val (.int k10), .val (.int k11), .val (.int (((p4.toUInt32 >>> ((8 : Int32) &&& 31).toUInt32).toInt32) % (3 : Int32))), .val (.ref wP), .val (.ref b15), .val (.ref b20), .val (.ref b21), .val (.ref b30), .val (.ref b35), .unset, .unset, .unset, .unset] [])) _
    refine XS.iload X34.here hx rfl (hb hby at_279) rfl ?_
    show Steps p.tables e below (T34.setTop (mkF m 281 #[.val (.int p1), .val (.int p2), .val (.int p3), .val (.int p4), .val (.int p5), .val (.int p6), .val (.int k6), .val (.int k7), .val (.int k8), .val (.int k9), .val (.int k10), .val (.int k11), .val (.int (((p4.toUInt32 >>> ((8 : Int32) &&& 31).toUInt32).toInt32) % (3 : Int32))), .val (.ref wP), .val (.ref b15), .val (.ref b20), .val (.ref b21), .val (.ref b30), .val (.ref b35), .unset, .unset, .unset, .unset] [(.int k11)])) _
    refine XS.ifNo X34.here hx rfl (hb hby at_281) rfl ((if0 _ _).trans (feq hc281).1) ?_
    show Steps p.tables e below (T34.setTop (mkF m 284 #[.val (.int p1), .val (.int p2), .val (.int p3), .val (.int p4), .val (.int p5), .val (.int p6), .val (.int k6), .val (.int k7), .val (.int k8), .val (.int k9), .val (.int k10), .val (.int k11), .val (.int (((p4.toUInt32 >>> ((8 : Int32) &&& 31).toUInt32).toInt32) % (3 : Int32))), .val (.ref wP), .val (.ref b15), .val (.ref b20), .val (.ref b21), .val (.ref b30), .val (.ref b35), .unset, .unset, .unset, .unset] [])) _
    refine st38 _ ?_
    show Steps p.tables e below (T38.setTop (mkF m 287 #[.val (.int p1), .val (.int p2), .val (.int p3), .val (.int p4), .val (.int p5), .val (.int p6), .val (.int k6), .val (.int k7), .val (.int k8), .val (.int k9), .val (.int k10), .val (.int k11), .val (.int (((p4.toUInt32 >>> ((8 : Int32) &&& 31).toUInt32).toInt32) % (3 : Int32))), .val (.ref wP), .val (.ref b15), .val (.ref b20), .val (.ref b21), .val (.ref b30), .val (.ref b35), .unset, .unset, .unset, .unset] [(.ref b38)])) _
    refine XS.dup X38.here hx rfl (hb hby at_287) rfl rfl ?_
    show Steps p.tables e below (T38.setTop (mkF m 288 #[.val (.int p1), .val (.int p2), .val (.int p3), .val (.int p4), .val (.int p5), .val (.int p6), .val (.int k6), .val (.int k7), .val (.int k8), .val (.int k9), .val (.int k10), .val (.int k11), .val (.int (((p4.toUInt32 >>> ((8 : Int32) &&& 31).toUInt32).toInt32) % (3 : Int32))), .val (.ref wP), .val (.ref b15), .val (.ref b20), .val (.ref b21), .val (.ref b30), .val (.ref b35), .unset, .unset, .unset, .unset] [(.ref b38), (.ref b38)])) _
    refine XS.iloadN X38.here hx rfl (hb hby at_288) rfl ?_
    show Steps p.tables e below (T38.setTop (mkF m 289 #[.val (.int p1), .val (.int p2), .val (.int p3), .val (.int p4), .val (.int p5), .val (.int p6), .val (.int k6), .val (.int k7), .val (.int k8), .val (.int k9), .val (.int k10), .val (.int k11), .val (.int (((p4.toUInt32 >>> ((8 : Int32) &&& 31).toUInt32).toInt32) % (3 : Int32))), .val (.ref wP), .val (.ref b15), .val (.ref b20), .val (.ref b21), .val (.ref b30), .val (.ref b35), .unset, .unset, .unset, .unset] [(.int p1), (.ref b38), (.ref b38)])) _
    refine XS.i2l X38.here hx rfl (hb hby at_289) rfl ?_
    show Steps p.tables e below (T38.setTop (mkF m 290 #[.val (.int p1), .val (.int p2), .val (.int p3), .val (.int p4), .val (.int p5), .val (.int p6), .val (.int k6), .val (.int k7), .val (.int k8), .val (.int k9), .val (.int k10), .val (.int k11), .val (.int (((p4.toUInt32 >>> ((8 : Int32) &&& 31).toUInt32).toInt32) % (3 : Int32))), .val (.ref wP), .val (.ref b15), .val (.ref b20), .val (.ref b21), .val (.ref b30), .val (.ref b35), .unset, .unset, .unset, .unset] [(.long (p1.toInt64)), (.ref b38), (.ref b38)])) _
    refine XS.iload X38.here hx rfl (hb hby at_290) rfl ?_
    show Steps p.tables e below (T38.setTop (mkF m 292 #[.val (.int p1), .val (.int p2), .val (.int p3), .val (.int p4), .val (.int p5), .val (.int p6), .val (.int k6), .val (.int k7), .val (.int k8), .val (.int k9), .val (.int k10), .val (.int k11), .val (.int (((p4.toUInt32 >>> ((8 : Int32) &&& 31).toUInt32).toInt32) % (3 : Int32))), .val (.ref wP), .val (.ref b15), .val (.ref b20), .val (.ref b21), .val (.ref b30), .val (.ref b35), .unset, .unset, .unset, .unset] [(.int p6), (.long (p1.toInt64)), (.ref b38), (.ref b38)])) _
    refine XS.i2l X38.here hx rfl (hb hby at_292) rfl ?_
    show Steps p.tables e below (T38.setTop (mkF m 293 #[.val (.int p1), .val (.int p2), .val (.int p3), .val (.int p4), .val (.int p5), .val (.int p6), .val (.int k6), .val (.int k7), .val (.int k8), .val (.int k9), .val (.int k10), .val (.int k11), .val (.int (((p4.toUInt32 >>> ((8 : Int32) &&& 31).toUInt32).toInt32) % (3 : Int32))), .val (.ref wP), .val (.ref b15), .val (.ref b20), .val (.ref b21), .val (.ref b30), .val (.ref b35), .unset, .unset, .unset, .unset] [(.long (p6.toInt64)), (.long (p1.toInt64)), (.ref b38), (.ref b38)])) _
    refine st41.trans ?_
    show Steps p.tables e below (T41.setTop (mkF m 296 #[.val (.int p1), .val (.int p2), .val (.int p3), .val (.int p4), .val (.int p5), .val (.int p6), .val (.int k6), .val (.int k7), .val (.int k8), .val (.int k9), .val (.int k10), .val (.int k11), .val (.int (((p4.toUInt32 >>> ((8 : Int32) &&& 31).toUInt32).toInt32) % (3 : Int32))), .val (.ref wP), .val (.ref b15), .val (.ref b20), .val (.ref b21), .val (.ref b30), .val (.ref b35), .unset, .unset, .unset, .unset] [(.ref b38)])) _
    refine XS.goto X41.here hx rfl (pc0 := 296) (pc' := 300) rfl (hb hby at_296) (by decide) (by decide) ?_
    show Steps p.tables e below (T41.setTop (mkF m 300 #[.val (.int p1), .val (.int p2), .val (.int p3), .val (.int p4), .val (.int p5), .val (.int p6), .val (.int k6), .val (.int k7), .val (.int k8), .val (.int k9), .val (.int k10), .val (.int k11), .val (.int (((p4.toUInt32 >>> ((8 : Int32) &&& 31).toUInt32).toInt32) % (3 : Int32))), .val (.ref wP), .val (.ref b15), .val (.ref b20), .val (.ref b21), .val (.ref b30), .val (.ref b35), .unset, .unset, .unset, .unset] [(.ref b38)])) _
    refine XS.astore X41.here hx rfl (hb hby at_300) rfl rfl (l' := #[.val (.int p1), .val (.int p2), .val (.int p3), .val (.int p4), .val (.int p5), .val (.int p6), .val (.int k6), .val (.int k7), .val (.int k8), .val (.int k9), .val (.int k10), .val (.int k11), .val (.int (((p4.toUInt32 >>> ((8 : Int32) &&& 31).toUInt32).toInt32) % (3 : Int32))), .val (.ref wP), .val (.ref b15), .val (.ref b20), .val (.ref b21), .val (.ref b30), .val (.ref b35), .val (.ref b38), .unset, .unset, .unset]) rfl ?_
    show Steps p.tables e below (T41.setTop (mkF m 302 #[.val (.int p1), .val (.int p2), .val (.int p3), .val (.int p4), .val (.int p5), .val (.int p6), .val (.int k6), .val (.int k7), .val (.int k8), .val (.int k9), .val (.int k10), .val (.int k11), .val (.int (((p4.toUInt32 >>> ((8 : Int32) &&& 31).toUInt32).toInt32) % (3 : Int32))), .val (.ref wP), .val (.ref b15), .val (.ref b20), .val (.ref b21), .val (.ref b30), .val (.ref b35), .val (.ref b38), .unset, .unset, .unset] [])) _
    refine XS.iloadN X41.here hx rfl (hb hby at_302) rfl ?_
    show Steps p.tables e below (T41.setTop (mkF m 303 #[.val (.int p1), .val (.int p2), .val (.int p3), .val (.int p4), .val (.int p5), .val (.int p6), .val (.int k6), .val (.int k7), .val (.int k8), .val (.int k9), .val (.int k10), .val (.int k11), .val (.int (((p4.toUInt32 >>> ((8 : Int32) &&& 31).toUInt32).toInt32) % (3 : Int32))), .val (.ref wP), .val (.ref b15), .val (.ref b20), .val (.ref b21), .val (.ref b30), .val (.ref b35), .val (.ref b38), .unset, .unset, .unset] [(.int p4)])) _
    refine XS.bipush X41.here hx rfl (hb hby at_303) ?_
    show Steps p.tables e below (T41.setTop (mkF m 305 #[.val (.int p1), .val (.int p2), .val (.int p3), .val (.int p4), .val (.int p5), .val (.int p6), .val (.int k6), .val (.int k7), .val (.int k8), .val (.int k9), .val (.int k10), .val (.int k11), .val (.int (((p4.toUInt32 >>> ((8 : Int32) &&& 31).toUInt32).toInt32) % (3 : Int32))), .val (.ref wP), .val (.ref b15), .val (.ref b20), .val (.ref b21), .val (.ref b30), .val (.ref b35), .val (.ref b38), .unset, .unset, .unset] [(.int (16 : Int32)), (.int p4)])) _
    refine XS.iushr X41.here hx rfl (hb hby at_305) rfl ?_
    show Steps p.tables e below (T41.setTop (mkF m 306 #[.val (.int p1), .val (.int p2), .val (.int p3), .val (.int p4), .val (.int p5), .val (.int p6), .val (.int k6), .val (.int k7), .val (.int k8), .val (.int k9), .val (.int k10), .val (.int k11), .val (.int (((p4.toUInt32 >>> ((8 : Int32) &&& 31).toUInt32).toInt32) % (3 : Int32))), .val (.ref wP), .val (.ref b15), .val (.ref b20), .val (.ref b21), .val (.ref b30), .val (.ref b35), .val (.ref b38), .unset, .unset, .unset] [(.int ((p4.toUInt32 >>> ((16 : Int32) &&& 31).toUInt32).toInt32))])) _
    refine XS.sipush X41.here hx rfl (hb hby at_306) ?_
    show Steps p.tables e below (T41.setTop (mkF m 309 #[.val (.int p1), .val (.int p2), .val (.int p3), .val (.int p4), .val (.int p5), .val (.int p6), .val (.int k6), .val (.int k7), .val (.int k8), .val (.int k9), .val (.int k10), .val (.int k11), .val (.int (((p4.toUInt32 >>> ((8 : Int32) &&& 31).toUInt32).toInt32) % (3 : Int32))), .val (.ref wP), .val (.ref b15), .val (.ref b20), .val (.ref b21), .val (.ref b30), .val (.ref b35), .val (.ref b38), .unset, .unset, .unset] [(.int (255 : Int32)), (.int ((p4.toUInt32 >>> ((16 : Int32) &&& 31).toUInt32).toInt32))])) _
    refine XS.iand X41.here hx rfl (hb hby at_309) rfl ?_
    show Steps p.tables e below (T41.setTop (mkF m 310 #[.val (.int p1), .val (.int p2), .val (.int p3), .val (.int p4), .val (.int p5), .val (.int p6), .val (.int k6), .val (.int k7), .val (.int k8), .val (.int k9), .val (.int k10), .val (.int k11), .val (.int (((p4.toUInt32 >>> ((8 : Int32) &&& 31).toUInt32).toInt32) % (3 : Int32))), .val (.ref wP), .val (.ref b15), .val (.ref b20), .val (.ref b21), .val (.ref b30), .val (.ref b35), .val (.ref b38), .unset, .unset, .unset] [(.int (((p4.toUInt32 >>> ((16 : Int32) &&& 31).toUInt32).toInt32) &&& (255 : Int32)))])) _
    refine XS.i2c X41.here hx rfl (hb hby at_310) rfl ?_
    show Steps p.tables e below (T41.setTop (mkF m 311 #[.val (.int p1), .val (.int p2), .val (.int p3), .val (.int p4), .val (.int p5), .val (.int p6), .val (.int k6), .val (.int k7), .val (.int k8), .val (.int k9), .val (.int k10), .val (.int k11), .val (.int (((p4.toUInt32 >>> ((8 : Int32) &&& 31).toUInt32).toInt32) % (3 : Int32))), .val (.ref wP), .val (.ref b15), .val (.ref b20), .val (.ref b21), .val (.ref b30), .val (.ref b35), .val (.ref b38), .unset, .unset, .unset] [(.int ((((p4.toUInt32 >>> ((16 : Int32) &&& 31).toUInt32).toInt32) &&& (255 : Int32)).toUInt32.toUInt16.toUInt32.toInt32))])) _
    refine st44 _ ?_
    show Steps p.tables e below (T44.setTop (mkF m 314 #[.val (.int p1), .val (.int p2), .val (.int p3), .val (.int p4), .val (.int p5), .val (.int p6), .val (.int k6), .val (.int k7), .val (.int k8), .val (.int k9), .val (.int k10), .val (.int k11), .val (.int (((p4.toUInt32 >>> ((8 : Int32) &&& 31).toUInt32).toInt32) % (3 : Int32))), .val (.ref wP), .val (.ref b15), .val (.ref b20), .val (.ref b21), .val (.ref b30), .val (.ref b35), .val (.ref b38), .unset, .unset, .unset] [(.ref b45)])) _
    refine XS.astore X44.here hx rfl (hb hby at_314) rfl rfl (l' := #[.val (.int p1), .val (.int p2), .val (.int p3), .val (.int p4), .val (.int p5), .val (.int p6), .val (.int k6), .val (.int k7), .val (.int k8), .val (.int k9), .val (.int k10), .val (.int k11), .val (.int (((p4.toUInt32 >>> ((8 : Int32) &&& 31).toUInt32).toInt32) % (3 : Int32))), .val (.ref wP), .val (.ref b15), .val (.ref b20), .val (.ref b21), .val (.ref b30), .val (.ref b35), .val (.ref b38), .val (.ref b45), .unset, .unset]) rfl ?_
    show Steps p.tables e below (T44.setTop (mkF m 316 #[.val (.int p1), .val (.int p2), .val (.int p3), .val (.int p4), .val (.int p5), .val (.int p6), .val (.int k6), .val (.int k7), .val (.int k8), .val (.int k9), .val (.int k10), .val (.int k11), .val (.int (((p4.toUInt32 >>> ((8 : Int32) &&& 31).toUInt32).toInt32) % (3 : Int32))), .val (.ref wP), .val (.ref b15), .val (.ref b20), .val (.ref b21), .val (.ref b30), .val (.ref b35), .val (.ref b38), .val (.ref b45), .unset, .unset] [])) _
    refine st48 _ ?_
    show Steps p.tables e below (T48.setTop (mkF m 319 #[.val (.int p1), .val (.int p2), .val (.int p3), .val (.int p4), .val (.int p5), .val (.int p6), .val (.int k6), .val (.int k7), .val (.int k8), .val (.int k9), .val (.int k10), .val (.int k11), .val (.int (((p4.toUInt32 >>> ((8 : Int32) &&& 31).toUInt32).toInt32) % (3 : Int32))), .val (.ref wP), .val (.ref b15), .val (.ref b20), .val (.ref b21), .val (.ref b30), .val (.ref b35), .val (.ref b38), .val (.ref b45), .unset, .unset] [(.ref b48)])) _
    refine XS.dup X48.here hx rfl (hb hby at_319) rfl rfl ?_
    show Steps p.tables e below (T48.setTop (mkF m 320 #[.val (.int p1), .val (.int p2), .val (.int p3), .val (.int p4), .val (.int p5), .val (.int p6), .val (.int k6), .val (.int k7), .val (.int k8), .val (.int k9), .val (.int k10), .val (.int k11), .val (.int (((p4.toUInt32 >>> ((8 : Int32) &&& 31).toUInt32).toInt32) % (3 : Int32))), .val (.ref wP), .val (.ref b15), .val (.ref b20), .val (.ref b21), .val (.ref b30), .val (.ref b35), .val (.ref b38), .val (.ref b45), .unset, .unset] [(.ref b48), (.ref b48)])) _
    refine XS.iloadN X48.here hx rfl (hb hby at_320) rfl ?_
    show Steps p.tables e below (T48.setTop (mkF m 321 #[.val (.int p1), .val (.int p2), .val (.int p3), .val (.int p4), .val (.int p5), .val (.int p6), .val (.int k6), .val (.int k7), .val (.int k8), .val (.int k9), .val (.int k10), .val (.int k11), .val (.int (((p4.toUInt32 >>> ((8 : Int32) &&& 31).toUInt32).toInt32) % (3 : Int32))), .val (.ref wP), .val (.ref b15), .val (.ref b20), .val (.ref b21), .val (.ref b30), .val (.ref b35), .val (.ref b38), .val (.ref b45), .unset, .unset] [(.int p1), (.ref b48), (.ref b48)])) _
    refine XS.aload X48.here hx rfl (hb hby at_321) rfl rfl ?_
    show Steps p.tables e below (T48.setTop (mkF m 323 #[.val (.int p1), .val (.int p2), .val (.int p3), .val (.int p4), .val (.int p5), .val (.int p6), .val (.int k6), .val (.int k7), .val (.int k8), .val (.int k9), .val (.int k10), .val (.int k11), .val (.int (((p4.toUInt32 >>> ((8 : Int32) &&& 31).toUInt32).toInt32) % (3 : Int32))), .val (.ref wP), .val (.ref b15), .val (.ref b20), .val (.ref b21), .val (.ref b30), .val (.ref b35), .val (.ref b38), .val (.ref b45), .unset, .unset] [(.ref b45), (.int p1), (.ref b48), (.ref b48)])) _
    refine st51 _ ?_
    show Steps p.tables e below (T51.setTop (mkF m 325 #[.val (.int p1), .val (.int p2), .val (.int p3), .val (.int p4), .val (.int p5), .val (.int p6), .val (.int k6), .val (.int k7), .val (.int k8), .val (.int k9), .val (.int k10), .val (.int k11), .val (.int (((p4.toUInt32 >>> ((8 : Int32) &&& 31).toUInt32).toInt32) % (3 : Int32))), .val (.ref wP), .val (.ref b15), .val (.ref b20), .val (.ref b21), .val (.ref b30), .val (.ref b35), .val (.ref b38), .val (.ref b45), .unset, .unset] [(.ref b51), (.ref b45), (.int p1), (.ref b48), (.ref b48)])) _
    refine XS.aconstNull X51.here hx rfl (hb hby at_325) ?_
    show Steps p.tables e below (T51.setTop (mkF m 326 #[.val (.int p1), .val (.int p2), .val (.int p3), .val (.int p4), .val (.int p5), .val (.int p6), .val (.int k6), .val (.int k7), .val (.int k8), .val (.int k9), .val (.int k10), .val (.int k11), .val (.int (((p4.toUInt32 >>> ((8 : Int32) &&& 31).toUInt32).toInt32) % (3 : Int32))), .val (.ref wP), .val (.ref b15), .val (.ref b20), .val (.ref b21), .val (.ref b30), .val (.ref b35), .val (.ref b38), .val (.ref b45), .unset, .unset] [.null, (.ref b51), (.ref b45), (.int p1), (.ref b48), (.ref b48)])) _
    refine XS.iload X51.here hx rfl (hb hby at_326) rfl ?_
    show Steps p.tables e below (T51.setTop (mkF m 328 #[.val (.int p1), .val (.int p2), .val (.int p3), .val (.int p4), .val (.int p5), .val (.int p6), .val (.int k6), .val (.int k7), .val (.int k8), .val (.int k9), .val (.int k10), .val (.int k11), .val (.int (((p4.toUInt32 >>> ((8 : Int32) &&& 31).toUInt32).toInt32) % (3 : Int32))), .val (.ref wP), .val (.ref b15), .val (.ref b20), .val (.ref b21), .val (.ref b30), .val (.ref b35), .val (.ref b38), .val (.ref b45), .unset, .unset] [(.int p5), .null, (.ref b51), (.ref b45), (.int p1), (.ref b48), (.ref b48)])) _
    refine XS.aload X51.here hx rfl (hb hby at_328) rfl rfl ?_
    show Steps p.tables e below (T51.setTop (mkF m 330 #[.val (.int p1), .val (.int p2), .val (.int p3), .val (.int p4), .val (.int p5), .val (.int p6), .val (.int k6), .val (.int k7), .val (.int k8), .val (.int k9), .val (.int k10), .val (.int k11), .val (.int (((p4.toUInt32 >>> ((8 : Int32) &&& 31).toUInt32).toInt32) % (3 : Int32))), .val (.ref wP), .val (.ref b15), .val (.ref b20), .val (.ref b21), .val (.ref b30), .val (.ref b35), .val (.ref b38), .val (.ref b45), .unset, .unset] [(.ref wP), (.int p5), .null, (.ref b51), (.ref b45), (.int p1), (.ref b48), (.ref b48)])) _
    refine XS.aconstNull X51.here hx rfl (hb hby at_330) ?_
    show Steps p.tables e below (T51.setTop (mkF m 331 #[.val (.int p1), .val (.int p2), .val (.int p3), .val (.int p4), .val (.int p5), .val (.int p6), .val (.int k6), .val (.int k7), .val (.int k8), .val (.int k9), .val (.int k10), .val (.int k11), .val (.int (((p4.toUInt32 >>> ((8 : Int32) &&& 31).toUInt32).toInt32) % (3 : Int32))), .val (.ref wP), .val (.ref b15), .val (.ref b20), .val (.ref b21), .val (.ref b30), .val (.ref b35), .val (.ref b38), .val (.ref b45), .unset, .unset] [.null, (.ref wP), (.int p5), .null, (.ref b51), (.ref b45), (.int p1), (.ref b48), (.ref b48)])) _
    refine XS.aload X51.here hx rfl (hb hby at_331) rfl rfl ?_
    show Steps p.tables e below (T51.setTop (mkF m 333 #[.val (.int p1), .val (.int p2), .val (.int p3), .val (.int p4), .val (.int p5), .val (.int p6), .val (.int k6), .val (.int k7), .val (.int k8), .val (.int k9), .val (.int k10), .val (.int k11), .val (.int (((p4.toUInt32 >>> ((8 : Int32) &&& 31).toUInt32).toInt32) % (3 : Int32))), .val (.ref wP), .val (.ref b15), .val (.ref b20), .val (.ref b21), .val (.ref b30), .val (.ref b35), .val (.ref b38), .val (.ref b45), .unset, .unset] [(.ref b38), .null, (.ref wP), (.int p5), .null, (.ref b51), (.ref b45), (.int p1), (.ref b48), (.ref b48)])) _
    refine XS.aload X51.here hx rfl (hb hby at_333) rfl rfl ?_
    show Steps p.tables e below (T51.setTop (mkF m 335 #[.val (.int p1), .val (.int p2), .val (.int p3), .val (.int p4), .val (.int p5), .val (.int p6), .val (.int k6), .val (.int k7), .val (.int k8), .val (.int k9), .val (.int k10), .val (.int k11), .val (.int (((p4.toUInt32 >>> ((8 : Int32) &&& 31).toUInt32).toInt32) % (3 : Int32))), .val (.ref wP), .val (.ref b15), .val (.ref b20), .val (.ref b21), .val (.ref b30), .val (.ref b35), .val (.ref b38), .val (.ref b45), .unset, .unset] [(.ref b30), (.ref b38), .null, (.ref wP), (.int p5), .null, (.ref b51), (.ref b45), (.int p1), (.ref b48), (.ref b48)])) _
    refine XS.aload X51.here hx rfl (hb hby at_335) rfl rfl ?_
    show Steps p.tables e below (T51.setTop (mkF m 337 #[.val (.int p1), .val (.int p2), .val (.int p3), .val (.int p4), .val (.int p5), .val (.int p6), .val (.int k6), .val (.int k7), .val (.int k8), .val (.int k9), .val (.int k10), .val (.int k11), .val (.int (((p4.toUInt32 >>> ((8 : Int32) &&& 31).toUInt32).toInt32) % (3 : Int32))), .val (.ref wP), .val (.ref b15), .val (.ref b20), .val (.ref b21), .val (.ref b30), .val (.ref b35), .val (.ref b38), .val (.ref b45), .unset, .unset] [(.ref b15), (.ref b30), (.ref b38), .null, (.ref wP), (.int p5), .null, (.ref b51), (.ref b45), (.int p1), (.ref b48), (.ref b48)])) _
    refine XS.iloadN X51.here hx rfl (hb hby at_337) rfl ?_
    show Steps p.tables e below (T51.setTop (mkF m 338 #[.val (.int p1), .val (.int p2), .val (.int p3), .val (.int p4), .val (.int p5), .val (.int p6), .val (.int k6), .val (.int k7), .val (.int k8), .val (.int k9), .val (.int k10), .val (.int k11), .val (.int (((p4.toUInt32 >>> ((8 : Int32) &&& 31).toUInt32).toInt32) % (3 : Int32))), .val (.ref wP), .val (.ref b15), .val (.ref b20), .val (.ref b21), .val (.ref b30), .val (.ref b35), .val (.ref b38), .val (.ref b45), .unset, .unset] [(.int p2), (.ref b15), (.ref b30), (.ref b38), .null, (.ref wP), (.int p5), .null, (.ref b51), (.ref b45), (.int p1), (.ref b48), (.ref b48)])) _
    refine XS.aload X51.here hx rfl (hb hby at_338) rfl rfl ?_
    show Steps p.tables e below (T51.setTop (mkF m 340 #[.val (.int p1), .val (.int p2), .val (.int p3), .val (.int p4), .val (.int p5), .val (.int p6), .val (.int k6), .val (.int k7), .val (.int k8), .val (.int k9), .val (.int k10), .val (.int k11), .val (.int (((p4.toUInt32 >>> ((8 : Int32) &&& 31).toUInt32).toInt32) % (3 : Int32))), .val (.ref wP), .val (.ref b15), .val (.ref b20), .val (.ref b21), .val (.ref b30), .val (.ref b35), .val (.ref b38), .val (.ref b45), .unset, .unset] [(.ref b20), (.int p2), (.ref b15), (.ref b30), (.ref b38), .null, (.ref wP), (.int p5), .null, (.ref b51), (.ref b45), (.int p1), (.ref b48), (.ref b48)])) _
    refine XS.aload X51.here hx rfl (hb hby at_340) rfl rfl ?_
    show Steps p.tables e below (T51.setTop (mkF m 342 #[.val (.int p1), .val (.int p2), .val (.int p3), .val (.int p4), .val (.int p5), .val (.int p6), .val (.int k6), .val (.int k7), .val (.int k8), .val (.int k9), .val (.int k10), .val (.int k11), .val (.int (((p4.toUInt32 >>> ((8 : Int32) &&& 31).toUInt32).toInt32) % (3 : Int32))), .val (.ref wP), .val (.ref b15), .val (.ref b20), .val (.ref b21), .val (.ref b30), .val (.ref b35), .val (.ref b38), .val (.ref b45), .unset, .unset] [(.ref b21), (.ref b20), (.int p2), (.ref b15), (.ref b30), (.ref b38), .null, (.ref wP), (.int p5), .null, (.ref b51), (.ref b45), (.int p1), (.ref b48), (.ref b48)])) _
    refine XS.iloadN X51.here hx rfl (hb hby at_342) rfl ?_
    show Steps p.tables e below (T51.setTop (mkF m 343 #[.val (.int p1), .val (.int p2), .val (.int p3), .val (.int p4), .val (.int p5), .val (.int p6), .val (.int k6), .val (.int k7), .val (.int k8), .val (.int k9), .val (.int k10), .val (.int k11), .val (.int (((p4.toUInt32 >>> ((8 : Int32) &&& 31).toUInt32).toInt32) % (3 : Int32))), .val (.ref wP), .val (.ref b15), .val (.ref b20), .val (.ref b21), .val (.ref b30), .val (.ref b35), .val (.ref b38), .val (.ref b45), .unset, .unset] [(.int p3), (.ref b21), (.ref b20), (.int p2), (.ref b15), (.ref b30), (.ref b38), .null, (.ref wP), (.int p5), .null, (.ref b51), (.ref b45), (.int p1), (.ref b48), (.ref b48)])) _
    refine XS.aload X51.here hx rfl (hb hby at_343) rfl rfl ?_
    show Steps p.tables e below (T51.setTop (mkF m 345 #[.val (.int p1), .val (.int p2), .val (.int p3), .val (.int p4), .val (.int p5), .val (.int p6), .val (.int k6), .val (.int k7), .val (.int k8), .val (.int k9), .val (.int k10), .val (.int k11), .val (.int (((p4.toUInt32 >>> ((8 : Int32) &&& 31).toUInt32).toInt32) % (3 : Int32))), .val (.ref wP), .val (.ref b15), .val (.ref b20), .val (.ref b21), .val (.ref b30), .val (.ref b35), .val (.ref b38), .val (.ref b45), .unset, .unset] [(.ref b35), (.int p3), (.ref b21), (.ref b20), (.int p2), (.ref b15), (.ref b30), (.ref b38), .null, (.ref wP), (.int p5), .null, (.ref b51), (.ref b45), (.int p1), (.ref b48), (.ref b48)])) _
    refine st70.trans ?_
    show Steps p.tables e below (T70.setTop (mkF m 348 #[.val (.int p1), .val (.int p2), .val (.int p3), .val (.int p4), .val (.int p5), .val (.int p6), .val (.int k6), .val (.int k7), .val (.int k8), .val (.int k9), .val (.int k10), .val (.int k11), .val (.int (((p4.toUInt32 >>> ((8 : Int32) &&& 31).toUInt32).toInt32) % (3 : Int32))), .val (.ref wP), .val (.ref b15), .val (.ref b20), .val (.ref b21), .val (.ref b30), .val (.ref b35), .val (.ref b38), .val (.ref b45), .unset, .unset] [(.ref b48)])) _
    refine XS.astore X70.here hx rfl (hb hby at_348) rfl rfl (l' := #[.val (.int p1), .val (.int p2), .val (.int p3), .val (.int p4), .val (.int p5), .val (.int p6), .val (.int k6), .val (.int k7), .val (.int k8), .val (.int k9), .val (.int k10), .val (.int k11), .val (.int (((p4.toUInt32 >>> ((8 : Int32) &&& 31).toUInt32).toInt32) % (3 : Int32))), .val (.ref wP), .val (.ref b15), .val (.ref b20), .val (.ref b21), .val (.ref b30), .val (.ref b35), .val (.ref b38), .val (.ref b45), .val (.ref b48), .unset]) rfl ?_
    show Steps p.tables e below (T70.setTop (mkF m 350 #[.val (.int p1), .val (.int p2), .val (.int p3), .val (.int p4), .val (.int p5), .val (.int p6), .val (.int k6), .val (.int k7), .val (.int k8), .val (.int k9), .val (.int k10), .val (.int k11), .val (.int (((p4.toUInt32 >>> ((8 : Int32) &&& 31).toUInt32).toInt32) % (3 : Int32))), .val (.ref wP), .val (.ref b15), .val (.ref b20), .val (.ref b21), .val (.ref b30), .val (.ref b35), .val (.ref b38), .val (.ref b45), .val (.ref b48), .unset] [])) _
    refine st73 _ ?_
    show Steps p.tables e below (T73.setTop (mkF m 376 #[.val (.int p1), .val (.int p2), .val (.int p3), .val (.int p4), .val (.int p5), .val (.int p6), .val (.int k6), .val (.int k7), .val (.int k8), .val (.int k9), .val (.int k10), .val (.int k11), .val (.int (((p4.toUInt32 >>> ((8 : Int32) &&& 31).toUInt32).toInt32) % (3 : Int32))), .val (.ref wP), .val (.ref b15), .val (.ref b20), .val (.ref b21), .val (.ref b30), .val (.ref b35), .val (.ref b38), .val (.ref b45), .val (.ref b48), .val (.int v22)] [])) _
    refine XS.aload X73.here hx rfl (hb hby at_376) rfl rfl ?_
    show Steps p.tables e below (T73.setTop (mkF m 378 #[.val (.int p1), .val (.int p2), .val (.int p3), .val (.int p4), .val (.int p5), .val (.int p6), .val (.int k6), .val (.int k7), .val (.int k8), .val (.int k9), .val (.int k10), .val (.int k11), .val (.int (((p4.toUInt32 >>> ((8 : Int32) &&& 31).toUInt32).toInt32) % (3 : Int32))), .val (.ref wP), .val (.ref b15), .val (.ref b20), .val (.ref b21), .val (.ref b30), .val (.ref b35), .val (.ref b38), .val (.ref b45), .val (.ref b48), .val (.int v22)] [(.ref b48)])) _
    refine st80.trans ?_
    show Steps p.tables e below (T80.setTop (mkF m 381 #[.val (.int p1), .val (.int p2), .val (.int p3), .val (.int p4), .val (.int p5), .val (.int p6), .val (.int k6), .val (.int k7), .val (.int k8), .val (.int k9), .val (.int k10), .val (.int k11), .val (.int (((p4.toUInt32 >>> ((8 : Int32) &&& 31).toUInt32).toInt32) % (3 : Int32))), .val (.ref wP), .val (.ref b15), .val (.ref b20), .val (.ref b21), .val (.ref b30), .val (.ref b35), .val (.ref b38), .val (.ref b45), .val (.ref b48), .val (.int v22)] [(.int v22)])) _
    refine XS.iload X80.here hx rfl (hb hby at_381) rfl ?_
    show Steps p.tables e below (T80.setTop (mkF m 383 #[.val (.int p1), .val (.int p2), .val (.int p3), .val (.int p4), .val (.int p5), .val (.int p6), .val (.int k6), .val (.int k7), .val (.int k8), .val (.int k9), .val (.int k10), .val (.int k11), .val (.int (((p4.toUInt32 >>> ((8 : Int32) &&& 31).toUInt32).toInt32) % (3 : Int32))), .val (.ref wP), .val (.ref b15), .val (.ref b20), .val (.ref b21), .val (.ref b30), .val (.ref b35), .val (.ref b38), .val (.ref b45), .val (.ref b48), .val (.int v22)] [(.int v22), (.int v22)])) _
    refine XS.icmpNo X80.here hx rfl (hb hby at_383) rfl (teq (rfl : v22 = v22)).2 ?_
    show Steps p.tables e below (T80.setTop (mkF m 386 #[.val (.int p1), .val (.int p2), .val (.int p3), .val (.int p4), .val (.int p5), .val (.int p6), .val (.int k6), .val (.int k7), .val (.int k8), .val (.int k9), .val (.int k10), .val (.int k11), .val (.int (((p4.toUInt32 >>> ((8 : Int32) &&& 31).toUInt32).toInt32) % (3 : Int32))), .val (.ref wP), .val (.ref b15), .val (.ref b20), .val (.ref b21), .val (.ref b30), .val (.ref b35), .val (.ref b38), .val (.ref b45), .val (.ref b48), .val (.int v22)] [])) _
    refine XS.iconst X80.here hx rfl (hb hby at_386) ?_
    show Steps p.tables e below (T80.setTop (mkF m 387 #[.val (.int p1), .val (.int p2), .val (.int p3), .val (.int p4), .val (.int p5), .val (.int p6), .val (.int k6), .val (.int k7), .val (.int k8), .val (.int k9), .val (.int k10), .val (.int k11), .val (.int (((p4.toUInt32 >>> ((8 : Int32) &&& 31).toUInt32).toInt32) % (3 : Int32))), .val (.ref wP), .val (.ref b15), .val (.ref b20), .val (.ref b21), .val (.ref b30), .val (.ref b35), .val (.ref b38), .val (.ref b45), .val (.ref b48), .val (.int v22)] [(.int (1 : Int32))])) _
    refine XS.goto X80.here hx rfl (pc0 := 387) (pc' := 391) rfl (hb hby at_387) (by decide) (by decide) ?_
    show Steps p.tables e below (T80.setTop (mkF m 391 #[.val (.int p1), .val (.int p2), .val (.int p3), .val (.int p4), .val (.int p5), .val (.int p6), .val (.int k6), .val (.int k7), .val (.int k8), .val (.int k9), .val (.int k10), .val (.int k11), .val (.int (((p4.toUInt32 >>> ((8 : Int32) &&& 31).toUInt32).toInt32) % (3 : Int32))), .val (.ref wP), .val (.ref b15), .val (.ref b20), .val (.ref b21), .val (.ref b30), .val (.ref b35), .val (.ref b38), .val (.ref b45), .val (.ref b48), .val (.int v22)] [(.int (1 : Int32))])) _
    exact retN X80 hx (t := .boolean) Bd.returns (by simp) (hb hby at_391) hr
  · skip
    exact ⟨rfl, N80⟩
theorem own_cache {s : State} {args : Array Value} {C f d E : String} {P : Jvm.Cond} (h2 : (Jvm.Cond.arrayOf (.static C f d) (.object E)).value args s none s [] = some true) (h4 : (Jvm.Cond.eq (.length (.static C f d)) (.int 256)).value args s none s [] = some true) (h5 : (Jvm.Cond.all (.static C f d) (.and (.exactly (.elem (.static C f d) (.index 0)) E) P)).value args s none s [] = some true) :
    ∃ (w : Addr) (cl : Cell), (Term.static C f d).eval args s none [] s = some (.ref w) ∧ Arr s s.heap w cl (.object E) ∧ ∀ j : Int32, ¬ j < 0 → j < 256 → ¬ (j < 0 ∨ cl.slots.size ≤ j.toNatClampNeg) ∧ ∃ y, cl.slots[j.toNatClampNeg]? = some (.ref y) ∧ Exa s s.heap y E := by
  obtain ⟨w, ew⟩ := arr_v h2
  obtain ⟨cl, A⟩ := Arr.start ew h2
  obtain ⟨w', cl', e1, e2, e3⟩ := Term.length_spec (own_eqv h4)
  cases ew.symm.trans e1
  obtain rfl : cl = cl' := Option.some.inj (A.1.symm.trans (State.arrayAt?_spec e2).1)
  have hsz : 256 ≤ cl.slots.size := by
    have q : (256 : Int32) = cl.slots.size.toInt32 := by injection e3
    apply Classical.byContradiction
    intro h
    have q2 : ∀ k : Fin 256, ¬ (256 : Int32) = (k.1).toInt32 := by decide +kernel
    exact q2 ⟨cl.slots.size, by omega⟩ q
  refine ⟨w, cl, ew, A, fun j j0 j1 => ?_⟩
  have hj : j.toNatClampNeg < 256 := by
    have h := nat_of j0
    rw [Int32.lt_iff_toInt_lt, show (256 : Int32).toInt = 256 from rfl] at j1
    omega
  refine ⟨fun q => q.elim j0 fun q => by omega, ?_⟩
  have h6 := Cond.all_elim ew e2 h5 j.toNatClampNeg (by omega)
  obtain ⟨h7, -⟩ := and_e h6
  obtain ⟨y, c', cell, k, f1, f2, f3, f4, f5, rfl, f7⟩ := Cond.exactly_spec (beq_iff_eq.mpr h7 : (Jvm.Cond.exactly _ _).holds args s none s [j.toNatClampNeg] = true)
  have ei : (Term.index 0).eval args s none [j.toNatClampNeg] s = some (.int j) := by simp [Term.eval, (back32 j0).1]
  have ew' : (Term.static C f d).eval args s none [j.toNatClampNeg] s = some (.ref w) := ew
  exact ⟨y, (elem_in f1 ew' ei A.1).2, cell, k, f3, f2, f4, f5, f7⟩
theorem own_arr0 {s : State} {args : Array Value} {t : Term} {ty : FieldType} {dv : Value} (hf : Fit s) (h2 : (Jvm.Cond.arrayOf t ty).value args s none s [] = some true) (h4 : (Jvm.Cond.eq (.length t) (.int 0)).value args s none s [] = some true) :
    ∃ (w : Addr) (k : ClassId), t.eval args s none [] s = some (.ref w) ∧ Arv s s.heap w k ty 0 [] dv := by
  obtain ⟨w, ew⟩ := arr_v h2
  obtain ⟨cl, A⟩ := Arr.start ew h2
  have e := own_eqv h4
  obtain ⟨w', cl', e1, e2, e3⟩ := Term.length_spec e
  cases ew.symm.trans e1
  obtain rfl : cl = cl' := Option.some.inj (A.1.symm.trans (State.arrayAt?_spec e2).1)
  have hlt : cl.slots.size < 2 ^ 31 := by
    apply Classical.byContradiction
    intro q
    simp [Term.eval, ew, e2, q] at e
  have hz : cl.slots.size.toInt32 = 0 := by injection e3 with q; exact q.symm
  exact ⟨w, cl.cls, ew, Arv.start hf A hlt hz (by decide) rfl trivial⟩
theorem own_sz {z k : Int32} (h : z = if k = (0 : Int32) then (0 : Int32) else (1 : Int32)) : z = 0 ↔ k = 0 := by
  by_cases q : k = 0
  · rw [if_pos q] at h; exact ⟨fun _ => q, fun _ => h⟩
  · rw [if_neg q] at h; exact ⟨fun r => absurd (h.symm.trans r) (by decide), fun r => absurd r q⟩
set_option maxRecDepth 65536 in
set_option maxHeartbeats 40000000 in
theorem comes_1 {Post : Tables → Env → Array Value → State → Outcome → State → Prop} (hpost : ∀ tb e args s v u, (limb_1_1.after args s (.returned v) u = true ∧ limb_1_2.after args s (.returned v) u = true ∧ True) → ReturnedEndW s (.returned v) u (Jvm.fieldLocs frame_1_writes args s ++ Jvm.arrayLocs frame_1_arrays args s ++ Jvm.staticLocs frame_1_statics s) 56 1344 → Post tb e args s (.returned v) u) :
    ArmFor flags0 classFile x code maxLocals ret World_1 tables_1 room_1 Calls_1 rest_1 Pre_1 Post := by
  intro l hfl _ _ p e ha hcc hk s m args below hf hA hF happ hP
  obtain ⟨hcalls, hrest, hpre⟩ := hP
  obtain ⟨-, -, -, hnamed, -, -, -, hat⟩ := (Spec.applies_iff hf).mp happ
  obtain ⟨hg, hn⟩ := and_e (Cond.before_iff.mp (show (Jvm.Cond.and given_1 narrow_1).before args s = true from hpre))
  obtain ⟨hcount, gg0⟩ := and_e hg
  obtain ⟨ga0, gg1⟩ := and_e gg0
  obtain ⟨ga1, gg2⟩ := and_e gg1
  obtain ⟨ga2, gg3⟩ := and_e gg2
  obtain ⟨ga3, gg4⟩ := and_e gg3
  obtain ⟨ga4, gg5⟩ := and_e gg4
  obtain ⟨w0, w1, w2, w3, w4, w5, rfl⟩ : ∃ w0 w1 w2 w3 w4 w5 : Value, args = #[w0, w1, w2, w3, w4, w5] := by
    have hs : args.size = 6 := by simpa [Cond.value, given_1] using hcount
    obtain ⟨L⟩ := args
    match L, hs with
    | [w0, w1, w2, w3, w4, w5], _ => exact ⟨w0, w1, w2, w3, w4, w5, rfl⟩
  have hw := fun d (hd : d ∈ tables_1) => atoms_spec (ws := Jvm.Cond.code x code maxLocals ret :: tables_1) hat d (List.mem_cons_of_mem _ hd)
  have hfit : Fit s := fun {y c} hc i hi => by
    obtain ⟨ha, rfl⟩ := Array.getElem?_eq_some_iff.mp hc
    have q := List.all_eq_true.mp ((Array.all_eq_true_iff_forall_mem.mp hF) _ (Array.getElem_mem ha)) i (List.mem_range.mpr hi)
    simpa [Array.getElem?_eq_getElem hi] using q
  obtain ⟨hsets, hown0⟩ := atoms_of _ (rest_1_c_eq ▸ (show rest_1_c.before _ s = true from hrest))
  have hr0 := Cond.before_iff.mp hown0
  obtain ⟨i0, ei0⟩ := is_v ga0
  obtain rfl : w0 = (.int i0) := Option.some.inj ei0
  obtain ⟨i1, ei1⟩ := is_v ga1
  obtain rfl : w1 = (.int i1) := Option.some.inj ei1
  obtain ⟨i2, ei2⟩ := is_v ga2
  obtain rfl : w2 = (.int i2) := Option.some.inj ei2
  obtain ⟨i3, ei3⟩ := is_v ga3
  obtain rfl : w3 = (.int i3) := Option.some.inj ei3
  obtain ⟨i4, ei4⟩ := is_v ga4
  obtain rfl : w4 = (.int i4) := Option.some.inj ei4
  obtain ⟨i5, ei5⟩ := is_v gg5
  obtain rfl : w5 = (.int i5) := Option.some.inj ei5
  obtain ⟨kR, hn⟩ := and_e hn
  obtain ⟨kO, kC⟩ := and_e hn
  obtain ⟨wR, eR⟩ := exa_v kR
  obtain ⟨wO, eO⟩ := exa_v kO
  obtain ⟨wC, eC⟩ := exa_v kC
  have SR : Sta s s.heap "com/example/mirante/mirante/FieldDef$Presence" "REQUIRED" "Lcom/example/mirante/mirante/FieldDef$Presence;" (.ref wR) := Sta.start eR (Or.inr ⟨(hw _ (List.mem_of_getElem? (i := 1) rfl)), (hw _ (List.mem_of_getElem? (i := 2) rfl))⟩)
  have SO : Sta s s.heap "com/example/mirante/mirante/FieldDef$Presence" "OPTIONAL" "Lcom/example/mirante/mirante/FieldDef$Presence;" (.ref wO) := Sta.start eO (Or.inr ⟨(hw _ (List.mem_of_getElem? (i := 1) rfl)), (hw _ (List.mem_of_getElem? (i := 166) rfl))⟩)
  have SC : Sta s s.heap "com/example/mirante/mirante/FieldDef$Presence" "CONDITIONAL" "Lcom/example/mirante/mirante/FieldDef$Presence;" (.ref wC) := Sta.start eC (Or.inr ⟨(hw _ (List.mem_of_getElem? (i := 1) rfl)), (hw _ (List.mem_of_getElem? (i := 184) rfl))⟩)
  obtain ⟨wD, kD, eD, VD⟩ := own_arr0 (dv := .null) hfit (Cond.before_iff.mp (hsets _ (List.mem_of_getElem? (i := 6) rfl))) (Cond.before_iff.mp (hsets _ (List.mem_of_getElem? (i := 8) rfl)))
  have SD : Sta s s.heap "java/util/ArrayList" "DEFAULTCAPACITY_EMPTY_ELEMENTDATA" "[Ljava/lang/Object;" (.ref wD) := Sta.start eD (Or.inr ⟨(hw _ (List.mem_of_getElem? (i := 5) rfl)), hsets _ (List.mem_of_getElem? (i := 2) rfl)⟩)
  obtain ⟨zC, ez, hz⟩ := own_compact (Cond.before_iff.mp (hsets _ (List.mem_of_getElem? (i := 10) rfl))) (Cond.before_iff.mp (hsets _ (List.mem_of_getElem? (i := 11) rfl)))
  have SZ : Sta s s.heap "java/lang/String" "COMPACT_STRINGS" "Z" (.int zC) := Sta.start ez (Or.inl (hsets _ (List.mem_of_getElem? (i := 9) rfl)))
  have SH : Sta s s.heap "java/lang/Integer$IntegerCache" "high" "I" (.int (127 : Int32)) := Sta.start (own_eqv (Cond.before_iff.mp (hsets _ (List.mem_of_getElem? (i := 21) rfl)))) (Or.inl (hsets _ (List.mem_of_getElem? (i := 19) rfl)))
  obtain ⟨wI, clI, eI, AI, hA⟩ := own_cache (Cond.before_iff.mp (hsets _ (List.mem_of_getElem? (i := 22) rfl))) (Cond.before_iff.mp (hsets _ (List.mem_of_getElem? (i := 24) rfl))) (Cond.before_iff.mp (hsets _ (List.mem_of_getElem? (i := 25) rfl)))
  have SCa : Sta s s.heap "java/lang/Integer$IntegerCache" "cache" "[Ljava/lang/Integer;" (.ref wI) := Sta.start eI (Or.inr ⟨(hw _ (List.mem_of_getElem? (i := 150) rfl)), hsets _ (List.mem_of_getElem? (i := 20) rfl)⟩)
  obtain ⟨k6, hk6⟩ : ∃ k : Int32, k = if (i3 &&& (1 : Int32)) = (0 : Int32) then (0 : Int32) else (1 : Int32) := ⟨_, rfl⟩
  obtain ⟨k7, hk7⟩ : ∃ k : Int32, k = if (i3 &&& (2 : Int32)) = (0 : Int32) then (0 : Int32) else (1 : Int32) := ⟨_, rfl⟩
  obtain ⟨k8, hk8⟩ : ∃ k : Int32, k = if (i3 &&& (4 : Int32)) = (0 : Int32) then (0 : Int32) else (1 : Int32) := ⟨_, rfl⟩
  obtain ⟨k9, hk9⟩ : ∃ k : Int32, k = if (i3 &&& (8 : Int32)) = (0 : Int32) then (0 : Int32) else (1 : Int32) := ⟨_, rfl⟩
  obtain ⟨k10, hk10⟩ : ∃ k : Int32, k = if (i3 &&& (16 : Int32)) = (0 : Int32) then (0 : Int32) else (1 : Int32) := ⟨_, rfl⟩
  obtain ⟨k11, hk11⟩ : ∃ k : Int32, k = if (i3 &&& (32 : Int32)) = (0 : Int32) then (0 : Int32) else (1 : Int32) := ⟨_, rfl⟩
  obtain ⟨sz14, hsz14⟩ : ∃ k : Int32, k = if k6 = (0 : Int32) then (0 : Int32) else (1 : Int32) := ⟨_, rfl⟩
  obtain ⟨sz15, hsz15⟩ : ∃ k : Int32, k = if k7 = (0 : Int32) then (0 : Int32) else (1 : Int32) := ⟨_, rfl⟩
  obtain ⟨sz16, hsz16⟩ : ∃ k : Int32, k = if k8 = (0 : Int32) then (0 : Int32) else (1 : Int32) := ⟨_, rfl⟩
  obtain ⟨wP, hwP⟩ : ∃ w : Addr, w = if (((i3.toUInt32 >>> ((8 : Int32) &&& 31).toUInt32).toInt32) % (3 : Int32)) = (0 : Int32) then wR else if (((i3.toUInt32 >>> ((8 : Int32) &&& 31).toUInt32).toInt32) % (3 : Int32)) = (1 : Int32) then wO else wC := ⟨_, rfl⟩
  obtain ⟨v22, hv22⟩ : ∃ v : Int32, v = if ¬ k6 = (0 : Int32) ∨ (0 : Int32) < i1 ∨ ¬ k7 = (0 : Int32) ∨ ¬ k8 = (0 : Int32) then (1 : Int32) else (0 : Int32) := ⟨_, rfl⟩
  have hr22 : v22 = if ¬ sz14 = (0 : Int32) ∨ (0 : Int32) < i1 ∨ ¬ sz15 = (0 : Int32) ∨ ¬ sz16 = (0 : Int32) then (1 : Int32) else (0 : Int32) := by
    rw [hv22]; simp only [own_sz hsz14, own_sz hsz15, own_sz hsz16]
  have key : own_Met l s tables_1 #[(.int i0), (.int i1), (.int i2), (.int i3), (.int i4), (.int i5)] s.heap s.heap.size := by
    by_cases c11 : k11 = (0 : Int32)
    · exact rm0n l s _ hw tables_1 i0 i1 i2 i3 i4 i5 k6 k7 k8 k9 k10 k11 wR wO wC wP wD kD wI clI zC sz14 sz15 sz16 v22 s.heap s.heap.size (Old.start s) VD hk6 hk7 hk8 hk9 hk10 hk11 SR SO SC hwP SD hsz14 SH SCa AI hA hsz15 hsz16 SZ hz c11 hv22 hr22
    · exact rm0o l s _ hw tables_1 i0 i1 i2 i3 i4 i5 k6 k7 k8 k9 k10 k11 wR wO wC wP wD kD wI clI zC sz14 sz15 sz16 v22 s.heap s.heap.size (Old.start s) VD hk6 hk7 hk8 hk9 hk10 hk11 SR SO SC hwP SD hsz14 SH SCa AI hA hsz15 hsz16 SZ hz c11 hv22 hr22
  obtain ⟨n, o, h1, h2, h3, _, L, rfl, ⟨rfl, N⟩, hq⟩ := key p e ha hcc hk s m _ below hf ((Spec.applies_iff_loose hf).mp happ).1 ⟨rfl, State.Warmed39.refl s, rfl⟩ trivial
  refine ⟨n, _, h1, h2, h3, hpost _ _ _ _ _ _ ⟨Cond.after_iff.mpr rfl, Cond.after_iff.mpr (eq_i res_at (Term.int_eval (1)) rfl), trivial⟩ ⟨hq.1, hq.2.1, hq.2.2.1, (hq.2.2.2.sift fun y hy => Or.inr (N y hy)).mono (by decide) (by decide)⟩⟩
theorem main_1_1 : Claimed_1_1 := comes_1 fun _ _ _ _ _ _ h hF => ⟨h.1, hF⟩
theorem main_1_2 : Claimed_1_2 := comes_1 fun _ _ _ _ _ _ h hF => ⟨h.2.1, hF⟩
end Jvm.Pilot.@@N@@
namespace Jvm.Pilot.@@N@@
open Jvm Jvm.ClassFile Sem Op Lib Jvm.Free Jvm.Stand Jvm.Pilot.@@N@@.Jvm.D
/-! MADE BY PROGRAM (witnessworld.py) out of the Statement's table words and the real class files: 35 classes; the members and pool entries that the words name. The judged class is class 1, her method 1. -/
namespace start1
open Jvm.ClassFile
def u (s : String) : CpInfo := .utf8 (stringToUtf16 s)
/-- a pool by its gaps: so many unusable entries, then the entry; so many at the end -/
def gap : Nat → List CpInfo → List CpInfo
  | 0, r => r
  | n + 1, r => .unusable :: gap n r
def poolList (es : List (Nat × CpInfo)) (last : Nat) : List CpInfo := es.foldr (fun e r => gap e.1 (e.2 :: r)) (gap last [])
def pool (es : List (Nat × CpInfo)) (last : Nat) : Array CpInfo := ⟨poolList es last⟩
def fileOf (pool : Array CpInfo) (this : Nat) (attrs : Array Attribute := #[]) (ms : Array MethodInfo := #[]) (fl : Nat := 33) (sup : Nat := 0) (ifs : Array Nat := #[]) (fds : Array FieldInfo := #[]) : ClassFile where
  minorVersion := 0
  majorVersion := 65
  constantPool := pool
  accessFlags := fl
  thisClass := this
  superClass := sup
  interfaces := ifs
  fields := fds
  methods := ms
  attributes := attrs
def plain (name : String) (sup : Option ClassId) : Class where
  name := name
  kind := .ordinary
  loader := none
  accessFlags := 33
  super := sup
  interfaces := #[]
  cf := none
  fields := #[]
  methods := #[]
  instanceTypes := #[]
  staticTypes := #[]
  resolved := #[]
  callSites := []
  init := .initialized
  statics := none
  mirror := none

def pool0 : Array CpInfo := pool [(5, u "<init>"), (0, u "()V"), (1, .class_ 10), (1, u "java/lang/Object")] 113

def k0c0 : Code := { maxStack := 0, maxLocals := 1, code := object_method_1_code, exceptionTable := #[], attributes := #[] }
def k0m0 : Method := { name := "<init>", desc := "()V", sig := { parameters := [], returnType := none }, accessFlags := 1, code := some k0c0 }
/-- java/lang/Object -/
def k0 : Class := { plain "java/lang/Object" none with
  accessFlags := 33
  interfaces := #[]
  cf := some (fileOf pool0 8 #[] #[{ accessFlags := 1, nameIndex := 5, descriptorIndex := 6, attributes := #[] }] 33 0 #[] #[])
  fields := #[]
  methods := #[k0m0]
  instanceTypes := #[]
  staticTypes := #[]
  resolved := Array.replicate 124 none
  statics := none }

def pool1 : Array CpInfo := pool [(2, .class_ 4), (0, .nameAndType 5 6), (0, u "java/lang/Object"), (0, u "<init>"), (0, u "()V"), (0, .fieldref 8 9), (0, .class_ 10), (0, .nameAndType 11 12), (0, u "com/example/mirante/mirante/FieldDef$Presence"), (0, u "REQUIRED"), (0, u "Lcom/example/mirante/mirante/FieldDef$Presence;"), (0, .fieldref 8 14), (0, .nameAndType 15 12), (0, u "OPTIONAL"), (0, .fieldref 8 17), (0, .nameAndType 18 12), (0, u "CONDITIONAL"), (0, .class_ 20), (0, u "java/util/ArrayList"), (0, .methodref 19 3), (0, .interfaceMethodref 23 24), (0, .class_ 25), (0, .nameAndType 26 27), (0, u "java/util/List"), (0, u "add"), (0, u "(Ljava/lang/Object;)Z"), (0, .methodref 29 30), (0, .class_ 31), (0, .nameAndType 32 33), (0, u "java/lang/Integer"), (0, u "valueOf"), (0, u "(I)Ljava/lang/Integer;"), (0, .methodref 35 36), (0, .class_ 37), (0, .nameAndType 32 38), (0, u "java/lang/String"), (0, u "(C)Ljava/lang/String;"), (0, .class_ 40), (0, u "com/example/mirante/mirante/FieldDef$Range"), (0, .methodref 39 42), (0, .nameAndType 5 43), (0, u "(JJ)V"), (0, .class_ 45), (0, u "com/example/mirante/mirante/FieldDef"), (0, .string 47), (0, u "Length"), (0, .methodref 44 49), (0, .nameAndType 5 50), (0, u "(ILjava/lang/String;Ljava/lang/String;Lcom/example/mirante/mirante/FieldFormat;ILcom/example/mirante/mirante/FieldDef$Presence;Ljava/util/Map;Lcom/example/mirante/mirante/FieldDef$Range;Ljava/util/List;Ljava/util/List;ILjava/util/List;Ljava/util/List;ILjava/util/List;)V"), (0, .methodref 44 52), (0, .nameAndType 53 54), (0, u "hasRuleChecks"), (0, u "()Z"), (0, .class_ 56), (0, u "com/example/mirante/mirante/FieldDefHasRuleChecksPinLaw"), (2, u "law"), (0, u "(IIIIII)Z")] 6

def k1m0 : Method := { name := "<init>", desc := "()V", sig := { parameters := [], returnType := none }, accessFlags := 1, code := none }
def k1c1 : Code := { maxStack := 17, maxLocals := 23, code := code, exceptionTable := #[], attributes := #[] }
def k1m1 : Method := { name := "law", desc := "(IIIIII)Z", sig := { parameters := [.int, .int, .int, .int, .int, .int], returnType := some .boolean }, accessFlags := 9, code := some k1c1 }
/-- com/example/mirante/mirante/FieldDefHasRuleChecksPinLaw -/
def k1 : Class := { plain "com/example/mirante/mirante/FieldDefHasRuleChecksPinLaw" (some 0) with
  accessFlags := 49
  interfaces := #[]
  cf := some (fileOf pool1 55 #[] #[{ accessFlags := 1, nameIndex := 5, descriptorIndex := 6, attributes := #[] }, { accessFlags := 9, nameIndex := 59, descriptorIndex := 60, attributes := #[] }] 49 2 #[] #[])
  fields := #[]
  methods := #[k1m0, k1m1]
  instanceTypes := #[]
  staticTypes := #[]
  resolved := Array.replicate 67 none
  statics := none }

def pool2 : Array CpInfo := pool [(1, .class_ 2), (0, u "java/lang/constant/Constable"), (0, .class_ 4), (0, u "java/lang/Object")] 6

/-- java/lang/constant/Constable -/
def k2 : Class := { plain "java/lang/constant/Constable" (some 0) with
  accessFlags := 1537
  interfaces := #[]
  cf := some (fileOf pool2 1 #[] #[] 1537 3 #[] #[])
  fields := #[]
  methods := #[]
  instanceTypes := #[]
  staticTypes := #[]
  resolved := Array.replicate 11 none
  statics := none }

def pool3 : Array CpInfo := pool [(1, .class_ 2), (0, u "java/lang/Comparable"), (0, .class_ 4), (0, u "java/lang/Object")] 7

/-- java/lang/Comparable -/
def k3 : Class := { plain "java/lang/Comparable" (some 0) with
  accessFlags := 1537
  interfaces := #[]
  cf := some (fileOf pool3 1 #[] #[] 1537 3 #[] #[])
  fields := #[]
  methods := #[]
  instanceTypes := #[]
  staticTypes := #[]
  resolved := Array.replicate 12 none
  statics := none }

def pool4 : Array CpInfo := pool [(1, .class_ 2), (0, u "java/io/Serializable"), (0, .class_ 4), (0, u "java/lang/Object")] 2

/-- java/io/Serializable -/
def k4 : Class := { plain "java/io/Serializable" (some 0) with
  accessFlags := 1537
  interfaces := #[]
  cf := some (fileOf pool4 1 #[] #[] 1537 3 #[] #[])
  fields := #[]
  methods := #[]
  instanceTypes := #[]
  staticTypes := #[]
  resolved := Array.replicate 7 none
  statics := none }

def pool5 : Array CpInfo := pool [(2, .class_ 4), (1, u "java/lang/Enum"), (0, u "name"), (0, u "Ljava/lang/String;"), (2, u "ordinal"), (0, u "I"), (1, .class_ 14), (1, u "java/lang/Object"), (4, u "hash"), (86, .class_ 108), (1, u "java/lang/Enum$EnumDesc"), (2, .class_ 112), (0, u "java/lang/constant/Constable"), (0, .class_ 114), (0, u "java/lang/Comparable"), (0, .class_ 116), (0, u "java/io/Serializable")] 87

/-- java/lang/Enum -/
def k5 : Class := { plain "java/lang/Enum" (some 0) with
  accessFlags := 1057
  interfaces := #[2, 3, 4]
  cf := some (fileOf pool5 2 #[.nestMembers #[106]] #[] 1057 12 #[111, 113, 115] #[{ accessFlags := 18, nameIndex := 5, descriptorIndex := 6, attributes := #[] }, { accessFlags := 18, nameIndex := 9, descriptorIndex := 10, attributes := #[] }, { accessFlags := 2, nameIndex := 19, descriptorIndex := 10, attributes := #[] }])
  fields := #[{ name := "name", type := (.object "java/lang/String"), accessFlags := 18, slot := 0, constantValue := 0 }, { name := "ordinal", type := .int, accessFlags := 18, slot := 1, constantValue := 0 }, { name := "hash", type := .int, accessFlags := 2, slot := 2, constantValue := 0 }]
  methods := #[]
  instanceTypes := #[(.object "java/lang/String"), .int, .int]
  staticTypes := #[]
  resolved := Array.replicate 204 none
  statics := none }

def pool6 : Array CpInfo := pool [(1, .class_ 2), (0, u "com/example/mirante/mirante/FieldDef$Presence"), (2, u "REQUIRED"), (0, u "Lcom/example/mirante/mirante/FieldDef$Presence;"), (2, u "OPTIONAL"), (2, u "CONDITIONAL"), (2, u "$VALUES"), (0, u "[Lcom/example/mirante/mirante/FieldDef$Presence;"), (6, .class_ 25), (1, u "java/lang/Enum"), (26, .class_ 53), (0, u "com/example/mirante/mirante/FieldDef")] 2

/-- com/example/mirante/mirante/FieldDef$Presence -/
def k6 : Class := { plain "com/example/mirante/mirante/FieldDef$Presence" (some 5) with
  accessFlags := 16433
  interfaces := #[]
  cf := some (fileOf pool6 1 #[.nestHost 52] #[] 16433 23 #[] #[{ accessFlags := 16409, nameIndex := 5, descriptorIndex := 6, attributes := #[] }, { accessFlags := 16409, nameIndex := 9, descriptorIndex := 6, attributes := #[] }, { accessFlags := 16409, nameIndex := 12, descriptorIndex := 6, attributes := #[] }, { accessFlags := 4122, nameIndex := 15, descriptorIndex := 16, attributes := #[] }])
  fields := #[{ name := "REQUIRED", type := (.object "com/example/mirante/mirante/FieldDef$Presence"), accessFlags := 16409, slot := 0, constantValue := 0 }, { name := "OPTIONAL", type := (.object "com/example/mirante/mirante/FieldDef$Presence"), accessFlags := 16409, slot := 1, constantValue := 0 }, { name := "CONDITIONAL", type := (.object "com/example/mirante/mirante/FieldDef$Presence"), accessFlags := 16409, slot := 2, constantValue := 0 }, { name := "$VALUES", type := (.array (.object "com/example/mirante/mirante/FieldDef$Presence")), accessFlags := 4122, slot := 3, constantValue := 0 }]
  methods := #[]
  instanceTypes := #[(.object "java/lang/String"), .int, .int]
  staticTypes := #[(.object "com/example/mirante/mirante/FieldDef$Presence"), (.object "com/example/mirante/mirante/FieldDef$Presence"), (.object "com/example/mirante/mirante/FieldDef$Presence"), (.array (.object "com/example/mirante/mirante/FieldDef$Presence"))]
  resolved := Array.replicate 56 none
  statics := some 0 }

def pool7 : Array CpInfo := pool [(8, .class_ 10), (1, u "java/lang/Iterable"), (24, .class_ 36), (0, u "java/lang/Object")] 25

/-- java/lang/Iterable -/
def k7 : Class := { plain "java/lang/Iterable" (some 0) with
  accessFlags := 1537
  interfaces := #[]
  cf := some (fileOf pool7 8 #[] #[] 1537 35 #[] #[])
  fields := #[]
  methods := #[]
  instanceTypes := #[]
  staticTypes := #[]
  resolved := Array.replicate 62 none
  statics := none }

def pool8 : Array CpInfo := pool [(10, .class_ 12), (1, u "java/util/Collection"), (47, .class_ 61), (0, u "java/lang/Object"), (0, .class_ 63), (0, u "java/lang/Iterable")] 51

/-- java/util/Collection -/
def k8 : Class := { plain "java/util/Collection" (some 0) with
  accessFlags := 1537
  interfaces := #[7]
  cf := some (fileOf pool8 10 #[] #[] 1537 60 #[62] #[])
  fields := #[]
  methods := #[]
  instanceTypes := #[]
  staticTypes := #[]
  resolved := Array.replicate 115 none
  statics := none }

def pool9 : Array CpInfo := pool [(1, .methodref 2 3), (0, .class_ 4), (0, .nameAndType 5 6), (0, u "java/lang/Object"), (0, u "<init>"), (0, u "()V"), (1, .class_ 10), (1, u "java/util/AbstractCollection"), (66, .class_ 78), (0, u "java/util/Collection")] 81

def k9c0 : Code := { maxStack := 1, maxLocals := 1, code := jdk_22_method_1_code, exceptionTable := #[], attributes := #[] }
def k9m0 : Method := { name := "<init>", desc := "()V", sig := { parameters := [], returnType := none }, accessFlags := 4, code := some k9c0 }
/-- java/util/AbstractCollection -/
def k9 : Class := { plain "java/util/AbstractCollection" (some 0) with
  accessFlags := 1057
  interfaces := #[8]
  cf := some (fileOf pool9 8 #[] #[{ accessFlags := 4, nameIndex := 5, descriptorIndex := 6, attributes := #[] }] 1057 2 #[77] #[])
  fields := #[]
  methods := #[k9m0]
  instanceTypes := #[]
  staticTypes := #[]
  resolved := Array.replicate 160 none
  statics := none }

def pool10 : Array CpInfo := pool [(8, .class_ 10), (1, u "java/util/SequencedCollection"), (15, .class_ 27), (0, u "java/lang/Object"), (0, .class_ 29), (0, u "java/util/Collection")] 27

/-- java/util/SequencedCollection -/
def k10 : Class := { plain "java/util/SequencedCollection" (some 0) with
  accessFlags := 1537
  interfaces := #[8]
  cf := some (fileOf pool10 8 #[] #[] 1537 26 #[28] #[])
  fields := #[]
  methods := #[]
  instanceTypes := #[]
  staticTypes := #[]
  resolved := Array.replicate 57 none
  statics := none }

def pool11 : Array CpInfo := pool [(8, .class_ 10), (1, u "java/util/List"), (7, u "()Z"), (41, u "add"), (3, u "(Ljava/lang/Object;)Z"), (2, u "isEmpty"), (35, .class_ 104), (0, u "java/lang/Object"), (15, .class_ 121), (0, u "java/util/SequencedCollection")] 129

def k11m0 : Method := { name := "isEmpty", desc := "()Z", sig := { parameters := [], returnType := some .boolean }, accessFlags := 1025, code := none }
def k11m1 : Method := { name := "add", desc := "(Ljava/lang/Object;)Z", sig := { parameters := [(.object "java/lang/Object")], returnType := some .boolean }, accessFlags := 1025, code := none }
/-- java/util/List -/
def k11 : Class := { plain "java/util/List" (some 0) with
  accessFlags := 1537
  interfaces := #[10]
  cf := some (fileOf pool11 8 #[] #[{ accessFlags := 1025, nameIndex := 67, descriptorIndex := 18, attributes := #[] }, { accessFlags := 1025, nameIndex := 60, descriptorIndex := 64, attributes := #[] }] 1537 103 #[120] #[])
  fields := #[]
  methods := #[k11m0, k11m1]
  instanceTypes := #[]
  staticTypes := #[]
  resolved := Array.replicate 251 none
  statics := none }

def pool12 : Array CpInfo := pool [(1, .methodref 2 3), (0, .class_ 4), (0, .nameAndType 5 6), (0, u "java/util/AbstractCollection"), (0, u "<init>"), (0, u "()V"), (0, .fieldref 8 9), (0, .class_ 10), (0, .nameAndType 11 12), (0, u "java/util/AbstractList"), (0, u "modCount"), (0, u "I"), (64, .class_ 78), (0, u "java/util/AbstractList$Itr"), (3, .class_ 83), (0, u "java/util/AbstractList$ListItr"), (9, .class_ 94), (0, u "java/util/AbstractList$RandomAccessSubList"), (3, .class_ 99), (0, u "java/util/AbstractList$SubList"), (33, .class_ 134), (0, u "java/util/List"), (73, .class_ 209), (0, u "java/util/AbstractList$SubList$1"), (0, .class_ 211), (0, u "java/util/AbstractList$RandomAccessSpliterator")] 6

def k12c0 : Code := { maxStack := 2, maxLocals := 1, code := jdk_39_method_1_code, exceptionTable := #[], attributes := #[] }
def k12m0 : Method := { name := "<init>", desc := "()V", sig := { parameters := [], returnType := none }, accessFlags := 4, code := some k12c0 }
/-- java/util/AbstractList -/
def k12 : Class := { plain "java/util/AbstractList" (some 9) with
  accessFlags := 1057
  interfaces := #[11]
  cf := some (fileOf pool12 8 #[.nestMembers #[93, 98, 208, 210, 82, 77]] #[{ accessFlags := 4, nameIndex := 5, descriptorIndex := 6, attributes := #[] }] 1057 2 #[133] #[{ accessFlags := 132, nameIndex := 11, descriptorIndex := 12, attributes := #[] }])
  fields := #[{ name := "modCount", type := .int, accessFlags := 132, slot := 0, constantValue := 0 }]
  methods := #[k12m0]
  instanceTypes := #[.int]
  staticTypes := #[]
  resolved := Array.replicate 218 none
  statics := none }

def pool13 : Array CpInfo := pool [(1, .class_ 2), (0, u "java/util/RandomAccess"), (0, .class_ 4), (0, u "java/lang/Object")] 2

/-- java/util/RandomAccess -/
def k13 : Class := { plain "java/util/RandomAccess" (some 0) with
  accessFlags := 1537
  interfaces := #[]
  cf := some (fileOf pool13 1 #[] #[] 1537 3 #[] #[])
  fields := #[]
  methods := #[]
  instanceTypes := #[]
  staticTypes := #[]
  resolved := Array.replicate 7 none
  statics := none }

def pool14 : Array CpInfo := pool [(1, .class_ 2), (0, u "java/lang/Cloneable"), (0, .class_ 4), (0, u "java/lang/Object")] 2

/-- java/lang/Cloneable -/
def k14 : Class := { plain "java/lang/Cloneable" (some 0) with
  accessFlags := 1537
  interfaces := #[]
  cf := some (fileOf pool14 1 #[] #[] 1537 3 #[] #[])
  fields := #[]
  methods := #[]
  instanceTypes := #[]
  staticTypes := #[]
  resolved := Array.replicate 7 none
  statics := none }

def pool15 : Array CpInfo := pool [(1, .methodref 2 3), (0, .class_ 4), (0, .nameAndType 5 6), (0, u "java/util/AbstractList"), (0, u "<init>"), (0, u "()V"), (0, .class_ 8), (0, u "java/lang/Object"), (0, .fieldref 10 11), (0, .class_ 12), (0, .nameAndType 13 14), (0, u "java/util/ArrayList"), (0, u "elementData"), (0, u "[Ljava/lang/Object;"), (2, u "EMPTY_ELEMENTDATA"), (21, .fieldref 10 40), (0, .nameAndType 41 14), (0, u "DEFAULTCAPACITY_EMPTY_ELEMENTDATA"), (5, u "()[Ljava/lang/Object;"), (0, .fieldref 10 49), (0, .nameAndType 50 51), (0, u "size"), (0, u "I"), (11, .fieldref 10 64), (0, .nameAndType 65 51), (0, u "modCount"), (3, .methodref 10 70), (0, .nameAndType 71 72), (0, u "grow"), (0, u "(I)[Ljava/lang/Object;"), (6, .methodref 80 81), (0, .class_ 82), (0, .nameAndType 83 84), (0, u "java/lang/Math"), (0, u "max"), (0, u "(II)I"), (11, u "(Ljava/lang/Object;)Z"), (32, .methodref 10 130), (0, .nameAndType 71 47), (0, .methodref 10 132), (0, .nameAndType 133 134), (0, u "add"), (0, u "(Ljava/lang/Object;[Ljava/lang/Object;I)V"), (13, .class_ 149), (0, u "java/util/List"), (23, u "()Z"), (88, .class_ 263), (0, u "java/util/ArrayList$ListItr"), (3, .class_ 268), (0, u "java/util/ArrayList$Itr"), (7, .class_ 277), (0, u "java/util/ArrayList$SubList"), (12, .class_ 291), (0, u "java/util/ArrayList$ArrayListSpliterator"), (37, .class_ 330), (0, u "java/util/RandomAccess"), (0, .class_ 332), (0, u "java/lang/Cloneable"), (0, .class_ 334), (0, u "java/io/Serializable"), (0, u "serialVersionUID"), (0, u "J"), (3, u "DEFAULT_CAPACITY"), (22, u "isEmpty"), (136, .class_ 501), (0, u "java/util/ArrayList$SubList$2"), (0, .class_ 503), (0, u "java/util/ArrayList$SubList$1")] 5

def k15c0 : Code := { maxStack := 2, maxLocals := 1, code := jdk_38_method_2_code, exceptionTable := #[], attributes := #[] }
def k15m0 : Method := { name := "<init>", desc := "()V", sig := { parameters := [], returnType := none }, accessFlags := 1, code := some k15c0 }
def k15c1 : Code := { maxStack := 4, maxLocals := 4, code := jdk_38_method_6_code, exceptionTable := #[], attributes := #[] }
def k15m1 : Method := { name := "grow", desc := "(I)[Ljava/lang/Object;", sig := { parameters := [.int], returnType := some (.array (.object "java/lang/Object")) }, accessFlags := 2, code := some k15c1 }
def k15c2 : Code := { maxStack := 3, maxLocals := 1, code := jdk_38_method_7_code, exceptionTable := #[], attributes := #[] }
def k15m2 : Method := { name := "grow", desc := "()[Ljava/lang/Object;", sig := { parameters := [], returnType := some (.array (.object "java/lang/Object")) }, accessFlags := 2, code := some k15c2 }
def k15c3 : Code := { maxStack := 1, maxLocals := 1, code := jdk_38_method_9_code, exceptionTable := #[], attributes := #[] }
def k15m3 : Method := { name := "isEmpty", desc := "()Z", sig := { parameters := [], returnType := some .boolean }, accessFlags := 1, code := some k15c3 }
def k15c4 : Code := { maxStack := 3, maxLocals := 4, code := jdk_38_method_24_code, exceptionTable := #[], attributes := #[] }
def k15m4 : Method := { name := "add", desc := "(Ljava/lang/Object;[Ljava/lang/Object;I)V", sig := { parameters := [(.object "java/lang/Object"), (.array (.object "java/lang/Object")), .int], returnType := none }, accessFlags := 2, code := some k15c4 }
def k15c5 : Code := { maxStack := 4, maxLocals := 2, code := jdk_38_method_25_code, exceptionTable := #[], attributes := #[] }
def k15m5 : Method := { name := "add", desc := "(Ljava/lang/Object;)Z", sig := { parameters := [(.object "java/lang/Object")], returnType := some .boolean }, accessFlags := 1, code := some k15c5 }
/-- java/util/ArrayList -/
def k15 : Class := { plain "java/util/ArrayList" (some 12) with
  accessFlags := 33
  interfaces := #[11, 13, 14, 4]
  cf := some (fileOf pool15 10 #[.nestMembers #[290, 276, 500, 502, 262, 267]] #[{ accessFlags := 1, nameIndex := 5, descriptorIndex := 6, attributes := #[] }, { accessFlags := 2, nameIndex := 71, descriptorIndex := 72, attributes := #[] }, { accessFlags := 2, nameIndex := 71, descriptorIndex := 47, attributes := #[] }, { accessFlags := 1, nameIndex := 363, descriptorIndex := 173, attributes := #[] }, { accessFlags := 2, nameIndex := 133, descriptorIndex := 134, attributes := #[] }, { accessFlags := 1, nameIndex := 133, descriptorIndex := 96, attributes := #[] }] 33 2 #[148, 329, 331, 333] #[{ accessFlags := 26, nameIndex := 335, descriptorIndex := 336, attributes := #[] }, { accessFlags := 26, nameIndex := 340, descriptorIndex := 51, attributes := #[] }, { accessFlags := 26, nameIndex := 17, descriptorIndex := 14, attributes := #[] }, { accessFlags := 26, nameIndex := 41, descriptorIndex := 14, attributes := #[] }, { accessFlags := 128, nameIndex := 13, descriptorIndex := 14, attributes := #[] }, { accessFlags := 2, nameIndex := 50, descriptorIndex := 51, attributes := #[] }])
  fields := #[{ name := "serialVersionUID", type := .long, accessFlags := 26, slot := 0, constantValue := 0 }, { name := "DEFAULT_CAPACITY", type := .int, accessFlags := 26, slot := 1, constantValue := 0 }, { name := "EMPTY_ELEMENTDATA", type := (.array (.object "java/lang/Object")), accessFlags := 26, slot := 2, constantValue := 0 }, { name := "DEFAULTCAPACITY_EMPTY_ELEMENTDATA", type := (.array (.object "java/lang/Object")), accessFlags := 26, slot := 3, constantValue := 0 }, { name := "elementData", type := (.array (.object "java/lang/Object")), accessFlags := 128, slot := 1, constantValue := 0 }, { name := "size", type := .int, accessFlags := 2, slot := 2, constantValue := 0 }]
  methods := #[k15m0, k15m1, k15m2, k15m3, k15m4, k15m5]
  instanceTypes := #[.int, (.array (.object "java/lang/Object")), .int]
  staticTypes := #[.long, .int, (.array (.object "java/lang/Object")), (.array (.object "java/lang/Object"))]
  resolved := Array.replicate 509 none
  statics := some 1 }

def pool16 : Array CpInfo := pool [(1, .class_ 2), (0, u "java/lang/Math"), (1, .class_ 6), (1, u "java/lang/Object"), (0, u "<init>"), (0, u "()V"), (89, .class_ 100), (1, u "java/lang/Math$RandomNumberGeneratorHolder"), (71, u "negativeZeroFloatBits"), (0, u "J"), (2, u "negativeZeroDoubleBits"), (21, u "max"), (46, u "$assertionsDisabled"), (0, u "Z"), (88, u "(II)I"), (2, u "twoToTheDoubleScaleDown"), (0, u "D"), (4, u "twoToTheDoubleScaleUp"), (9, u "E"), (3, u "PI"), (2, u "TAU"), (2, u "DEGREES_TO_RADIANS"), (0, u "RADIANS_TO_DEGREES")] 94

def k16m0 : Method := { name := "<init>", desc := "()V", sig := { parameters := [], returnType := none }, accessFlags := 2, code := none }
def k16c1 : Code := { maxStack := 2, maxLocals := 2, code := jdk_29_method_65_code, exceptionTable := #[], attributes := #[] }
def k16m1 : Method := { name := "max", desc := "(II)I", sig := { parameters := [.int, .int], returnType := some .int }, accessFlags := 9, code := some k16c1 }
/-- java/lang/Math -/
def k16 : Class := { plain "java/lang/Math" (some 0) with
  accessFlags := 49
  interfaces := #[]
  cf := some (fileOf pool16 1 #[.nestMembers #[98]] #[{ accessFlags := 2, nameIndex := 7, descriptorIndex := 8, attributes := #[] }, { accessFlags := 9, nameIndex := 198, descriptorIndex := 335, attributes := #[] }] 49 4 #[] #[{ accessFlags := 25, nameIndex := 354, descriptorIndex := 339, attributes := #[] }, { accessFlags := 25, nameIndex := 358, descriptorIndex := 339, attributes := #[] }, { accessFlags := 25, nameIndex := 361, descriptorIndex := 339, attributes := #[] }, { accessFlags := 26, nameIndex := 364, descriptorIndex := 339, attributes := #[] }, { accessFlags := 26, nameIndex := 365, descriptorIndex := 339, attributes := #[] }, { accessFlags := 26, nameIndex := 172, descriptorIndex := 173, attributes := #[] }, { accessFlags := 26, nameIndex := 176, descriptorIndex := 173, attributes := #[] }, { accessFlags := 8, nameIndex := 344, descriptorIndex := 339, attributes := #[] }, { accessFlags := 8, nameIndex := 338, descriptorIndex := 339, attributes := #[] }, { accessFlags := 4120, nameIndex := 245, descriptorIndex := 246, attributes := #[] }])
  fields := #[{ name := "E", type := .double, accessFlags := 25, slot := 0, constantValue := 0 }, { name := "PI", type := .double, accessFlags := 25, slot := 1, constantValue := 0 }, { name := "TAU", type := .double, accessFlags := 25, slot := 2, constantValue := 0 }, { name := "DEGREES_TO_RADIANS", type := .double, accessFlags := 26, slot := 3, constantValue := 0 }, { name := "RADIANS_TO_DEGREES", type := .double, accessFlags := 26, slot := 4, constantValue := 0 }, { name := "negativeZeroFloatBits", type := .long, accessFlags := 26, slot := 5, constantValue := 0 }, { name := "negativeZeroDoubleBits", type := .long, accessFlags := 26, slot := 6, constantValue := 0 }, { name := "twoToTheDoubleScaleUp", type := .double, accessFlags := 8, slot := 7, constantValue := 0 }, { name := "twoToTheDoubleScaleDown", type := .double, accessFlags := 8, slot := 8, constantValue := 0 }, { name := "$assertionsDisabled", type := .boolean, accessFlags := 4120, slot := 9, constantValue := 0 }]
  methods := #[k16m0, k16m1]
  instanceTypes := #[]
  staticTypes := #[.double, .double, .double, .double, .double, .long, .long, .double, .double, .boolean]
  resolved := Array.replicate 460 none
  statics := none }

def pool17 : Array CpInfo := pool [(2, .class_ 4), (1, u "java/lang/CharSequence"), (42, .class_ 48), (0, u "java/lang/CharSequence$1CodePointIterator"), (10, .class_ 60), (0, u "java/lang/CharSequence$1CharIterator"), (5, .class_ 67), (0, u "java/lang/Object")] 63

/-- java/lang/CharSequence -/
def k17 : Class := { plain "java/lang/CharSequence" (some 0) with
  accessFlags := 1537
  interfaces := #[]
  cf := some (fileOf pool17 2 #[.nestMembers #[47, 59]] #[] 1537 66 #[] #[])
  fields := #[]
  methods := #[]
  instanceTypes := #[]
  staticTypes := #[]
  resolved := Array.replicate 131 none
  statics := none }

def pool18 : Array CpInfo := pool [(1, .class_ 2), (0, u "java/lang/constant/ConstantDesc"), (0, .class_ 4), (0, u "java/lang/Object")] 32

/-- java/lang/constant/ConstantDesc -/
def k18 : Class := { plain "java/lang/constant/ConstantDesc" (some 0) with
  accessFlags := 1537
  interfaces := #[]
  cf := some (fileOf pool18 1 #[] #[] 1537 3 #[] #[])
  fields := #[]
  methods := #[]
  instanceTypes := #[]
  staticTypes := #[]
  resolved := Array.replicate 37 none
  statics := none }

def pool19 : Array CpInfo := pool [(1, .methodref 2 3), (0, .class_ 4), (0, .nameAndType 5 6), (0, u "java/lang/Object"), (0, u "<init>"), (0, u "()V"), (2, .fieldref 10 11), (0, .class_ 12), (0, .nameAndType 13 14), (0, u "java/lang/String"), (0, u "value"), (0, u "[B"), (0, .fieldref 10 16), (0, .nameAndType 17 18), (0, u "coder"), (0, u "B"), (2, u "hash"), (0, u "I"), (2, u "hashIsZero"), (0, u "Z"), (11, .fieldref 10 39), (0, .nameAndType 40 26), (0, u "COMPACT_STRINGS"), (12, u "toBytes"), (53, .class_ 109), (1, u "java/lang/StringLatin1"), (99, .methodref 10 210), (0, .nameAndType 5 211), (0, u "([BB)V"), (157, u "(C)Z"), (205, .class_ 576), (0, u "java/lang/CharSequence"), (22, u "CASE_INSENSITIVE_ORDER"), (0, u "Ljava/util/Comparator;"), (181, u "valueOf"), (0, u "(C)Ljava/lang/String;"), (231, .methodref 107 1016), (0, .nameAndType 1017 369), (0, u "canEncode"), (0, .methodref 107 1019), (0, .nameAndType 53 1020), (0, u "(C)[B"), (80, u "serialPersistentFields"), (0, u "[Ljava/io/ObjectStreamField;"), (0, .class_ 1104), (0, u "java/lang/String$CaseInsensitiveComparator"), (1, .class_ 1107), (0, u "java/io/Serializable"), (0, .class_ 1109), (0, u "java/lang/Comparable"), (0, .class_ 1111), (0, u "java/lang/constant/Constable"), (0, .class_ 1113), (0, u "java/lang/constant/ConstantDesc"), (2, u "serialVersionUID"), (0, u "J"), (3, u "REPL"), (0, u "C"), (2, u "LATIN1"), (1, u "UTF16")] 323

def k19m0 : Method := { name := "<init>", desc := "()V", sig := { parameters := [], returnType := none }, accessFlags := 1, code := none }
def k19c1 : Code := { maxStack := 4, maxLocals := 1, code := jdk_42_method_139_code, exceptionTable := #[], attributes := #[] }
def k19m1 : Method := { name := "valueOf", desc := "(C)Ljava/lang/String;", sig := { parameters := [.char], returnType := some (.object "java/lang/String") }, accessFlags := 9, code := some k19c1 }
def k19c2 : Code := { maxStack := 2, maxLocals := 3, code := jdk_42_method_151_code, exceptionTable := #[], attributes := #[] }
def k19m2 : Method := { name := "<init>", desc := "([BB)V", sig := { parameters := [(.array .byte), .byte], returnType := none }, accessFlags := 0, code := some k19c2 }
/-- java/lang/String -/
def k19 : Class := { plain "java/lang/String" (some 0) with
  accessFlags := 49
  interfaces := #[4, 3, 17, 2, 18]
  cf := some (fileOf pool19 10 #[.nestMembers #[1103]] #[{ accessFlags := 1, nameIndex := 5, descriptorIndex := 6, attributes := #[] }, { accessFlags := 9, nameIndex := 782, descriptorIndex := 783, attributes := #[] }, { accessFlags := 0, nameIndex := 5, descriptorIndex := 211, attributes := #[] }] 49 2 #[1106, 1108, 575, 1110, 1112] #[{ accessFlags := 18, nameIndex := 13, descriptorIndex := 14, attributes := #[] }, { accessFlags := 18, nameIndex := 17, descriptorIndex := 18, attributes := #[] }, { accessFlags := 2, nameIndex := 21, descriptorIndex := 22, attributes := #[] }, { accessFlags := 2, nameIndex := 25, descriptorIndex := 26, attributes := #[] }, { accessFlags := 26, nameIndex := 1116, descriptorIndex := 1117, attributes := #[] }, { accessFlags := 24, nameIndex := 40, descriptorIndex := 26, attributes := #[] }, { accessFlags := 26, nameIndex := 1101, descriptorIndex := 1102, attributes := #[] }, { accessFlags := 26, nameIndex := 1121, descriptorIndex := 1122, attributes := #[] }, { accessFlags := 25, nameIndex := 599, descriptorIndex := 600, attributes := #[] }, { accessFlags := 24, nameIndex := 1125, descriptorIndex := 18, attributes := #[] }, { accessFlags := 24, nameIndex := 1127, descriptorIndex := 18, attributes := #[] }])
  fields := #[{ name := "value", type := (.array .byte), accessFlags := 18, slot := 0, constantValue := 0 }, { name := "coder", type := .byte, accessFlags := 18, slot := 1, constantValue := 0 }, { name := "hash", type := .int, accessFlags := 2, slot := 2, constantValue := 0 }, { name := "hashIsZero", type := .boolean, accessFlags := 2, slot := 3, constantValue := 0 }, { name := "serialVersionUID", type := .long, accessFlags := 26, slot := 0, constantValue := 0 }, { name := "COMPACT_STRINGS", type := .boolean, accessFlags := 24, slot := 1, constantValue := 0 }, { name := "serialPersistentFields", type := (.array (.object "java/io/ObjectStreamField")), accessFlags := 26, slot := 2, constantValue := 0 }, { name := "REPL", type := .char, accessFlags := 26, slot := 3, constantValue := 0 }, { name := "CASE_INSENSITIVE_ORDER", type := (.object "java/util/Comparator"), accessFlags := 25, slot := 4, constantValue := 0 }, { name := "LATIN1", type := .byte, accessFlags := 24, slot := 5, constantValue := 0 }, { name := "UTF16", type := .byte, accessFlags := 24, slot := 6, constantValue := 0 }]
  methods := #[k19m0, k19m1, k19m2]
  instanceTypes := #[(.array .byte), .byte, .int, .boolean]
  staticTypes := #[.long, .boolean, (.array (.object "java/io/ObjectStreamField")), .char, (.object "java/util/Comparator"), .byte, .byte]
  resolved := Array.replicate 1451 none
  statics := some 2 }

def pool20 : Array CpInfo := pool [(4, .class_ 6), (1, u "java/lang/Object"), (0, u "<init>"), (0, u "()V"), (5, .class_ 16), (1, u "java/lang/StringLatin1"), (73, u "canEncode"), (14, u "(C)Z"), (15, u "$assertionsDisabled"), (0, u "Z"), (98, .class_ 223), (1, u "java/lang/StringLatin1$LinesSpliterator"), (156, u "toBytes"), (1, u "(C)[B"), (7, .class_ 391), (0, u "java/lang/StringLatin1$CharsSpliterator")] 3

def k20m0 : Method := { name := "<init>", desc := "()V", sig := { parameters := [], returnType := none }, accessFlags := 0, code := none }
def k20c1 : Code := { maxStack := 2, maxLocals := 1, code := jdk_43_method_3_code, exceptionTable := #[], attributes := #[] }
def k20m1 : Method := { name := "canEncode", desc := "(C)Z", sig := { parameters := [.char], returnType := some .boolean }, accessFlags := 9, code := some k20c1 }
def k20c2 : Code := { maxStack := 4, maxLocals := 1, code := jdk_43_method_46_code, exceptionTable := #[], attributes := #[] }
def k20m2 : Method := { name := "toBytes", desc := "(C)[B", sig := { parameters := [.char], returnType := some (.array .byte) }, accessFlags := 9, code := some k20c2 }
/-- java/lang/StringLatin1 -/
def k20 : Class := { plain "java/lang/StringLatin1" (some 0) with
  accessFlags := 48
  interfaces := #[]
  cf := some (fileOf pool20 14 #[.nestMembers #[390, 221]] #[{ accessFlags := 0, nameIndex := 7, descriptorIndex := 8, attributes := #[] }, { accessFlags := 9, nameIndex := 90, descriptorIndex := 105, attributes := #[] }, { accessFlags := 9, nameIndex := 380, descriptorIndex := 382, attributes := #[] }] 48 4 #[] #[{ accessFlags := 4120, nameIndex := 121, descriptorIndex := 122, attributes := #[] }])
  fields := #[{ name := "$assertionsDisabled", type := .boolean, accessFlags := 4120, slot := 0, constantValue := 0 }]
  methods := #[k20m0, k20m1, k20m2]
  instanceTypes := #[]
  staticTypes := #[.boolean]
  resolved := Array.replicate 395 none
  statics := none }

def pool21 : Array CpInfo := pool [(1, .methodref 2 3), (0, .class_ 4), (0, .nameAndType 5 6), (0, u "java/lang/Object"), (0, u "<init>"), (0, u "()V"), (0, .class_ 8), (0, u "java/lang/Record")] 13

def k21c0 : Code := { maxStack := 1, maxLocals := 1, code := jdk_30_method_1_code, exceptionTable := #[], attributes := #[] }
def k21m0 : Method := { name := "<init>", desc := "()V", sig := { parameters := [], returnType := none }, accessFlags := 4, code := some k21c0 }
/-- java/lang/Record -/
def k21 : Class := { plain "java/lang/Record" (some 0) with
  accessFlags := 1057
  interfaces := #[]
  cf := some (fileOf pool21 7 #[] #[{ accessFlags := 4, nameIndex := 5, descriptorIndex := 6, attributes := #[] }] 1057 2 #[] #[])
  fields := #[]
  methods := #[k21m0]
  instanceTypes := #[]
  staticTypes := #[]
  resolved := Array.replicate 22 none
  statics := none }

def pool22 : Array CpInfo := pool [(1, .methodref 2 3), (0, .class_ 4), (0, .nameAndType 5 6), (0, u "java/lang/Record"), (0, u "<init>"), (0, u "()V"), (0, .fieldref 8 9), (0, .class_ 10), (0, .nameAndType 11 12), (0, u "com/example/mirante/mirante/FieldDef"), (0, u "tag"), (0, u "I"), (0, .fieldref 8 14), (0, .nameAndType 15 16), (0, u "name"), (0, u "Ljava/lang/String;"), (0, .fieldref 8 18), (0, .nameAndType 19 16), (0, u "type"), (0, .fieldref 8 21), (0, .nameAndType 22 23), (0, u "format"), (0, u "Lcom/example/mirante/mirante/FieldFormat;"), (0, .fieldref 8 25), (0, .nameAndType 26 12), (0, u "maxLength"), (0, .fieldref 8 28), (0, .nameAndType 29 30), (0, u "presence"), (0, u "Lcom/example/mirante/mirante/FieldDef$Presence;"), (0, .fieldref 8 32), (0, .nameAndType 33 34), (0, u "values"), (0, u "Ljava/util/Map;"), (0, .fieldref 8 36), (0, .nameAndType 37 38), (0, u "range"), (0, u "Lcom/example/mirante/mirante/FieldDef$Range;"), (0, .fieldref 8 40), (0, .nameAndType 41 42), (0, u "rules"), (0, u "Ljava/util/List;"), (0, .fieldref 8 44), (0, .nameAndType 45 42), (0, u "conditions"), (0, .fieldref 8 47), (0, .nameAndType 48 12), (0, u "count"), (0, .fieldref 8 50), (0, .nameAndType 51 42), (0, u "anyPresent"), (0, .fieldref 8 53), (0, .nameAndType 54 42), (0, u "before"), (0, .fieldref 8 56), (0, .nameAndType 57 12), (0, u "lengthOf"), (0, .fieldref 8 59), (0, .nameAndType 60 42), (0, u "members"), (0, .interfaceMethodref 62 63), (0, .class_ 64), (0, .nameAndType 65 66), (0, u "java/util/List"), (0, u "isEmpty"), (0, u "()Z"), (51, .class_ 119), (0, u "com/example/mirante/mirante/FieldDef$Condition"), (8, .class_ 130), (1, u "com/example/mirante/mirante/FieldDef$Presence"), (30, u "(ILjava/lang/String;Ljava/lang/String;Lcom/example/mirante/mirante/FieldFormat;ILcom/example/mirante/mirante/FieldDef$Presence;Ljava/util/Map;Lcom/example/mirante/mirante/FieldDef$Range;Ljava/util/List;Ljava/util/List;ILjava/util/List;Ljava/util/List;ILjava/util/List;)V"), (6, u "hasRuleChecks"), (29, .class_ 199), (0, u "com/example/mirante/mirante/FieldDef$Clause"), (0, .class_ 201), (0, u "com/example/mirante/mirante/FieldDef$Range")] 36

def k22c0 : Code := { maxStack := 2, maxLocals := 16, code := prog_14_method_1_code, exceptionTable := #[], attributes := #[] }
def k22m0 : Method := { name := "<init>", desc := "(ILjava/lang/String;Ljava/lang/String;Lcom/example/mirante/mirante/FieldFormat;ILcom/example/mirante/mirante/FieldDef$Presence;Ljava/util/Map;Lcom/example/mirante/mirante/FieldDef$Range;Ljava/util/List;Ljava/util/List;ILjava/util/List;Ljava/util/List;ILjava/util/List;)V", sig := { parameters := [.int, (.object "java/lang/String"), (.object "java/lang/String"), (.object "com/example/mirante/mirante/FieldFormat"), .int, (.object "com/example/mirante/mirante/FieldDef$Presence"), (.object "java/util/Map"), (.object "com/example/mirante/mirante/FieldDef$Range"), (.object "java/util/List"), (.object "java/util/List"), .int, (.object "java/util/List"), (.object "java/util/List"), .int, (.object "java/util/List")], returnType := none }, accessFlags := 1, code := some k22c0 }
def k22c1 : Code := { maxStack := 1, maxLocals := 1, code := prog_14_method_3_code, exceptionTable := #[], attributes := #[] }
def k22m1 : Method := { name := "hasRuleChecks", desc := "()Z", sig := { parameters := [], returnType := some .boolean }, accessFlags := 0, code := some k22c1 }
/-- com/example/mirante/mirante/FieldDef -/
def k22 : Class := { plain "com/example/mirante/mirante/FieldDef" (some 21) with
  accessFlags := 49
  interfaces := #[]
  cf := some (fileOf pool22 8 #[.nestMembers #[198, 118, 200, 128]] #[{ accessFlags := 1, nameIndex := 5, descriptorIndex := 161, attributes := #[] }, { accessFlags := 0, nameIndex := 168, descriptorIndex := 66, attributes := #[] }] 49 2 #[] #[{ accessFlags := 18, nameIndex := 11, descriptorIndex := 12, attributes := #[] }, { accessFlags := 18, nameIndex := 15, descriptorIndex := 16, attributes := #[] }, { accessFlags := 18, nameIndex := 19, descriptorIndex := 16, attributes := #[] }, { accessFlags := 18, nameIndex := 22, descriptorIndex := 23, attributes := #[] }, { accessFlags := 18, nameIndex := 26, descriptorIndex := 12, attributes := #[] }, { accessFlags := 18, nameIndex := 29, descriptorIndex := 30, attributes := #[] }, { accessFlags := 18, nameIndex := 33, descriptorIndex := 34, attributes := #[] }, { accessFlags := 18, nameIndex := 37, descriptorIndex := 38, attributes := #[] }, { accessFlags := 18, nameIndex := 41, descriptorIndex := 42, attributes := #[] }, { accessFlags := 18, nameIndex := 45, descriptorIndex := 42, attributes := #[] }, { accessFlags := 18, nameIndex := 48, descriptorIndex := 12, attributes := #[] }, { accessFlags := 18, nameIndex := 51, descriptorIndex := 42, attributes := #[] }, { accessFlags := 18, nameIndex := 54, descriptorIndex := 42, attributes := #[] }, { accessFlags := 18, nameIndex := 57, descriptorIndex := 12, attributes := #[] }, { accessFlags := 18, nameIndex := 60, descriptorIndex := 42, attributes := #[] }])
  fields := #[{ name := "tag", type := .int, accessFlags := 18, slot := 0, constantValue := 0 }, { name := "name", type := (.object "java/lang/String"), accessFlags := 18, slot := 1, constantValue := 0 }, { name := "type", type := (.object "java/lang/String"), accessFlags := 18, slot := 2, constantValue := 0 }, { name := "format", type := (.object "com/example/mirante/mirante/FieldFormat"), accessFlags := 18, slot := 3, constantValue := 0 }, { name := "maxLength", type := .int, accessFlags := 18, slot := 4, constantValue := 0 }, { name := "presence", type := (.object "com/example/mirante/mirante/FieldDef$Presence"), accessFlags := 18, slot := 5, constantValue := 0 }, { name := "values", type := (.object "java/util/Map"), accessFlags := 18, slot := 6, constantValue := 0 }, { name := "range", type := (.object "com/example/mirante/mirante/FieldDef$Range"), accessFlags := 18, slot := 7, constantValue := 0 }, { name := "rules", type := (.object "java/util/List"), accessFlags := 18, slot := 8, constantValue := 0 }, { name := "conditions", type := (.object "java/util/List"), accessFlags := 18, slot := 9, constantValue := 0 }, { name := "count", type := .int, accessFlags := 18, slot := 10, constantValue := 0 }, { name := "anyPresent", type := (.object "java/util/List"), accessFlags := 18, slot := 11, constantValue := 0 }, { name := "before", type := (.object "java/util/List"), accessFlags := 18, slot := 12, constantValue := 0 }, { name := "lengthOf", type := .int, accessFlags := 18, slot := 13, constantValue := 0 }, { name := "members", type := (.object "java/util/List"), accessFlags := 18, slot := 14, constantValue := 0 }]
  methods := #[k22m0, k22m1]
  instanceTypes := #[.int, (.object "java/lang/String"), (.object "java/lang/String"), (.object "com/example/mirante/mirante/FieldFormat"), .int, (.object "com/example/mirante/mirante/FieldDef$Presence"), (.object "java/util/Map"), (.object "com/example/mirante/mirante/FieldDef$Range"), (.object "java/util/List"), (.object "java/util/List"), .int, (.object "java/util/List"), (.object "java/util/List"), .int, (.object "java/util/List")]
  staticTypes := #[]
  resolved := Array.replicate 238 none
  statics := none }

def pool23 : Array CpInfo := pool [(1, .methodref 2 3), (0, .class_ 4), (0, .nameAndType 5 6), (0, u "java/lang/Object"), (0, u "<init>"), (0, u "()V"), (1, .class_ 10), (1, u "java/lang/Number"), (2, .class_ 14), (0, u "java/io/Serializable"), (0, u "serialVersionUID"), (0, u "J")] 20

def k23c0 : Code := { maxStack := 1, maxLocals := 1, code := jdk_18_method_1_code, exceptionTable := #[], attributes := #[] }
def k23m0 : Method := { name := "<init>", desc := "()V", sig := { parameters := [], returnType := none }, accessFlags := 1, code := some k23c0 }
/-- java/lang/Number -/
def k23 : Class := { plain "java/lang/Number" (some 0) with
  accessFlags := 1057
  interfaces := #[4]
  cf := some (fileOf pool23 8 #[] #[{ accessFlags := 1, nameIndex := 5, descriptorIndex := 6, attributes := #[] }] 1057 2 #[13] #[{ accessFlags := 26, nameIndex := 15, descriptorIndex := 16, attributes := #[] }])
  fields := #[{ name := "serialVersionUID", type := .long, accessFlags := 26, slot := 0, constantValue := 0 }]
  methods := #[k23m0]
  instanceTypes := #[]
  staticTypes := #[.long]
  resolved := Array.replicate 37 none
  statics := none }

def pool24 : Array CpInfo := pool [(1, .class_ 2), (0, u "java/lang/Integer"), (16, u "digits"), (0, u "[C"), (46, u "<init>"), (17, u "DigitOnes"), (0, u "[B"), (2, u "DigitTens"), (10, .nameAndType 67 101), (0, u "()V"), (85, u "valueOf"), (0, u "(I)Ljava/lang/Integer;"), (0, .class_ 190), (0, u "java/lang/Integer$IntegerCache"), (0, .fieldref 189 192), (0, .nameAndType 193 194), (0, u "high"), (0, u "I"), (0, .fieldref 189 196), (0, .nameAndType 197 198), (0, u "cache"), (0, u "[Ljava/lang/Integer;"), (0, .methodref 1 200), (0, .nameAndType 67 201), (0, u "(I)V"), (0, .methodref 203 100), (0, .class_ 204), (0, u "java/lang/Number"), (0, .fieldref 1 206), (0, .nameAndType 207 194), (0, u "value"), (94, u "TYPE"), (0, u "Ljava/lang/Class;"), (0, .class_ 305), (0, u "java/lang/Comparable"), (0, .class_ 307), (0, u "java/lang/constant/Constable"), (0, .class_ 309), (0, u "java/lang/constant/ConstantDesc"), (0, u "MIN_VALUE"), (1, u "MAX_VALUE"), (3, u "SIZE"), (1, u "BYTES"), (1, u "serialVersionUID"), (0, u "J")] 131

def k24c0 : Code := { maxStack := 3, maxLocals := 1, code := jdk_33_method_22_code, exceptionTable := #[], attributes := #[] }
def k24m0 : Method := { name := "valueOf", desc := "(I)Ljava/lang/Integer;", sig := { parameters := [.int], returnType := some (.object "java/lang/Integer") }, accessFlags := 9, code := some k24c0 }
def k24c1 : Code := { maxStack := 2, maxLocals := 2, code := jdk_33_method_23_code, exceptionTable := #[], attributes := #[] }
def k24m1 : Method := { name := "<init>", desc := "(I)V", sig := { parameters := [.int], returnType := none }, accessFlags := 1, code := some k24c1 }
/-- java/lang/Integer -/
def k24 : Class := { plain "java/lang/Integer" (some 23) with
  accessFlags := 49
  interfaces := #[3, 2, 18]
  cf := some (fileOf pool24 1 #[.nestMembers #[189]] #[{ accessFlags := 9, nameIndex := 187, descriptorIndex := 188, attributes := #[] }, { accessFlags := 1, nameIndex := 67, descriptorIndex := 201, attributes := #[] }] 49 203 #[304, 306, 308] #[{ accessFlags := 25, nameIndex := 310, descriptorIndex := 194, attributes := #[] }, { accessFlags := 25, nameIndex := 312, descriptorIndex := 194, attributes := #[] }, { accessFlags := 25, nameIndex := 302, descriptorIndex := 303, attributes := #[] }, { accessFlags := 24, nameIndex := 19, descriptorIndex := 20, attributes := #[] }, { accessFlags := 24, nameIndex := 89, descriptorIndex := 86, attributes := #[] }, { accessFlags := 24, nameIndex := 85, descriptorIndex := 86, attributes := #[] }, { accessFlags := 18, nameIndex := 207, descriptorIndex := 194, attributes := #[] }, { accessFlags := 25, nameIndex := 316, descriptorIndex := 194, attributes := #[] }, { accessFlags := 25, nameIndex := 318, descriptorIndex := 194, attributes := #[] }, { accessFlags := 26, nameIndex := 320, descriptorIndex := 321, attributes := #[] }])
  fields := #[{ name := "MIN_VALUE", type := .int, accessFlags := 25, slot := 0, constantValue := 0 }, { name := "MAX_VALUE", type := .int, accessFlags := 25, slot := 1, constantValue := 0 }, { name := "TYPE", type := (.object "java/lang/Class"), accessFlags := 25, slot := 2, constantValue := 0 }, { name := "digits", type := (.array .char), accessFlags := 24, slot := 3, constantValue := 0 }, { name := "DigitTens", type := (.array .byte), accessFlags := 24, slot := 4, constantValue := 0 }, { name := "DigitOnes", type := (.array .byte), accessFlags := 24, slot := 5, constantValue := 0 }, { name := "value", type := .int, accessFlags := 18, slot := 0, constantValue := 0 }, { name := "SIZE", type := .int, accessFlags := 25, slot := 6, constantValue := 0 }, { name := "BYTES", type := .int, accessFlags := 25, slot := 7, constantValue := 0 }, { name := "serialVersionUID", type := .long, accessFlags := 26, slot := 8, constantValue := 0 }]
  methods := #[k24m0, k24m1]
  instanceTypes := #[.int]
  staticTypes := #[.int, .int, (.object "java/lang/Class"), (.array .char), (.array .byte), (.array .byte), .int, .int, .long]
  resolved := Array.replicate 453 none
  statics := none }

def pool25 : Array CpInfo := pool [(2, .class_ 4), (1, u "java/lang/Object"), (0, u "<init>"), (0, u "()V"), (0, .class_ 8), (0, u "java/lang/Integer"), (7, .class_ 18), (1, u "java/lang/Integer$IntegerCache"), (0, u "$assertionsDisabled"), (0, u "Z"), (26, u "high"), (0, u "I"), (8, u "archivedCache"), (0, u "[Ljava/lang/Integer;"), (12, u "cache"), (0, u "low")] 27

def k25m0 : Method := { name := "<init>", desc := "()V", sig := { parameters := [], returnType := none }, accessFlags := 2, code := none }
/-- java/lang/Integer$IntegerCache -/
def k25 : Class := { plain "java/lang/Integer$IntegerCache" (some 0) with
  accessFlags := 48
  interfaces := #[]
  cf := some (fileOf pool25 16 #[.nestHost 7] #[{ accessFlags := 2, nameIndex := 5, descriptorIndex := 6, attributes := #[] }] 48 2 #[] #[{ accessFlags := 24, nameIndex := 72, descriptorIndex := 48, attributes := #[] }, { accessFlags := 24, nameIndex := 47, descriptorIndex := 48, attributes := #[] }, { accessFlags := 24, nameIndex := 71, descriptorIndex := 58, attributes := #[] }, { accessFlags := 8, nameIndex := 57, descriptorIndex := 58, attributes := #[] }, { accessFlags := 4120, nameIndex := 19, descriptorIndex := 20, attributes := #[] }])
  fields := #[{ name := "low", type := .int, accessFlags := 24, slot := 0, constantValue := 0 }, { name := "high", type := .int, accessFlags := 24, slot := 1, constantValue := 0 }, { name := "cache", type := (.array (.object "java/lang/Integer")), accessFlags := 24, slot := 2, constantValue := 0 }, { name := "archivedCache", type := (.array (.object "java/lang/Integer")), accessFlags := 8, slot := 3, constantValue := 0 }, { name := "$assertionsDisabled", type := .boolean, accessFlags := 4120, slot := 4, constantValue := 0 }]
  methods := #[k25m0]
  instanceTypes := #[]
  staticTypes := #[.int, .int, (.array (.object "java/lang/Integer")), (.array (.object "java/lang/Integer")), .boolean]
  resolved := Array.replicate 100 none
  statics := some 3 }

def pool26 : Array CpInfo := pool [(1, .methodref 2 3), (0, .class_ 4), (0, .nameAndType 5 6), (0, u "java/lang/Record"), (0, u "<init>"), (0, u "()V"), (0, .fieldref 8 9), (0, .class_ 10), (0, .nameAndType 11 12), (0, u "com/example/mirante/mirante/FieldDef$Range"), (0, u "min"), (0, u "J"), (0, .fieldref 8 14), (0, .nameAndType 15 12), (0, u "max"), (12, u "(JJ)V"), (10, .class_ 40), (0, u "com/example/mirante/mirante/FieldDef")] 20

def k26c0 : Code := { maxStack := 3, maxLocals := 5, code := prog_18_method_1_code, exceptionTable := #[], attributes := #[] }
def k26m0 : Method := { name := "<init>", desc := "(JJ)V", sig := { parameters := [.long, .long], returnType := none }, accessFlags := 1, code := some k26c0 }
/-- com/example/mirante/mirante/FieldDef$Range -/
def k26 : Class := { plain "com/example/mirante/mirante/FieldDef$Range" (some 21) with
  accessFlags := 49
  interfaces := #[]
  cf := some (fileOf pool26 8 #[.nestHost 39] #[{ accessFlags := 1, nameIndex := 5, descriptorIndex := 28, attributes := #[] }] 49 2 #[] #[{ accessFlags := 18, nameIndex := 11, descriptorIndex := 12, attributes := #[] }, { accessFlags := 18, nameIndex := 15, descriptorIndex := 12, attributes := #[] }])
  fields := #[{ name := "min", type := .long, accessFlags := 18, slot := 0, constantValue := 0 }, { name := "max", type := .long, accessFlags := 18, slot := 1, constantValue := 0 }]
  methods := #[k26m0]
  instanceTypes := #[.long, .long]
  staticTypes := #[]
  resolved := Array.replicate 61 none
  statics := none }

def pool27 : Array CpInfo := pool [(2, .class_ 4), (1, u "java/lang/Object"), (0, u "<init>"), (0, u "()V"), (17, .class_ 26), (1, u "jdk/internal/util/Preconditions"), (28, .class_ 56), (0, u "jdk/internal/util/Preconditions$4"), (57, .class_ 115), (0, u "jdk/internal/util/Preconditions$1"), (7, u "SIOOBE_FORMATTER"), (0, u "Ljava/util/function/BiFunction;"), (0, .class_ 126), (0, u "jdk/internal/util/Preconditions$2"), (3, u "AIOOBE_FORMATTER"), (0, .class_ 132), (0, u "jdk/internal/util/Preconditions$3"), (3, u "IOOBE_FORMATTER")] 57

def k27m0 : Method := { name := "<init>", desc := "()V", sig := { parameters := [], returnType := none }, accessFlags := 1, code := none }
/-- jdk/internal/util/Preconditions -/
def k27 : Class := { plain "jdk/internal/util/Preconditions" (some 0) with
  accessFlags := 33
  interfaces := #[]
  cf := some (fileOf pool27 24 #[.nestMembers #[55, 131, 125, 114]] #[{ accessFlags := 1, nameIndex := 5, descriptorIndex := 6, attributes := #[] }] 33 2 #[] #[{ accessFlags := 25, nameIndex := 123, descriptorIndex := 124, attributes := #[] }, { accessFlags := 25, nameIndex := 130, descriptorIndex := 124, attributes := #[] }, { accessFlags := 25, nameIndex := 136, descriptorIndex := 124, attributes := #[] }])
  fields := #[{ name := "SIOOBE_FORMATTER", type := (.object "java/util/function/BiFunction"), accessFlags := 25, slot := 0, constantValue := 0 }, { name := "AIOOBE_FORMATTER", type := (.object "java/util/function/BiFunction"), accessFlags := 25, slot := 1, constantValue := 0 }, { name := "IOOBE_FORMATTER", type := (.object "java/util/function/BiFunction"), accessFlags := 25, slot := 2, constantValue := 0 }]
  methods := #[k27m0]
  instanceTypes := #[]
  staticTypes := #[(.object "java/util/function/BiFunction"), (.object "java/util/function/BiFunction"), (.object "java/util/function/BiFunction")]
  resolved := Array.replicate 194 none
  statics := some 4 }

def pool28 : Array CpInfo := pool [(9, u "<init>"), (6, .class_ 18), (1, u "java/lang/Object"), (0, u "()V"), (1, .class_ 23), (1, u "jdk/internal/util/ArraysSupport"), (0, u "LOG2_ARRAY_LONG_INDEX_SCALE"), (0, u "I"), (2, u "U"), (0, u "Ljdk/internal/misc/Unsafe;"), (8, u "BIG_ENDIAN"), (0, u "Z"), (8, u "LOG2_BYTE_BIT_SIZE"), (4, u "LOG2_ARRAY_INT_INDEX_SCALE"), (54, u "JLA"), (0, u "Ljdk/internal/access/JavaLangAccess;"), (11, u "LOG2_ARRAY_BOOLEAN_INDEX_SCALE"), (9, u "LOG2_ARRAY_BYTE_INDEX_SCALE"), (5, u "LOG2_ARRAY_CHAR_INDEX_SCALE"), (5, u "LOG2_ARRAY_SHORT_INDEX_SCALE"), (18, u "LOG2_ARRAY_FLOAT_INDEX_SCALE"), (24, u "LOG2_ARRAY_DOUBLE_INDEX_SCALE"), (89, u "T_BOOLEAN"), (2, u "T_CHAR"), (1, u "T_FLOAT"), (1, u "T_DOUBLE"), (1, u "T_BYTE"), (1, u "T_SHORT"), (1, u "T_INT"), (1, u "T_LONG"), (1, u "SOFT_MAX_ARRAY_LENGTH")] 83

def k28m0 : Method := { name := "<init>", desc := "()V", sig := { parameters := [], returnType := none }, accessFlags := 2, code := none }
/-- jdk/internal/util/ArraysSupport -/
def k28 : Class := { plain "jdk/internal/util/ArraysSupport" (some 0) with
  accessFlags := 33
  interfaces := #[]
  cf := some (fileOf pool28 21 #[] #[{ accessFlags := 2, nameIndex := 9, descriptorIndex := 19, attributes := #[] }] 33 16 #[] #[{ accessFlags := 24, nameIndex := 28, descriptorIndex := 29, attributes := #[] }, { accessFlags := 26, nameIndex := 38, descriptorIndex := 39, attributes := #[] }, { accessFlags := 25, nameIndex := 121, descriptorIndex := 25, attributes := #[] }, { accessFlags := 25, nameIndex := 131, descriptorIndex := 25, attributes := #[] }, { accessFlags := 25, nameIndex := 137, descriptorIndex := 25, attributes := #[] }, { accessFlags := 25, nameIndex := 143, descriptorIndex := 25, attributes := #[] }, { accessFlags := 25, nameIndex := 53, descriptorIndex := 25, attributes := #[] }, { accessFlags := 25, nameIndex := 24, descriptorIndex := 25, attributes := #[] }, { accessFlags := 25, nameIndex := 162, descriptorIndex := 25, attributes := #[] }, { accessFlags := 25, nameIndex := 187, descriptorIndex := 25, attributes := #[] }, { accessFlags := 26, nameIndex := 48, descriptorIndex := 25, attributes := #[] }, { accessFlags := 25, nameIndex := 277, descriptorIndex := 25, attributes := #[] }, { accessFlags := 25, nameIndex := 280, descriptorIndex := 25, attributes := #[] }, { accessFlags := 25, nameIndex := 282, descriptorIndex := 25, attributes := #[] }, { accessFlags := 25, nameIndex := 284, descriptorIndex := 25, attributes := #[] }, { accessFlags := 25, nameIndex := 286, descriptorIndex := 25, attributes := #[] }, { accessFlags := 25, nameIndex := 288, descriptorIndex := 25, attributes := #[] }, { accessFlags := 25, nameIndex := 290, descriptorIndex := 25, attributes := #[] }, { accessFlags := 25, nameIndex := 292, descriptorIndex := 25, attributes := #[] }, { accessFlags := 26, nameIndex := 108, descriptorIndex := 109, attributes := #[] }, { accessFlags := 25, nameIndex := 294, descriptorIndex := 25, attributes := #[] }])
  fields := #[{ name := "U", type := (.object "jdk/internal/misc/Unsafe"), accessFlags := 24, slot := 0, constantValue := 0 }, { name := "BIG_ENDIAN", type := .boolean, accessFlags := 26, slot := 1, constantValue := 0 }, { name := "LOG2_ARRAY_BOOLEAN_INDEX_SCALE", type := .int, accessFlags := 25, slot := 2, constantValue := 0 }, { name := "LOG2_ARRAY_BYTE_INDEX_SCALE", type := .int, accessFlags := 25, slot := 3, constantValue := 0 }, { name := "LOG2_ARRAY_CHAR_INDEX_SCALE", type := .int, accessFlags := 25, slot := 4, constantValue := 0 }, { name := "LOG2_ARRAY_SHORT_INDEX_SCALE", type := .int, accessFlags := 25, slot := 5, constantValue := 0 }, { name := "LOG2_ARRAY_INT_INDEX_SCALE", type := .int, accessFlags := 25, slot := 6, constantValue := 0 }, { name := "LOG2_ARRAY_LONG_INDEX_SCALE", type := .int, accessFlags := 25, slot := 7, constantValue := 0 }, { name := "LOG2_ARRAY_FLOAT_INDEX_SCALE", type := .int, accessFlags := 25, slot := 8, constantValue := 0 }, { name := "LOG2_ARRAY_DOUBLE_INDEX_SCALE", type := .int, accessFlags := 25, slot := 9, constantValue := 0 }, { name := "LOG2_BYTE_BIT_SIZE", type := .int, accessFlags := 26, slot := 10, constantValue := 0 }, { name := "T_BOOLEAN", type := .int, accessFlags := 25, slot := 11, constantValue := 0 }, { name := "T_CHAR", type := .int, accessFlags := 25, slot := 12, constantValue := 0 }, { name := "T_FLOAT", type := .int, accessFlags := 25, slot := 13, constantValue := 0 }, { name := "T_DOUBLE", type := .int, accessFlags := 25, slot := 14, constantValue := 0 }, { name := "T_BYTE", type := .int, accessFlags := 25, slot := 15, constantValue := 0 }, { name := "T_SHORT", type := .int, accessFlags := 25, slot := 16, constantValue := 0 }, { name := "T_INT", type := .int, accessFlags := 25, slot := 17, constantValue := 0 }, { name := "T_LONG", type := .int, accessFlags := 25, slot := 18, constantValue := 0 }, { name := "JLA", type := (.object "jdk/internal/access/JavaLangAccess"), accessFlags := 26, slot := 19, constantValue := 0 }, { name := "SOFT_MAX_ARRAY_LENGTH", type := .int, accessFlags := 25, slot := 20, constantValue := 0 }]
  methods := #[k28m0]
  instanceTypes := #[]
  staticTypes := #[(.object "jdk/internal/misc/Unsafe"), .boolean, .int, .int, .int, .int, .int, .int, .int, .int, .int, .int, .int, .int, .int, .int, .int, .int, .int, (.object "jdk/internal/access/JavaLangAccess"), .int]
  resolved := Array.replicate 378 none
  statics := none }

/-- the primitive byte -/
def k29 : Class := { plain "byte" none with kind := .primitive 'B', accessFlags := 0x411 }
/-- [B -/
def k30 : Class := { plain "[B" (some 0) with kind := .array 29 .byte, interfaces := #[14, 4], accessFlags := 1041 }

/-- the primitive int -/
def k31 : Class := { plain "int" none with kind := .primitive 'I', accessFlags := 0x411 }
/-- [I -/
def k32 : Class := { plain "[I" (some 0) with kind := .array 31 .int, interfaces := #[14, 4], accessFlags := 1041 }

/-- [Ljava/lang/Integer; -/
def k33 : Class := { plain "[Ljava/lang/Integer;" (some 0) with kind := .array 24 (.object "java/lang/Integer"), interfaces := #[14, 4], accessFlags := 1041 }

/-- [Ljava/lang/Object; -/
def k34 : Class := { plain "[Ljava/lang/Object;" (some 0) with kind := .array 0 (.object "java/lang/Object"), interfaces := #[14, 4], accessFlags := 1041 }

def heap : Heap := #[{ cls := 6, slots := #[.ref 6, .ref 7, .ref 8, .null], vm := .statics 6 },
  { cls := 15, slots := #[.long 0, .int 0, .ref 265, .ref 266], vm := .statics 15 },
  { cls := 19, slots := #[.long 0, .int 1, .null, .int 0, .null, .int 0, .int 0], vm := .statics 19 },
  { cls := 25, slots := #[.int 0, .int 127, .ref 5, .null, .int 0], vm := .statics 25 },
  { cls := 27, slots := #[.null, .null, .null], vm := .statics 27 },
  { cls := 33, slots := #[.ref 9, .ref 10, .ref 11, .ref 12, .ref 13, .ref 14, .ref 15, .ref 16, .ref 17, .ref 18, .ref 19, .ref 20, .ref 21, .ref 22, .ref 23, .ref 24, .ref 25, .ref 26, .ref 27, .ref 28, .ref 29, .ref 30, .ref 31, .ref 32, .ref 33, .ref 34, .ref 35, .ref 36, .ref 37, .ref 38, .ref 39, .ref 40, .ref 41, .ref 42, .ref 43, .ref 44, .ref 45, .ref 46, .ref 47, .ref 48, .ref 49, .ref 50, .ref 51, .ref 52, .ref 53, .ref 54, .ref 55, .ref 56, .ref 57, .ref 58, .ref 59, .ref 60, .ref 61, .ref 62, .ref 63, .ref 64, .ref 65, .ref 66, .ref 67, .ref 68, .ref 69, .ref 70, .ref 71, .ref 72, .ref 73, .ref 74, .ref 75, .ref 76, .ref 77, .ref 78, .ref 79, .ref 80, .ref 81, .ref 82, .ref 83, .ref 84, .ref 85, .ref 86, .ref 87, .ref 88, .ref 89, .ref 90, .ref 91, .ref 92, .ref 93, .ref 94, .ref 95, .ref 96, .ref 97, .ref 98, .ref 99, .ref 100, .ref 101, .ref 102, .ref 103, .ref 104, .ref 105, .ref 106, .ref 107, .ref 108, .ref 109, .ref 110, .ref 111, .ref 112, .ref 113, .ref 114, .ref 115, .ref 116, .ref 117, .ref 118, .ref 119, .ref 120, .ref 121, .ref 122, .ref 123, .ref 124, .ref 125, .ref 126, .ref 127, .ref 128, .ref 129, .ref 130, .ref 131, .ref 132, .ref 133, .ref 134, .ref 135, .ref 136, .ref 137, .ref 138, .ref 139, .ref 140, .ref 141, .ref 142, .ref 143, .ref 144, .ref 145, .ref 146, .ref 147, .ref 148, .ref 149, .ref 150, .ref 151, .ref 152, .ref 153, .ref 154, .ref 155, .ref 156, .ref 157, .ref 158, .ref 159, .ref 160, .ref 161, .ref 162, .ref 163, .ref 164, .ref 165, .ref 166, .ref 167, .ref 168, .ref 169, .ref 170, .ref 171, .ref 172, .ref 173, .ref 174, .ref 175, .ref 176, .ref 177, .ref 178, .ref 179, .ref 180, .ref 181, .ref 182, .ref 183, .ref 184, .ref 185, .ref 186, .ref 187, .ref 188, .ref 189, .ref 190, .ref 191, .ref 192, .ref 193, .ref 194, .ref 195, .ref 196, .ref 197, .ref 198, .ref 199, .ref 200, .ref 201, .ref 202, .ref 203, .ref 204, .ref 205, .ref 206, .ref 207, .ref 208, .ref 209, .ref 210, .ref 211, .ref 212, .ref 213, .ref 214, .ref 215, .ref 216, .ref 217, .ref 218, .ref 219, .ref 220, .ref 221, .ref 222, .ref 223, .ref 224, .ref 225, .ref 226, .ref 227, .ref 228, .ref 229, .ref 230, .ref 231, .ref 232, .ref 233, .ref 234, .ref 235, .ref 236, .ref 237, .ref 238, .ref 239, .ref 240, .ref 241, .ref 242, .ref 243, .ref 244, .ref 245, .ref 246, .ref 247, .ref 248, .ref 249, .ref 250, .ref 251, .ref 252, .ref 253, .ref 254, .ref 255, .ref 256, .ref 257, .ref 258, .ref 259, .ref 260, .ref 261, .ref 262, .ref 263, .ref 264], vm := .none },
  { cls := 6, slots := #[.null, .int 0, .int 0], vm := .none },
  { cls := 6, slots := #[.null, .int 1, .int 0], vm := .none },
  { cls := 6, slots := #[.null, .int 2, .int 0], vm := .none },
  { cls := 24, slots := #[.int (-128)], vm := .none },
  { cls := 24, slots := #[.int (-127)], vm := .none },
  { cls := 24, slots := #[.int (-126)], vm := .none },
  { cls := 24, slots := #[.int (-125)], vm := .none },
  { cls := 24, slots := #[.int (-124)], vm := .none },
  { cls := 24, slots := #[.int (-123)], vm := .none },
  { cls := 24, slots := #[.int (-122)], vm := .none },
  { cls := 24, slots := #[.int (-121)], vm := .none },
  { cls := 24, slots := #[.int (-120)], vm := .none },
  { cls := 24, slots := #[.int (-119)], vm := .none },
  { cls := 24, slots := #[.int (-118)], vm := .none },
  { cls := 24, slots := #[.int (-117)], vm := .none },
  { cls := 24, slots := #[.int (-116)], vm := .none },
  { cls := 24, slots := #[.int (-115)], vm := .none },
  { cls := 24, slots := #[.int (-114)], vm := .none },
  { cls := 24, slots := #[.int (-113)], vm := .none },
  { cls := 24, slots := #[.int (-112)], vm := .none },
  { cls := 24, slots := #[.int (-111)], vm := .none },
  { cls := 24, slots := #[.int (-110)], vm := .none },
  { cls := 24, slots := #[.int (-109)], vm := .none },
  { cls := 24, slots := #[.int (-108)], vm := .none },
  { cls := 24, slots := #[.int (-107)], vm := .none },
  { cls := 24, slots := #[.int (-106)], vm := .none },
  { cls := 24, slots := #[.int (-105)], vm := .none },
  { cls := 24, slots := #[.int (-104)], vm := .none },
  { cls := 24, slots := #[.int (-103)], vm := .none },
  { cls := 24, slots := #[.int (-102)], vm := .none },
  { cls := 24, slots := #[.int (-101)], vm := .none },
  { cls := 24, slots := #[.int (-100)], vm := .none },
  { cls := 24, slots := #[.int (-99)], vm := .none },
  { cls := 24, slots := #[.int (-98)], vm := .none },
  { cls := 24, slots := #[.int (-97)], vm := .none },
  { cls := 24, slots := #[.int (-96)], vm := .none },
  { cls := 24, slots := #[.int (-95)], vm := .none },
  { cls := 24, slots := #[.int (-94)], vm := .none },
  { cls := 24, slots := #[.int (-93)], vm := .none },
  { cls := 24, slots := #[.int (-92)], vm := .none },
  { cls := 24, slots := #[.int (-91)], vm := .none },
  { cls := 24, slots := #[.int (-90)], vm := .none },
  { cls := 24, slots := #[.int (-89)], vm := .none },
  { cls := 24, slots := #[.int (-88)], vm := .none },
  { cls := 24, slots := #[.int (-87)], vm := .none },
  { cls := 24, slots := #[.int (-86)], vm := .none },
  { cls := 24, slots := #[.int (-85)], vm := .none },
  { cls := 24, slots := #[.int (-84)], vm := .none },
  { cls := 24, slots := #[.int (-83)], vm := .none },
  { cls := 24, slots := #[.int (-82)], vm := .none },
  { cls := 24, slots := #[.int (-81)], vm := .none },
  { cls := 24, slots := #[.int (-80)], vm := .none },
  { cls := 24, slots := #[.int (-79)], vm := .none },
  { cls := 24, slots := #[.int (-78)], vm := .none },
  { cls := 24, slots := #[.int (-77)], vm := .none },
  { cls := 24, slots := #[.int (-76)], vm := .none },
  { cls := 24, slots := #[.int (-75)], vm := .none },
  { cls := 24, slots := #[.int (-74)], vm := .none },
  { cls := 24, slots := #[.int (-73)], vm := .none },
  { cls := 24, slots := #[.int (-72)], vm := .none },
  { cls := 24, slots := #[.int (-71)], vm := .none },
  { cls := 24, slots := #[.int (-70)], vm := .none },
  { cls := 24, slots := #[.int (-69)], vm := .none },
  { cls := 24, slots := #[.int (-68)], vm := .none },
  { cls := 24, slots := #[.int (-67)], vm := .none },
  { cls := 24, slots := #[.int (-66)], vm := .none },
  { cls := 24, slots := #[.int (-65)], vm := .none },
  { cls := 24, slots := #[.int (-64)], vm := .none },
  { cls := 24, slots := #[.int (-63)], vm := .none },
  { cls := 24, slots := #[.int (-62)], vm := .none },
  { cls := 24, slots := #[.int (-61)], vm := .none },
  { cls := 24, slots := #[.int (-60)], vm := .none },
  { cls := 24, slots := #[.int (-59)], vm := .none },
  { cls := 24, slots := #[.int (-58)], vm := .none },
  { cls := 24, slots := #[.int (-57)], vm := .none },
  { cls := 24, slots := #[.int (-56)], vm := .none },
  { cls := 24, slots := #[.int (-55)], vm := .none },
  { cls := 24, slots := #[.int (-54)], vm := .none },
  { cls := 24, slots := #[.int (-53)], vm := .none },
  { cls := 24, slots := #[.int (-52)], vm := .none },
  { cls := 24, slots := #[.int (-51)], vm := .none },
  { cls := 24, slots := #[.int (-50)], vm := .none },
  { cls := 24, slots := #[.int (-49)], vm := .none },
  { cls := 24, slots := #[.int (-48)], vm := .none },
  { cls := 24, slots := #[.int (-47)], vm := .none },
  { cls := 24, slots := #[.int (-46)], vm := .none },
  { cls := 24, slots := #[.int (-45)], vm := .none },
  { cls := 24, slots := #[.int (-44)], vm := .none },
  { cls := 24, slots := #[.int (-43)], vm := .none },
  { cls := 24, slots := #[.int (-42)], vm := .none },
  { cls := 24, slots := #[.int (-41)], vm := .none },
  { cls := 24, slots := #[.int (-40)], vm := .none },
  { cls := 24, slots := #[.int (-39)], vm := .none },
  { cls := 24, slots := #[.int (-38)], vm := .none },
  { cls := 24, slots := #[.int (-37)], vm := .none },
  { cls := 24, slots := #[.int (-36)], vm := .none },
  { cls := 24, slots := #[.int (-35)], vm := .none },
  { cls := 24, slots := #[.int (-34)], vm := .none },
  { cls := 24, slots := #[.int (-33)], vm := .none },
  { cls := 24, slots := #[.int (-32)], vm := .none },
  { cls := 24, slots := #[.int (-31)], vm := .none },
  { cls := 24, slots := #[.int (-30)], vm := .none },
  { cls := 24, slots := #[.int (-29)], vm := .none },
  { cls := 24, slots := #[.int (-28)], vm := .none },
  { cls := 24, slots := #[.int (-27)], vm := .none },
  { cls := 24, slots := #[.int (-26)], vm := .none },
  { cls := 24, slots := #[.int (-25)], vm := .none },
  { cls := 24, slots := #[.int (-24)], vm := .none },
  { cls := 24, slots := #[.int (-23)], vm := .none },
  { cls := 24, slots := #[.int (-22)], vm := .none },
  { cls := 24, slots := #[.int (-21)], vm := .none },
  { cls := 24, slots := #[.int (-20)], vm := .none },
  { cls := 24, slots := #[.int (-19)], vm := .none },
  { cls := 24, slots := #[.int (-18)], vm := .none },
  { cls := 24, slots := #[.int (-17)], vm := .none },
  { cls := 24, slots := #[.int (-16)], vm := .none },
  { cls := 24, slots := #[.int (-15)], vm := .none },
  { cls := 24, slots := #[.int (-14)], vm := .none },
  { cls := 24, slots := #[.int (-13)], vm := .none },
  { cls := 24, slots := #[.int (-12)], vm := .none },
  { cls := 24, slots := #[.int (-11)], vm := .none },
  { cls := 24, slots := #[.int (-10)], vm := .none },
  { cls := 24, slots := #[.int (-9)], vm := .none },
  { cls := 24, slots := #[.int (-8)], vm := .none },
  { cls := 24, slots := #[.int (-7)], vm := .none },
  { cls := 24, slots := #[.int (-6)], vm := .none },
  { cls := 24, slots := #[.int (-5)], vm := .none },
  { cls := 24, slots := #[.int (-4)], vm := .none },
  { cls := 24, slots := #[.int (-3)], vm := .none },
  { cls := 24, slots := #[.int (-2)], vm := .none },
  { cls := 24, slots := #[.int (-1)], vm := .none },
  { cls := 24, slots := #[.int 0], vm := .none },
  { cls := 24, slots := #[.int 1], vm := .none },
  { cls := 24, slots := #[.int 2], vm := .none },
  { cls := 24, slots := #[.int 3], vm := .none },
  { cls := 24, slots := #[.int 4], vm := .none },
  { cls := 24, slots := #[.int 5], vm := .none },
  { cls := 24, slots := #[.int 6], vm := .none },
  { cls := 24, slots := #[.int 7], vm := .none },
  { cls := 24, slots := #[.int 8], vm := .none },
  { cls := 24, slots := #[.int 9], vm := .none },
  { cls := 24, slots := #[.int 10], vm := .none },
  { cls := 24, slots := #[.int 11], vm := .none },
  { cls := 24, slots := #[.int 12], vm := .none },
  { cls := 24, slots := #[.int 13], vm := .none },
  { cls := 24, slots := #[.int 14], vm := .none },
  { cls := 24, slots := #[.int 15], vm := .none },
  { cls := 24, slots := #[.int 16], vm := .none },
  { cls := 24, slots := #[.int 17], vm := .none },
  { cls := 24, slots := #[.int 18], vm := .none },
  { cls := 24, slots := #[.int 19], vm := .none },
  { cls := 24, slots := #[.int 20], vm := .none },
  { cls := 24, slots := #[.int 21], vm := .none },
  { cls := 24, slots := #[.int 22], vm := .none },
  { cls := 24, slots := #[.int 23], vm := .none },
  { cls := 24, slots := #[.int 24], vm := .none },
  { cls := 24, slots := #[.int 25], vm := .none },
  { cls := 24, slots := #[.int 26], vm := .none },
  { cls := 24, slots := #[.int 27], vm := .none },
  { cls := 24, slots := #[.int 28], vm := .none },
  { cls := 24, slots := #[.int 29], vm := .none },
  { cls := 24, slots := #[.int 30], vm := .none },
  { cls := 24, slots := #[.int 31], vm := .none },
  { cls := 24, slots := #[.int 32], vm := .none },
  { cls := 24, slots := #[.int 33], vm := .none },
  { cls := 24, slots := #[.int 34], vm := .none },
  { cls := 24, slots := #[.int 35], vm := .none },
  { cls := 24, slots := #[.int 36], vm := .none },
  { cls := 24, slots := #[.int 37], vm := .none },
  { cls := 24, slots := #[.int 38], vm := .none },
  { cls := 24, slots := #[.int 39], vm := .none },
  { cls := 24, slots := #[.int 40], vm := .none },
  { cls := 24, slots := #[.int 41], vm := .none },
  { cls := 24, slots := #[.int 42], vm := .none },
  { cls := 24, slots := #[.int 43], vm := .none },
  { cls := 24, slots := #[.int 44], vm := .none },
  { cls := 24, slots := #[.int 45], vm := .none },
  { cls := 24, slots := #[.int 46], vm := .none },
  { cls := 24, slots := #[.int 47], vm := .none },
  { cls := 24, slots := #[.int 48], vm := .none },
  { cls := 24, slots := #[.int 49], vm := .none },
  { cls := 24, slots := #[.int 50], vm := .none },
  { cls := 24, slots := #[.int 51], vm := .none },
  { cls := 24, slots := #[.int 52], vm := .none },
  { cls := 24, slots := #[.int 53], vm := .none },
  { cls := 24, slots := #[.int 54], vm := .none },
  { cls := 24, slots := #[.int 55], vm := .none },
  { cls := 24, slots := #[.int 56], vm := .none },
  { cls := 24, slots := #[.int 57], vm := .none },
  { cls := 24, slots := #[.int 58], vm := .none },
  { cls := 24, slots := #[.int 59], vm := .none },
  { cls := 24, slots := #[.int 60], vm := .none },
  { cls := 24, slots := #[.int 61], vm := .none },
  { cls := 24, slots := #[.int 62], vm := .none },
  { cls := 24, slots := #[.int 63], vm := .none },
  { cls := 24, slots := #[.int 64], vm := .none },
  { cls := 24, slots := #[.int 65], vm := .none },
  { cls := 24, slots := #[.int 66], vm := .none },
  { cls := 24, slots := #[.int 67], vm := .none },
  { cls := 24, slots := #[.int 68], vm := .none },
  { cls := 24, slots := #[.int 69], vm := .none },
  { cls := 24, slots := #[.int 70], vm := .none },
  { cls := 24, slots := #[.int 71], vm := .none },
  { cls := 24, slots := #[.int 72], vm := .none },
  { cls := 24, slots := #[.int 73], vm := .none },
  { cls := 24, slots := #[.int 74], vm := .none },
  { cls := 24, slots := #[.int 75], vm := .none },
  { cls := 24, slots := #[.int 76], vm := .none },
  { cls := 24, slots := #[.int 77], vm := .none },
  { cls := 24, slots := #[.int 78], vm := .none },
  { cls := 24, slots := #[.int 79], vm := .none },
  { cls := 24, slots := #[.int 80], vm := .none },
  { cls := 24, slots := #[.int 81], vm := .none },
  { cls := 24, slots := #[.int 82], vm := .none },
  { cls := 24, slots := #[.int 83], vm := .none },
  { cls := 24, slots := #[.int 84], vm := .none },
  { cls := 24, slots := #[.int 85], vm := .none },
  { cls := 24, slots := #[.int 86], vm := .none },
  { cls := 24, slots := #[.int 87], vm := .none },
  { cls := 24, slots := #[.int 88], vm := .none },
  { cls := 24, slots := #[.int 89], vm := .none },
  { cls := 24, slots := #[.int 90], vm := .none },
  { cls := 24, slots := #[.int 91], vm := .none },
  { cls := 24, slots := #[.int 92], vm := .none },
  { cls := 24, slots := #[.int 93], vm := .none },
  { cls := 24, slots := #[.int 94], vm := .none },
  { cls := 24, slots := #[.int 95], vm := .none },
  { cls := 24, slots := #[.int 96], vm := .none },
  { cls := 24, slots := #[.int 97], vm := .none },
  { cls := 24, slots := #[.int 98], vm := .none },
  { cls := 24, slots := #[.int 99], vm := .none },
  { cls := 24, slots := #[.int 100], vm := .none },
  { cls := 24, slots := #[.int 101], vm := .none },
  { cls := 24, slots := #[.int 102], vm := .none },
  { cls := 24, slots := #[.int 103], vm := .none },
  { cls := 24, slots := #[.int 104], vm := .none },
  { cls := 24, slots := #[.int 105], vm := .none },
  { cls := 24, slots := #[.int 106], vm := .none },
  { cls := 24, slots := #[.int 107], vm := .none },
  { cls := 24, slots := #[.int 108], vm := .none },
  { cls := 24, slots := #[.int 109], vm := .none },
  { cls := 24, slots := #[.int 110], vm := .none },
  { cls := 24, slots := #[.int 111], vm := .none },
  { cls := 24, slots := #[.int 112], vm := .none },
  { cls := 24, slots := #[.int 113], vm := .none },
  { cls := 24, slots := #[.int 114], vm := .none },
  { cls := 24, slots := #[.int 115], vm := .none },
  { cls := 24, slots := #[.int 116], vm := .none },
  { cls := 24, slots := #[.int 117], vm := .none },
  { cls := 24, slots := #[.int 118], vm := .none },
  { cls := 24, slots := #[.int 119], vm := .none },
  { cls := 24, slots := #[.int 120], vm := .none },
  { cls := 24, slots := #[.int 121], vm := .none },
  { cls := 24, slots := #[.int 122], vm := .none },
  { cls := 24, slots := #[.int 123], vm := .none },
  { cls := 24, slots := #[.int 124], vm := .none },
  { cls := 24, slots := #[.int 125], vm := .none },
  { cls := 24, slots := #[.int 126], vm := .none },
  { cls := 24, slots := #[.int 127], vm := .none },
  { cls := 34, slots := #[], vm := .none },
  { cls := 34, slots := #[], vm := .none }]
def classes : Array Class := #[k0, k1, k2, k3, k4, k5, k6, k7, k8, k9, k10, k11, k12, k13, k14, k15, k16, k17, k18, k19, k20, k21, k22, k23, k24, k25, k26, k27, k28, k29, k30, k31, k32, k33, k34]
def interned : List (Array UInt16 × Addr) := []
def slotsUsed : Nat := 544
def theMethod : MethodId := ⟨1, 1⟩
def args0 : Array Value := #[.int 5, .int 5, .int 5, .int 5, .int 5, .int 5]
def aboutOver (below : List Frame) : State where
  vm := { classes := classes, interned := interned.toArray }
  heap := heap
  slotsUsed := slotsUsed
  threads := #[{ frames := .invoking theMethod args0 :: below }]
def below0 : List Frame := [.native { method := ⟨0, 0⟩, args := #[] }]
def about1 : State := aboutOver below0
def p0 : Program := .bare "" "" ""
def e0 : Env := launch0.env 0 0 0
theorem w_frames : about1.frames = Frame.invoking theMethod args0 :: below0 := rfl
set_option maxRecDepth 65536 in
theorem w_args : argsFit about1.vm theMethod args0 = true := by decide +kernel
set_option maxRecDepth 65536 in
theorem w_heap : heapFits about1 = true := by decide +kernel
set_option maxRecDepth 65536 in
theorem w_runnable : about1.curStatus? = some .runnable := by decide +kernel
set_option maxRecDepth 65536 in
theorem w_alone : about1.alone = true := by decide +kernel
set_option maxRecDepth 65536 in
theorem w_named : about1.methodNamed? x = some theMethod := by decide +kernel
set_option maxRecDepth 65536 in
theorem w_hears : about1.hears theMethod below0 = true := by decide +kernel
set_option maxRecDepth 65536 in
theorem w_ripe : about1.ripe theMethod args0 below0 = true := by decide +kernel
theorem w_running : about1.status = .running := rfl
set_option maxRecDepth 65536 in
theorem w_room : about1.hasRoom e0.platform room_1 = true :=
  launch0.hasRoom_least _ room_1 (by decide +kernel) (by decide +kernel) (by decide +kernel) (by decide +kernel) (by decide +kernel) (by decide +kernel)
theorem allAtoms_all (ts : List Jvm.Cond) (a : Array Jvm.Value) (st : Jvm.State) : (allAtoms ts).before a st = ts.all (fun c => c.before a st) := by
  induction ts with
  | nil => rfl
  | cons c t ih =>
    show (Jvm.Cond.and c (allAtoms t)).before a st = _
    rw [Jvm.Cond.before_and, ih, List.all_cons]
def words1 : List Jvm.Cond := Jvm.Cond.code x code maxLocals ret :: tables_1
/-- a 'code' word, met by the world's own term for the bytes: nothing is compared byte by byte -/
theorem code_word {y : MethodName} {bytes : ByteArray} {mx : Nat} {rt : Option FieldType} {a : Array Value} {s : State} {m : MethodId} {meth : Method} {c : Code} (h1 : s.methodNamed? y = some m) (h2 : s.vm.method? m = some meth) (h3 : meth.code = some c) (h4 : c.code = bytes)
    (h5 : (c.maxLocals == mx && c.exceptionTable.isEmpty && decide (c.maxStack ≤ mostOperands) && decide (meth.sig.returnType = rt) && !meth.locks && decide (parseMethodDescriptor y.desc = some meth.sig)) = true) : (Jvm.Cond.code y bytes mx rt).before a s = true := by
  simp only [Bool.and_eq_true, beq_iff_eq, Bool.not_eq_true', decide_eq_true_eq] at h5
  obtain ⟨⟨⟨⟨⟨g1, g2⟩, g3⟩, g4⟩, g5⟩, g6⟩ := h5
  simp [Cond.before, Cond.holds, Cond.value, h1, h2, h3, h4, g1, g2, g3, g4, g5, g6]
def isCode : Jvm.Cond → Bool
  | .code _ _ _ _ => true
  | _ => false
theorem all_split {L : List Jvm.Cond} {P : Jvm.Cond → Bool} (h1 : L.all (fun c => isCode c || P c) = true) (h2 : ∀ c ∈ L.filter isCode, P c = true) : L.all P = true := by
  refine List.all_eq_true.mpr fun c hc => ?_
  have h := List.all_eq_true.mp h1 c hc
  rcases Bool.eq_false_or_eq_true (isCode c) with hi | hi
  · exact h2 c (List.mem_filter.mpr ⟨hc, hi⟩)
  · simpa [hi] using h
set_option maxRecDepth 65536 in
theorem w_c0 : (Jvm.Cond.code x code maxLocals ret).before args0 about1 = true := code_word (m := ⟨1, 1⟩) (meth := k1m1) (c := k1c1) (by decide +kernel) rfl rfl rfl (by decide +kernel)
set_option maxRecDepth 65536 in
theorem w_c1 : (Jvm.Cond.code ({ cls := "java/util/ArrayList", name := "<init>", desc := "()V" } : Jvm.MethodName) jdk_38_method_2_code (1 : Nat) (Option.none : Option Jvm.ClassFile.FieldType)).before args0 about1 = true := code_word (m := ⟨15, 0⟩) (meth := k15m0) (c := k15c0) (by decide +kernel) rfl rfl rfl (by decide +kernel)
set_option maxRecDepth 65536 in
theorem w_c2 : (Jvm.Cond.code ({ cls := "java/util/AbstractList", name := "<init>", desc := "()V" } : Jvm.MethodName) jdk_39_method_1_code (1 : Nat) (Option.none : Option Jvm.ClassFile.FieldType)).before args0 about1 = true := code_word (m := ⟨12, 0⟩) (meth := k12m0) (c := k12c0) (by decide +kernel) rfl rfl rfl (by decide +kernel)
set_option maxRecDepth 65536 in
theorem w_c3 : (Jvm.Cond.code ({ cls := "java/util/AbstractCollection", name := "<init>", desc := "()V" } : Jvm.MethodName) jdk_22_method_1_code (1 : Nat) (Option.none : Option Jvm.ClassFile.FieldType)).before args0 about1 = true := code_word (m := ⟨9, 0⟩) (meth := k9m0) (c := k9c0) (by decide +kernel) rfl rfl rfl (by decide +kernel)
set_option maxRecDepth 65536 in
theorem w_c4 : (Jvm.Cond.code ({ cls := "java/lang/Object", name := "<init>", desc := "()V" } : Jvm.MethodName) object_method_1_code (1 : Nat) (Option.none : Option Jvm.ClassFile.FieldType)).before args0 about1 = true := code_word (m := ⟨0, 0⟩) (meth := k0m0) (c := k0c0) (by decide +kernel) rfl rfl rfl (by decide +kernel)
set_option maxRecDepth 65536 in
theorem w_c5 : (Jvm.Cond.code ({ cls := "java/util/ArrayList", name := "add", desc := "(Ljava/lang/Object;)Z" } : Jvm.MethodName) jdk_38_method_25_code (2 : Nat) (Option.some Jvm.ClassFile.FieldType.boolean)).before args0 about1 = true := code_word (m := ⟨15, 5⟩) (meth := k15m5) (c := k15c5) (by decide +kernel) rfl rfl rfl (by decide +kernel)
set_option maxRecDepth 65536 in
theorem w_c6 : (Jvm.Cond.code ({ cls := "java/util/ArrayList", name := "add", desc := "(Ljava/lang/Object;[Ljava/lang/Object;I)V" } : Jvm.MethodName) jdk_38_method_24_code (4 : Nat) (Option.none : Option Jvm.ClassFile.FieldType)).before args0 about1 = true := code_word (m := ⟨15, 4⟩) (meth := k15m4) (c := k15c4) (by decide +kernel) rfl rfl rfl (by decide +kernel)
set_option maxRecDepth 65536 in
theorem w_c7 : (Jvm.Cond.code ({ cls := "java/util/ArrayList", name := "grow", desc := "()[Ljava/lang/Object;" } : Jvm.MethodName) jdk_38_method_7_code (1 : Nat) (Option.some (Jvm.ClassFile.FieldType.array (Jvm.ClassFile.FieldType.object "java/lang/Object")))).before args0 about1 = true := code_word (m := ⟨15, 2⟩) (meth := k15m2) (c := k15c2) (by decide +kernel) rfl rfl rfl (by decide +kernel)
set_option maxRecDepth 65536 in
theorem w_c8 : (Jvm.Cond.code ({ cls := "java/util/ArrayList", name := "grow", desc := "(I)[Ljava/lang/Object;" } : Jvm.MethodName) jdk_38_method_6_code (4 : Nat) (Option.some (Jvm.ClassFile.FieldType.array (Jvm.ClassFile.FieldType.object "java/lang/Object")))).before args0 about1 = true := code_word (m := ⟨15, 1⟩) (meth := k15m1) (c := k15c1) (by decide +kernel) rfl rfl rfl (by decide +kernel)
set_option maxRecDepth 65536 in
theorem w_c9 : (Jvm.Cond.code ({ cls := "java/lang/Math", name := "max", desc := "(II)I" } : Jvm.MethodName) jdk_29_method_65_code (2 : Nat) (Option.some Jvm.ClassFile.FieldType.int)).before args0 about1 = true := code_word (m := ⟨16, 1⟩) (meth := k16m1) (c := k16c1) (by decide +kernel) rfl rfl rfl (by decide +kernel)
set_option maxRecDepth 65536 in
theorem w_c10 : (Jvm.Cond.code ({ cls := "java/lang/String", name := "valueOf", desc := "(C)Ljava/lang/String;" } : Jvm.MethodName) jdk_42_method_139_code (1 : Nat) (Option.some (Jvm.ClassFile.FieldType.object "java/lang/String"))).before args0 about1 = true := code_word (m := ⟨19, 1⟩) (meth := k19m1) (c := k19c1) (by decide +kernel) rfl rfl rfl (by decide +kernel)
set_option maxRecDepth 65536 in
theorem w_c11 : (Jvm.Cond.code ({ cls := "java/lang/StringLatin1", name := "canEncode", desc := "(C)Z" } : Jvm.MethodName) jdk_43_method_3_code (1 : Nat) (Option.some Jvm.ClassFile.FieldType.boolean)).before args0 about1 = true := code_word (m := ⟨20, 1⟩) (meth := k20m1) (c := k20c1) (by decide +kernel) rfl rfl rfl (by decide +kernel)
set_option maxRecDepth 65536 in
theorem w_c12 : (Jvm.Cond.code ({ cls := "java/lang/StringLatin1", name := "toBytes", desc := "(C)[B" } : Jvm.MethodName) jdk_43_method_46_code (1 : Nat) (Option.some (Jvm.ClassFile.FieldType.array Jvm.ClassFile.FieldType.byte))).before args0 about1 = true := code_word (m := ⟨20, 2⟩) (meth := k20m2) (c := k20c2) (by decide +kernel) rfl rfl rfl (by decide +kernel)
set_option maxRecDepth 65536 in
theorem w_c13 : (Jvm.Cond.code ({ cls := "java/lang/String", name := "<init>", desc := "([BB)V" } : Jvm.MethodName) jdk_42_method_151_code (3 : Nat) (Option.none : Option Jvm.ClassFile.FieldType)).before args0 about1 = true := code_word (m := ⟨19, 2⟩) (meth := k19m2) (c := k19c2) (by decide +kernel) rfl rfl rfl (by decide +kernel)
set_option maxRecDepth 65536 in
theorem w_c14 : (Jvm.Cond.code ({ cls := "com/example/mirante/mirante/FieldDef", name := "<init>", desc := "(ILjava/lang/String;Ljava/lang/String;Lcom/example/mirante/mirante/FieldFormat;ILcom/example/mirante/mirante/FieldDef$Presence;Ljava/util/Map;Lcom/example/mirante/mirante/FieldDef$Range;Ljava/util/List;Ljava/util/List;ILjava/util/List;Ljava/util/List;ILjava/util/List;)V" } : Jvm.MethodName) prog_14_method_1_code (16 : Nat) (Option.none : Option Jvm.ClassFile.FieldType)).before args0 about1 = true := code_word (m := ⟨22, 0⟩) (meth := k22m0) (c := k22c0) (by decide +kernel) rfl rfl rfl (by decide +kernel)
set_option maxRecDepth 65536 in
theorem w_c15 : (Jvm.Cond.code ({ cls := "java/lang/Record", name := "<init>", desc := "()V" } : Jvm.MethodName) jdk_30_method_1_code (1 : Nat) (Option.none : Option Jvm.ClassFile.FieldType)).before args0 about1 = true := code_word (m := ⟨21, 0⟩) (meth := k21m0) (c := k21c0) (by decide +kernel) rfl rfl rfl (by decide +kernel)
set_option maxRecDepth 65536 in
theorem w_c16 : (Jvm.Cond.code ({ cls := "com/example/mirante/mirante/FieldDef", name := "hasRuleChecks", desc := "()Z" } : Jvm.MethodName) prog_14_method_3_code (1 : Nat) (Option.some Jvm.ClassFile.FieldType.boolean)).before args0 about1 = true := code_word (m := ⟨22, 1⟩) (meth := k22m1) (c := k22c1) (by decide +kernel) rfl rfl rfl (by decide +kernel)
set_option maxRecDepth 65536 in
theorem w_c17 : (Jvm.Cond.code ({ cls := "java/util/ArrayList", name := "isEmpty", desc := "()Z" } : Jvm.MethodName) jdk_38_method_9_code (1 : Nat) (Option.some Jvm.ClassFile.FieldType.boolean)).before args0 about1 = true := code_word (m := ⟨15, 3⟩) (meth := k15m3) (c := k15c3) (by decide +kernel) rfl rfl rfl (by decide +kernel)
set_option maxRecDepth 65536 in
theorem w_c18 : (Jvm.Cond.code ({ cls := "java/lang/Integer", name := "valueOf", desc := "(I)Ljava/lang/Integer;" } : Jvm.MethodName) jdk_33_method_22_code (1 : Nat) (Option.some (Jvm.ClassFile.FieldType.object "java/lang/Integer"))).before args0 about1 = true := code_word (m := ⟨24, 0⟩) (meth := k24m0) (c := k24c0) (by decide +kernel) rfl rfl rfl (by decide +kernel)
set_option maxRecDepth 65536 in
theorem w_c19 : (Jvm.Cond.code ({ cls := "com/example/mirante/mirante/FieldDef$Range", name := "<init>", desc := "(JJ)V" } : Jvm.MethodName) prog_18_method_1_code (5 : Nat) (Option.none : Option Jvm.ClassFile.FieldType)).before args0 about1 = true := code_word (m := ⟨26, 0⟩) (meth := k26m0) (c := k26c0) (by decide +kernel) rfl rfl rfl (by decide +kernel)
set_option maxRecDepth 65536 in
theorem w_c20 : (Jvm.Cond.code ({ cls := "java/lang/Integer", name := "<init>", desc := "(I)V" } : Jvm.MethodName) jdk_33_method_23_code (2 : Nat) (Option.none : Option Jvm.ClassFile.FieldType)).before args0 about1 = true := code_word (m := ⟨24, 1⟩) (meth := k24m1) (c := k24c1) (by decide +kernel) rfl rfl rfl (by decide +kernel)
set_option maxRecDepth 65536 in
theorem w_c21 : (Jvm.Cond.code ({ cls := "java/lang/Number", name := "<init>", desc := "()V" } : Jvm.MethodName) jdk_18_method_1_code (1 : Nat) (Option.none : Option Jvm.ClassFile.FieldType)).before args0 about1 = true := code_word (m := ⟨23, 0⟩) (meth := k23m0) (c := k23c0) (by decide +kernel) rfl rfl rfl (by decide +kernel)
def codes1 : List Jvm.Cond := [Jvm.Cond.code x code maxLocals ret, Jvm.Cond.code ({ cls := "java/util/ArrayList", name := "<init>", desc := "()V" } : Jvm.MethodName) jdk_38_method_2_code (1 : Nat) (Option.none : Option Jvm.ClassFile.FieldType), Jvm.Cond.code ({ cls := "java/util/AbstractList", name := "<init>", desc := "()V" } : Jvm.MethodName) jdk_39_method_1_code (1 : Nat) (Option.none : Option Jvm.ClassFile.FieldType), Jvm.Cond.code ({ cls := "java/util/AbstractCollection", name := "<init>", desc := "()V" } : Jvm.MethodName) jdk_22_method_1_code (1 : Nat) (Option.none : Option Jvm.ClassFile.FieldType), Jvm.Cond.code ({ cls := "java/lang/Object", name := "<init>", desc := "()V" } : Jvm.MethodName) object_method_1_code (1 : Nat) (Option.none : Option Jvm.ClassFile.FieldType), Jvm.Cond.code ({ cls := "java/util/ArrayList", name := "add", desc := "(Ljava/lang/Object;)Z" } : Jvm.MethodName) jdk_38_method_25_code (2 : Nat) (Option.some Jvm.ClassFile.FieldType.boolean), Jvm.Cond.code ({ cls := "java/util/ArrayList", name := "add", desc := "(Ljava/lang/Object;[Ljava/lang/Object;I)V" } : Jvm.MethodName) jdk_38_method_24_code (4 : Nat) (Option.none : Option Jvm.ClassFile.FieldType), Jvm.Cond.code ({ cls := "java/util/ArrayList", name := "grow", desc := "()[Ljava/lang/Object;" } : Jvm.MethodName) jdk_38_method_7_code (1 : Nat) (Option.some (Jvm.ClassFile.FieldType.array (Jvm.ClassFile.FieldType.object "java/lang/Object"))), Jvm.Cond.code ({ cls := "java/util/ArrayList", name := "grow", desc := "(I)[Ljava/lang/Object;" } : Jvm.MethodName) jdk_38_method_6_code (4 : Nat) (Option.some (Jvm.ClassFile.FieldType.array (Jvm.ClassFile.FieldType.object "java/lang/Object"))), Jvm.Cond.code ({ cls := "java/lang/Math", name := "max", desc := "(II)I" } : Jvm.MethodName) jdk_29_method_65_code (2 : Nat) (Option.some Jvm.ClassFile.FieldType.int), Jvm.Cond.code ({ cls := "java/lang/String", name := "valueOf", desc := "(C)Ljava/lang/String;" } : Jvm.MethodName) jdk_42_method_139_code (1 : Nat) (Option.some (Jvm.ClassFile.FieldType.object "java/lang/String")), Jvm.Cond.code ({ cls := "java/lang/StringLatin1", name := "canEncode", desc := "(C)Z" } : Jvm.MethodName) jdk_43_method_3_code (1 : Nat) (Option.some Jvm.ClassFile.FieldType.boolean), Jvm.Cond.code ({ cls := "java/lang/StringLatin1", name := "toBytes", desc := "(C)[B" } : Jvm.MethodName) jdk_43_method_46_code (1 : Nat) (Option.some (Jvm.ClassFile.FieldType.array Jvm.ClassFile.FieldType.byte)), Jvm.Cond.code ({ cls := "java/lang/String", name := "<init>", desc := "([BB)V" } : Jvm.MethodName) jdk_42_method_151_code (3 : Nat) (Option.none : Option Jvm.ClassFile.FieldType), Jvm.Cond.code ({ cls := "com/example/mirante/mirante/FieldDef", name := "<init>", desc := "(ILjava/lang/String;Ljava/lang/String;Lcom/example/mirante/mirante/FieldFormat;ILcom/example/mirante/mirante/FieldDef$Presence;Ljava/util/Map;Lcom/example/mirante/mirante/FieldDef$Range;Ljava/util/List;Ljava/util/List;ILjava/util/List;Ljava/util/List;ILjava/util/List;)V" } : Jvm.MethodName) prog_14_method_1_code (16 : Nat) (Option.none : Option Jvm.ClassFile.FieldType), Jvm.Cond.code ({ cls := "java/lang/Record", name := "<init>", desc := "()V" } : Jvm.MethodName) jdk_30_method_1_code (1 : Nat) (Option.none : Option Jvm.ClassFile.FieldType), Jvm.Cond.code ({ cls := "com/example/mirante/mirante/FieldDef", name := "hasRuleChecks", desc := "()Z" } : Jvm.MethodName) prog_14_method_3_code (1 : Nat) (Option.some Jvm.ClassFile.FieldType.boolean), Jvm.Cond.code ({ cls := "java/util/ArrayList", name := "isEmpty", desc := "()Z" } : Jvm.MethodName) jdk_38_method_9_code (1 : Nat) (Option.some Jvm.ClassFile.FieldType.boolean), Jvm.Cond.code ({ cls := "java/lang/Integer", name := "valueOf", desc := "(I)Ljava/lang/Integer;" } : Jvm.MethodName) jdk_33_method_22_code (1 : Nat) (Option.some (Jvm.ClassFile.FieldType.object "java/lang/Integer")), Jvm.Cond.code ({ cls := "com/example/mirante/mirante/FieldDef$Range", name := "<init>", desc := "(JJ)V" } : Jvm.MethodName) prog_18_method_1_code (5 : Nat) (Option.none : Option Jvm.ClassFile.FieldType), Jvm.Cond.code ({ cls := "java/lang/Integer", name := "<init>", desc := "(I)V" } : Jvm.MethodName) jdk_33_method_23_code (2 : Nat) (Option.none : Option Jvm.ClassFile.FieldType), Jvm.Cond.code ({ cls := "java/lang/Number", name := "<init>", desc := "()V" } : Jvm.MethodName) jdk_18_method_1_code (1 : Nat) (Option.none : Option Jvm.ClassFile.FieldType)]
set_option maxRecDepth 65536 in
theorem codes_eq : words1.filter isCode = codes1 := rfl
theorem w_codes : ∀ c ∈ words1.filter isCode, c.before args0 about1 = true := by
  rw [codes_eq]
  intro c hc
  simp only [codes1, List.mem_cons, List.not_mem_nil, or_false] at hc
  rcases hc with rfl | rfl | rfl | rfl | rfl | rfl | rfl | rfl | rfl | rfl | rfl | rfl | rfl | rfl | rfl | rfl | rfl | rfl | rfl | rfl | rfl | rfl
  · exact w_c0
  · exact w_c1
  · exact w_c2
  · exact w_c3
  · exact w_c4
  · exact w_c5
  · exact w_c6
  · exact w_c7
  · exact w_c8
  · exact w_c9
  · exact w_c10
  · exact w_c11
  · exact w_c12
  · exact w_c13
  · exact w_c14
  · exact w_c15
  · exact w_c16
  · exact w_c17
  · exact w_c18
  · exact w_c19
  · exact w_c20
  · exact w_c21
set_option maxRecDepth 65536 in
theorem w_t1 : (words1.take 24).all (fun c => isCode c || c.before args0 about1) = true := by decide +kernel
set_option maxRecDepth 65536 in
theorem w_t2 : ((words1.drop 24).take 24).all (fun c => isCode c || c.before args0 about1) = true := by decide +kernel
set_option maxRecDepth 65536 in
theorem w_t3 : (((words1.drop 24).drop 24).take 24).all (fun c => isCode c || c.before args0 about1) = true := by decide +kernel
set_option maxRecDepth 65536 in
theorem w_t4 : ((((words1.drop 24).drop 24).drop 24).take 24).all (fun c => isCode c || c.before args0 about1) = true := by decide +kernel
set_option maxRecDepth 65536 in
theorem w_t5 : (((((words1.drop 24).drop 24).drop 24).drop 24).take 24).all (fun c => isCode c || c.before args0 about1) = true := by decide +kernel
set_option maxRecDepth 65536 in
theorem w_t6 : ((((((words1.drop 24).drop 24).drop 24).drop 24).drop 24).take 24).all (fun c => isCode c || c.before args0 about1) = true := by decide +kernel
set_option maxRecDepth 65536 in
theorem w_t7 : (((((((words1.drop 24).drop 24).drop 24).drop 24).drop 24).drop 24).take 24).all (fun c => isCode c || c.before args0 about1) = true := by decide +kernel
set_option maxRecDepth 65536 in
theorem w_t8 : (((((((words1.drop 24).drop 24).drop 24).drop 24).drop 24).drop 24).drop 24).all (fun c => isCode c || c.before args0 about1) = true := by decide +kernel
theorem w_tables : (allAtoms (Jvm.Cond.code x code maxLocals ret :: tables_1)).before args0 about1 = true := by
  rw [allAtoms_all]
  show words1.all (fun c => c.before args0 about1) = true
  refine all_split ?_ w_codes
  rw [← List.take_append_drop 24 words1, List.all_append, w_t1, ← List.take_append_drop 24 (words1.drop 24), List.all_append, w_t2, ← List.take_append_drop 24 ((words1.drop 24).drop 24), List.all_append, w_t3, ← List.take_append_drop 24 (((words1.drop 24).drop 24).drop 24), List.all_append, w_t4, ← List.take_append_drop 24 ((((words1.drop 24).drop 24).drop 24).drop 24), List.all_append, w_t5, ← List.take_append_drop 24 (((((words1.drop 24).drop 24).drop 24).drop 24).drop 24), List.all_append, w_t6, ← List.take_append_drop 24 ((((((words1.drop 24).drop 24).drop 24).drop 24).drop 24).drop 24), List.all_append, w_t7, w_t8]
  rfl
set_option maxRecDepth 65536 in
theorem w_rest : rest_1_c.before args0 about1 = true := by decide +kernel
set_option maxRecDepth 65536 in
theorem w_case : (Jvm.Cond.and given_1 narrow_1).before args0 about1 = true := by decide +kernel
theorem w_applies : (headSpec (Jvm.Cond.code x code maxLocals ret :: tables_1) room_1).applies x e0.platform about1 = true :=
  (Spec.applies_iff w_frames).mpr ⟨w_running, w_runnable, w_alone, w_named, w_hears, w_ripe, w_room, w_tables⟩
theorem atStart : AtStart classFile x code maxLocals ret World_1 tables_1 room_1 Calls_1 rest_1 Pre_1 launch0 p0 e0 about1 theMethod args0 below0 :=
  ⟨lists_1, trivial, launch0.admits_env _ _ _, launch0.least_env, fairChoices_fair.cas, fairChoices_fair.clock, w_frames, w_args, w_heap, w_applies, trivial, w_rest, w_case⟩
end start1
theorem witness_1 : WitnessClaimed_1 := ⟨start1.p0, start1.e0, start1.about1, start1.theMethod, start1.args0, start1.below0, start1.atStart⟩
end Jvm.Pilot.@@N@@
