import JvmDerived
import JvmDerived.Pilot.@@N@@Statement
import JvmDerived.Pilot.@@N@@Code
set_option linter.unusedVariables false
set_option linter.unusedSimpArgs false
namespace Jvm.RoadKit
open Sem ClassFile Op Lib Jvm.Stand Jvm.Free Jvm.LawKit
theorem own_retI {p : Program} {l : Launch} {e : Env} {R : Room} {s : State} {m : MethodId} {args : Array Value} {below : List Frame} {meth : Method} {c : Code} {T : State} {locs : List Loc} {cells slots : Nat} (X : Stand p l e R s m args below meth c T locs cells slots) (hx : p.tables.exec = Jvm.exec) {pc : Nat} {Ls : Array Slot} {z : Int32} {rest : List Value} (hret : meth.sig.returnType = some .int) (hd : decode c.code pc = .ok (.ireturn, 1)) {fs : List Frame}
    (hl : ∀ (f : JFrame) (acts : List Action), f.method = m → f.locked = none → f.entered = [] → (doReturn e (T.setTop f) acts (some (.int z))).1 = T.setFrames fs) : Steps p.tables e below (T.setTop (mkF m pc Ls (.int z :: rest))) (T.setFrames fs) :=
  retOut X hx hret rfl (Or.inl ⟨rfl, Or.inl rfl, z, rfl⟩) hd hl
theorem own_retR {p : Program} {l : Launch} {e : Env} {R : Room} {s : State} {m : MethodId} {args : Array Value} {below : List Frame} {meth : Method} {c : Code} {T : State} {locs : List Loc} {cells slots : Nat} (X : Stand p l e R s m args below meth c T locs cells slots) (hx : p.tables.exec = Jvm.exec) {pc : Nat} {Ls : Array Slot} {w : Value} {t : FieldType} {rest : List Value} (hret : meth.sig.returnType = some t) (ht : t.isReference = true) (hw : w.isRef = true) (hd : decode c.code pc = .ok (.areturn, 1)) {fs : List Frame}
    (hl : ∀ (f : JFrame) (acts : List Action), f.method = m → f.locked = none → f.entered = [] → (doReturn e (T.setTop f) acts (some w)).1 = T.setFrames fs) : Steps p.tables e below (T.setTop (mkF m pc Ls (w :: rest))) (T.setFrames fs) :=
  retOut X hx hret (by rcases ref_cases hw with rfl | ⟨a, rfl⟩ <;> cases t <;> first | rfl | (cases ht; done)) (Or.inr (Or.inr (Or.inr (Or.inr ⟨rfl, ht, hw⟩)))) hd hl
end Jvm.RoadKit
namespace Jvm.Pilot.@@N@@
open Jvm Jvm.ClassFile Sem Op Lib Jvm.Free Jvm.Stand Jvm.LawKit Jvm.RoadKit Bundle Jvm.Pilot.@@N@@.Jvm.D
theorem d6_0 : decode jdk_22_method_1_code 0 = .ok (.aload_n 0, 1) := by decide +kernel
theorem d6_1 : decode jdk_22_method_1_code 1 = .ok (.invokespecial 1, 3) := by decide +kernel
theorem d6_4 : decode jdk_22_method_1_code 4 = .ok (.return_, 1) := by decide +kernel
def Q6 (Z : State) (a1 : Addr) (h0 : Heap) (n0 : Nat) (v : Option Value) (h : Heap) (L : List Loc) : Prop := v = none ∧ Fr n0 L ∧ h = h0
theorem ef_6 (m : MethodId) (x0 : Addr) : entryFrame m #[(.ref x0)] 1 = mkF m 0 #[.val (.ref x0)] [] := by first | (simp [entryFrame, mkF, argsToLocals, Value.category]; done) | rfl
theorem pnc_java_util_AbstractCollection : plainName "java/util/AbstractCollection" = true := by first | (simp [plainName, overriddenIn]; done) | decide +kernel
set_option maxRecDepth 65536 in
set_option maxHeartbeats 40000000 in
theorem rm6 (l : Launch) (Z : State) (a0 : Array Value) (hw : ∀ d ∈ tables_1, d.before a0 Z = true) (ws : List Jvm.Cond) (a1 : Addr) (h0 : Heap) (n0 : Nat) (O0 : Old Z n0 h0) :
    MetFree l (⟨"java/util/AbstractCollection", "<init>", "()V"⟩ : MethodName) (head1 (Jvm.Cond.code (⟨"java/util/AbstractCollection", "<init>", "()V"⟩ : MethodName) jdk_22_method_1_code 1 none :: ws) ({ frames := 1, cells := 0, slots := 0, locals := 12 } : Room)) (fun a U => a = #[(.ref a1)] ∧ Z.Warmed39 U.vm ∧ U.heap = h0) (fun _ _ _ _ _ => True) (fun _ U o U' => ∃ v L, o = .returned v ∧ Q6 Z a1 h0 n0 v U'.heap L ∧ FrameEnd U o U' L ({ frames := 1, cells := 0, slots := 0, locals := 12 } : Room).cells ({ frames := 1, cells := 0, slots := 0, locals := 12 } : Room).slots) := by
  refine MetFree.of_bodySF (plainFor_of_name pnc_java_util_AbstractCollection) hisR ?_
  intro p e s m args below meth c s₁ Bd hml0 hP hK
  obtain ⟨rfl, hZ, hh⟩ := hP
  have hx := Bd.exec
  have hby := Bd.bytes
  have hml : c.maxLocals = 1 := hml0
  have hown : s.vm.findClass "java/util/AbstractCollection" = some m.cls := findClass_of_methodNamed Bd.named
  have hnm := (name_of_methodNamed Bd.named Bd.method).1
  have X0 : Stand p l e ({ frames := 1, cells := 0, slots := 0, locals := 12 } : Room) s m #[(.ref a1)] below meth c s₁ [] 0 0 := Stand.of_body Bd
  have e0 : s₁.heap = h0 := by rw [← hh, Bd.state]; rfl
  have N0 := Fr.nil n0
  have Z0 : n0 ≤ h0.size := O0.1 ▸ O0.2.1
  have pre0 : ∀ t, Steps p.tables e below (s₁.setTop (mkF m 0 #[.val (.ref a1)] [])) t → Steps p.tables e below (s₁.setTop (entryFrame m #[(.ref a1)] 1)) t := fun t k => castTop (ef_6 m a1) k
  obtain ⟨T2, X2, e2, st2⟩ := initO X0 hx hZ hown (hw _ (List.mem_of_getElem? (i := 38) rfl)) (hw _ (List.mem_of_getElem? (i := 13) rfl)) (hw _ (List.mem_of_getElem? (i := 14) rfl)) e0 (g := (mkF m 1 #[.val (.ref a1)] [(.ref a1)])) rfl (by rw [hml]; rfl) rfl (hb hby d6_1) (by decide) (W := 0) (by show 2 * 0 + _ ≤ _; exact Nat.le_of_eq rfl) (by decide)
  obtain ⟨fs, hr, hrun, hended, hW, hsame⟩ := X2.leave (v := none) (fun _ => rfl)
  refine ⟨_, _, pre0 _ ?_, hrun, hended, _, _, rfl, ?_, ⟨_, rfl⟩, hW, hsame.mono (by decide) (by decide)⟩
  · show Steps p.tables e below (s₁.setTop (mkF m 0 #[.val (.ref a1)] [])) _
    refine XS.aloadN X0.here hx rfl (hb hby d6_0) rfl rfl ?_
    show Steps p.tables e below (s₁.setTop (mkF m 1 #[.val (.ref a1)] [(.ref a1)])) _
    refine st2 _ ?_
    show Steps p.tables e below (T2.setTop (mkF m 4 #[.val (.ref a1)] [])) _
    exact X2.returnOut hx Bd.returns (hb hby d6_4) hr
  · show Q6 Z a1 h0 n0 _ T2.heap _
    rw [e2]
    exact ⟨rfl, N0, rfl⟩
theorem d5_0 : decode jdk_39_method_1_code 0 = .ok (.aload_n 0, 1) := by decide +kernel
theorem d5_1 : decode jdk_39_method_1_code 1 = .ok (.invokespecial 1, 3) := by decide +kernel
theorem pd_2 : parseMethodDescriptor "()V" = some ⟨[], none⟩ := by decide +kernel
theorem d5_4 : decode jdk_39_method_1_code 4 = .ok (.aload_n 0, 1) := by decide +kernel
theorem d5_5 : decode jdk_39_method_1_code 5 = .ok (.iconst 0, 1) := by decide +kernel
theorem d5_6 : decode jdk_39_method_1_code 6 = .ok (.putfield 7, 3) := by decide +kernel
theorem d5_9 : decode jdk_39_method_1_code 9 = .ok (.return_, 1) := by decide +kernel
def Q5 (Z : State) (a1 : Addr) (u1 u2 u3 : Value) (h0 : Heap) (n0 : Nat) (v : Option Value) (h : Heap) (L : List Loc) : Prop := v = none ∧ Fr n0 L ∧ Keep h0 h [a1] ∧ Exa Z h a1 "java/util/ArrayList" ∧ Fld Z h a1 "java/util/ArrayList" "elementData" "[Ljava/lang/Object;" u2 ∧ Fld Z h a1 "java/util/AbstractList" "modCount" "I" (.int (0 : Int32)) ∧ Fld Z h a1 "java/util/ArrayList" "size" "I" u3
theorem ef_5 (m : MethodId) (x0 : Addr) : entryFrame m #[(.ref x0)] 1 = mkF m 0 #[.val (.ref x0)] [] := by first | (simp [entryFrame, mkF, argsToLocals, Value.category]; done) | rfl
theorem pnc_java_util_AbstractList : plainName "java/util/AbstractList" = true := by first | (simp [plainName, overriddenIn]; done) | decide +kernel
set_option maxRecDepth 65536 in
set_option maxHeartbeats 40000000 in
theorem rm5 (l : Launch) (Z : State) (a0 : Array Value) (hw : ∀ d ∈ tables_1, d.before a0 Z = true) (ws : List Jvm.Cond) (a1 : Addr) (u1 u2 u3 : Value) (h0 : Heap) (n0 : Nat) (O0 : Old Z n0 h0) (HE_a1 : Exa Z h0 a1 "java/util/ArrayList") (HF_a1_modCount : Fld Z h0 a1 "java/util/AbstractList" "modCount" "I" u1) (HF_a1_elementData : Fld Z h0 a1 "java/util/ArrayList" "elementData" "[Ljava/lang/Object;" u2) (HF_a1_size : Fld Z h0 a1 "java/util/ArrayList" "size" "I" u3) (g_a1 : n0 ≤ a1) :
    MetFree l (⟨"java/util/AbstractList", "<init>", "()V"⟩ : MethodName) (head1 (Jvm.Cond.code (⟨"java/util/AbstractList", "<init>", "()V"⟩ : MethodName) jdk_39_method_1_code 1 none :: ws) ({ frames := 2, cells := 0, slots := 0, locals := 24 } : Room)) (fun a U => a = #[(.ref a1)] ∧ Z.Warmed39 U.vm ∧ U.heap = h0) (fun _ _ _ _ _ => True) (fun _ U o U' => ∃ v L, o = .returned v ∧ Q5 Z a1 u1 u2 u3 h0 n0 v U'.heap L ∧ FrameEnd U o U' L ({ frames := 2, cells := 0, slots := 0, locals := 24 } : Room).cells ({ frames := 2, cells := 0, slots := 0, locals := 24 } : Room).slots) := by
  refine MetFree.of_bodySF (plainFor_of_name pnc_java_util_AbstractList) hisR ?_
  intro p e s m args below meth c s₁ Bd hml0 hP hK
  obtain ⟨rfl, hZ, hh⟩ := hP
  have hx := Bd.exec
  have hby := Bd.bytes
  have hml : c.maxLocals = 1 := hml0
  have hown : s.vm.findClass "java/util/AbstractList" = some m.cls := findClass_of_methodNamed Bd.named
  have hnm := (name_of_methodNamed Bd.named Bd.method).1
  have X0 : Stand p l e ({ frames := 2, cells := 0, slots := 0, locals := 24 } : Room) s m #[(.ref a1)] below meth c s₁ [] 0 0 := Stand.of_body Bd
  have e0 : s₁.heap = h0 := by rw [← hh, Bd.state]; rfl
  have N0 := Fr.nil n0
  have Z0 : n0 ≤ h0.size := O0.1 ▸ O0.2.1
  have pre0 : ∀ t, Steps p.tables e below (s₁.setTop (mkF m 0 #[.val (.ref a1)] [])) t → Steps p.tables e below (s₁.setTop (entryFrame m #[(.ref a1)] 1)) t := fun t k => castTop (ef_5 m a1) k
  obtain ⟨vr2, _, ⟨T2, L2, k2, n2⟩, -, X2, ⟨Lc2, hQ2, l2, y2, z2⟩, st2⟩ := X0.specialBack hx (y := (⟨"java/util/AbstractCollection", "<init>", "()V"⟩ : MethodName)) rfl hown (mvT hZ (hw _ (List.mem_of_getElem? (i := 32) rfl))) (mvT hZ (hw _ (List.mem_of_getElem? (i := 33) rfl))) (mvT hZ (hw _ (List.mem_of_getElem? (i := 37) rfl))) (by decide) (backOf (W := 0) (rm6 l Z a0 hw [] a1 h0 n0 O0) hZ (hw _ (List.mem_of_getElem? (i := 37) rfl)) (hw _ (List.mem_of_getElem? (i := 36) rfl)) (by decide) (by decide)) (g := (mkF m 1 #[.val (.ref a1)] [(.ref a1)])) rfl (by rw [hml]; rfl) (Steps.refl _) (a := a1) (argsL := []) (rest := []) (lenOf pd_2 rfl) rfl (by show 2 * 0 + _ ≤ _; exact Nat.le_of_eq rfl) (hb hby d5_1) (fun _ _ => ⟨rfl, e0, (by decide : 0 + 0 ≤ _), (by decide : 0 + 0 ≤ _)⟩)
  dsimp only [Pt.U, Pt.locs, Pt.cells, Pt.slots] at X2 l2 y2 z2 st2 hQ2
  subst l2 y2 z2
  obtain ⟨rfl, N2q, e2⟩ := hQ2
  have N2 := Fr.app N0 N2q
  replace X2 := X2.more (cells' := 0) (slots' := 0) (by decide) (by decide)
  obtain ⟨T3, h3, X3, e3, W3, st3⟩ := putF X2 hx hZ hown (host := "") (Or.inl (hw _ (List.mem_of_getElem? (i := 39) rfl))) Via.refl e2 HF_a1_modCount HE_a1 (Or.inl (hw _ (List.mem_of_getElem? (i := 40) rfl))) (hw _ (List.mem_of_getElem? (i := 21) rfl)) (ty := .int) (by decide) rfl rfl (g := (mkF m 6 #[.val (.ref a1)] [(.int (0 : Int32)), (.ref a1)])) rfl rfl (hb hby d5_6)
  have N3 := Fr.snoc X3 N2 g_a1
  have K4 : Keep h0 h3 [a1] := (Keep.refl h0 [a1]).wr W3 (Or.inl (List.mem_of_getElem? (i := 0) rfl))
  have O5 : Old Z n0 h3 := O0.wr W3 g_a1
  have Fw3 : Fld Z h3 a1 "java/util/AbstractList" "modCount" "I" (.int (0 : Int32)) := HF_a1_modCount.same W3
  have f6 := (HE_a1.wr W3)
  have f7 := (HF_a1_elementData.other W3 (Or.inr (slot_ne (Or.inl (hw _ (List.mem_of_getElem? (i := 43) rfl))) (Or.inl (hw _ (List.mem_of_getElem? (i := 40) rfl))) (by decide) (t := (.array (.object "java/lang/Object"))) (t' := .int) (by decide) (by decide))))
  have f8 := (HF_a1_size.other W3 (Or.inr (slot_ne (Or.inl (hw _ (List.mem_of_getElem? (i := 52) rfl))) (Or.inl (hw _ (List.mem_of_getElem? (i := 40) rfl))) (by decide) (t := .int) (t' := .int) (by decide) (by decide))))
  obtain ⟨fs, hr, hrun, hended, hW, hsame⟩ := X3.leave (v := none) (fun _ => rfl)
  refine ⟨_, _, pre0 _ ?_, hrun, hended, _, _, rfl, ?_, ⟨_, rfl⟩, hW, hsame.mono (by decide) (by decide)⟩
  · show Steps p.tables e below (s₁.setTop (mkF m 0 #[.val (.ref a1)] [])) _
    refine XS.aloadN X0.here hx rfl (hb hby d5_0) rfl rfl ?_
    show Steps p.tables e below (s₁.setTop (mkF m 1 #[.val (.ref a1)] [(.ref a1)])) _
    refine st2.trans ?_
    show Steps p.tables e below (T2.setTop (mkF m 4 #[.val (.ref a1)] [])) _
    refine XS.aloadN X2.here hx rfl (hb hby d5_4) rfl rfl ?_
    show Steps p.tables e below (T2.setTop (mkF m 5 #[.val (.ref a1)] [(.ref a1)])) _
    refine XS.iconst X2.here hx rfl (hb hby d5_5) ?_
    show Steps p.tables e below (T2.setTop (mkF m 6 #[.val (.ref a1)] [(.int (0 : Int32)), (.ref a1)])) _
    refine st3 _ ?_
    show Steps p.tables e below (T3.setTop (mkF m 9 #[.val (.ref a1)] [])) _
    exact X3.returnOut hx Bd.returns (hb hby d5_9) hr
  · show Q5 Z a1 u1 u2 u3 h0 n0 _ T3.heap _
    rw [e3]
    exact ⟨rfl, N3, K4, f6, f7, Fw3, f8⟩
theorem d4_0 : decode jdk_38_method_2_code 0 = .ok (.aload_n 0, 1) := by decide +kernel
theorem d4_1 : decode jdk_38_method_2_code 1 = .ok (.invokespecial 1, 3) := by decide +kernel
theorem d4_4 : decode jdk_38_method_2_code 4 = .ok (.aload_n 0, 1) := by decide +kernel
theorem d4_5 : decode jdk_38_method_2_code 5 = .ok (.getstatic 39, 3) := by decide +kernel
theorem d4_8 : decode jdk_38_method_2_code 8 = .ok (.putfield 9, 3) := by decide +kernel
theorem d4_11 : decode jdk_38_method_2_code 11 = .ok (.return_, 1) := by decide +kernel
def Q4 (Z : State) (a1 : Addr) (u1 u2 u3 : Value) (w5 : Addr) (h0 : Heap) (n0 : Nat) (v : Option Value) (h : Heap) (L : List Loc) : Prop := v = none ∧ Fr n0 L ∧ Keep h0 h [a1] ∧ Exa Z h a1 "java/util/ArrayList" ∧ Fld Z h a1 "java/util/ArrayList" "elementData" "[Ljava/lang/Object;" (.ref w5) ∧ Fld Z h a1 "java/util/AbstractList" "modCount" "I" (.int (0 : Int32)) ∧ Fld Z h a1 "java/util/ArrayList" "size" "I" u3
theorem ef_4 (m : MethodId) (x0 : Addr) : entryFrame m #[(.ref x0)] 1 = mkF m 0 #[.val (.ref x0)] [] := by first | (simp [entryFrame, mkF, argsToLocals, Value.category]; done) | rfl
theorem pnc_java_util_ArrayList : plainName "java/util/ArrayList" = true := by first | (simp [plainName, overriddenIn]; done) | decide +kernel
set_option maxRecDepth 65536 in
set_option maxHeartbeats 40000000 in
theorem rm4 (l : Launch) (Z : State) (a0 : Array Value) (hw : ∀ d ∈ tables_1, d.before a0 Z = true) (ws : List Jvm.Cond) (a1 : Addr) (u1 u2 u3 : Value) (w5 : Addr) (h0 : Heap) (n0 : Nat) (O0 : Old Z n0 h0) (HE_a1 : Exa Z h0 a1 "java/util/ArrayList") (HF_a1_modCount : Fld Z h0 a1 "java/util/AbstractList" "modCount" "I" u1) (HF_a1_elementData : Fld Z h0 a1 "java/util/ArrayList" "elementData" "[Ljava/lang/Object;" u2) (HF_a1_size : Fld Z h0 a1 "java/util/ArrayList" "size" "I" u3) (g_a1 : n0 ≤ a1) (S_DEFAULTCAPACITY_EMPTY_ELEMENTDATA : Sta Z Z.heap "java/util/ArrayList" "DEFAULTCAPACITY_EMPTY_ELEMENTDATA" "[Ljava/lang/Object;" (.ref w5)) :
    MetFree l (⟨"java/util/ArrayList", "<init>", "()V"⟩ : MethodName) (head1 (Jvm.Cond.code (⟨"java/util/ArrayList", "<init>", "()V"⟩ : MethodName) jdk_38_method_2_code 1 none :: ws) ({ frames := 3, cells := 0, slots := 0, locals := 36 } : Room)) (fun a U => a = #[(.ref a1)] ∧ Z.Warmed39 U.vm ∧ U.heap = h0) (fun _ _ _ _ _ => True) (fun _ U o U' => ∃ v L, o = .returned v ∧ Q4 Z a1 u1 u2 u3 w5 h0 n0 v U'.heap L ∧ FrameEnd U o U' L ({ frames := 3, cells := 0, slots := 0, locals := 36 } : Room).cells ({ frames := 3, cells := 0, slots := 0, locals := 36 } : Room).slots) := by
  refine MetFree.of_bodySF (plainFor_of_name pnc_java_util_ArrayList) hisR ?_
  intro p e s m args below meth c s₁ Bd hml0 hP hK
  obtain ⟨rfl, hZ, hh⟩ := hP
  have hx := Bd.exec
  have hby := Bd.bytes
  have hml : c.maxLocals = 1 := hml0
  have hown : s.vm.findClass "java/util/ArrayList" = some m.cls := findClass_of_methodNamed Bd.named
  have hnm := (name_of_methodNamed Bd.named Bd.method).1
  have X0 : Stand p l e ({ frames := 3, cells := 0, slots := 0, locals := 36 } : Room) s m #[(.ref a1)] below meth c s₁ [] 0 0 := Stand.of_body Bd
  have e0 : s₁.heap = h0 := by rw [← hh, Bd.state]; rfl
  have N0 := Fr.nil n0
  have Z0 : n0 ≤ h0.size := O0.1 ▸ O0.2.1
  have pre0 : ∀ t, Steps p.tables e below (s₁.setTop (mkF m 0 #[.val (.ref a1)] [])) t → Steps p.tables e below (s₁.setTop (entryFrame m #[(.ref a1)] 1)) t := fun t k => castTop (ef_4 m a1) k
  obtain ⟨vr2, _, ⟨T2, L2, k2, n2⟩, -, X2, ⟨Lc2, hQ2, l2, y2, z2⟩, st2⟩ := X0.specialBack hx (y := (⟨"java/util/AbstractList", "<init>", "()V"⟩ : MethodName)) rfl hown (mvT hZ (hw _ (List.mem_of_getElem? (i := 26) rfl))) (mvT hZ (hw _ (List.mem_of_getElem? (i := 27) rfl))) (mvT hZ (hw _ (List.mem_of_getElem? (i := 31) rfl))) (by decide) (backOf (W := 0) (rm5 l Z a0 hw [] a1 u1 u2 u3 h0 n0 O0 HE_a1 HF_a1_modCount HF_a1_elementData HF_a1_size g_a1) hZ (hw _ (List.mem_of_getElem? (i := 31) rfl)) (hw _ (List.mem_of_getElem? (i := 30) rfl)) (by decide) (by decide)) (g := (mkF m 1 #[.val (.ref a1)] [(.ref a1)])) rfl (by rw [hml]; rfl) (Steps.refl _) (a := a1) (argsL := []) (rest := []) (lenOf pd_2 rfl) rfl (by show 2 * 0 + _ ≤ _; exact Nat.le_of_eq rfl) (hb hby d4_1) (fun _ _ => ⟨rfl, e0, (by decide : 0 + 0 ≤ _), (by decide : 0 + 0 ≤ _)⟩)
  dsimp only [Pt.U, Pt.locs, Pt.cells, Pt.slots] at X2 l2 y2 z2 st2 hQ2
  subst l2 y2 z2
  obtain ⟨rfl, N2q, K2, Y2_0, Y2_1, Y2_2, Y2_3⟩ := hQ2
  have N2 := Fr.app N0 N2q
  replace X2 := X2.more (cells' := 0) (slots' := 0) (by decide) (by decide)
  have K3 : Keep h0 T2.heap [a1] := (Keep.refl h0 [a1]).trans K2 (allS (Or.inl (List.mem_of_getElem? (i := 0) rfl)) all0)
  have O4 : Old Z n0 T2.heap := O0.keep K2 (allS g_a1 all0)
  obtain ⟨T6, X6, e6, st6⟩ := getS2 X2 hx hZ hown (host := "") (Or.inl (hw _ (List.mem_of_getElem? (i := 41) rfl))) Via.refl rfl (S_DEFAULTCAPACITY_EMPTY_ELEMENTDATA.ext O4.2) (g := (mkF m 5 #[.val (.ref a1)] [(.ref a1)])) rfl (hb hby d4_5)
  obtain ⟨T7, h7, X7, e7, W7, st7⟩ := putF X6 hx hZ hown (host := "") (Or.inl (hw _ (List.mem_of_getElem? (i := 42) rfl))) Via.refl e6 Y2_1 Y2_0 (Or.inl (hw _ (List.mem_of_getElem? (i := 43) rfl))) (hw _ (List.mem_of_getElem? (i := 21) rfl)) (ty := (.array (.object "java/lang/Object"))) (by decide) rfl rfl (g := (mkF m 8 #[.val (.ref a1)] [(.ref w5), (.ref a1)])) rfl rfl (hb hby d4_8)
  have N7 := Fr.snoc X7 N2 g_a1
  have K8 : Keep h0 h7 [a1] := K3.wr W7 (Or.inl (List.mem_of_getElem? (i := 0) rfl))
  have O9 : Old Z n0 h7 := O4.wr W7 g_a1
  have Fw7 : Fld Z h7 a1 "java/util/ArrayList" "elementData" "[Ljava/lang/Object;" (.ref w5) := Y2_1.same W7
  have f10 := (Y2_0.wr W7)
  have f11 := (Y2_2.other W7 (Or.inr (slot_ne (Or.inl (hw _ (List.mem_of_getElem? (i := 40) rfl))) (Or.inl (hw _ (List.mem_of_getElem? (i := 43) rfl))) (by decide) (t := .int) (t' := (.array (.object "java/lang/Object"))) (by decide) (by decide))))
  have f12 := (Y2_3.other W7 (Or.inr (slot_ne (Or.inl (hw _ (List.mem_of_getElem? (i := 52) rfl))) (Or.inl (hw _ (List.mem_of_getElem? (i := 43) rfl))) (by decide) (t := .int) (t' := (.array (.object "java/lang/Object"))) (by decide) (by decide))))
  obtain ⟨fs, hr, hrun, hended, hW, hsame⟩ := X7.leave (v := none) (fun _ => rfl)
  refine ⟨_, _, pre0 _ ?_, hrun, hended, _, _, rfl, ?_, ⟨_, rfl⟩, hW, hsame.mono (by decide) (by decide)⟩
  · show Steps p.tables e below (s₁.setTop (mkF m 0 #[.val (.ref a1)] [])) _
    refine XS.aloadN X0.here hx rfl (hb hby d4_0) rfl rfl ?_
    show Steps p.tables e below (s₁.setTop (mkF m 1 #[.val (.ref a1)] [(.ref a1)])) _
    refine st2.trans ?_
    show Steps p.tables e below (T2.setTop (mkF m 4 #[.val (.ref a1)] [])) _
    refine XS.aloadN X2.here hx rfl (hb hby d4_4) rfl rfl ?_
    show Steps p.tables e below (T2.setTop (mkF m 5 #[.val (.ref a1)] [(.ref a1)])) _
    refine st6 _ ?_
    show Steps p.tables e below (T6.setTop (mkF m 8 #[.val (.ref a1)] [(.ref w5), (.ref a1)])) _
    refine st7 _ ?_
    show Steps p.tables e below (T7.setTop (mkF m 11 #[.val (.ref a1)] [])) _
    exact X7.returnOut hx Bd.returns (hb hby d4_11) hr
  · show Q4 Z a1 u1 u2 u3 w5 h0 n0 _ T7.heap _
    rw [e7]
    exact ⟨rfl, N7, K8, f10, Fw7, f11, f12⟩
theorem d11_0 : decode jdk_29_method_65_code 0 = .ok (.iload_n 0, 1) := by decide +kernel
theorem d11_1 : decode jdk_29_method_65_code 1 = .ok (.iload_n 1, 1) := by decide +kernel
theorem d11_2 : decode jdk_29_method_65_code 2 = .ok (.if_icmp .lt 7, 3) := by decide +kernel
theorem d11_5 : decode jdk_29_method_65_code 5 = .ok (.iload_n 0, 1) := by decide +kernel
theorem d11_6 : decode jdk_29_method_65_code 6 = .ok (.goto 4, 3) := by decide +kernel
theorem d11_10 : decode jdk_29_method_65_code 10 = .ok (.ireturn, 1) := by decide +kernel
def Q11 (Z : State) (p1 p2 : Int32) (h0 : Heap) (n0 : Nat) (v : Option Value) (h : Heap) (L : List Loc) : Prop := v = some (.int p1) ∧ Fr n0 L ∧ h = h0
theorem ef_11 (m : MethodId) (x0 : Int32) (x1 : Int32) : entryFrame m #[(.int x0), (.int x1)] 2 = mkF m 0 #[.val (.int x0), .val (.int x1)] [] := by first | (simp [entryFrame, mkF, argsToLocals, Value.category]; done) | rfl
set_option maxRecDepth 65536 in
set_option maxHeartbeats 40000000 in
theorem rm11 (l : Launch) (Z : State) (a0 : Array Value) (hw : ∀ d ∈ tables_1, d.before a0 Z = true) (ws : List Jvm.Cond) (p1 p2 : Int32) (h0 : Heap) (n0 : Nat) (O0 : Old Z n0 h0) (hc2 : ¬ (p1 < p2)) :
    MetFree l (⟨"java/lang/Math", "max", "(II)I"⟩ : MethodName) (head1 (Jvm.Cond.code (⟨"java/lang/Math", "max", "(II)I"⟩ : MethodName) jdk_29_method_65_code 2 (some .int) :: ws) ({ frames := 0, cells := 0, slots := 0, locals := 0 } : Room)) (fun a U => a = #[(.int p1), (.int p2)] ∧ Z.Warmed39 U.vm ∧ U.heap = h0) (fun _ _ _ _ _ => True) (fun _ U o U' => ∃ v L, o = .returned v ∧ Q11 Z p1 p2 h0 n0 v U'.heap L ∧ FrameEnd U o U' L ({ frames := 0, cells := 0, slots := 0, locals := 0 } : Room).cells ({ frames := 0, cells := 0, slots := 0, locals := 0 } : Room).slots) := by
  refine MetFree.of_bodySF (Jvm.Free.JP.mathPlain rfl (by decide +kernel)) hisR ?_
  intro p e s m args below meth c s₁ Bd hml0 hP hK
  obtain ⟨rfl, hZ, hh⟩ := hP
  have hx := Bd.exec
  have hby := Bd.bytes
  have hml : c.maxLocals = 2 := hml0
  have hown : s.vm.findClass "java/lang/Math" = some m.cls := findClass_of_methodNamed Bd.named
  have hnm := (name_of_methodNamed Bd.named Bd.method).1
  have X0 : Stand p l e ({ frames := 0, cells := 0, slots := 0, locals := 0 } : Room) s m #[(.int p1), (.int p2)] below meth c s₁ [] 0 0 := Stand.of_body Bd
  have e0 : s₁.heap = h0 := by rw [← hh, Bd.state]; rfl
  have N0 := Fr.nil n0
  have Z0 : n0 ≤ h0.size := O0.1 ▸ O0.2.1
  have pre0 : ∀ t, Steps p.tables e below (s₁.setTop (mkF m 0 #[.val (.int p1), .val (.int p2)] [])) t → Steps p.tables e below (s₁.setTop (entryFrame m #[(.int p1), (.int p2)] 2)) t := fun t k => castTop (ef_11 m p1 p2) k
  obtain ⟨fs, hr, hrun, hended, hW, hsame⟩ := X0.leave (v := some (.int p1)) (fun h => by rw [Bd.returns] at h; cases h)
  refine ⟨_, _, pre0 _ ?_, hrun, hended, _, _, rfl, ?_, ⟨_, rfl⟩, hW, hsame.mono (by decide) (by decide)⟩
  · show Steps p.tables e below (s₁.setTop (mkF m 0 #[.val (.int p1), .val (.int p2)] [])) _
    refine XS.iloadN X0.here hx rfl (hb hby d11_0) rfl ?_
    show Steps p.tables e below (s₁.setTop (mkF m 1 #[.val (.int p1), .val (.int p2)] [(.int p1)])) _
    refine XS.iloadN X0.here hx rfl (hb hby d11_1) rfl ?_
    show Steps p.tables e below (s₁.setTop (mkF m 2 #[.val (.int p1), .val (.int p2)] [(.int p2), (.int p1)])) _
    refine XS.icmpNo X0.here hx rfl (hb hby d11_2) rfl (flt hc2).1 ?_
    show Steps p.tables e below (s₁.setTop (mkF m 5 #[.val (.int p1), .val (.int p2)] [])) _
    refine XS.iloadN X0.here hx rfl (hb hby d11_5) rfl ?_
    show Steps p.tables e below (s₁.setTop (mkF m 6 #[.val (.int p1), .val (.int p2)] [(.int p1)])) _
    refine XS.goto X0.here hx rfl (pc0 := 6) (pc' := 10) rfl (hb hby d11_6) (by decide) (by decide) ?_
    show Steps p.tables e below (s₁.setTop (mkF m 10 #[.val (.int p1), .val (.int p2)] [(.int p1)])) _
    exact own_retI X0 hx Bd.returns (hb hby d11_10) hr
  · show Q11 Z p1 p2 h0 n0 _ s₁.heap _
    rw [e0]
    exact ⟨rfl, N0, rfl⟩
theorem d10_0 : decode jdk_38_method_6_code 0 = .ok (.aload_n 0, 1) := by decide +kernel
theorem d10_1 : decode jdk_38_method_6_code 1 = .ok (.getfield 9, 3) := by decide +kernel
theorem d10_4 : decode jdk_38_method_6_code 4 = .ok (.arraylength, 1) := by decide +kernel
theorem d10_5 : decode jdk_38_method_6_code 5 = .ok (.istore_n 2, 1) := by decide +kernel
theorem d10_6 : decode jdk_38_method_6_code 6 = .ok (.iload_n 2, 1) := by decide +kernel
theorem d10_7 : decode jdk_38_method_6_code 7 = .ok (.ifCond .gt 13, 3) := by decide +kernel
theorem d10_10 : decode jdk_38_method_6_code 10 = .ok (.aload_n 0, 1) := by decide +kernel
theorem d10_11 : decode jdk_38_method_6_code 11 = .ok (.getfield 9, 3) := by decide +kernel
theorem d10_14 : decode jdk_38_method_6_code 14 = .ok (.getstatic 39, 3) := by decide +kernel
theorem d10_17 : decode jdk_38_method_6_code 17 = .ok (.if_acmp .eq 28, 3) := by decide +kernel
theorem d10_45 : decode jdk_38_method_6_code 45 = .ok (.aload_n 0, 1) := by decide +kernel
theorem d10_46 : decode jdk_38_method_6_code 46 = .ok (.bipush 10, 2) := by decide +kernel
theorem d10_48 : decode jdk_38_method_6_code 48 = .ok (.iload_n 1, 1) := by decide +kernel
theorem d10_49 : decode jdk_38_method_6_code 49 = .ok (.invokestatic 79, 3) := by decide +kernel
theorem pd_7 : parseMethodDescriptor "(II)I" = some ⟨[.int, .int], some .int⟩ := by decide +kernel
theorem d10_52 : decode jdk_38_method_6_code 52 = .ok (.anewarray 7, 3) := by decide +kernel
theorem d10_55 : decode jdk_38_method_6_code 55 = .ok (.dup_x1, 1) := by decide +kernel
theorem d10_56 : decode jdk_38_method_6_code 56 = .ok (.putfield 9, 3) := by decide +kernel
theorem d10_59 : decode jdk_38_method_6_code 59 = .ok (.areturn, 1) := by decide +kernel
def Q10 (Z : State) (a1 : Addr) (p0 : Int32) (w0 : Addr) (k0 : ClassId) (h0 : Heap) (n0 : Nat) (v : Option Value) (h : Heap) (L : List Loc) : Prop := ∃ b7 : Addr, ∃ k7 : ClassId, v = some (.ref b7) ∧ Fr n0 L ∧ Keep h0 h [a1] ∧ h0.size ≤ b7 ∧ Exa Z h a1 "java/util/ArrayList" ∧ Fld Z h a1 "java/util/ArrayList" "elementData" "[Ljava/lang/Object;" (.ref b7) ∧ Fld Z h a1 "java/util/AbstractList" "modCount" "I" (.int p0) ∧ Fld Z h a1 "java/util/ArrayList" "size" "I" (.int (0 : Int32)) ∧ Exa Z h b7 "[Ljava/lang/Object;" ∧ Arv Z h b7 k7 (.object "java/lang/Object") (10 : Int32) [.null, .null, .null, .null, .null, .null, .null, .null, .null, .null] .null ∧ Ovr Z k7 "java/lang/Object"
theorem ef_10a__1___Int32__ (m : MethodId) (x0 : Addr) : entryFrame m #[(.ref x0), (.int (1 : Int32))] 4 = mkF m 0 #[.val (.ref x0), .val (.int (1 : Int32)), .unset, .unset] [] := by first | (simp [entryFrame, mkF, argsToLocals, Value.category]; done) | rfl
set_option maxRecDepth 65536 in
set_option maxHeartbeats 40000000 in
theorem rm10 (l : Launch) (Z : State) (a0 : Array Value) (hw : ∀ d ∈ tables_1, d.before a0 Z = true) (ws : List Jvm.Cond) (a1 : Addr) (p0 : Int32) (w0 : Addr) (k0 : ClassId) (h0 : Heap) (n0 : Nat) (O0 : Old Z n0 h0) (HE_a1 : Exa Z h0 a1 "java/util/ArrayList") (HF_a1_modCount : Fld Z h0 a1 "java/util/AbstractList" "modCount" "I" (.int p0)) (HF_a1_elementData : Fld Z h0 a1 "java/util/ArrayList" "elementData" "[Ljava/lang/Object;" (.ref w0)) (HF_a1_size : Fld Z h0 a1 "java/util/ArrayList" "size" "I" (.int (0 : Int32))) (HV_w0 : Arv Z h0 w0 k0 (.object "java/lang/Object") (0 : Int32) [] .null) (S_DEFAULTCAPACITY_EMPTY_ELEMENTDATA : Sta Z Z.heap "java/util/ArrayList" "DEFAULTCAPACITY_EMPTY_ELEMENTDATA" "[Ljava/lang/Object;" (.ref w0)) (g_a1 : n0 ≤ a1) :
    MetFree l (⟨"java/util/ArrayList", "grow", "(I)[Ljava/lang/Object;"⟩ : MethodName) (head1 (Jvm.Cond.code (⟨"java/util/ArrayList", "grow", "(I)[Ljava/lang/Object;"⟩ : MethodName) jdk_38_method_6_code 4 (some (.array (.object "java/lang/Object"))) :: ws) ({ frames := 1, cells := 1, slots := 10, locals := 14 } : Room)) (fun a U => a = #[(.ref a1), (.int (1 : Int32))] ∧ Z.Warmed39 U.vm ∧ U.heap = h0) (fun _ _ _ _ _ => True) (fun _ U o U' => ∃ v L, o = .returned v ∧ Q10 Z a1 p0 w0 k0 h0 n0 v U'.heap L ∧ FrameEnd U o U' L ({ frames := 1, cells := 1, slots := 10, locals := 14 } : Room).cells ({ frames := 1, cells := 1, slots := 10, locals := 14 } : Room).slots) := by
  refine MetFree.of_bodySF (plainFor_of_name pnc_java_util_ArrayList) hisR ?_
  intro p e s m args below meth c s₁ Bd hml0 hP hK
  obtain ⟨rfl, hZ, hh⟩ := hP
  have hx := Bd.exec
  have hby := Bd.bytes
  have hml : c.maxLocals = 4 := hml0
  have hown : s.vm.findClass "java/util/ArrayList" = some m.cls := findClass_of_methodNamed Bd.named
  have hnm := (name_of_methodNamed Bd.named Bd.method).1
  have X0 : Stand p l e ({ frames := 1, cells := 1, slots := 10, locals := 14 } : Room) s m #[(.ref a1), (.int (1 : Int32))] below meth c s₁ [] 0 0 := Stand.of_body Bd
  have e0 : s₁.heap = h0 := by rw [← hh, Bd.state]; rfl
  have N0 := Fr.nil n0
  have Z0 : n0 ≤ h0.size := O0.1 ▸ O0.2.1
  have pre0 : ∀ t, Steps p.tables e below (s₁.setTop (mkF m 0 #[.val (.ref a1), .val (.int (1 : Int32)), .unset, .unset] [])) t → Steps p.tables e below (s₁.setTop (entryFrame m #[(.ref a1), (.int (1 : Int32))] 4)) t := fun t k => castTop (ef_10a__1___Int32__ m a1) k
  obtain ⟨T2, X2, e2, st2⟩ := getF X0 hx hZ hown (host := "") (Or.inl (hw _ (List.mem_of_getElem? (i := 42) rfl))) Via.refl e0 HF_a1_elementData (g := (mkF m 1 #[.val (.ref a1), .val (.int (1 : Int32)), .unset, .unset] [(.ref a1)])) rfl rfl (hb hby d10_1)
  obtain ⟨cl3, Ar3, q3, S3, Nn3, Hh3, G3⟩ := id HV_w0
  obtain ⟨T4, X4, e4, st4⟩ := getF X2 hx hZ hown (host := "") (Or.inl (hw _ (List.mem_of_getElem? (i := 42) rfl))) Via.refl e2 HF_a1_elementData (g := (mkF m 11 #[.val (.ref a1), .val (.int (1 : Int32)), .val (.int (0 : Int32)), .unset] [(.ref a1)])) rfl rfl (hb hby d10_11)
  obtain ⟨T5, X5, e5, st5⟩ := getS2 X4 hx hZ hown (host := "") (Or.inl (hw _ (List.mem_of_getElem? (i := 41) rfl))) Via.refl e4 (S_DEFAULTCAPACITY_EMPTY_ELEMENTDATA.ext O0.2) (g := (mkF m 14 #[.val (.ref a1), .val (.int (1 : Int32)), .val (.int (0 : Int32)), .unset] [(.ref w0)])) rfl (hb hby d10_14)
  obtain ⟨vr6, _, ⟨T6, L6, k6, n6⟩, -, X6, ⟨Lc6, hQ6, l6, y6, z6⟩, st6⟩ := Jvm.LawKit.callS X5 hx (y := (⟨"java/lang/Math", "max", "(II)I"⟩ : MethodName)) hown (mvT hZ (hw _ (List.mem_of_getElem? (i := 68) rfl))) (mvT hZ (hw _ (List.mem_of_getElem? (i := 69) rfl))) (mvT hZ (hw _ (List.mem_of_getElem? (i := 70) rfl))) (mvT hZ (hw _ (List.mem_of_getElem? (i := 71) rfl))) (by decide) (backOf (W := 1) (rm11 l Z a0 hw [] ((10 : Int32)) ((1 : Int32)) h0 n0 O0 (by decide : ¬ ((10 : Int32) < (1 : Int32)))) hZ (hw _ (List.mem_of_getElem? (i := 71) rfl)) (hw _ (List.mem_of_getElem? (i := 70) rfl)) (by decide) (by decide)) (g := (mkF m 49 #[.val (.ref a1), .val (.int (1 : Int32)), .val (.int (0 : Int32)), .unset] [(.int (1 : Int32)), (.int (10 : Int32)), (.ref a1)])) rfl (by rw [hml]; rfl) (argsL := [(.int (10 : Int32)), (.int (1 : Int32))]) (rest := [(.ref a1)]) (lenOf pd_7 rfl) rfl (by show 2 * 0 + _ ≤ _; exact Nat.le_of_eq rfl) (hb hby d10_49) (fun _ _ => ⟨rfl, e5, (by decide : 0 + 0 ≤ _), (by decide : 0 + 0 ≤ _)⟩)
  dsimp only [Pt.U, Pt.locs, Pt.cells, Pt.slots] at X6 l6 y6 z6 st6 hQ6
  subst l6 y6 z6
  obtain ⟨rfl, N6q, e6⟩ := hQ6
  have N6 := Fr.app N0 N6q
  replace X6 := X6.more (cells' := 0) (slots' := 0) (by decide) (by decide)
  obtain ⟨T7, h7, k7, X7, e7, E7, A7, B7, Ov7, st7⟩ := newRE X6 hx hZ hown (hw _ (List.mem_of_getElem? (i := 72) rfl)) (hw _ (List.mem_of_getElem? (i := 73) rfl)) e6 (g := (mkF m 52 #[.val (.ref a1), .val (.int (1 : Int32)), .val (.int (0 : Int32)), .unset] [(.int (10 : Int32)), (.ref a1)])) rfl (hb hby d10_52) rfl (by decide) (cap := 10) (by decide) (by decide) (by decide) (by decide) (ad := "[Ljava/lang/Object;") (by decide)
  obtain ⟨b7, g7⟩ : ∃ z, z = h0.size := ⟨_, rfl⟩
  rw [← g7] at A7 B7 st7
  have g_b7 : n0 ≤ b7 := Nat.le_trans (Nat.le_trans Z0 (Keep.refl h0 [a1]).1) (Nat.le_of_eq g7.symm)
  have sz_b7 : h0.size ≤ b7 := Nat.le_trans (Keep.refl h0 [a1]).1 (Nat.le_of_eq g7.symm)
  have K8 : Keep h0 h7 [a1] := (Keep.refl h0 [a1]).ext E7
  have O9 : Old Z n0 h7 := O0.ext E7
  have V7 : Arv Z h7 b7 k7 (.object "java/lang/Object") (10 : Int32) [.null, .null, .null, .null, .null, .null, .null, .null, .null, .null] .null := (Arv.new A7 (by decide)).pad (pad_rep [] .null 10)
  replace X7 := X7.more (cells' := 1) (slots' := 10) (by decide) (by decide)
  have f10 := (HE_a1.ext E7)
  have f11 := (HF_a1_elementData.ext E7)
  obtain ⟨T12, h12, X12, e12, W12, st12⟩ := putF X7 hx hZ hown (host := "") (Or.inl (hw _ (List.mem_of_getElem? (i := 42) rfl))) Via.refl e7 f11 f10 (Or.inl (hw _ (List.mem_of_getElem? (i := 43) rfl))) (hw _ (List.mem_of_getElem? (i := 21) rfl)) (ty := (.array (.object "java/lang/Object"))) (by decide) rfl rfl (g := (mkF m 56 #[.val (.ref a1), .val (.int (1 : Int32)), .val (.int (0 : Int32)), .unset] [(.ref b7), (.ref a1), (.ref b7)])) rfl rfl (hb hby d10_56)
  have N12 := Fr.snoc X12 N6 g_a1
  have K13 : Keep h0 h12 [a1] := K8.wr W12 (Or.inl (List.mem_of_getElem? (i := 0) rfl))
  have O14 : Old Z n0 h12 := O9.wr W12 g_a1
  have Fw12 : Fld Z h12 a1 "java/util/ArrayList" "elementData" "[Ljava/lang/Object;" (.ref b7) := f11.same W12
  have f15 := (f10.wr W12)
  have f16 := ((HF_a1_modCount.ext E7).other W12 (Or.inr (slot_ne (Or.inl (hw _ (List.mem_of_getElem? (i := 40) rfl))) (Or.inl (hw _ (List.mem_of_getElem? (i := 43) rfl))) (by decide) (t := .int) (t' := (.array (.object "java/lang/Object"))) (by decide) (by decide))))
  have f17 := ((HF_a1_size.ext E7).other W12 (Or.inr (slot_ne (Or.inl (hw _ (List.mem_of_getElem? (i := 52) rfl))) (Or.inl (hw _ (List.mem_of_getElem? (i := 43) rfl))) (by decide) (t := .int) (t' := (.array (.object "java/lang/Object"))) (by decide) (by decide))))
  have f18 := (B7.wr W12)
  have f19 := (V7.other W12 (Ne.symm (Nat.ne_of_lt (Nat.lt_of_lt_of_le HE_a1.lt (Nat.le_of_eq g7.symm)))))
  have f20 := Ov7
  obtain ⟨fs, hr, hrun, hended, hW, hsame⟩ := X12.leave (v := some (.ref b7)) (fun h => by rw [Bd.returns] at h; cases h)
  refine ⟨_, _, pre0 _ ?_, hrun, hended, _, _, rfl, ?_, ⟨_, rfl⟩, hW, hsame.mono (by decide) (by decide)⟩
  · show Steps p.tables e below (s₁.setTop (mkF m 0 #[.val (.ref a1), .val (.int (1 : Int32)), .unset, .unset] [])) _
    refine XS.aloadN X0.here hx rfl (hb hby d10_0) rfl rfl ?_
    show Steps p.tables e below (s₁.setTop (mkF m 1 #[.val (.ref a1), .val (.int (1 : Int32)), .unset, .unset] [(.ref a1)])) _
    refine st2 _ ?_
    show Steps p.tables e below (T2.setTop (mkF m 4 #[.val (.ref a1), .val (.int (1 : Int32)), .unset, .unset] [(.ref w0)])) _
    refine X2.arraylength hx (by rw [e2]; exact Ar3.1) (State.isArrayOf_alike hZ.alike Ar3.2.1) (g := (mkF m 4 #[.val (.ref a1), .val (.int (1 : Int32)), .unset, .unset] [(.ref w0)])) rfl rfl (hb hby d10_4) _ ?_
    rw [len_of S3 Nn3]
    show Steps p.tables e below (T2.setTop (mkF m 5 #[.val (.ref a1), .val (.int (1 : Int32)), .unset, .unset] [(.int (0 : Int32))])) _
    refine XS.istoreN X2.here hx rfl (hb hby d10_5) rfl (l' := #[.val (.ref a1), .val (.int (1 : Int32)), .val (.int (0 : Int32)), .unset]) rfl ?_
    show Steps p.tables e below (T2.setTop (mkF m 6 #[.val (.ref a1), .val (.int (1 : Int32)), .val (.int (0 : Int32)), .unset] [])) _
    refine XS.iloadN X2.here hx rfl (hb hby d10_6) rfl ?_
    show Steps p.tables e below (T2.setTop (mkF m 7 #[.val (.ref a1), .val (.int (1 : Int32)), .val (.int (0 : Int32)), .unset] [(.int (0 : Int32))])) _
    refine XS.ifNo X2.here hx rfl (hb hby d10_7) rfl ((if0 _ _).trans (flt (by decide : ¬ ((0 : Int32) < (0 : Int32)))).2.2.1) ?_
    show Steps p.tables e below (T2.setTop (mkF m 10 #[.val (.ref a1), .val (.int (1 : Int32)), .val (.int (0 : Int32)), .unset] [])) _
    refine XS.aloadN X2.here hx rfl (hb hby d10_10) rfl rfl ?_
    show Steps p.tables e below (T2.setTop (mkF m 11 #[.val (.ref a1), .val (.int (1 : Int32)), .val (.int (0 : Int32)), .unset] [(.ref a1)])) _
    refine st4 _ ?_
    show Steps p.tables e below (T4.setTop (mkF m 14 #[.val (.ref a1), .val (.int (1 : Int32)), .val (.int (0 : Int32)), .unset] [(.ref w0)])) _
    refine st5 _ ?_
    show Steps p.tables e below (T5.setTop (mkF m 17 #[.val (.ref a1), .val (.int (1 : Int32)), .val (.int (0 : Int32)), .unset] [(.ref w0), (.ref w0)])) _
    refine Jvm.RoadKit.acmp (g := (mkF m 17 #[.val (.ref a1), .val (.int (1 : Int32)), .val (.int (0 : Int32)), .unset] [(.ref w0), (.ref w0)])) X5 hx rfl rfl rfl (pc0 := 17) (pc' := 45) (same := true) rfl (hb hby d10_17) rfl (decide_eq_true rfl) (by decide) (by decide) ?_
    show Steps p.tables e below (T5.setTop (mkF m 45 #[.val (.ref a1), .val (.int (1 : Int32)), .val (.int (0 : Int32)), .unset] [])) _
    refine XS.aloadN X5.here hx rfl (hb hby d10_45) rfl rfl ?_
    show Steps p.tables e below (T5.setTop (mkF m 46 #[.val (.ref a1), .val (.int (1 : Int32)), .val (.int (0 : Int32)), .unset] [(.ref a1)])) _
    refine XS.bipush X5.here hx rfl (hb hby d10_46) ?_
    show Steps p.tables e below (T5.setTop (mkF m 48 #[.val (.ref a1), .val (.int (1 : Int32)), .val (.int (0 : Int32)), .unset] [(.int (10 : Int32)), (.ref a1)])) _
    refine XS.iloadN X5.here hx rfl (hb hby d10_48) rfl ?_
    show Steps p.tables e below (T5.setTop (mkF m 49 #[.val (.ref a1), .val (.int (1 : Int32)), .val (.int (0 : Int32)), .unset] [(.int (1 : Int32)), (.int (10 : Int32)), (.ref a1)])) _
    refine st6 _ ?_
    show Steps p.tables e below (T6.setTop (mkF m 52 #[.val (.ref a1), .val (.int (1 : Int32)), .val (.int (0 : Int32)), .unset] [(.int (10 : Int32)), (.ref a1)])) _
    refine st7 _ ?_
    show Steps p.tables e below (T7.setTop (mkF m 55 #[.val (.ref a1), .val (.int (1 : Int32)), .val (.int (0 : Int32)), .unset] [(.ref b7), (.ref a1)])) _
    refine XS.dupX1 X7.here hx rfl (hb hby d10_55) rfl rfl rfl ?_
    show Steps p.tables e below (T7.setTop (mkF m 56 #[.val (.ref a1), .val (.int (1 : Int32)), .val (.int (0 : Int32)), .unset] [(.ref b7), (.ref a1), (.ref b7)])) _
    refine st12 _ ?_
    show Steps p.tables e below (T12.setTop (mkF m 59 #[.val (.ref a1), .val (.int (1 : Int32)), .val (.int (0 : Int32)), .unset] [(.ref b7)])) _
    exact own_retR X12 hx Bd.returns rfl rfl (hb hby d10_59) hr
  · show Q10 Z a1 p0 w0 k0 h0 n0 _ T12.heap _
    rw [e12]
    exact ⟨b7, k7, rfl, N12, K13, sz_b7, f15, Fw12, f16, f17, f18, f19, f20⟩
theorem d9_0 : decode jdk_38_method_7_code 0 = .ok (.aload_n 0, 1) := by decide +kernel
theorem d9_1 : decode jdk_38_method_7_code 1 = .ok (.aload_n 0, 1) := by decide +kernel
theorem d9_2 : decode jdk_38_method_7_code 2 = .ok (.getfield 48, 3) := by decide +kernel
theorem d9_5 : decode jdk_38_method_7_code 5 = .ok (.iconst 1, 1) := by decide +kernel
theorem d9_6 : decode jdk_38_method_7_code 6 = .ok (.iadd, 1) := by decide +kernel
theorem d9_7 : decode jdk_38_method_7_code 7 = .ok (.invokevirtual 69, 3) := by decide +kernel
theorem pd_6 : parseMethodDescriptor "(I)[Ljava/lang/Object;" = some ⟨[.int], some (.array (.object "java/lang/Object"))⟩ := by decide +kernel
theorem d9_10 : decode jdk_38_method_7_code 10 = .ok (.areturn, 1) := by decide +kernel
def Q9 (Z : State) (a1 : Addr) (p0 : Int32) (w0 : Addr) (k0 : ClassId) (h0 : Heap) (n0 : Nat) (v : Option Value) (h : Heap) (L : List Loc) : Prop := ∃ b4 : Addr, ∃ k5 : ClassId, v = some (.ref b4) ∧ Fr n0 L ∧ Keep h0 h [a1] ∧ h0.size ≤ b4 ∧ Exa Z h a1 "java/util/ArrayList" ∧ Fld Z h a1 "java/util/ArrayList" "elementData" "[Ljava/lang/Object;" (.ref b4) ∧ Fld Z h a1 "java/util/AbstractList" "modCount" "I" (.int p0) ∧ Fld Z h a1 "java/util/ArrayList" "size" "I" (.int (0 : Int32)) ∧ Exa Z h b4 "[Ljava/lang/Object;" ∧ Arv Z h b4 k5 (.object "java/lang/Object") (10 : Int32) [.null, .null, .null, .null, .null, .null, .null, .null, .null, .null] .null ∧ Ovr Z k5 "java/lang/Object"
theorem ef_9 (m : MethodId) (x0 : Addr) : entryFrame m #[(.ref x0)] 1 = mkF m 0 #[.val (.ref x0)] [] := by first | (simp [entryFrame, mkF, argsToLocals, Value.category]; done) | rfl
set_option maxRecDepth 65536 in
set_option maxHeartbeats 40000000 in
theorem rm9 (l : Launch) (Z : State) (a0 : Array Value) (hw : ∀ d ∈ tables_1, d.before a0 Z = true) (ws : List Jvm.Cond) (a1 : Addr) (p0 : Int32) (w0 : Addr) (k0 : ClassId) (h0 : Heap) (n0 : Nat) (O0 : Old Z n0 h0) (HE_a1 : Exa Z h0 a1 "java/util/ArrayList") (HF_a1_modCount : Fld Z h0 a1 "java/util/AbstractList" "modCount" "I" (.int p0)) (HF_a1_elementData : Fld Z h0 a1 "java/util/ArrayList" "elementData" "[Ljava/lang/Object;" (.ref w0)) (HF_a1_size : Fld Z h0 a1 "java/util/ArrayList" "size" "I" (.int (0 : Int32))) (HV_w0 : Arv Z h0 w0 k0 (.object "java/lang/Object") (0 : Int32) [] .null) (S_DEFAULTCAPACITY_EMPTY_ELEMENTDATA : Sta Z Z.heap "java/util/ArrayList" "DEFAULTCAPACITY_EMPTY_ELEMENTDATA" "[Ljava/lang/Object;" (.ref w0)) (g_a1 : n0 ≤ a1) :
    MetFree l (⟨"java/util/ArrayList", "grow", "()[Ljava/lang/Object;"⟩ : MethodName) (head1 (Jvm.Cond.code (⟨"java/util/ArrayList", "grow", "()[Ljava/lang/Object;"⟩ : MethodName) jdk_38_method_7_code 1 (some (.array (.object "java/lang/Object"))) :: ws) ({ frames := 2, cells := 1, slots := 10, locals := 29 } : Room)) (fun a U => a = #[(.ref a1)] ∧ Z.Warmed39 U.vm ∧ U.heap = h0) (fun _ _ _ _ _ => True) (fun _ U o U' => ∃ v L, o = .returned v ∧ Q9 Z a1 p0 w0 k0 h0 n0 v U'.heap L ∧ FrameEnd U o U' L ({ frames := 2, cells := 1, slots := 10, locals := 29 } : Room).cells ({ frames := 2, cells := 1, slots := 10, locals := 29 } : Room).slots) := by
  refine MetFree.of_bodySF (plainFor_of_name pnc_java_util_ArrayList) hisR ?_
  intro p e s m args below meth c s₁ Bd hml0 hP hK
  obtain ⟨rfl, hZ, hh⟩ := hP
  have hx := Bd.exec
  have hby := Bd.bytes
  have hml : c.maxLocals = 1 := hml0
  have hown : s.vm.findClass "java/util/ArrayList" = some m.cls := findClass_of_methodNamed Bd.named
  have hnm := (name_of_methodNamed Bd.named Bd.method).1
  have X0 : Stand p l e ({ frames := 2, cells := 1, slots := 10, locals := 29 } : Room) s m #[(.ref a1)] below meth c s₁ [] 0 0 := Stand.of_body Bd
  have e0 : s₁.heap = h0 := by rw [← hh, Bd.state]; rfl
  have N0 := Fr.nil n0
  have Z0 : n0 ≤ h0.size := O0.1 ▸ O0.2.1
  have pre0 : ∀ t, Steps p.tables e below (s₁.setTop (mkF m 0 #[.val (.ref a1)] [])) t → Steps p.tables e below (s₁.setTop (entryFrame m #[(.ref a1)] 1)) t := fun t k => castTop (ef_9 m a1) k
  obtain ⟨T2, X2, e2, st2⟩ := getF X0 hx hZ hown (host := "") (Or.inl (hw _ (List.mem_of_getElem? (i := 51) rfl))) Via.refl e0 HF_a1_size (g := (mkF m 2 #[.val (.ref a1)] [(.ref a1), (.ref a1)])) rfl rfl (hb hby d9_2)
  obtain ⟨cq3, q3, q3'⟩ := HE_a1.cell
  obtain ⟨vr3, _, ⟨T3, L3, k3, n3⟩, -, X3, ⟨Lc3, hQ3, l3, y3, z3⟩, st3⟩ := X2.privateBack hx (y := (⟨"java/util/ArrayList", "grow", "(I)[Ljava/lang/Object;"⟩ : MethodName)) hown (mvT hZ (hw _ (List.mem_of_getElem? (i := 63) rfl))) (mvT hZ (hw _ (List.mem_of_getElem? (i := 64) rfl))) (mvT hZ (hw _ (List.mem_of_getElem? (i := 66) rfl))) (Cond.privateMethod_at (mvP hZ (hw _ (List.mem_of_getElem? (i := 65) rfl)) (args := #[]))) (mvT hZ (hw _ (List.mem_of_getElem? (i := 67) rfl))) (by decide) (backOf (W := 0) (rm10 l Z a0 hw [] a1 p0 w0 k0 h0 n0 O0 HE_a1 HF_a1_modCount HF_a1_elementData HF_a1_size HV_w0 S_DEFAULTCAPACITY_EMPTY_ELEMENTDATA g_a1) hZ (hw _ (List.mem_of_getElem? (i := 67) rfl)) (hw _ (List.mem_of_getElem? (i := 22) rfl)) (by decide) (by decide)) (g := (mkF m 7 #[.val (.ref a1)] [(.int (1 : Int32)), (.ref a1)])) rfl (by rw [hml]; rfl) (Steps.refl _) (a := a1) (by rw [e2]; exact q3) q3' (argsL := [(.int (1 : Int32))]) (rest := []) (lenOf pd_6 rfl) rfl (by show 2 * 0 + _ ≤ _; exact Nat.le_of_eq rfl) (hb hby d9_7) (fun _ _ => ⟨rfl, e2, (by decide : 0 + 1 ≤ _), (by decide : 0 + 10 ≤ _)⟩)
  dsimp only [Pt.U, Pt.locs, Pt.cells, Pt.slots] at X3 l3 y3 z3 st3 hQ3
  subst l3 y3 z3
  obtain ⟨b4, k5, rfl, N3q, K3, Y3_z0, Y3_0, Y3_1, Y3_2, Y3_3, Y3_4, Y3_5, Y3_6⟩ := hQ3
  have N3 := Fr.app N0 N3q
  replace X3 := X3.more (cells' := 1) (slots' := 10) (by decide) (by decide)
  have g_b4 : n0 ≤ b4 := Nat.le_trans (Nat.le_trans Z0 (Keep.refl h0 [a1]).1) Y3_z0
  have sz_b4 : h0.size ≤ b4 := Nat.le_trans (Keep.refl h0 [a1]).1 Y3_z0
  have K6 : Keep h0 T3.heap [a1] := (Keep.refl h0 [a1]).trans K3 (allS (Or.inl (List.mem_of_getElem? (i := 0) rfl)) all0)
  have O7 : Old Z n0 T3.heap := O0.keep K3 (allS g_a1 all0)
  obtain ⟨fs, hr, hrun, hended, hW, hsame⟩ := X3.leave (v := some (.ref b4)) (fun h => by rw [Bd.returns] at h; cases h)
  refine ⟨_, _, pre0 _ ?_, hrun, hended, _, _, rfl, ?_, ⟨_, rfl⟩, hW, hsame.mono (by decide) (by decide)⟩
  · show Steps p.tables e below (s₁.setTop (mkF m 0 #[.val (.ref a1)] [])) _
    refine XS.aloadN X0.here hx rfl (hb hby d9_0) rfl rfl ?_
    show Steps p.tables e below (s₁.setTop (mkF m 1 #[.val (.ref a1)] [(.ref a1)])) _
    refine XS.aloadN X0.here hx rfl (hb hby d9_1) rfl rfl ?_
    show Steps p.tables e below (s₁.setTop (mkF m 2 #[.val (.ref a1)] [(.ref a1), (.ref a1)])) _
    refine st2 _ ?_
    show Steps p.tables e below (T2.setTop (mkF m 5 #[.val (.ref a1)] [(.int (0 : Int32)), (.ref a1)])) _
    refine XS.iconst X2.here hx rfl (hb hby d9_5) ?_
    show Steps p.tables e below (T2.setTop (mkF m 6 #[.val (.ref a1)] [(.int (1 : Int32)), (.int (0 : Int32)), (.ref a1)])) _
    refine XS.iadd X2.here hx rfl (hb hby d9_6) rfl ?_
    show Steps p.tables e below (T2.setTop (mkF m 7 #[.val (.ref a1)] [(.int (1 : Int32)), (.ref a1)])) _
    refine st3.trans ?_
    show Steps p.tables e below (T3.setTop (mkF m 10 #[.val (.ref a1)] [(.ref b4)])) _
    exact own_retR X3 hx Bd.returns rfl rfl (hb hby d9_10) hr
  · show Q9 Z a1 p0 w0 k0 h0 n0 _ T3.heap _
    exact ⟨b4, k5, rfl, N3, K6, sz_b4, Y3_0, Y3_1, Y3_2, Y3_3, Y3_4, Y3_5, Y3_6⟩
theorem d2_0 : decode jdk_30_method_1_code 0 = .ok (.aload_n 0, 1) := by decide +kernel
theorem d2_1 : decode jdk_30_method_1_code 1 = .ok (.invokespecial 1, 3) := by decide +kernel
theorem d2_4 : decode jdk_30_method_1_code 4 = .ok (.return_, 1) := by decide +kernel
def Q2 (Z : State) (a1 : Addr) (h0 : Heap) (n0 : Nat) (v : Option Value) (h : Heap) (L : List Loc) : Prop := v = none ∧ Fr n0 L ∧ h = h0
theorem ef_2 (m : MethodId) (x0 : Addr) : entryFrame m #[(.ref x0)] 1 = mkF m 0 #[.val (.ref x0)] [] := by first | (simp [entryFrame, mkF, argsToLocals, Value.category]; done) | rfl
theorem pnc_java_lang_Record : plainName "java/lang/Record" = true := by first | (simp [plainName, overriddenIn]; done) | decide +kernel
set_option maxRecDepth 65536 in
set_option maxHeartbeats 40000000 in
theorem rm2 (l : Launch) (Z : State) (a0 : Array Value) (hw : ∀ d ∈ tables_1, d.before a0 Z = true) (ws : List Jvm.Cond) (a1 : Addr) (h0 : Heap) (n0 : Nat) (O0 : Old Z n0 h0) :
    MetFree l (⟨"java/lang/Record", "<init>", "()V"⟩ : MethodName) (head1 (Jvm.Cond.code (⟨"java/lang/Record", "<init>", "()V"⟩ : MethodName) jdk_30_method_1_code 1 none :: ws) ({ frames := 1, cells := 0, slots := 0, locals := 12 } : Room)) (fun a U => a = #[(.ref a1)] ∧ Z.Warmed39 U.vm ∧ U.heap = h0) (fun _ _ _ _ _ => True) (fun _ U o U' => ∃ v L, o = .returned v ∧ Q2 Z a1 h0 n0 v U'.heap L ∧ FrameEnd U o U' L ({ frames := 1, cells := 0, slots := 0, locals := 12 } : Room).cells ({ frames := 1, cells := 0, slots := 0, locals := 12 } : Room).slots) := by
  refine MetFree.of_bodySF (plainFor_of_name pnc_java_lang_Record) hisR ?_
  intro p e s m args below meth c s₁ Bd hml0 hP hK
  obtain ⟨rfl, hZ, hh⟩ := hP
  have hx := Bd.exec
  have hby := Bd.bytes
  have hml : c.maxLocals = 1 := hml0
  have hown : s.vm.findClass "java/lang/Record" = some m.cls := findClass_of_methodNamed Bd.named
  have hnm := (name_of_methodNamed Bd.named Bd.method).1
  have X0 : Stand p l e ({ frames := 1, cells := 0, slots := 0, locals := 12 } : Room) s m #[(.ref a1)] below meth c s₁ [] 0 0 := Stand.of_body Bd
  have e0 : s₁.heap = h0 := by rw [← hh, Bd.state]; rfl
  have N0 := Fr.nil n0
  have Z0 : n0 ≤ h0.size := O0.1 ▸ O0.2.1
  have pre0 : ∀ t, Steps p.tables e below (s₁.setTop (mkF m 0 #[.val (.ref a1)] [])) t → Steps p.tables e below (s₁.setTop (entryFrame m #[(.ref a1)] 1)) t := fun t k => castTop (ef_2 m a1) k
  obtain ⟨T2, X2, e2, st2⟩ := initO X0 hx hZ hown (hw _ (List.mem_of_getElem? (i := 12) rfl)) (hw _ (List.mem_of_getElem? (i := 13) rfl)) (hw _ (List.mem_of_getElem? (i := 14) rfl)) e0 (g := (mkF m 1 #[.val (.ref a1)] [(.ref a1)])) rfl (by rw [hml]; rfl) rfl (hb hby d2_1) (by decide) (W := 0) (by show 2 * 0 + _ ≤ _; exact Nat.le_of_eq rfl) (by decide)
  obtain ⟨fs, hr, hrun, hended, hW, hsame⟩ := X2.leave (v := none) (fun _ => rfl)
  refine ⟨_, _, pre0 _ ?_, hrun, hended, _, _, rfl, ?_, ⟨_, rfl⟩, hW, hsame.mono (by decide) (by decide)⟩
  · show Steps p.tables e below (s₁.setTop (mkF m 0 #[.val (.ref a1)] [])) _
    refine XS.aloadN X0.here hx rfl (hb hby d2_0) rfl rfl ?_
    show Steps p.tables e below (s₁.setTop (mkF m 1 #[.val (.ref a1)] [(.ref a1)])) _
    refine st2 _ ?_
    show Steps p.tables e below (T2.setTop (mkF m 4 #[.val (.ref a1)] [])) _
    exact X2.returnOut hx Bd.returns (hb hby d2_4) hr
  · show Q2 Z a1 h0 n0 _ T2.heap _
    rw [e2]
    exact ⟨rfl, N0, rfl⟩
theorem d1_0 : decode prog_27_method_1_code 0 = .ok (.aload_n 0, 1) := by decide +kernel
theorem d1_1 : decode prog_27_method_1_code 1 = .ok (.invokespecial 1, 3) := by decide +kernel
theorem d1_4 : decode prog_27_method_1_code 4 = .ok (.aload_n 0, 1) := by decide +kernel
theorem d1_5 : decode prog_27_method_1_code 5 = .ok (.aload_n 1, 1) := by decide +kernel
theorem d1_6 : decode prog_27_method_1_code 6 = .ok (.putfield 7, 3) := by decide +kernel
theorem d1_9 : decode prog_27_method_1_code 9 = .ok (.aload_n 0, 1) := by decide +kernel
theorem d1_10 : decode prog_27_method_1_code 10 = .ok (.aload_n 2, 1) := by decide +kernel
theorem d1_11 : decode prog_27_method_1_code 11 = .ok (.putfield 13, 3) := by decide +kernel
theorem d1_14 : decode prog_27_method_1_code 14 = .ok (.return_, 1) := by decide +kernel
def Q1 (Z : State) (a1 : Addr) (u3 u8 : Value) (h0 : Heap) (n0 : Nat) (v : Option Value) (h : Heap) (L : List Loc) : Prop := v = none ∧ Fr n0 L ∧ Keep h0 h [a1] ∧ Exa Z h a1 "com/example/wattle/wattle/HourlyPrice" ∧ Fld Z h a1 "com/example/wattle/wattle/HourlyPrice" "hour" "Ljava/time/OffsetDateTime;" .null ∧ Fld Z h a1 "com/example/wattle/wattle/HourlyPrice" "price" "Ljava/math/BigDecimal;" .null
theorem ef_1ann (m : MethodId) (x0 : Addr) : entryFrame m #[(.ref x0), .null, .null] 3 = mkF m 0 #[.val (.ref x0), .val .null, .val .null] [] := by first | (simp [entryFrame, mkF, argsToLocals, Value.category]; done) | rfl
theorem pnc_com_example_wattle_wattle_HourlyPrice : plainName "com/example/wattle/wattle/HourlyPrice" = true := by first | (simp [plainName, overriddenIn]; done) | decide +kernel
set_option maxRecDepth 65536 in
set_option maxHeartbeats 40000000 in
theorem rm1 (l : Launch) (Z : State) (a0 : Array Value) (hw : ∀ d ∈ tables_1, d.before a0 Z = true) (ws : List Jvm.Cond) (a1 : Addr) (u3 u8 : Value) (h0 : Heap) (n0 : Nat) (O0 : Old Z n0 h0) (HE_a1 : Exa Z h0 a1 "com/example/wattle/wattle/HourlyPrice") (HF_a1_hour : Fld Z h0 a1 "com/example/wattle/wattle/HourlyPrice" "hour" "Ljava/time/OffsetDateTime;" u3) (g_a1 : n0 ≤ a1) (HF_a1_price : Fld Z h0 a1 "com/example/wattle/wattle/HourlyPrice" "price" "Ljava/math/BigDecimal;" u8) :
    MetFree l (⟨"com/example/wattle/wattle/HourlyPrice", "<init>", "(Ljava/time/OffsetDateTime;Ljava/math/BigDecimal;)V"⟩ : MethodName) (head1 (Jvm.Cond.code (⟨"com/example/wattle/wattle/HourlyPrice", "<init>", "(Ljava/time/OffsetDateTime;Ljava/math/BigDecimal;)V"⟩ : MethodName) prog_27_method_1_code 3 none :: ws) ({ frames := 2, cells := 0, slots := 0, locals := 24 } : Room)) (fun a U => a = #[(.ref a1), .null, .null] ∧ Z.Warmed39 U.vm ∧ U.heap = h0) (fun _ _ _ _ _ => True) (fun _ U o U' => ∃ v L, o = .returned v ∧ Q1 Z a1 u3 u8 h0 n0 v U'.heap L ∧ FrameEnd U o U' L ({ frames := 2, cells := 0, slots := 0, locals := 24 } : Room).cells ({ frames := 2, cells := 0, slots := 0, locals := 24 } : Room).slots) := by
  refine MetFree.of_bodySF (plainFor_of_name pnc_com_example_wattle_wattle_HourlyPrice) hisR ?_
  intro p e s m args below meth c s₁ Bd hml0 hP hK
  obtain ⟨rfl, hZ, hh⟩ := hP
  have hx := Bd.exec
  have hby := Bd.bytes
  have hml : c.maxLocals = 3 := hml0
  have hown : s.vm.findClass "com/example/wattle/wattle/HourlyPrice" = some m.cls := findClass_of_methodNamed Bd.named
  have hnm := (name_of_methodNamed Bd.named Bd.method).1
  have X0 : Stand p l e ({ frames := 2, cells := 0, slots := 0, locals := 24 } : Room) s m #[(.ref a1), .null, .null] below meth c s₁ [] 0 0 := Stand.of_body Bd
  have e0 : s₁.heap = h0 := by rw [← hh, Bd.state]; rfl
  have N0 := Fr.nil n0
  have Z0 : n0 ≤ h0.size := O0.1 ▸ O0.2.1
  have pre0 : ∀ t, Steps p.tables e below (s₁.setTop (mkF m 0 #[.val (.ref a1), .val .null, .val .null] [])) t → Steps p.tables e below (s₁.setTop (entryFrame m #[(.ref a1), .null, .null] 3)) t := fun t k => castTop (ef_1ann m a1) k
  obtain ⟨vr2, _, ⟨T2, L2, k2, n2⟩, -, X2, ⟨Lc2, hQ2, l2, y2, z2⟩, st2⟩ := X0.specialBack hx (y := (⟨"java/lang/Record", "<init>", "()V"⟩ : MethodName)) rfl hown (mvT hZ (hw _ (List.mem_of_getElem? (i := 7) rfl))) (mvT hZ (hw _ (List.mem_of_getElem? (i := 8) rfl))) (mvT hZ (hw _ (List.mem_of_getElem? (i := 11) rfl))) (by decide) (backOf (W := 0) (rm2 l Z a0 hw [] a1 h0 n0 O0) hZ (hw _ (List.mem_of_getElem? (i := 11) rfl)) (hw _ (List.mem_of_getElem? (i := 10) rfl)) (by decide) (by decide)) (g := (mkF m 1 #[.val (.ref a1), .val .null, .val .null] [(.ref a1)])) rfl (by rw [hml]; rfl) (Steps.refl _) (a := a1) (argsL := []) (rest := []) (lenOf pd_2 rfl) rfl (by show 2 * 0 + _ ≤ _; exact Nat.le_of_eq rfl) (hb hby d1_1) (fun _ _ => ⟨rfl, e0, (by decide : 0 + 0 ≤ _), (by decide : 0 + 0 ≤ _)⟩)
  dsimp only [Pt.U, Pt.locs, Pt.cells, Pt.slots] at X2 l2 y2 z2 st2 hQ2
  subst l2 y2 z2
  obtain ⟨rfl, N2q, e2⟩ := hQ2
  have N2 := Fr.app N0 N2q
  replace X2 := X2.more (cells' := 0) (slots' := 0) (by decide) (by decide)
  obtain ⟨T4, h4, X4, e4, W4, st4⟩ := putF X2 hx hZ hown (host := "") (Or.inl (hw _ (List.mem_of_getElem? (i := 15) rfl))) Via.refl e2 HF_a1_hour HE_a1 (Or.inr ⟨(hw _ (List.mem_of_getElem? (i := 16) rfl)), rfl, hnm⟩) (hw _ (List.mem_of_getElem? (i := 2) rfl)) (ty := (.object "java/time/OffsetDateTime")) (by decide) rfl rfl (g := (mkF m 6 #[.val (.ref a1), .val .null, .val .null] [.null, (.ref a1)])) rfl rfl (hb hby d1_6)
  have N4 := Fr.snoc X4 N2 g_a1
  have K5 : Keep h0 h4 [a1] := (Keep.refl h0 [a1]).wr W4 (Or.inl (List.mem_of_getElem? (i := 0) rfl))
  have O6 : Old Z n0 h4 := O0.wr W4 g_a1
  have Fw4 : Fld Z h4 a1 "com/example/wattle/wattle/HourlyPrice" "hour" "Ljava/time/OffsetDateTime;" .null := HF_a1_hour.same W4
  have f7 := (HE_a1.wr W4)
  have f9 := (HF_a1_price.other W4 (Or.inr (slot_ne (Or.inr (hw _ (List.mem_of_getElem? (i := 18) rfl))) (Or.inr (hw _ (List.mem_of_getElem? (i := 16) rfl))) (by decide) (t := (.object "java/math/BigDecimal")) (t' := (.object "java/time/OffsetDateTime")) (by decide) (by decide))))
  obtain ⟨T10, h10, X10, e10, W10, st10⟩ := putF X4 hx hZ hown (host := "") (Or.inl (hw _ (List.mem_of_getElem? (i := 17) rfl))) Via.refl e4 f9 f7 (Or.inr ⟨(hw _ (List.mem_of_getElem? (i := 18) rfl)), rfl, hnm⟩) (hw _ (List.mem_of_getElem? (i := 2) rfl)) (ty := (.object "java/math/BigDecimal")) (by decide) rfl rfl (g := (mkF m 11 #[.val (.ref a1), .val .null, .val .null] [.null, (.ref a1)])) rfl rfl (hb hby d1_11)
  have N10 := Fr.snoc X10 N4 g_a1
  have K11 : Keep h0 h10 [a1] := K5.wr W10 (Or.inl (List.mem_of_getElem? (i := 0) rfl))
  have O12 : Old Z n0 h10 := O6.wr W10 g_a1
  have Fw10 : Fld Z h10 a1 "com/example/wattle/wattle/HourlyPrice" "price" "Ljava/math/BigDecimal;" .null := f9.same W10
  have f13 := (f7.wr W10)
  have f14 := (Fw4.other W10 (Or.inr (slot_ne (Or.inr (hw _ (List.mem_of_getElem? (i := 16) rfl))) (Or.inr (hw _ (List.mem_of_getElem? (i := 18) rfl))) (by decide) (t := (.object "java/time/OffsetDateTime")) (t' := (.object "java/math/BigDecimal")) (by decide) (by decide))))
  obtain ⟨fs, hr, hrun, hended, hW, hsame⟩ := X10.leave (v := none) (fun _ => rfl)
  refine ⟨_, _, pre0 _ ?_, hrun, hended, _, _, rfl, ?_, ⟨_, rfl⟩, hW, hsame.mono (by decide) (by decide)⟩
  · show Steps p.tables e below (s₁.setTop (mkF m 0 #[.val (.ref a1), .val .null, .val .null] [])) _
    refine XS.aloadN X0.here hx rfl (hb hby d1_0) rfl rfl ?_
    show Steps p.tables e below (s₁.setTop (mkF m 1 #[.val (.ref a1), .val .null, .val .null] [(.ref a1)])) _
    refine st2.trans ?_
    show Steps p.tables e below (T2.setTop (mkF m 4 #[.val (.ref a1), .val .null, .val .null] [])) _
    refine XS.aloadN X2.here hx rfl (hb hby d1_4) rfl rfl ?_
    show Steps p.tables e below (T2.setTop (mkF m 5 #[.val (.ref a1), .val .null, .val .null] [(.ref a1)])) _
    refine XS.aloadN X2.here hx rfl (hb hby d1_5) rfl rfl ?_
    show Steps p.tables e below (T2.setTop (mkF m 6 #[.val (.ref a1), .val .null, .val .null] [.null, (.ref a1)])) _
    refine st4 _ ?_
    show Steps p.tables e below (T4.setTop (mkF m 9 #[.val (.ref a1), .val .null, .val .null] [])) _
    refine XS.aloadN X4.here hx rfl (hb hby d1_9) rfl rfl ?_
    show Steps p.tables e below (T4.setTop (mkF m 10 #[.val (.ref a1), .val .null, .val .null] [(.ref a1)])) _
    refine XS.aloadN X4.here hx rfl (hb hby d1_10) rfl rfl ?_
    show Steps p.tables e below (T4.setTop (mkF m 11 #[.val (.ref a1), .val .null, .val .null] [.null, (.ref a1)])) _
    refine st10 _ ?_
    show Steps p.tables e below (T10.setTop (mkF m 14 #[.val (.ref a1), .val .null, .val .null] [])) _
    exact X10.returnOut hx Bd.returns (hb hby d1_14) hr
  · show Q1 Z a1 u3 u8 h0 n0 _ T10.heap _
    rw [e10]
    exact ⟨rfl, N10, K11, f13, f14, Fw10⟩
theorem d8_0 : decode jdk_38_method_24_code 0 = .ok (.iload_n 3, 1) := by decide +kernel
theorem d8_1 : decode jdk_38_method_24_code 1 = .ok (.aload_n 2, 1) := by decide +kernel
theorem d8_2 : decode jdk_38_method_24_code 2 = .ok (.arraylength, 1) := by decide +kernel
theorem d8_3 : decode jdk_38_method_24_code 3 = .ok (.if_icmp .ne 8, 3) := by decide +kernel
theorem d8_6 : decode jdk_38_method_24_code 6 = .ok (.aload_n 0, 1) := by decide +kernel
theorem d8_7 : decode jdk_38_method_24_code 7 = .ok (.invokevirtual 129, 3) := by decide +kernel
theorem pd_4 : parseMethodDescriptor "()[Ljava/lang/Object;" = some ⟨[], some (.array (.object "java/lang/Object"))⟩ := by decide +kernel
theorem d8_10 : decode jdk_38_method_24_code 10 = .ok (.astore_n 2, 1) := by decide +kernel
theorem d8_11 : decode jdk_38_method_24_code 11 = .ok (.aload_n 2, 1) := by decide +kernel
theorem d8_12 : decode jdk_38_method_24_code 12 = .ok (.iload_n 3, 1) := by decide +kernel
theorem d8_13 : decode jdk_38_method_24_code 13 = .ok (.aload_n 1, 1) := by decide +kernel
theorem d8_14 : decode jdk_38_method_24_code 14 = .ok (.aastore, 1) := by decide +kernel
theorem own_inskeep {Z : State} {h h' : Heap} {a : Addr} {C : String} {b : Bool} {ws : List Addr} (F : Ins Z h a C b) (K : Keep h h' ws) : Ins Z h' a C b := by
  obtain ⟨cell, cT, h1, h2, h3⟩ := F
  obtain ⟨c', q1, q2, q3, -⟩ := K.2.2 _ _ h1
  exact ⟨c', cT, q1, h2, by rw [q2, q3]; exact h3⟩
theorem d8_15 : decode jdk_38_method_24_code 15 = .ok (.aload_n 0, 1) := by decide +kernel
theorem d8_16 : decode jdk_38_method_24_code 16 = .ok (.iload_n 3, 1) := by decide +kernel
theorem d8_17 : decode jdk_38_method_24_code 17 = .ok (.iconst 1, 1) := by decide +kernel
theorem d8_18 : decode jdk_38_method_24_code 18 = .ok (.iadd, 1) := by decide +kernel
theorem d8_19 : decode jdk_38_method_24_code 19 = .ok (.putfield 48, 3) := by decide +kernel
theorem d8_22 : decode jdk_38_method_24_code 22 = .ok (.return_, 1) := by decide +kernel
def Q8f (Z : State) (a1 a2 a3 : Addr) (p0 : Int32) (k0 : ClassId) (h0 : Heap) (n0 : Nat) (v : Option Value) (h : Heap) (L : List Loc) : Prop := ∃ b6 : Addr, ∃ k7 : ClassId, v = none ∧ Fr n0 L ∧ Keep h0 h [a1] ∧ h0.size ≤ b6 ∧ Exa Z h a1 "java/util/ArrayList" ∧ Fld Z h a1 "java/util/ArrayList" "elementData" "[Ljava/lang/Object;" (.ref b6) ∧ Fld Z h a1 "java/util/AbstractList" "modCount" "I" (.int p0) ∧ Fld Z h a1 "java/util/ArrayList" "size" "I" (.int (1 : Int32)) ∧ Exa Z h b6 "[Ljava/lang/Object;" ∧ Arv Z h b6 k7 (.object "java/lang/Object") (10 : Int32) [(.ref a2), .null, .null, .null, .null, .null, .null, .null, .null, .null] .null ∧ Ovr Z k7 "java/lang/Object"
theorem ef_8aaa__0___Int32__ (m : MethodId) (x0 : Addr) (x1 : Addr) (x2 : Addr) : entryFrame m #[(.ref x0), (.ref x1), (.ref x2), (.int (0 : Int32))] 4 = mkF m 0 #[.val (.ref x0), .val (.ref x1), .val (.ref x2), .val (.int (0 : Int32))] [] := by first | (simp [entryFrame, mkF, argsToLocals, Value.category]; done) | rfl
set_option maxRecDepth 65536 in
set_option maxHeartbeats 40000000 in
theorem rm8f (l : Launch) (Z : State) (a0 : Array Value) (hw : ∀ d ∈ tables_1, d.before a0 Z = true) (ws : List Jvm.Cond) (a1 a2 a3 : Addr) (p0 : Int32) (k0 : ClassId) (h0 : Heap) (n0 : Nat) (O0 : Old Z n0 h0) (HE_a1 : Exa Z h0 a1 "java/util/ArrayList") (HF_a1_modCount : Fld Z h0 a1 "java/util/AbstractList" "modCount" "I" (.int p0)) (HF_a1_elementData : Fld Z h0 a1 "java/util/ArrayList" "elementData" "[Ljava/lang/Object;" (.ref a3)) (HF_a1_size : Fld Z h0 a1 "java/util/ArrayList" "size" "I" (.int (0 : Int32))) (HV_a3 : Arv Z h0 a3 k0 (.object "java/lang/Object") (0 : Int32) [] .null) (S_DEFAULTCAPACITY_EMPTY_ELEMENTDATA : Sta Z Z.heap "java/util/ArrayList" "DEFAULTCAPACITY_EMPTY_ELEMENTDATA" "[Ljava/lang/Object;" (.ref a3)) (g_a1 : n0 ≤ a1) (HI_a2_java_lang_Object : Ins Z h0 a2 "java/lang/Object" true) :
    MetFree l (⟨"java/util/ArrayList", "add", "(Ljava/lang/Object;[Ljava/lang/Object;I)V"⟩ : MethodName) (head1 (Jvm.Cond.code (⟨"java/util/ArrayList", "add", "(Ljava/lang/Object;[Ljava/lang/Object;I)V"⟩ : MethodName) jdk_38_method_24_code 4 none :: ws) ({ frames := 3, cells := 1, slots := 10, locals := 41 } : Room)) (fun a U => a = #[(.ref a1), (.ref a2), (.ref a3), (.int (0 : Int32))] ∧ Z.Warmed39 U.vm ∧ U.heap = h0) (fun _ _ _ _ _ => True) (fun _ U o U' => ∃ v L, o = .returned v ∧ Q8f Z a1 a2 a3 p0 k0 h0 n0 v U'.heap L ∧ FrameEnd U o U' L ({ frames := 3, cells := 1, slots := 10, locals := 41 } : Room).cells ({ frames := 3, cells := 1, slots := 10, locals := 41 } : Room).slots) := by
  refine MetFree.of_bodySF (plainFor_of_name pnc_java_util_ArrayList) hisR ?_
  intro p e s m args below meth c s₁ Bd hml0 hP hK
  obtain ⟨rfl, hZ, hh⟩ := hP
  have hx := Bd.exec
  have hby := Bd.bytes
  have hml : c.maxLocals = 4 := hml0
  have hown : s.vm.findClass "java/util/ArrayList" = some m.cls := findClass_of_methodNamed Bd.named
  have hnm := (name_of_methodNamed Bd.named Bd.method).1
  have X0 : Stand p l e ({ frames := 3, cells := 1, slots := 10, locals := 41 } : Room) s m #[(.ref a1), (.ref a2), (.ref a3), (.int (0 : Int32))] below meth c s₁ [] 0 0 := Stand.of_body Bd
  have e0 : s₁.heap = h0 := by rw [← hh, Bd.state]; rfl
  have N0 := Fr.nil n0
  have Z0 : n0 ≤ h0.size := O0.1 ▸ O0.2.1
  have pre0 : ∀ t, Steps p.tables e below (s₁.setTop (mkF m 0 #[.val (.ref a1), .val (.ref a2), .val (.ref a3), .val (.int (0 : Int32))] [])) t → Steps p.tables e below (s₁.setTop (entryFrame m #[(.ref a1), (.ref a2), (.ref a3), (.int (0 : Int32))] 4)) t := fun t k => castTop (ef_8aaa__0___Int32__ m a1 a2 a3) k
  obtain ⟨cl4, Ar4, q4, S4, Nn4, Hh4, G4⟩ := id HV_a3
  obtain ⟨cq5, q5, q5'⟩ := HE_a1.cell
  obtain ⟨vr5, _, ⟨T5, L5, k5, n5⟩, -, X5, ⟨Lc5, hQ5, l5, y5, z5⟩, st5⟩ := X0.privateBack hx (y := (⟨"java/util/ArrayList", "grow", "()[Ljava/lang/Object;"⟩ : MethodName)) hown (mvT hZ (hw _ (List.mem_of_getElem? (i := 58) rfl))) (mvT hZ (hw _ (List.mem_of_getElem? (i := 59) rfl))) (mvT hZ (hw _ (List.mem_of_getElem? (i := 61) rfl))) (Cond.privateMethod_at (mvP hZ (hw _ (List.mem_of_getElem? (i := 60) rfl)) (args := #[]))) (mvT hZ (hw _ (List.mem_of_getElem? (i := 62) rfl))) (by decide) (backOf (W := 0) (rm9 l Z a0 hw [] a1 p0 a3 k0 h0 n0 O0 HE_a1 HF_a1_modCount HF_a1_elementData HF_a1_size HV_a3 S_DEFAULTCAPACITY_EMPTY_ELEMENTDATA g_a1) hZ (hw _ (List.mem_of_getElem? (i := 62) rfl)) (hw _ (List.mem_of_getElem? (i := 22) rfl)) (by decide) (by decide)) (g := (mkF m 7 #[.val (.ref a1), .val (.ref a2), .val (.ref a3), .val (.int (0 : Int32))] [(.ref a1)])) rfl (by rw [hml]; rfl) (Steps.refl _) (a := a1) (by rw [e0]; exact q5) q5' (argsL := []) (rest := []) (lenOf pd_4 rfl) rfl (by show 2 * 0 + _ ≤ _; exact Nat.le_of_eq rfl) (hb hby d8_7) (fun _ _ => ⟨rfl, e0, (by decide : 0 + 1 ≤ _), (by decide : 0 + 10 ≤ _)⟩)
  dsimp only [Pt.U, Pt.locs, Pt.cells, Pt.slots] at X5 l5 y5 z5 st5 hQ5
  subst l5 y5 z5
  obtain ⟨b6, k7, rfl, N5q, K5, Y5_z0, Y5_0, Y5_1, Y5_2, Y5_3, Y5_4, Y5_5, Y5_6⟩ := hQ5
  have N5 := Fr.app N0 N5q
  replace X5 := X5.more (cells' := 1) (slots' := 10) (by decide) (by decide)
  have g_b6 : n0 ≤ b6 := Nat.le_trans (Nat.le_trans Z0 (Keep.refl h0 [a1]).1) Y5_z0
  have sz_b6 : h0.size ≤ b6 := Nat.le_trans (Keep.refl h0 [a1]).1 Y5_z0
  have K8 : Keep h0 T5.heap [a1] := (Keep.refl h0 [a1]).trans K5 (allS (Or.inl (List.mem_of_getElem? (i := 0) rfl)) all0)
  have O9 : Old Z n0 T5.heap := O0.keep K5 (allS g_a1 all0)
  obtain ⟨cl10, Ar10, q10, S10, Nn10, Hh10, G10⟩ := id Y5_5
  have hin10 : ¬ ((0 : Int32) < 0 ∨ cl10.slots.size ≤ ((0 : Int32)).toNatClampNeg) := inb_of S10 ⟨by decide, by decide⟩
  have f11 := (own_inskeep HI_a2_java_lang_Object K5)
  obtain ⟨T12, h12, X12, e12, W12, st12⟩ := stR X5 hx hZ rfl Ar10 (j := (0 : Int32)) hin10 rfl (Sto.ofV Ar10 q10 Y5_6 f11) (g := (mkF m 14 #[.val (.ref a1), .val (.ref a2), .val (.ref b6), .val (.int (0 : Int32))] [(.ref a2), (.int (0 : Int32)), (.ref b6)])) rfl rfl (hb hby d8_14)
  have N12 := Fr.snoc X12 N5 g_b6
  have K13 : Keep h0 h12 [a1] := K8.wr W12 (Or.inr sz_b6)
  have O14 : Old Z n0 h12 := O9.wr W12 g_b6
  have V12 : Arv Z h12 b6 k7 (.object "java/lang/Object") (10 : Int32) [(.ref a2), .null, .null, .null, .null, .null, .null, .null, .null, .null] .null := Arv.set Ar10 q10 S10 Nn10 Hh10 G10 rfl W12 0 rfl (Nat.le_of_ble_eq_true rfl)
  have f15 := (Y5_0.wr W12)
  have f16 := (Y5_3.other W12 (Or.inl (Nat.ne_of_lt (Nat.lt_of_lt_of_le HE_a1.lt Y5_z0))))
  obtain ⟨T17, h17, X17, e17, W17, st17⟩ := putF X12 hx hZ hown (host := "") (Or.inl (hw _ (List.mem_of_getElem? (i := 51) rfl))) Via.refl e12 f16 f15 (Or.inl (hw _ (List.mem_of_getElem? (i := 52) rfl))) (hw _ (List.mem_of_getElem? (i := 21) rfl)) (ty := .int) (by decide) rfl rfl (g := (mkF m 19 #[.val (.ref a1), .val (.ref a2), .val (.ref b6), .val (.int (0 : Int32))] [(.int (1 : Int32)), (.ref a1)])) rfl rfl (hb hby d8_19)
  have N17 := Fr.snoc X17 N12 g_a1
  have K18 : Keep h0 h17 [a1] := K13.wr W17 (Or.inl (List.mem_of_getElem? (i := 0) rfl))
  have O19 : Old Z n0 h17 := O14.wr W17 g_a1
  have Fw17 : Fld Z h17 a1 "java/util/ArrayList" "size" "I" (.int (1 : Int32)) := f16.same W17
  have f20 := (f15.wr W17)
  have f21 := ((Y5_1.other W12 (Or.inl (Nat.ne_of_lt (Nat.lt_of_lt_of_le HE_a1.lt Y5_z0)))).other W17 (Or.inr (slot_ne (Or.inl (hw _ (List.mem_of_getElem? (i := 43) rfl))) (Or.inl (hw _ (List.mem_of_getElem? (i := 52) rfl))) (by decide) (t := (.array (.object "java/lang/Object"))) (t' := .int) (by decide) (by decide))))
  have f22 := ((Y5_2.other W12 (Or.inl (Nat.ne_of_lt (Nat.lt_of_lt_of_le HE_a1.lt Y5_z0)))).other W17 (Or.inr (slot_ne (Or.inl (hw _ (List.mem_of_getElem? (i := 40) rfl))) (Or.inl (hw _ (List.mem_of_getElem? (i := 52) rfl))) (by decide) (t := .int) (t' := .int) (by decide) (by decide))))
  have f23 := ((Y5_4.wr W12).wr W17)
  have f24 := (V12.other W17 (Ne.symm (Nat.ne_of_lt (Nat.lt_of_lt_of_le HE_a1.lt Y5_z0))))
  have f25 := Y5_6
  obtain ⟨fs, hr, hrun, hended, hW, hsame⟩ := X17.leave (v := none) (fun _ => rfl)
  refine ⟨_, _, pre0 _ ?_, hrun, hended, _, _, rfl, ?_, ⟨_, rfl⟩, hW, hsame.mono (by decide) (by decide)⟩
  · show Steps p.tables e below (s₁.setTop (mkF m 0 #[.val (.ref a1), .val (.ref a2), .val (.ref a3), .val (.int (0 : Int32))] [])) _
    refine XS.iloadN X0.here hx rfl (hb hby d8_0) rfl ?_
    show Steps p.tables e below (s₁.setTop (mkF m 1 #[.val (.ref a1), .val (.ref a2), .val (.ref a3), .val (.int (0 : Int32))] [(.int (0 : Int32))])) _
    refine XS.aloadN X0.here hx rfl (hb hby d8_1) rfl rfl ?_
    show Steps p.tables e below (s₁.setTop (mkF m 2 #[.val (.ref a1), .val (.ref a2), .val (.ref a3), .val (.int (0 : Int32))] [(.ref a3), (.int (0 : Int32))])) _
    refine X0.arraylength hx (by rw [e0]; exact Ar4.1) (State.isArrayOf_alike hZ.alike Ar4.2.1) (g := (mkF m 2 #[.val (.ref a1), .val (.ref a2), .val (.ref a3), .val (.int (0 : Int32))] [(.ref a3), (.int (0 : Int32))])) rfl rfl (hb hby d8_2) _ ?_
    rw [len_of S4 Nn4]
    show Steps p.tables e below (s₁.setTop (mkF m 3 #[.val (.ref a1), .val (.ref a2), .val (.ref a3), .val (.int (0 : Int32))] [(.int (0 : Int32)), (.int (0 : Int32))])) _
    refine XS.icmpNo X0.here hx rfl (hb hby d8_3) rfl (teq (by decide : (0 : Int32) = (0 : Int32))).2 ?_
    show Steps p.tables e below (s₁.setTop (mkF m 6 #[.val (.ref a1), .val (.ref a2), .val (.ref a3), .val (.int (0 : Int32))] [])) _
    refine XS.aloadN X0.here hx rfl (hb hby d8_6) rfl rfl ?_
    show Steps p.tables e below (s₁.setTop (mkF m 7 #[.val (.ref a1), .val (.ref a2), .val (.ref a3), .val (.int (0 : Int32))] [(.ref a1)])) _
    refine st5.trans ?_
    show Steps p.tables e below (T5.setTop (mkF m 10 #[.val (.ref a1), .val (.ref a2), .val (.ref a3), .val (.int (0 : Int32))] [(.ref b6)])) _
    refine XS.astoreN X5.here hx rfl (hb hby d8_10) rfl rfl (l' := #[.val (.ref a1), .val (.ref a2), .val (.ref b6), .val (.int (0 : Int32))]) rfl ?_
    show Steps p.tables e below (T5.setTop (mkF m 11 #[.val (.ref a1), .val (.ref a2), .val (.ref b6), .val (.int (0 : Int32))] [])) _
    refine XS.aloadN X5.here hx rfl (hb hby d8_11) rfl rfl ?_
    show Steps p.tables e below (T5.setTop (mkF m 12 #[.val (.ref a1), .val (.ref a2), .val (.ref b6), .val (.int (0 : Int32))] [(.ref b6)])) _
    refine XS.iloadN X5.here hx rfl (hb hby d8_12) rfl ?_
    show Steps p.tables e below (T5.setTop (mkF m 13 #[.val (.ref a1), .val (.ref a2), .val (.ref b6), .val (.int (0 : Int32))] [(.int (0 : Int32)), (.ref b6)])) _
    refine XS.aloadN X5.here hx rfl (hb hby d8_13) rfl rfl ?_
    show Steps p.tables e below (T5.setTop (mkF m 14 #[.val (.ref a1), .val (.ref a2), .val (.ref b6), .val (.int (0 : Int32))] [(.ref a2), (.int (0 : Int32)), (.ref b6)])) _
    refine st12 _ ?_
    show Steps p.tables e below (T12.setTop (mkF m 15 #[.val (.ref a1), .val (.ref a2), .val (.ref b6), .val (.int (0 : Int32))] [])) _
    refine XS.aloadN X12.here hx rfl (hb hby d8_15) rfl rfl ?_
    show Steps p.tables e below (T12.setTop (mkF m 16 #[.val (.ref a1), .val (.ref a2), .val (.ref b6), .val (.int (0 : Int32))] [(.ref a1)])) _
    refine XS.iloadN X12.here hx rfl (hb hby d8_16) rfl ?_
    show Steps p.tables e below (T12.setTop (mkF m 17 #[.val (.ref a1), .val (.ref a2), .val (.ref b6), .val (.int (0 : Int32))] [(.int (0 : Int32)), (.ref a1)])) _
    refine XS.iconst X12.here hx rfl (hb hby d8_17) ?_
    show Steps p.tables e below (T12.setTop (mkF m 18 #[.val (.ref a1), .val (.ref a2), .val (.ref b6), .val (.int (0 : Int32))] [(.int (1 : Int32)), (.int (0 : Int32)), (.ref a1)])) _
    refine XS.iadd X12.here hx rfl (hb hby d8_18) rfl ?_
    show Steps p.tables e below (T12.setTop (mkF m 19 #[.val (.ref a1), .val (.ref a2), .val (.ref b6), .val (.int (0 : Int32))] [(.int (1 : Int32)), (.ref a1)])) _
    refine st17 _ ?_
    show Steps p.tables e below (T17.setTop (mkF m 22 #[.val (.ref a1), .val (.ref a2), .val (.ref b6), .val (.int (0 : Int32))] [])) _
    exact X17.returnOut hx Bd.returns (hb hby d8_22) hr
  · show Q8f Z a1 a2 a3 p0 k0 h0 n0 _ T17.heap _
    rw [e17]
    exact ⟨b6, k7, rfl, N17, K18, sz_b6, f20, f21, f22, Fw17, f23, f24, f25⟩
theorem d7_0 : decode jdk_38_method_25_code 0 = .ok (.aload_n 0, 1) := by decide +kernel
theorem d7_1 : decode jdk_38_method_25_code 1 = .ok (.dup, 1) := by decide +kernel
theorem d7_2 : decode jdk_38_method_25_code 2 = .ok (.getfield 63, 3) := by decide +kernel
theorem d7_5 : decode jdk_38_method_25_code 5 = .ok (.iconst 1, 1) := by decide +kernel
theorem d7_6 : decode jdk_38_method_25_code 6 = .ok (.iadd, 1) := by decide +kernel
theorem d7_7 : decode jdk_38_method_25_code 7 = .ok (.putfield 63, 3) := by decide +kernel
theorem d7_10 : decode jdk_38_method_25_code 10 = .ok (.aload_n 0, 1) := by decide +kernel
theorem d7_11 : decode jdk_38_method_25_code 11 = .ok (.aload_n 1, 1) := by decide +kernel
theorem d7_12 : decode jdk_38_method_25_code 12 = .ok (.aload_n 0, 1) := by decide +kernel
theorem d7_13 : decode jdk_38_method_25_code 13 = .ok (.getfield 9, 3) := by decide +kernel
theorem d7_16 : decode jdk_38_method_25_code 16 = .ok (.aload_n 0, 1) := by decide +kernel
theorem d7_17 : decode jdk_38_method_25_code 17 = .ok (.getfield 48, 3) := by decide +kernel
theorem d7_20 : decode jdk_38_method_25_code 20 = .ok (.invokevirtual 131, 3) := by decide +kernel
theorem pd_13 : parseMethodDescriptor "(Ljava/lang/Object;[Ljava/lang/Object;I)V" = some ⟨[(.object "java/lang/Object"), (.array (.object "java/lang/Object")), .int], none⟩ := by decide +kernel
theorem d7_23 : decode jdk_38_method_25_code 23 = .ok (.iconst 1, 1) := by decide +kernel
theorem d7_24 : decode jdk_38_method_25_code 24 = .ok (.ireturn, 1) := by decide +kernel
def Q7f (Z : State) (a1 a2 : Addr) (p0 : Int32) (k0 : ClassId) (w0 : Addr) (h0 : Heap) (n0 : Nat) (v : Option Value) (h : Heap) (L : List Loc) : Prop := ∃ b15 : Addr, ∃ k16 : ClassId, v = some (.int (1 : Int32)) ∧ Fr n0 L ∧ Keep h0 h [a1] ∧ h0.size ≤ b15 ∧ Exa Z h a1 "java/util/ArrayList" ∧ Fld Z h a1 "java/util/ArrayList" "elementData" "[Ljava/lang/Object;" (.ref b15) ∧ Fld Z h a1 "java/util/AbstractList" "modCount" "I" (.int (p0 + (1 : Int32))) ∧ Fld Z h a1 "java/util/ArrayList" "size" "I" (.int (1 : Int32)) ∧ Exa Z h b15 "[Ljava/lang/Object;" ∧ Arv Z h b15 k16 (.object "java/lang/Object") (10 : Int32) [(.ref a2), .null, .null, .null, .null, .null, .null, .null, .null, .null] .null ∧ Ovr Z k16 "java/lang/Object"
theorem ef_7 (m : MethodId) (x0 : Addr) (x1 : Addr) : entryFrame m #[(.ref x0), (.ref x1)] 2 = mkF m 0 #[.val (.ref x0), .val (.ref x1)] [] := by first | (simp [entryFrame, mkF, argsToLocals, Value.category]; done) | rfl
set_option maxRecDepth 65536 in
set_option maxHeartbeats 40000000 in
theorem rm7f (l : Launch) (Z : State) (a0 : Array Value) (hw : ∀ d ∈ tables_1, d.before a0 Z = true) (ws : List Jvm.Cond) (a1 a2 : Addr) (p0 : Int32) (k0 : ClassId) (w0 : Addr) (h0 : Heap) (n0 : Nat) (O0 : Old Z n0 h0) (HE_a1 : Exa Z h0 a1 "java/util/ArrayList") (HF_a1_modCount : Fld Z h0 a1 "java/util/AbstractList" "modCount" "I" (.int p0)) (HF_a1_elementData : Fld Z h0 a1 "java/util/ArrayList" "elementData" "[Ljava/lang/Object;" (.ref w0)) (HF_a1_size : Fld Z h0 a1 "java/util/ArrayList" "size" "I" (.int (0 : Int32))) (HV_w0 : Arv Z h0 w0 k0 (.object "java/lang/Object") (0 : Int32) [] .null) (g_a1 : n0 ≤ a1) (ne_w0_a1 : w0 ≠ a1) (S_DEFAULTCAPACITY_EMPTY_ELEMENTDATA : Sta Z Z.heap "java/util/ArrayList" "DEFAULTCAPACITY_EMPTY_ELEMENTDATA" "[Ljava/lang/Object;" (.ref w0)) (HI_a2_java_lang_Object : Ins Z h0 a2 "java/lang/Object" true) :
    MetFree l (⟨"java/util/ArrayList", "add", "(Ljava/lang/Object;)Z"⟩ : MethodName) (head1 (Jvm.Cond.code (⟨"java/util/ArrayList", "add", "(Ljava/lang/Object;)Z"⟩ : MethodName) jdk_38_method_25_code 2 (some .boolean) :: ws) ({ frames := 4, cells := 1, slots := 10, locals := 56 } : Room)) (fun a U => a = #[(.ref a1), (.ref a2)] ∧ Z.Warmed39 U.vm ∧ U.heap = h0) (fun _ _ _ _ _ => True) (fun _ U o U' => ∃ v L, o = .returned v ∧ Q7f Z a1 a2 p0 k0 w0 h0 n0 v U'.heap L ∧ FrameEnd U o U' L ({ frames := 4, cells := 1, slots := 10, locals := 56 } : Room).cells ({ frames := 4, cells := 1, slots := 10, locals := 56 } : Room).slots) := by
  refine MetFree.of_bodySF (plainFor_of_name pnc_java_util_ArrayList) hisR ?_
  intro p e s m args below meth c s₁ Bd hml0 hP hK
  obtain ⟨rfl, hZ, hh⟩ := hP
  have hx := Bd.exec
  have hby := Bd.bytes
  have hml : c.maxLocals = 2 := hml0
  have hown : s.vm.findClass "java/util/ArrayList" = some m.cls := findClass_of_methodNamed Bd.named
  have hnm := (name_of_methodNamed Bd.named Bd.method).1
  have X0 : Stand p l e ({ frames := 4, cells := 1, slots := 10, locals := 56 } : Room) s m #[(.ref a1), (.ref a2)] below meth c s₁ [] 0 0 := Stand.of_body Bd
  have e0 : s₁.heap = h0 := by rw [← hh, Bd.state]; rfl
  have N0 := Fr.nil n0
  have Z0 : n0 ≤ h0.size := O0.1 ▸ O0.2.1
  have pre0 : ∀ t, Steps p.tables e below (s₁.setTop (mkF m 0 #[.val (.ref a1), .val (.ref a2)] [])) t → Steps p.tables e below (s₁.setTop (entryFrame m #[(.ref a1), (.ref a2)] 2)) t := fun t k => castTop (ef_7 m a1 a2) k
  obtain ⟨T3, X3, e3, st3⟩ := getF X0 hx hZ hown (host := "") (Or.inl (hw _ (List.mem_of_getElem? (i := 49) rfl))) (Via.of (hw _ (List.mem_of_getElem? (i := 50) rfl))) e0 HF_a1_modCount (g := (mkF m 2 #[.val (.ref a1), .val (.ref a2)] [(.ref a1), (.ref a1)])) rfl rfl (hb hby d7_2)
  obtain ⟨T4, h4, X4, e4, W4, st4⟩ := putF X3 hx hZ hown (host := "") (Or.inl (hw _ (List.mem_of_getElem? (i := 49) rfl))) (Via.of (hw _ (List.mem_of_getElem? (i := 50) rfl))) e3 HF_a1_modCount HE_a1 (Or.inl (hw _ (List.mem_of_getElem? (i := 40) rfl))) (hw _ (List.mem_of_getElem? (i := 21) rfl)) (ty := .int) (by decide) rfl rfl (g := (mkF m 7 #[.val (.ref a1), .val (.ref a2)] [(.int (p0 + (1 : Int32))), (.ref a1)])) rfl rfl (hb hby d7_7)
  have N4 := Fr.snoc X4 N0 g_a1
  have K5 : Keep h0 h4 [a1] := (Keep.refl h0 [a1]).wr W4 (Or.inl (List.mem_of_getElem? (i := 0) rfl))
  have O6 : Old Z n0 h4 := O0.wr W4 g_a1
  have Fw4 : Fld Z h4 a1 "java/util/AbstractList" "modCount" "I" (.int (p0 + (1 : Int32))) := HF_a1_modCount.same W4
  have f7 := (HF_a1_elementData.other W4 (Or.inr (slot_ne (Or.inl (hw _ (List.mem_of_getElem? (i := 43) rfl))) (Or.inl (hw _ (List.mem_of_getElem? (i := 40) rfl))) (by decide) (t := (.array (.object "java/lang/Object"))) (t' := .int) (by decide) (by decide))))
  obtain ⟨T8, X8, e8, st8⟩ := getF X4 hx hZ hown (host := "") (Or.inl (hw _ (List.mem_of_getElem? (i := 42) rfl))) Via.refl e4 f7 (g := (mkF m 13 #[.val (.ref a1), .val (.ref a2)] [(.ref a1), (.ref a2), (.ref a1)])) rfl rfl (hb hby d7_13)
  have f9 := (HF_a1_size.other W4 (Or.inr (slot_ne (Or.inl (hw _ (List.mem_of_getElem? (i := 52) rfl))) (Or.inl (hw _ (List.mem_of_getElem? (i := 40) rfl))) (by decide) (t := .int) (t' := .int) (by decide) (by decide))))
  obtain ⟨T10, X10, e10, st10⟩ := getF X8 hx hZ hown (host := "") (Or.inl (hw _ (List.mem_of_getElem? (i := 51) rfl))) Via.refl e8 f9 (g := (mkF m 17 #[.val (.ref a1), .val (.ref a2)] [(.ref a1), (.ref w0), (.ref a2), (.ref a1)])) rfl rfl (hb hby d7_17)
  have f11 := (HE_a1.wr W4)
  have f12 := (HV_w0.other W4 ne_w0_a1)
  have f13 := (HI_a2_java_lang_Object.wr W4)
  obtain ⟨cq14, q14, q14'⟩ := f11.cell
  obtain ⟨vr14, _, ⟨T14, L14, k14, n14⟩, -, X14, ⟨Lc14, hQ14, l14, y14, z14⟩, st14⟩ := X10.privateBack hx (y := (⟨"java/util/ArrayList", "add", "(Ljava/lang/Object;[Ljava/lang/Object;I)V"⟩ : MethodName)) hown (mvT hZ (hw _ (List.mem_of_getElem? (i := 53) rfl))) (mvT hZ (hw _ (List.mem_of_getElem? (i := 54) rfl))) (mvT hZ (hw _ (List.mem_of_getElem? (i := 56) rfl))) (Cond.privateMethod_at (mvP hZ (hw _ (List.mem_of_getElem? (i := 55) rfl)) (args := #[]))) (mvT hZ (hw _ (List.mem_of_getElem? (i := 57) rfl))) (by decide) (backOf (W := 0) (rm8f l Z a0 hw [] a1 a2 w0 ((p0 + (1 : Int32))) k0 h4 n0 O6 f11 Fw4 f7 f9 f12 S_DEFAULTCAPACITY_EMPTY_ELEMENTDATA g_a1 f13) hZ (hw _ (List.mem_of_getElem? (i := 57) rfl)) (hw _ (List.mem_of_getElem? (i := 22) rfl)) (by decide) (by decide)) (g := (mkF m 20 #[.val (.ref a1), .val (.ref a2)] [(.int (0 : Int32)), (.ref w0), (.ref a2), (.ref a1)])) rfl (by rw [hml]; rfl) (Steps.refl _) (a := a1) (by rw [e10]; exact q14) q14' (argsL := [(.ref a2), (.ref w0), (.int (0 : Int32))]) (rest := []) (lenOf pd_13 rfl) rfl (by show 2 * 0 + _ ≤ _; exact Nat.le_of_eq rfl) (hb hby d7_20) (fun _ _ => ⟨rfl, e10, (by decide : 0 + 1 ≤ _), (by decide : 0 + 10 ≤ _)⟩)
  dsimp only [Pt.U, Pt.locs, Pt.cells, Pt.slots] at X14 l14 y14 z14 st14 hQ14
  subst l14 y14 z14
  obtain ⟨b15, k16, rfl, N14q, K14, Y14_z0, Y14_0, Y14_1, Y14_2, Y14_3, Y14_4, Y14_5, Y14_6⟩ := hQ14
  have N14 := Fr.app N4 N14q
  replace X14 := X14.more (cells' := 1) (slots' := 10) (by decide) (by decide)
  have g_b15 : n0 ≤ b15 := Nat.le_trans (Nat.le_trans Z0 K5.1) Y14_z0
  have sz_b15 : h0.size ≤ b15 := Nat.le_trans K5.1 Y14_z0
  have K17 : Keep h0 T14.heap [a1] := K5.trans K14 (allS (Or.inl (List.mem_of_getElem? (i := 0) rfl)) all0)
  have O18 : Old Z n0 T14.heap := O6.keep K14 (allS g_a1 all0)
  obtain ⟨fs, hr, hrun, hended, hW, hsame⟩ := X14.leave (v := some (.int (1 : Int32))) (fun h => by rw [Bd.returns] at h; cases h)
  refine ⟨_, _, pre0 _ ?_, hrun, hended, _, _, rfl, ?_, ⟨_, rfl⟩, hW, hsame.mono (by decide) (by decide)⟩
  · show Steps p.tables e below (s₁.setTop (mkF m 0 #[.val (.ref a1), .val (.ref a2)] [])) _
    refine XS.aloadN X0.here hx rfl (hb hby d7_0) rfl rfl ?_
    show Steps p.tables e below (s₁.setTop (mkF m 1 #[.val (.ref a1), .val (.ref a2)] [(.ref a1)])) _
    refine XS.dup X0.here hx rfl (hb hby d7_1) rfl rfl ?_
    show Steps p.tables e below (s₁.setTop (mkF m 2 #[.val (.ref a1), .val (.ref a2)] [(.ref a1), (.ref a1)])) _
    refine st3 _ ?_
    show Steps p.tables e below (T3.setTop (mkF m 5 #[.val (.ref a1), .val (.ref a2)] [(.int p0), (.ref a1)])) _
    refine XS.iconst X3.here hx rfl (hb hby d7_5) ?_
    show Steps p.tables e below (T3.setTop (mkF m 6 #[.val (.ref a1), .val (.ref a2)] [(.int (1 : Int32)), (.int p0), (.ref a1)])) _
    refine XS.iadd X3.here hx rfl (hb hby d7_6) rfl ?_
    show Steps p.tables e below (T3.setTop (mkF m 7 #[.val (.ref a1), .val (.ref a2)] [(.int (p0 + (1 : Int32))), (.ref a1)])) _
    refine st4 _ ?_
    show Steps p.tables e below (T4.setTop (mkF m 10 #[.val (.ref a1), .val (.ref a2)] [])) _
    refine XS.aloadN X4.here hx rfl (hb hby d7_10) rfl rfl ?_
    show Steps p.tables e below (T4.setTop (mkF m 11 #[.val (.ref a1), .val (.ref a2)] [(.ref a1)])) _
    refine XS.aloadN X4.here hx rfl (hb hby d7_11) rfl rfl ?_
    show Steps p.tables e below (T4.setTop (mkF m 12 #[.val (.ref a1), .val (.ref a2)] [(.ref a2), (.ref a1)])) _
    refine XS.aloadN X4.here hx rfl (hb hby d7_12) rfl rfl ?_
    show Steps p.tables e below (T4.setTop (mkF m 13 #[.val (.ref a1), .val (.ref a2)] [(.ref a1), (.ref a2), (.ref a1)])) _
    refine st8 _ ?_
    show Steps p.tables e below (T8.setTop (mkF m 16 #[.val (.ref a1), .val (.ref a2)] [(.ref w0), (.ref a2), (.ref a1)])) _
    refine XS.aloadN X8.here hx rfl (hb hby d7_16) rfl rfl ?_
    show Steps p.tables e below (T8.setTop (mkF m 17 #[.val (.ref a1), .val (.ref a2)] [(.ref a1), (.ref w0), (.ref a2), (.ref a1)])) _
    refine st10 _ ?_
    show Steps p.tables e below (T10.setTop (mkF m 20 #[.val (.ref a1), .val (.ref a2)] [(.int (0 : Int32)), (.ref w0), (.ref a2), (.ref a1)])) _
    refine st14.trans ?_
    show Steps p.tables e below (T14.setTop (mkF m 23 #[.val (.ref a1), .val (.ref a2)] [])) _
    refine XS.iconst X14.here hx rfl (hb hby d7_23) ?_
    show Steps p.tables e below (T14.setTop (mkF m 24 #[.val (.ref a1), .val (.ref a2)] [(.int (1 : Int32))])) _
    exact retN X14 hx (t := .boolean) Bd.returns (by simp) (hb hby d7_24) hr
  · show Q7f Z a1 a2 p0 k0 w0 h0 n0 _ T14.heap _
    exact ⟨b15, k16, rfl, N14, K17, sz_b15, Y14_0, Y14_1, Y14_2, Y14_3, Y14_4, Y14_5, Y14_6⟩
def Q8r1a (Z : State) (a1 a2 a3 : Addr) (p0 : Int32) (k0 : ClassId) (el0 : Addr) (h0 : Heap) (n0 : Nat) (v : Option Value) (h : Heap) (L : List Loc) : Prop := v = none ∧ Fr n0 L ∧ Keep h0 h [a3, a1] ∧ Exa Z h a3 "[Ljava/lang/Object;" ∧ Arv Z h a3 k0 (.object "java/lang/Object") (10 : Int32) [(.ref el0), (.ref a2), .null, .null, .null, .null, .null, .null, .null, .null] .null ∧ Ovr Z k0 "java/lang/Object" ∧ Exa Z h a1 "java/util/ArrayList" ∧ Fld Z h a1 "java/util/ArrayList" "elementData" "[Ljava/lang/Object;" (.ref a3) ∧ Fld Z h a1 "java/util/AbstractList" "modCount" "I" (.int p0) ∧ Fld Z h a1 "java/util/ArrayList" "size" "I" (.int (2 : Int32))
theorem ef_8aaa__1___Int32__ (m : MethodId) (x0 : Addr) (x1 : Addr) (x2 : Addr) : entryFrame m #[(.ref x0), (.ref x1), (.ref x2), (.int (1 : Int32))] 4 = mkF m 0 #[.val (.ref x0), .val (.ref x1), .val (.ref x2), .val (.int (1 : Int32))] [] := by first | (simp [entryFrame, mkF, argsToLocals, Value.category]; done) | rfl
set_option maxRecDepth 65536 in
set_option maxHeartbeats 40000000 in
theorem rm8r1a (l : Launch) (Z : State) (a0 : Array Value) (hw : ∀ d ∈ tables_1, d.before a0 Z = true) (ws : List Jvm.Cond) (a1 a2 a3 : Addr) (p0 : Int32) (k0 : ClassId) (el0 : Addr) (h0 : Heap) (n0 : Nat) (O0 : Old Z n0 h0) (HE_a1 : Exa Z h0 a1 "java/util/ArrayList") (HF_a1_modCount : Fld Z h0 a1 "java/util/AbstractList" "modCount" "I" (.int p0)) (HF_a1_elementData : Fld Z h0 a1 "java/util/ArrayList" "elementData" "[Ljava/lang/Object;" (.ref a3)) (HF_a1_size : Fld Z h0 a1 "java/util/ArrayList" "size" "I" (.int (1 : Int32))) (HE_a3 : Exa Z h0 a3 "[Ljava/lang/Object;") (HV_a3 : Arv Z h0 a3 k0 (.object "java/lang/Object") (10 : Int32) [(.ref el0), .null, .null, .null, .null, .null, .null, .null, .null, .null] .null) (HY_a3 : Ovr Z k0 "java/lang/Object") (HI_a2_java_lang_Object : Ins Z h0 a2 "java/lang/Object" true) (g_a3 : n0 ≤ a3) (ne_a1_a3 : a1 ≠ a3) (g_a1 : n0 ≤ a1) :
    MetFree l (⟨"java/util/ArrayList", "add", "(Ljava/lang/Object;[Ljava/lang/Object;I)V"⟩ : MethodName) (head1 (Jvm.Cond.code (⟨"java/util/ArrayList", "add", "(Ljava/lang/Object;[Ljava/lang/Object;I)V"⟩ : MethodName) jdk_38_method_24_code 4 none :: ws) ({ frames := 0, cells := 0, slots := 0, locals := 0 } : Room)) (fun a U => a = #[(.ref a1), (.ref a2), (.ref a3), (.int (1 : Int32))] ∧ Z.Warmed39 U.vm ∧ U.heap = h0) (fun _ _ _ _ _ => True) (fun _ U o U' => ∃ v L, o = .returned v ∧ Q8r1a Z a1 a2 a3 p0 k0 el0 h0 n0 v U'.heap L ∧ FrameEnd U o U' L ({ frames := 0, cells := 0, slots := 0, locals := 0 } : Room).cells ({ frames := 0, cells := 0, slots := 0, locals := 0 } : Room).slots) := by
  refine MetFree.of_bodySF (plainFor_of_name pnc_java_util_ArrayList) hisR ?_
  intro p e s m args below meth c s₁ Bd hml0 hP hK
  obtain ⟨rfl, hZ, hh⟩ := hP
  have hx := Bd.exec
  have hby := Bd.bytes
  have hml : c.maxLocals = 4 := hml0
  have hown : s.vm.findClass "java/util/ArrayList" = some m.cls := findClass_of_methodNamed Bd.named
  have hnm := (name_of_methodNamed Bd.named Bd.method).1
  have X0 : Stand p l e ({ frames := 0, cells := 0, slots := 0, locals := 0 } : Room) s m #[(.ref a1), (.ref a2), (.ref a3), (.int (1 : Int32))] below meth c s₁ [] 0 0 := Stand.of_body Bd
  have e0 : s₁.heap = h0 := by rw [← hh, Bd.state]; rfl
  have N0 := Fr.nil n0
  have Z0 : n0 ≤ h0.size := O0.1 ▸ O0.2.1
  have pre0 : ∀ t, Steps p.tables e below (s₁.setTop (mkF m 0 #[.val (.ref a1), .val (.ref a2), .val (.ref a3), .val (.int (1 : Int32))] [])) t → Steps p.tables e below (s₁.setTop (entryFrame m #[(.ref a1), (.ref a2), (.ref a3), (.int (1 : Int32))] 4)) t := fun t k => castTop (ef_8aaa__1___Int32__ m a1 a2 a3) k
  obtain ⟨cl4, Ar4, q4, S4, Nn4, Hh4, G4⟩ := id HV_a3
  obtain ⟨cl5, Ar5, q5, S5, Nn5, Hh5, G5⟩ := id HV_a3
  have hin5 : ¬ ((1 : Int32) < 0 ∨ cl5.slots.size ≤ ((1 : Int32)).toNatClampNeg) := inb_of S5 ⟨by decide, by decide⟩
  obtain ⟨T6, h6, X6, e6, W6, st6⟩ := stR X0 hx hZ e0 Ar5 (j := (1 : Int32)) hin5 rfl (Sto.ofV Ar5 q5 HY_a3 HI_a2_java_lang_Object) (g := (mkF m 14 #[.val (.ref a1), .val (.ref a2), .val (.ref a3), .val (.int (1 : Int32))] [(.ref a2), (.int (1 : Int32)), (.ref a3)])) rfl rfl (hb hby d8_14)
  have N6 := Fr.snoc X6 N0 g_a3
  have K7 : Keep h0 h6 [a3, a1] := (Keep.refl h0 [a3, a1]).wr W6 (Or.inl (List.mem_of_getElem? (i := 0) rfl))
  have O8 : Old Z n0 h6 := O0.wr W6 g_a3
  have V6 : Arv Z h6 a3 k0 (.object "java/lang/Object") (10 : Int32) [(.ref el0), (.ref a2), .null, .null, .null, .null, .null, .null, .null, .null] .null := Arv.set Ar5 q5 S5 Nn5 Hh5 G5 rfl W6 1 rfl (Nat.le_of_ble_eq_true rfl)
  have f9 := (HE_a1.wr W6)
  have f10 := (HF_a1_size.other W6 (Or.inl ne_a1_a3))
  obtain ⟨T11, h11, X11, e11, W11, st11⟩ := putF X6 hx hZ hown (host := "") (Or.inl (hw _ (List.mem_of_getElem? (i := 51) rfl))) Via.refl e6 f10 f9 (Or.inl (hw _ (List.mem_of_getElem? (i := 52) rfl))) (hw _ (List.mem_of_getElem? (i := 21) rfl)) (ty := .int) (by decide) rfl rfl (g := (mkF m 19 #[.val (.ref a1), .val (.ref a2), .val (.ref a3), .val (.int (1 : Int32))] [(.int (2 : Int32)), (.ref a1)])) rfl rfl (hb hby d8_19)
  have N11 := Fr.snoc X11 N6 g_a1
  have K12 : Keep h0 h11 [a3, a1] := K7.wr W11 (Or.inl (List.mem_of_getElem? (i := 1) rfl))
  have O13 : Old Z n0 h11 := O8.wr W11 g_a1
  have Fw11 : Fld Z h11 a1 "java/util/ArrayList" "size" "I" (.int (2 : Int32)) := f10.same W11
  have f14 := ((HE_a3.wr W6).wr W11)
  have f15 := (V6.other W11 (Ne.symm ne_a1_a3))
  have f16 := HY_a3
  have f17 := (f9.wr W11)
  have f18 := ((HF_a1_elementData.other W6 (Or.inl ne_a1_a3)).other W11 (Or.inr (slot_ne (Or.inl (hw _ (List.mem_of_getElem? (i := 43) rfl))) (Or.inl (hw _ (List.mem_of_getElem? (i := 52) rfl))) (by decide) (t := (.array (.object "java/lang/Object"))) (t' := .int) (by decide) (by decide))))
  have f19 := ((HF_a1_modCount.other W6 (Or.inl ne_a1_a3)).other W11 (Or.inr (slot_ne (Or.inl (hw _ (List.mem_of_getElem? (i := 40) rfl))) (Or.inl (hw _ (List.mem_of_getElem? (i := 52) rfl))) (by decide) (t := .int) (t' := .int) (by decide) (by decide))))
  obtain ⟨fs, hr, hrun, hended, hW, hsame⟩ := X11.leave (v := none) (fun _ => rfl)
  refine ⟨_, _, pre0 _ ?_, hrun, hended, _, _, rfl, ?_, ⟨_, rfl⟩, hW, hsame.mono (by decide) (by decide)⟩
  · show Steps p.tables e below (s₁.setTop (mkF m 0 #[.val (.ref a1), .val (.ref a2), .val (.ref a3), .val (.int (1 : Int32))] [])) _
    refine XS.iloadN X0.here hx rfl (hb hby d8_0) rfl ?_
    show Steps p.tables e below (s₁.setTop (mkF m 1 #[.val (.ref a1), .val (.ref a2), .val (.ref a3), .val (.int (1 : Int32))] [(.int (1 : Int32))])) _
    refine XS.aloadN X0.here hx rfl (hb hby d8_1) rfl rfl ?_
    show Steps p.tables e below (s₁.setTop (mkF m 2 #[.val (.ref a1), .val (.ref a2), .val (.ref a3), .val (.int (1 : Int32))] [(.ref a3), (.int (1 : Int32))])) _
    refine X0.arraylength hx (by rw [e0]; exact Ar4.1) (State.isArrayOf_alike hZ.alike Ar4.2.1) (g := (mkF m 2 #[.val (.ref a1), .val (.ref a2), .val (.ref a3), .val (.int (1 : Int32))] [(.ref a3), (.int (1 : Int32))])) rfl rfl (hb hby d8_2) _ ?_
    rw [len_of S4 Nn4]
    show Steps p.tables e below (s₁.setTop (mkF m 3 #[.val (.ref a1), .val (.ref a2), .val (.ref a3), .val (.int (1 : Int32))] [(.int (10 : Int32)), (.int (1 : Int32))])) _
    refine XS.icmpYes X0.here hx rfl (pc0 := 3) (pc' := 11) rfl (hb hby d8_3) rfl (feq (by decide : ¬ ((1 : Int32) = (10 : Int32)))).2 (by decide) (by decide) ?_
    show Steps p.tables e below (s₁.setTop (mkF m 11 #[.val (.ref a1), .val (.ref a2), .val (.ref a3), .val (.int (1 : Int32))] [])) _
    refine XS.aloadN X0.here hx rfl (hb hby d8_11) rfl rfl ?_
    show Steps p.tables e below (s₁.setTop (mkF m 12 #[.val (.ref a1), .val (.ref a2), .val (.ref a3), .val (.int (1 : Int32))] [(.ref a3)])) _
    refine XS.iloadN X0.here hx rfl (hb hby d8_12) rfl ?_
    show Steps p.tables e below (s₁.setTop (mkF m 13 #[.val (.ref a1), .val (.ref a2), .val (.ref a3), .val (.int (1 : Int32))] [(.int (1 : Int32)), (.ref a3)])) _
    refine XS.aloadN X0.here hx rfl (hb hby d8_13) rfl rfl ?_
    show Steps p.tables e below (s₁.setTop (mkF m 14 #[.val (.ref a1), .val (.ref a2), .val (.ref a3), .val (.int (1 : Int32))] [(.ref a2), (.int (1 : Int32)), (.ref a3)])) _
    refine st6 _ ?_
    show Steps p.tables e below (T6.setTop (mkF m 15 #[.val (.ref a1), .val (.ref a2), .val (.ref a3), .val (.int (1 : Int32))] [])) _
    refine XS.aloadN X6.here hx rfl (hb hby d8_15) rfl rfl ?_
    show Steps p.tables e below (T6.setTop (mkF m 16 #[.val (.ref a1), .val (.ref a2), .val (.ref a3), .val (.int (1 : Int32))] [(.ref a1)])) _
    refine XS.iloadN X6.here hx rfl (hb hby d8_16) rfl ?_
    show Steps p.tables e below (T6.setTop (mkF m 17 #[.val (.ref a1), .val (.ref a2), .val (.ref a3), .val (.int (1 : Int32))] [(.int (1 : Int32)), (.ref a1)])) _
    refine XS.iconst X6.here hx rfl (hb hby d8_17) ?_
    show Steps p.tables e below (T6.setTop (mkF m 18 #[.val (.ref a1), .val (.ref a2), .val (.ref a3), .val (.int (1 : Int32))] [(.int (1 : Int32)), (.int (1 : Int32)), (.ref a1)])) _
    refine XS.iadd X6.here hx rfl (hb hby d8_18) rfl ?_
    show Steps p.tables e below (T6.setTop (mkF m 19 #[.val (.ref a1), .val (.ref a2), .val (.ref a3), .val (.int (1 : Int32))] [(.int (2 : Int32)), (.ref a1)])) _
    refine st11 _ ?_
    show Steps p.tables e below (T11.setTop (mkF m 22 #[.val (.ref a1), .val (.ref a2), .val (.ref a3), .val (.int (1 : Int32))] [])) _
    exact X11.returnOut hx Bd.returns (hb hby d8_22) hr
  · show Q8r1a Z a1 a2 a3 p0 k0 el0 h0 n0 _ T11.heap _
    rw [e11]
    exact ⟨rfl, N11, K12, f14, f15, f16, f17, f18, f19, Fw11⟩
def Q7r1a (Z : State) (a1 a2 : Addr) (p0 : Int32) (k0 : ClassId) (el0 w0 : Addr) (h0 : Heap) (n0 : Nat) (v : Option Value) (h : Heap) (L : List Loc) : Prop := v = some (.int (1 : Int32)) ∧ Fr n0 L ∧ Keep h0 h [a1, w0] ∧ Exa Z h a1 "java/util/ArrayList" ∧ Fld Z h a1 "java/util/ArrayList" "elementData" "[Ljava/lang/Object;" (.ref w0) ∧ Fld Z h a1 "java/util/AbstractList" "modCount" "I" (.int (p0 + (1 : Int32))) ∧ Fld Z h a1 "java/util/ArrayList" "size" "I" (.int (2 : Int32)) ∧ Exa Z h w0 "[Ljava/lang/Object;" ∧ Arv Z h w0 k0 (.object "java/lang/Object") (10 : Int32) [(.ref el0), (.ref a2), .null, .null, .null, .null, .null, .null, .null, .null] .null ∧ Ovr Z k0 "java/lang/Object"
set_option maxRecDepth 65536 in
set_option maxHeartbeats 40000000 in
theorem rm7r1a (l : Launch) (Z : State) (a0 : Array Value) (hw : ∀ d ∈ tables_1, d.before a0 Z = true) (ws : List Jvm.Cond) (a1 a2 : Addr) (p0 : Int32) (k0 : ClassId) (el0 w0 : Addr) (h0 : Heap) (n0 : Nat) (O0 : Old Z n0 h0) (HE_a1 : Exa Z h0 a1 "java/util/ArrayList") (HF_a1_modCount : Fld Z h0 a1 "java/util/AbstractList" "modCount" "I" (.int p0)) (HF_a1_elementData : Fld Z h0 a1 "java/util/ArrayList" "elementData" "[Ljava/lang/Object;" (.ref w0)) (HF_a1_size : Fld Z h0 a1 "java/util/ArrayList" "size" "I" (.int (1 : Int32))) (HE_w0 : Exa Z h0 w0 "[Ljava/lang/Object;") (HV_w0 : Arv Z h0 w0 k0 (.object "java/lang/Object") (10 : Int32) [(.ref el0), .null, .null, .null, .null, .null, .null, .null, .null, .null] .null) (HY_w0 : Ovr Z k0 "java/lang/Object") (g_a1 : n0 ≤ a1) (ne_w0_a1 : w0 ≠ a1) (HI_a2_java_lang_Object : Ins Z h0 a2 "java/lang/Object" true) (g_w0 : n0 ≤ w0) :
    MetFree l (⟨"java/util/ArrayList", "add", "(Ljava/lang/Object;)Z"⟩ : MethodName) (head1 (Jvm.Cond.code (⟨"java/util/ArrayList", "add", "(Ljava/lang/Object;)Z"⟩ : MethodName) jdk_38_method_25_code 2 (some .boolean) :: ws) ({ frames := 1, cells := 0, slots := 0, locals := 15 } : Room)) (fun a U => a = #[(.ref a1), (.ref a2)] ∧ Z.Warmed39 U.vm ∧ U.heap = h0) (fun _ _ _ _ _ => True) (fun _ U o U' => ∃ v L, o = .returned v ∧ Q7r1a Z a1 a2 p0 k0 el0 w0 h0 n0 v U'.heap L ∧ FrameEnd U o U' L ({ frames := 1, cells := 0, slots := 0, locals := 15 } : Room).cells ({ frames := 1, cells := 0, slots := 0, locals := 15 } : Room).slots) := by
  refine MetFree.of_bodySF (plainFor_of_name pnc_java_util_ArrayList) hisR ?_
  intro p e s m args below meth c s₁ Bd hml0 hP hK
  obtain ⟨rfl, hZ, hh⟩ := hP
  have hx := Bd.exec
  have hby := Bd.bytes
  have hml : c.maxLocals = 2 := hml0
  have hown : s.vm.findClass "java/util/ArrayList" = some m.cls := findClass_of_methodNamed Bd.named
  have hnm := (name_of_methodNamed Bd.named Bd.method).1
  have X0 : Stand p l e ({ frames := 1, cells := 0, slots := 0, locals := 15 } : Room) s m #[(.ref a1), (.ref a2)] below meth c s₁ [] 0 0 := Stand.of_body Bd
  have e0 : s₁.heap = h0 := by rw [← hh, Bd.state]; rfl
  have N0 := Fr.nil n0
  have Z0 : n0 ≤ h0.size := O0.1 ▸ O0.2.1
  have pre0 : ∀ t, Steps p.tables e below (s₁.setTop (mkF m 0 #[.val (.ref a1), .val (.ref a2)] [])) t → Steps p.tables e below (s₁.setTop (entryFrame m #[(.ref a1), (.ref a2)] 2)) t := fun t k => castTop (ef_7 m a1 a2) k
  obtain ⟨T3, X3, e3, st3⟩ := getF X0 hx hZ hown (host := "") (Or.inl (hw _ (List.mem_of_getElem? (i := 49) rfl))) (Via.of (hw _ (List.mem_of_getElem? (i := 50) rfl))) e0 HF_a1_modCount (g := (mkF m 2 #[.val (.ref a1), .val (.ref a2)] [(.ref a1), (.ref a1)])) rfl rfl (hb hby d7_2)
  obtain ⟨T4, h4, X4, e4, W4, st4⟩ := putF X3 hx hZ hown (host := "") (Or.inl (hw _ (List.mem_of_getElem? (i := 49) rfl))) (Via.of (hw _ (List.mem_of_getElem? (i := 50) rfl))) e3 HF_a1_modCount HE_a1 (Or.inl (hw _ (List.mem_of_getElem? (i := 40) rfl))) (hw _ (List.mem_of_getElem? (i := 21) rfl)) (ty := .int) (by decide) rfl rfl (g := (mkF m 7 #[.val (.ref a1), .val (.ref a2)] [(.int (p0 + (1 : Int32))), (.ref a1)])) rfl rfl (hb hby d7_7)
  have N4 := Fr.snoc X4 N0 g_a1
  have K5 : Keep h0 h4 [a1, w0] := (Keep.refl h0 [a1, w0]).wr W4 (Or.inl (List.mem_of_getElem? (i := 0) rfl))
  have O6 : Old Z n0 h4 := O0.wr W4 g_a1
  have Fw4 : Fld Z h4 a1 "java/util/AbstractList" "modCount" "I" (.int (p0 + (1 : Int32))) := HF_a1_modCount.same W4
  have f7 := (HF_a1_elementData.other W4 (Or.inr (slot_ne (Or.inl (hw _ (List.mem_of_getElem? (i := 43) rfl))) (Or.inl (hw _ (List.mem_of_getElem? (i := 40) rfl))) (by decide) (t := (.array (.object "java/lang/Object"))) (t' := .int) (by decide) (by decide))))
  obtain ⟨T8, X8, e8, st8⟩ := getF X4 hx hZ hown (host := "") (Or.inl (hw _ (List.mem_of_getElem? (i := 42) rfl))) Via.refl e4 f7 (g := (mkF m 13 #[.val (.ref a1), .val (.ref a2)] [(.ref a1), (.ref a2), (.ref a1)])) rfl rfl (hb hby d7_13)
  have f9 := (HF_a1_size.other W4 (Or.inr (slot_ne (Or.inl (hw _ (List.mem_of_getElem? (i := 52) rfl))) (Or.inl (hw _ (List.mem_of_getElem? (i := 40) rfl))) (by decide) (t := .int) (t' := .int) (by decide) (by decide))))
  obtain ⟨T10, X10, e10, st10⟩ := getF X8 hx hZ hown (host := "") (Or.inl (hw _ (List.mem_of_getElem? (i := 51) rfl))) Via.refl e8 f9 (g := (mkF m 17 #[.val (.ref a1), .val (.ref a2)] [(.ref a1), (.ref w0), (.ref a2), (.ref a1)])) rfl rfl (hb hby d7_17)
  have f11 := (HE_a1.wr W4)
  have f12 := (HE_w0.wr W4)
  have f13 := (HV_w0.other W4 ne_w0_a1)
  have f14 := HY_w0
  have f15 := (HI_a2_java_lang_Object.wr W4)
  obtain ⟨cq16, q16, q16'⟩ := f11.cell
  obtain ⟨vr16, _, ⟨T16, L16, k16, n16⟩, -, X16, ⟨Lc16, hQ16, l16, y16, z16⟩, st16⟩ := X10.privateBack hx (y := (⟨"java/util/ArrayList", "add", "(Ljava/lang/Object;[Ljava/lang/Object;I)V"⟩ : MethodName)) hown (mvT hZ (hw _ (List.mem_of_getElem? (i := 53) rfl))) (mvT hZ (hw _ (List.mem_of_getElem? (i := 54) rfl))) (mvT hZ (hw _ (List.mem_of_getElem? (i := 56) rfl))) (Cond.privateMethod_at (mvP hZ (hw _ (List.mem_of_getElem? (i := 55) rfl)) (args := #[]))) (mvT hZ (hw _ (List.mem_of_getElem? (i := 57) rfl))) (by decide) (backOf (W := 0) (rm8r1a l Z a0 hw [] a1 a2 w0 ((p0 + (1 : Int32))) k0 el0 h4 n0 O6 f11 Fw4 f7 f9 f12 f13 f14 f15 g_w0 (Ne.symm ne_w0_a1) g_a1) hZ (hw _ (List.mem_of_getElem? (i := 57) rfl)) (hw _ (List.mem_of_getElem? (i := 22) rfl)) (by decide) (by decide)) (g := (mkF m 20 #[.val (.ref a1), .val (.ref a2)] [(.int (1 : Int32)), (.ref w0), (.ref a2), (.ref a1)])) rfl (by rw [hml]; rfl) (Steps.refl _) (a := a1) (by rw [e10]; exact q16) q16' (argsL := [(.ref a2), (.ref w0), (.int (1 : Int32))]) (rest := []) (lenOf pd_13 rfl) rfl (by show 2 * 0 + _ ≤ _; exact Nat.le_of_eq rfl) (hb hby d7_20) (fun _ _ => ⟨rfl, e10, (by decide : 0 + 0 ≤ _), (by decide : 0 + 0 ≤ _)⟩)
  dsimp only [Pt.U, Pt.locs, Pt.cells, Pt.slots] at X16 l16 y16 z16 st16 hQ16
  subst l16 y16 z16
  obtain ⟨rfl, N16q, K16, Y16_0, Y16_1, Y16_2, Y16_3, Y16_4, Y16_5, Y16_6⟩ := hQ16
  have N16 := Fr.app N4 N16q
  replace X16 := X16.more (cells' := 0) (slots' := 0) (by decide) (by decide)
  have K17 : Keep h0 T16.heap [a1, w0] := K5.trans K16 (allS (Or.inl (List.mem_of_getElem? (i := 1) rfl)) (allS (Or.inl (List.mem_of_getElem? (i := 0) rfl)) all0))
  have O18 : Old Z n0 T16.heap := O6.keep K16 (allS g_w0 (allS g_a1 all0))
  obtain ⟨fs, hr, hrun, hended, hW, hsame⟩ := X16.leave (v := some (.int (1 : Int32))) (fun h => by rw [Bd.returns] at h; cases h)
  refine ⟨_, _, pre0 _ ?_, hrun, hended, _, _, rfl, ?_, ⟨_, rfl⟩, hW, hsame.mono (by decide) (by decide)⟩
  · show Steps p.tables e below (s₁.setTop (mkF m 0 #[.val (.ref a1), .val (.ref a2)] [])) _
    refine XS.aloadN X0.here hx rfl (hb hby d7_0) rfl rfl ?_
    show Steps p.tables e below (s₁.setTop (mkF m 1 #[.val (.ref a1), .val (.ref a2)] [(.ref a1)])) _
    refine XS.dup X0.here hx rfl (hb hby d7_1) rfl rfl ?_
    show Steps p.tables e below (s₁.setTop (mkF m 2 #[.val (.ref a1), .val (.ref a2)] [(.ref a1), (.ref a1)])) _
    refine st3 _ ?_
    show Steps p.tables e below (T3.setTop (mkF m 5 #[.val (.ref a1), .val (.ref a2)] [(.int p0), (.ref a1)])) _
    refine XS.iconst X3.here hx rfl (hb hby d7_5) ?_
    show Steps p.tables e below (T3.setTop (mkF m 6 #[.val (.ref a1), .val (.ref a2)] [(.int (1 : Int32)), (.int p0), (.ref a1)])) _
    refine XS.iadd X3.here hx rfl (hb hby d7_6) rfl ?_
    show Steps p.tables e below (T3.setTop (mkF m 7 #[.val (.ref a1), .val (.ref a2)] [(.int (p0 + (1 : Int32))), (.ref a1)])) _
    refine st4 _ ?_
    show Steps p.tables e below (T4.setTop (mkF m 10 #[.val (.ref a1), .val (.ref a2)] [])) _
    refine XS.aloadN X4.here hx rfl (hb hby d7_10) rfl rfl ?_
    show Steps p.tables e below (T4.setTop (mkF m 11 #[.val (.ref a1), .val (.ref a2)] [(.ref a1)])) _
    refine XS.aloadN X4.here hx rfl (hb hby d7_11) rfl rfl ?_
    show Steps p.tables e below (T4.setTop (mkF m 12 #[.val (.ref a1), .val (.ref a2)] [(.ref a2), (.ref a1)])) _
    refine XS.aloadN X4.here hx rfl (hb hby d7_12) rfl rfl ?_
    show Steps p.tables e below (T4.setTop (mkF m 13 #[.val (.ref a1), .val (.ref a2)] [(.ref a1), (.ref a2), (.ref a1)])) _
    refine st8 _ ?_
    show Steps p.tables e below (T8.setTop (mkF m 16 #[.val (.ref a1), .val (.ref a2)] [(.ref w0), (.ref a2), (.ref a1)])) _
    refine XS.aloadN X8.here hx rfl (hb hby d7_16) rfl rfl ?_
    show Steps p.tables e below (T8.setTop (mkF m 17 #[.val (.ref a1), .val (.ref a2)] [(.ref a1), (.ref w0), (.ref a2), (.ref a1)])) _
    refine st10 _ ?_
    show Steps p.tables e below (T10.setTop (mkF m 20 #[.val (.ref a1), .val (.ref a2)] [(.int (1 : Int32)), (.ref w0), (.ref a2), (.ref a1)])) _
    refine st16.trans ?_
    show Steps p.tables e below (T16.setTop (mkF m 23 #[.val (.ref a1), .val (.ref a2)] [])) _
    refine XS.iconst X16.here hx rfl (hb hby d7_23) ?_
    show Steps p.tables e below (T16.setTop (mkF m 24 #[.val (.ref a1), .val (.ref a2)] [(.int (1 : Int32))])) _
    exact retN X16 hx (t := .boolean) Bd.returns (by simp) (hb hby d7_24) hr
  · show Q7r1a Z a1 a2 p0 k0 el0 w0 h0 n0 _ T16.heap _
    exact ⟨rfl, N16, K17, Y16_3, Y16_4, Y16_5, Y16_6, Y16_0, Y16_1, Y16_2⟩
def Q8r2aa (Z : State) (a1 a2 a3 : Addr) (p0 : Int32) (k0 : ClassId) (el0 el1 : Addr) (h0 : Heap) (n0 : Nat) (v : Option Value) (h : Heap) (L : List Loc) : Prop := v = none ∧ Fr n0 L ∧ Keep h0 h [a3, a1] ∧ Exa Z h a3 "[Ljava/lang/Object;" ∧ Arv Z h a3 k0 (.object "java/lang/Object") (10 : Int32) [(.ref el0), (.ref el1), (.ref a2), .null, .null, .null, .null, .null, .null, .null] .null ∧ Ovr Z k0 "java/lang/Object" ∧ Exa Z h a1 "java/util/ArrayList" ∧ Fld Z h a1 "java/util/ArrayList" "elementData" "[Ljava/lang/Object;" (.ref a3) ∧ Fld Z h a1 "java/util/AbstractList" "modCount" "I" (.int p0) ∧ Fld Z h a1 "java/util/ArrayList" "size" "I" (.int (3 : Int32))
theorem ef_8aaa__2___Int32__ (m : MethodId) (x0 : Addr) (x1 : Addr) (x2 : Addr) : entryFrame m #[(.ref x0), (.ref x1), (.ref x2), (.int (2 : Int32))] 4 = mkF m 0 #[.val (.ref x0), .val (.ref x1), .val (.ref x2), .val (.int (2 : Int32))] [] := by first | (simp [entryFrame, mkF, argsToLocals, Value.category]; done) | rfl
set_option maxRecDepth 65536 in
set_option maxHeartbeats 40000000 in
theorem rm8r2aa (l : Launch) (Z : State) (a0 : Array Value) (hw : ∀ d ∈ tables_1, d.before a0 Z = true) (ws : List Jvm.Cond) (a1 a2 a3 : Addr) (p0 : Int32) (k0 : ClassId) (el0 el1 : Addr) (h0 : Heap) (n0 : Nat) (O0 : Old Z n0 h0) (HE_a1 : Exa Z h0 a1 "java/util/ArrayList") (HF_a1_modCount : Fld Z h0 a1 "java/util/AbstractList" "modCount" "I" (.int p0)) (HF_a1_elementData : Fld Z h0 a1 "java/util/ArrayList" "elementData" "[Ljava/lang/Object;" (.ref a3)) (HF_a1_size : Fld Z h0 a1 "java/util/ArrayList" "size" "I" (.int (2 : Int32))) (HE_a3 : Exa Z h0 a3 "[Ljava/lang/Object;") (HV_a3 : Arv Z h0 a3 k0 (.object "java/lang/Object") (10 : Int32) [(.ref el0), (.ref el1), .null, .null, .null, .null, .null, .null, .null, .null] .null) (HY_a3 : Ovr Z k0 "java/lang/Object") (HI_a2_java_lang_Object : Ins Z h0 a2 "java/lang/Object" true) (g_a3 : n0 ≤ a3) (ne_a1_a3 : a1 ≠ a3) (g_a1 : n0 ≤ a1) :
    MetFree l (⟨"java/util/ArrayList", "add", "(Ljava/lang/Object;[Ljava/lang/Object;I)V"⟩ : MethodName) (head1 (Jvm.Cond.code (⟨"java/util/ArrayList", "add", "(Ljava/lang/Object;[Ljava/lang/Object;I)V"⟩ : MethodName) jdk_38_method_24_code 4 none :: ws) ({ frames := 0, cells := 0, slots := 0, locals := 0 } : Room)) (fun a U => a = #[(.ref a1), (.ref a2), (.ref a3), (.int (2 : Int32))] ∧ Z.Warmed39 U.vm ∧ U.heap = h0) (fun _ _ _ _ _ => True) (fun _ U o U' => ∃ v L, o = .returned v ∧ Q8r2aa Z a1 a2 a3 p0 k0 el0 el1 h0 n0 v U'.heap L ∧ FrameEnd U o U' L ({ frames := 0, cells := 0, slots := 0, locals := 0 } : Room).cells ({ frames := 0, cells := 0, slots := 0, locals := 0 } : Room).slots) := by
  refine MetFree.of_bodySF (plainFor_of_name pnc_java_util_ArrayList) hisR ?_
  intro p e s m args below meth c s₁ Bd hml0 hP hK
  obtain ⟨rfl, hZ, hh⟩ := hP
  have hx := Bd.exec
  have hby := Bd.bytes
  have hml : c.maxLocals = 4 := hml0
  have hown : s.vm.findClass "java/util/ArrayList" = some m.cls := findClass_of_methodNamed Bd.named
  have hnm := (name_of_methodNamed Bd.named Bd.method).1
  have X0 : Stand p l e ({ frames := 0, cells := 0, slots := 0, locals := 0 } : Room) s m #[(.ref a1), (.ref a2), (.ref a3), (.int (2 : Int32))] below meth c s₁ [] 0 0 := Stand.of_body Bd
  have e0 : s₁.heap = h0 := by rw [← hh, Bd.state]; rfl
  have N0 := Fr.nil n0
  have Z0 : n0 ≤ h0.size := O0.1 ▸ O0.2.1
  have pre0 : ∀ t, Steps p.tables e below (s₁.setTop (mkF m 0 #[.val (.ref a1), .val (.ref a2), .val (.ref a3), .val (.int (2 : Int32))] [])) t → Steps p.tables e below (s₁.setTop (entryFrame m #[(.ref a1), (.ref a2), (.ref a3), (.int (2 : Int32))] 4)) t := fun t k => castTop (ef_8aaa__2___Int32__ m a1 a2 a3) k
  obtain ⟨cl4, Ar4, q4, S4, Nn4, Hh4, G4⟩ := id HV_a3
  obtain ⟨cl5, Ar5, q5, S5, Nn5, Hh5, G5⟩ := id HV_a3
  have hin5 : ¬ ((2 : Int32) < 0 ∨ cl5.slots.size ≤ ((2 : Int32)).toNatClampNeg) := inb_of S5 ⟨by decide, by decide⟩
  obtain ⟨T6, h6, X6, e6, W6, st6⟩ := stR X0 hx hZ e0 Ar5 (j := (2 : Int32)) hin5 rfl (Sto.ofV Ar5 q5 HY_a3 HI_a2_java_lang_Object) (g := (mkF m 14 #[.val (.ref a1), .val (.ref a2), .val (.ref a3), .val (.int (2 : Int32))] [(.ref a2), (.int (2 : Int32)), (.ref a3)])) rfl rfl (hb hby d8_14)
  have N6 := Fr.snoc X6 N0 g_a3
  have K7 : Keep h0 h6 [a3, a1] := (Keep.refl h0 [a3, a1]).wr W6 (Or.inl (List.mem_of_getElem? (i := 0) rfl))
  have O8 : Old Z n0 h6 := O0.wr W6 g_a3
  have V6 : Arv Z h6 a3 k0 (.object "java/lang/Object") (10 : Int32) [(.ref el0), (.ref el1), (.ref a2), .null, .null, .null, .null, .null, .null, .null] .null := Arv.set Ar5 q5 S5 Nn5 Hh5 G5 rfl W6 2 rfl (Nat.le_of_ble_eq_true rfl)
  have f9 := (HE_a1.wr W6)
  have f10 := (HF_a1_size.other W6 (Or.inl ne_a1_a3))
  obtain ⟨T11, h11, X11, e11, W11, st11⟩ := putF X6 hx hZ hown (host := "") (Or.inl (hw _ (List.mem_of_getElem? (i := 51) rfl))) Via.refl e6 f10 f9 (Or.inl (hw _ (List.mem_of_getElem? (i := 52) rfl))) (hw _ (List.mem_of_getElem? (i := 21) rfl)) (ty := .int) (by decide) rfl rfl (g := (mkF m 19 #[.val (.ref a1), .val (.ref a2), .val (.ref a3), .val (.int (2 : Int32))] [(.int (3 : Int32)), (.ref a1)])) rfl rfl (hb hby d8_19)
  have N11 := Fr.snoc X11 N6 g_a1
  have K12 : Keep h0 h11 [a3, a1] := K7.wr W11 (Or.inl (List.mem_of_getElem? (i := 1) rfl))
  have O13 : Old Z n0 h11 := O8.wr W11 g_a1
  have Fw11 : Fld Z h11 a1 "java/util/ArrayList" "size" "I" (.int (3 : Int32)) := f10.same W11
  have f14 := ((HE_a3.wr W6).wr W11)
  have f15 := (V6.other W11 (Ne.symm ne_a1_a3))
  have f16 := HY_a3
  have f17 := (f9.wr W11)
  have f18 := ((HF_a1_elementData.other W6 (Or.inl ne_a1_a3)).other W11 (Or.inr (slot_ne (Or.inl (hw _ (List.mem_of_getElem? (i := 43) rfl))) (Or.inl (hw _ (List.mem_of_getElem? (i := 52) rfl))) (by decide) (t := (.array (.object "java/lang/Object"))) (t' := .int) (by decide) (by decide))))
  have f19 := ((HF_a1_modCount.other W6 (Or.inl ne_a1_a3)).other W11 (Or.inr (slot_ne (Or.inl (hw _ (List.mem_of_getElem? (i := 40) rfl))) (Or.inl (hw _ (List.mem_of_getElem? (i := 52) rfl))) (by decide) (t := .int) (t' := .int) (by decide) (by decide))))
  obtain ⟨fs, hr, hrun, hended, hW, hsame⟩ := X11.leave (v := none) (fun _ => rfl)
  refine ⟨_, _, pre0 _ ?_, hrun, hended, _, _, rfl, ?_, ⟨_, rfl⟩, hW, hsame.mono (by decide) (by decide)⟩
  · show Steps p.tables e below (s₁.setTop (mkF m 0 #[.val (.ref a1), .val (.ref a2), .val (.ref a3), .val (.int (2 : Int32))] [])) _
    refine XS.iloadN X0.here hx rfl (hb hby d8_0) rfl ?_
    show Steps p.tables e below (s₁.setTop (mkF m 1 #[.val (.ref a1), .val (.ref a2), .val (.ref a3), .val (.int (2 : Int32))] [(.int (2 : Int32))])) _
    refine XS.aloadN X0.here hx rfl (hb hby d8_1) rfl rfl ?_
    show Steps p.tables e below (s₁.setTop (mkF m 2 #[.val (.ref a1), .val (.ref a2), .val (.ref a3), .val (.int (2 : Int32))] [(.ref a3), (.int (2 : Int32))])) _
    refine X0.arraylength hx (by rw [e0]; exact Ar4.1) (State.isArrayOf_alike hZ.alike Ar4.2.1) (g := (mkF m 2 #[.val (.ref a1), .val (.ref a2), .val (.ref a3), .val (.int (2 : Int32))] [(.ref a3), (.int (2 : Int32))])) rfl rfl (hb hby d8_2) _ ?_
    rw [len_of S4 Nn4]
    show Steps p.tables e below (s₁.setTop (mkF m 3 #[.val (.ref a1), .val (.ref a2), .val (.ref a3), .val (.int (2 : Int32))] [(.int (10 : Int32)), (.int (2 : Int32))])) _
    refine XS.icmpYes X0.here hx rfl (pc0 := 3) (pc' := 11) rfl (hb hby d8_3) rfl (feq (by decide : ¬ ((2 : Int32) = (10 : Int32)))).2 (by decide) (by decide) ?_
    show Steps p.tables e below (s₁.setTop (mkF m 11 #[.val (.ref a1), .val (.ref a2), .val (.ref a3), .val (.int (2 : Int32))] [])) _
    refine XS.aloadN X0.here hx rfl (hb hby d8_11) rfl rfl ?_
    show Steps p.tables e below (s₁.setTop (mkF m 12 #[.val (.ref a1), .val (.ref a2), .val (.ref a3), .val (.int (2 : Int32))] [(.ref a3)])) _
    refine XS.iloadN X0.here hx rfl (hb hby d8_12) rfl ?_
    show Steps p.tables e below (s₁.setTop (mkF m 13 #[.val (.ref a1), .val (.ref a2), .val (.ref a3), .val (.int (2 : Int32))] [(.int (2 : Int32)), (.ref a3)])) _
    refine XS.aloadN X0.here hx rfl (hb hby d8_13) rfl rfl ?_
    show Steps p.tables e below (s₁.setTop (mkF m 14 #[.val (.ref a1), .val (.ref a2), .val (.ref a3), .val (.int (2 : Int32))] [(.ref a2), (.int (2 : Int32)), (.ref a3)])) _
    refine st6 _ ?_
    show Steps p.tables e below (T6.setTop (mkF m 15 #[.val (.ref a1), .val (.ref a2), .val (.ref a3), .val (.int (2 : Int32))] [])) _
    refine XS.aloadN X6.here hx rfl (hb hby d8_15) rfl rfl ?_
    show Steps p.tables e below (T6.setTop (mkF m 16 #[.val (.ref a1), .val (.ref a2), .val (.ref a3), .val (.int (2 : Int32))] [(.ref a1)])) _
    refine XS.iloadN X6.here hx rfl (hb hby d8_16) rfl ?_
    show Steps p.tables e below (T6.setTop (mkF m 17 #[.val (.ref a1), .val (.ref a2), .val (.ref a3), .val (.int (2 : Int32))] [(.int (2 : Int32)), (.ref a1)])) _
    refine XS.iconst X6.here hx rfl (hb hby d8_17) ?_
    show Steps p.tables e below (T6.setTop (mkF m 18 #[.val (.ref a1), .val (.ref a2), .val (.ref a3), .val (.int (2 : Int32))] [(.int (1 : Int32)), (.int (2 : Int32)), (.ref a1)])) _
    refine XS.iadd X6.here hx rfl (hb hby d8_18) rfl ?_
    show Steps p.tables e below (T6.setTop (mkF m 19 #[.val (.ref a1), .val (.ref a2), .val (.ref a3), .val (.int (2 : Int32))] [(.int (3 : Int32)), (.ref a1)])) _
    refine st11 _ ?_
    show Steps p.tables e below (T11.setTop (mkF m 22 #[.val (.ref a1), .val (.ref a2), .val (.ref a3), .val (.int (2 : Int32))] [])) _
    exact X11.returnOut hx Bd.returns (hb hby d8_22) hr
  · show Q8r2aa Z a1 a2 a3 p0 k0 el0 el1 h0 n0 _ T11.heap _
    rw [e11]
    exact ⟨rfl, N11, K12, f14, f15, f16, f17, f18, f19, Fw11⟩
def Q7r2aa (Z : State) (a1 a2 : Addr) (p0 : Int32) (k0 : ClassId) (el0 el1 w0 : Addr) (h0 : Heap) (n0 : Nat) (v : Option Value) (h : Heap) (L : List Loc) : Prop := v = some (.int (1 : Int32)) ∧ Fr n0 L ∧ Keep h0 h [a1, w0] ∧ Exa Z h a1 "java/util/ArrayList" ∧ Fld Z h a1 "java/util/ArrayList" "elementData" "[Ljava/lang/Object;" (.ref w0) ∧ Fld Z h a1 "java/util/AbstractList" "modCount" "I" (.int (p0 + (1 : Int32))) ∧ Fld Z h a1 "java/util/ArrayList" "size" "I" (.int (3 : Int32)) ∧ Exa Z h w0 "[Ljava/lang/Object;" ∧ Arv Z h w0 k0 (.object "java/lang/Object") (10 : Int32) [(.ref el0), (.ref el1), (.ref a2), .null, .null, .null, .null, .null, .null, .null] .null ∧ Ovr Z k0 "java/lang/Object"
set_option maxRecDepth 65536 in
set_option maxHeartbeats 40000000 in
theorem rm7r2aa (l : Launch) (Z : State) (a0 : Array Value) (hw : ∀ d ∈ tables_1, d.before a0 Z = true) (ws : List Jvm.Cond) (a1 a2 : Addr) (p0 : Int32) (k0 : ClassId) (el0 el1 w0 : Addr) (h0 : Heap) (n0 : Nat) (O0 : Old Z n0 h0) (HE_a1 : Exa Z h0 a1 "java/util/ArrayList") (HF_a1_modCount : Fld Z h0 a1 "java/util/AbstractList" "modCount" "I" (.int p0)) (HF_a1_elementData : Fld Z h0 a1 "java/util/ArrayList" "elementData" "[Ljava/lang/Object;" (.ref w0)) (HF_a1_size : Fld Z h0 a1 "java/util/ArrayList" "size" "I" (.int (2 : Int32))) (HE_w0 : Exa Z h0 w0 "[Ljava/lang/Object;") (HV_w0 : Arv Z h0 w0 k0 (.object "java/lang/Object") (10 : Int32) [(.ref el0), (.ref el1), .null, .null, .null, .null, .null, .null, .null, .null] .null) (HY_w0 : Ovr Z k0 "java/lang/Object") (g_a1 : n0 ≤ a1) (ne_w0_a1 : w0 ≠ a1) (HI_a2_java_lang_Object : Ins Z h0 a2 "java/lang/Object" true) (g_w0 : n0 ≤ w0) :
    MetFree l (⟨"java/util/ArrayList", "add", "(Ljava/lang/Object;)Z"⟩ : MethodName) (head1 (Jvm.Cond.code (⟨"java/util/ArrayList", "add", "(Ljava/lang/Object;)Z"⟩ : MethodName) jdk_38_method_25_code 2 (some .boolean) :: ws) ({ frames := 1, cells := 0, slots := 0, locals := 15 } : Room)) (fun a U => a = #[(.ref a1), (.ref a2)] ∧ Z.Warmed39 U.vm ∧ U.heap = h0) (fun _ _ _ _ _ => True) (fun _ U o U' => ∃ v L, o = .returned v ∧ Q7r2aa Z a1 a2 p0 k0 el0 el1 w0 h0 n0 v U'.heap L ∧ FrameEnd U o U' L ({ frames := 1, cells := 0, slots := 0, locals := 15 } : Room).cells ({ frames := 1, cells := 0, slots := 0, locals := 15 } : Room).slots) := by
  refine MetFree.of_bodySF (plainFor_of_name pnc_java_util_ArrayList) hisR ?_
  intro p e s m args below meth c s₁ Bd hml0 hP hK
  obtain ⟨rfl, hZ, hh⟩ := hP
  have hx := Bd.exec
  have hby := Bd.bytes
  have hml : c.maxLocals = 2 := hml0
  have hown : s.vm.findClass "java/util/ArrayList" = some m.cls := findClass_of_methodNamed Bd.named
  have hnm := (name_of_methodNamed Bd.named Bd.method).1
  have X0 : Stand p l e ({ frames := 1, cells := 0, slots := 0, locals := 15 } : Room) s m #[(.ref a1), (.ref a2)] below meth c s₁ [] 0 0 := Stand.of_body Bd
  have e0 : s₁.heap = h0 := by rw [← hh, Bd.state]; rfl
  have N0 := Fr.nil n0
  have Z0 : n0 ≤ h0.size := O0.1 ▸ O0.2.1
  have pre0 : ∀ t, Steps p.tables e below (s₁.setTop (mkF m 0 #[.val (.ref a1), .val (.ref a2)] [])) t → Steps p.tables e below (s₁.setTop (entryFrame m #[(.ref a1), (.ref a2)] 2)) t := fun t k => castTop (ef_7 m a1 a2) k
  obtain ⟨T3, X3, e3, st3⟩ := getF X0 hx hZ hown (host := "") (Or.inl (hw _ (List.mem_of_getElem? (i := 49) rfl))) (Via.of (hw _ (List.mem_of_getElem? (i := 50) rfl))) e0 HF_a1_modCount (g := (mkF m 2 #[.val (.ref a1), .val (.ref a2)] [(.ref a1), (.ref a1)])) rfl rfl (hb hby d7_2)
  obtain ⟨T4, h4, X4, e4, W4, st4⟩ := putF X3 hx hZ hown (host := "") (Or.inl (hw _ (List.mem_of_getElem? (i := 49) rfl))) (Via.of (hw _ (List.mem_of_getElem? (i := 50) rfl))) e3 HF_a1_modCount HE_a1 (Or.inl (hw _ (List.mem_of_getElem? (i := 40) rfl))) (hw _ (List.mem_of_getElem? (i := 21) rfl)) (ty := .int) (by decide) rfl rfl (g := (mkF m 7 #[.val (.ref a1), .val (.ref a2)] [(.int (p0 + (1 : Int32))), (.ref a1)])) rfl rfl (hb hby d7_7)
  have N4 := Fr.snoc X4 N0 g_a1
  have K5 : Keep h0 h4 [a1, w0] := (Keep.refl h0 [a1, w0]).wr W4 (Or.inl (List.mem_of_getElem? (i := 0) rfl))
  have O6 : Old Z n0 h4 := O0.wr W4 g_a1
  have Fw4 : Fld Z h4 a1 "java/util/AbstractList" "modCount" "I" (.int (p0 + (1 : Int32))) := HF_a1_modCount.same W4
  have f7 := (HF_a1_elementData.other W4 (Or.inr (slot_ne (Or.inl (hw _ (List.mem_of_getElem? (i := 43) rfl))) (Or.inl (hw _ (List.mem_of_getElem? (i := 40) rfl))) (by decide) (t := (.array (.object "java/lang/Object"))) (t' := .int) (by decide) (by decide))))
  obtain ⟨T8, X8, e8, st8⟩ := getF X4 hx hZ hown (host := "") (Or.inl (hw _ (List.mem_of_getElem? (i := 42) rfl))) Via.refl e4 f7 (g := (mkF m 13 #[.val (.ref a1), .val (.ref a2)] [(.ref a1), (.ref a2), (.ref a1)])) rfl rfl (hb hby d7_13)
  have f9 := (HF_a1_size.other W4 (Or.inr (slot_ne (Or.inl (hw _ (List.mem_of_getElem? (i := 52) rfl))) (Or.inl (hw _ (List.mem_of_getElem? (i := 40) rfl))) (by decide) (t := .int) (t' := .int) (by decide) (by decide))))
  obtain ⟨T10, X10, e10, st10⟩ := getF X8 hx hZ hown (host := "") (Or.inl (hw _ (List.mem_of_getElem? (i := 51) rfl))) Via.refl e8 f9 (g := (mkF m 17 #[.val (.ref a1), .val (.ref a2)] [(.ref a1), (.ref w0), (.ref a2), (.ref a1)])) rfl rfl (hb hby d7_17)
  have f11 := (HE_a1.wr W4)
  have f12 := (HE_w0.wr W4)
  have f13 := (HV_w0.other W4 ne_w0_a1)
  have f14 := HY_w0
  have f15 := (HI_a2_java_lang_Object.wr W4)
  obtain ⟨cq16, q16, q16'⟩ := f11.cell
  obtain ⟨vr16, _, ⟨T16, L16, k16, n16⟩, -, X16, ⟨Lc16, hQ16, l16, y16, z16⟩, st16⟩ := X10.privateBack hx (y := (⟨"java/util/ArrayList", "add", "(Ljava/lang/Object;[Ljava/lang/Object;I)V"⟩ : MethodName)) hown (mvT hZ (hw _ (List.mem_of_getElem? (i := 53) rfl))) (mvT hZ (hw _ (List.mem_of_getElem? (i := 54) rfl))) (mvT hZ (hw _ (List.mem_of_getElem? (i := 56) rfl))) (Cond.privateMethod_at (mvP hZ (hw _ (List.mem_of_getElem? (i := 55) rfl)) (args := #[]))) (mvT hZ (hw _ (List.mem_of_getElem? (i := 57) rfl))) (by decide) (backOf (W := 0) (rm8r2aa l Z a0 hw [] a1 a2 w0 ((p0 + (1 : Int32))) k0 el0 el1 h4 n0 O6 f11 Fw4 f7 f9 f12 f13 f14 f15 g_w0 (Ne.symm ne_w0_a1) g_a1) hZ (hw _ (List.mem_of_getElem? (i := 57) rfl)) (hw _ (List.mem_of_getElem? (i := 22) rfl)) (by decide) (by decide)) (g := (mkF m 20 #[.val (.ref a1), .val (.ref a2)] [(.int (2 : Int32)), (.ref w0), (.ref a2), (.ref a1)])) rfl (by rw [hml]; rfl) (Steps.refl _) (a := a1) (by rw [e10]; exact q16) q16' (argsL := [(.ref a2), (.ref w0), (.int (2 : Int32))]) (rest := []) (lenOf pd_13 rfl) rfl (by show 2 * 0 + _ ≤ _; exact Nat.le_of_eq rfl) (hb hby d7_20) (fun _ _ => ⟨rfl, e10, (by decide : 0 + 0 ≤ _), (by decide : 0 + 0 ≤ _)⟩)
  dsimp only [Pt.U, Pt.locs, Pt.cells, Pt.slots] at X16 l16 y16 z16 st16 hQ16
  subst l16 y16 z16
  obtain ⟨rfl, N16q, K16, Y16_0, Y16_1, Y16_2, Y16_3, Y16_4, Y16_5, Y16_6⟩ := hQ16
  have N16 := Fr.app N4 N16q
  replace X16 := X16.more (cells' := 0) (slots' := 0) (by decide) (by decide)
  have K17 : Keep h0 T16.heap [a1, w0] := K5.trans K16 (allS (Or.inl (List.mem_of_getElem? (i := 1) rfl)) (allS (Or.inl (List.mem_of_getElem? (i := 0) rfl)) all0))
  have O18 : Old Z n0 T16.heap := O6.keep K16 (allS g_w0 (allS g_a1 all0))
  obtain ⟨fs, hr, hrun, hended, hW, hsame⟩ := X16.leave (v := some (.int (1 : Int32))) (fun h => by rw [Bd.returns] at h; cases h)
  refine ⟨_, _, pre0 _ ?_, hrun, hended, _, _, rfl, ?_, ⟨_, rfl⟩, hW, hsame.mono (by decide) (by decide)⟩
  · show Steps p.tables e below (s₁.setTop (mkF m 0 #[.val (.ref a1), .val (.ref a2)] [])) _
    refine XS.aloadN X0.here hx rfl (hb hby d7_0) rfl rfl ?_
    show Steps p.tables e below (s₁.setTop (mkF m 1 #[.val (.ref a1), .val (.ref a2)] [(.ref a1)])) _
    refine XS.dup X0.here hx rfl (hb hby d7_1) rfl rfl ?_
    show Steps p.tables e below (s₁.setTop (mkF m 2 #[.val (.ref a1), .val (.ref a2)] [(.ref a1), (.ref a1)])) _
    refine st3 _ ?_
    show Steps p.tables e below (T3.setTop (mkF m 5 #[.val (.ref a1), .val (.ref a2)] [(.int p0), (.ref a1)])) _
    refine XS.iconst X3.here hx rfl (hb hby d7_5) ?_
    show Steps p.tables e below (T3.setTop (mkF m 6 #[.val (.ref a1), .val (.ref a2)] [(.int (1 : Int32)), (.int p0), (.ref a1)])) _
    refine XS.iadd X3.here hx rfl (hb hby d7_6) rfl ?_
    show Steps p.tables e below (T3.setTop (mkF m 7 #[.val (.ref a1), .val (.ref a2)] [(.int (p0 + (1 : Int32))), (.ref a1)])) _
    refine st4 _ ?_
    show Steps p.tables e below (T4.setTop (mkF m 10 #[.val (.ref a1), .val (.ref a2)] [])) _
    refine XS.aloadN X4.here hx rfl (hb hby d7_10) rfl rfl ?_
    show Steps p.tables e below (T4.setTop (mkF m 11 #[.val (.ref a1), .val (.ref a2)] [(.ref a1)])) _
    refine XS.aloadN X4.here hx rfl (hb hby d7_11) rfl rfl ?_
    show Steps p.tables e below (T4.setTop (mkF m 12 #[.val (.ref a1), .val (.ref a2)] [(.ref a2), (.ref a1)])) _
    refine XS.aloadN X4.here hx rfl (hb hby d7_12) rfl rfl ?_
    show Steps p.tables e below (T4.setTop (mkF m 13 #[.val (.ref a1), .val (.ref a2)] [(.ref a1), (.ref a2), (.ref a1)])) _
    refine st8 _ ?_
    show Steps p.tables e below (T8.setTop (mkF m 16 #[.val (.ref a1), .val (.ref a2)] [(.ref w0), (.ref a2), (.ref a1)])) _
    refine XS.aloadN X8.here hx rfl (hb hby d7_16) rfl rfl ?_
    show Steps p.tables e below (T8.setTop (mkF m 17 #[.val (.ref a1), .val (.ref a2)] [(.ref a1), (.ref w0), (.ref a2), (.ref a1)])) _
    refine st10 _ ?_
    show Steps p.tables e below (T10.setTop (mkF m 20 #[.val (.ref a1), .val (.ref a2)] [(.int (2 : Int32)), (.ref w0), (.ref a2), (.ref a1)])) _
    refine st16.trans ?_
    show Steps p.tables e below (T16.setTop (mkF m 23 #[.val (.ref a1), .val (.ref a2)] [])) _
    refine XS.iconst X16.here hx rfl (hb hby d7_23) ?_
    show Steps p.tables e below (T16.setTop (mkF m 24 #[.val (.ref a1), .val (.ref a2)] [(.int (1 : Int32))])) _
    exact retN X16 hx (t := .boolean) Bd.returns (by simp) (hb hby d7_24) hr
  · show Q7r2aa Z a1 a2 p0 k0 el0 el1 w0 h0 n0 _ T16.heap _
    exact ⟨rfl, N16, K17, Y16_3, Y16_4, Y16_5, Y16_6, Y16_0, Y16_1, Y16_2⟩
def Q8r3aaa (Z : State) (a1 a2 a3 : Addr) (p0 : Int32) (k0 : ClassId) (el0 el1 el2 : Addr) (h0 : Heap) (n0 : Nat) (v : Option Value) (h : Heap) (L : List Loc) : Prop := v = none ∧ Fr n0 L ∧ Keep h0 h [a3, a1] ∧ Exa Z h a3 "[Ljava/lang/Object;" ∧ Arv Z h a3 k0 (.object "java/lang/Object") (10 : Int32) [(.ref el0), (.ref el1), (.ref el2), (.ref a2), .null, .null, .null, .null, .null, .null] .null ∧ Ovr Z k0 "java/lang/Object" ∧ Exa Z h a1 "java/util/ArrayList" ∧ Fld Z h a1 "java/util/ArrayList" "elementData" "[Ljava/lang/Object;" (.ref a3) ∧ Fld Z h a1 "java/util/AbstractList" "modCount" "I" (.int p0) ∧ Fld Z h a1 "java/util/ArrayList" "size" "I" (.int (4 : Int32))
theorem ef_8aaa__3___Int32__ (m : MethodId) (x0 : Addr) (x1 : Addr) (x2 : Addr) : entryFrame m #[(.ref x0), (.ref x1), (.ref x2), (.int (3 : Int32))] 4 = mkF m 0 #[.val (.ref x0), .val (.ref x1), .val (.ref x2), .val (.int (3 : Int32))] [] := by first | (simp [entryFrame, mkF, argsToLocals, Value.category]; done) | rfl
set_option maxRecDepth 65536 in
set_option maxHeartbeats 40000000 in
theorem rm8r3aaa (l : Launch) (Z : State) (a0 : Array Value) (hw : ∀ d ∈ tables_1, d.before a0 Z = true) (ws : List Jvm.Cond) (a1 a2 a3 : Addr) (p0 : Int32) (k0 : ClassId) (el0 el1 el2 : Addr) (h0 : Heap) (n0 : Nat) (O0 : Old Z n0 h0) (HE_a1 : Exa Z h0 a1 "java/util/ArrayList") (HF_a1_modCount : Fld Z h0 a1 "java/util/AbstractList" "modCount" "I" (.int p0)) (HF_a1_elementData : Fld Z h0 a1 "java/util/ArrayList" "elementData" "[Ljava/lang/Object;" (.ref a3)) (HF_a1_size : Fld Z h0 a1 "java/util/ArrayList" "size" "I" (.int (3 : Int32))) (HE_a3 : Exa Z h0 a3 "[Ljava/lang/Object;") (HV_a3 : Arv Z h0 a3 k0 (.object "java/lang/Object") (10 : Int32) [(.ref el0), (.ref el1), (.ref el2), .null, .null, .null, .null, .null, .null, .null] .null) (HY_a3 : Ovr Z k0 "java/lang/Object") (HI_a2_java_lang_Object : Ins Z h0 a2 "java/lang/Object" true) (g_a3 : n0 ≤ a3) (ne_a1_a3 : a1 ≠ a3) (g_a1 : n0 ≤ a1) :
    MetFree l (⟨"java/util/ArrayList", "add", "(Ljava/lang/Object;[Ljava/lang/Object;I)V"⟩ : MethodName) (head1 (Jvm.Cond.code (⟨"java/util/ArrayList", "add", "(Ljava/lang/Object;[Ljava/lang/Object;I)V"⟩ : MethodName) jdk_38_method_24_code 4 none :: ws) ({ frames := 0, cells := 0, slots := 0, locals := 0 } : Room)) (fun a U => a = #[(.ref a1), (.ref a2), (.ref a3), (.int (3 : Int32))] ∧ Z.Warmed39 U.vm ∧ U.heap = h0) (fun _ _ _ _ _ => True) (fun _ U o U' => ∃ v L, o = .returned v ∧ Q8r3aaa Z a1 a2 a3 p0 k0 el0 el1 el2 h0 n0 v U'.heap L ∧ FrameEnd U o U' L ({ frames := 0, cells := 0, slots := 0, locals := 0 } : Room).cells ({ frames := 0, cells := 0, slots := 0, locals := 0 } : Room).slots) := by
  refine MetFree.of_bodySF (plainFor_of_name pnc_java_util_ArrayList) hisR ?_
  intro p e s m args below meth c s₁ Bd hml0 hP hK
  obtain ⟨rfl, hZ, hh⟩ := hP
  have hx := Bd.exec
  have hby := Bd.bytes
  have hml : c.maxLocals = 4 := hml0
  have hown : s.vm.findClass "java/util/ArrayList" = some m.cls := findClass_of_methodNamed Bd.named
  have hnm := (name_of_methodNamed Bd.named Bd.method).1
  have X0 : Stand p l e ({ frames := 0, cells := 0, slots := 0, locals := 0 } : Room) s m #[(.ref a1), (.ref a2), (.ref a3), (.int (3 : Int32))] below meth c s₁ [] 0 0 := Stand.of_body Bd
  have e0 : s₁.heap = h0 := by rw [← hh, Bd.state]; rfl
  have N0 := Fr.nil n0
  have Z0 : n0 ≤ h0.size := O0.1 ▸ O0.2.1
  have pre0 : ∀ t, Steps p.tables e below (s₁.setTop (mkF m 0 #[.val (.ref a1), .val (.ref a2), .val (.ref a3), .val (.int (3 : Int32))] [])) t → Steps p.tables e below (s₁.setTop (entryFrame m #[(.ref a1), (.ref a2), (.ref a3), (.int (3 : Int32))] 4)) t := fun t k => castTop (ef_8aaa__3___Int32__ m a1 a2 a3) k
  obtain ⟨cl4, Ar4, q4, S4, Nn4, Hh4, G4⟩ := id HV_a3
  obtain ⟨cl5, Ar5, q5, S5, Nn5, Hh5, G5⟩ := id HV_a3
  have hin5 : ¬ ((3 : Int32) < 0 ∨ cl5.slots.size ≤ ((3 : Int32)).toNatClampNeg) := inb_of S5 ⟨by decide, by decide⟩
  obtain ⟨T6, h6, X6, e6, W6, st6⟩ := stR X0 hx hZ e0 Ar5 (j := (3 : Int32)) hin5 rfl (Sto.ofV Ar5 q5 HY_a3 HI_a2_java_lang_Object) (g := (mkF m 14 #[.val (.ref a1), .val (.ref a2), .val (.ref a3), .val (.int (3 : Int32))] [(.ref a2), (.int (3 : Int32)), (.ref a3)])) rfl rfl (hb hby d8_14)
  have N6 := Fr.snoc X6 N0 g_a3
  have K7 : Keep h0 h6 [a3, a1] := (Keep.refl h0 [a3, a1]).wr W6 (Or.inl (List.mem_of_getElem? (i := 0) rfl))
  have O8 : Old Z n0 h6 := O0.wr W6 g_a3
  have V6 : Arv Z h6 a3 k0 (.object "java/lang/Object") (10 : Int32) [(.ref el0), (.ref el1), (.ref el2), (.ref a2), .null, .null, .null, .null, .null, .null] .null := Arv.set Ar5 q5 S5 Nn5 Hh5 G5 rfl W6 3 rfl (Nat.le_of_ble_eq_true rfl)
  have f9 := (HE_a1.wr W6)
  have f10 := (HF_a1_size.other W6 (Or.inl ne_a1_a3))
  obtain ⟨T11, h11, X11, e11, W11, st11⟩ := putF X6 hx hZ hown (host := "") (Or.inl (hw _ (List.mem_of_getElem? (i := 51) rfl))) Via.refl e6 f10 f9 (Or.inl (hw _ (List.mem_of_getElem? (i := 52) rfl))) (hw _ (List.mem_of_getElem? (i := 21) rfl)) (ty := .int) (by decide) rfl rfl (g := (mkF m 19 #[.val (.ref a1), .val (.ref a2), .val (.ref a3), .val (.int (3 : Int32))] [(.int (4 : Int32)), (.ref a1)])) rfl rfl (hb hby d8_19)
  have N11 := Fr.snoc X11 N6 g_a1
  have K12 : Keep h0 h11 [a3, a1] := K7.wr W11 (Or.inl (List.mem_of_getElem? (i := 1) rfl))
  have O13 : Old Z n0 h11 := O8.wr W11 g_a1
  have Fw11 : Fld Z h11 a1 "java/util/ArrayList" "size" "I" (.int (4 : Int32)) := f10.same W11
  have f14 := ((HE_a3.wr W6).wr W11)
  have f15 := (V6.other W11 (Ne.symm ne_a1_a3))
  have f16 := HY_a3
  have f17 := (f9.wr W11)
  have f18 := ((HF_a1_elementData.other W6 (Or.inl ne_a1_a3)).other W11 (Or.inr (slot_ne (Or.inl (hw _ (List.mem_of_getElem? (i := 43) rfl))) (Or.inl (hw _ (List.mem_of_getElem? (i := 52) rfl))) (by decide) (t := (.array (.object "java/lang/Object"))) (t' := .int) (by decide) (by decide))))
  have f19 := ((HF_a1_modCount.other W6 (Or.inl ne_a1_a3)).other W11 (Or.inr (slot_ne (Or.inl (hw _ (List.mem_of_getElem? (i := 40) rfl))) (Or.inl (hw _ (List.mem_of_getElem? (i := 52) rfl))) (by decide) (t := .int) (t' := .int) (by decide) (by decide))))
  obtain ⟨fs, hr, hrun, hended, hW, hsame⟩ := X11.leave (v := none) (fun _ => rfl)
  refine ⟨_, _, pre0 _ ?_, hrun, hended, _, _, rfl, ?_, ⟨_, rfl⟩, hW, hsame.mono (by decide) (by decide)⟩
  · show Steps p.tables e below (s₁.setTop (mkF m 0 #[.val (.ref a1), .val (.ref a2), .val (.ref a3), .val (.int (3 : Int32))] [])) _
    refine XS.iloadN X0.here hx rfl (hb hby d8_0) rfl ?_
    show Steps p.tables e below (s₁.setTop (mkF m 1 #[.val (.ref a1), .val (.ref a2), .val (.ref a3), .val (.int (3 : Int32))] [(.int (3 : Int32))])) _
    refine XS.aloadN X0.here hx rfl (hb hby d8_1) rfl rfl ?_
    show Steps p.tables e below (s₁.setTop (mkF m 2 #[.val (.ref a1), .val (.ref a2), .val (.ref a3), .val (.int (3 : Int32))] [(.ref a3), (.int (3 : Int32))])) _
    refine X0.arraylength hx (by rw [e0]; exact Ar4.1) (State.isArrayOf_alike hZ.alike Ar4.2.1) (g := (mkF m 2 #[.val (.ref a1), .val (.ref a2), .val (.ref a3), .val (.int (3 : Int32))] [(.ref a3), (.int (3 : Int32))])) rfl rfl (hb hby d8_2) _ ?_
    rw [len_of S4 Nn4]
    show Steps p.tables e below (s₁.setTop (mkF m 3 #[.val (.ref a1), .val (.ref a2), .val (.ref a3), .val (.int (3 : Int32))] [(.int (10 : Int32)), (.int (3 : Int32))])) _
    refine XS.icmpYes X0.here hx rfl (pc0 := 3) (pc' := 11) rfl (hb hby d8_3) rfl (feq (by decide : ¬ ((3 : Int32) = (10 : Int32)))).2 (by decide) (by decide) ?_
    show Steps p.tables e below (s₁.setTop (mkF m 11 #[.val (.ref a1), .val (.ref a2), .val (.ref a3), .val (.int (3 : Int32))] [])) _
    refine XS.aloadN X0.here hx rfl (hb hby d8_11) rfl rfl ?_
    show Steps p.tables e below (s₁.setTop (mkF m 12 #[.val (.ref a1), .val (.ref a2), .val (.ref a3), .val (.int (3 : Int32))] [(.ref a3)])) _
    refine XS.iloadN X0.here hx rfl (hb hby d8_12) rfl ?_
    show Steps p.tables e below (s₁.setTop (mkF m 13 #[.val (.ref a1), .val (.ref a2), .val (.ref a3), .val (.int (3 : Int32))] [(.int (3 : Int32)), (.ref a3)])) _
    refine XS.aloadN X0.here hx rfl (hb hby d8_13) rfl rfl ?_
    show Steps p.tables e below (s₁.setTop (mkF m 14 #[.val (.ref a1), .val (.ref a2), .val (.ref a3), .val (.int (3 : Int32))] [(.ref a2), (.int (3 : Int32)), (.ref a3)])) _
    refine st6 _ ?_
    show Steps p.tables e below (T6.setTop (mkF m 15 #[.val (.ref a1), .val (.ref a2), .val (.ref a3), .val (.int (3 : Int32))] [])) _
    refine XS.aloadN X6.here hx rfl (hb hby d8_15) rfl rfl ?_
    show Steps p.tables e below (T6.setTop (mkF m 16 #[.val (.ref a1), .val (.ref a2), .val (.ref a3), .val (.int (3 : Int32))] [(.ref a1)])) _
    refine XS.iloadN X6.here hx rfl (hb hby d8_16) rfl ?_
    show Steps p.tables e below (T6.setTop (mkF m 17 #[.val (.ref a1), .val (.ref a2), .val (.ref a3), .val (.int (3 : Int32))] [(.int (3 : Int32)), (.ref a1)])) _
    refine XS.iconst X6.here hx rfl (hb hby d8_17) ?_
    show Steps p.tables e below (T6.setTop (mkF m 18 #[.val (.ref a1), .val (.ref a2), .val (.ref a3), .val (.int (3 : Int32))] [(.int (1 : Int32)), (.int (3 : Int32)), (.ref a1)])) _
    refine XS.iadd X6.here hx rfl (hb hby d8_18) rfl ?_
    show Steps p.tables e below (T6.setTop (mkF m 19 #[.val (.ref a1), .val (.ref a2), .val (.ref a3), .val (.int (3 : Int32))] [(.int (4 : Int32)), (.ref a1)])) _
    refine st11 _ ?_
    show Steps p.tables e below (T11.setTop (mkF m 22 #[.val (.ref a1), .val (.ref a2), .val (.ref a3), .val (.int (3 : Int32))] [])) _
    exact X11.returnOut hx Bd.returns (hb hby d8_22) hr
  · show Q8r3aaa Z a1 a2 a3 p0 k0 el0 el1 el2 h0 n0 _ T11.heap _
    rw [e11]
    exact ⟨rfl, N11, K12, f14, f15, f16, f17, f18, f19, Fw11⟩
def Q7r3aaa (Z : State) (a1 a2 : Addr) (p0 : Int32) (k0 : ClassId) (el0 el1 el2 w0 : Addr) (h0 : Heap) (n0 : Nat) (v : Option Value) (h : Heap) (L : List Loc) : Prop := v = some (.int (1 : Int32)) ∧ Fr n0 L ∧ Keep h0 h [a1, w0] ∧ Exa Z h a1 "java/util/ArrayList" ∧ Fld Z h a1 "java/util/ArrayList" "elementData" "[Ljava/lang/Object;" (.ref w0) ∧ Fld Z h a1 "java/util/AbstractList" "modCount" "I" (.int (p0 + (1 : Int32))) ∧ Fld Z h a1 "java/util/ArrayList" "size" "I" (.int (4 : Int32)) ∧ Exa Z h w0 "[Ljava/lang/Object;" ∧ Arv Z h w0 k0 (.object "java/lang/Object") (10 : Int32) [(.ref el0), (.ref el1), (.ref el2), (.ref a2), .null, .null, .null, .null, .null, .null] .null ∧ Ovr Z k0 "java/lang/Object"
set_option maxRecDepth 65536 in
set_option maxHeartbeats 40000000 in
theorem rm7r3aaa (l : Launch) (Z : State) (a0 : Array Value) (hw : ∀ d ∈ tables_1, d.before a0 Z = true) (ws : List Jvm.Cond) (a1 a2 : Addr) (p0 : Int32) (k0 : ClassId) (el0 el1 el2 w0 : Addr) (h0 : Heap) (n0 : Nat) (O0 : Old Z n0 h0) (HE_a1 : Exa Z h0 a1 "java/util/ArrayList") (HF_a1_modCount : Fld Z h0 a1 "java/util/AbstractList" "modCount" "I" (.int p0)) (HF_a1_elementData : Fld Z h0 a1 "java/util/ArrayList" "elementData" "[Ljava/lang/Object;" (.ref w0)) (HF_a1_size : Fld Z h0 a1 "java/util/ArrayList" "size" "I" (.int (3 : Int32))) (HE_w0 : Exa Z h0 w0 "[Ljava/lang/Object;") (HV_w0 : Arv Z h0 w0 k0 (.object "java/lang/Object") (10 : Int32) [(.ref el0), (.ref el1), (.ref el2), .null, .null, .null, .null, .null, .null, .null] .null) (HY_w0 : Ovr Z k0 "java/lang/Object") (g_a1 : n0 ≤ a1) (ne_w0_a1 : w0 ≠ a1) (HI_a2_java_lang_Object : Ins Z h0 a2 "java/lang/Object" true) (g_w0 : n0 ≤ w0) :
    MetFree l (⟨"java/util/ArrayList", "add", "(Ljava/lang/Object;)Z"⟩ : MethodName) (head1 (Jvm.Cond.code (⟨"java/util/ArrayList", "add", "(Ljava/lang/Object;)Z"⟩ : MethodName) jdk_38_method_25_code 2 (some .boolean) :: ws) ({ frames := 1, cells := 0, slots := 0, locals := 15 } : Room)) (fun a U => a = #[(.ref a1), (.ref a2)] ∧ Z.Warmed39 U.vm ∧ U.heap = h0) (fun _ _ _ _ _ => True) (fun _ U o U' => ∃ v L, o = .returned v ∧ Q7r3aaa Z a1 a2 p0 k0 el0 el1 el2 w0 h0 n0 v U'.heap L ∧ FrameEnd U o U' L ({ frames := 1, cells := 0, slots := 0, locals := 15 } : Room).cells ({ frames := 1, cells := 0, slots := 0, locals := 15 } : Room).slots) := by
  refine MetFree.of_bodySF (plainFor_of_name pnc_java_util_ArrayList) hisR ?_
  intro p e s m args below meth c s₁ Bd hml0 hP hK
  obtain ⟨rfl, hZ, hh⟩ := hP
  have hx := Bd.exec
  have hby := Bd.bytes
  have hml : c.maxLocals = 2 := hml0
  have hown : s.vm.findClass "java/util/ArrayList" = some m.cls := findClass_of_methodNamed Bd.named
  have hnm := (name_of_methodNamed Bd.named Bd.method).1
  have X0 : Stand p l e ({ frames := 1, cells := 0, slots := 0, locals := 15 } : Room) s m #[(.ref a1), (.ref a2)] below meth c s₁ [] 0 0 := Stand.of_body Bd
  have e0 : s₁.heap = h0 := by rw [← hh, Bd.state]; rfl
  have N0 := Fr.nil n0
  have Z0 : n0 ≤ h0.size := O0.1 ▸ O0.2.1
  have pre0 : ∀ t, Steps p.tables e below (s₁.setTop (mkF m 0 #[.val (.ref a1), .val (.ref a2)] [])) t → Steps p.tables e below (s₁.setTop (entryFrame m #[(.ref a1), (.ref a2)] 2)) t := fun t k => castTop (ef_7 m a1 a2) k
  obtain ⟨T3, X3, e3, st3⟩ := getF X0 hx hZ hown (host := "") (Or.inl (hw _ (List.mem_of_getElem? (i := 49) rfl))) (Via.of (hw _ (List.mem_of_getElem? (i := 50) rfl))) e0 HF_a1_modCount (g := (mkF m 2 #[.val (.ref a1), .val (.ref a2)] [(.ref a1), (.ref a1)])) rfl rfl (hb hby d7_2)
  obtain ⟨T4, h4, X4, e4, W4, st4⟩ := putF X3 hx hZ hown (host := "") (Or.inl (hw _ (List.mem_of_getElem? (i := 49) rfl))) (Via.of (hw _ (List.mem_of_getElem? (i := 50) rfl))) e3 HF_a1_modCount HE_a1 (Or.inl (hw _ (List.mem_of_getElem? (i := 40) rfl))) (hw _ (List.mem_of_getElem? (i := 21) rfl)) (ty := .int) (by decide) rfl rfl (g := (mkF m 7 #[.val (.ref a1), .val (.ref a2)] [(.int (p0 + (1 : Int32))), (.ref a1)])) rfl rfl (hb hby d7_7)
  have N4 := Fr.snoc X4 N0 g_a1
  have K5 : Keep h0 h4 [a1, w0] := (Keep.refl h0 [a1, w0]).wr W4 (Or.inl (List.mem_of_getElem? (i := 0) rfl))
  have O6 : Old Z n0 h4 := O0.wr W4 g_a1
  have Fw4 : Fld Z h4 a1 "java/util/AbstractList" "modCount" "I" (.int (p0 + (1 : Int32))) := HF_a1_modCount.same W4
  have f7 := (HF_a1_elementData.other W4 (Or.inr (slot_ne (Or.inl (hw _ (List.mem_of_getElem? (i := 43) rfl))) (Or.inl (hw _ (List.mem_of_getElem? (i := 40) rfl))) (by decide) (t := (.array (.object "java/lang/Object"))) (t' := .int) (by decide) (by decide))))
  obtain ⟨T8, X8, e8, st8⟩ := getF X4 hx hZ hown (host := "") (Or.inl (hw _ (List.mem_of_getElem? (i := 42) rfl))) Via.refl e4 f7 (g := (mkF m 13 #[.val (.ref a1), .val (.ref a2)] [(.ref a1), (.ref a2), (.ref a1)])) rfl rfl (hb hby d7_13)
  have f9 := (HF_a1_size.other W4 (Or.inr (slot_ne (Or.inl (hw _ (List.mem_of_getElem? (i := 52) rfl))) (Or.inl (hw _ (List.mem_of_getElem? (i := 40) rfl))) (by decide) (t := .int) (t' := .int) (by decide) (by decide))))
  obtain ⟨T10, X10, e10, st10⟩ := getF X8 hx hZ hown (host := "") (Or.inl (hw _ (List.mem_of_getElem? (i := 51) rfl))) Via.refl e8 f9 (g := (mkF m 17 #[.val (.ref a1), .val (.ref a2)] [(.ref a1), (.ref w0), (.ref a2), (.ref a1)])) rfl rfl (hb hby d7_17)
  have f11 := (HE_a1.wr W4)
  have f12 := (HE_w0.wr W4)
  have f13 := (HV_w0.other W4 ne_w0_a1)
  have f14 := HY_w0
  have f15 := (HI_a2_java_lang_Object.wr W4)
  obtain ⟨cq16, q16, q16'⟩ := f11.cell
  obtain ⟨vr16, _, ⟨T16, L16, k16, n16⟩, -, X16, ⟨Lc16, hQ16, l16, y16, z16⟩, st16⟩ := X10.privateBack hx (y := (⟨"java/util/ArrayList", "add", "(Ljava/lang/Object;[Ljava/lang/Object;I)V"⟩ : MethodName)) hown (mvT hZ (hw _ (List.mem_of_getElem? (i := 53) rfl))) (mvT hZ (hw _ (List.mem_of_getElem? (i := 54) rfl))) (mvT hZ (hw _ (List.mem_of_getElem? (i := 56) rfl))) (Cond.privateMethod_at (mvP hZ (hw _ (List.mem_of_getElem? (i := 55) rfl)) (args := #[]))) (mvT hZ (hw _ (List.mem_of_getElem? (i := 57) rfl))) (by decide) (backOf (W := 0) (rm8r3aaa l Z a0 hw [] a1 a2 w0 ((p0 + (1 : Int32))) k0 el0 el1 el2 h4 n0 O6 f11 Fw4 f7 f9 f12 f13 f14 f15 g_w0 (Ne.symm ne_w0_a1) g_a1) hZ (hw _ (List.mem_of_getElem? (i := 57) rfl)) (hw _ (List.mem_of_getElem? (i := 22) rfl)) (by decide) (by decide)) (g := (mkF m 20 #[.val (.ref a1), .val (.ref a2)] [(.int (3 : Int32)), (.ref w0), (.ref a2), (.ref a1)])) rfl (by rw [hml]; rfl) (Steps.refl _) (a := a1) (by rw [e10]; exact q16) q16' (argsL := [(.ref a2), (.ref w0), (.int (3 : Int32))]) (rest := []) (lenOf pd_13 rfl) rfl (by show 2 * 0 + _ ≤ _; exact Nat.le_of_eq rfl) (hb hby d7_20) (fun _ _ => ⟨rfl, e10, (by decide : 0 + 0 ≤ _), (by decide : 0 + 0 ≤ _)⟩)
  dsimp only [Pt.U, Pt.locs, Pt.cells, Pt.slots] at X16 l16 y16 z16 st16 hQ16
  subst l16 y16 z16
  obtain ⟨rfl, N16q, K16, Y16_0, Y16_1, Y16_2, Y16_3, Y16_4, Y16_5, Y16_6⟩ := hQ16
  have N16 := Fr.app N4 N16q
  replace X16 := X16.more (cells' := 0) (slots' := 0) (by decide) (by decide)
  have K17 : Keep h0 T16.heap [a1, w0] := K5.trans K16 (allS (Or.inl (List.mem_of_getElem? (i := 1) rfl)) (allS (Or.inl (List.mem_of_getElem? (i := 0) rfl)) all0))
  have O18 : Old Z n0 T16.heap := O6.keep K16 (allS g_w0 (allS g_a1 all0))
  obtain ⟨fs, hr, hrun, hended, hW, hsame⟩ := X16.leave (v := some (.int (1 : Int32))) (fun h => by rw [Bd.returns] at h; cases h)
  refine ⟨_, _, pre0 _ ?_, hrun, hended, _, _, rfl, ?_, ⟨_, rfl⟩, hW, hsame.mono (by decide) (by decide)⟩
  · show Steps p.tables e below (s₁.setTop (mkF m 0 #[.val (.ref a1), .val (.ref a2)] [])) _
    refine XS.aloadN X0.here hx rfl (hb hby d7_0) rfl rfl ?_
    show Steps p.tables e below (s₁.setTop (mkF m 1 #[.val (.ref a1), .val (.ref a2)] [(.ref a1)])) _
    refine XS.dup X0.here hx rfl (hb hby d7_1) rfl rfl ?_
    show Steps p.tables e below (s₁.setTop (mkF m 2 #[.val (.ref a1), .val (.ref a2)] [(.ref a1), (.ref a1)])) _
    refine st3 _ ?_
    show Steps p.tables e below (T3.setTop (mkF m 5 #[.val (.ref a1), .val (.ref a2)] [(.int p0), (.ref a1)])) _
    refine XS.iconst X3.here hx rfl (hb hby d7_5) ?_
    show Steps p.tables e below (T3.setTop (mkF m 6 #[.val (.ref a1), .val (.ref a2)] [(.int (1 : Int32)), (.int p0), (.ref a1)])) _
    refine XS.iadd X3.here hx rfl (hb hby d7_6) rfl ?_
    show Steps p.tables e below (T3.setTop (mkF m 7 #[.val (.ref a1), .val (.ref a2)] [(.int (p0 + (1 : Int32))), (.ref a1)])) _
    refine st4 _ ?_
    show Steps p.tables e below (T4.setTop (mkF m 10 #[.val (.ref a1), .val (.ref a2)] [])) _
    refine XS.aloadN X4.here hx rfl (hb hby d7_10) rfl rfl ?_
    show Steps p.tables e below (T4.setTop (mkF m 11 #[.val (.ref a1), .val (.ref a2)] [(.ref a1)])) _
    refine XS.aloadN X4.here hx rfl (hb hby d7_11) rfl rfl ?_
    show Steps p.tables e below (T4.setTop (mkF m 12 #[.val (.ref a1), .val (.ref a2)] [(.ref a2), (.ref a1)])) _
    refine XS.aloadN X4.here hx rfl (hb hby d7_12) rfl rfl ?_
    show Steps p.tables e below (T4.setTop (mkF m 13 #[.val (.ref a1), .val (.ref a2)] [(.ref a1), (.ref a2), (.ref a1)])) _
    refine st8 _ ?_
    show Steps p.tables e below (T8.setTop (mkF m 16 #[.val (.ref a1), .val (.ref a2)] [(.ref w0), (.ref a2), (.ref a1)])) _
    refine XS.aloadN X8.here hx rfl (hb hby d7_16) rfl rfl ?_
    show Steps p.tables e below (T8.setTop (mkF m 17 #[.val (.ref a1), .val (.ref a2)] [(.ref a1), (.ref w0), (.ref a2), (.ref a1)])) _
    refine st10 _ ?_
    show Steps p.tables e below (T10.setTop (mkF m 20 #[.val (.ref a1), .val (.ref a2)] [(.int (3 : Int32)), (.ref w0), (.ref a2), (.ref a1)])) _
    refine st16.trans ?_
    show Steps p.tables e below (T16.setTop (mkF m 23 #[.val (.ref a1), .val (.ref a2)] [])) _
    refine XS.iconst X16.here hx rfl (hb hby d7_23) ?_
    show Steps p.tables e below (T16.setTop (mkF m 24 #[.val (.ref a1), .val (.ref a2)] [(.int (1 : Int32))])) _
    exact retN X16 hx (t := .boolean) Bd.returns (by simp) (hb hby d7_24) hr
  · show Q7r3aaa Z a1 a2 p0 k0 el0 el1 el2 w0 h0 n0 _ T16.heap _
    exact ⟨rfl, N16, K17, Y16_3, Y16_4, Y16_5, Y16_6, Y16_0, Y16_1, Y16_2⟩
theorem d19_0 : decode jdk_29_method_69_code 0 = .ok (.iload_n 0, 1) := by decide +kernel
theorem d19_1 : decode jdk_29_method_69_code 1 = .ok (.iload_n 1, 1) := by decide +kernel
theorem d19_2 : decode jdk_29_method_69_code 2 = .ok (.if_icmp .gt 7, 3) := by decide +kernel
theorem d19_9 : decode jdk_29_method_69_code 9 = .ok (.iload_n 1, 1) := by decide +kernel
theorem d19_10 : decode jdk_29_method_69_code 10 = .ok (.ireturn, 1) := by decide +kernel
def Q19 (Z : State) (p1 p2 : Int32) (h0 : Heap) (n0 : Nat) (v : Option Value) (h : Heap) (L : List Loc) : Prop := v = some (.int p2) ∧ Fr n0 L ∧ h = h0
theorem ef_19 (m : MethodId) (x0 : Int32) (x1 : Int32) : entryFrame m #[(.int x0), (.int x1)] 2 = mkF m 0 #[.val (.int x0), .val (.int x1)] [] := by first | (simp [entryFrame, mkF, argsToLocals, Value.category]; done) | rfl
set_option maxRecDepth 65536 in
set_option maxHeartbeats 40000000 in
theorem rm19 (l : Launch) (Z : State) (a0 : Array Value) (hw : ∀ d ∈ tables_1, d.before a0 Z = true) (ws : List Jvm.Cond) (p1 p2 : Int32) (h0 : Heap) (n0 : Nat) (O0 : Old Z n0 h0) (hc2 : p2 < p1) :
    MetFree l (⟨"java/lang/Math", "min", "(II)I"⟩ : MethodName) (head1 (Jvm.Cond.code (⟨"java/lang/Math", "min", "(II)I"⟩ : MethodName) jdk_29_method_69_code 2 (some .int) :: ws) ({ frames := 0, cells := 0, slots := 0, locals := 0 } : Room)) (fun a U => a = #[(.int p1), (.int p2)] ∧ Z.Warmed39 U.vm ∧ U.heap = h0) (fun _ _ _ _ _ => True) (fun _ U o U' => ∃ v L, o = .returned v ∧ Q19 Z p1 p2 h0 n0 v U'.heap L ∧ FrameEnd U o U' L ({ frames := 0, cells := 0, slots := 0, locals := 0 } : Room).cells ({ frames := 0, cells := 0, slots := 0, locals := 0 } : Room).slots) := by
  refine MetFree.of_bodySF (Jvm.Free.JP.mathPlain rfl (by decide +kernel)) hisR ?_
  intro p e s m args below meth c s₁ Bd hml0 hP hK
  obtain ⟨rfl, hZ, hh⟩ := hP
  have hx := Bd.exec
  have hby := Bd.bytes
  have hml : c.maxLocals = 2 := hml0
  have hown : s.vm.findClass "java/lang/Math" = some m.cls := findClass_of_methodNamed Bd.named
  have hnm := (name_of_methodNamed Bd.named Bd.method).1
  have X0 : Stand p l e ({ frames := 0, cells := 0, slots := 0, locals := 0 } : Room) s m #[(.int p1), (.int p2)] below meth c s₁ [] 0 0 := Stand.of_body Bd
  have e0 : s₁.heap = h0 := by rw [← hh, Bd.state]; rfl
  have N0 := Fr.nil n0
  have Z0 : n0 ≤ h0.size := O0.1 ▸ O0.2.1
  have pre0 : ∀ t, Steps p.tables e below (s₁.setTop (mkF m 0 #[.val (.int p1), .val (.int p2)] [])) t → Steps p.tables e below (s₁.setTop (entryFrame m #[(.int p1), (.int p2)] 2)) t := fun t k => castTop (ef_19 m p1 p2) k
  obtain ⟨fs, hr, hrun, hended, hW, hsame⟩ := X0.leave (v := some (.int p2)) (fun h => by rw [Bd.returns] at h; cases h)
  refine ⟨_, _, pre0 _ ?_, hrun, hended, _, _, rfl, ?_, ⟨_, rfl⟩, hW, hsame.mono (by decide) (by decide)⟩
  · show Steps p.tables e below (s₁.setTop (mkF m 0 #[.val (.int p1), .val (.int p2)] [])) _
    refine XS.iloadN X0.here hx rfl (hb hby d19_0) rfl ?_
    show Steps p.tables e below (s₁.setTop (mkF m 1 #[.val (.int p1), .val (.int p2)] [(.int p1)])) _
    refine XS.iloadN X0.here hx rfl (hb hby d19_1) rfl ?_
    show Steps p.tables e below (s₁.setTop (mkF m 2 #[.val (.int p1), .val (.int p2)] [(.int p2), (.int p1)])) _
    refine XS.icmpYes X0.here hx rfl (pc0 := 2) (pc' := 9) rfl (hb hby d19_2) rfl (tlt hc2).2.2.1 (by decide) (by decide) ?_
    show Steps p.tables e below (s₁.setTop (mkF m 9 #[.val (.int p1), .val (.int p2)] [])) _
    refine XS.iloadN X0.here hx rfl (hb hby d19_9) rfl ?_
    show Steps p.tables e below (s₁.setTop (mkF m 10 #[.val (.int p1), .val (.int p2)] [(.int p2)])) _
    exact own_retI X0 hx Bd.returns (hb hby d19_10) hr
  · show Q19 Z p1 p2 h0 n0 _ s₁.heap _
    rw [e0]
    exact ⟨rfl, N0, rfl⟩
theorem d24_0 : decode jdk_31_method_10_code 0 = .ok (.aload_n 0, 1) := by decide +kernel
theorem d24_1 : decode jdk_31_method_10_code 1 = .ok (.ifnonnull 11, 3) := by decide +kernel
theorem d24_12 : decode jdk_31_method_10_code 12 = .ok (.aload_n 0, 1) := by decide +kernel
theorem d24_13 : decode jdk_31_method_10_code 13 = .ok (.areturn, 1) := by decide +kernel
def Q24 (Z : State) (a1 : Addr) (h0 : Heap) (n0 : Nat) (v : Option Value) (h : Heap) (L : List Loc) : Prop := v = some (.ref a1) ∧ Fr n0 L ∧ h = h0
theorem ef_24 (m : MethodId) (x0 : Addr) : entryFrame m #[(.ref x0)] 1 = mkF m 0 #[.val (.ref x0)] [] := by first | (simp [entryFrame, mkF, argsToLocals, Value.category]; done) | rfl
theorem pnc_java_util_Objects : plainName "java/util/Objects" = true := by first | (simp [plainName, overriddenIn]; done) | decide +kernel
set_option maxRecDepth 65536 in
set_option maxHeartbeats 40000000 in
theorem rm24 (l : Launch) (Z : State) (a0 : Array Value) (hw : ∀ d ∈ tables_1, d.before a0 Z = true) (ws : List Jvm.Cond) (a1 : Addr) (h0 : Heap) (n0 : Nat) (O0 : Old Z n0 h0) :
    MetFree l (⟨"java/util/Objects", "requireNonNull", "(Ljava/lang/Object;)Ljava/lang/Object;"⟩ : MethodName) (head1 (Jvm.Cond.code (⟨"java/util/Objects", "requireNonNull", "(Ljava/lang/Object;)Ljava/lang/Object;"⟩ : MethodName) jdk_31_method_10_code 1 (some (.object "java/lang/Object")) :: ws) ({ frames := 0, cells := 0, slots := 0, locals := 0 } : Room)) (fun a U => a = #[(.ref a1)] ∧ Z.Warmed39 U.vm ∧ U.heap = h0) (fun _ _ _ _ _ => True) (fun _ U o U' => ∃ v L, o = .returned v ∧ Q24 Z a1 h0 n0 v U'.heap L ∧ FrameEnd U o U' L ({ frames := 0, cells := 0, slots := 0, locals := 0 } : Room).cells ({ frames := 0, cells := 0, slots := 0, locals := 0 } : Room).slots) := by
  refine MetFree.of_bodySF (plainFor_of_name pnc_java_util_Objects) hisR ?_
  intro p e s m args below meth c s₁ Bd hml0 hP hK
  obtain ⟨rfl, hZ, hh⟩ := hP
  have hx := Bd.exec
  have hby := Bd.bytes
  have hml : c.maxLocals = 1 := hml0
  have hown : s.vm.findClass "java/util/Objects" = some m.cls := findClass_of_methodNamed Bd.named
  have hnm := (name_of_methodNamed Bd.named Bd.method).1
  have X0 : Stand p l e ({ frames := 0, cells := 0, slots := 0, locals := 0 } : Room) s m #[(.ref a1)] below meth c s₁ [] 0 0 := Stand.of_body Bd
  have e0 : s₁.heap = h0 := by rw [← hh, Bd.state]; rfl
  have N0 := Fr.nil n0
  have Z0 : n0 ≤ h0.size := O0.1 ▸ O0.2.1
  have pre0 : ∀ t, Steps p.tables e below (s₁.setTop (mkF m 0 #[.val (.ref a1)] [])) t → Steps p.tables e below (s₁.setTop (entryFrame m #[(.ref a1)] 1)) t := fun t k => castTop (ef_24 m a1) k
  obtain ⟨fs, hr, hrun, hended, hW, hsame⟩ := X0.leave (v := some (.ref a1)) (fun h => by rw [Bd.returns] at h; cases h)
  refine ⟨_, _, pre0 _ ?_, hrun, hended, _, _, rfl, ?_, ⟨_, rfl⟩, hW, hsame.mono (by decide) (by decide)⟩
  · show Steps p.tables e below (s₁.setTop (mkF m 0 #[.val (.ref a1)] [])) _
    refine XS.aloadN X0.here hx rfl (hb hby d24_0) rfl rfl ?_
    show Steps p.tables e below (s₁.setTop (mkF m 1 #[.val (.ref a1)] [(.ref a1)])) _
    refine XS.ifnonnullYes X0.here hx rfl (pc0 := 1) (pc' := 12) rfl (hb hby d24_1) rfl (by decide) (by decide) ?_
    show Steps p.tables e below (s₁.setTop (mkF m 12 #[.val (.ref a1)] [])) _
    refine XS.aloadN X0.here hx rfl (hb hby d24_12) rfl rfl ?_
    show Steps p.tables e below (s₁.setTop (mkF m 13 #[.val (.ref a1)] [(.ref a1)])) _
    exact own_retR X0 hx Bd.returns rfl rfl (hb hby d24_13) hr
  · show Q24 Z a1 h0 n0 _ s₁.heap _
    rw [e0]
    exact ⟨rfl, N0, rfl⟩
theorem d15_0 : decode jdk_38_method_9_code 0 = .ok (.aload_n 0, 1) := by decide +kernel
theorem d15_1 : decode jdk_38_method_9_code 1 = .ok (.getfield 48, 3) := by decide +kernel
theorem d15_4 : decode jdk_38_method_9_code 4 = .ok (.ifCond .ne 7, 3) := by decide +kernel
theorem d15_11 : decode jdk_38_method_9_code 11 = .ok (.iconst 0, 1) := by decide +kernel
theorem d15_12 : decode jdk_38_method_9_code 12 = .ok (.ireturn, 1) := by decide +kernel
def Q15 (Z : State) (a1 : Addr) (w2 : Int32) (h0 : Heap) (n0 : Nat) (v : Option Value) (h : Heap) (L : List Loc) : Prop := v = some (.int (0 : Int32)) ∧ Fr n0 L ∧ h = h0
theorem ef_15 (m : MethodId) (x0 : Addr) : entryFrame m #[(.ref x0)] 1 = mkF m 0 #[.val (.ref x0)] [] := by first | (simp [entryFrame, mkF, argsToLocals, Value.category]; done) | rfl
set_option maxRecDepth 65536 in
set_option maxHeartbeats 40000000 in
theorem rm15 (l : Launch) (Z : State) (a0 : Array Value) (hw : ∀ d ∈ tables_1, d.before a0 Z = true) (ws : List Jvm.Cond) (a1 : Addr) (w2 : Int32) (h0 : Heap) (n0 : Nat) (O0 : Old Z n0 h0) (HF_a1_size : Fld Z h0 a1 "java/util/ArrayList" "size" "I" (.int w2)) (hc4 : ¬ (w2 = (0 : Int32))) :
    MetFree l (⟨"java/util/ArrayList", "isEmpty", "()Z"⟩ : MethodName) (head1 (Jvm.Cond.code (⟨"java/util/ArrayList", "isEmpty", "()Z"⟩ : MethodName) jdk_38_method_9_code 1 (some .boolean) :: ws) ({ frames := 0, cells := 0, slots := 0, locals := 0 } : Room)) (fun a U => a = #[(.ref a1)] ∧ Z.Warmed39 U.vm ∧ U.heap = h0) (fun _ _ _ _ _ => True) (fun _ U o U' => ∃ v L, o = .returned v ∧ Q15 Z a1 w2 h0 n0 v U'.heap L ∧ FrameEnd U o U' L ({ frames := 0, cells := 0, slots := 0, locals := 0 } : Room).cells ({ frames := 0, cells := 0, slots := 0, locals := 0 } : Room).slots) := by
  refine MetFree.of_bodySF (plainFor_of_name pnc_java_util_ArrayList) hisR ?_
  intro p e s m args below meth c s₁ Bd hml0 hP hK
  obtain ⟨rfl, hZ, hh⟩ := hP
  have hx := Bd.exec
  have hby := Bd.bytes
  have hml : c.maxLocals = 1 := hml0
  have hown : s.vm.findClass "java/util/ArrayList" = some m.cls := findClass_of_methodNamed Bd.named
  have hnm := (name_of_methodNamed Bd.named Bd.method).1
  have X0 : Stand p l e ({ frames := 0, cells := 0, slots := 0, locals := 0 } : Room) s m #[(.ref a1)] below meth c s₁ [] 0 0 := Stand.of_body Bd
  have e0 : s₁.heap = h0 := by rw [← hh, Bd.state]; rfl
  have N0 := Fr.nil n0
  have Z0 : n0 ≤ h0.size := O0.1 ▸ O0.2.1
  have pre0 : ∀ t, Steps p.tables e below (s₁.setTop (mkF m 0 #[.val (.ref a1)] [])) t → Steps p.tables e below (s₁.setTop (entryFrame m #[(.ref a1)] 1)) t := fun t k => castTop (ef_15 m a1) k
  obtain ⟨T3, X3, e3, st3⟩ := getF X0 hx hZ hown (host := "") (Or.inl (hw _ (List.mem_of_getElem? (i := 51) rfl))) Via.refl e0 HF_a1_size (g := (mkF m 1 #[.val (.ref a1)] [(.ref a1)])) rfl rfl (hb hby d15_1)
  obtain ⟨fs, hr, hrun, hended, hW, hsame⟩ := X3.leave (v := some (.int (0 : Int32))) (fun h => by rw [Bd.returns] at h; cases h)
  refine ⟨_, _, pre0 _ ?_, hrun, hended, _, _, rfl, ?_, ⟨_, rfl⟩, hW, hsame.mono (by decide) (by decide)⟩
  · show Steps p.tables e below (s₁.setTop (mkF m 0 #[.val (.ref a1)] [])) _
    refine XS.aloadN X0.here hx rfl (hb hby d15_0) rfl rfl ?_
    show Steps p.tables e below (s₁.setTop (mkF m 1 #[.val (.ref a1)] [(.ref a1)])) _
    refine st3 _ ?_
    show Steps p.tables e below (T3.setTop (mkF m 4 #[.val (.ref a1)] [(.int w2)])) _
    refine XS.ifYes X3.here hx rfl (pc0 := 4) (pc' := 11) rfl (hb hby d15_4) rfl ((if0 _ _).trans (feq hc4).2) (by decide) (by decide) ?_
    show Steps p.tables e below (T3.setTop (mkF m 11 #[.val (.ref a1)] [])) _
    refine XS.iconst X3.here hx rfl (hb hby d15_11) ?_
    show Steps p.tables e below (T3.setTop (mkF m 12 #[.val (.ref a1)] [(.int (0 : Int32))])) _
    exact retN X3 hx (t := .boolean) Bd.returns (by simp) (hb hby d15_12) hr
  · show Q15 Z a1 w2 h0 n0 _ T3.heap _
    rw [e3]
    exact ⟨rfl, N0, rfl⟩
theorem d23_0 : decode jdk_47_method_1_code 0 = .ok (.aload_n 0, 1) := by decide +kernel
theorem d23_1 : decode jdk_47_method_1_code 1 = .ok (.invokespecial 1, 3) := by decide +kernel
theorem d23_4 : decode jdk_47_method_1_code 4 = .ok (.return_, 1) := by decide +kernel
def Q23 (Z : State) (a1 : Addr) (h0 : Heap) (n0 : Nat) (v : Option Value) (h : Heap) (L : List Loc) : Prop := v = none ∧ Fr n0 L ∧ h = h0
theorem ef_23 (m : MethodId) (x0 : Addr) : entryFrame m #[(.ref x0)] 1 = mkF m 0 #[.val (.ref x0)] [] := by first | (simp [entryFrame, mkF, argsToLocals, Value.category]; done) | rfl
theorem pnc_java_util_ImmutableCollections_AbstractImmutableCollection : plainName "java/util/ImmutableCollections$AbstractImmutableCollection" = true := by first | (simp [plainName, overriddenIn]; done) | decide +kernel
set_option maxRecDepth 65536 in
set_option maxHeartbeats 40000000 in
theorem rm23 (l : Launch) (Z : State) (a0 : Array Value) (hw : ∀ d ∈ tables_1, d.before a0 Z = true) (ws : List Jvm.Cond) (a1 : Addr) (h0 : Heap) (n0 : Nat) (O0 : Old Z n0 h0) :
    MetFree l (⟨"java/util/ImmutableCollections$AbstractImmutableCollection", "<init>", "()V"⟩ : MethodName) (head1 (Jvm.Cond.code (⟨"java/util/ImmutableCollections$AbstractImmutableCollection", "<init>", "()V"⟩ : MethodName) jdk_47_method_1_code 1 none :: ws) ({ frames := 2, cells := 0, slots := 0, locals := 24 } : Room)) (fun a U => a = #[(.ref a1)] ∧ Z.Warmed39 U.vm ∧ U.heap = h0) (fun _ _ _ _ _ => True) (fun _ U o U' => ∃ v L, o = .returned v ∧ Q23 Z a1 h0 n0 v U'.heap L ∧ FrameEnd U o U' L ({ frames := 2, cells := 0, slots := 0, locals := 24 } : Room).cells ({ frames := 2, cells := 0, slots := 0, locals := 24 } : Room).slots) := by
  refine MetFree.of_bodySF (plainFor_of_name pnc_java_util_ImmutableCollections_AbstractImmutableCollection) hisR ?_
  intro p e s m args below meth c s₁ Bd hml0 hP hK
  obtain ⟨rfl, hZ, hh⟩ := hP
  have hx := Bd.exec
  have hby := Bd.bytes
  have hml : c.maxLocals = 1 := hml0
  have hown : s.vm.findClass "java/util/ImmutableCollections$AbstractImmutableCollection" = some m.cls := findClass_of_methodNamed Bd.named
  have hnm := (name_of_methodNamed Bd.named Bd.method).1
  have X0 : Stand p l e ({ frames := 2, cells := 0, slots := 0, locals := 24 } : Room) s m #[(.ref a1)] below meth c s₁ [] 0 0 := Stand.of_body Bd
  have e0 : s₁.heap = h0 := by rw [← hh, Bd.state]; rfl
  have N0 := Fr.nil n0
  have Z0 : n0 ≤ h0.size := O0.1 ▸ O0.2.1
  have pre0 : ∀ t, Steps p.tables e below (s₁.setTop (mkF m 0 #[.val (.ref a1)] [])) t → Steps p.tables e below (s₁.setTop (entryFrame m #[(.ref a1)] 1)) t := fun t k => castTop (ef_23 m a1) k
  obtain ⟨vr2, _, ⟨T2, L2, k2, n2⟩, -, X2, ⟨Lc2, hQ2, l2, y2, z2⟩, st2⟩ := X0.specialBack hx (y := (⟨"java/util/AbstractCollection", "<init>", "()V"⟩ : MethodName)) rfl hown (mvT hZ (hw _ (List.mem_of_getElem? (i := 167) rfl))) (mvT hZ (hw _ (List.mem_of_getElem? (i := 33) rfl))) (mvT hZ (hw _ (List.mem_of_getElem? (i := 37) rfl))) (by decide) (backOf (W := 0) (rm6 l Z a0 hw [] a1 h0 n0 O0) hZ (hw _ (List.mem_of_getElem? (i := 37) rfl)) (hw _ (List.mem_of_getElem? (i := 36) rfl)) (by decide) (by decide)) (g := (mkF m 1 #[.val (.ref a1)] [(.ref a1)])) rfl (by rw [hml]; rfl) (Steps.refl _) (a := a1) (argsL := []) (rest := []) (lenOf pd_2 rfl) rfl (by show 2 * 0 + _ ≤ _; exact Nat.le_of_eq rfl) (hb hby d23_1) (fun _ _ => ⟨rfl, e0, (by decide : 0 + 0 ≤ _), (by decide : 0 + 0 ≤ _)⟩)
  dsimp only [Pt.U, Pt.locs, Pt.cells, Pt.slots] at X2 l2 y2 z2 st2 hQ2
  subst l2 y2 z2
  obtain ⟨rfl, N2q, e2⟩ := hQ2
  have N2 := Fr.app N0 N2q
  replace X2 := X2.more (cells' := 0) (slots' := 0) (by decide) (by decide)
  obtain ⟨fs, hr, hrun, hended, hW, hsame⟩ := X2.leave (v := none) (fun _ => rfl)
  refine ⟨_, _, pre0 _ ?_, hrun, hended, _, _, rfl, ?_, ⟨_, rfl⟩, hW, hsame.mono (by decide) (by decide)⟩
  · show Steps p.tables e below (s₁.setTop (mkF m 0 #[.val (.ref a1)] [])) _
    refine XS.aloadN X0.here hx rfl (hb hby d23_0) rfl rfl ?_
    show Steps p.tables e below (s₁.setTop (mkF m 1 #[.val (.ref a1)] [(.ref a1)])) _
    refine st2.trans ?_
    show Steps p.tables e below (T2.setTop (mkF m 4 #[.val (.ref a1)] [])) _
    exact X2.returnOut hx Bd.returns (hb hby d23_4) hr
  · show Q23 Z a1 h0 n0 _ T2.heap _
    rw [e2]
    exact ⟨rfl, N2, rfl⟩
theorem d22_0 : decode jdk_46_method_1_code 0 = .ok (.aload_n 0, 1) := by decide +kernel
theorem d22_1 : decode jdk_46_method_1_code 1 = .ok (.invokespecial 1, 3) := by decide +kernel
theorem d22_4 : decode jdk_46_method_1_code 4 = .ok (.return_, 1) := by decide +kernel
def Q22 (Z : State) (a1 : Addr) (h0 : Heap) (n0 : Nat) (v : Option Value) (h : Heap) (L : List Loc) : Prop := v = none ∧ Fr n0 L ∧ h = h0
theorem ef_22 (m : MethodId) (x0 : Addr) : entryFrame m #[(.ref x0)] 1 = mkF m 0 #[.val (.ref x0)] [] := by first | (simp [entryFrame, mkF, argsToLocals, Value.category]; done) | rfl
theorem pnc_java_util_ImmutableCollections_AbstractImmutableList : plainName "java/util/ImmutableCollections$AbstractImmutableList" = true := by first | (simp [plainName, overriddenIn]; done) | decide +kernel
set_option maxRecDepth 65536 in
set_option maxHeartbeats 40000000 in
theorem rm22 (l : Launch) (Z : State) (a0 : Array Value) (hw : ∀ d ∈ tables_1, d.before a0 Z = true) (ws : List Jvm.Cond) (a1 : Addr) (h0 : Heap) (n0 : Nat) (O0 : Old Z n0 h0) :
    MetFree l (⟨"java/util/ImmutableCollections$AbstractImmutableList", "<init>", "()V"⟩ : MethodName) (head1 (Jvm.Cond.code (⟨"java/util/ImmutableCollections$AbstractImmutableList", "<init>", "()V"⟩ : MethodName) jdk_46_method_1_code 1 none :: ws) ({ frames := 3, cells := 0, slots := 0, locals := 36 } : Room)) (fun a U => a = #[(.ref a1)] ∧ Z.Warmed39 U.vm ∧ U.heap = h0) (fun _ _ _ _ _ => True) (fun _ U o U' => ∃ v L, o = .returned v ∧ Q22 Z a1 h0 n0 v U'.heap L ∧ FrameEnd U o U' L ({ frames := 3, cells := 0, slots := 0, locals := 36 } : Room).cells ({ frames := 3, cells := 0, slots := 0, locals := 36 } : Room).slots) := by
  refine MetFree.of_bodySF (plainFor_of_name pnc_java_util_ImmutableCollections_AbstractImmutableList) hisR ?_
  intro p e s m args below meth c s₁ Bd hml0 hP hK
  obtain ⟨rfl, hZ, hh⟩ := hP
  have hx := Bd.exec
  have hby := Bd.bytes
  have hml : c.maxLocals = 1 := hml0
  have hown : s.vm.findClass "java/util/ImmutableCollections$AbstractImmutableList" = some m.cls := findClass_of_methodNamed Bd.named
  have hnm := (name_of_methodNamed Bd.named Bd.method).1
  have X0 : Stand p l e ({ frames := 3, cells := 0, slots := 0, locals := 36 } : Room) s m #[(.ref a1)] below meth c s₁ [] 0 0 := Stand.of_body Bd
  have e0 : s₁.heap = h0 := by rw [← hh, Bd.state]; rfl
  have N0 := Fr.nil n0
  have Z0 : n0 ≤ h0.size := O0.1 ▸ O0.2.1
  have pre0 : ∀ t, Steps p.tables e below (s₁.setTop (mkF m 0 #[.val (.ref a1)] [])) t → Steps p.tables e below (s₁.setTop (entryFrame m #[(.ref a1)] 1)) t := fun t k => castTop (ef_22 m a1) k
  obtain ⟨vr2, _, ⟨T2, L2, k2, n2⟩, -, X2, ⟨Lc2, hQ2, l2, y2, z2⟩, st2⟩ := X0.specialBack hx (y := (⟨"java/util/ImmutableCollections$AbstractImmutableCollection", "<init>", "()V"⟩ : MethodName)) rfl hown (mvT hZ (hw _ (List.mem_of_getElem? (i := 161) rfl))) (mvT hZ (hw _ (List.mem_of_getElem? (i := 162) rfl))) (mvT hZ (hw _ (List.mem_of_getElem? (i := 166) rfl))) (by decide) (backOf (W := 0) (rm23 l Z a0 hw [] a1 h0 n0 O0) hZ (hw _ (List.mem_of_getElem? (i := 166) rfl)) (hw _ (List.mem_of_getElem? (i := 165) rfl)) (by decide) (by decide)) (g := (mkF m 1 #[.val (.ref a1)] [(.ref a1)])) rfl (by rw [hml]; rfl) (Steps.refl _) (a := a1) (argsL := []) (rest := []) (lenOf pd_2 rfl) rfl (by show 2 * 0 + _ ≤ _; exact Nat.le_of_eq rfl) (hb hby d22_1) (fun _ _ => ⟨rfl, e0, (by decide : 0 + 0 ≤ _), (by decide : 0 + 0 ≤ _)⟩)
  dsimp only [Pt.U, Pt.locs, Pt.cells, Pt.slots] at X2 l2 y2 z2 st2 hQ2
  subst l2 y2 z2
  obtain ⟨rfl, N2q, e2⟩ := hQ2
  have N2 := Fr.app N0 N2q
  replace X2 := X2.more (cells' := 0) (slots' := 0) (by decide) (by decide)
  obtain ⟨fs, hr, hrun, hended, hW, hsame⟩ := X2.leave (v := none) (fun _ => rfl)
  refine ⟨_, _, pre0 _ ?_, hrun, hended, _, _, rfl, ?_, ⟨_, rfl⟩, hW, hsame.mono (by decide) (by decide)⟩
  · show Steps p.tables e below (s₁.setTop (mkF m 0 #[.val (.ref a1)] [])) _
    refine XS.aloadN X0.here hx rfl (hb hby d22_0) rfl rfl ?_
    show Steps p.tables e below (s₁.setTop (mkF m 1 #[.val (.ref a1)] [(.ref a1)])) _
    refine st2.trans ?_
    show Steps p.tables e below (T2.setTop (mkF m 4 #[.val (.ref a1)] [])) _
    exact X2.returnOut hx Bd.returns (hb hby d22_4) hr
  · show Q22 Z a1 h0 n0 _ T2.heap _
    rw [e2]
    exact ⟨rfl, N2, rfl⟩
theorem d18_0 : decode jdk_65_method_120_code 0 = .ok (.aload_n 2, 1) := by decide +kernel
theorem d18_1 : decode jdk_65_method_120_code 1 = .ok (.ldc 110, 2) := by decide +kernel
/-- the Class object of the class C has been made: it is mr -/
def own_Mir (Z : State) (C : String) (mr : Addr) : Prop := ∃ (c : ClassId) (k : Class), Z.vm.findClass C = some c ∧ Z.vm.classes[c]? = some k ∧ k.mirror = some mr
theorem own_gcls {p : Program} {l : Launch} {e : Env} {R : Room} {s : State} {m : MethodId} {args : Array Value} {below : List Frame} {meth : Method} {c : Code} {T : State} {locs : List Loc} {cells slots : Nat} {Z : State} {h : Heap} {a : Addr} (X : Stand p l e R s m args below meth c T locs cells slots) (hx : p.tables.exec = Jvm.exec) (hZ : Z.Warmed39 s.vm) {a0 : Array Value} {own C : String} {index : Nat} (hown : s.vm.findClass own = some m.cls)
    (w1 : (Jvm.Cond.methodLink own index ⟨"java/lang/Object", "getClass", "()Ljava/lang/Class;"⟩).before a0 Z = true) (w2 : (Jvm.Cond.declares ⟨"java/lang/Object", "getClass", "()Ljava/lang/Class;"⟩).before a0 Z = true) (w3 : (Jvm.Cond.noSuperclass "java/lang/Object").before a0 Z = true) (w4 : (Jvm.Cond.selects C ⟨"java/lang/Object", "getClass", "()Ljava/lang/Class;"⟩ ⟨"java/lang/Object", "getClass", "()Ljava/lang/Class;"⟩).before a0 Z = true)
    (w5 : (Jvm.Cond.instanceMethod ⟨"java/lang/Object", "getClass", "()Ljava/lang/Class;"⟩).before a0 Z = true) (w6 : (Jvm.Cond.native ⟨"java/lang/Object", "getClass", "()Ljava/lang/Class;"⟩).before a0 Z = true) (eT : T.heap = h) (E : Exa Z h a C) {mr : Addr} (M : own_Mir Z C mr)
    {g : JFrame} (hg : g.method = m) (hsize : g.locals.size = c.maxLocals) {rest : List Value} (hs : g.stack = .ref a :: rest) (hd : decode c.code g.pc = .ok (.invokevirtual index, 3)) (hf : 1 ≤ R.frames) {W : Nat} (hW : 2 * g.monitorRoom + (rest.map fun v => v.category).sum ≤ W) (hl : W + (nativeFrameWords "java/lang/Object" "getClass" 1 + 11) ≤ R.locals) :
    ∃ T', Stand p l e R s m args below meth c T' locs cells slots ∧ T'.heap = h ∧ ∀ target, Steps p.tables e below (T'.setTop { g with pc := g.pc + 3, stack := .ref mr :: rest }) target → Steps p.tables e below (T.setTop g) target := by
  obtain ⟨cM, kM, f1, f2, f3⟩ := M
  obtain ⟨cB, kB, i1, -, i3⟩ := isOf hZ eT E
  have f1' : s.vm.findClass C = some cM := by rw [hZ.alike.findClass]; exact f1
  obtain rfl : cB = cM := Option.some.inj (i1.symm.trans f1')
  obtain ⟨kS, q, ek⟩ := hZ.alike.2.2 _ _ f2
  have f3' : kS.mirror = some mr := by rw [ek]; exact f3
  obtain ⟨vm', X', st⟩ := X.getClassOf hx hown (mvT hZ w1) (mvT hZ w2) (nf_top (args := #[]) (mvT hZ w3)) (mvT hZ w4) (mvT hZ w5) (mvT hZ w6) f1' i3 q f3' hg hsize hs hd hf (by omega)
  exact ⟨_, X', eT, st⟩
theorem own_ldcM {p : Program} {l : Launch} {e : Env} {R : Room} {s : State} {m : MethodId} {args : Array Value} {below : List Frame} {meth : Method} {c : Code} {T : State} {locs : List Loc} {cells slots : Nat} {Z : State} {a0 : Array Value} {h : Heap} (X : Stand p l e R s m args below meth c T locs cells slots) (hx : p.tables.exec = Jvm.exec) (hZ : Z.Warmed39 s.vm) {own C : String} {index : Nat} (hown : s.vm.findClass own = some m.cls) (w : (Jvm.Cond.classLink own index C).before a0 Z = true) (eT : T.heap = h) {mr : Addr} (M : own_Mir Z C mr)
    {g : JFrame} (hg : g.method = m) (hd : decode c.code g.pc = .ok (.ldc index, 2)) : ∃ T', Stand p l e R s m args below meth c T' locs cells slots ∧ T'.heap = h ∧ ∀ target, Steps p.tables e below (T'.setTop { g with pc := g.pc + 2, stack := .ref mr :: g.stack }) target → Steps p.tables e below (T.setTop g) target := by
  obtain ⟨cc, kc, m1, m2, m3⟩ := M
  obtain ⟨k', q, ek⟩ := hZ.alike.2.2 _ _ m2
  have hev : (Term.mirror C).eval args s none [] s = some (.ref mr) := by
    have q1 : s.vm.findClass C = some cc := by rw [hZ.alike.findClass]; exact m1
    have q2 : k'.mirror = some mr := by rw [ek]; exact m3
    simp [Term.eval, q1, q, q2]
  obtain ⟨vm', X', st⟩ := X.ldcMirror hx hown (mvT hZ w) hev hg hd
  exact ⟨_, X', eT, st⟩
theorem d18_3 : decode jdk_65_method_120_code 3 = .ok (.if_acmp .ne 10, 3) := by decide +kernel
theorem d18_6 : decode jdk_65_method_120_code 6 = .ok (.iload_n 1, 1) := by decide +kernel
theorem d18_7 : decode jdk_65_method_120_code 7 = .ok (.anewarray 2, 3) := by decide +kernel
theorem d18_10 : decode jdk_65_method_120_code 10 = .ok (.goto 14, 3) := by decide +kernel
theorem d18_24 : decode jdk_65_method_120_code 24 = .ok (.astore_n 3, 1) := by decide +kernel
theorem d18_25 : decode jdk_65_method_120_code 25 = .ok (.aload_n 0, 1) := by decide +kernel
theorem d18_26 : decode jdk_65_method_120_code 26 = .ok (.iconst 0, 1) := by decide +kernel
theorem d18_27 : decode jdk_65_method_120_code 27 = .ok (.aload_n 3, 1) := by decide +kernel
theorem d18_28 : decode jdk_65_method_120_code 28 = .ok (.iconst 0, 1) := by decide +kernel
theorem d18_29 : decode jdk_65_method_120_code 29 = .ok (.aload_n 0, 1) := by decide +kernel
theorem d18_30 : decode jdk_65_method_120_code 30 = .ok (.arraylength, 1) := by decide +kernel
theorem d18_31 : decode jdk_65_method_120_code 31 = .ok (.iload_n 1, 1) := by decide +kernel
theorem d18_32 : decode jdk_65_method_120_code 32 = .ok (.invokestatic 304, 3) := by decide +kernel
theorem d18_35 : decode jdk_65_method_120_code 35 = .ok (.invokestatic 150, 3) := by decide +kernel
theorem d18_38 : decode jdk_65_method_120_code 38 = .ok (.aload_n 3, 1) := by decide +kernel
theorem d18_39 : decode jdk_65_method_120_code 39 = .ok (.areturn, 1) := by decide +kernel
def Q18c1 (Z : State) (a1 a2 : Addr) (k0 : ClassId) (el0 w3 : Addr) (h0 : Heap) (n0 : Nat) (v : Option Value) (h : Heap) (L : List Loc) : Prop := ∃ b5 : Addr, ∃ k5 : ClassId, v = some (.ref b5) ∧ Fr n0 L ∧ Keep h0 h [] ∧ h0.size ≤ b5 ∧ Exa Z h b5 "[Ljava/lang/Object;" ∧ Arv Z h b5 k5 (.object "java/lang/Object") (1 : Int32) [(.ref el0)] .null ∧ Ovr Z k5 "java/lang/Object"
theorem ef_18a__1___Int32__a (m : MethodId) (x0 : Addr) (x2 : Addr) : entryFrame m #[(.ref x0), (.int (1 : Int32)), (.ref x2)] 4 = mkF m 0 #[.val (.ref x0), .val (.int (1 : Int32)), .val (.ref x2), .unset] [] := by first | (simp [entryFrame, mkF, argsToLocals, Value.category]; done) | rfl
theorem pnc_java_util_Arrays : plainName "java/util/Arrays" = true := by first | (simp [plainName, overriddenIn]; done) | decide +kernel
set_option maxRecDepth 65536 in
set_option maxHeartbeats 40000000 in
theorem rm18c1 (l : Launch) (Z : State) (a0 : Array Value) (hw : ∀ d ∈ tables_1, d.before a0 Z = true) (ws : List Jvm.Cond) (a1 a2 : Addr) (k0 : ClassId) (el0 w3 : Addr) (h0 : Heap) (n0 : Nat) (O0 : Old Z n0 h0) (HV_a1 : Arv Z h0 a1 k0 (.object "java/lang/Object") (10 : Int32) [(.ref el0), .null, .null, .null, .null, .null, .null, .null, .null, .null] .null) (HI_el0 : Ins Z h0 el0 "java/lang/Object" true) (Mi__Ljava_lang_Object_ : own_Mir Z "[Ljava/lang/Object;" w3) (ha3 : a2 = w3) :
    MetFree l (⟨"java/util/Arrays", "copyOf", "([Ljava/lang/Object;ILjava/lang/Class;)[Ljava/lang/Object;"⟩ : MethodName) (head1 (Jvm.Cond.code (⟨"java/util/Arrays", "copyOf", "([Ljava/lang/Object;ILjava/lang/Class;)[Ljava/lang/Object;"⟩ : MethodName) jdk_65_method_120_code 4 (some (.array (.object "java/lang/Object"))) :: ws) ({ frames := 1, cells := 1, slots := 1, locals := 18 } : Room)) (fun a U => a = #[(.ref a1), (.int (1 : Int32)), (.ref a2)] ∧ Z.Warmed39 U.vm ∧ U.heap = h0) (fun _ _ _ _ _ => True) (fun _ U o U' => ∃ v L, o = .returned v ∧ Q18c1 Z a1 a2 k0 el0 w3 h0 n0 v U'.heap L ∧ FrameEnd U o U' L ({ frames := 1, cells := 1, slots := 1, locals := 18 } : Room).cells ({ frames := 1, cells := 1, slots := 1, locals := 18 } : Room).slots) := by
  refine MetFree.of_bodySF (plainFor_of_name pnc_java_util_Arrays) hisR ?_
  intro p e s m args below meth c s₁ Bd hml0 hP hK
  obtain ⟨rfl, hZ, hh⟩ := hP
  have hx := Bd.exec
  have hby := Bd.bytes
  have hml : c.maxLocals = 4 := hml0
  have hown : s.vm.findClass "java/util/Arrays" = some m.cls := findClass_of_methodNamed Bd.named
  have hnm := (name_of_methodNamed Bd.named Bd.method).1
  have X0 : Stand p l e ({ frames := 1, cells := 1, slots := 1, locals := 18 } : Room) s m #[(.ref a1), (.int (1 : Int32)), (.ref a2)] below meth c s₁ [] 0 0 := Stand.of_body Bd
  have e0 : s₁.heap = h0 := by rw [← hh, Bd.state]; rfl
  have N0 := Fr.nil n0
  have Z0 : n0 ≤ h0.size := O0.1 ▸ O0.2.1
  have pre0 : ∀ t, Steps p.tables e below (s₁.setTop (mkF m 0 #[.val (.ref a1), .val (.int (1 : Int32)), .val (.ref a2), .unset] [])) t → Steps p.tables e below (s₁.setTop (entryFrame m #[(.ref a1), (.int (1 : Int32)), (.ref a2)] 4)) t := fun t k => castTop (ef_18a__1___Int32__a m a1 a2) k
  obtain ⟨T4, X4, e4, st4⟩ := own_ldcM X0 hx hZ hown (hw _ (List.mem_of_getElem? (i := 136) rfl)) e0 Mi__Ljava_lang_Object_ (g := (mkF m 1 #[.val (.ref a1), .val (.int (1 : Int32)), .val (.ref a2), .unset] [(.ref a2)])) rfl (hb hby d18_1)
  obtain ⟨T5, h5, k5, X5, e5, E5, A5, B5, Ov5, st5⟩ := newRE X4 hx hZ hown (hw _ (List.mem_of_getElem? (i := 137) rfl)) (hw _ (List.mem_of_getElem? (i := 73) rfl)) e4 (g := (mkF m 7 #[.val (.ref a1), .val (.int (1 : Int32)), .val (.ref a2), .unset] [(.int (1 : Int32))])) rfl (hb hby d18_7) rfl (by decide) (cap := 1) (by decide) (by decide) (by decide) (by decide) (ad := "[Ljava/lang/Object;") (by decide)
  obtain ⟨b5, g5⟩ : ∃ z, z = h0.size := ⟨_, rfl⟩
  rw [← g5] at A5 B5 st5
  have g_b5 : n0 ≤ b5 := Nat.le_trans (Nat.le_trans Z0 (Keep.refl h0 []).1) (Nat.le_of_eq g5.symm)
  have sz_b5 : h0.size ≤ b5 := Nat.le_trans (Keep.refl h0 []).1 (Nat.le_of_eq g5.symm)
  have K6 : Keep h0 h5 [] := (Keep.refl h0 []).ext E5
  have O7 : Old Z n0 h5 := O0.ext E5
  have V5 : Arv Z h5 b5 k5 (.object "java/lang/Object") (1 : Int32) [.null] .null := (Arv.new A5 (by decide)).pad (pad_rep [] .null 1)
  replace X5 := X5.more (cells' := 1) (slots' := 1) (by decide) (by decide)
  have f8 := (HV_a1.ext E5)
  obtain ⟨cl9, Ar9, q9, S9, Nn9, Hh9, G9⟩ := id f8
  obtain ⟨vr10, _, ⟨T10, L10, k10, n10⟩, -, X10, ⟨Lc10, hQ10, l10, y10, z10⟩, st10⟩ := Jvm.LawKit.callS X5 hx (y := (⟨"java/lang/Math", "min", "(II)I"⟩ : MethodName)) hown (mvT hZ (hw _ (List.mem_of_getElem? (i := 138) rfl))) (mvT hZ (hw _ (List.mem_of_getElem? (i := 139) rfl))) (mvT hZ (hw _ (List.mem_of_getElem? (i := 70) rfl))) (mvT hZ (hw _ (List.mem_of_getElem? (i := 140) rfl))) (by decide) (backOf (W := 4) (rm19 l Z a0 hw [] ((10 : Int32)) ((1 : Int32)) h5 n0 O7 (by decide : (1 : Int32) < (10 : Int32))) hZ (hw _ (List.mem_of_getElem? (i := 140) rfl)) (hw _ (List.mem_of_getElem? (i := 70) rfl)) (by decide) (by decide)) (g := (mkF m 32 #[.val (.ref a1), .val (.int (1 : Int32)), .val (.ref a2), .val (.ref b5)] [(.int (1 : Int32)), (.int (10 : Int32)), (.int (0 : Int32)), (.ref b5), (.int (0 : Int32)), (.ref a1)])) rfl (by rw [hml]; rfl) (argsL := [(.int (10 : Int32)), (.int (1 : Int32))]) (rest := [(.int (0 : Int32)), (.ref b5), (.int (0 : Int32)), (.ref a1)]) (lenOf pd_7 rfl) rfl (by show 2 * 0 + _ ≤ _; exact Nat.le_of_eq rfl) (hb hby d18_32) (fun _ _ => ⟨rfl, e5, (by decide : 1 + 0 ≤ _), (by decide : 1 + 0 ≤ _)⟩)
  dsimp only [Pt.U, Pt.locs, Pt.cells, Pt.slots] at X10 l10 y10 z10 st10 hQ10
  subst l10 y10 z10
  obtain ⟨rfl, N10q, e10⟩ := hQ10
  have N10 := Fr.app N0 N10q
  replace X10 := X10.more (cells' := 1) (slots' := 1) (by decide) (by decide)
  obtain ⟨cl11, Ar11, q11, S11, Nn11, Hh11, G11⟩ := id V5
  have f12 := (HI_el0.ext E5)
  have sl11 : StoL Z h5 b5 [(.ref el0)] := ⟨Sto.ofV Ar11 q11 Ov5 f12, trivial⟩
  obtain ⟨T13, h13, L13, X13, e13, N13, Kc13, V13, st13⟩ := cpA X10 hx hZ hown (hw _ (List.mem_of_getElem? (i := 141) rfl)) (hw _ (List.mem_of_getElem? (i := 144) rfl)) (hw _ (List.mem_of_getElem? (i := 142) rfl)) (hw _ (List.mem_of_getElem? (i := 143) rfl)) e10 f8 V5 (us := [(.ref el0)]) (Or.inr ⟨rfl, rfl, sl11⟩) (sp := (0 : Int32)) (dp := (0 : Int32)) (nn := (1 : Int32)) (by decide) (by decide) (by decide) (by decide) (by decide) rfl (by decide) N10 g_b5 (g := (mkF m 35 #[.val (.ref a1), .val (.int (1 : Int32)), .val (.ref a2), .val (.ref b5)] [(.int (1 : Int32)), (.int (0 : Int32)), (.ref b5), (.int (0 : Int32)), (.ref a1)])) rfl (by rw [hml]; rfl) (rest := []) rfl (hb hby d18_35) (by decide) (W := 0) (by show 2 * 0 + _ ≤ _; exact Nat.le_of_eq rfl) (by decide)
  have K14 : Keep h0 h13 [] := K6.trans Kc13 (allS (Or.inr sz_b5) all0)
  have O15 : Old Z n0 h13 := O7.keep Kc13 (allS g_b5 all0)
  have Vc13 : Arv Z h13 b5 k5 (.object "java/lang/Object") (1 : Int32) [(.ref el0)] .null := V13
  have f16 := (B5.keep Kc13)
  have f17 := Ov5
  obtain ⟨fs, hr, hrun, hended, hW, hsame⟩ := X13.leave (v := some (.ref b5)) (fun h => by rw [Bd.returns] at h; cases h)
  refine ⟨_, _, pre0 _ ?_, hrun, hended, _, _, rfl, ?_, ⟨_, rfl⟩, hW, hsame.mono (by decide) (by decide)⟩
  · show Steps p.tables e below (s₁.setTop (mkF m 0 #[.val (.ref a1), .val (.int (1 : Int32)), .val (.ref a2), .unset] [])) _
    refine XS.aloadN X0.here hx rfl (hb hby d18_0) rfl rfl ?_
    show Steps p.tables e below (s₁.setTop (mkF m 1 #[.val (.ref a1), .val (.int (1 : Int32)), .val (.ref a2), .unset] [(.ref a2)])) _
    refine st4 _ ?_
    show Steps p.tables e below (T4.setTop (mkF m 3 #[.val (.ref a1), .val (.int (1 : Int32)), .val (.ref a2), .unset] [(.ref w3), (.ref a2)])) _
    refine Jvm.RoadKit.acmp (g := (mkF m 3 #[.val (.ref a1), .val (.int (1 : Int32)), .val (.ref a2), .unset] [(.ref w3), (.ref a2)])) X4 hx rfl rfl rfl (pc0 := 3) (pc' := 6) (same := true) rfl (hb hby d18_3) rfl (decide_eq_true (congrArg Value.ref ha3)) (by decide) (by decide) ?_
    show Steps p.tables e below (T4.setTop (mkF m 6 #[.val (.ref a1), .val (.int (1 : Int32)), .val (.ref a2), .unset] [])) _
    refine XS.iloadN X4.here hx rfl (hb hby d18_6) rfl ?_
    show Steps p.tables e below (T4.setTop (mkF m 7 #[.val (.ref a1), .val (.int (1 : Int32)), .val (.ref a2), .unset] [(.int (1 : Int32))])) _
    refine st5 _ ?_
    show Steps p.tables e below (T5.setTop (mkF m 10 #[.val (.ref a1), .val (.int (1 : Int32)), .val (.ref a2), .unset] [(.ref b5)])) _
    refine XS.goto X5.here hx rfl (pc0 := 10) (pc' := 24) rfl (hb hby d18_10) (by decide) (by decide) ?_
    show Steps p.tables e below (T5.setTop (mkF m 24 #[.val (.ref a1), .val (.int (1 : Int32)), .val (.ref a2), .unset] [(.ref b5)])) _
    refine XS.astoreN X5.here hx rfl (hb hby d18_24) rfl rfl (l' := #[.val (.ref a1), .val (.int (1 : Int32)), .val (.ref a2), .val (.ref b5)]) rfl ?_
    show Steps p.tables e below (T5.setTop (mkF m 25 #[.val (.ref a1), .val (.int (1 : Int32)), .val (.ref a2), .val (.ref b5)] [])) _
    refine XS.aloadN X5.here hx rfl (hb hby d18_25) rfl rfl ?_
    show Steps p.tables e below (T5.setTop (mkF m 26 #[.val (.ref a1), .val (.int (1 : Int32)), .val (.ref a2), .val (.ref b5)] [(.ref a1)])) _
    refine XS.iconst X5.here hx rfl (hb hby d18_26) ?_
    show Steps p.tables e below (T5.setTop (mkF m 27 #[.val (.ref a1), .val (.int (1 : Int32)), .val (.ref a2), .val (.ref b5)] [(.int (0 : Int32)), (.ref a1)])) _
    refine XS.aloadN X5.here hx rfl (hb hby d18_27) rfl rfl ?_
    show Steps p.tables e below (T5.setTop (mkF m 28 #[.val (.ref a1), .val (.int (1 : Int32)), .val (.ref a2), .val (.ref b5)] [(.ref b5), (.int (0 : Int32)), (.ref a1)])) _
    refine XS.iconst X5.here hx rfl (hb hby d18_28) ?_
    show Steps p.tables e below (T5.setTop (mkF m 29 #[.val (.ref a1), .val (.int (1 : Int32)), .val (.ref a2), .val (.ref b5)] [(.int (0 : Int32)), (.ref b5), (.int (0 : Int32)), (.ref a1)])) _
    refine XS.aloadN X5.here hx rfl (hb hby d18_29) rfl rfl ?_
    show Steps p.tables e below (T5.setTop (mkF m 30 #[.val (.ref a1), .val (.int (1 : Int32)), .val (.ref a2), .val (.ref b5)] [(.ref a1), (.int (0 : Int32)), (.ref b5), (.int (0 : Int32)), (.ref a1)])) _
    refine X5.arraylength hx (by rw [e5]; exact Ar9.1) (State.isArrayOf_alike hZ.alike Ar9.2.1) (g := (mkF m 30 #[.val (.ref a1), .val (.int (1 : Int32)), .val (.ref a2), .val (.ref b5)] [(.ref a1), (.int (0 : Int32)), (.ref b5), (.int (0 : Int32)), (.ref a1)])) rfl rfl (hb hby d18_30) _ ?_
    rw [len_of S9 Nn9]
    show Steps p.tables e below (T5.setTop (mkF m 31 #[.val (.ref a1), .val (.int (1 : Int32)), .val (.ref a2), .val (.ref b5)] [(.int (10 : Int32)), (.int (0 : Int32)), (.ref b5), (.int (0 : Int32)), (.ref a1)])) _
    refine XS.iloadN X5.here hx rfl (hb hby d18_31) rfl ?_
    show Steps p.tables e below (T5.setTop (mkF m 32 #[.val (.ref a1), .val (.int (1 : Int32)), .val (.ref a2), .val (.ref b5)] [(.int (1 : Int32)), (.int (10 : Int32)), (.int (0 : Int32)), (.ref b5), (.int (0 : Int32)), (.ref a1)])) _
    refine st10 _ ?_
    show Steps p.tables e below (T10.setTop (mkF m 35 #[.val (.ref a1), .val (.int (1 : Int32)), .val (.ref a2), .val (.ref b5)] [(.int (1 : Int32)), (.int (0 : Int32)), (.ref b5), (.int (0 : Int32)), (.ref a1)])) _
    refine st13 _ ?_
    show Steps p.tables e below (T13.setTop (mkF m 38 #[.val (.ref a1), .val (.int (1 : Int32)), .val (.ref a2), .val (.ref b5)] [])) _
    refine XS.aloadN X13.here hx rfl (hb hby d18_38) rfl rfl ?_
    show Steps p.tables e below (T13.setTop (mkF m 39 #[.val (.ref a1), .val (.int (1 : Int32)), .val (.ref a2), .val (.ref b5)] [(.ref b5)])) _
    exact own_retR X13 hx Bd.returns rfl rfl (hb hby d18_39) hr
  · show Q18c1 Z a1 a2 k0 el0 w3 h0 n0 _ T13.heap _
    rw [e13]
    exact ⟨b5, k5, rfl, N13, K14, sz_b5, f16, Vc13, f17⟩
theorem d17_0 : decode jdk_65_method_119_code 0 = .ok (.aload_n 0, 1) := by decide +kernel
theorem d17_1 : decode jdk_65_method_119_code 1 = .ok (.iload_n 1, 1) := by decide +kernel
theorem d17_2 : decode jdk_65_method_119_code 2 = .ok (.aload_n 0, 1) := by decide +kernel
theorem d17_3 : decode jdk_65_method_119_code 3 = .ok (.invokevirtual 86, 3) := by decide +kernel
theorem d17_6 : decode jdk_65_method_119_code 6 = .ok (.invokestatic 300, 3) := by decide +kernel
theorem pd_19 : parseMethodDescriptor "([Ljava/lang/Object;ILjava/lang/Class;)[Ljava/lang/Object;" = some ⟨[(.array (.object "java/lang/Object")), .int, (.object "java/lang/Class")], some (.array (.object "java/lang/Object"))⟩ := by decide +kernel
theorem d17_9 : decode jdk_65_method_119_code 9 = .ok (.areturn, 1) := by decide +kernel
def Q17c1 (Z : State) (a1 : Addr) (k0 : ClassId) (el0 w2 : Addr) (h0 : Heap) (n0 : Nat) (v : Option Value) (h : Heap) (L : List Loc) : Prop := ∃ b5 : Addr, ∃ k6 : ClassId, v = some (.ref b5) ∧ Fr n0 L ∧ Keep h0 h [] ∧ h0.size ≤ b5 ∧ Exa Z h b5 "[Ljava/lang/Object;" ∧ Arv Z h b5 k6 (.object "java/lang/Object") (1 : Int32) [(.ref el0)] .null ∧ Ovr Z k6 "java/lang/Object"
theorem ef_17a__1___Int32__ (m : MethodId) (x0 : Addr) : entryFrame m #[(.ref x0), (.int (1 : Int32))] 2 = mkF m 0 #[.val (.ref x0), .val (.int (1 : Int32))] [] := by first | (simp [entryFrame, mkF, argsToLocals, Value.category]; done) | rfl
set_option maxRecDepth 65536 in
set_option maxHeartbeats 40000000 in
theorem rm17c1 (l : Launch) (Z : State) (a0 : Array Value) (hw : ∀ d ∈ tables_1, d.before a0 Z = true) (ws : List Jvm.Cond) (a1 : Addr) (k0 : ClassId) (el0 w2 : Addr) (h0 : Heap) (n0 : Nat) (O0 : Old Z n0 h0) (HE_a1 : Exa Z h0 a1 "[Ljava/lang/Object;") (HV_a1 : Arv Z h0 a1 k0 (.object "java/lang/Object") (10 : Int32) [(.ref el0), .null, .null, .null, .null, .null, .null, .null, .null, .null] .null) (HI_el0 : Ins Z h0 el0 "java/lang/Object" true) (Mi__Ljava_lang_Object_ : own_Mir Z "[Ljava/lang/Object;" w2) :
    MetFree l (⟨"java/util/Arrays", "copyOf", "([Ljava/lang/Object;I)[Ljava/lang/Object;"⟩ : MethodName) (head1 (Jvm.Cond.code (⟨"java/util/Arrays", "copyOf", "([Ljava/lang/Object;I)[Ljava/lang/Object;"⟩ : MethodName) jdk_65_method_119_code 2 (some (.array (.object "java/lang/Object"))) :: ws) ({ frames := 2, cells := 1, slots := 1, locals := 33 } : Room)) (fun a U => a = #[(.ref a1), (.int (1 : Int32))] ∧ Z.Warmed39 U.vm ∧ U.heap = h0) (fun _ _ _ _ _ => True) (fun _ U o U' => ∃ v L, o = .returned v ∧ Q17c1 Z a1 k0 el0 w2 h0 n0 v U'.heap L ∧ FrameEnd U o U' L ({ frames := 2, cells := 1, slots := 1, locals := 33 } : Room).cells ({ frames := 2, cells := 1, slots := 1, locals := 33 } : Room).slots) := by
  refine MetFree.of_bodySF (plainFor_of_name pnc_java_util_Arrays) hisR ?_
  intro p e s m args below meth c s₁ Bd hml0 hP hK
  obtain ⟨rfl, hZ, hh⟩ := hP
  have hx := Bd.exec
  have hby := Bd.bytes
  have hml : c.maxLocals = 2 := hml0
  have hown : s.vm.findClass "java/util/Arrays" = some m.cls := findClass_of_methodNamed Bd.named
  have hnm := (name_of_methodNamed Bd.named Bd.method).1
  have X0 : Stand p l e ({ frames := 2, cells := 1, slots := 1, locals := 33 } : Room) s m #[(.ref a1), (.int (1 : Int32))] below meth c s₁ [] 0 0 := Stand.of_body Bd
  have e0 : s₁.heap = h0 := by rw [← hh, Bd.state]; rfl
  have N0 := Fr.nil n0
  have Z0 : n0 ≤ h0.size := O0.1 ▸ O0.2.1
  have pre0 : ∀ t, Steps p.tables e below (s₁.setTop (mkF m 0 #[.val (.ref a1), .val (.int (1 : Int32))] [])) t → Steps p.tables e below (s₁.setTop (entryFrame m #[(.ref a1), (.int (1 : Int32))] 2)) t := fun t k => castTop (ef_17a__1___Int32__ m a1) k
  obtain ⟨T3, X3, e3, st3⟩ := own_gcls X0 hx hZ hown (hw _ (List.mem_of_getElem? (i := 127) rfl)) (hw _ (List.mem_of_getElem? (i := 128) rfl)) (hw _ (List.mem_of_getElem? (i := 104) rfl)) (hw _ (List.mem_of_getElem? (i := 130) rfl)) (hw _ (List.mem_of_getElem? (i := 129) rfl)) (hw _ (List.mem_of_getElem? (i := 131) rfl)) e0 HE_a1 Mi__Ljava_lang_Object_ (g := (mkF m 3 #[.val (.ref a1), .val (.int (1 : Int32))] [(.ref a1), (.int (1 : Int32)), (.ref a1)])) rfl (by rw [hml]; rfl) rfl (hb hby d17_3) (by decide) (W := 2) (by show 2 * 0 + _ ≤ _; exact Nat.le_of_eq rfl) (by decide)
  obtain ⟨vr4, _, ⟨T4, L4, k4, n4⟩, -, X4, ⟨Lc4, hQ4, l4, y4, z4⟩, st4⟩ := Jvm.LawKit.callS X3 hx (y := (⟨"java/util/Arrays", "copyOf", "([Ljava/lang/Object;ILjava/lang/Class;)[Ljava/lang/Object;"⟩ : MethodName)) hown (mvT hZ (hw _ (List.mem_of_getElem? (i := 133) rfl))) (mvT hZ (hw _ (List.mem_of_getElem? (i := 134) rfl))) (mvT hZ (hw _ (List.mem_of_getElem? (i := 125) rfl))) (mvT hZ (hw _ (List.mem_of_getElem? (i := 135) rfl))) (by decide) (backOf (W := 0) (rm18c1 l Z a0 hw [] a1 w2 k0 el0 w2 h0 n0 O0 HV_a1 HI_el0 Mi__Ljava_lang_Object_ (rfl : w2 = w2)) hZ (hw _ (List.mem_of_getElem? (i := 135) rfl)) (hw _ (List.mem_of_getElem? (i := 125) rfl)) (by decide) (by decide)) (g := (mkF m 6 #[.val (.ref a1), .val (.int (1 : Int32))] [(.ref w2), (.int (1 : Int32)), (.ref a1)])) rfl (by rw [hml]; rfl) (argsL := [(.ref a1), (.int (1 : Int32)), (.ref w2)]) (rest := []) (lenOf pd_19 rfl) rfl (by show 2 * 0 + _ ≤ _; exact Nat.le_of_eq rfl) (hb hby d17_6) (fun _ _ => ⟨rfl, e3, (by decide : 0 + 1 ≤ _), (by decide : 0 + 1 ≤ _)⟩)
  dsimp only [Pt.U, Pt.locs, Pt.cells, Pt.slots] at X4 l4 y4 z4 st4 hQ4
  subst l4 y4 z4
  obtain ⟨b5, k6, rfl, N4q, K4, Y4_z0, Y4_0, Y4_1, Y4_2⟩ := hQ4
  have N4 := Fr.app N0 N4q
  replace X4 := X4.more (cells' := 1) (slots' := 1) (by decide) (by decide)
  have g_b5 : n0 ≤ b5 := Nat.le_trans (Nat.le_trans Z0 (Keep.refl h0 []).1) Y4_z0
  have sz_b5 : h0.size ≤ b5 := Nat.le_trans (Keep.refl h0 []).1 Y4_z0
  have K7 : Keep h0 T4.heap [] := (Keep.refl h0 []).trans K4 all0
  have O8 : Old Z n0 T4.heap := O0.keep K4 all0
  obtain ⟨fs, hr, hrun, hended, hW, hsame⟩ := X4.leave (v := some (.ref b5)) (fun h => by rw [Bd.returns] at h; cases h)
  refine ⟨_, _, pre0 _ ?_, hrun, hended, _, _, rfl, ?_, ⟨_, rfl⟩, hW, hsame.mono (by decide) (by decide)⟩
  · show Steps p.tables e below (s₁.setTop (mkF m 0 #[.val (.ref a1), .val (.int (1 : Int32))] [])) _
    refine XS.aloadN X0.here hx rfl (hb hby d17_0) rfl rfl ?_
    show Steps p.tables e below (s₁.setTop (mkF m 1 #[.val (.ref a1), .val (.int (1 : Int32))] [(.ref a1)])) _
    refine XS.iloadN X0.here hx rfl (hb hby d17_1) rfl ?_
    show Steps p.tables e below (s₁.setTop (mkF m 2 #[.val (.ref a1), .val (.int (1 : Int32))] [(.int (1 : Int32)), (.ref a1)])) _
    refine XS.aloadN X0.here hx rfl (hb hby d17_2) rfl rfl ?_
    show Steps p.tables e below (s₁.setTop (mkF m 3 #[.val (.ref a1), .val (.int (1 : Int32))] [(.ref a1), (.int (1 : Int32)), (.ref a1)])) _
    refine st3 _ ?_
    show Steps p.tables e below (T3.setTop (mkF m 6 #[.val (.ref a1), .val (.int (1 : Int32))] [(.ref w2), (.int (1 : Int32)), (.ref a1)])) _
    refine st4 _ ?_
    show Steps p.tables e below (T4.setTop (mkF m 9 #[.val (.ref a1), .val (.int (1 : Int32))] [(.ref b5)])) _
    exact own_retR X4 hx Bd.returns rfl rfl (hb hby d17_9) hr
  · show Q17c1 Z a1 k0 el0 w2 h0 n0 _ T4.heap _
    exact ⟨b5, k6, rfl, N4, K7, sz_b5, Y4_0, Y4_1, Y4_2⟩
theorem d16_0 : decode jdk_38_method_16_code 0 = .ok (.aload_n 0, 1) := by decide +kernel
theorem d16_1 : decode jdk_38_method_16_code 1 = .ok (.getfield 9, 3) := by decide +kernel
theorem d16_4 : decode jdk_38_method_16_code 4 = .ok (.aload_n 0, 1) := by decide +kernel
theorem d16_5 : decode jdk_38_method_16_code 5 = .ok (.getfield 48, 3) := by decide +kernel
theorem d16_8 : decode jdk_38_method_16_code 8 = .ok (.invokestatic 66, 3) := by decide +kernel
theorem pd_18 : parseMethodDescriptor "([Ljava/lang/Object;I)[Ljava/lang/Object;" = some ⟨[(.array (.object "java/lang/Object")), .int], some (.array (.object "java/lang/Object"))⟩ := by decide +kernel
theorem d16_11 : decode jdk_38_method_16_code 11 = .ok (.areturn, 1) := by decide +kernel
def Q16c1 (Z : State) (a1 : Addr) (k0 : ClassId) (el0 w0 w4 : Addr) (h0 : Heap) (n0 : Nat) (v : Option Value) (h : Heap) (L : List Loc) : Prop := ∃ b6 : Addr, ∃ k7 : ClassId, v = some (.ref b6) ∧ Fr n0 L ∧ Keep h0 h [] ∧ h0.size ≤ b6 ∧ Exa Z h b6 "[Ljava/lang/Object;" ∧ Arv Z h b6 k7 (.object "java/lang/Object") (1 : Int32) [(.ref el0)] .null ∧ Ovr Z k7 "java/lang/Object"
theorem ef_16 (m : MethodId) (x0 : Addr) : entryFrame m #[(.ref x0)] 1 = mkF m 0 #[.val (.ref x0)] [] := by first | (simp [entryFrame, mkF, argsToLocals, Value.category]; done) | rfl
set_option maxRecDepth 65536 in
set_option maxHeartbeats 40000000 in
theorem rm16c1 (l : Launch) (Z : State) (a0 : Array Value) (hw : ∀ d ∈ tables_1, d.before a0 Z = true) (ws : List Jvm.Cond) (a1 : Addr) (k0 : ClassId) (el0 w0 w4 : Addr) (h0 : Heap) (n0 : Nat) (O0 : Old Z n0 h0) (HF_a1_elementData : Fld Z h0 a1 "java/util/ArrayList" "elementData" "[Ljava/lang/Object;" (.ref w0)) (HF_a1_size : Fld Z h0 a1 "java/util/ArrayList" "size" "I" (.int (1 : Int32))) (HE_w0 : Exa Z h0 w0 "[Ljava/lang/Object;") (HV_w0 : Arv Z h0 w0 k0 (.object "java/lang/Object") (10 : Int32) [(.ref el0), .null, .null, .null, .null, .null, .null, .null, .null, .null] .null) (HI_el0 : Ins Z h0 el0 "java/lang/Object" true) (Mi__Ljava_lang_Object_ : own_Mir Z "[Ljava/lang/Object;" w4) :
    MetFree l (⟨"java/util/ArrayList", "toArray", "()[Ljava/lang/Object;"⟩ : MethodName) (head1 (Jvm.Cond.code (⟨"java/util/ArrayList", "toArray", "()[Ljava/lang/Object;"⟩ : MethodName) jdk_38_method_16_code 1 (some (.array (.object "java/lang/Object"))) :: ws) ({ frames := 3, cells := 1, slots := 1, locals := 46 } : Room)) (fun a U => a = #[(.ref a1)] ∧ Z.Warmed39 U.vm ∧ U.heap = h0) (fun _ _ _ _ _ => True) (fun _ U o U' => ∃ v L, o = .returned v ∧ Q16c1 Z a1 k0 el0 w0 w4 h0 n0 v U'.heap L ∧ FrameEnd U o U' L ({ frames := 3, cells := 1, slots := 1, locals := 46 } : Room).cells ({ frames := 3, cells := 1, slots := 1, locals := 46 } : Room).slots) := by
  refine MetFree.of_bodySF (plainFor_of_name pnc_java_util_ArrayList) hisR ?_
  intro p e s m args below meth c s₁ Bd hml0 hP hK
  obtain ⟨rfl, hZ, hh⟩ := hP
  have hx := Bd.exec
  have hby := Bd.bytes
  have hml : c.maxLocals = 1 := hml0
  have hown : s.vm.findClass "java/util/ArrayList" = some m.cls := findClass_of_methodNamed Bd.named
  have hnm := (name_of_methodNamed Bd.named Bd.method).1
  have X0 : Stand p l e ({ frames := 3, cells := 1, slots := 1, locals := 46 } : Room) s m #[(.ref a1)] below meth c s₁ [] 0 0 := Stand.of_body Bd
  have e0 : s₁.heap = h0 := by rw [← hh, Bd.state]; rfl
  have N0 := Fr.nil n0
  have Z0 : n0 ≤ h0.size := O0.1 ▸ O0.2.1
  have pre0 : ∀ t, Steps p.tables e below (s₁.setTop (mkF m 0 #[.val (.ref a1)] [])) t → Steps p.tables e below (s₁.setTop (entryFrame m #[(.ref a1)] 1)) t := fun t k => castTop (ef_16 m a1) k
  obtain ⟨T2, X2, e2, st2⟩ := getF X0 hx hZ hown (host := "") (Or.inl (hw _ (List.mem_of_getElem? (i := 42) rfl))) Via.refl e0 HF_a1_elementData (g := (mkF m 1 #[.val (.ref a1)] [(.ref a1)])) rfl rfl (hb hby d16_1)
  obtain ⟨T3, X3, e3, st3⟩ := getF X2 hx hZ hown (host := "") (Or.inl (hw _ (List.mem_of_getElem? (i := 51) rfl))) Via.refl e2 HF_a1_size (g := (mkF m 5 #[.val (.ref a1)] [(.ref a1), (.ref w0)])) rfl rfl (hb hby d16_5)
  obtain ⟨vr5, _, ⟨T5, L5, k5, n5⟩, -, X5, ⟨Lc5, hQ5, l5, y5, z5⟩, st5⟩ := Jvm.LawKit.callS X3 hx (y := (⟨"java/util/Arrays", "copyOf", "([Ljava/lang/Object;I)[Ljava/lang/Object;"⟩ : MethodName)) hown (mvT hZ (hw _ (List.mem_of_getElem? (i := 123) rfl))) (mvT hZ (hw _ (List.mem_of_getElem? (i := 124) rfl))) (mvT hZ (hw _ (List.mem_of_getElem? (i := 125) rfl))) (mvT hZ (hw _ (List.mem_of_getElem? (i := 126) rfl))) (by decide) (backOf (W := 0) (rm17c1 l Z a0 hw [] w0 k0 el0 w4 h0 n0 O0 HE_w0 HV_w0 HI_el0 Mi__Ljava_lang_Object_) hZ (hw _ (List.mem_of_getElem? (i := 126) rfl)) (hw _ (List.mem_of_getElem? (i := 125) rfl)) (by decide) (by decide)) (g := (mkF m 8 #[.val (.ref a1)] [(.int (1 : Int32)), (.ref w0)])) rfl (by rw [hml]; rfl) (argsL := [(.ref w0), (.int (1 : Int32))]) (rest := []) (lenOf pd_18 rfl) rfl (by show 2 * 0 + _ ≤ _; exact Nat.le_of_eq rfl) (hb hby d16_8) (fun _ _ => ⟨rfl, e3, (by decide : 0 + 1 ≤ _), (by decide : 0 + 1 ≤ _)⟩)
  dsimp only [Pt.U, Pt.locs, Pt.cells, Pt.slots] at X5 l5 y5 z5 st5 hQ5
  subst l5 y5 z5
  obtain ⟨b6, k7, rfl, N5q, K5, Y5_z0, Y5_0, Y5_1, Y5_2⟩ := hQ5
  have N5 := Fr.app N0 N5q
  replace X5 := X5.more (cells' := 1) (slots' := 1) (by decide) (by decide)
  have g_b6 : n0 ≤ b6 := Nat.le_trans (Nat.le_trans Z0 (Keep.refl h0 []).1) Y5_z0
  have sz_b6 : h0.size ≤ b6 := Nat.le_trans (Keep.refl h0 []).1 Y5_z0
  have K8 : Keep h0 T5.heap [] := (Keep.refl h0 []).trans K5 all0
  have O9 : Old Z n0 T5.heap := O0.keep K5 all0
  obtain ⟨fs, hr, hrun, hended, hW, hsame⟩ := X5.leave (v := some (.ref b6)) (fun h => by rw [Bd.returns] at h; cases h)
  refine ⟨_, _, pre0 _ ?_, hrun, hended, _, _, rfl, ?_, ⟨_, rfl⟩, hW, hsame.mono (by decide) (by decide)⟩
  · show Steps p.tables e below (s₁.setTop (mkF m 0 #[.val (.ref a1)] [])) _
    refine XS.aloadN X0.here hx rfl (hb hby d16_0) rfl rfl ?_
    show Steps p.tables e below (s₁.setTop (mkF m 1 #[.val (.ref a1)] [(.ref a1)])) _
    refine st2 _ ?_
    show Steps p.tables e below (T2.setTop (mkF m 4 #[.val (.ref a1)] [(.ref w0)])) _
    refine XS.aloadN X2.here hx rfl (hb hby d16_4) rfl rfl ?_
    show Steps p.tables e below (T2.setTop (mkF m 5 #[.val (.ref a1)] [(.ref a1), (.ref w0)])) _
    refine st3 _ ?_
    show Steps p.tables e below (T3.setTop (mkF m 8 #[.val (.ref a1)] [(.int (1 : Int32)), (.ref w0)])) _
    refine st5 _ ?_
    show Steps p.tables e below (T5.setTop (mkF m 11 #[.val (.ref a1)] [(.ref b6)])) _
    exact own_retR X5 hx Bd.returns rfl rfl (hb hby d16_11) hr
  · show Q16c1 Z a1 k0 el0 w0 w4 h0 n0 _ T5.heap _
    exact ⟨b6, k7, rfl, N5, K8, sz_b6, Y5_0, Y5_1, Y5_2⟩
theorem d21_0 : decode jdk_44_method_1_code 0 = .ok (.aload_n 0, 1) := by decide +kernel
theorem d21_1 : decode jdk_44_method_1_code 1 = .ok (.invokespecial 1, 3) := by decide +kernel
theorem d21_4 : decode jdk_44_method_1_code 4 = .ok (.aload_n 0, 1) := by decide +kernel
theorem d21_5 : decode jdk_44_method_1_code 5 = .ok (.aload_n 1, 1) := by decide +kernel
theorem d21_6 : decode jdk_44_method_1_code 6 = .ok (.invokestatic 7, 3) := by decide +kernel
theorem pd_8 : parseMethodDescriptor "(Ljava/lang/Object;)Ljava/lang/Object;" = some ⟨[(.object "java/lang/Object")], some (.object "java/lang/Object")⟩ := by decide +kernel
theorem d21_9 : decode jdk_44_method_1_code 9 = .ok (.putfield 13, 3) := by decide +kernel
theorem d21_12 : decode jdk_44_method_1_code 12 = .ok (.aload_n 0, 1) := by decide +kernel
theorem d21_13 : decode jdk_44_method_1_code 13 = .ok (.getstatic 19, 3) := by decide +kernel
theorem d21_16 : decode jdk_44_method_1_code 16 = .ok (.putfield 24, 3) := by decide +kernel
theorem d21_19 : decode jdk_44_method_1_code 19 = .ok (.return_, 1) := by decide +kernel
def Q21c1 (Z : State) (a1 a2 : Addr) (u5 : Value) (w9 : Addr) (u12 : Value) (h0 : Heap) (n0 : Nat) (v : Option Value) (h : Heap) (L : List Loc) : Prop := v = none ∧ Fr n0 L ∧ Keep h0 h [a1] ∧ Exa Z h a1 "java/util/ImmutableCollections$List12" ∧ Fld Z h a1 "java/util/ImmutableCollections$List12" "e0" "Ljava/lang/Object;" (.ref a2) ∧ Fld Z h a1 "java/util/ImmutableCollections$List12" "e1" "Ljava/lang/Object;" (.ref w9)
theorem ef_21 (m : MethodId) (x0 : Addr) (x1 : Addr) : entryFrame m #[(.ref x0), (.ref x1)] 2 = mkF m 0 #[.val (.ref x0), .val (.ref x1)] [] := by first | (simp [entryFrame, mkF, argsToLocals, Value.category]; done) | rfl
theorem pnc_java_util_ImmutableCollections_List12 : plainName "java/util/ImmutableCollections$List12" = true := by first | (simp [plainName, overriddenIn]; done) | decide +kernel
set_option maxRecDepth 65536 in
set_option maxHeartbeats 40000000 in
theorem rm21c1 (l : Launch) (Z : State) (a0 : Array Value) (hw : ∀ d ∈ tables_1, d.before a0 Z = true) (ws : List Jvm.Cond) (a1 a2 : Addr) (u5 : Value) (w9 : Addr) (u12 : Value) (h0 : Heap) (n0 : Nat) (O0 : Old Z n0 h0) (HE_a1 : Exa Z h0 a1 "java/util/ImmutableCollections$List12") (HF_a1_e0 : Fld Z h0 a1 "java/util/ImmutableCollections$List12" "e0" "Ljava/lang/Object;" u5) (g_a1 : n0 ≤ a1) (S_EMPTY : Sta Z Z.heap "java/util/ImmutableCollections" "EMPTY" "Ljava/lang/Object;" (.ref w9)) (HF_a1_e1 : Fld Z h0 a1 "java/util/ImmutableCollections$List12" "e1" "Ljava/lang/Object;" u12) :
    MetFree l (⟨"java/util/ImmutableCollections$List12", "<init>", "(Ljava/lang/Object;)V"⟩ : MethodName) (head1 (Jvm.Cond.code (⟨"java/util/ImmutableCollections$List12", "<init>", "(Ljava/lang/Object;)V"⟩ : MethodName) jdk_44_method_1_code 2 none :: ws) ({ frames := 4, cells := 0, slots := 0, locals := 48 } : Room)) (fun a U => a = #[(.ref a1), (.ref a2)] ∧ Z.Warmed39 U.vm ∧ U.heap = h0) (fun _ _ _ _ _ => True) (fun _ U o U' => ∃ v L, o = .returned v ∧ Q21c1 Z a1 a2 u5 w9 u12 h0 n0 v U'.heap L ∧ FrameEnd U o U' L ({ frames := 4, cells := 0, slots := 0, locals := 48 } : Room).cells ({ frames := 4, cells := 0, slots := 0, locals := 48 } : Room).slots) := by
  refine MetFree.of_bodySF (plainFor_of_name pnc_java_util_ImmutableCollections_List12) hisR ?_
  intro p e s m args below meth c s₁ Bd hml0 hP hK
  obtain ⟨rfl, hZ, hh⟩ := hP
  have hx := Bd.exec
  have hby := Bd.bytes
  have hml : c.maxLocals = 2 := hml0
  have hown : s.vm.findClass "java/util/ImmutableCollections$List12" = some m.cls := findClass_of_methodNamed Bd.named
  have hnm := (name_of_methodNamed Bd.named Bd.method).1
  have X0 : Stand p l e ({ frames := 4, cells := 0, slots := 0, locals := 48 } : Room) s m #[(.ref a1), (.ref a2)] below meth c s₁ [] 0 0 := Stand.of_body Bd
  have e0 : s₁.heap = h0 := by rw [← hh, Bd.state]; rfl
  have N0 := Fr.nil n0
  have Z0 : n0 ≤ h0.size := O0.1 ▸ O0.2.1
  have pre0 : ∀ t, Steps p.tables e below (s₁.setTop (mkF m 0 #[.val (.ref a1), .val (.ref a2)] [])) t → Steps p.tables e below (s₁.setTop (entryFrame m #[(.ref a1), (.ref a2)] 2)) t := fun t k => castTop (ef_21 m a1 a2) k
  obtain ⟨vr3, _, ⟨T3, L3, k3, n3⟩, -, X3, ⟨Lc3, hQ3, l3, y3, z3⟩, st3⟩ := X0.specialBack hx (y := (⟨"java/util/ImmutableCollections$AbstractImmutableList", "<init>", "()V"⟩ : MethodName)) rfl hown (mvT hZ (hw _ (List.mem_of_getElem? (i := 155) rfl))) (mvT hZ (hw _ (List.mem_of_getElem? (i := 156) rfl))) (mvT hZ (hw _ (List.mem_of_getElem? (i := 160) rfl))) (by decide) (backOf (W := 0) (rm22 l Z a0 hw [] a1 h0 n0 O0) hZ (hw _ (List.mem_of_getElem? (i := 160) rfl)) (hw _ (List.mem_of_getElem? (i := 159) rfl)) (by decide) (by decide)) (g := (mkF m 1 #[.val (.ref a1), .val (.ref a2)] [(.ref a1)])) rfl (by rw [hml]; rfl) (Steps.refl _) (a := a1) (argsL := []) (rest := []) (lenOf pd_2 rfl) rfl (by show 2 * 0 + _ ≤ _; exact Nat.le_of_eq rfl) (hb hby d21_1) (fun _ _ => ⟨rfl, e0, (by decide : 0 + 0 ≤ _), (by decide : 0 + 0 ≤ _)⟩)
  dsimp only [Pt.U, Pt.locs, Pt.cells, Pt.slots] at X3 l3 y3 z3 st3 hQ3
  subst l3 y3 z3
  obtain ⟨rfl, N3q, e3⟩ := hQ3
  have N3 := Fr.app N0 N3q
  replace X3 := X3.more (cells' := 0) (slots' := 0) (by decide) (by decide)
  obtain ⟨vr4, _, ⟨T4, L4, k4, n4⟩, -, X4, ⟨Lc4, hQ4, l4, y4, z4⟩, st4⟩ := Jvm.LawKit.callS X3 hx (y := (⟨"java/util/Objects", "requireNonNull", "(Ljava/lang/Object;)Ljava/lang/Object;"⟩ : MethodName)) hown (mvT hZ (hw _ (List.mem_of_getElem? (i := 169) rfl))) (mvT hZ (hw _ (List.mem_of_getElem? (i := 170) rfl))) (mvT hZ (hw _ (List.mem_of_getElem? (i := 171) rfl))) (mvT hZ (hw _ (List.mem_of_getElem? (i := 172) rfl))) (by decide) (backOf (W := 1) (rm24 l Z a0 hw [] a2 h0 n0 O0) hZ (hw _ (List.mem_of_getElem? (i := 172) rfl)) (hw _ (List.mem_of_getElem? (i := 171) rfl)) (by decide) (by decide)) (g := (mkF m 6 #[.val (.ref a1), .val (.ref a2)] [(.ref a2), (.ref a1)])) rfl (by rw [hml]; rfl) (argsL := [(.ref a2)]) (rest := [(.ref a1)]) (lenOf pd_8 rfl) rfl (by show 2 * 0 + _ ≤ _; exact Nat.le_of_eq rfl) (hb hby d21_6) (fun _ _ => ⟨rfl, e3, (by decide : 0 + 0 ≤ _), (by decide : 0 + 0 ≤ _)⟩)
  dsimp only [Pt.U, Pt.locs, Pt.cells, Pt.slots] at X4 l4 y4 z4 st4 hQ4
  subst l4 y4 z4
  obtain ⟨rfl, N4q, e4⟩ := hQ4
  have N4 := Fr.app N3 N4q
  replace X4 := X4.more (cells' := 0) (slots' := 0) (by decide) (by decide)
  obtain ⟨T6, h6, X6, e6, W6, st6⟩ := putF X4 hx hZ hown (host := "") (Or.inl (hw _ (List.mem_of_getElem? (i := 173) rfl))) Via.refl e4 HF_a1_e0 HE_a1 (Or.inr ⟨(hw _ (List.mem_of_getElem? (i := 174) rfl)), rfl, hnm⟩) (hw _ (List.mem_of_getElem? (i := 149) rfl)) (ty := (.object "java/lang/Object")) (by decide) rfl rfl (g := (mkF m 9 #[.val (.ref a1), .val (.ref a2)] [(.ref a2), (.ref a1)])) rfl rfl (hb hby d21_9)
  have N6 := Fr.snoc X6 N4 g_a1
  have K7 : Keep h0 h6 [a1] := (Keep.refl h0 [a1]).wr W6 (Or.inl (List.mem_of_getElem? (i := 0) rfl))
  have O8 : Old Z n0 h6 := O0.wr W6 g_a1
  have Fw6 : Fld Z h6 a1 "java/util/ImmutableCollections$List12" "e0" "Ljava/lang/Object;" (.ref a2) := HF_a1_e0.same W6
  obtain ⟨T10, X10, e10, st10⟩ := getS2 X6 hx hZ hown (Or.inr (hw _ (List.mem_of_getElem? (i := 175) rfl))) Via.refl e6 (S_EMPTY.ext O8.2) (g := (mkF m 13 #[.val (.ref a1), .val (.ref a2)] [(.ref a1)])) rfl (hb hby d21_13)
  have f11 := (HE_a1.wr W6)
  have f13 := (HF_a1_e1.other W6 (Or.inr (slot_ne (Or.inr (hw _ (List.mem_of_getElem? (i := 177) rfl))) (Or.inr (hw _ (List.mem_of_getElem? (i := 174) rfl))) (by decide) (t := (.object "java/lang/Object")) (t' := (.object "java/lang/Object")) (by decide) (by decide))))
  obtain ⟨T14, h14, X14, e14, W14, st14⟩ := putF X10 hx hZ hown (host := "") (Or.inl (hw _ (List.mem_of_getElem? (i := 176) rfl))) Via.refl e10 f13 f11 (Or.inr ⟨(hw _ (List.mem_of_getElem? (i := 177) rfl)), rfl, hnm⟩) (hw _ (List.mem_of_getElem? (i := 149) rfl)) (ty := (.object "java/lang/Object")) (by decide) rfl rfl (g := (mkF m 16 #[.val (.ref a1), .val (.ref a2)] [(.ref w9), (.ref a1)])) rfl rfl (hb hby d21_16)
  have N14 := Fr.snoc X14 N6 g_a1
  have K15 : Keep h0 h14 [a1] := K7.wr W14 (Or.inl (List.mem_of_getElem? (i := 0) rfl))
  have O16 : Old Z n0 h14 := O8.wr W14 g_a1
  have Fw14 : Fld Z h14 a1 "java/util/ImmutableCollections$List12" "e1" "Ljava/lang/Object;" (.ref w9) := f13.same W14
  have f17 := (f11.wr W14)
  have f18 := (Fw6.other W14 (Or.inr (slot_ne (Or.inr (hw _ (List.mem_of_getElem? (i := 174) rfl))) (Or.inr (hw _ (List.mem_of_getElem? (i := 177) rfl))) (by decide) (t := (.object "java/lang/Object")) (t' := (.object "java/lang/Object")) (by decide) (by decide))))
  obtain ⟨fs, hr, hrun, hended, hW, hsame⟩ := X14.leave (v := none) (fun _ => rfl)
  refine ⟨_, _, pre0 _ ?_, hrun, hended, _, _, rfl, ?_, ⟨_, rfl⟩, hW, hsame.mono (by decide) (by decide)⟩
  · show Steps p.tables e below (s₁.setTop (mkF m 0 #[.val (.ref a1), .val (.ref a2)] [])) _
    refine XS.aloadN X0.here hx rfl (hb hby d21_0) rfl rfl ?_
    show Steps p.tables e below (s₁.setTop (mkF m 1 #[.val (.ref a1), .val (.ref a2)] [(.ref a1)])) _
    refine st3.trans ?_
    show Steps p.tables e below (T3.setTop (mkF m 4 #[.val (.ref a1), .val (.ref a2)] [])) _
    refine XS.aloadN X3.here hx rfl (hb hby d21_4) rfl rfl ?_
    show Steps p.tables e below (T3.setTop (mkF m 5 #[.val (.ref a1), .val (.ref a2)] [(.ref a1)])) _
    refine XS.aloadN X3.here hx rfl (hb hby d21_5) rfl rfl ?_
    show Steps p.tables e below (T3.setTop (mkF m 6 #[.val (.ref a1), .val (.ref a2)] [(.ref a2), (.ref a1)])) _
    refine st4 _ ?_
    show Steps p.tables e below (T4.setTop (mkF m 9 #[.val (.ref a1), .val (.ref a2)] [(.ref a2), (.ref a1)])) _
    refine st6 _ ?_
    show Steps p.tables e below (T6.setTop (mkF m 12 #[.val (.ref a1), .val (.ref a2)] [])) _
    refine XS.aloadN X6.here hx rfl (hb hby d21_12) rfl rfl ?_
    show Steps p.tables e below (T6.setTop (mkF m 13 #[.val (.ref a1), .val (.ref a2)] [(.ref a1)])) _
    refine st10 _ ?_
    show Steps p.tables e below (T10.setTop (mkF m 16 #[.val (.ref a1), .val (.ref a2)] [(.ref w9), (.ref a1)])) _
    refine st14 _ ?_
    show Steps p.tables e below (T14.setTop (mkF m 19 #[.val (.ref a1), .val (.ref a2)] [])) _
    exact X14.returnOut hx Bd.returns (hb hby d21_19) hr
  · show Q21c1 Z a1 a2 u5 w9 u12 h0 n0 _ T14.heap _
    rw [e14]
    exact ⟨rfl, N14, K15, f17, f18, Fw14⟩
theorem d20_0 : decode jdk_40_method_47_code 0 = .ok (.aload_n 0, 1) := by decide +kernel
theorem d20_1 : decode jdk_40_method_47_code 1 = .ok (.arraylength, 1) := by decide +kernel
theorem d20_2 : decode jdk_40_method_47_code 2 = .ok (.tableswitch 57 0 2 #[26, 32, 43], 26) := by decide +kernel
theorem d20_34 : decode jdk_40_method_47_code 34 = .ok (.new 96, 3) := by decide +kernel
theorem d20_37 : decode jdk_40_method_47_code 37 = .ok (.dup, 1) := by decide +kernel
theorem d20_38 : decode jdk_40_method_47_code 38 = .ok (.aload_n 0, 1) := by decide +kernel
theorem d20_39 : decode jdk_40_method_47_code 39 = .ok (.iconst 0, 1) := by decide +kernel
theorem d20_40 : decode jdk_40_method_47_code 40 = .ok (.aaload, 1) := by decide +kernel
theorem d20_41 : decode jdk_40_method_47_code 41 = .ok (.invokespecial 98, 3) := by decide +kernel
theorem pd_9 : parseMethodDescriptor "(Ljava/lang/Object;)V" = some ⟨[(.object "java/lang/Object")], none⟩ := by decide +kernel
theorem d20_44 : decode jdk_40_method_47_code 44 = .ok (.areturn, 1) := by decide +kernel
def Q20c1 (Z : State) (a1 : Addr) (k0 : ClassId) (el0 w8 : Addr) (h0 : Heap) (n0 : Nat) (v : Option Value) (h : Heap) (L : List Loc) : Prop := ∃ b3 : Addr, v = some (.ref b3) ∧ Fr n0 L ∧ Keep h0 h [] ∧ h0.size ≤ b3 ∧ Exa Z h b3 "java/util/ImmutableCollections$List12" ∧ Fld Z h b3 "java/util/ImmutableCollections$List12" "e0" "Ljava/lang/Object;" (.ref el0) ∧ Fld Z h b3 "java/util/ImmutableCollections$List12" "e1" "Ljava/lang/Object;" (.ref w8)
theorem ef_20 (m : MethodId) (x0 : Addr) : entryFrame m #[(.ref x0)] 2 = mkF m 0 #[.val (.ref x0), .unset] [] := by first | (simp [entryFrame, mkF, argsToLocals, Value.category]; done) | rfl
theorem pnc_java_util_List : plainName "java/util/List" = true := by first | (simp [plainName, overriddenIn]; done) | decide +kernel
set_option maxRecDepth 65536 in
set_option maxHeartbeats 40000000 in
theorem rm20c1 (l : Launch) (Z : State) (a0 : Array Value) (hw : ∀ d ∈ tables_1, d.before a0 Z = true) (ws : List Jvm.Cond) (a1 : Addr) (k0 : ClassId) (el0 w8 : Addr) (h0 : Heap) (n0 : Nat) (O0 : Old Z n0 h0) (HV_a1 : Arv Z h0 a1 k0 (.object "java/lang/Object") (1 : Int32) [(.ref el0)] .null) (S_EMPTY : Sta Z Z.heap "java/util/ImmutableCollections" "EMPTY" "Ljava/lang/Object;" (.ref w8)) :
    MetFree l (⟨"java/util/List", "of", "([Ljava/lang/Object;)Ljava/util/List;"⟩ : MethodName) (head1 (Jvm.Cond.code (⟨"java/util/List", "of", "([Ljava/lang/Object;)Ljava/util/List;"⟩ : MethodName) jdk_40_method_47_code 2 (some (.object "java/util/List")) :: ws) ({ frames := 5, cells := 1, slots := 2, locals := 62 } : Room)) (fun a U => a = #[(.ref a1)] ∧ Z.Warmed39 U.vm ∧ U.heap = h0) (fun _ _ _ _ _ => True) (fun _ U o U' => ∃ v L, o = .returned v ∧ Q20c1 Z a1 k0 el0 w8 h0 n0 v U'.heap L ∧ FrameEnd U o U' L ({ frames := 5, cells := 1, slots := 2, locals := 62 } : Room).cells ({ frames := 5, cells := 1, slots := 2, locals := 62 } : Room).slots) := by
  refine MetFree.of_bodySF (plainFor_of_name pnc_java_util_List) hisR ?_
  intro p e s m args below meth c s₁ Bd hml0 hP hK
  obtain ⟨rfl, hZ, hh⟩ := hP
  have hx := Bd.exec
  have hby := Bd.bytes
  have hml : c.maxLocals = 2 := hml0
  have hown : s.vm.findClass "java/util/List" = some m.cls := findClass_of_methodNamed Bd.named
  have hnm := (name_of_methodNamed Bd.named Bd.method).1
  have X0 : Stand p l e ({ frames := 5, cells := 1, slots := 2, locals := 62 } : Room) s m #[(.ref a1)] below meth c s₁ [] 0 0 := Stand.of_body Bd
  have e0 : s₁.heap = h0 := by rw [← hh, Bd.state]; rfl
  have N0 := Fr.nil n0
  have Z0 : n0 ≤ h0.size := O0.1 ▸ O0.2.1
  have pre0 : ∀ t, Steps p.tables e below (s₁.setTop (mkF m 0 #[.val (.ref a1), .unset] [])) t → Steps p.tables e below (s₁.setTop (entryFrame m #[(.ref a1)] 2)) t := fun t k => castTop (ef_20 m a1) k
  obtain ⟨cl2, Ar2, q2, S2, Nn2, Hh2, G2⟩ := id HV_a1
  obtain ⟨T3, h3, X3, e3, E3, A3, D3, -, st3⟩ := newO X0 hx hZ hown (hw _ (List.mem_of_getElem? (i := 148) rfl)) (hw _ (List.mem_of_getElem? (i := 149) rfl)) (hw _ (List.mem_of_getElem? (i := 150) rfl)) e0 (g := (mkF m 34 #[.val (.ref a1), .unset] [])) rfl (hb hby d20_34) (by decide) (by decide)
  obtain ⟨b3, g3⟩ : ∃ z, z = h0.size := ⟨_, rfl⟩
  rw [← g3] at A3 D3 st3
  have g_b3 : n0 ≤ b3 := Nat.le_trans (Nat.le_trans Z0 (Keep.refl h0 []).1) (Nat.le_of_eq g3.symm)
  have sz_b3 : h0.size ≤ b3 := Nat.le_trans (Keep.refl h0 []).1 (Nat.le_of_eq g3.symm)
  have K4 : Keep h0 h3 [] := (Keep.refl h0 []).ext E3
  have O5 : Old Z n0 h3 := O0.ext E3
  have F_e0_b3 : Fld Z h3 b3 "java/util/ImmutableCollections$List12" "e0" "Ljava/lang/Object;" .null := D3 (Or.inr (hw _ (List.mem_of_getElem? (i := 174) rfl))) (ty := (.object "java/lang/Object")) (by decide)
  have F_e1_b3 : Fld Z h3 b3 "java/util/ImmutableCollections$List12" "e1" "Ljava/lang/Object;" .null := D3 (Or.inr (hw _ (List.mem_of_getElem? (i := 177) rfl))) (ty := (.object "java/lang/Object")) (by decide)
  replace X3 := X3.more (cells' := 1) (slots' := 2) (by decide) (by decide)
  have f6 := (HV_a1.ext E3)
  obtain ⟨cl7, Ar7, q7, S7, Nn7, Hh7, G7⟩ := id f6
  have hin7 : ¬ ((0 : Int32) < 0 ∨ cl7.slots.size ≤ ((0 : Int32)).toNatClampNeg) := inb_of S7 ⟨by decide, by decide⟩
  have hat7 : cl7.slots[((0 : Int32)).toNatClampNeg]? = some (.ref el0) := Has.at Hh7 hin7 rfl
  obtain ⟨vr9, _, ⟨T9, L9, k9, n9⟩, -, X9, ⟨Lc9, hQ9, l9, y9, z9⟩, st9⟩ := X3.specialBack hx (y := (⟨"java/util/ImmutableCollections$List12", "<init>", "(Ljava/lang/Object;)V"⟩ : MethodName)) rfl hown (mvT hZ (hw _ (List.mem_of_getElem? (i := 151) rfl))) (mvT hZ (hw _ (List.mem_of_getElem? (i := 152) rfl))) (mvT hZ (hw _ (List.mem_of_getElem? (i := 154) rfl))) (by decide) (backOf (W := 1) (rm21c1 l Z a0 hw [] b3 el0 (.null) w8 (.null) h3 n0 O5 A3 F_e0_b3 g_b3 S_EMPTY F_e1_b3) hZ (hw _ (List.mem_of_getElem? (i := 154) rfl)) (hw _ (List.mem_of_getElem? (i := 150) rfl)) (by decide) (by decide)) (g := (mkF m 41 #[.val (.ref a1), .unset] [(.ref el0), (.ref b3), (.ref b3)])) rfl (by rw [hml]; rfl) (Steps.refl _) (a := b3) (argsL := [(.ref el0)]) (rest := [(.ref b3)]) (lenOf pd_9 rfl) rfl (by show 2 * 0 + _ ≤ _; exact Nat.le_of_eq rfl) (hb hby d20_41) (fun _ _ => ⟨rfl, e3, (by decide : 1 + 0 ≤ _), (by decide : 2 + 0 ≤ _)⟩)
  dsimp only [Pt.U, Pt.locs, Pt.cells, Pt.slots] at X9 l9 y9 z9 st9 hQ9
  subst l9 y9 z9
  obtain ⟨rfl, N9q, K9, Y9_0, Y9_1, Y9_2⟩ := hQ9
  have N9 := Fr.app N0 N9q
  replace X9 := X9.more (cells' := 1) (slots' := 2) (by decide) (by decide)
  have K10 : Keep h0 T9.heap [] := K4.trans K9 (allS (Or.inr sz_b3) all0)
  have O11 : Old Z n0 T9.heap := O5.keep K9 (allS g_b3 all0)
  obtain ⟨fs, hr, hrun, hended, hW, hsame⟩ := X9.leave (v := some (.ref b3)) (fun h => by rw [Bd.returns] at h; cases h)
  refine ⟨_, _, pre0 _ ?_, hrun, hended, _, _, rfl, ?_, ⟨_, rfl⟩, hW, hsame.mono (by decide) (by decide)⟩
  · show Steps p.tables e below (s₁.setTop (mkF m 0 #[.val (.ref a1), .unset] [])) _
    refine XS.aloadN X0.here hx rfl (hb hby d20_0) rfl rfl ?_
    show Steps p.tables e below (s₁.setTop (mkF m 1 #[.val (.ref a1), .unset] [(.ref a1)])) _
    refine X0.arraylength hx (by rw [e0]; exact Ar2.1) (State.isArrayOf_alike hZ.alike Ar2.2.1) (g := (mkF m 1 #[.val (.ref a1), .unset] [(.ref a1)])) rfl rfl (hb hby d20_1) _ ?_
    rw [len_of S2 Nn2]
    show Steps p.tables e below (s₁.setTop (mkF m 2 #[.val (.ref a1), .unset] [(.int (1 : Int32))])) _
    refine XS.tswIn X0.here hx rfl (pc0 := 2) (pc' := 34) rfl (hb hby d20_2) rfl (by decide) (o := 32) (by decide) (by decide) (by decide) ?_
    show Steps p.tables e below (s₁.setTop (mkF m 34 #[.val (.ref a1), .unset] [])) _
    refine st3 _ ?_
    show Steps p.tables e below (T3.setTop (mkF m 37 #[.val (.ref a1), .unset] [(.ref b3)])) _
    refine XS.dup X3.here hx rfl (hb hby d20_37) rfl rfl ?_
    show Steps p.tables e below (T3.setTop (mkF m 38 #[.val (.ref a1), .unset] [(.ref b3), (.ref b3)])) _
    refine XS.aloadN X3.here hx rfl (hb hby d20_38) rfl rfl ?_
    show Steps p.tables e below (T3.setTop (mkF m 39 #[.val (.ref a1), .unset] [(.ref a1), (.ref b3), (.ref b3)])) _
    refine XS.iconst X3.here hx rfl (hb hby d20_39) ?_
    show Steps p.tables e below (T3.setTop (mkF m 40 #[.val (.ref a1), .unset] [(.int (0 : Int32)), (.ref a1), (.ref b3), (.ref b3)])) _
    refine X3.aaload hx (j := (0 : Int32)) (v := (.ref el0)) (by rw [e3]; exact Ar7.1) (State.isArrayOf_alike hZ.alike Ar7.2.1) rfl Ar7.2.2 hin7 hat7 (g := (mkF m 40 #[.val (.ref a1), .unset] [(.int (0 : Int32)), (.ref a1), (.ref b3), (.ref b3)])) rfl rfl (hb hby d20_40) _ ?_
    show Steps p.tables e below (T3.setTop (mkF m 41 #[.val (.ref a1), .unset] [(.ref el0), (.ref b3), (.ref b3)])) _
    refine st9.trans ?_
    show Steps p.tables e below (T9.setTop (mkF m 44 #[.val (.ref a1), .unset] [(.ref b3)])) _
    exact own_retR X9 hx Bd.returns rfl rfl (hb hby d20_44) hr
  · show Q20c1 Z a1 k0 el0 w8 h0 n0 _ T9.heap _
    exact ⟨b3, rfl, N9, K10, sz_b3, Y9_0, Y9_1, Y9_2⟩
theorem d14_0 : decode jdk_56_method_3_code 0 = .ok (.aload_n 0, 1) := by decide +kernel
theorem d14_1 : decode jdk_56_method_3_code 1 = .ok (.instanceof 10, 3) := by decide +kernel
theorem own_nsroot {Z : State} {a0 : Array Value} {A K : String} {n : Nat} (w : (Jvm.Cond.noSuperclass A).before a0 Z = true) (wk : (Jvm.Cond.instantiable K n).before a0 Z = true) (hn : A ≠ K) : NS Z A K := by
  obtain ⟨ca, ka, h1, h2, h3, -, -⟩ := Cond.noSuperclass_spec w
  obtain ⟨ck, kk, g1, -⟩ := Cond.instantiable_spec wk
  have ne := ids_ne h1 g1 hn
  exact ⟨ca, ck, h1, g1, fun fuel => by cases fuel <;> simp [Vm.isSubclassAux, ne, h2, h3]⟩
theorem own_nsno {Z : State} {a0 : Array Value} {A S K : String} {n : Nat} (w : (Jvm.Cond.superclass A S).before a0 Z = true) (wk : (Jvm.Cond.instantiable K n).before a0 Z = true) (m : NS Z A K) (hn : A ≠ K) : ∃ c t, Z.vm.findClass A = some c ∧ Z.vm.findClass K = some t ∧ Z.vm.assignable c t = false := by
  obtain ⟨ca, ck, h0, g0, m3⟩ := m
  obtain ⟨-, ka, -, -, h2, -, -, h5, -, -⟩ := Cond.superclass_spec h0 w
  obtain ⟨ck', kk, g1, g2, g3, g4, -⟩ := Cond.instantiable_spec wk
  cases g0.symm.trans g1
  have g7 : kk.isInterface = false := by cases hh : kk.isInterface <;> simp [hh] at g4 ⊢
  have ne := ids_ne h0 g0 hn
  refine ⟨ca, ck, h0, g0, ?_⟩
  show Z.vm.assignableAux (255 + 1) ca ck = false
  simp [Vm.assignableAux, ne, h2, g2, h5, g3, g7, Vm.isSubclass, m3]
theorem d14_4 : decode jdk_56_method_3_code 4 = .ok (.ifCond .ne 22, 3) := by decide +kernel
theorem d14_7 : decode jdk_56_method_3_code 7 = .ok (.aload_n 0, 1) := by decide +kernel
theorem d14_8 : decode jdk_56_method_3_code 8 = .ok (.instanceof 12, 3) := by decide +kernel
theorem d14_11 : decode jdk_56_method_3_code 11 = .ok (.ifCond .eq 20, 3) := by decide +kernel
theorem d14_31 : decode jdk_56_method_3_code 31 = .ok (.aload_n 0, 1) := by decide +kernel
theorem d14_32 : decode jdk_56_method_3_code 32 = .ok (.invokeinterface 20 1, 5) := by decide +kernel
theorem pd_3 : parseMethodDescriptor "()Z" = some ⟨[], some .boolean⟩ := by decide +kernel
theorem d14_37 : decode jdk_56_method_3_code 37 = .ok (.ifCond .eq 7, 3) := by decide +kernel
theorem d14_44 : decode jdk_56_method_3_code 44 = .ok (.aload_n 0, 1) := by decide +kernel
theorem d14_45 : decode jdk_56_method_3_code 45 = .ok (.invokeinterface 30 1, 5) := by decide +kernel
theorem d14_50 : decode jdk_56_method_3_code 50 = .ok (.invokestatic 34, 3) := by decide +kernel
theorem pd_17 : parseMethodDescriptor "([Ljava/lang/Object;)Ljava/util/List;" = some ⟨[(.array (.object "java/lang/Object"))], some (.object "java/util/List")⟩ := by decide +kernel
theorem d14_53 : decode jdk_56_method_3_code 53 = .ok (.areturn, 1) := by decide +kernel
def Q14c1 (Z : State) (a1 : Addr) (k0 : ClassId) (el0 w0 w5 w11 : Addr) (h0 : Heap) (n0 : Nat) (v : Option Value) (h : Heap) (L : List Loc) : Prop := ∃ b13 : Addr, v = some (.ref b13) ∧ Fr n0 L ∧ Keep h0 h [] ∧ h0.size ≤ b13 ∧ Exa Z h b13 "java/util/ImmutableCollections$List12" ∧ Fld Z h b13 "java/util/ImmutableCollections$List12" "e0" "Ljava/lang/Object;" (.ref el0) ∧ Fld Z h b13 "java/util/ImmutableCollections$List12" "e1" "Ljava/lang/Object;" (.ref w11)
theorem ef_14 (m : MethodId) (x0 : Addr) : entryFrame m #[(.ref x0)] 2 = mkF m 0 #[.val (.ref x0), .unset] [] := by first | (simp [entryFrame, mkF, argsToLocals, Value.category]; done) | rfl
theorem pnc_java_util_ImmutableCollections : plainName "java/util/ImmutableCollections" = true := by first | (simp [plainName, overriddenIn]; done) | decide +kernel
set_option maxRecDepth 65536 in
set_option maxHeartbeats 40000000 in
theorem rm14c1 (l : Launch) (Z : State) (a0 : Array Value) (hw : ∀ d ∈ tables_1, d.before a0 Z = true) (ws : List Jvm.Cond) (a1 : Addr) (k0 : ClassId) (el0 w0 w5 w11 : Addr) (h0 : Heap) (n0 : Nat) (O0 : Old Z n0 h0) (HE_a1 : Exa Z h0 a1 "java/util/ArrayList") (HF_a1_elementData : Fld Z h0 a1 "java/util/ArrayList" "elementData" "[Ljava/lang/Object;" (.ref w0)) (HF_a1_size : Fld Z h0 a1 "java/util/ArrayList" "size" "I" (.int (1 : Int32))) (HE_w0 : Exa Z h0 w0 "[Ljava/lang/Object;") (HV_w0 : Arv Z h0 w0 k0 (.object "java/lang/Object") (10 : Int32) [(.ref el0), .null, .null, .null, .null, .null, .null, .null, .null, .null] .null) (HI_el0 : Ins Z h0 el0 "java/lang/Object" true) (Mi__Ljava_lang_Object_ : own_Mir Z "[Ljava/lang/Object;" w5) (S_EMPTY : Sta Z Z.heap "java/util/ImmutableCollections" "EMPTY" "Ljava/lang/Object;" (.ref w11)) :
    MetFree l (⟨"java/util/ImmutableCollections", "listCopy", "(Ljava/util/Collection;)Ljava/util/List;"⟩ : MethodName) (head1 (Jvm.Cond.code (⟨"java/util/ImmutableCollections", "listCopy", "(Ljava/util/Collection;)Ljava/util/List;"⟩ : MethodName) jdk_56_method_3_code 2 (some (.object "java/util/List")) :: ws) ({ frames := 6, cells := 2, slots := 3, locals := 75 } : Room)) (fun a U => a = #[(.ref a1)] ∧ Z.Warmed39 U.vm ∧ U.heap = h0) (fun _ _ _ _ _ => True) (fun _ U o U' => ∃ v L, o = .returned v ∧ Q14c1 Z a1 k0 el0 w0 w5 w11 h0 n0 v U'.heap L ∧ FrameEnd U o U' L ({ frames := 6, cells := 2, slots := 3, locals := 75 } : Room).cells ({ frames := 6, cells := 2, slots := 3, locals := 75 } : Room).slots) := by
  refine MetFree.of_bodySF (plainFor_of_name pnc_java_util_ImmutableCollections) hisR ?_
  intro p e s m args below meth c s₁ Bd hml0 hP hK
  obtain ⟨rfl, hZ, hh⟩ := hP
  have hx := Bd.exec
  have hby := Bd.bytes
  have hml : c.maxLocals = 2 := hml0
  have hown : s.vm.findClass "java/util/ImmutableCollections" = some m.cls := findClass_of_methodNamed Bd.named
  have hnm := (name_of_methodNamed Bd.named Bd.method).1
  have X0 : Stand p l e ({ frames := 6, cells := 2, slots := 3, locals := 75 } : Room) s m #[(.ref a1)] below meth c s₁ [] 0 0 := Stand.of_body Bd
  have e0 : s₁.heap = h0 := by rw [← hh, Bd.state]; rfl
  have N0 := Fr.nil n0
  have Z0 : n0 ≤ h0.size := O0.1 ▸ O0.2.1
  have pre0 : ∀ t, Steps p.tables e below (s₁.setTop (mkF m 0 #[.val (.ref a1), .unset] [])) t → Steps p.tables e below (s₁.setTop (entryFrame m #[(.ref a1)] 2)) t := fun t k => castTop (ef_14 m a1) k
  obtain ⟨T2, X2, e2, st2⟩ := instNo X0 hx hZ hown (hw _ (List.mem_of_getElem? (i := 100) rfl)) e0 HE_a1 (own_nsno (hw _ (List.mem_of_getElem? (i := 101) rfl)) (hw _ (List.mem_of_getElem? (i := 149) rfl)) (NS.step (hw _ (List.mem_of_getElem? (i := 101) rfl)) (NS.step (hw _ (List.mem_of_getElem? (i := 102) rfl)) (NS.step (hw _ (List.mem_of_getElem? (i := 103) rfl)) (own_nsroot (hw _ (List.mem_of_getElem? (i := 104) rfl)) (hw _ (List.mem_of_getElem? (i := 149) rfl)) (by decide)) (by decide)) (by decide)) (by decide)) (by decide)) (g := (mkF m 1 #[.val (.ref a1), .unset] [(.ref a1)])) rfl rfl (hb hby d14_1)
  obtain ⟨T3, X3, e3, st3⟩ := instNo X2 hx hZ hown (hw _ (List.mem_of_getElem? (i := 105) rfl)) e2 HE_a1 (own_nsno (hw _ (List.mem_of_getElem? (i := 101) rfl)) (hw _ (List.mem_of_getElem? (i := 200) rfl)) (NS.step (hw _ (List.mem_of_getElem? (i := 101) rfl)) (NS.step (hw _ (List.mem_of_getElem? (i := 102) rfl)) (NS.step (hw _ (List.mem_of_getElem? (i := 103) rfl)) (own_nsroot (hw _ (List.mem_of_getElem? (i := 104) rfl)) (hw _ (List.mem_of_getElem? (i := 200) rfl)) (by decide)) (by decide)) (by decide)) (by decide)) (by decide)) (g := (mkF m 8 #[.val (.ref a1), .unset] [(.ref a1)])) rfl rfl (hb hby d14_8)
  obtain ⟨cq4, kq4, q4a, q4b, q4c⟩ := isOf hZ e3 HE_a1
  obtain ⟨vr4, _, ⟨T4, L4, k4, n4⟩, -, X4, ⟨Lc4, hQ4, l4, y4, z4⟩, st4⟩ := X3.interfaceBack hx (xi := (⟨"java/util/Collection", "isEmpty", "()Z"⟩ : MethodName)) (y := (⟨"java/util/ArrayList", "isEmpty", "()Z"⟩ : MethodName)) hown (mvT hZ (hw _ (List.mem_of_getElem? (i := 106) rfl))) (mvT hZ (hw _ (List.mem_of_getElem? (i := 107) rfl))) (mvT hZ (hw _ (List.mem_of_getElem? (i := 108) rfl))) (mvT hZ (hw _ (List.mem_of_getElem? (i := 109) rfl))) (mvT hZ (hw _ (List.mem_of_getElem? (i := 110) rfl))) (mvT hZ (hw _ (List.mem_of_getElem? (i := 111) rfl))) (mvT hZ (hw _ (List.mem_of_getElem? (i := 112) rfl))) (mvT hZ (hw _ (List.mem_of_getElem? (i := 113) rfl))) (by decide) (backOf (W := 0) (rm15 l Z a0 hw [] a1 ((1 : Int32)) h0 n0 O0 HF_a1_size (by decide : ¬ ((1 : Int32) = (0 : Int32)))) hZ (hw _ (List.mem_of_getElem? (i := 114) rfl)) (hw _ (List.mem_of_getElem? (i := 22) rfl)) (by decide) (by decide)) q4a q4b q4c (g := (mkF m 32 #[.val (.ref a1), .unset] [(.ref a1)])) rfl (by rw [hml]; rfl) (Steps.refl _) (argsL := []) (rest := []) (lenOf pd_3 rfl) rfl (by show 2 * 0 + _ ≤ _; exact Nat.le_of_eq rfl) (hb hby d14_32) (fun _ _ => ⟨rfl, e3, (by decide : 0 + 0 ≤ _), (by decide : 0 + 0 ≤ _)⟩)
  dsimp only [Pt.U, Pt.locs, Pt.cells, Pt.slots] at X4 l4 y4 z4 st4 hQ4
  subst l4 y4 z4
  obtain ⟨rfl, N4q, e4⟩ := hQ4
  have N4 := Fr.app N0 N4q
  replace X4 := X4.more (cells' := 0) (slots' := 0) (by decide) (by decide)
  obtain ⟨cq6, kq6, q6a, q6b, q6c⟩ := isOf hZ e4 HE_a1
  obtain ⟨vr6, _, ⟨T6, L6, k6, n6⟩, -, X6, ⟨Lc6, hQ6, l6, y6, z6⟩, st6⟩ := X4.interfaceBack hx (xi := (⟨"java/util/Collection", "toArray", "()[Ljava/lang/Object;"⟩ : MethodName)) (y := (⟨"java/util/ArrayList", "toArray", "()[Ljava/lang/Object;"⟩ : MethodName)) hown (mvT hZ (hw _ (List.mem_of_getElem? (i := 115) rfl))) (mvT hZ (hw _ (List.mem_of_getElem? (i := 116) rfl))) (mvT hZ (hw _ (List.mem_of_getElem? (i := 117) rfl))) (mvT hZ (hw _ (List.mem_of_getElem? (i := 118) rfl))) (mvT hZ (hw _ (List.mem_of_getElem? (i := 119) rfl))) (mvT hZ (hw _ (List.mem_of_getElem? (i := 120) rfl))) (mvT hZ (hw _ (List.mem_of_getElem? (i := 121) rfl))) (mvT hZ (hw _ (List.mem_of_getElem? (i := 113) rfl))) (by decide) (backOf (W := 0) (rm16c1 l Z a0 hw [] a1 k0 el0 w0 w5 h0 n0 O0 HF_a1_elementData HF_a1_size HE_w0 HV_w0 HI_el0 Mi__Ljava_lang_Object_) hZ (hw _ (List.mem_of_getElem? (i := 122) rfl)) (hw _ (List.mem_of_getElem? (i := 22) rfl)) (by decide) (by decide)) q6a q6b q6c (g := (mkF m 45 #[.val (.ref a1), .unset] [(.ref a1)])) rfl (by rw [hml]; rfl) (Steps.refl _) (argsL := []) (rest := []) (lenOf pd_4 rfl) rfl (by show 2 * 0 + _ ≤ _; exact Nat.le_of_eq rfl) (hb hby d14_45) (fun _ _ => ⟨rfl, e4, (by decide : 0 + 1 ≤ _), (by decide : 0 + 1 ≤ _)⟩)
  dsimp only [Pt.U, Pt.locs, Pt.cells, Pt.slots] at X6 l6 y6 z6 st6 hQ6
  subst l6 y6 z6
  obtain ⟨b7, k8, rfl, N6q, K6, Y6_z0, Y6_0, Y6_1, Y6_2⟩ := hQ6
  have N6 := Fr.app N4 N6q
  replace X6 := X6.more (cells' := 1) (slots' := 1) (by decide) (by decide)
  have g_b7 : n0 ≤ b7 := Nat.le_trans (Nat.le_trans Z0 (Keep.refl h0 []).1) Y6_z0
  have sz_b7 : h0.size ≤ b7 := Nat.le_trans (Keep.refl h0 []).1 Y6_z0
  have K9 : Keep h0 T6.heap [] := (Keep.refl h0 []).trans K6 all0
  have O10 : Old Z n0 T6.heap := O0.keep K6 all0
  obtain ⟨vr12, _, ⟨T12, L12, k12, n12⟩, -, X12, ⟨Lc12, hQ12, l12, y12, z12⟩, st12⟩ := Jvm.LawKit.callS X6 hx (y := (⟨"java/util/List", "of", "([Ljava/lang/Object;)Ljava/util/List;"⟩ : MethodName)) hown (mvT hZ (hw _ (List.mem_of_getElem? (i := 145) rfl))) (mvT hZ (hw _ (List.mem_of_getElem? (i := 146) rfl))) (mvT hZ (hw _ (List.mem_of_getElem? (i := 94) rfl))) (mvT hZ (hw _ (List.mem_of_getElem? (i := 147) rfl))) (by decide) (backOf (W := 0) (rm20c1 l Z a0 hw [] b7 k8 el0 w11 T6.heap n0 O10 Y6_1 S_EMPTY) hZ (hw _ (List.mem_of_getElem? (i := 147) rfl)) (hw _ (List.mem_of_getElem? (i := 94) rfl)) (by decide) (by decide)) (g := (mkF m 50 #[.val (.ref a1), .unset] [(.ref b7)])) rfl (by rw [hml]; rfl) (argsL := [(.ref b7)]) (rest := []) (lenOf pd_17 rfl) rfl (by show 2 * 0 + _ ≤ _; exact Nat.le_of_eq rfl) (hb hby d14_50) (fun _ _ => ⟨rfl, rfl, (by decide : 1 + 1 ≤ _), (by decide : 1 + 2 ≤ _)⟩)
  dsimp only [Pt.U, Pt.locs, Pt.cells, Pt.slots] at X12 l12 y12 z12 st12 hQ12
  subst l12 y12 z12
  obtain ⟨b13, rfl, N12q, K12, Y12_z0, Y12_0, Y12_1, Y12_2⟩ := hQ12
  have N12 := Fr.app N6 N12q
  replace X12 := X12.more (cells' := 2) (slots' := 3) (by decide) (by decide)
  have g_b13 : n0 ≤ b13 := Nat.le_trans (Nat.le_trans Z0 K9.1) Y12_z0
  have sz_b13 : h0.size ≤ b13 := Nat.le_trans K9.1 Y12_z0
  have K14 : Keep h0 T12.heap [] := K9.trans K12 all0
  have O15 : Old Z n0 T12.heap := O10.keep K12 all0
  obtain ⟨fs, hr, hrun, hended, hW, hsame⟩ := X12.leave (v := some (.ref b13)) (fun h => by rw [Bd.returns] at h; cases h)
  refine ⟨_, _, pre0 _ ?_, hrun, hended, _, _, rfl, ?_, ⟨_, rfl⟩, hW, hsame.mono (by decide) (by decide)⟩
  · show Steps p.tables e below (s₁.setTop (mkF m 0 #[.val (.ref a1), .unset] [])) _
    refine XS.aloadN X0.here hx rfl (hb hby d14_0) rfl rfl ?_
    show Steps p.tables e below (s₁.setTop (mkF m 1 #[.val (.ref a1), .unset] [(.ref a1)])) _
    refine st2 _ ?_
    show Steps p.tables e below (T2.setTop (mkF m 4 #[.val (.ref a1), .unset] [(.int (0 : Int32))])) _
    refine XS.ifNo X2.here hx rfl (hb hby d14_4) rfl ((if0 _ _).trans (teq (by decide : (0 : Int32) = (0 : Int32))).2) ?_
    show Steps p.tables e below (T2.setTop (mkF m 7 #[.val (.ref a1), .unset] [])) _
    refine XS.aloadN X2.here hx rfl (hb hby d14_7) rfl rfl ?_
    show Steps p.tables e below (T2.setTop (mkF m 8 #[.val (.ref a1), .unset] [(.ref a1)])) _
    refine st3 _ ?_
    show Steps p.tables e below (T3.setTop (mkF m 11 #[.val (.ref a1), .unset] [(.int (0 : Int32))])) _
    refine XS.ifYes X3.here hx rfl (pc0 := 11) (pc' := 31) rfl (hb hby d14_11) rfl ((if0 _ _).trans (teq (by decide : (0 : Int32) = (0 : Int32))).1) (by decide) (by decide) ?_
    show Steps p.tables e below (T3.setTop (mkF m 31 #[.val (.ref a1), .unset] [])) _
    refine XS.aloadN X3.here hx rfl (hb hby d14_31) rfl rfl ?_
    show Steps p.tables e below (T3.setTop (mkF m 32 #[.val (.ref a1), .unset] [(.ref a1)])) _
    refine st4.trans ?_
    show Steps p.tables e below (T4.setTop (mkF m 37 #[.val (.ref a1), .unset] [(.int (0 : Int32))])) _
    refine XS.ifYes X4.here hx rfl (pc0 := 37) (pc' := 44) rfl (hb hby d14_37) rfl ((if0 _ _).trans (teq (by decide : (0 : Int32) = (0 : Int32))).1) (by decide) (by decide) ?_
    show Steps p.tables e below (T4.setTop (mkF m 44 #[.val (.ref a1), .unset] [])) _
    refine XS.aloadN X4.here hx rfl (hb hby d14_44) rfl rfl ?_
    show Steps p.tables e below (T4.setTop (mkF m 45 #[.val (.ref a1), .unset] [(.ref a1)])) _
    refine st6.trans ?_
    show Steps p.tables e below (T6.setTop (mkF m 50 #[.val (.ref a1), .unset] [(.ref b7)])) _
    refine st12 _ ?_
    show Steps p.tables e below (T12.setTop (mkF m 53 #[.val (.ref a1), .unset] [(.ref b13)])) _
    exact own_retR X12 hx Bd.returns rfl rfl (hb hby d14_53) hr
  · show Q14c1 Z a1 k0 el0 w0 w5 w11 h0 n0 _ T12.heap _
    exact ⟨b13, rfl, N12, K14, sz_b13, Y12_0, Y12_1, Y12_2⟩
theorem d13_0 : decode jdk_40_method_48_code 0 = .ok (.aload_n 0, 1) := by decide +kernel
theorem d13_1 : decode jdk_40_method_48_code 1 = .ok (.invokestatic 112, 3) := by decide +kernel
theorem pd_16 : parseMethodDescriptor "(Ljava/util/Collection;)Ljava/util/List;" = some ⟨[(.object "java/util/Collection")], some (.object "java/util/List")⟩ := by decide +kernel
theorem d13_4 : decode jdk_40_method_48_code 4 = .ok (.areturn, 1) := by decide +kernel
def Q13c1 (Z : State) (a1 : Addr) (k0 : ClassId) (el0 w0 w2 w3 : Addr) (h0 : Heap) (n0 : Nat) (v : Option Value) (h : Heap) (L : List Loc) : Prop := ∃ b5 : Addr, v = some (.ref b5) ∧ Fr n0 L ∧ Keep h0 h [] ∧ h0.size ≤ b5 ∧ Exa Z h b5 "java/util/ImmutableCollections$List12" ∧ Fld Z h b5 "java/util/ImmutableCollections$List12" "e0" "Ljava/lang/Object;" (.ref el0) ∧ Fld Z h b5 "java/util/ImmutableCollections$List12" "e1" "Ljava/lang/Object;" (.ref w3)
theorem ef_13 (m : MethodId) (x0 : Addr) : entryFrame m #[(.ref x0)] 1 = mkF m 0 #[.val (.ref x0)] [] := by first | (simp [entryFrame, mkF, argsToLocals, Value.category]; done) | rfl
set_option maxRecDepth 65536 in
set_option maxHeartbeats 40000000 in
theorem rm13c1 (l : Launch) (Z : State) (a0 : Array Value) (hw : ∀ d ∈ tables_1, d.before a0 Z = true) (ws : List Jvm.Cond) (a1 : Addr) (k0 : ClassId) (el0 w0 w2 w3 : Addr) (h0 : Heap) (n0 : Nat) (O0 : Old Z n0 h0) (HE_a1 : Exa Z h0 a1 "java/util/ArrayList") (HF_a1_elementData : Fld Z h0 a1 "java/util/ArrayList" "elementData" "[Ljava/lang/Object;" (.ref w0)) (HF_a1_size : Fld Z h0 a1 "java/util/ArrayList" "size" "I" (.int (1 : Int32))) (HE_w0 : Exa Z h0 w0 "[Ljava/lang/Object;") (HV_w0 : Arv Z h0 w0 k0 (.object "java/lang/Object") (10 : Int32) [(.ref el0), .null, .null, .null, .null, .null, .null, .null, .null, .null] .null) (HI_el0 : Ins Z h0 el0 "java/lang/Object" true) (Mi__Ljava_lang_Object_ : own_Mir Z "[Ljava/lang/Object;" w2) (S_EMPTY : Sta Z Z.heap "java/util/ImmutableCollections" "EMPTY" "Ljava/lang/Object;" (.ref w3)) :
    MetFree l (⟨"java/util/List", "copyOf", "(Ljava/util/Collection;)Ljava/util/List;"⟩ : MethodName) (head1 (Jvm.Cond.code (⟨"java/util/List", "copyOf", "(Ljava/util/Collection;)Ljava/util/List;"⟩ : MethodName) jdk_40_method_48_code 1 (some (.object "java/util/List")) :: ws) ({ frames := 7, cells := 2, slots := 3, locals := 88 } : Room)) (fun a U => a = #[(.ref a1)] ∧ Z.Warmed39 U.vm ∧ U.heap = h0) (fun _ _ _ _ _ => True) (fun _ U o U' => ∃ v L, o = .returned v ∧ Q13c1 Z a1 k0 el0 w0 w2 w3 h0 n0 v U'.heap L ∧ FrameEnd U o U' L ({ frames := 7, cells := 2, slots := 3, locals := 88 } : Room).cells ({ frames := 7, cells := 2, slots := 3, locals := 88 } : Room).slots) := by
  refine MetFree.of_bodySF (plainFor_of_name pnc_java_util_List) hisR ?_
  intro p e s m args below meth c s₁ Bd hml0 hP hK
  obtain ⟨rfl, hZ, hh⟩ := hP
  have hx := Bd.exec
  have hby := Bd.bytes
  have hml : c.maxLocals = 1 := hml0
  have hown : s.vm.findClass "java/util/List" = some m.cls := findClass_of_methodNamed Bd.named
  have hnm := (name_of_methodNamed Bd.named Bd.method).1
  have X0 : Stand p l e ({ frames := 7, cells := 2, slots := 3, locals := 88 } : Room) s m #[(.ref a1)] below meth c s₁ [] 0 0 := Stand.of_body Bd
  have e0 : s₁.heap = h0 := by rw [← hh, Bd.state]; rfl
  have N0 := Fr.nil n0
  have Z0 : n0 ≤ h0.size := O0.1 ▸ O0.2.1
  have pre0 : ∀ t, Steps p.tables e below (s₁.setTop (mkF m 0 #[.val (.ref a1)] [])) t → Steps p.tables e below (s₁.setTop (entryFrame m #[(.ref a1)] 1)) t := fun t k => castTop (ef_13 m a1) k
  obtain ⟨vr4, _, ⟨T4, L4, k4, n4⟩, -, X4, ⟨Lc4, hQ4, l4, y4, z4⟩, st4⟩ := Jvm.LawKit.callS X0 hx (y := (⟨"java/util/ImmutableCollections", "listCopy", "(Ljava/util/Collection;)Ljava/util/List;"⟩ : MethodName)) hown (mvT hZ (hw _ (List.mem_of_getElem? (i := 96) rfl))) (mvT hZ (hw _ (List.mem_of_getElem? (i := 97) rfl))) (mvT hZ (hw _ (List.mem_of_getElem? (i := 98) rfl))) (mvT hZ (hw _ (List.mem_of_getElem? (i := 99) rfl))) (by decide) (backOf (W := 0) (rm14c1 l Z a0 hw [] a1 k0 el0 w0 w2 w3 h0 n0 O0 HE_a1 HF_a1_elementData HF_a1_size HE_w0 HV_w0 HI_el0 Mi__Ljava_lang_Object_ S_EMPTY) hZ (hw _ (List.mem_of_getElem? (i := 99) rfl)) (hw _ (List.mem_of_getElem? (i := 98) rfl)) (by decide) (by decide)) (g := (mkF m 1 #[.val (.ref a1)] [(.ref a1)])) rfl (by rw [hml]; rfl) (argsL := [(.ref a1)]) (rest := []) (lenOf pd_16 rfl) rfl (by show 2 * 0 + _ ≤ _; exact Nat.le_of_eq rfl) (hb hby d13_1) (fun _ _ => ⟨rfl, e0, (by decide : 0 + 2 ≤ _), (by decide : 0 + 3 ≤ _)⟩)
  dsimp only [Pt.U, Pt.locs, Pt.cells, Pt.slots] at X4 l4 y4 z4 st4 hQ4
  subst l4 y4 z4
  obtain ⟨b5, rfl, N4q, K4, Y4_z0, Y4_0, Y4_1, Y4_2⟩ := hQ4
  have N4 := Fr.app N0 N4q
  replace X4 := X4.more (cells' := 2) (slots' := 3) (by decide) (by decide)
  have g_b5 : n0 ≤ b5 := Nat.le_trans (Nat.le_trans Z0 (Keep.refl h0 []).1) Y4_z0
  have sz_b5 : h0.size ≤ b5 := Nat.le_trans (Keep.refl h0 []).1 Y4_z0
  have K6 : Keep h0 T4.heap [] := (Keep.refl h0 []).trans K4 all0
  have O7 : Old Z n0 T4.heap := O0.keep K4 all0
  obtain ⟨fs, hr, hrun, hended, hW, hsame⟩ := X4.leave (v := some (.ref b5)) (fun h => by rw [Bd.returns] at h; cases h)
  refine ⟨_, _, pre0 _ ?_, hrun, hended, _, _, rfl, ?_, ⟨_, rfl⟩, hW, hsame.mono (by decide) (by decide)⟩
  · show Steps p.tables e below (s₁.setTop (mkF m 0 #[.val (.ref a1)] [])) _
    refine XS.aloadN X0.here hx rfl (hb hby d13_0) rfl rfl ?_
    show Steps p.tables e below (s₁.setTop (mkF m 1 #[.val (.ref a1)] [(.ref a1)])) _
    refine st4 _ ?_
    show Steps p.tables e below (T4.setTop (mkF m 4 #[.val (.ref a1)] [(.ref b5)])) _
    exact own_retR X4 hx Bd.returns rfl rfl (hb hby d13_4) hr
  · show Q13c1 Z a1 k0 el0 w0 w2 w3 h0 n0 _ T4.heap _
    exact ⟨b5, rfl, N4, K6, sz_b5, Y4_0, Y4_1, Y4_2⟩
def Q18c2 (Z : State) (a1 a2 : Addr) (k0 : ClassId) (el0 el1 w3 : Addr) (h0 : Heap) (n0 : Nat) (v : Option Value) (h : Heap) (L : List Loc) : Prop := ∃ b5 : Addr, ∃ k5 : ClassId, v = some (.ref b5) ∧ Fr n0 L ∧ Keep h0 h [] ∧ h0.size ≤ b5 ∧ Exa Z h b5 "[Ljava/lang/Object;" ∧ Arv Z h b5 k5 (.object "java/lang/Object") (2 : Int32) [(.ref el0), (.ref el1)] .null ∧ Ovr Z k5 "java/lang/Object"
theorem ef_18a__2___Int32__a (m : MethodId) (x0 : Addr) (x2 : Addr) : entryFrame m #[(.ref x0), (.int (2 : Int32)), (.ref x2)] 4 = mkF m 0 #[.val (.ref x0), .val (.int (2 : Int32)), .val (.ref x2), .unset] [] := by first | (simp [entryFrame, mkF, argsToLocals, Value.category]; done) | rfl
set_option maxRecDepth 65536 in
set_option maxHeartbeats 40000000 in
theorem rm18c2 (l : Launch) (Z : State) (a0 : Array Value) (hw : ∀ d ∈ tables_1, d.before a0 Z = true) (ws : List Jvm.Cond) (a1 a2 : Addr) (k0 : ClassId) (el0 el1 w3 : Addr) (h0 : Heap) (n0 : Nat) (O0 : Old Z n0 h0) (HV_a1 : Arv Z h0 a1 k0 (.object "java/lang/Object") (10 : Int32) [(.ref el0), (.ref el1), .null, .null, .null, .null, .null, .null, .null, .null] .null) (HI_el0 : Ins Z h0 el0 "java/lang/Object" true) (HI_el1 : Ins Z h0 el1 "java/lang/Object" true) (Mi__Ljava_lang_Object_ : own_Mir Z "[Ljava/lang/Object;" w3) (ha3 : a2 = w3) :
    MetFree l (⟨"java/util/Arrays", "copyOf", "([Ljava/lang/Object;ILjava/lang/Class;)[Ljava/lang/Object;"⟩ : MethodName) (head1 (Jvm.Cond.code (⟨"java/util/Arrays", "copyOf", "([Ljava/lang/Object;ILjava/lang/Class;)[Ljava/lang/Object;"⟩ : MethodName) jdk_65_method_120_code 4 (some (.array (.object "java/lang/Object"))) :: ws) ({ frames := 1, cells := 1, slots := 2, locals := 18 } : Room)) (fun a U => a = #[(.ref a1), (.int (2 : Int32)), (.ref a2)] ∧ Z.Warmed39 U.vm ∧ U.heap = h0) (fun _ _ _ _ _ => True) (fun _ U o U' => ∃ v L, o = .returned v ∧ Q18c2 Z a1 a2 k0 el0 el1 w3 h0 n0 v U'.heap L ∧ FrameEnd U o U' L ({ frames := 1, cells := 1, slots := 2, locals := 18 } : Room).cells ({ frames := 1, cells := 1, slots := 2, locals := 18 } : Room).slots) := by
  refine MetFree.of_bodySF (plainFor_of_name pnc_java_util_Arrays) hisR ?_
  intro p e s m args below meth c s₁ Bd hml0 hP hK
  obtain ⟨rfl, hZ, hh⟩ := hP
  have hx := Bd.exec
  have hby := Bd.bytes
  have hml : c.maxLocals = 4 := hml0
  have hown : s.vm.findClass "java/util/Arrays" = some m.cls := findClass_of_methodNamed Bd.named
  have hnm := (name_of_methodNamed Bd.named Bd.method).1
  have X0 : Stand p l e ({ frames := 1, cells := 1, slots := 2, locals := 18 } : Room) s m #[(.ref a1), (.int (2 : Int32)), (.ref a2)] below meth c s₁ [] 0 0 := Stand.of_body Bd
  have e0 : s₁.heap = h0 := by rw [← hh, Bd.state]; rfl
  have N0 := Fr.nil n0
  have Z0 : n0 ≤ h0.size := O0.1 ▸ O0.2.1
  have pre0 : ∀ t, Steps p.tables e below (s₁.setTop (mkF m 0 #[.val (.ref a1), .val (.int (2 : Int32)), .val (.ref a2), .unset] [])) t → Steps p.tables e below (s₁.setTop (entryFrame m #[(.ref a1), (.int (2 : Int32)), (.ref a2)] 4)) t := fun t k => castTop (ef_18a__2___Int32__a m a1 a2) k
  obtain ⟨T4, X4, e4, st4⟩ := own_ldcM X0 hx hZ hown (hw _ (List.mem_of_getElem? (i := 136) rfl)) e0 Mi__Ljava_lang_Object_ (g := (mkF m 1 #[.val (.ref a1), .val (.int (2 : Int32)), .val (.ref a2), .unset] [(.ref a2)])) rfl (hb hby d18_1)
  obtain ⟨T5, h5, k5, X5, e5, E5, A5, B5, Ov5, st5⟩ := newRE X4 hx hZ hown (hw _ (List.mem_of_getElem? (i := 137) rfl)) (hw _ (List.mem_of_getElem? (i := 73) rfl)) e4 (g := (mkF m 7 #[.val (.ref a1), .val (.int (2 : Int32)), .val (.ref a2), .unset] [(.int (2 : Int32))])) rfl (hb hby d18_7) rfl (by decide) (cap := 2) (by decide) (by decide) (by decide) (by decide) (ad := "[Ljava/lang/Object;") (by decide)
  obtain ⟨b5, g5⟩ : ∃ z, z = h0.size := ⟨_, rfl⟩
  rw [← g5] at A5 B5 st5
  have g_b5 : n0 ≤ b5 := Nat.le_trans (Nat.le_trans Z0 (Keep.refl h0 []).1) (Nat.le_of_eq g5.symm)
  have sz_b5 : h0.size ≤ b5 := Nat.le_trans (Keep.refl h0 []).1 (Nat.le_of_eq g5.symm)
  have K6 : Keep h0 h5 [] := (Keep.refl h0 []).ext E5
  have O7 : Old Z n0 h5 := O0.ext E5
  have V5 : Arv Z h5 b5 k5 (.object "java/lang/Object") (2 : Int32) [.null, .null] .null := (Arv.new A5 (by decide)).pad (pad_rep [] .null 2)
  replace X5 := X5.more (cells' := 1) (slots' := 2) (by decide) (by decide)
  have f8 := (HV_a1.ext E5)
  obtain ⟨cl9, Ar9, q9, S9, Nn9, Hh9, G9⟩ := id f8
  obtain ⟨vr10, _, ⟨T10, L10, k10, n10⟩, -, X10, ⟨Lc10, hQ10, l10, y10, z10⟩, st10⟩ := Jvm.LawKit.callS X5 hx (y := (⟨"java/lang/Math", "min", "(II)I"⟩ : MethodName)) hown (mvT hZ (hw _ (List.mem_of_getElem? (i := 138) rfl))) (mvT hZ (hw _ (List.mem_of_getElem? (i := 139) rfl))) (mvT hZ (hw _ (List.mem_of_getElem? (i := 70) rfl))) (mvT hZ (hw _ (List.mem_of_getElem? (i := 140) rfl))) (by decide) (backOf (W := 4) (rm19 l Z a0 hw [] ((10 : Int32)) ((2 : Int32)) h5 n0 O7 (by decide : (2 : Int32) < (10 : Int32))) hZ (hw _ (List.mem_of_getElem? (i := 140) rfl)) (hw _ (List.mem_of_getElem? (i := 70) rfl)) (by decide) (by decide)) (g := (mkF m 32 #[.val (.ref a1), .val (.int (2 : Int32)), .val (.ref a2), .val (.ref b5)] [(.int (2 : Int32)), (.int (10 : Int32)), (.int (0 : Int32)), (.ref b5), (.int (0 : Int32)), (.ref a1)])) rfl (by rw [hml]; rfl) (argsL := [(.int (10 : Int32)), (.int (2 : Int32))]) (rest := [(.int (0 : Int32)), (.ref b5), (.int (0 : Int32)), (.ref a1)]) (lenOf pd_7 rfl) rfl (by show 2 * 0 + _ ≤ _; exact Nat.le_of_eq rfl) (hb hby d18_32) (fun _ _ => ⟨rfl, e5, (by decide : 1 + 0 ≤ _), (by decide : 2 + 0 ≤ _)⟩)
  dsimp only [Pt.U, Pt.locs, Pt.cells, Pt.slots] at X10 l10 y10 z10 st10 hQ10
  subst l10 y10 z10
  obtain ⟨rfl, N10q, e10⟩ := hQ10
  have N10 := Fr.app N0 N10q
  replace X10 := X10.more (cells' := 1) (slots' := 2) (by decide) (by decide)
  obtain ⟨cl11, Ar11, q11, S11, Nn11, Hh11, G11⟩ := id V5
  have f12 := (HI_el0.ext E5)
  have f13 := (HI_el1.ext E5)
  have sl11 : StoL Z h5 b5 [(.ref el0), (.ref el1)] := ⟨Sto.ofV Ar11 q11 Ov5 f12, Sto.ofV Ar11 q11 Ov5 f13, trivial⟩
  obtain ⟨T14, h14, L14, X14, e14, N14, Kc14, V14, st14⟩ := cpA X10 hx hZ hown (hw _ (List.mem_of_getElem? (i := 141) rfl)) (hw _ (List.mem_of_getElem? (i := 144) rfl)) (hw _ (List.mem_of_getElem? (i := 142) rfl)) (hw _ (List.mem_of_getElem? (i := 143) rfl)) e10 f8 V5 (us := [(.ref el0), (.ref el1)]) (Or.inr ⟨rfl, rfl, sl11⟩) (sp := (0 : Int32)) (dp := (0 : Int32)) (nn := (2 : Int32)) (by decide) (by decide) (by decide) (by decide) (by decide) rfl (by decide) N10 g_b5 (g := (mkF m 35 #[.val (.ref a1), .val (.int (2 : Int32)), .val (.ref a2), .val (.ref b5)] [(.int (2 : Int32)), (.int (0 : Int32)), (.ref b5), (.int (0 : Int32)), (.ref a1)])) rfl (by rw [hml]; rfl) (rest := []) rfl (hb hby d18_35) (by decide) (W := 0) (by show 2 * 0 + _ ≤ _; exact Nat.le_of_eq rfl) (by decide)
  have K15 : Keep h0 h14 [] := K6.trans Kc14 (allS (Or.inr sz_b5) all0)
  have O16 : Old Z n0 h14 := O7.keep Kc14 (allS g_b5 all0)
  have Vc14 : Arv Z h14 b5 k5 (.object "java/lang/Object") (2 : Int32) [(.ref el0), (.ref el1)] .null := V14
  have f17 := (B5.keep Kc14)
  have f18 := Ov5
  obtain ⟨fs, hr, hrun, hended, hW, hsame⟩ := X14.leave (v := some (.ref b5)) (fun h => by rw [Bd.returns] at h; cases h)
  refine ⟨_, _, pre0 _ ?_, hrun, hended, _, _, rfl, ?_, ⟨_, rfl⟩, hW, hsame.mono (by decide) (by decide)⟩
  · show Steps p.tables e below (s₁.setTop (mkF m 0 #[.val (.ref a1), .val (.int (2 : Int32)), .val (.ref a2), .unset] [])) _
    refine XS.aloadN X0.here hx rfl (hb hby d18_0) rfl rfl ?_
    show Steps p.tables e below (s₁.setTop (mkF m 1 #[.val (.ref a1), .val (.int (2 : Int32)), .val (.ref a2), .unset] [(.ref a2)])) _
    refine st4 _ ?_
    show Steps p.tables e below (T4.setTop (mkF m 3 #[.val (.ref a1), .val (.int (2 : Int32)), .val (.ref a2), .unset] [(.ref w3), (.ref a2)])) _
    refine Jvm.RoadKit.acmp (g := (mkF m 3 #[.val (.ref a1), .val (.int (2 : Int32)), .val (.ref a2), .unset] [(.ref w3), (.ref a2)])) X4 hx rfl rfl rfl (pc0 := 3) (pc' := 6) (same := true) rfl (hb hby d18_3) rfl (decide_eq_true (congrArg Value.ref ha3)) (by decide) (by decide) ?_
    show Steps p.tables e below (T4.setTop (mkF m 6 #[.val (.ref a1), .val (.int (2 : Int32)), .val (.ref a2), .unset] [])) _
    refine XS.iloadN X4.here hx rfl (hb hby d18_6) rfl ?_
    show Steps p.tables e below (T4.setTop (mkF m 7 #[.val (.ref a1), .val (.int (2 : Int32)), .val (.ref a2), .unset] [(.int (2 : Int32))])) _
    refine st5 _ ?_
    show Steps p.tables e below (T5.setTop (mkF m 10 #[.val (.ref a1), .val (.int (2 : Int32)), .val (.ref a2), .unset] [(.ref b5)])) _
    refine XS.goto X5.here hx rfl (pc0 := 10) (pc' := 24) rfl (hb hby d18_10) (by decide) (by decide) ?_
    show Steps p.tables e below (T5.setTop (mkF m 24 #[.val (.ref a1), .val (.int (2 : Int32)), .val (.ref a2), .unset] [(.ref b5)])) _
    refine XS.astoreN X5.here hx rfl (hb hby d18_24) rfl rfl (l' := #[.val (.ref a1), .val (.int (2 : Int32)), .val (.ref a2), .val (.ref b5)]) rfl ?_
    show Steps p.tables e below (T5.setTop (mkF m 25 #[.val (.ref a1), .val (.int (2 : Int32)), .val (.ref a2), .val (.ref b5)] [])) _
    refine XS.aloadN X5.here hx rfl (hb hby d18_25) rfl rfl ?_
    show Steps p.tables e below (T5.setTop (mkF m 26 #[.val (.ref a1), .val (.int (2 : Int32)), .val (.ref a2), .val (.ref b5)] [(.ref a1)])) _
    refine XS.iconst X5.here hx rfl (hb hby d18_26) ?_
    show Steps p.tables e below (T5.setTop (mkF m 27 #[.val (.ref a1), .val (.int (2 : Int32)), .val (.ref a2), .val (.ref b5)] [(.int (0 : Int32)), (.ref a1)])) _
    refine XS.aloadN X5.here hx rfl (hb hby d18_27) rfl rfl ?_
    show Steps p.tables e below (T5.setTop (mkF m 28 #[.val (.ref a1), .val (.int (2 : Int32)), .val (.ref a2), .val (.ref b5)] [(.ref b5), (.int (0 : Int32)), (.ref a1)])) _
    refine XS.iconst X5.here hx rfl (hb hby d18_28) ?_
    show Steps p.tables e below (T5.setTop (mkF m 29 #[.val (.ref a1), .val (.int (2 : Int32)), .val (.ref a2), .val (.ref b5)] [(.int (0 : Int32)), (.ref b5), (.int (0 : Int32)), (.ref a1)])) _
    refine XS.aloadN X5.here hx rfl (hb hby d18_29) rfl rfl ?_
    show Steps p.tables e below (T5.setTop (mkF m 30 #[.val (.ref a1), .val (.int (2 : Int32)), .val (.ref a2), .val (.ref b5)] [(.ref a1), (.int (0 : Int32)), (.ref b5), (.int (0 : Int32)), (.ref a1)])) _
    refine X5.arraylength hx (by rw [e5]; exact Ar9.1) (State.isArrayOf_alike hZ.alike Ar9.2.1) (g := (mkF m 30 #[.val (.ref a1), .val (.int (2 : Int32)), .val (.ref a2), .val (.ref b5)] [(.ref a1), (.int (0 : Int32)), (.ref b5), (.int (0 : Int32)), (.ref a1)])) rfl rfl (hb hby d18_30) _ ?_
    rw [len_of S9 Nn9]
    show Steps p.tables e below (T5.setTop (mkF m 31 #[.val (.ref a1), .val (.int (2 : Int32)), .val (.ref a2), .val (.ref b5)] [(.int (10 : Int32)), (.int (0 : Int32)), (.ref b5), (.int (0 : Int32)), (.ref a1)])) _
    refine XS.iloadN X5.here hx rfl (hb hby d18_31) rfl ?_
    show Steps p.tables e below (T5.setTop (mkF m 32 #[.val (.ref a1), .val (.int (2 : Int32)), .val (.ref a2), .val (.ref b5)] [(.int (2 : Int32)), (.int (10 : Int32)), (.int (0 : Int32)), (.ref b5), (.int (0 : Int32)), (.ref a1)])) _
    refine st10 _ ?_
    show Steps p.tables e below (T10.setTop (mkF m 35 #[.val (.ref a1), .val (.int (2 : Int32)), .val (.ref a2), .val (.ref b5)] [(.int (2 : Int32)), (.int (0 : Int32)), (.ref b5), (.int (0 : Int32)), (.ref a1)])) _
    refine st14 _ ?_
    show Steps p.tables e below (T14.setTop (mkF m 38 #[.val (.ref a1), .val (.int (2 : Int32)), .val (.ref a2), .val (.ref b5)] [])) _
    refine XS.aloadN X14.here hx rfl (hb hby d18_38) rfl rfl ?_
    show Steps p.tables e below (T14.setTop (mkF m 39 #[.val (.ref a1), .val (.int (2 : Int32)), .val (.ref a2), .val (.ref b5)] [(.ref b5)])) _
    exact own_retR X14 hx Bd.returns rfl rfl (hb hby d18_39) hr
  · show Q18c2 Z a1 a2 k0 el0 el1 w3 h0 n0 _ T14.heap _
    rw [e14]
    exact ⟨b5, k5, rfl, N14, K15, sz_b5, f17, Vc14, f18⟩
def Q17c2 (Z : State) (a1 : Addr) (k0 : ClassId) (el0 el1 w2 : Addr) (h0 : Heap) (n0 : Nat) (v : Option Value) (h : Heap) (L : List Loc) : Prop := ∃ b5 : Addr, ∃ k6 : ClassId, v = some (.ref b5) ∧ Fr n0 L ∧ Keep h0 h [] ∧ h0.size ≤ b5 ∧ Exa Z h b5 "[Ljava/lang/Object;" ∧ Arv Z h b5 k6 (.object "java/lang/Object") (2 : Int32) [(.ref el0), (.ref el1)] .null ∧ Ovr Z k6 "java/lang/Object"
theorem ef_17a__2___Int32__ (m : MethodId) (x0 : Addr) : entryFrame m #[(.ref x0), (.int (2 : Int32))] 2 = mkF m 0 #[.val (.ref x0), .val (.int (2 : Int32))] [] := by first | (simp [entryFrame, mkF, argsToLocals, Value.category]; done) | rfl
set_option maxRecDepth 65536 in
set_option maxHeartbeats 40000000 in
theorem rm17c2 (l : Launch) (Z : State) (a0 : Array Value) (hw : ∀ d ∈ tables_1, d.before a0 Z = true) (ws : List Jvm.Cond) (a1 : Addr) (k0 : ClassId) (el0 el1 w2 : Addr) (h0 : Heap) (n0 : Nat) (O0 : Old Z n0 h0) (HE_a1 : Exa Z h0 a1 "[Ljava/lang/Object;") (HV_a1 : Arv Z h0 a1 k0 (.object "java/lang/Object") (10 : Int32) [(.ref el0), (.ref el1), .null, .null, .null, .null, .null, .null, .null, .null] .null) (HI_el0 : Ins Z h0 el0 "java/lang/Object" true) (HI_el1 : Ins Z h0 el1 "java/lang/Object" true) (Mi__Ljava_lang_Object_ : own_Mir Z "[Ljava/lang/Object;" w2) :
    MetFree l (⟨"java/util/Arrays", "copyOf", "([Ljava/lang/Object;I)[Ljava/lang/Object;"⟩ : MethodName) (head1 (Jvm.Cond.code (⟨"java/util/Arrays", "copyOf", "([Ljava/lang/Object;I)[Ljava/lang/Object;"⟩ : MethodName) jdk_65_method_119_code 2 (some (.array (.object "java/lang/Object"))) :: ws) ({ frames := 2, cells := 1, slots := 2, locals := 33 } : Room)) (fun a U => a = #[(.ref a1), (.int (2 : Int32))] ∧ Z.Warmed39 U.vm ∧ U.heap = h0) (fun _ _ _ _ _ => True) (fun _ U o U' => ∃ v L, o = .returned v ∧ Q17c2 Z a1 k0 el0 el1 w2 h0 n0 v U'.heap L ∧ FrameEnd U o U' L ({ frames := 2, cells := 1, slots := 2, locals := 33 } : Room).cells ({ frames := 2, cells := 1, slots := 2, locals := 33 } : Room).slots) := by
  refine MetFree.of_bodySF (plainFor_of_name pnc_java_util_Arrays) hisR ?_
  intro p e s m args below meth c s₁ Bd hml0 hP hK
  obtain ⟨rfl, hZ, hh⟩ := hP
  have hx := Bd.exec
  have hby := Bd.bytes
  have hml : c.maxLocals = 2 := hml0
  have hown : s.vm.findClass "java/util/Arrays" = some m.cls := findClass_of_methodNamed Bd.named
  have hnm := (name_of_methodNamed Bd.named Bd.method).1
  have X0 : Stand p l e ({ frames := 2, cells := 1, slots := 2, locals := 33 } : Room) s m #[(.ref a1), (.int (2 : Int32))] below meth c s₁ [] 0 0 := Stand.of_body Bd
  have e0 : s₁.heap = h0 := by rw [← hh, Bd.state]; rfl
  have N0 := Fr.nil n0
  have Z0 : n0 ≤ h0.size := O0.1 ▸ O0.2.1
  have pre0 : ∀ t, Steps p.tables e below (s₁.setTop (mkF m 0 #[.val (.ref a1), .val (.int (2 : Int32))] [])) t → Steps p.tables e below (s₁.setTop (entryFrame m #[(.ref a1), (.int (2 : Int32))] 2)) t := fun t k => castTop (ef_17a__2___Int32__ m a1) k
  obtain ⟨T3, X3, e3, st3⟩ := own_gcls X0 hx hZ hown (hw _ (List.mem_of_getElem? (i := 127) rfl)) (hw _ (List.mem_of_getElem? (i := 128) rfl)) (hw _ (List.mem_of_getElem? (i := 104) rfl)) (hw _ (List.mem_of_getElem? (i := 130) rfl)) (hw _ (List.mem_of_getElem? (i := 129) rfl)) (hw _ (List.mem_of_getElem? (i := 131) rfl)) e0 HE_a1 Mi__Ljava_lang_Object_ (g := (mkF m 3 #[.val (.ref a1), .val (.int (2 : Int32))] [(.ref a1), (.int (2 : Int32)), (.ref a1)])) rfl (by rw [hml]; rfl) rfl (hb hby d17_3) (by decide) (W := 2) (by show 2 * 0 + _ ≤ _; exact Nat.le_of_eq rfl) (by decide)
  obtain ⟨vr4, _, ⟨T4, L4, k4, n4⟩, -, X4, ⟨Lc4, hQ4, l4, y4, z4⟩, st4⟩ := Jvm.LawKit.callS X3 hx (y := (⟨"java/util/Arrays", "copyOf", "([Ljava/lang/Object;ILjava/lang/Class;)[Ljava/lang/Object;"⟩ : MethodName)) hown (mvT hZ (hw _ (List.mem_of_getElem? (i := 133) rfl))) (mvT hZ (hw _ (List.mem_of_getElem? (i := 134) rfl))) (mvT hZ (hw _ (List.mem_of_getElem? (i := 125) rfl))) (mvT hZ (hw _ (List.mem_of_getElem? (i := 135) rfl))) (by decide) (backOf (W := 0) (rm18c2 l Z a0 hw [] a1 w2 k0 el0 el1 w2 h0 n0 O0 HV_a1 HI_el0 HI_el1 Mi__Ljava_lang_Object_ (rfl : w2 = w2)) hZ (hw _ (List.mem_of_getElem? (i := 135) rfl)) (hw _ (List.mem_of_getElem? (i := 125) rfl)) (by decide) (by decide)) (g := (mkF m 6 #[.val (.ref a1), .val (.int (2 : Int32))] [(.ref w2), (.int (2 : Int32)), (.ref a1)])) rfl (by rw [hml]; rfl) (argsL := [(.ref a1), (.int (2 : Int32)), (.ref w2)]) (rest := []) (lenOf pd_19 rfl) rfl (by show 2 * 0 + _ ≤ _; exact Nat.le_of_eq rfl) (hb hby d17_6) (fun _ _ => ⟨rfl, e3, (by decide : 0 + 1 ≤ _), (by decide : 0 + 2 ≤ _)⟩)
  dsimp only [Pt.U, Pt.locs, Pt.cells, Pt.slots] at X4 l4 y4 z4 st4 hQ4
  subst l4 y4 z4
  obtain ⟨b5, k6, rfl, N4q, K4, Y4_z0, Y4_0, Y4_1, Y4_2⟩ := hQ4
  have N4 := Fr.app N0 N4q
  replace X4 := X4.more (cells' := 1) (slots' := 2) (by decide) (by decide)
  have g_b5 : n0 ≤ b5 := Nat.le_trans (Nat.le_trans Z0 (Keep.refl h0 []).1) Y4_z0
  have sz_b5 : h0.size ≤ b5 := Nat.le_trans (Keep.refl h0 []).1 Y4_z0
  have K7 : Keep h0 T4.heap [] := (Keep.refl h0 []).trans K4 all0
  have O8 : Old Z n0 T4.heap := O0.keep K4 all0
  obtain ⟨fs, hr, hrun, hended, hW, hsame⟩ := X4.leave (v := some (.ref b5)) (fun h => by rw [Bd.returns] at h; cases h)
  refine ⟨_, _, pre0 _ ?_, hrun, hended, _, _, rfl, ?_, ⟨_, rfl⟩, hW, hsame.mono (by decide) (by decide)⟩
  · show Steps p.tables e below (s₁.setTop (mkF m 0 #[.val (.ref a1), .val (.int (2 : Int32))] [])) _
    refine XS.aloadN X0.here hx rfl (hb hby d17_0) rfl rfl ?_
    show Steps p.tables e below (s₁.setTop (mkF m 1 #[.val (.ref a1), .val (.int (2 : Int32))] [(.ref a1)])) _
    refine XS.iloadN X0.here hx rfl (hb hby d17_1) rfl ?_
    show Steps p.tables e below (s₁.setTop (mkF m 2 #[.val (.ref a1), .val (.int (2 : Int32))] [(.int (2 : Int32)), (.ref a1)])) _
    refine XS.aloadN X0.here hx rfl (hb hby d17_2) rfl rfl ?_
    show Steps p.tables e below (s₁.setTop (mkF m 3 #[.val (.ref a1), .val (.int (2 : Int32))] [(.ref a1), (.int (2 : Int32)), (.ref a1)])) _
    refine st3 _ ?_
    show Steps p.tables e below (T3.setTop (mkF m 6 #[.val (.ref a1), .val (.int (2 : Int32))] [(.ref w2), (.int (2 : Int32)), (.ref a1)])) _
    refine st4 _ ?_
    show Steps p.tables e below (T4.setTop (mkF m 9 #[.val (.ref a1), .val (.int (2 : Int32))] [(.ref b5)])) _
    exact own_retR X4 hx Bd.returns rfl rfl (hb hby d17_9) hr
  · show Q17c2 Z a1 k0 el0 el1 w2 h0 n0 _ T4.heap _
    exact ⟨b5, k6, rfl, N4, K7, sz_b5, Y4_0, Y4_1, Y4_2⟩
def Q16c2 (Z : State) (a1 : Addr) (k0 : ClassId) (el0 el1 w0 w4 : Addr) (h0 : Heap) (n0 : Nat) (v : Option Value) (h : Heap) (L : List Loc) : Prop := ∃ b6 : Addr, ∃ k7 : ClassId, v = some (.ref b6) ∧ Fr n0 L ∧ Keep h0 h [] ∧ h0.size ≤ b6 ∧ Exa Z h b6 "[Ljava/lang/Object;" ∧ Arv Z h b6 k7 (.object "java/lang/Object") (2 : Int32) [(.ref el0), (.ref el1)] .null ∧ Ovr Z k7 "java/lang/Object"
set_option maxRecDepth 65536 in
set_option maxHeartbeats 40000000 in
theorem rm16c2 (l : Launch) (Z : State) (a0 : Array Value) (hw : ∀ d ∈ tables_1, d.before a0 Z = true) (ws : List Jvm.Cond) (a1 : Addr) (k0 : ClassId) (el0 el1 w0 w4 : Addr) (h0 : Heap) (n0 : Nat) (O0 : Old Z n0 h0) (HF_a1_elementData : Fld Z h0 a1 "java/util/ArrayList" "elementData" "[Ljava/lang/Object;" (.ref w0)) (HF_a1_size : Fld Z h0 a1 "java/util/ArrayList" "size" "I" (.int (2 : Int32))) (HE_w0 : Exa Z h0 w0 "[Ljava/lang/Object;") (HV_w0 : Arv Z h0 w0 k0 (.object "java/lang/Object") (10 : Int32) [(.ref el0), (.ref el1), .null, .null, .null, .null, .null, .null, .null, .null] .null) (HI_el0 : Ins Z h0 el0 "java/lang/Object" true) (HI_el1 : Ins Z h0 el1 "java/lang/Object" true) (Mi__Ljava_lang_Object_ : own_Mir Z "[Ljava/lang/Object;" w4) :
    MetFree l (⟨"java/util/ArrayList", "toArray", "()[Ljava/lang/Object;"⟩ : MethodName) (head1 (Jvm.Cond.code (⟨"java/util/ArrayList", "toArray", "()[Ljava/lang/Object;"⟩ : MethodName) jdk_38_method_16_code 1 (some (.array (.object "java/lang/Object"))) :: ws) ({ frames := 3, cells := 1, slots := 2, locals := 46 } : Room)) (fun a U => a = #[(.ref a1)] ∧ Z.Warmed39 U.vm ∧ U.heap = h0) (fun _ _ _ _ _ => True) (fun _ U o U' => ∃ v L, o = .returned v ∧ Q16c2 Z a1 k0 el0 el1 w0 w4 h0 n0 v U'.heap L ∧ FrameEnd U o U' L ({ frames := 3, cells := 1, slots := 2, locals := 46 } : Room).cells ({ frames := 3, cells := 1, slots := 2, locals := 46 } : Room).slots) := by
  refine MetFree.of_bodySF (plainFor_of_name pnc_java_util_ArrayList) hisR ?_
  intro p e s m args below meth c s₁ Bd hml0 hP hK
  obtain ⟨rfl, hZ, hh⟩ := hP
  have hx := Bd.exec
  have hby := Bd.bytes
  have hml : c.maxLocals = 1 := hml0
  have hown : s.vm.findClass "java/util/ArrayList" = some m.cls := findClass_of_methodNamed Bd.named
  have hnm := (name_of_methodNamed Bd.named Bd.method).1
  have X0 : Stand p l e ({ frames := 3, cells := 1, slots := 2, locals := 46 } : Room) s m #[(.ref a1)] below meth c s₁ [] 0 0 := Stand.of_body Bd
  have e0 : s₁.heap = h0 := by rw [← hh, Bd.state]; rfl
  have N0 := Fr.nil n0
  have Z0 : n0 ≤ h0.size := O0.1 ▸ O0.2.1
  have pre0 : ∀ t, Steps p.tables e below (s₁.setTop (mkF m 0 #[.val (.ref a1)] [])) t → Steps p.tables e below (s₁.setTop (entryFrame m #[(.ref a1)] 1)) t := fun t k => castTop (ef_16 m a1) k
  obtain ⟨T2, X2, e2, st2⟩ := getF X0 hx hZ hown (host := "") (Or.inl (hw _ (List.mem_of_getElem? (i := 42) rfl))) Via.refl e0 HF_a1_elementData (g := (mkF m 1 #[.val (.ref a1)] [(.ref a1)])) rfl rfl (hb hby d16_1)
  obtain ⟨T3, X3, e3, st3⟩ := getF X2 hx hZ hown (host := "") (Or.inl (hw _ (List.mem_of_getElem? (i := 51) rfl))) Via.refl e2 HF_a1_size (g := (mkF m 5 #[.val (.ref a1)] [(.ref a1), (.ref w0)])) rfl rfl (hb hby d16_5)
  obtain ⟨vr5, _, ⟨T5, L5, k5, n5⟩, -, X5, ⟨Lc5, hQ5, l5, y5, z5⟩, st5⟩ := Jvm.LawKit.callS X3 hx (y := (⟨"java/util/Arrays", "copyOf", "([Ljava/lang/Object;I)[Ljava/lang/Object;"⟩ : MethodName)) hown (mvT hZ (hw _ (List.mem_of_getElem? (i := 123) rfl))) (mvT hZ (hw _ (List.mem_of_getElem? (i := 124) rfl))) (mvT hZ (hw _ (List.mem_of_getElem? (i := 125) rfl))) (mvT hZ (hw _ (List.mem_of_getElem? (i := 126) rfl))) (by decide) (backOf (W := 0) (rm17c2 l Z a0 hw [] w0 k0 el0 el1 w4 h0 n0 O0 HE_w0 HV_w0 HI_el0 HI_el1 Mi__Ljava_lang_Object_) hZ (hw _ (List.mem_of_getElem? (i := 126) rfl)) (hw _ (List.mem_of_getElem? (i := 125) rfl)) (by decide) (by decide)) (g := (mkF m 8 #[.val (.ref a1)] [(.int (2 : Int32)), (.ref w0)])) rfl (by rw [hml]; rfl) (argsL := [(.ref w0), (.int (2 : Int32))]) (rest := []) (lenOf pd_18 rfl) rfl (by show 2 * 0 + _ ≤ _; exact Nat.le_of_eq rfl) (hb hby d16_8) (fun _ _ => ⟨rfl, e3, (by decide : 0 + 1 ≤ _), (by decide : 0 + 2 ≤ _)⟩)
  dsimp only [Pt.U, Pt.locs, Pt.cells, Pt.slots] at X5 l5 y5 z5 st5 hQ5
  subst l5 y5 z5
  obtain ⟨b6, k7, rfl, N5q, K5, Y5_z0, Y5_0, Y5_1, Y5_2⟩ := hQ5
  have N5 := Fr.app N0 N5q
  replace X5 := X5.more (cells' := 1) (slots' := 2) (by decide) (by decide)
  have g_b6 : n0 ≤ b6 := Nat.le_trans (Nat.le_trans Z0 (Keep.refl h0 []).1) Y5_z0
  have sz_b6 : h0.size ≤ b6 := Nat.le_trans (Keep.refl h0 []).1 Y5_z0
  have K8 : Keep h0 T5.heap [] := (Keep.refl h0 []).trans K5 all0
  have O9 : Old Z n0 T5.heap := O0.keep K5 all0
  obtain ⟨fs, hr, hrun, hended, hW, hsame⟩ := X5.leave (v := some (.ref b6)) (fun h => by rw [Bd.returns] at h; cases h)
  refine ⟨_, _, pre0 _ ?_, hrun, hended, _, _, rfl, ?_, ⟨_, rfl⟩, hW, hsame.mono (by decide) (by decide)⟩
  · show Steps p.tables e below (s₁.setTop (mkF m 0 #[.val (.ref a1)] [])) _
    refine XS.aloadN X0.here hx rfl (hb hby d16_0) rfl rfl ?_
    show Steps p.tables e below (s₁.setTop (mkF m 1 #[.val (.ref a1)] [(.ref a1)])) _
    refine st2 _ ?_
    show Steps p.tables e below (T2.setTop (mkF m 4 #[.val (.ref a1)] [(.ref w0)])) _
    refine XS.aloadN X2.here hx rfl (hb hby d16_4) rfl rfl ?_
    show Steps p.tables e below (T2.setTop (mkF m 5 #[.val (.ref a1)] [(.ref a1), (.ref w0)])) _
    refine st3 _ ?_
    show Steps p.tables e below (T3.setTop (mkF m 8 #[.val (.ref a1)] [(.int (2 : Int32)), (.ref w0)])) _
    refine st5 _ ?_
    show Steps p.tables e below (T5.setTop (mkF m 11 #[.val (.ref a1)] [(.ref b6)])) _
    exact own_retR X5 hx Bd.returns rfl rfl (hb hby d16_11) hr
  · show Q16c2 Z a1 k0 el0 el1 w0 w4 h0 n0 _ T5.heap _
    exact ⟨b6, k7, rfl, N5, K8, sz_b6, Y5_0, Y5_1, Y5_2⟩
theorem d30_0 : decode jdk_44_method_2_code 0 = .ok (.aload_n 0, 1) := by decide +kernel
theorem d30_1 : decode jdk_44_method_2_code 1 = .ok (.invokespecial 1, 3) := by decide +kernel
theorem d30_4 : decode jdk_44_method_2_code 4 = .ok (.aload_n 0, 1) := by decide +kernel
theorem d30_5 : decode jdk_44_method_2_code 5 = .ok (.aload_n 1, 1) := by decide +kernel
theorem d30_6 : decode jdk_44_method_2_code 6 = .ok (.invokestatic 7, 3) := by decide +kernel
theorem d30_9 : decode jdk_44_method_2_code 9 = .ok (.putfield 13, 3) := by decide +kernel
theorem d30_12 : decode jdk_44_method_2_code 12 = .ok (.aload_n 0, 1) := by decide +kernel
theorem d30_13 : decode jdk_44_method_2_code 13 = .ok (.aload_n 2, 1) := by decide +kernel
theorem d30_14 : decode jdk_44_method_2_code 14 = .ok (.invokestatic 7, 3) := by decide +kernel
theorem d30_17 : decode jdk_44_method_2_code 17 = .ok (.putfield 24, 3) := by decide +kernel
theorem d30_20 : decode jdk_44_method_2_code 20 = .ok (.return_, 1) := by decide +kernel
def Q30c2 (Z : State) (a1 a2 a3 : Addr) (u6 u12 : Value) (h0 : Heap) (n0 : Nat) (v : Option Value) (h : Heap) (L : List Loc) : Prop := v = none ∧ Fr n0 L ∧ Keep h0 h [a1] ∧ Exa Z h a1 "java/util/ImmutableCollections$List12" ∧ Fld Z h a1 "java/util/ImmutableCollections$List12" "e0" "Ljava/lang/Object;" (.ref a2) ∧ Fld Z h a1 "java/util/ImmutableCollections$List12" "e1" "Ljava/lang/Object;" (.ref a3)
theorem ef_30 (m : MethodId) (x0 : Addr) (x1 : Addr) (x2 : Addr) : entryFrame m #[(.ref x0), (.ref x1), (.ref x2)] 3 = mkF m 0 #[.val (.ref x0), .val (.ref x1), .val (.ref x2)] [] := by first | (simp [entryFrame, mkF, argsToLocals, Value.category]; done) | rfl
set_option maxRecDepth 65536 in
set_option maxHeartbeats 40000000 in
theorem rm30c2 (l : Launch) (Z : State) (a0 : Array Value) (hw : ∀ d ∈ tables_1, d.before a0 Z = true) (ws : List Jvm.Cond) (a1 a2 a3 : Addr) (u6 u12 : Value) (h0 : Heap) (n0 : Nat) (O0 : Old Z n0 h0) (HE_a1 : Exa Z h0 a1 "java/util/ImmutableCollections$List12") (HF_a1_e0 : Fld Z h0 a1 "java/util/ImmutableCollections$List12" "e0" "Ljava/lang/Object;" u6) (g_a1 : n0 ≤ a1) (HF_a1_e1 : Fld Z h0 a1 "java/util/ImmutableCollections$List12" "e1" "Ljava/lang/Object;" u12) :
    MetFree l (⟨"java/util/ImmutableCollections$List12", "<init>", "(Ljava/lang/Object;Ljava/lang/Object;)V"⟩ : MethodName) (head1 (Jvm.Cond.code (⟨"java/util/ImmutableCollections$List12", "<init>", "(Ljava/lang/Object;Ljava/lang/Object;)V"⟩ : MethodName) jdk_44_method_2_code 3 none :: ws) ({ frames := 4, cells := 0, slots := 0, locals := 48 } : Room)) (fun a U => a = #[(.ref a1), (.ref a2), (.ref a3)] ∧ Z.Warmed39 U.vm ∧ U.heap = h0) (fun _ _ _ _ _ => True) (fun _ U o U' => ∃ v L, o = .returned v ∧ Q30c2 Z a1 a2 a3 u6 u12 h0 n0 v U'.heap L ∧ FrameEnd U o U' L ({ frames := 4, cells := 0, slots := 0, locals := 48 } : Room).cells ({ frames := 4, cells := 0, slots := 0, locals := 48 } : Room).slots) := by
  refine MetFree.of_bodySF (plainFor_of_name pnc_java_util_ImmutableCollections_List12) hisR ?_
  intro p e s m args below meth c s₁ Bd hml0 hP hK
  obtain ⟨rfl, hZ, hh⟩ := hP
  have hx := Bd.exec
  have hby := Bd.bytes
  have hml : c.maxLocals = 3 := hml0
  have hown : s.vm.findClass "java/util/ImmutableCollections$List12" = some m.cls := findClass_of_methodNamed Bd.named
  have hnm := (name_of_methodNamed Bd.named Bd.method).1
  have X0 : Stand p l e ({ frames := 4, cells := 0, slots := 0, locals := 48 } : Room) s m #[(.ref a1), (.ref a2), (.ref a3)] below meth c s₁ [] 0 0 := Stand.of_body Bd
  have e0 : s₁.heap = h0 := by rw [← hh, Bd.state]; rfl
  have N0 := Fr.nil n0
  have Z0 : n0 ≤ h0.size := O0.1 ▸ O0.2.1
  have pre0 : ∀ t, Steps p.tables e below (s₁.setTop (mkF m 0 #[.val (.ref a1), .val (.ref a2), .val (.ref a3)] [])) t → Steps p.tables e below (s₁.setTop (entryFrame m #[(.ref a1), (.ref a2), (.ref a3)] 3)) t := fun t k => castTop (ef_30 m a1 a2 a3) k
  obtain ⟨vr4, _, ⟨T4, L4, k4, n4⟩, -, X4, ⟨Lc4, hQ4, l4, y4, z4⟩, st4⟩ := X0.specialBack hx (y := (⟨"java/util/ImmutableCollections$AbstractImmutableList", "<init>", "()V"⟩ : MethodName)) rfl hown (mvT hZ (hw _ (List.mem_of_getElem? (i := 155) rfl))) (mvT hZ (hw _ (List.mem_of_getElem? (i := 156) rfl))) (mvT hZ (hw _ (List.mem_of_getElem? (i := 160) rfl))) (by decide) (backOf (W := 0) (rm22 l Z a0 hw [] a1 h0 n0 O0) hZ (hw _ (List.mem_of_getElem? (i := 160) rfl)) (hw _ (List.mem_of_getElem? (i := 159) rfl)) (by decide) (by decide)) (g := (mkF m 1 #[.val (.ref a1), .val (.ref a2), .val (.ref a3)] [(.ref a1)])) rfl (by rw [hml]; rfl) (Steps.refl _) (a := a1) (argsL := []) (rest := []) (lenOf pd_2 rfl) rfl (by show 2 * 0 + _ ≤ _; exact Nat.le_of_eq rfl) (hb hby d30_1) (fun _ _ => ⟨rfl, e0, (by decide : 0 + 0 ≤ _), (by decide : 0 + 0 ≤ _)⟩)
  dsimp only [Pt.U, Pt.locs, Pt.cells, Pt.slots] at X4 l4 y4 z4 st4 hQ4
  subst l4 y4 z4
  obtain ⟨rfl, N4q, e4⟩ := hQ4
  have N4 := Fr.app N0 N4q
  replace X4 := X4.more (cells' := 0) (slots' := 0) (by decide) (by decide)
  obtain ⟨vr5, _, ⟨T5, L5, k5, n5⟩, -, X5, ⟨Lc5, hQ5, l5, y5, z5⟩, st5⟩ := Jvm.LawKit.callS X4 hx (y := (⟨"java/util/Objects", "requireNonNull", "(Ljava/lang/Object;)Ljava/lang/Object;"⟩ : MethodName)) hown (mvT hZ (hw _ (List.mem_of_getElem? (i := 169) rfl))) (mvT hZ (hw _ (List.mem_of_getElem? (i := 170) rfl))) (mvT hZ (hw _ (List.mem_of_getElem? (i := 171) rfl))) (mvT hZ (hw _ (List.mem_of_getElem? (i := 172) rfl))) (by decide) (backOf (W := 1) (rm24 l Z a0 hw [] a2 h0 n0 O0) hZ (hw _ (List.mem_of_getElem? (i := 172) rfl)) (hw _ (List.mem_of_getElem? (i := 171) rfl)) (by decide) (by decide)) (g := (mkF m 6 #[.val (.ref a1), .val (.ref a2), .val (.ref a3)] [(.ref a2), (.ref a1)])) rfl (by rw [hml]; rfl) (argsL := [(.ref a2)]) (rest := [(.ref a1)]) (lenOf pd_8 rfl) rfl (by show 2 * 0 + _ ≤ _; exact Nat.le_of_eq rfl) (hb hby d30_6) (fun _ _ => ⟨rfl, e4, (by decide : 0 + 0 ≤ _), (by decide : 0 + 0 ≤ _)⟩)
  dsimp only [Pt.U, Pt.locs, Pt.cells, Pt.slots] at X5 l5 y5 z5 st5 hQ5
  subst l5 y5 z5
  obtain ⟨rfl, N5q, e5⟩ := hQ5
  have N5 := Fr.app N4 N5q
  replace X5 := X5.more (cells' := 0) (slots' := 0) (by decide) (by decide)
  obtain ⟨T7, h7, X7, e7, W7, st7⟩ := putF X5 hx hZ hown (host := "") (Or.inl (hw _ (List.mem_of_getElem? (i := 173) rfl))) Via.refl e5 HF_a1_e0 HE_a1 (Or.inr ⟨(hw _ (List.mem_of_getElem? (i := 174) rfl)), rfl, hnm⟩) (hw _ (List.mem_of_getElem? (i := 149) rfl)) (ty := (.object "java/lang/Object")) (by decide) rfl rfl (g := (mkF m 9 #[.val (.ref a1), .val (.ref a2), .val (.ref a3)] [(.ref a2), (.ref a1)])) rfl rfl (hb hby d30_9)
  have N7 := Fr.snoc X7 N5 g_a1
  have K8 : Keep h0 h7 [a1] := (Keep.refl h0 [a1]).wr W7 (Or.inl (List.mem_of_getElem? (i := 0) rfl))
  have O9 : Old Z n0 h7 := O0.wr W7 g_a1
  have Fw7 : Fld Z h7 a1 "java/util/ImmutableCollections$List12" "e0" "Ljava/lang/Object;" (.ref a2) := HF_a1_e0.same W7
  obtain ⟨vr10, _, ⟨T10, L10, k10, n10⟩, -, X10, ⟨Lc10, hQ10, l10, y10, z10⟩, st10⟩ := Jvm.LawKit.callS X7 hx (y := (⟨"java/util/Objects", "requireNonNull", "(Ljava/lang/Object;)Ljava/lang/Object;"⟩ : MethodName)) hown (mvT hZ (hw _ (List.mem_of_getElem? (i := 169) rfl))) (mvT hZ (hw _ (List.mem_of_getElem? (i := 170) rfl))) (mvT hZ (hw _ (List.mem_of_getElem? (i := 171) rfl))) (mvT hZ (hw _ (List.mem_of_getElem? (i := 172) rfl))) (by decide) (backOf (W := 1) (rm24 l Z a0 hw [] a3 h7 n0 O9) hZ (hw _ (List.mem_of_getElem? (i := 172) rfl)) (hw _ (List.mem_of_getElem? (i := 171) rfl)) (by decide) (by decide)) (g := (mkF m 14 #[.val (.ref a1), .val (.ref a2), .val (.ref a3)] [(.ref a3), (.ref a1)])) rfl (by rw [hml]; rfl) (argsL := [(.ref a3)]) (rest := [(.ref a1)]) (lenOf pd_8 rfl) rfl (by show 2 * 0 + _ ≤ _; exact Nat.le_of_eq rfl) (hb hby d30_14) (fun _ _ => ⟨rfl, e7, (by decide : 0 + 0 ≤ _), (by decide : 0 + 0 ≤ _)⟩)
  dsimp only [Pt.U, Pt.locs, Pt.cells, Pt.slots] at X10 l10 y10 z10 st10 hQ10
  subst l10 y10 z10
  obtain ⟨rfl, N10q, e10⟩ := hQ10
  have N10 := Fr.app N7 N10q
  replace X10 := X10.more (cells' := 0) (slots' := 0) (by decide) (by decide)
  have f11 := (HE_a1.wr W7)
  have f13 := (HF_a1_e1.other W7 (Or.inr (slot_ne (Or.inr (hw _ (List.mem_of_getElem? (i := 177) rfl))) (Or.inr (hw _ (List.mem_of_getElem? (i := 174) rfl))) (by decide) (t := (.object "java/lang/Object")) (t' := (.object "java/lang/Object")) (by decide) (by decide))))
  obtain ⟨T14, h14, X14, e14, W14, st14⟩ := putF X10 hx hZ hown (host := "") (Or.inl (hw _ (List.mem_of_getElem? (i := 176) rfl))) Via.refl e10 f13 f11 (Or.inr ⟨(hw _ (List.mem_of_getElem? (i := 177) rfl)), rfl, hnm⟩) (hw _ (List.mem_of_getElem? (i := 149) rfl)) (ty := (.object "java/lang/Object")) (by decide) rfl rfl (g := (mkF m 17 #[.val (.ref a1), .val (.ref a2), .val (.ref a3)] [(.ref a3), (.ref a1)])) rfl rfl (hb hby d30_17)
  have N14 := Fr.snoc X14 N10 g_a1
  have K15 : Keep h0 h14 [a1] := K8.wr W14 (Or.inl (List.mem_of_getElem? (i := 0) rfl))
  have O16 : Old Z n0 h14 := O9.wr W14 g_a1
  have Fw14 : Fld Z h14 a1 "java/util/ImmutableCollections$List12" "e1" "Ljava/lang/Object;" (.ref a3) := f13.same W14
  have f17 := (f11.wr W14)
  have f18 := (Fw7.other W14 (Or.inr (slot_ne (Or.inr (hw _ (List.mem_of_getElem? (i := 174) rfl))) (Or.inr (hw _ (List.mem_of_getElem? (i := 177) rfl))) (by decide) (t := (.object "java/lang/Object")) (t' := (.object "java/lang/Object")) (by decide) (by decide))))
  obtain ⟨fs, hr, hrun, hended, hW, hsame⟩ := X14.leave (v := none) (fun _ => rfl)
  refine ⟨_, _, pre0 _ ?_, hrun, hended, _, _, rfl, ?_, ⟨_, rfl⟩, hW, hsame.mono (by decide) (by decide)⟩
  · show Steps p.tables e below (s₁.setTop (mkF m 0 #[.val (.ref a1), .val (.ref a2), .val (.ref a3)] [])) _
    refine XS.aloadN X0.here hx rfl (hb hby d30_0) rfl rfl ?_
    show Steps p.tables e below (s₁.setTop (mkF m 1 #[.val (.ref a1), .val (.ref a2), .val (.ref a3)] [(.ref a1)])) _
    refine st4.trans ?_
    show Steps p.tables e below (T4.setTop (mkF m 4 #[.val (.ref a1), .val (.ref a2), .val (.ref a3)] [])) _
    refine XS.aloadN X4.here hx rfl (hb hby d30_4) rfl rfl ?_
    show Steps p.tables e below (T4.setTop (mkF m 5 #[.val (.ref a1), .val (.ref a2), .val (.ref a3)] [(.ref a1)])) _
    refine XS.aloadN X4.here hx rfl (hb hby d30_5) rfl rfl ?_
    show Steps p.tables e below (T4.setTop (mkF m 6 #[.val (.ref a1), .val (.ref a2), .val (.ref a3)] [(.ref a2), (.ref a1)])) _
    refine st5 _ ?_
    show Steps p.tables e below (T5.setTop (mkF m 9 #[.val (.ref a1), .val (.ref a2), .val (.ref a3)] [(.ref a2), (.ref a1)])) _
    refine st7 _ ?_
    show Steps p.tables e below (T7.setTop (mkF m 12 #[.val (.ref a1), .val (.ref a2), .val (.ref a3)] [])) _
    refine XS.aloadN X7.here hx rfl (hb hby d30_12) rfl rfl ?_
    show Steps p.tables e below (T7.setTop (mkF m 13 #[.val (.ref a1), .val (.ref a2), .val (.ref a3)] [(.ref a1)])) _
    refine XS.aloadN X7.here hx rfl (hb hby d30_13) rfl rfl ?_
    show Steps p.tables e below (T7.setTop (mkF m 14 #[.val (.ref a1), .val (.ref a2), .val (.ref a3)] [(.ref a3), (.ref a1)])) _
    refine st10 _ ?_
    show Steps p.tables e below (T10.setTop (mkF m 17 #[.val (.ref a1), .val (.ref a2), .val (.ref a3)] [(.ref a3), (.ref a1)])) _
    refine st14 _ ?_
    show Steps p.tables e below (T14.setTop (mkF m 20 #[.val (.ref a1), .val (.ref a2), .val (.ref a3)] [])) _
    exact X14.returnOut hx Bd.returns (hb hby d30_20) hr
  · show Q30c2 Z a1 a2 a3 u6 u12 h0 n0 _ T14.heap _
    rw [e14]
    exact ⟨rfl, N14, K15, f17, f18, Fw14⟩
theorem d20_45 : decode jdk_40_method_47_code 45 = .ok (.new 96, 3) := by decide +kernel
theorem d20_48 : decode jdk_40_method_47_code 48 = .ok (.dup, 1) := by decide +kernel
theorem d20_49 : decode jdk_40_method_47_code 49 = .ok (.aload_n 0, 1) := by decide +kernel
theorem d20_50 : decode jdk_40_method_47_code 50 = .ok (.iconst 0, 1) := by decide +kernel
theorem d20_51 : decode jdk_40_method_47_code 51 = .ok (.aaload, 1) := by decide +kernel
theorem d20_52 : decode jdk_40_method_47_code 52 = .ok (.aload_n 0, 1) := by decide +kernel
theorem d20_53 : decode jdk_40_method_47_code 53 = .ok (.iconst 1, 1) := by decide +kernel
theorem d20_54 : decode jdk_40_method_47_code 54 = .ok (.aaload, 1) := by decide +kernel
theorem d20_55 : decode jdk_40_method_47_code 55 = .ok (.invokespecial 100, 3) := by decide +kernel
theorem pd_12 : parseMethodDescriptor "(Ljava/lang/Object;Ljava/lang/Object;)V" = some ⟨[(.object "java/lang/Object"), (.object "java/lang/Object")], none⟩ := by decide +kernel
theorem d20_58 : decode jdk_40_method_47_code 58 = .ok (.areturn, 1) := by decide +kernel
def Q20c2 (Z : State) (a1 : Addr) (k0 : ClassId) (el0 el1 : Addr) (h0 : Heap) (n0 : Nat) (v : Option Value) (h : Heap) (L : List Loc) : Prop := ∃ b3 : Addr, v = some (.ref b3) ∧ Fr n0 L ∧ Keep h0 h [] ∧ h0.size ≤ b3 ∧ Exa Z h b3 "java/util/ImmutableCollections$List12" ∧ Fld Z h b3 "java/util/ImmutableCollections$List12" "e0" "Ljava/lang/Object;" (.ref el0) ∧ Fld Z h b3 "java/util/ImmutableCollections$List12" "e1" "Ljava/lang/Object;" (.ref el1)
set_option maxRecDepth 65536 in
set_option maxHeartbeats 40000000 in
theorem rm20c2 (l : Launch) (Z : State) (a0 : Array Value) (hw : ∀ d ∈ tables_1, d.before a0 Z = true) (ws : List Jvm.Cond) (a1 : Addr) (k0 : ClassId) (el0 el1 : Addr) (h0 : Heap) (n0 : Nat) (O0 : Old Z n0 h0) (HV_a1 : Arv Z h0 a1 k0 (.object "java/lang/Object") (2 : Int32) [(.ref el0), (.ref el1)] .null) :
    MetFree l (⟨"java/util/List", "of", "([Ljava/lang/Object;)Ljava/util/List;"⟩ : MethodName) (head1 (Jvm.Cond.code (⟨"java/util/List", "of", "([Ljava/lang/Object;)Ljava/util/List;"⟩ : MethodName) jdk_40_method_47_code 2 (some (.object "java/util/List")) :: ws) ({ frames := 5, cells := 1, slots := 2, locals := 63 } : Room)) (fun a U => a = #[(.ref a1)] ∧ Z.Warmed39 U.vm ∧ U.heap = h0) (fun _ _ _ _ _ => True) (fun _ U o U' => ∃ v L, o = .returned v ∧ Q20c2 Z a1 k0 el0 el1 h0 n0 v U'.heap L ∧ FrameEnd U o U' L ({ frames := 5, cells := 1, slots := 2, locals := 63 } : Room).cells ({ frames := 5, cells := 1, slots := 2, locals := 63 } : Room).slots) := by
  refine MetFree.of_bodySF (plainFor_of_name pnc_java_util_List) hisR ?_
  intro p e s m args below meth c s₁ Bd hml0 hP hK
  obtain ⟨rfl, hZ, hh⟩ := hP
  have hx := Bd.exec
  have hby := Bd.bytes
  have hml : c.maxLocals = 2 := hml0
  have hown : s.vm.findClass "java/util/List" = some m.cls := findClass_of_methodNamed Bd.named
  have hnm := (name_of_methodNamed Bd.named Bd.method).1
  have X0 : Stand p l e ({ frames := 5, cells := 1, slots := 2, locals := 63 } : Room) s m #[(.ref a1)] below meth c s₁ [] 0 0 := Stand.of_body Bd
  have e0 : s₁.heap = h0 := by rw [← hh, Bd.state]; rfl
  have N0 := Fr.nil n0
  have Z0 : n0 ≤ h0.size := O0.1 ▸ O0.2.1
  have pre0 : ∀ t, Steps p.tables e below (s₁.setTop (mkF m 0 #[.val (.ref a1), .unset] [])) t → Steps p.tables e below (s₁.setTop (entryFrame m #[(.ref a1)] 2)) t := fun t k => castTop (ef_20 m a1) k
  obtain ⟨cl2, Ar2, q2, S2, Nn2, Hh2, G2⟩ := id HV_a1
  obtain ⟨T3, h3, X3, e3, E3, A3, D3, -, st3⟩ := newO X0 hx hZ hown (hw _ (List.mem_of_getElem? (i := 148) rfl)) (hw _ (List.mem_of_getElem? (i := 149) rfl)) (hw _ (List.mem_of_getElem? (i := 150) rfl)) e0 (g := (mkF m 45 #[.val (.ref a1), .unset] [])) rfl (hb hby d20_45) (by decide) (by decide)
  obtain ⟨b3, g3⟩ : ∃ z, z = h0.size := ⟨_, rfl⟩
  rw [← g3] at A3 D3 st3
  have g_b3 : n0 ≤ b3 := Nat.le_trans (Nat.le_trans Z0 (Keep.refl h0 []).1) (Nat.le_of_eq g3.symm)
  have sz_b3 : h0.size ≤ b3 := Nat.le_trans (Keep.refl h0 []).1 (Nat.le_of_eq g3.symm)
  have K4 : Keep h0 h3 [] := (Keep.refl h0 []).ext E3
  have O5 : Old Z n0 h3 := O0.ext E3
  have F_e0_b3 : Fld Z h3 b3 "java/util/ImmutableCollections$List12" "e0" "Ljava/lang/Object;" .null := D3 (Or.inr (hw _ (List.mem_of_getElem? (i := 174) rfl))) (ty := (.object "java/lang/Object")) (by decide)
  have F_e1_b3 : Fld Z h3 b3 "java/util/ImmutableCollections$List12" "e1" "Ljava/lang/Object;" .null := D3 (Or.inr (hw _ (List.mem_of_getElem? (i := 177) rfl))) (ty := (.object "java/lang/Object")) (by decide)
  replace X3 := X3.more (cells' := 1) (slots' := 2) (by decide) (by decide)
  have f6 := (HV_a1.ext E3)
  obtain ⟨cl7, Ar7, q7, S7, Nn7, Hh7, G7⟩ := id f6
  have hin7 : ¬ ((0 : Int32) < 0 ∨ cl7.slots.size ≤ ((0 : Int32)).toNatClampNeg) := inb_of S7 ⟨by decide, by decide⟩
  have hat7 : cl7.slots[((0 : Int32)).toNatClampNeg]? = some (.ref el0) := Has.at Hh7 hin7 rfl
  obtain ⟨cl8, Ar8, q8, S8, Nn8, Hh8, G8⟩ := id f6
  have hin8 : ¬ ((1 : Int32) < 0 ∨ cl8.slots.size ≤ ((1 : Int32)).toNatClampNeg) := inb_of S8 ⟨by decide, by decide⟩
  have hat8 : cl8.slots[((1 : Int32)).toNatClampNeg]? = some (.ref el1) := Has.at Hh8 hin8 rfl
  obtain ⟨vr9, _, ⟨T9, L9, k9, n9⟩, -, X9, ⟨Lc9, hQ9, l9, y9, z9⟩, st9⟩ := X3.specialBack hx (y := (⟨"java/util/ImmutableCollections$List12", "<init>", "(Ljava/lang/Object;Ljava/lang/Object;)V"⟩ : MethodName)) rfl hown (mvT hZ (hw _ (List.mem_of_getElem? (i := 220) rfl))) (mvT hZ (hw _ (List.mem_of_getElem? (i := 221) rfl))) (mvT hZ (hw _ (List.mem_of_getElem? (i := 222) rfl))) (by decide) (backOf (W := 1) (rm30c2 l Z a0 hw [] b3 el0 el1 (.null) (.null) h3 n0 O5 A3 F_e0_b3 g_b3 F_e1_b3) hZ (hw _ (List.mem_of_getElem? (i := 222) rfl)) (hw _ (List.mem_of_getElem? (i := 150) rfl)) (by decide) (by decide)) (g := (mkF m 55 #[.val (.ref a1), .unset] [(.ref el1), (.ref el0), (.ref b3), (.ref b3)])) rfl (by rw [hml]; rfl) (Steps.refl _) (a := b3) (argsL := [(.ref el0), (.ref el1)]) (rest := [(.ref b3)]) (lenOf pd_12 rfl) rfl (by show 2 * 0 + _ ≤ _; exact Nat.le_of_eq rfl) (hb hby d20_55) (fun _ _ => ⟨rfl, e3, (by decide : 1 + 0 ≤ _), (by decide : 2 + 0 ≤ _)⟩)
  dsimp only [Pt.U, Pt.locs, Pt.cells, Pt.slots] at X9 l9 y9 z9 st9 hQ9
  subst l9 y9 z9
  obtain ⟨rfl, N9q, K9, Y9_0, Y9_1, Y9_2⟩ := hQ9
  have N9 := Fr.app N0 N9q
  replace X9 := X9.more (cells' := 1) (slots' := 2) (by decide) (by decide)
  have K10 : Keep h0 T9.heap [] := K4.trans K9 (allS (Or.inr sz_b3) all0)
  have O11 : Old Z n0 T9.heap := O5.keep K9 (allS g_b3 all0)
  obtain ⟨fs, hr, hrun, hended, hW, hsame⟩ := X9.leave (v := some (.ref b3)) (fun h => by rw [Bd.returns] at h; cases h)
  refine ⟨_, _, pre0 _ ?_, hrun, hended, _, _, rfl, ?_, ⟨_, rfl⟩, hW, hsame.mono (by decide) (by decide)⟩
  · show Steps p.tables e below (s₁.setTop (mkF m 0 #[.val (.ref a1), .unset] [])) _
    refine XS.aloadN X0.here hx rfl (hb hby d20_0) rfl rfl ?_
    show Steps p.tables e below (s₁.setTop (mkF m 1 #[.val (.ref a1), .unset] [(.ref a1)])) _
    refine X0.arraylength hx (by rw [e0]; exact Ar2.1) (State.isArrayOf_alike hZ.alike Ar2.2.1) (g := (mkF m 1 #[.val (.ref a1), .unset] [(.ref a1)])) rfl rfl (hb hby d20_1) _ ?_
    rw [len_of S2 Nn2]
    show Steps p.tables e below (s₁.setTop (mkF m 2 #[.val (.ref a1), .unset] [(.int (2 : Int32))])) _
    refine XS.tswIn X0.here hx rfl (pc0 := 2) (pc' := 45) rfl (hb hby d20_2) rfl (by decide) (o := 43) (by decide) (by decide) (by decide) ?_
    show Steps p.tables e below (s₁.setTop (mkF m 45 #[.val (.ref a1), .unset] [])) _
    refine st3 _ ?_
    show Steps p.tables e below (T3.setTop (mkF m 48 #[.val (.ref a1), .unset] [(.ref b3)])) _
    refine XS.dup X3.here hx rfl (hb hby d20_48) rfl rfl ?_
    show Steps p.tables e below (T3.setTop (mkF m 49 #[.val (.ref a1), .unset] [(.ref b3), (.ref b3)])) _
    refine XS.aloadN X3.here hx rfl (hb hby d20_49) rfl rfl ?_
    show Steps p.tables e below (T3.setTop (mkF m 50 #[.val (.ref a1), .unset] [(.ref a1), (.ref b3), (.ref b3)])) _
    refine XS.iconst X3.here hx rfl (hb hby d20_50) ?_
    show Steps p.tables e below (T3.setTop (mkF m 51 #[.val (.ref a1), .unset] [(.int (0 : Int32)), (.ref a1), (.ref b3), (.ref b3)])) _
    refine X3.aaload hx (j := (0 : Int32)) (v := (.ref el0)) (by rw [e3]; exact Ar7.1) (State.isArrayOf_alike hZ.alike Ar7.2.1) rfl Ar7.2.2 hin7 hat7 (g := (mkF m 51 #[.val (.ref a1), .unset] [(.int (0 : Int32)), (.ref a1), (.ref b3), (.ref b3)])) rfl rfl (hb hby d20_51) _ ?_
    show Steps p.tables e below (T3.setTop (mkF m 52 #[.val (.ref a1), .unset] [(.ref el0), (.ref b3), (.ref b3)])) _
    refine XS.aloadN X3.here hx rfl (hb hby d20_52) rfl rfl ?_
    show Steps p.tables e below (T3.setTop (mkF m 53 #[.val (.ref a1), .unset] [(.ref a1), (.ref el0), (.ref b3), (.ref b3)])) _
    refine XS.iconst X3.here hx rfl (hb hby d20_53) ?_
    show Steps p.tables e below (T3.setTop (mkF m 54 #[.val (.ref a1), .unset] [(.int (1 : Int32)), (.ref a1), (.ref el0), (.ref b3), (.ref b3)])) _
    refine X3.aaload hx (j := (1 : Int32)) (v := (.ref el1)) (by rw [e3]; exact Ar8.1) (State.isArrayOf_alike hZ.alike Ar8.2.1) rfl Ar8.2.2 hin8 hat8 (g := (mkF m 54 #[.val (.ref a1), .unset] [(.int (1 : Int32)), (.ref a1), (.ref el0), (.ref b3), (.ref b3)])) rfl rfl (hb hby d20_54) _ ?_
    show Steps p.tables e below (T3.setTop (mkF m 55 #[.val (.ref a1), .unset] [(.ref el1), (.ref el0), (.ref b3), (.ref b3)])) _
    refine st9.trans ?_
    show Steps p.tables e below (T9.setTop (mkF m 58 #[.val (.ref a1), .unset] [(.ref b3)])) _
    exact own_retR X9 hx Bd.returns rfl rfl (hb hby d20_58) hr
  · show Q20c2 Z a1 k0 el0 el1 h0 n0 _ T9.heap _
    exact ⟨b3, rfl, N9, K10, sz_b3, Y9_0, Y9_1, Y9_2⟩
def Q14c2 (Z : State) (a1 : Addr) (k0 : ClassId) (el0 el1 w0 w5 : Addr) (h0 : Heap) (n0 : Nat) (v : Option Value) (h : Heap) (L : List Loc) : Prop := ∃ b12 : Addr, v = some (.ref b12) ∧ Fr n0 L ∧ Keep h0 h [] ∧ h0.size ≤ b12 ∧ Exa Z h b12 "java/util/ImmutableCollections$List12" ∧ Fld Z h b12 "java/util/ImmutableCollections$List12" "e0" "Ljava/lang/Object;" (.ref el0) ∧ Fld Z h b12 "java/util/ImmutableCollections$List12" "e1" "Ljava/lang/Object;" (.ref el1)
set_option maxRecDepth 65536 in
set_option maxHeartbeats 40000000 in
theorem rm14c2 (l : Launch) (Z : State) (a0 : Array Value) (hw : ∀ d ∈ tables_1, d.before a0 Z = true) (ws : List Jvm.Cond) (a1 : Addr) (k0 : ClassId) (el0 el1 w0 w5 : Addr) (h0 : Heap) (n0 : Nat) (O0 : Old Z n0 h0) (HE_a1 : Exa Z h0 a1 "java/util/ArrayList") (HF_a1_elementData : Fld Z h0 a1 "java/util/ArrayList" "elementData" "[Ljava/lang/Object;" (.ref w0)) (HF_a1_size : Fld Z h0 a1 "java/util/ArrayList" "size" "I" (.int (2 : Int32))) (HE_w0 : Exa Z h0 w0 "[Ljava/lang/Object;") (HV_w0 : Arv Z h0 w0 k0 (.object "java/lang/Object") (10 : Int32) [(.ref el0), (.ref el1), .null, .null, .null, .null, .null, .null, .null, .null] .null) (HI_el0 : Ins Z h0 el0 "java/lang/Object" true) (HI_el1 : Ins Z h0 el1 "java/lang/Object" true) (Mi__Ljava_lang_Object_ : own_Mir Z "[Ljava/lang/Object;" w5) :
    MetFree l (⟨"java/util/ImmutableCollections", "listCopy", "(Ljava/util/Collection;)Ljava/util/List;"⟩ : MethodName) (head1 (Jvm.Cond.code (⟨"java/util/ImmutableCollections", "listCopy", "(Ljava/util/Collection;)Ljava/util/List;"⟩ : MethodName) jdk_56_method_3_code 2 (some (.object "java/util/List")) :: ws) ({ frames := 6, cells := 2, slots := 4, locals := 76 } : Room)) (fun a U => a = #[(.ref a1)] ∧ Z.Warmed39 U.vm ∧ U.heap = h0) (fun _ _ _ _ _ => True) (fun _ U o U' => ∃ v L, o = .returned v ∧ Q14c2 Z a1 k0 el0 el1 w0 w5 h0 n0 v U'.heap L ∧ FrameEnd U o U' L ({ frames := 6, cells := 2, slots := 4, locals := 76 } : Room).cells ({ frames := 6, cells := 2, slots := 4, locals := 76 } : Room).slots) := by
  refine MetFree.of_bodySF (plainFor_of_name pnc_java_util_ImmutableCollections) hisR ?_
  intro p e s m args below meth c s₁ Bd hml0 hP hK
  obtain ⟨rfl, hZ, hh⟩ := hP
  have hx := Bd.exec
  have hby := Bd.bytes
  have hml : c.maxLocals = 2 := hml0
  have hown : s.vm.findClass "java/util/ImmutableCollections" = some m.cls := findClass_of_methodNamed Bd.named
  have hnm := (name_of_methodNamed Bd.named Bd.method).1
  have X0 : Stand p l e ({ frames := 6, cells := 2, slots := 4, locals := 76 } : Room) s m #[(.ref a1)] below meth c s₁ [] 0 0 := Stand.of_body Bd
  have e0 : s₁.heap = h0 := by rw [← hh, Bd.state]; rfl
  have N0 := Fr.nil n0
  have Z0 : n0 ≤ h0.size := O0.1 ▸ O0.2.1
  have pre0 : ∀ t, Steps p.tables e below (s₁.setTop (mkF m 0 #[.val (.ref a1), .unset] [])) t → Steps p.tables e below (s₁.setTop (entryFrame m #[(.ref a1)] 2)) t := fun t k => castTop (ef_14 m a1) k
  obtain ⟨T2, X2, e2, st2⟩ := instNo X0 hx hZ hown (hw _ (List.mem_of_getElem? (i := 100) rfl)) e0 HE_a1 (own_nsno (hw _ (List.mem_of_getElem? (i := 101) rfl)) (hw _ (List.mem_of_getElem? (i := 149) rfl)) (NS.step (hw _ (List.mem_of_getElem? (i := 101) rfl)) (NS.step (hw _ (List.mem_of_getElem? (i := 102) rfl)) (NS.step (hw _ (List.mem_of_getElem? (i := 103) rfl)) (own_nsroot (hw _ (List.mem_of_getElem? (i := 104) rfl)) (hw _ (List.mem_of_getElem? (i := 149) rfl)) (by decide)) (by decide)) (by decide)) (by decide)) (by decide)) (g := (mkF m 1 #[.val (.ref a1), .unset] [(.ref a1)])) rfl rfl (hb hby d14_1)
  obtain ⟨T3, X3, e3, st3⟩ := instNo X2 hx hZ hown (hw _ (List.mem_of_getElem? (i := 105) rfl)) e2 HE_a1 (own_nsno (hw _ (List.mem_of_getElem? (i := 101) rfl)) (hw _ (List.mem_of_getElem? (i := 200) rfl)) (NS.step (hw _ (List.mem_of_getElem? (i := 101) rfl)) (NS.step (hw _ (List.mem_of_getElem? (i := 102) rfl)) (NS.step (hw _ (List.mem_of_getElem? (i := 103) rfl)) (own_nsroot (hw _ (List.mem_of_getElem? (i := 104) rfl)) (hw _ (List.mem_of_getElem? (i := 200) rfl)) (by decide)) (by decide)) (by decide)) (by decide)) (by decide)) (g := (mkF m 8 #[.val (.ref a1), .unset] [(.ref a1)])) rfl rfl (hb hby d14_8)
  obtain ⟨cq4, kq4, q4a, q4b, q4c⟩ := isOf hZ e3 HE_a1
  obtain ⟨vr4, _, ⟨T4, L4, k4, n4⟩, -, X4, ⟨Lc4, hQ4, l4, y4, z4⟩, st4⟩ := X3.interfaceBack hx (xi := (⟨"java/util/Collection", "isEmpty", "()Z"⟩ : MethodName)) (y := (⟨"java/util/ArrayList", "isEmpty", "()Z"⟩ : MethodName)) hown (mvT hZ (hw _ (List.mem_of_getElem? (i := 106) rfl))) (mvT hZ (hw _ (List.mem_of_getElem? (i := 107) rfl))) (mvT hZ (hw _ (List.mem_of_getElem? (i := 108) rfl))) (mvT hZ (hw _ (List.mem_of_getElem? (i := 109) rfl))) (mvT hZ (hw _ (List.mem_of_getElem? (i := 110) rfl))) (mvT hZ (hw _ (List.mem_of_getElem? (i := 111) rfl))) (mvT hZ (hw _ (List.mem_of_getElem? (i := 112) rfl))) (mvT hZ (hw _ (List.mem_of_getElem? (i := 113) rfl))) (by decide) (backOf (W := 0) (rm15 l Z a0 hw [] a1 ((2 : Int32)) h0 n0 O0 HF_a1_size (by decide : ¬ ((2 : Int32) = (0 : Int32)))) hZ (hw _ (List.mem_of_getElem? (i := 114) rfl)) (hw _ (List.mem_of_getElem? (i := 22) rfl)) (by decide) (by decide)) q4a q4b q4c (g := (mkF m 32 #[.val (.ref a1), .unset] [(.ref a1)])) rfl (by rw [hml]; rfl) (Steps.refl _) (argsL := []) (rest := []) (lenOf pd_3 rfl) rfl (by show 2 * 0 + _ ≤ _; exact Nat.le_of_eq rfl) (hb hby d14_32) (fun _ _ => ⟨rfl, e3, (by decide : 0 + 0 ≤ _), (by decide : 0 + 0 ≤ _)⟩)
  dsimp only [Pt.U, Pt.locs, Pt.cells, Pt.slots] at X4 l4 y4 z4 st4 hQ4
  subst l4 y4 z4
  obtain ⟨rfl, N4q, e4⟩ := hQ4
  have N4 := Fr.app N0 N4q
  replace X4 := X4.more (cells' := 0) (slots' := 0) (by decide) (by decide)
  obtain ⟨cq6, kq6, q6a, q6b, q6c⟩ := isOf hZ e4 HE_a1
  obtain ⟨vr6, _, ⟨T6, L6, k6, n6⟩, -, X6, ⟨Lc6, hQ6, l6, y6, z6⟩, st6⟩ := X4.interfaceBack hx (xi := (⟨"java/util/Collection", "toArray", "()[Ljava/lang/Object;"⟩ : MethodName)) (y := (⟨"java/util/ArrayList", "toArray", "()[Ljava/lang/Object;"⟩ : MethodName)) hown (mvT hZ (hw _ (List.mem_of_getElem? (i := 115) rfl))) (mvT hZ (hw _ (List.mem_of_getElem? (i := 116) rfl))) (mvT hZ (hw _ (List.mem_of_getElem? (i := 117) rfl))) (mvT hZ (hw _ (List.mem_of_getElem? (i := 118) rfl))) (mvT hZ (hw _ (List.mem_of_getElem? (i := 119) rfl))) (mvT hZ (hw _ (List.mem_of_getElem? (i := 120) rfl))) (mvT hZ (hw _ (List.mem_of_getElem? (i := 121) rfl))) (mvT hZ (hw _ (List.mem_of_getElem? (i := 113) rfl))) (by decide) (backOf (W := 0) (rm16c2 l Z a0 hw [] a1 k0 el0 el1 w0 w5 h0 n0 O0 HF_a1_elementData HF_a1_size HE_w0 HV_w0 HI_el0 HI_el1 Mi__Ljava_lang_Object_) hZ (hw _ (List.mem_of_getElem? (i := 122) rfl)) (hw _ (List.mem_of_getElem? (i := 22) rfl)) (by decide) (by decide)) q6a q6b q6c (g := (mkF m 45 #[.val (.ref a1), .unset] [(.ref a1)])) rfl (by rw [hml]; rfl) (Steps.refl _) (argsL := []) (rest := []) (lenOf pd_4 rfl) rfl (by show 2 * 0 + _ ≤ _; exact Nat.le_of_eq rfl) (hb hby d14_45) (fun _ _ => ⟨rfl, e4, (by decide : 0 + 1 ≤ _), (by decide : 0 + 2 ≤ _)⟩)
  dsimp only [Pt.U, Pt.locs, Pt.cells, Pt.slots] at X6 l6 y6 z6 st6 hQ6
  subst l6 y6 z6
  obtain ⟨b7, k8, rfl, N6q, K6, Y6_z0, Y6_0, Y6_1, Y6_2⟩ := hQ6
  have N6 := Fr.app N4 N6q
  replace X6 := X6.more (cells' := 1) (slots' := 2) (by decide) (by decide)
  have g_b7 : n0 ≤ b7 := Nat.le_trans (Nat.le_trans Z0 (Keep.refl h0 []).1) Y6_z0
  have sz_b7 : h0.size ≤ b7 := Nat.le_trans (Keep.refl h0 []).1 Y6_z0
  have K9 : Keep h0 T6.heap [] := (Keep.refl h0 []).trans K6 all0
  have O10 : Old Z n0 T6.heap := O0.keep K6 all0
  obtain ⟨vr11, _, ⟨T11, L11, k11, n11⟩, -, X11, ⟨Lc11, hQ11, l11, y11, z11⟩, st11⟩ := Jvm.LawKit.callS X6 hx (y := (⟨"java/util/List", "of", "([Ljava/lang/Object;)Ljava/util/List;"⟩ : MethodName)) hown (mvT hZ (hw _ (List.mem_of_getElem? (i := 145) rfl))) (mvT hZ (hw _ (List.mem_of_getElem? (i := 146) rfl))) (mvT hZ (hw _ (List.mem_of_getElem? (i := 94) rfl))) (mvT hZ (hw _ (List.mem_of_getElem? (i := 147) rfl))) (by decide) (backOf (W := 0) (rm20c2 l Z a0 hw [] b7 k8 el0 el1 T6.heap n0 O10 Y6_1) hZ (hw _ (List.mem_of_getElem? (i := 147) rfl)) (hw _ (List.mem_of_getElem? (i := 94) rfl)) (by decide) (by decide)) (g := (mkF m 50 #[.val (.ref a1), .unset] [(.ref b7)])) rfl (by rw [hml]; rfl) (argsL := [(.ref b7)]) (rest := []) (lenOf pd_17 rfl) rfl (by show 2 * 0 + _ ≤ _; exact Nat.le_of_eq rfl) (hb hby d14_50) (fun _ _ => ⟨rfl, rfl, (by decide : 1 + 1 ≤ _), (by decide : 2 + 2 ≤ _)⟩)
  dsimp only [Pt.U, Pt.locs, Pt.cells, Pt.slots] at X11 l11 y11 z11 st11 hQ11
  subst l11 y11 z11
  obtain ⟨b12, rfl, N11q, K11, Y11_z0, Y11_0, Y11_1, Y11_2⟩ := hQ11
  have N11 := Fr.app N6 N11q
  replace X11 := X11.more (cells' := 2) (slots' := 4) (by decide) (by decide)
  have g_b12 : n0 ≤ b12 := Nat.le_trans (Nat.le_trans Z0 K9.1) Y11_z0
  have sz_b12 : h0.size ≤ b12 := Nat.le_trans K9.1 Y11_z0
  have K13 : Keep h0 T11.heap [] := K9.trans K11 all0
  have O14 : Old Z n0 T11.heap := O10.keep K11 all0
  obtain ⟨fs, hr, hrun, hended, hW, hsame⟩ := X11.leave (v := some (.ref b12)) (fun h => by rw [Bd.returns] at h; cases h)
  refine ⟨_, _, pre0 _ ?_, hrun, hended, _, _, rfl, ?_, ⟨_, rfl⟩, hW, hsame.mono (by decide) (by decide)⟩
  · show Steps p.tables e below (s₁.setTop (mkF m 0 #[.val (.ref a1), .unset] [])) _
    refine XS.aloadN X0.here hx rfl (hb hby d14_0) rfl rfl ?_
    show Steps p.tables e below (s₁.setTop (mkF m 1 #[.val (.ref a1), .unset] [(.ref a1)])) _
    refine st2 _ ?_
    show Steps p.tables e below (T2.setTop (mkF m 4 #[.val (.ref a1), .unset] [(.int (0 : Int32))])) _
    refine XS.ifNo X2.here hx rfl (hb hby d14_4) rfl ((if0 _ _).trans (teq (by decide : (0 : Int32) = (0 : Int32))).2) ?_
    show Steps p.tables e below (T2.setTop (mkF m 7 #[.val (.ref a1), .unset] [])) _
    refine XS.aloadN X2.here hx rfl (hb hby d14_7) rfl rfl ?_
    show Steps p.tables e below (T2.setTop (mkF m 8 #[.val (.ref a1), .unset] [(.ref a1)])) _
    refine st3 _ ?_
    show Steps p.tables e below (T3.setTop (mkF m 11 #[.val (.ref a1), .unset] [(.int (0 : Int32))])) _
    refine XS.ifYes X3.here hx rfl (pc0 := 11) (pc' := 31) rfl (hb hby d14_11) rfl ((if0 _ _).trans (teq (by decide : (0 : Int32) = (0 : Int32))).1) (by decide) (by decide) ?_
    show Steps p.tables e below (T3.setTop (mkF m 31 #[.val (.ref a1), .unset] [])) _
    refine XS.aloadN X3.here hx rfl (hb hby d14_31) rfl rfl ?_
    show Steps p.tables e below (T3.setTop (mkF m 32 #[.val (.ref a1), .unset] [(.ref a1)])) _
    refine st4.trans ?_
    show Steps p.tables e below (T4.setTop (mkF m 37 #[.val (.ref a1), .unset] [(.int (0 : Int32))])) _
    refine XS.ifYes X4.here hx rfl (pc0 := 37) (pc' := 44) rfl (hb hby d14_37) rfl ((if0 _ _).trans (teq (by decide : (0 : Int32) = (0 : Int32))).1) (by decide) (by decide) ?_
    show Steps p.tables e below (T4.setTop (mkF m 44 #[.val (.ref a1), .unset] [])) _
    refine XS.aloadN X4.here hx rfl (hb hby d14_44) rfl rfl ?_
    show Steps p.tables e below (T4.setTop (mkF m 45 #[.val (.ref a1), .unset] [(.ref a1)])) _
    refine st6.trans ?_
    show Steps p.tables e below (T6.setTop (mkF m 50 #[.val (.ref a1), .unset] [(.ref b7)])) _
    refine st11 _ ?_
    show Steps p.tables e below (T11.setTop (mkF m 53 #[.val (.ref a1), .unset] [(.ref b12)])) _
    exact own_retR X11 hx Bd.returns rfl rfl (hb hby d14_53) hr
  · show Q14c2 Z a1 k0 el0 el1 w0 w5 h0 n0 _ T11.heap _
    exact ⟨b12, rfl, N11, K13, sz_b12, Y11_0, Y11_1, Y11_2⟩
def Q13c2 (Z : State) (a1 : Addr) (k0 : ClassId) (el0 el1 w0 w2 : Addr) (h0 : Heap) (n0 : Nat) (v : Option Value) (h : Heap) (L : List Loc) : Prop := ∃ b4 : Addr, v = some (.ref b4) ∧ Fr n0 L ∧ Keep h0 h [] ∧ h0.size ≤ b4 ∧ Exa Z h b4 "java/util/ImmutableCollections$List12" ∧ Fld Z h b4 "java/util/ImmutableCollections$List12" "e0" "Ljava/lang/Object;" (.ref el0) ∧ Fld Z h b4 "java/util/ImmutableCollections$List12" "e1" "Ljava/lang/Object;" (.ref el1)
set_option maxRecDepth 65536 in
set_option maxHeartbeats 40000000 in
theorem rm13c2 (l : Launch) (Z : State) (a0 : Array Value) (hw : ∀ d ∈ tables_1, d.before a0 Z = true) (ws : List Jvm.Cond) (a1 : Addr) (k0 : ClassId) (el0 el1 w0 w2 : Addr) (h0 : Heap) (n0 : Nat) (O0 : Old Z n0 h0) (HE_a1 : Exa Z h0 a1 "java/util/ArrayList") (HF_a1_elementData : Fld Z h0 a1 "java/util/ArrayList" "elementData" "[Ljava/lang/Object;" (.ref w0)) (HF_a1_size : Fld Z h0 a1 "java/util/ArrayList" "size" "I" (.int (2 : Int32))) (HE_w0 : Exa Z h0 w0 "[Ljava/lang/Object;") (HV_w0 : Arv Z h0 w0 k0 (.object "java/lang/Object") (10 : Int32) [(.ref el0), (.ref el1), .null, .null, .null, .null, .null, .null, .null, .null] .null) (HI_el0 : Ins Z h0 el0 "java/lang/Object" true) (HI_el1 : Ins Z h0 el1 "java/lang/Object" true) (Mi__Ljava_lang_Object_ : own_Mir Z "[Ljava/lang/Object;" w2) :
    MetFree l (⟨"java/util/List", "copyOf", "(Ljava/util/Collection;)Ljava/util/List;"⟩ : MethodName) (head1 (Jvm.Cond.code (⟨"java/util/List", "copyOf", "(Ljava/util/Collection;)Ljava/util/List;"⟩ : MethodName) jdk_40_method_48_code 1 (some (.object "java/util/List")) :: ws) ({ frames := 7, cells := 2, slots := 4, locals := 89 } : Room)) (fun a U => a = #[(.ref a1)] ∧ Z.Warmed39 U.vm ∧ U.heap = h0) (fun _ _ _ _ _ => True) (fun _ U o U' => ∃ v L, o = .returned v ∧ Q13c2 Z a1 k0 el0 el1 w0 w2 h0 n0 v U'.heap L ∧ FrameEnd U o U' L ({ frames := 7, cells := 2, slots := 4, locals := 89 } : Room).cells ({ frames := 7, cells := 2, slots := 4, locals := 89 } : Room).slots) := by
  refine MetFree.of_bodySF (plainFor_of_name pnc_java_util_List) hisR ?_
  intro p e s m args below meth c s₁ Bd hml0 hP hK
  obtain ⟨rfl, hZ, hh⟩ := hP
  have hx := Bd.exec
  have hby := Bd.bytes
  have hml : c.maxLocals = 1 := hml0
  have hown : s.vm.findClass "java/util/List" = some m.cls := findClass_of_methodNamed Bd.named
  have hnm := (name_of_methodNamed Bd.named Bd.method).1
  have X0 : Stand p l e ({ frames := 7, cells := 2, slots := 4, locals := 89 } : Room) s m #[(.ref a1)] below meth c s₁ [] 0 0 := Stand.of_body Bd
  have e0 : s₁.heap = h0 := by rw [← hh, Bd.state]; rfl
  have N0 := Fr.nil n0
  have Z0 : n0 ≤ h0.size := O0.1 ▸ O0.2.1
  have pre0 : ∀ t, Steps p.tables e below (s₁.setTop (mkF m 0 #[.val (.ref a1)] [])) t → Steps p.tables e below (s₁.setTop (entryFrame m #[(.ref a1)] 1)) t := fun t k => castTop (ef_13 m a1) k
  obtain ⟨vr3, _, ⟨T3, L3, k3, n3⟩, -, X3, ⟨Lc3, hQ3, l3, y3, z3⟩, st3⟩ := Jvm.LawKit.callS X0 hx (y := (⟨"java/util/ImmutableCollections", "listCopy", "(Ljava/util/Collection;)Ljava/util/List;"⟩ : MethodName)) hown (mvT hZ (hw _ (List.mem_of_getElem? (i := 96) rfl))) (mvT hZ (hw _ (List.mem_of_getElem? (i := 97) rfl))) (mvT hZ (hw _ (List.mem_of_getElem? (i := 98) rfl))) (mvT hZ (hw _ (List.mem_of_getElem? (i := 99) rfl))) (by decide) (backOf (W := 0) (rm14c2 l Z a0 hw [] a1 k0 el0 el1 w0 w2 h0 n0 O0 HE_a1 HF_a1_elementData HF_a1_size HE_w0 HV_w0 HI_el0 HI_el1 Mi__Ljava_lang_Object_) hZ (hw _ (List.mem_of_getElem? (i := 99) rfl)) (hw _ (List.mem_of_getElem? (i := 98) rfl)) (by decide) (by decide)) (g := (mkF m 1 #[.val (.ref a1)] [(.ref a1)])) rfl (by rw [hml]; rfl) (argsL := [(.ref a1)]) (rest := []) (lenOf pd_16 rfl) rfl (by show 2 * 0 + _ ≤ _; exact Nat.le_of_eq rfl) (hb hby d13_1) (fun _ _ => ⟨rfl, e0, (by decide : 0 + 2 ≤ _), (by decide : 0 + 4 ≤ _)⟩)
  dsimp only [Pt.U, Pt.locs, Pt.cells, Pt.slots] at X3 l3 y3 z3 st3 hQ3
  subst l3 y3 z3
  obtain ⟨b4, rfl, N3q, K3, Y3_z0, Y3_0, Y3_1, Y3_2⟩ := hQ3
  have N3 := Fr.app N0 N3q
  replace X3 := X3.more (cells' := 2) (slots' := 4) (by decide) (by decide)
  have g_b4 : n0 ≤ b4 := Nat.le_trans (Nat.le_trans Z0 (Keep.refl h0 []).1) Y3_z0
  have sz_b4 : h0.size ≤ b4 := Nat.le_trans (Keep.refl h0 []).1 Y3_z0
  have K5 : Keep h0 T3.heap [] := (Keep.refl h0 []).trans K3 all0
  have O6 : Old Z n0 T3.heap := O0.keep K3 all0
  obtain ⟨fs, hr, hrun, hended, hW, hsame⟩ := X3.leave (v := some (.ref b4)) (fun h => by rw [Bd.returns] at h; cases h)
  refine ⟨_, _, pre0 _ ?_, hrun, hended, _, _, rfl, ?_, ⟨_, rfl⟩, hW, hsame.mono (by decide) (by decide)⟩
  · show Steps p.tables e below (s₁.setTop (mkF m 0 #[.val (.ref a1)] [])) _
    refine XS.aloadN X0.here hx rfl (hb hby d13_0) rfl rfl ?_
    show Steps p.tables e below (s₁.setTop (mkF m 1 #[.val (.ref a1)] [(.ref a1)])) _
    refine st3 _ ?_
    show Steps p.tables e below (T3.setTop (mkF m 4 #[.val (.ref a1)] [(.ref b4)])) _
    exact own_retR X3 hx Bd.returns rfl rfl (hb hby d13_4) hr
  · show Q13c2 Z a1 k0 el0 el1 w0 w2 h0 n0 _ T3.heap _
    exact ⟨b4, rfl, N3, K5, sz_b4, Y3_0, Y3_1, Y3_2⟩
def Q18c3 (Z : State) (a1 a2 : Addr) (k0 : ClassId) (el0 el1 el2 w3 : Addr) (h0 : Heap) (n0 : Nat) (v : Option Value) (h : Heap) (L : List Loc) : Prop := ∃ b5 : Addr, ∃ k5 : ClassId, v = some (.ref b5) ∧ Fr n0 L ∧ Keep h0 h [] ∧ h0.size ≤ b5 ∧ Exa Z h b5 "[Ljava/lang/Object;" ∧ Arv Z h b5 k5 (.object "java/lang/Object") (3 : Int32) [(.ref el0), (.ref el1), (.ref el2)] .null ∧ Ovr Z k5 "java/lang/Object"
theorem ef_18a__3___Int32__a (m : MethodId) (x0 : Addr) (x2 : Addr) : entryFrame m #[(.ref x0), (.int (3 : Int32)), (.ref x2)] 4 = mkF m 0 #[.val (.ref x0), .val (.int (3 : Int32)), .val (.ref x2), .unset] [] := by first | (simp [entryFrame, mkF, argsToLocals, Value.category]; done) | rfl
set_option maxRecDepth 65536 in
set_option maxHeartbeats 40000000 in
theorem rm18c3 (l : Launch) (Z : State) (a0 : Array Value) (hw : ∀ d ∈ tables_1, d.before a0 Z = true) (ws : List Jvm.Cond) (a1 a2 : Addr) (k0 : ClassId) (el0 el1 el2 w3 : Addr) (h0 : Heap) (n0 : Nat) (O0 : Old Z n0 h0) (HV_a1 : Arv Z h0 a1 k0 (.object "java/lang/Object") (10 : Int32) [(.ref el0), (.ref el1), (.ref el2), .null, .null, .null, .null, .null, .null, .null] .null) (HI_el0 : Ins Z h0 el0 "java/lang/Object" true) (HI_el1 : Ins Z h0 el1 "java/lang/Object" true) (HI_el2 : Ins Z h0 el2 "java/lang/Object" true) (Mi__Ljava_lang_Object_ : own_Mir Z "[Ljava/lang/Object;" w3) (ha3 : a2 = w3) :
    MetFree l (⟨"java/util/Arrays", "copyOf", "([Ljava/lang/Object;ILjava/lang/Class;)[Ljava/lang/Object;"⟩ : MethodName) (head1 (Jvm.Cond.code (⟨"java/util/Arrays", "copyOf", "([Ljava/lang/Object;ILjava/lang/Class;)[Ljava/lang/Object;"⟩ : MethodName) jdk_65_method_120_code 4 (some (.array (.object "java/lang/Object"))) :: ws) ({ frames := 1, cells := 1, slots := 3, locals := 18 } : Room)) (fun a U => a = #[(.ref a1), (.int (3 : Int32)), (.ref a2)] ∧ Z.Warmed39 U.vm ∧ U.heap = h0) (fun _ _ _ _ _ => True) (fun _ U o U' => ∃ v L, o = .returned v ∧ Q18c3 Z a1 a2 k0 el0 el1 el2 w3 h0 n0 v U'.heap L ∧ FrameEnd U o U' L ({ frames := 1, cells := 1, slots := 3, locals := 18 } : Room).cells ({ frames := 1, cells := 1, slots := 3, locals := 18 } : Room).slots) := by
  refine MetFree.of_bodySF (plainFor_of_name pnc_java_util_Arrays) hisR ?_
  intro p e s m args below meth c s₁ Bd hml0 hP hK
  obtain ⟨rfl, hZ, hh⟩ := hP
  have hx := Bd.exec
  have hby := Bd.bytes
  have hml : c.maxLocals = 4 := hml0
  have hown : s.vm.findClass "java/util/Arrays" = some m.cls := findClass_of_methodNamed Bd.named
  have hnm := (name_of_methodNamed Bd.named Bd.method).1
  have X0 : Stand p l e ({ frames := 1, cells := 1, slots := 3, locals := 18 } : Room) s m #[(.ref a1), (.int (3 : Int32)), (.ref a2)] below meth c s₁ [] 0 0 := Stand.of_body Bd
  have e0 : s₁.heap = h0 := by rw [← hh, Bd.state]; rfl
  have N0 := Fr.nil n0
  have Z0 : n0 ≤ h0.size := O0.1 ▸ O0.2.1
  have pre0 : ∀ t, Steps p.tables e below (s₁.setTop (mkF m 0 #[.val (.ref a1), .val (.int (3 : Int32)), .val (.ref a2), .unset] [])) t → Steps p.tables e below (s₁.setTop (entryFrame m #[(.ref a1), (.int (3 : Int32)), (.ref a2)] 4)) t := fun t k => castTop (ef_18a__3___Int32__a m a1 a2) k
  obtain ⟨T4, X4, e4, st4⟩ := own_ldcM X0 hx hZ hown (hw _ (List.mem_of_getElem? (i := 136) rfl)) e0 Mi__Ljava_lang_Object_ (g := (mkF m 1 #[.val (.ref a1), .val (.int (3 : Int32)), .val (.ref a2), .unset] [(.ref a2)])) rfl (hb hby d18_1)
  obtain ⟨T5, h5, k5, X5, e5, E5, A5, B5, Ov5, st5⟩ := newRE X4 hx hZ hown (hw _ (List.mem_of_getElem? (i := 137) rfl)) (hw _ (List.mem_of_getElem? (i := 73) rfl)) e4 (g := (mkF m 7 #[.val (.ref a1), .val (.int (3 : Int32)), .val (.ref a2), .unset] [(.int (3 : Int32))])) rfl (hb hby d18_7) rfl (by decide) (cap := 3) (by decide) (by decide) (by decide) (by decide) (ad := "[Ljava/lang/Object;") (by decide)
  obtain ⟨b5, g5⟩ : ∃ z, z = h0.size := ⟨_, rfl⟩
  rw [← g5] at A5 B5 st5
  have g_b5 : n0 ≤ b5 := Nat.le_trans (Nat.le_trans Z0 (Keep.refl h0 []).1) (Nat.le_of_eq g5.symm)
  have sz_b5 : h0.size ≤ b5 := Nat.le_trans (Keep.refl h0 []).1 (Nat.le_of_eq g5.symm)
  have K6 : Keep h0 h5 [] := (Keep.refl h0 []).ext E5
  have O7 : Old Z n0 h5 := O0.ext E5
  have V5 : Arv Z h5 b5 k5 (.object "java/lang/Object") (3 : Int32) [.null, .null, .null] .null := (Arv.new A5 (by decide)).pad (pad_rep [] .null 3)
  replace X5 := X5.more (cells' := 1) (slots' := 3) (by decide) (by decide)
  have f8 := (HV_a1.ext E5)
  obtain ⟨cl9, Ar9, q9, S9, Nn9, Hh9, G9⟩ := id f8
  obtain ⟨vr10, _, ⟨T10, L10, k10, n10⟩, -, X10, ⟨Lc10, hQ10, l10, y10, z10⟩, st10⟩ := Jvm.LawKit.callS X5 hx (y := (⟨"java/lang/Math", "min", "(II)I"⟩ : MethodName)) hown (mvT hZ (hw _ (List.mem_of_getElem? (i := 138) rfl))) (mvT hZ (hw _ (List.mem_of_getElem? (i := 139) rfl))) (mvT hZ (hw _ (List.mem_of_getElem? (i := 70) rfl))) (mvT hZ (hw _ (List.mem_of_getElem? (i := 140) rfl))) (by decide) (backOf (W := 4) (rm19 l Z a0 hw [] ((10 : Int32)) ((3 : Int32)) h5 n0 O7 (by decide : (3 : Int32) < (10 : Int32))) hZ (hw _ (List.mem_of_getElem? (i := 140) rfl)) (hw _ (List.mem_of_getElem? (i := 70) rfl)) (by decide) (by decide)) (g := (mkF m 32 #[.val (.ref a1), .val (.int (3 : Int32)), .val (.ref a2), .val (.ref b5)] [(.int (3 : Int32)), (.int (10 : Int32)), (.int (0 : Int32)), (.ref b5), (.int (0 : Int32)), (.ref a1)])) rfl (by rw [hml]; rfl) (argsL := [(.int (10 : Int32)), (.int (3 : Int32))]) (rest := [(.int (0 : Int32)), (.ref b5), (.int (0 : Int32)), (.ref a1)]) (lenOf pd_7 rfl) rfl (by show 2 * 0 + _ ≤ _; exact Nat.le_of_eq rfl) (hb hby d18_32) (fun _ _ => ⟨rfl, e5, (by decide : 1 + 0 ≤ _), (by decide : 3 + 0 ≤ _)⟩)
  dsimp only [Pt.U, Pt.locs, Pt.cells, Pt.slots] at X10 l10 y10 z10 st10 hQ10
  subst l10 y10 z10
  obtain ⟨rfl, N10q, e10⟩ := hQ10
  have N10 := Fr.app N0 N10q
  replace X10 := X10.more (cells' := 1) (slots' := 3) (by decide) (by decide)
  obtain ⟨cl11, Ar11, q11, S11, Nn11, Hh11, G11⟩ := id V5
  have f12 := (HI_el0.ext E5)
  have f13 := (HI_el1.ext E5)
  have f14 := (HI_el2.ext E5)
  have sl11 : StoL Z h5 b5 [(.ref el0), (.ref el1), (.ref el2)] := ⟨Sto.ofV Ar11 q11 Ov5 f12, Sto.ofV Ar11 q11 Ov5 f13, Sto.ofV Ar11 q11 Ov5 f14, trivial⟩
  obtain ⟨T15, h15, L15, X15, e15, N15, Kc15, V15, st15⟩ := cpA X10 hx hZ hown (hw _ (List.mem_of_getElem? (i := 141) rfl)) (hw _ (List.mem_of_getElem? (i := 144) rfl)) (hw _ (List.mem_of_getElem? (i := 142) rfl)) (hw _ (List.mem_of_getElem? (i := 143) rfl)) e10 f8 V5 (us := [(.ref el0), (.ref el1), (.ref el2)]) (Or.inr ⟨rfl, rfl, sl11⟩) (sp := (0 : Int32)) (dp := (0 : Int32)) (nn := (3 : Int32)) (by decide) (by decide) (by decide) (by decide) (by decide) rfl (by decide) N10 g_b5 (g := (mkF m 35 #[.val (.ref a1), .val (.int (3 : Int32)), .val (.ref a2), .val (.ref b5)] [(.int (3 : Int32)), (.int (0 : Int32)), (.ref b5), (.int (0 : Int32)), (.ref a1)])) rfl (by rw [hml]; rfl) (rest := []) rfl (hb hby d18_35) (by decide) (W := 0) (by show 2 * 0 + _ ≤ _; exact Nat.le_of_eq rfl) (by decide)
  have K16 : Keep h0 h15 [] := K6.trans Kc15 (allS (Or.inr sz_b5) all0)
  have O17 : Old Z n0 h15 := O7.keep Kc15 (allS g_b5 all0)
  have Vc15 : Arv Z h15 b5 k5 (.object "java/lang/Object") (3 : Int32) [(.ref el0), (.ref el1), (.ref el2)] .null := V15
  have f18 := (B5.keep Kc15)
  have f19 := Ov5
  obtain ⟨fs, hr, hrun, hended, hW, hsame⟩ := X15.leave (v := some (.ref b5)) (fun h => by rw [Bd.returns] at h; cases h)
  refine ⟨_, _, pre0 _ ?_, hrun, hended, _, _, rfl, ?_, ⟨_, rfl⟩, hW, hsame.mono (by decide) (by decide)⟩
  · show Steps p.tables e below (s₁.setTop (mkF m 0 #[.val (.ref a1), .val (.int (3 : Int32)), .val (.ref a2), .unset] [])) _
    refine XS.aloadN X0.here hx rfl (hb hby d18_0) rfl rfl ?_
    show Steps p.tables e below (s₁.setTop (mkF m 1 #[.val (.ref a1), .val (.int (3 : Int32)), .val (.ref a2), .unset] [(.ref a2)])) _
    refine st4 _ ?_
    show Steps p.tables e below (T4.setTop (mkF m 3 #[.val (.ref a1), .val (.int (3 : Int32)), .val (.ref a2), .unset] [(.ref w3), (.ref a2)])) _
    refine Jvm.RoadKit.acmp (g := (mkF m 3 #[.val (.ref a1), .val (.int (3 : Int32)), .val (.ref a2), .unset] [(.ref w3), (.ref a2)])) X4 hx rfl rfl rfl (pc0 := 3) (pc' := 6) (same := true) rfl (hb hby d18_3) rfl (decide_eq_true (congrArg Value.ref ha3)) (by decide) (by decide) ?_
    show Steps p.tables e below (T4.setTop (mkF m 6 #[.val (.ref a1), .val (.int (3 : Int32)), .val (.ref a2), .unset] [])) _
    refine XS.iloadN X4.here hx rfl (hb hby d18_6) rfl ?_
    show Steps p.tables e below (T4.setTop (mkF m 7 #[.val (.ref a1), .val (.int (3 : Int32)), .val (.ref a2), .unset] [(.int (3 : Int32))])) _
    refine st5 _ ?_
    show Steps p.tables e below (T5.setTop (mkF m 10 #[.val (.ref a1), .val (.int (3 : Int32)), .val (.ref a2), .unset] [(.ref b5)])) _
    refine XS.goto X5.here hx rfl (pc0 := 10) (pc' := 24) rfl (hb hby d18_10) (by decide) (by decide) ?_
    show Steps p.tables e below (T5.setTop (mkF m 24 #[.val (.ref a1), .val (.int (3 : Int32)), .val (.ref a2), .unset] [(.ref b5)])) _
    refine XS.astoreN X5.here hx rfl (hb hby d18_24) rfl rfl (l' := #[.val (.ref a1), .val (.int (3 : Int32)), .val (.ref a2), .val (.ref b5)]) rfl ?_
    show Steps p.tables e below (T5.setTop (mkF m 25 #[.val (.ref a1), .val (.int (3 : Int32)), .val (.ref a2), .val (.ref b5)] [])) _
    refine XS.aloadN X5.here hx rfl (hb hby d18_25) rfl rfl ?_
    show Steps p.tables e below (T5.setTop (mkF m 26 #[.val (.ref a1), .val (.int (3 : Int32)), .val (.ref a2), .val (.ref b5)] [(.ref a1)])) _
    refine XS.iconst X5.here hx rfl (hb hby d18_26) ?_
    show Steps p.tables e below (T5.setTop (mkF m 27 #[.val (.ref a1), .val (.int (3 : Int32)), .val (.ref a2), .val (.ref b5)] [(.int (0 : Int32)), (.ref a1)])) _
    refine XS.aloadN X5.here hx rfl (hb hby d18_27) rfl rfl ?_
    show Steps p.tables e below (T5.setTop (mkF m 28 #[.val (.ref a1), .val (.int (3 : Int32)), .val (.ref a2), .val (.ref b5)] [(.ref b5), (.int (0 : Int32)), (.ref a1)])) _
    refine XS.iconst X5.here hx rfl (hb hby d18_28) ?_
    show Steps p.tables e below (T5.setTop (mkF m 29 #[.val (.ref a1), .val (.int (3 : Int32)), .val (.ref a2), .val (.ref b5)] [(.int (0 : Int32)), (.ref b5), (.int (0 : Int32)), (.ref a1)])) _
    refine XS.aloadN X5.here hx rfl (hb hby d18_29) rfl rfl ?_
    show Steps p.tables e below (T5.setTop (mkF m 30 #[.val (.ref a1), .val (.int (3 : Int32)), .val (.ref a2), .val (.ref b5)] [(.ref a1), (.int (0 : Int32)), (.ref b5), (.int (0 : Int32)), (.ref a1)])) _
    refine X5.arraylength hx (by rw [e5]; exact Ar9.1) (State.isArrayOf_alike hZ.alike Ar9.2.1) (g := (mkF m 30 #[.val (.ref a1), .val (.int (3 : Int32)), .val (.ref a2), .val (.ref b5)] [(.ref a1), (.int (0 : Int32)), (.ref b5), (.int (0 : Int32)), (.ref a1)])) rfl rfl (hb hby d18_30) _ ?_
    rw [len_of S9 Nn9]
    show Steps p.tables e below (T5.setTop (mkF m 31 #[.val (.ref a1), .val (.int (3 : Int32)), .val (.ref a2), .val (.ref b5)] [(.int (10 : Int32)), (.int (0 : Int32)), (.ref b5), (.int (0 : Int32)), (.ref a1)])) _
    refine XS.iloadN X5.here hx rfl (hb hby d18_31) rfl ?_
    show Steps p.tables e below (T5.setTop (mkF m 32 #[.val (.ref a1), .val (.int (3 : Int32)), .val (.ref a2), .val (.ref b5)] [(.int (3 : Int32)), (.int (10 : Int32)), (.int (0 : Int32)), (.ref b5), (.int (0 : Int32)), (.ref a1)])) _
    refine st10 _ ?_
    show Steps p.tables e below (T10.setTop (mkF m 35 #[.val (.ref a1), .val (.int (3 : Int32)), .val (.ref a2), .val (.ref b5)] [(.int (3 : Int32)), (.int (0 : Int32)), (.ref b5), (.int (0 : Int32)), (.ref a1)])) _
    refine st15 _ ?_
    show Steps p.tables e below (T15.setTop (mkF m 38 #[.val (.ref a1), .val (.int (3 : Int32)), .val (.ref a2), .val (.ref b5)] [])) _
    refine XS.aloadN X15.here hx rfl (hb hby d18_38) rfl rfl ?_
    show Steps p.tables e below (T15.setTop (mkF m 39 #[.val (.ref a1), .val (.int (3 : Int32)), .val (.ref a2), .val (.ref b5)] [(.ref b5)])) _
    exact own_retR X15 hx Bd.returns rfl rfl (hb hby d18_39) hr
  · show Q18c3 Z a1 a2 k0 el0 el1 el2 w3 h0 n0 _ T15.heap _
    rw [e15]
    exact ⟨b5, k5, rfl, N15, K16, sz_b5, f18, Vc15, f19⟩
def Q17c3 (Z : State) (a1 : Addr) (k0 : ClassId) (el0 el1 el2 w2 : Addr) (h0 : Heap) (n0 : Nat) (v : Option Value) (h : Heap) (L : List Loc) : Prop := ∃ b5 : Addr, ∃ k6 : ClassId, v = some (.ref b5) ∧ Fr n0 L ∧ Keep h0 h [] ∧ h0.size ≤ b5 ∧ Exa Z h b5 "[Ljava/lang/Object;" ∧ Arv Z h b5 k6 (.object "java/lang/Object") (3 : Int32) [(.ref el0), (.ref el1), (.ref el2)] .null ∧ Ovr Z k6 "java/lang/Object"
theorem ef_17a__3___Int32__ (m : MethodId) (x0 : Addr) : entryFrame m #[(.ref x0), (.int (3 : Int32))] 2 = mkF m 0 #[.val (.ref x0), .val (.int (3 : Int32))] [] := by first | (simp [entryFrame, mkF, argsToLocals, Value.category]; done) | rfl
set_option maxRecDepth 65536 in
set_option maxHeartbeats 40000000 in
theorem rm17c3 (l : Launch) (Z : State) (a0 : Array Value) (hw : ∀ d ∈ tables_1, d.before a0 Z = true) (ws : List Jvm.Cond) (a1 : Addr) (k0 : ClassId) (el0 el1 el2 w2 : Addr) (h0 : Heap) (n0 : Nat) (O0 : Old Z n0 h0) (HE_a1 : Exa Z h0 a1 "[Ljava/lang/Object;") (HV_a1 : Arv Z h0 a1 k0 (.object "java/lang/Object") (10 : Int32) [(.ref el0), (.ref el1), (.ref el2), .null, .null, .null, .null, .null, .null, .null] .null) (HI_el0 : Ins Z h0 el0 "java/lang/Object" true) (HI_el1 : Ins Z h0 el1 "java/lang/Object" true) (HI_el2 : Ins Z h0 el2 "java/lang/Object" true) (Mi__Ljava_lang_Object_ : own_Mir Z "[Ljava/lang/Object;" w2) :
    MetFree l (⟨"java/util/Arrays", "copyOf", "([Ljava/lang/Object;I)[Ljava/lang/Object;"⟩ : MethodName) (head1 (Jvm.Cond.code (⟨"java/util/Arrays", "copyOf", "([Ljava/lang/Object;I)[Ljava/lang/Object;"⟩ : MethodName) jdk_65_method_119_code 2 (some (.array (.object "java/lang/Object"))) :: ws) ({ frames := 2, cells := 1, slots := 3, locals := 33 } : Room)) (fun a U => a = #[(.ref a1), (.int (3 : Int32))] ∧ Z.Warmed39 U.vm ∧ U.heap = h0) (fun _ _ _ _ _ => True) (fun _ U o U' => ∃ v L, o = .returned v ∧ Q17c3 Z a1 k0 el0 el1 el2 w2 h0 n0 v U'.heap L ∧ FrameEnd U o U' L ({ frames := 2, cells := 1, slots := 3, locals := 33 } : Room).cells ({ frames := 2, cells := 1, slots := 3, locals := 33 } : Room).slots) := by
  refine MetFree.of_bodySF (plainFor_of_name pnc_java_util_Arrays) hisR ?_
  intro p e s m args below meth c s₁ Bd hml0 hP hK
  obtain ⟨rfl, hZ, hh⟩ := hP
  have hx := Bd.exec
  have hby := Bd.bytes
  have hml : c.maxLocals = 2 := hml0
  have hown : s.vm.findClass "java/util/Arrays" = some m.cls := findClass_of_methodNamed Bd.named
  have hnm := (name_of_methodNamed Bd.named Bd.method).1
  have X0 : Stand p l e ({ frames := 2, cells := 1, slots := 3, locals := 33 } : Room) s m #[(.ref a1), (.int (3 : Int32))] below meth c s₁ [] 0 0 := Stand.of_body Bd
  have e0 : s₁.heap = h0 := by rw [← hh, Bd.state]; rfl
  have N0 := Fr.nil n0
  have Z0 : n0 ≤ h0.size := O0.1 ▸ O0.2.1
  have pre0 : ∀ t, Steps p.tables e below (s₁.setTop (mkF m 0 #[.val (.ref a1), .val (.int (3 : Int32))] [])) t → Steps p.tables e below (s₁.setTop (entryFrame m #[(.ref a1), (.int (3 : Int32))] 2)) t := fun t k => castTop (ef_17a__3___Int32__ m a1) k
  obtain ⟨T3, X3, e3, st3⟩ := own_gcls X0 hx hZ hown (hw _ (List.mem_of_getElem? (i := 127) rfl)) (hw _ (List.mem_of_getElem? (i := 128) rfl)) (hw _ (List.mem_of_getElem? (i := 104) rfl)) (hw _ (List.mem_of_getElem? (i := 130) rfl)) (hw _ (List.mem_of_getElem? (i := 129) rfl)) (hw _ (List.mem_of_getElem? (i := 131) rfl)) e0 HE_a1 Mi__Ljava_lang_Object_ (g := (mkF m 3 #[.val (.ref a1), .val (.int (3 : Int32))] [(.ref a1), (.int (3 : Int32)), (.ref a1)])) rfl (by rw [hml]; rfl) rfl (hb hby d17_3) (by decide) (W := 2) (by show 2 * 0 + _ ≤ _; exact Nat.le_of_eq rfl) (by decide)
  obtain ⟨vr4, _, ⟨T4, L4, k4, n4⟩, -, X4, ⟨Lc4, hQ4, l4, y4, z4⟩, st4⟩ := Jvm.LawKit.callS X3 hx (y := (⟨"java/util/Arrays", "copyOf", "([Ljava/lang/Object;ILjava/lang/Class;)[Ljava/lang/Object;"⟩ : MethodName)) hown (mvT hZ (hw _ (List.mem_of_getElem? (i := 133) rfl))) (mvT hZ (hw _ (List.mem_of_getElem? (i := 134) rfl))) (mvT hZ (hw _ (List.mem_of_getElem? (i := 125) rfl))) (mvT hZ (hw _ (List.mem_of_getElem? (i := 135) rfl))) (by decide) (backOf (W := 0) (rm18c3 l Z a0 hw [] a1 w2 k0 el0 el1 el2 w2 h0 n0 O0 HV_a1 HI_el0 HI_el1 HI_el2 Mi__Ljava_lang_Object_ (rfl : w2 = w2)) hZ (hw _ (List.mem_of_getElem? (i := 135) rfl)) (hw _ (List.mem_of_getElem? (i := 125) rfl)) (by decide) (by decide)) (g := (mkF m 6 #[.val (.ref a1), .val (.int (3 : Int32))] [(.ref w2), (.int (3 : Int32)), (.ref a1)])) rfl (by rw [hml]; rfl) (argsL := [(.ref a1), (.int (3 : Int32)), (.ref w2)]) (rest := []) (lenOf pd_19 rfl) rfl (by show 2 * 0 + _ ≤ _; exact Nat.le_of_eq rfl) (hb hby d17_6) (fun _ _ => ⟨rfl, e3, (by decide : 0 + 1 ≤ _), (by decide : 0 + 3 ≤ _)⟩)
  dsimp only [Pt.U, Pt.locs, Pt.cells, Pt.slots] at X4 l4 y4 z4 st4 hQ4
  subst l4 y4 z4
  obtain ⟨b5, k6, rfl, N4q, K4, Y4_z0, Y4_0, Y4_1, Y4_2⟩ := hQ4
  have N4 := Fr.app N0 N4q
  replace X4 := X4.more (cells' := 1) (slots' := 3) (by decide) (by decide)
  have g_b5 : n0 ≤ b5 := Nat.le_trans (Nat.le_trans Z0 (Keep.refl h0 []).1) Y4_z0
  have sz_b5 : h0.size ≤ b5 := Nat.le_trans (Keep.refl h0 []).1 Y4_z0
  have K7 : Keep h0 T4.heap [] := (Keep.refl h0 []).trans K4 all0
  have O8 : Old Z n0 T4.heap := O0.keep K4 all0
  obtain ⟨fs, hr, hrun, hended, hW, hsame⟩ := X4.leave (v := some (.ref b5)) (fun h => by rw [Bd.returns] at h; cases h)
  refine ⟨_, _, pre0 _ ?_, hrun, hended, _, _, rfl, ?_, ⟨_, rfl⟩, hW, hsame.mono (by decide) (by decide)⟩
  · show Steps p.tables e below (s₁.setTop (mkF m 0 #[.val (.ref a1), .val (.int (3 : Int32))] [])) _
    refine XS.aloadN X0.here hx rfl (hb hby d17_0) rfl rfl ?_
    show Steps p.tables e below (s₁.setTop (mkF m 1 #[.val (.ref a1), .val (.int (3 : Int32))] [(.ref a1)])) _
    refine XS.iloadN X0.here hx rfl (hb hby d17_1) rfl ?_
    show Steps p.tables e below (s₁.setTop (mkF m 2 #[.val (.ref a1), .val (.int (3 : Int32))] [(.int (3 : Int32)), (.ref a1)])) _
    refine XS.aloadN X0.here hx rfl (hb hby d17_2) rfl rfl ?_
    show Steps p.tables e below (s₁.setTop (mkF m 3 #[.val (.ref a1), .val (.int (3 : Int32))] [(.ref a1), (.int (3 : Int32)), (.ref a1)])) _
    refine st3 _ ?_
    show Steps p.tables e below (T3.setTop (mkF m 6 #[.val (.ref a1), .val (.int (3 : Int32))] [(.ref w2), (.int (3 : Int32)), (.ref a1)])) _
    refine st4 _ ?_
    show Steps p.tables e below (T4.setTop (mkF m 9 #[.val (.ref a1), .val (.int (3 : Int32))] [(.ref b5)])) _
    exact own_retR X4 hx Bd.returns rfl rfl (hb hby d17_9) hr
  · show Q17c3 Z a1 k0 el0 el1 el2 w2 h0 n0 _ T4.heap _
    exact ⟨b5, k6, rfl, N4, K7, sz_b5, Y4_0, Y4_1, Y4_2⟩
def Q16c3 (Z : State) (a1 : Addr) (k0 : ClassId) (el0 el1 el2 w0 w4 : Addr) (h0 : Heap) (n0 : Nat) (v : Option Value) (h : Heap) (L : List Loc) : Prop := ∃ b6 : Addr, ∃ k7 : ClassId, v = some (.ref b6) ∧ Fr n0 L ∧ Keep h0 h [] ∧ h0.size ≤ b6 ∧ Exa Z h b6 "[Ljava/lang/Object;" ∧ Arv Z h b6 k7 (.object "java/lang/Object") (3 : Int32) [(.ref el0), (.ref el1), (.ref el2)] .null ∧ Ovr Z k7 "java/lang/Object"
set_option maxRecDepth 65536 in
set_option maxHeartbeats 40000000 in
theorem rm16c3 (l : Launch) (Z : State) (a0 : Array Value) (hw : ∀ d ∈ tables_1, d.before a0 Z = true) (ws : List Jvm.Cond) (a1 : Addr) (k0 : ClassId) (el0 el1 el2 w0 w4 : Addr) (h0 : Heap) (n0 : Nat) (O0 : Old Z n0 h0) (HF_a1_elementData : Fld Z h0 a1 "java/util/ArrayList" "elementData" "[Ljava/lang/Object;" (.ref w0)) (HF_a1_size : Fld Z h0 a1 "java/util/ArrayList" "size" "I" (.int (3 : Int32))) (HE_w0 : Exa Z h0 w0 "[Ljava/lang/Object;") (HV_w0 : Arv Z h0 w0 k0 (.object "java/lang/Object") (10 : Int32) [(.ref el0), (.ref el1), (.ref el2), .null, .null, .null, .null, .null, .null, .null] .null) (HI_el0 : Ins Z h0 el0 "java/lang/Object" true) (HI_el1 : Ins Z h0 el1 "java/lang/Object" true) (HI_el2 : Ins Z h0 el2 "java/lang/Object" true) (Mi__Ljava_lang_Object_ : own_Mir Z "[Ljava/lang/Object;" w4) :
    MetFree l (⟨"java/util/ArrayList", "toArray", "()[Ljava/lang/Object;"⟩ : MethodName) (head1 (Jvm.Cond.code (⟨"java/util/ArrayList", "toArray", "()[Ljava/lang/Object;"⟩ : MethodName) jdk_38_method_16_code 1 (some (.array (.object "java/lang/Object"))) :: ws) ({ frames := 3, cells := 1, slots := 3, locals := 46 } : Room)) (fun a U => a = #[(.ref a1)] ∧ Z.Warmed39 U.vm ∧ U.heap = h0) (fun _ _ _ _ _ => True) (fun _ U o U' => ∃ v L, o = .returned v ∧ Q16c3 Z a1 k0 el0 el1 el2 w0 w4 h0 n0 v U'.heap L ∧ FrameEnd U o U' L ({ frames := 3, cells := 1, slots := 3, locals := 46 } : Room).cells ({ frames := 3, cells := 1, slots := 3, locals := 46 } : Room).slots) := by
  refine MetFree.of_bodySF (plainFor_of_name pnc_java_util_ArrayList) hisR ?_
  intro p e s m args below meth c s₁ Bd hml0 hP hK
  obtain ⟨rfl, hZ, hh⟩ := hP
  have hx := Bd.exec
  have hby := Bd.bytes
  have hml : c.maxLocals = 1 := hml0
  have hown : s.vm.findClass "java/util/ArrayList" = some m.cls := findClass_of_methodNamed Bd.named
  have hnm := (name_of_methodNamed Bd.named Bd.method).1
  have X0 : Stand p l e ({ frames := 3, cells := 1, slots := 3, locals := 46 } : Room) s m #[(.ref a1)] below meth c s₁ [] 0 0 := Stand.of_body Bd
  have e0 : s₁.heap = h0 := by rw [← hh, Bd.state]; rfl
  have N0 := Fr.nil n0
  have Z0 : n0 ≤ h0.size := O0.1 ▸ O0.2.1
  have pre0 : ∀ t, Steps p.tables e below (s₁.setTop (mkF m 0 #[.val (.ref a1)] [])) t → Steps p.tables e below (s₁.setTop (entryFrame m #[(.ref a1)] 1)) t := fun t k => castTop (ef_16 m a1) k
  obtain ⟨T2, X2, e2, st2⟩ := getF X0 hx hZ hown (host := "") (Or.inl (hw _ (List.mem_of_getElem? (i := 42) rfl))) Via.refl e0 HF_a1_elementData (g := (mkF m 1 #[.val (.ref a1)] [(.ref a1)])) rfl rfl (hb hby d16_1)
  obtain ⟨T3, X3, e3, st3⟩ := getF X2 hx hZ hown (host := "") (Or.inl (hw _ (List.mem_of_getElem? (i := 51) rfl))) Via.refl e2 HF_a1_size (g := (mkF m 5 #[.val (.ref a1)] [(.ref a1), (.ref w0)])) rfl rfl (hb hby d16_5)
  obtain ⟨vr5, _, ⟨T5, L5, k5, n5⟩, -, X5, ⟨Lc5, hQ5, l5, y5, z5⟩, st5⟩ := Jvm.LawKit.callS X3 hx (y := (⟨"java/util/Arrays", "copyOf", "([Ljava/lang/Object;I)[Ljava/lang/Object;"⟩ : MethodName)) hown (mvT hZ (hw _ (List.mem_of_getElem? (i := 123) rfl))) (mvT hZ (hw _ (List.mem_of_getElem? (i := 124) rfl))) (mvT hZ (hw _ (List.mem_of_getElem? (i := 125) rfl))) (mvT hZ (hw _ (List.mem_of_getElem? (i := 126) rfl))) (by decide) (backOf (W := 0) (rm17c3 l Z a0 hw [] w0 k0 el0 el1 el2 w4 h0 n0 O0 HE_w0 HV_w0 HI_el0 HI_el1 HI_el2 Mi__Ljava_lang_Object_) hZ (hw _ (List.mem_of_getElem? (i := 126) rfl)) (hw _ (List.mem_of_getElem? (i := 125) rfl)) (by decide) (by decide)) (g := (mkF m 8 #[.val (.ref a1)] [(.int (3 : Int32)), (.ref w0)])) rfl (by rw [hml]; rfl) (argsL := [(.ref w0), (.int (3 : Int32))]) (rest := []) (lenOf pd_18 rfl) rfl (by show 2 * 0 + _ ≤ _; exact Nat.le_of_eq rfl) (hb hby d16_8) (fun _ _ => ⟨rfl, e3, (by decide : 0 + 1 ≤ _), (by decide : 0 + 3 ≤ _)⟩)
  dsimp only [Pt.U, Pt.locs, Pt.cells, Pt.slots] at X5 l5 y5 z5 st5 hQ5
  subst l5 y5 z5
  obtain ⟨b6, k7, rfl, N5q, K5, Y5_z0, Y5_0, Y5_1, Y5_2⟩ := hQ5
  have N5 := Fr.app N0 N5q
  replace X5 := X5.more (cells' := 1) (slots' := 3) (by decide) (by decide)
  have g_b6 : n0 ≤ b6 := Nat.le_trans (Nat.le_trans Z0 (Keep.refl h0 []).1) Y5_z0
  have sz_b6 : h0.size ≤ b6 := Nat.le_trans (Keep.refl h0 []).1 Y5_z0
  have K8 : Keep h0 T5.heap [] := (Keep.refl h0 []).trans K5 all0
  have O9 : Old Z n0 T5.heap := O0.keep K5 all0
  obtain ⟨fs, hr, hrun, hended, hW, hsame⟩ := X5.leave (v := some (.ref b6)) (fun h => by rw [Bd.returns] at h; cases h)
  refine ⟨_, _, pre0 _ ?_, hrun, hended, _, _, rfl, ?_, ⟨_, rfl⟩, hW, hsame.mono (by decide) (by decide)⟩
  · show Steps p.tables e below (s₁.setTop (mkF m 0 #[.val (.ref a1)] [])) _
    refine XS.aloadN X0.here hx rfl (hb hby d16_0) rfl rfl ?_
    show Steps p.tables e below (s₁.setTop (mkF m 1 #[.val (.ref a1)] [(.ref a1)])) _
    refine st2 _ ?_
    show Steps p.tables e below (T2.setTop (mkF m 4 #[.val (.ref a1)] [(.ref w0)])) _
    refine XS.aloadN X2.here hx rfl (hb hby d16_4) rfl rfl ?_
    show Steps p.tables e below (T2.setTop (mkF m 5 #[.val (.ref a1)] [(.ref a1), (.ref w0)])) _
    refine st3 _ ?_
    show Steps p.tables e below (T3.setTop (mkF m 8 #[.val (.ref a1)] [(.int (3 : Int32)), (.ref w0)])) _
    refine st5 _ ?_
    show Steps p.tables e below (T5.setTop (mkF m 11 #[.val (.ref a1)] [(.ref b6)])) _
    exact own_retR X5 hx Bd.returns rfl rfl (hb hby d16_11) hr
  · show Q16c3 Z a1 k0 el0 el1 el2 w0 w4 h0 n0 _ T5.heap _
    exact ⟨b6, k7, rfl, N5, K8, sz_b6, Y5_0, Y5_1, Y5_2⟩
theorem d28_0 : decode jdk_45_method_1_code 0 = .ok (.aload_n 0, 1) := by decide +kernel
theorem d28_1 : decode jdk_45_method_1_code 1 = .ok (.invokespecial 1, 3) := by decide +kernel
theorem d28_4 : decode jdk_45_method_1_code 4 = .ok (.aload_n 0, 1) := by decide +kernel
theorem d28_5 : decode jdk_45_method_1_code 5 = .ok (.aload_n 1, 1) := by decide +kernel
theorem d28_6 : decode jdk_45_method_1_code 6 = .ok (.putfield 7, 3) := by decide +kernel
theorem d28_9 : decode jdk_45_method_1_code 9 = .ok (.aload_n 0, 1) := by decide +kernel
theorem d28_10 : decode jdk_45_method_1_code 10 = .ok (.iload_n 2, 1) := by decide +kernel
theorem d28_11 : decode jdk_45_method_1_code 11 = .ok (.putfield 13, 3) := by decide +kernel
theorem d28_14 : decode jdk_45_method_1_code 14 = .ok (.return_, 1) := by decide +kernel
def Q28 (Z : State) (a1 a2 : Addr) (p3 : Int32) (u5 u10 : Value) (h0 : Heap) (n0 : Nat) (v : Option Value) (h : Heap) (L : List Loc) : Prop := v = none ∧ Fr n0 L ∧ Keep h0 h [a1] ∧ Exa Z h a1 "java/util/ImmutableCollections$ListN" ∧ Fld Z h a1 "java/util/ImmutableCollections$ListN" "allowNulls" "Z" (.int (p3 &&& 1)) ∧ Fld Z h a1 "java/util/ImmutableCollections$ListN" "elements" "[Ljava/lang/Object;" (.ref a2)
theorem ef_28 (m : MethodId) (x0 : Addr) (x1 : Addr) (x2 : Int32) : entryFrame m #[(.ref x0), (.ref x1), (.int x2)] 3 = mkF m 0 #[.val (.ref x0), .val (.ref x1), .val (.int x2)] [] := by first | (simp [entryFrame, mkF, argsToLocals, Value.category]; done) | rfl
theorem pnc_java_util_ImmutableCollections_ListN : plainName "java/util/ImmutableCollections$ListN" = true := by first | (simp [plainName, overriddenIn]; done) | decide +kernel
set_option maxRecDepth 65536 in
set_option maxHeartbeats 40000000 in
theorem rm28 (l : Launch) (Z : State) (a0 : Array Value) (hw : ∀ d ∈ tables_1, d.before a0 Z = true) (ws : List Jvm.Cond) (a1 a2 : Addr) (p3 : Int32) (u5 u10 : Value) (h0 : Heap) (n0 : Nat) (O0 : Old Z n0 h0) (HE_a1 : Exa Z h0 a1 "java/util/ImmutableCollections$ListN") (HF_a1_elements : Fld Z h0 a1 "java/util/ImmutableCollections$ListN" "elements" "[Ljava/lang/Object;" u5) (g_a1 : n0 ≤ a1) (HF_a1_allowNulls : Fld Z h0 a1 "java/util/ImmutableCollections$ListN" "allowNulls" "Z" u10) :
    MetFree l (⟨"java/util/ImmutableCollections$ListN", "<init>", "([Ljava/lang/Object;Z)V"⟩ : MethodName) (head1 (Jvm.Cond.code (⟨"java/util/ImmutableCollections$ListN", "<init>", "([Ljava/lang/Object;Z)V"⟩ : MethodName) jdk_45_method_1_code 3 none :: ws) ({ frames := 4, cells := 0, slots := 0, locals := 48 } : Room)) (fun a U => a = #[(.ref a1), (.ref a2), (.int p3)] ∧ Z.Warmed39 U.vm ∧ U.heap = h0) (fun _ _ _ _ _ => True) (fun _ U o U' => ∃ v L, o = .returned v ∧ Q28 Z a1 a2 p3 u5 u10 h0 n0 v U'.heap L ∧ FrameEnd U o U' L ({ frames := 4, cells := 0, slots := 0, locals := 48 } : Room).cells ({ frames := 4, cells := 0, slots := 0, locals := 48 } : Room).slots) := by
  refine MetFree.of_bodySF (plainFor_of_name pnc_java_util_ImmutableCollections_ListN) hisR ?_
  intro p e s m args below meth c s₁ Bd hml0 hP hK
  obtain ⟨rfl, hZ, hh⟩ := hP
  have hx := Bd.exec
  have hby := Bd.bytes
  have hml : c.maxLocals = 3 := hml0
  have hown : s.vm.findClass "java/util/ImmutableCollections$ListN" = some m.cls := findClass_of_methodNamed Bd.named
  have hnm := (name_of_methodNamed Bd.named Bd.method).1
  have X0 : Stand p l e ({ frames := 4, cells := 0, slots := 0, locals := 48 } : Room) s m #[(.ref a1), (.ref a2), (.int p3)] below meth c s₁ [] 0 0 := Stand.of_body Bd
  have e0 : s₁.heap = h0 := by rw [← hh, Bd.state]; rfl
  have N0 := Fr.nil n0
  have Z0 : n0 ≤ h0.size := O0.1 ▸ O0.2.1
  have pre0 : ∀ t, Steps p.tables e below (s₁.setTop (mkF m 0 #[.val (.ref a1), .val (.ref a2), .val (.int p3)] [])) t → Steps p.tables e below (s₁.setTop (entryFrame m #[(.ref a1), (.ref a2), (.int p3)] 3)) t := fun t k => castTop (ef_28 m a1 a2 p3) k
  obtain ⟨vr4, _, ⟨T4, L4, k4, n4⟩, -, X4, ⟨Lc4, hQ4, l4, y4, z4⟩, st4⟩ := X0.specialBack hx (y := (⟨"java/util/ImmutableCollections$AbstractImmutableList", "<init>", "()V"⟩ : MethodName)) rfl hown (mvT hZ (hw _ (List.mem_of_getElem? (i := 206) rfl))) (mvT hZ (hw _ (List.mem_of_getElem? (i := 156) rfl))) (mvT hZ (hw _ (List.mem_of_getElem? (i := 160) rfl))) (by decide) (backOf (W := 0) (rm22 l Z a0 hw [] a1 h0 n0 O0) hZ (hw _ (List.mem_of_getElem? (i := 160) rfl)) (hw _ (List.mem_of_getElem? (i := 159) rfl)) (by decide) (by decide)) (g := (mkF m 1 #[.val (.ref a1), .val (.ref a2), .val (.int p3)] [(.ref a1)])) rfl (by rw [hml]; rfl) (Steps.refl _) (a := a1) (argsL := []) (rest := []) (lenOf pd_2 rfl) rfl (by show 2 * 0 + _ ≤ _; exact Nat.le_of_eq rfl) (hb hby d28_1) (fun _ _ => ⟨rfl, e0, (by decide : 0 + 0 ≤ _), (by decide : 0 + 0 ≤ _)⟩)
  dsimp only [Pt.U, Pt.locs, Pt.cells, Pt.slots] at X4 l4 y4 z4 st4 hQ4
  subst l4 y4 z4
  obtain ⟨rfl, N4q, e4⟩ := hQ4
  have N4 := Fr.app N0 N4q
  replace X4 := X4.more (cells' := 0) (slots' := 0) (by decide) (by decide)
  obtain ⟨T6, h6, X6, e6, W6, st6⟩ := putF X4 hx hZ hown (host := "") (Or.inl (hw _ (List.mem_of_getElem? (i := 210) rfl))) Via.refl e4 HF_a1_elements HE_a1 (Or.inr ⟨(hw _ (List.mem_of_getElem? (i := 211) rfl)), rfl, hnm⟩) (hw _ (List.mem_of_getElem? (i := 200) rfl)) (ty := (.array (.object "java/lang/Object"))) (by decide) rfl rfl (g := (mkF m 6 #[.val (.ref a1), .val (.ref a2), .val (.int p3)] [(.ref a2), (.ref a1)])) rfl rfl (hb hby d28_6)
  have N6 := Fr.snoc X6 N4 g_a1
  have K7 : Keep h0 h6 [a1] := (Keep.refl h0 [a1]).wr W6 (Or.inl (List.mem_of_getElem? (i := 0) rfl))
  have O8 : Old Z n0 h6 := O0.wr W6 g_a1
  have Fw6 : Fld Z h6 a1 "java/util/ImmutableCollections$ListN" "elements" "[Ljava/lang/Object;" (.ref a2) := HF_a1_elements.same W6
  have f9 := (HE_a1.wr W6)
  have f11 := (HF_a1_allowNulls.other W6 (Or.inr (slot_ne (Or.inr (hw _ (List.mem_of_getElem? (i := 213) rfl))) (Or.inr (hw _ (List.mem_of_getElem? (i := 211) rfl))) (by decide) (t := .boolean) (t' := (.array (.object "java/lang/Object"))) (by decide) (by decide))))
  obtain ⟨T12, h12, X12, e12, W12, st12⟩ := putFN X6 hx hZ hown (hw _ (List.mem_of_getElem? (i := 212) rfl)) Via.refl e6 f11 f9 (Or.inr ⟨(hw _ (List.mem_of_getElem? (i := 213) rfl)), rfl, hnm⟩) (hw _ (List.mem_of_getElem? (i := 200) rfl)) (ty := .boolean) (v' := (.int (p3 &&& 1))) (by decide) rfl (fits_nar_bool _) (g := (mkF m 11 #[.val (.ref a1), .val (.ref a2), .val (.int p3)] [(.int p3), (.ref a1)])) rfl rfl (hb hby d28_11)
  have N12 := Fr.snoc X12 N6 g_a1
  have K13 : Keep h0 h12 [a1] := K7.wr W12 (Or.inl (List.mem_of_getElem? (i := 0) rfl))
  have O14 : Old Z n0 h12 := O8.wr W12 g_a1
  have Fw12 : Fld Z h12 a1 "java/util/ImmutableCollections$ListN" "allowNulls" "Z" (.int (p3 &&& 1)) := f11.same W12
  have f15 := (f9.wr W12)
  have f16 := (Fw6.other W12 (Or.inr (slot_ne (Or.inr (hw _ (List.mem_of_getElem? (i := 211) rfl))) (Or.inr (hw _ (List.mem_of_getElem? (i := 213) rfl))) (by decide) (t := (.array (.object "java/lang/Object"))) (t' := .boolean) (by decide) (by decide))))
  obtain ⟨fs, hr, hrun, hended, hW, hsame⟩ := X12.leave (v := none) (fun _ => rfl)
  refine ⟨_, _, pre0 _ ?_, hrun, hended, _, _, rfl, ?_, ⟨_, rfl⟩, hW, hsame.mono (by decide) (by decide)⟩
  · show Steps p.tables e below (s₁.setTop (mkF m 0 #[.val (.ref a1), .val (.ref a2), .val (.int p3)] [])) _
    refine XS.aloadN X0.here hx rfl (hb hby d28_0) rfl rfl ?_
    show Steps p.tables e below (s₁.setTop (mkF m 1 #[.val (.ref a1), .val (.ref a2), .val (.int p3)] [(.ref a1)])) _
    refine st4.trans ?_
    show Steps p.tables e below (T4.setTop (mkF m 4 #[.val (.ref a1), .val (.ref a2), .val (.int p3)] [])) _
    refine XS.aloadN X4.here hx rfl (hb hby d28_4) rfl rfl ?_
    show Steps p.tables e below (T4.setTop (mkF m 5 #[.val (.ref a1), .val (.ref a2), .val (.int p3)] [(.ref a1)])) _
    refine XS.aloadN X4.here hx rfl (hb hby d28_5) rfl rfl ?_
    show Steps p.tables e below (T4.setTop (mkF m 6 #[.val (.ref a1), .val (.ref a2), .val (.int p3)] [(.ref a2), (.ref a1)])) _
    refine st6 _ ?_
    show Steps p.tables e below (T6.setTop (mkF m 9 #[.val (.ref a1), .val (.ref a2), .val (.int p3)] [])) _
    refine XS.aloadN X6.here hx rfl (hb hby d28_9) rfl rfl ?_
    show Steps p.tables e below (T6.setTop (mkF m 10 #[.val (.ref a1), .val (.ref a2), .val (.int p3)] [(.ref a1)])) _
    refine XS.iloadN X6.here hx rfl (hb hby d28_10) rfl ?_
    show Steps p.tables e below (T6.setTop (mkF m 11 #[.val (.ref a1), .val (.ref a2), .val (.int p3)] [(.int p3), (.ref a1)])) _
    refine st12 _ ?_
    show Steps p.tables e below (T12.setTop (mkF m 14 #[.val (.ref a1), .val (.ref a2), .val (.int p3)] [])) _
    exact X12.returnOut hx Bd.returns (hb hby d28_14) hr
  · show Q28 Z a1 a2 p3 u5 u10 h0 n0 _ T12.heap _
    rw [e12]
    exact ⟨rfl, N12, K13, f15, Fw12, f16⟩
theorem d27_0 : decode jdk_56_method_4_code 0 = .ok (.aload_n 0, 1) := by decide +kernel
theorem d27_1 : decode jdk_56_method_4_code 1 = .ok (.arraylength, 1) := by decide +kernel
theorem d27_2 : decode jdk_56_method_4_code 2 = .ok (.anewarray 2, 3) := by decide +kernel
theorem d27_5 : decode jdk_56_method_4_code 5 = .ok (.astore_n 1, 1) := by decide +kernel
theorem d27_6 : decode jdk_56_method_4_code 6 = .ok (.iconst 0, 1) := by decide +kernel
theorem d27_7 : decode jdk_56_method_4_code 7 = .ok (.istore_n 2, 1) := by decide +kernel
theorem d27_8 : decode jdk_56_method_4_code 8 = .ok (.iload_n 2, 1) := by decide +kernel
theorem d27_9 : decode jdk_56_method_4_code 9 = .ok (.aload_n 0, 1) := by decide +kernel
theorem d27_10 : decode jdk_56_method_4_code 10 = .ok (.arraylength, 1) := by decide +kernel
theorem d27_11 : decode jdk_56_method_4_code 11 = .ok (.if_icmp .ge 18, 3) := by decide +kernel
theorem d27_14 : decode jdk_56_method_4_code 14 = .ok (.aload_n 1, 1) := by decide +kernel
theorem d27_15 : decode jdk_56_method_4_code 15 = .ok (.iload_n 2, 1) := by decide +kernel
theorem d27_16 : decode jdk_56_method_4_code 16 = .ok (.aload_n 0, 1) := by decide +kernel
theorem d27_17 : decode jdk_56_method_4_code 17 = .ok (.iload_n 2, 1) := by decide +kernel
theorem d27_18 : decode jdk_56_method_4_code 18 = .ok (.aaload, 1) := by decide +kernel
theorem d27_19 : decode jdk_56_method_4_code 19 = .ok (.invokestatic 37, 3) := by decide +kernel
theorem d27_22 : decode jdk_56_method_4_code 22 = .ok (.aastore, 1) := by decide +kernel
theorem d27_23 : decode jdk_56_method_4_code 23 = .ok (.iinc 2 1, 3) := by decide +kernel
theorem d27_26 : decode jdk_56_method_4_code 26 = .ok (.goto (-18), 3) := by decide +kernel
theorem d27_29 : decode jdk_56_method_4_code 29 = .ok (.new 12, 3) := by decide +kernel
theorem d27_32 : decode jdk_56_method_4_code 32 = .ok (.dup, 1) := by decide +kernel
theorem d27_33 : decode jdk_56_method_4_code 33 = .ok (.aload_n 1, 1) := by decide +kernel
theorem d27_34 : decode jdk_56_method_4_code 34 = .ok (.iconst 0, 1) := by decide +kernel
theorem d27_35 : decode jdk_56_method_4_code 35 = .ok (.invokespecial 43, 3) := by decide +kernel
theorem pd_20 : parseMethodDescriptor "([Ljava/lang/Object;Z)V" = some ⟨[(.array (.object "java/lang/Object")), .boolean], none⟩ := by decide +kernel
theorem own_mvMN {Z s : State} {a0 args : Array Value} {own host : String} {y : MethodName} {index : Nat} (hZ : Z.Warmed39 s.vm) (w : (Jvm.Cond.methodLinkNest own index y host).before a0 Z = true) : (Jvm.Cond.methodLinkNest own index y host).before args s = true := (Cond.methodLinkNest_wide hZ w :)
theorem d27_38 : decode jdk_56_method_4_code 38 = .ok (.areturn, 1) := by decide +kernel
def Q27c3 (Z : State) (a1 : Addr) (k0 : ClassId) (el0 el1 el2 : Addr) (h0 : Heap) (n0 : Nat) (v : Option Value) (h : Heap) (L : List Loc) : Prop := ∃ b35 b3 : Addr, ∃ k3 : ClassId, v = some (.ref b35) ∧ Fr n0 L ∧ Keep h0 h [] ∧ h0.size ≤ b35 ∧ h0.size ≤ b3 ∧ b35 ≠ b3 ∧ Exa Z h b35 "java/util/ImmutableCollections$ListN" ∧ Fld Z h b35 "java/util/ImmutableCollections$ListN" "allowNulls" "Z" (.int ((0 : Int32) &&& 1)) ∧ Fld Z h b35 "java/util/ImmutableCollections$ListN" "elements" "[Ljava/lang/Object;" (.ref b3) ∧ Exa Z h b3 "[Ljava/lang/Object;" ∧ Arv Z h b3 k3 (.object "java/lang/Object") (3 : Int32) [(.ref el0), (.ref el1), (.ref el2)] .null ∧ Ovr Z k3 "java/lang/Object"
theorem ef_27 (m : MethodId) (x0 : Addr) : entryFrame m #[(.ref x0)] 3 = mkF m 0 #[.val (.ref x0), .unset, .unset] [] := by first | (simp [entryFrame, mkF, argsToLocals, Value.category]; done) | rfl
set_option maxRecDepth 65536 in
set_option maxHeartbeats 40000000 in
theorem rm27c3 (l : Launch) (Z : State) (a0 : Array Value) (hw : ∀ d ∈ tables_1, d.before a0 Z = true) (ws : List Jvm.Cond) (a1 : Addr) (k0 : ClassId) (el0 el1 el2 : Addr) (h0 : Heap) (n0 : Nat) (O0 : Old Z n0 h0) (HV_a1 : Arv Z h0 a1 k0 (.object "java/lang/Object") (3 : Int32) [(.ref el0), (.ref el1), (.ref el2)] .null) (HI_el0 : Ins Z h0 el0 "java/lang/Object" true) (HI_el1 : Ins Z h0 el1 "java/lang/Object" true) (HI_el2 : Ins Z h0 el2 "java/lang/Object" true) :
    MetFree l (⟨"java/util/ImmutableCollections", "listFromArray", "([Ljava/lang/Object;)Ljava/util/List;"⟩ : MethodName) (head1 (Jvm.Cond.code (⟨"java/util/ImmutableCollections", "listFromArray", "([Ljava/lang/Object;)Ljava/util/List;"⟩ : MethodName) jdk_56_method_4_code 3 (some (.object "java/util/List")) :: ws) ({ frames := 5, cells := 2, slots := 5, locals := 63 } : Room)) (fun a U => a = #[(.ref a1)] ∧ Z.Warmed39 U.vm ∧ U.heap = h0) (fun _ _ _ _ _ => True) (fun _ U o U' => ∃ v L, o = .returned v ∧ Q27c3 Z a1 k0 el0 el1 el2 h0 n0 v U'.heap L ∧ FrameEnd U o U' L ({ frames := 5, cells := 2, slots := 5, locals := 63 } : Room).cells ({ frames := 5, cells := 2, slots := 5, locals := 63 } : Room).slots) := by
  refine MetFree.of_bodySF (plainFor_of_name pnc_java_util_ImmutableCollections) hisR ?_
  intro p e s m args below meth c s₁ Bd hml0 hP hK
  obtain ⟨rfl, hZ, hh⟩ := hP
  have hx := Bd.exec
  have hby := Bd.bytes
  have hml : c.maxLocals = 3 := hml0
  have hown : s.vm.findClass "java/util/ImmutableCollections" = some m.cls := findClass_of_methodNamed Bd.named
  have hnm := (name_of_methodNamed Bd.named Bd.method).1
  have X0 : Stand p l e ({ frames := 5, cells := 2, slots := 5, locals := 63 } : Room) s m #[(.ref a1)] below meth c s₁ [] 0 0 := Stand.of_body Bd
  have e0 : s₁.heap = h0 := by rw [← hh, Bd.state]; rfl
  have N0 := Fr.nil n0
  have Z0 : n0 ≤ h0.size := O0.1 ▸ O0.2.1
  have pre0 : ∀ t, Steps p.tables e below (s₁.setTop (mkF m 0 #[.val (.ref a1), .unset, .unset] [])) t → Steps p.tables e below (s₁.setTop (entryFrame m #[(.ref a1)] 3)) t := fun t k => castTop (ef_27 m a1) k
  obtain ⟨cl2, Ar2, q2, S2, Nn2, Hh2, G2⟩ := id HV_a1
  obtain ⟨T3, h3, k3, X3, e3, E3, A3, B3, Ov3, st3⟩ := newRE X0 hx hZ hown (hw _ (List.mem_of_getElem? (i := 198) rfl)) (hw _ (List.mem_of_getElem? (i := 73) rfl)) e0 (g := (mkF m 2 #[.val (.ref a1), .unset, .unset] [(.int (3 : Int32))])) rfl (hb hby d27_2) rfl (by decide) (cap := 3) (by decide) (by decide) (by decide) (by decide) (ad := "[Ljava/lang/Object;") (by decide)
  obtain ⟨b3, g3⟩ : ∃ z, z = h0.size := ⟨_, rfl⟩
  rw [← g3] at A3 B3 st3
  have g_b3 : n0 ≤ b3 := Nat.le_trans (Nat.le_trans Z0 (Keep.refl h0 []).1) (Nat.le_of_eq g3.symm)
  have sz_b3 : h0.size ≤ b3 := Nat.le_trans (Keep.refl h0 []).1 (Nat.le_of_eq g3.symm)
  have K4 : Keep h0 h3 [] := (Keep.refl h0 []).ext E3
  have O5 : Old Z n0 h3 := O0.ext E3
  have V3 : Arv Z h3 b3 k3 (.object "java/lang/Object") (3 : Int32) [.null, .null, .null] .null := (Arv.new A3 (by decide)).pad (pad_rep [] .null 3)
  replace X3 := X3.more (cells' := 1) (slots' := 3) (by decide) (by decide)
  have f6 := (HV_a1.ext E3)
  obtain ⟨cl7, Ar7, q7, S7, Nn7, Hh7, G7⟩ := id f6
  obtain ⟨cl8, Ar8, q8, S8, Nn8, Hh8, G8⟩ := id f6
  have hin8 : ¬ ((0 : Int32) < 0 ∨ cl8.slots.size ≤ ((0 : Int32)).toNatClampNeg) := inb_of S8 ⟨by decide, by decide⟩
  have hat8 : cl8.slots[((0 : Int32)).toNatClampNeg]? = some (.ref el0) := Has.at Hh8 hin8 rfl
  obtain ⟨vr9, _, ⟨T9, L9, k9, n9⟩, -, X9, ⟨Lc9, hQ9, l9, y9, z9⟩, st9⟩ := Jvm.LawKit.callS X3 hx (y := (⟨"java/util/Objects", "requireNonNull", "(Ljava/lang/Object;)Ljava/lang/Object;"⟩ : MethodName)) hown (mvT hZ (hw _ (List.mem_of_getElem? (i := 199) rfl))) (mvT hZ (hw _ (List.mem_of_getElem? (i := 170) rfl))) (mvT hZ (hw _ (List.mem_of_getElem? (i := 171) rfl))) (mvT hZ (hw _ (List.mem_of_getElem? (i := 172) rfl))) (by decide) (backOf (W := 2) (rm24 l Z a0 hw [] el0 h3 n0 O5) hZ (hw _ (List.mem_of_getElem? (i := 172) rfl)) (hw _ (List.mem_of_getElem? (i := 171) rfl)) (by decide) (by decide)) (g := (mkF m 19 #[.val (.ref a1), .val (.ref b3), .val (.int (0 : Int32))] [(.ref el0), (.int (0 : Int32)), (.ref b3)])) rfl (by rw [hml]; rfl) (argsL := [(.ref el0)]) (rest := [(.int (0 : Int32)), (.ref b3)]) (lenOf pd_8 rfl) rfl (by show 2 * 0 + _ ≤ _; exact Nat.le_of_eq rfl) (hb hby d27_19) (fun _ _ => ⟨rfl, e3, (by decide : 1 + 0 ≤ _), (by decide : 3 + 0 ≤ _)⟩)
  dsimp only [Pt.U, Pt.locs, Pt.cells, Pt.slots] at X9 l9 y9 z9 st9 hQ9
  subst l9 y9 z9
  obtain ⟨rfl, N9q, e9⟩ := hQ9
  have N9 := Fr.app N0 N9q
  replace X9 := X9.more (cells' := 1) (slots' := 3) (by decide) (by decide)
  obtain ⟨cl10, Ar10, q10, S10, Nn10, Hh10, G10⟩ := id V3
  have hin10 : ¬ ((0 : Int32) < 0 ∨ cl10.slots.size ≤ ((0 : Int32)).toNatClampNeg) := inb_of S10 ⟨by decide, by decide⟩
  have f11 := (HI_el0.ext E3)
  obtain ⟨T12, h12, X12, e12, W12, st12⟩ := stR X9 hx hZ e9 Ar10 (j := (0 : Int32)) hin10 rfl (Sto.ofV Ar10 q10 Ov3 f11) (g := (mkF m 22 #[.val (.ref a1), .val (.ref b3), .val (.int (0 : Int32))] [(.ref el0), (.int (0 : Int32)), (.ref b3)])) rfl rfl (hb hby d27_22)
  have N12 := Fr.snoc X12 N9 g_b3
  have K13 : Keep h0 h12 [] := K4.wr W12 (Or.inr sz_b3)
  have O14 : Old Z n0 h12 := O5.wr W12 g_b3
  have V12 : Arv Z h12 b3 k3 (.object "java/lang/Object") (3 : Int32) [(.ref el0), .null, .null] .null := Arv.set Ar10 q10 S10 Nn10 Hh10 G10 rfl W12 0 rfl (Nat.le_of_ble_eq_true rfl)
  have f15 := (f6.other W12 (Nat.ne_of_lt (Nat.lt_of_lt_of_le HV_a1.lt (Nat.le_of_eq g3.symm))))
  obtain ⟨cl16, Ar16, q16, S16, Nn16, Hh16, G16⟩ := id f15
  obtain ⟨cl17, Ar17, q17, S17, Nn17, Hh17, G17⟩ := id f15
  have hin17 : ¬ ((1 : Int32) < 0 ∨ cl17.slots.size ≤ ((1 : Int32)).toNatClampNeg) := inb_of S17 ⟨by decide, by decide⟩
  have hat17 : cl17.slots[((1 : Int32)).toNatClampNeg]? = some (.ref el1) := Has.at Hh17 hin17 rfl
  obtain ⟨vr18, _, ⟨T18, L18, k18, n18⟩, -, X18, ⟨Lc18, hQ18, l18, y18, z18⟩, st18⟩ := Jvm.LawKit.callS X12 hx (y := (⟨"java/util/Objects", "requireNonNull", "(Ljava/lang/Object;)Ljava/lang/Object;"⟩ : MethodName)) hown (mvT hZ (hw _ (List.mem_of_getElem? (i := 199) rfl))) (mvT hZ (hw _ (List.mem_of_getElem? (i := 170) rfl))) (mvT hZ (hw _ (List.mem_of_getElem? (i := 171) rfl))) (mvT hZ (hw _ (List.mem_of_getElem? (i := 172) rfl))) (by decide) (backOf (W := 2) (rm24 l Z a0 hw [] el1 h12 n0 O14) hZ (hw _ (List.mem_of_getElem? (i := 172) rfl)) (hw _ (List.mem_of_getElem? (i := 171) rfl)) (by decide) (by decide)) (g := (mkF m 19 #[.val (.ref a1), .val (.ref b3), .val (.int (1 : Int32))] [(.ref el1), (.int (1 : Int32)), (.ref b3)])) rfl (by rw [hml]; rfl) (argsL := [(.ref el1)]) (rest := [(.int (1 : Int32)), (.ref b3)]) (lenOf pd_8 rfl) rfl (by show 2 * 0 + _ ≤ _; exact Nat.le_of_eq rfl) (hb hby d27_19) (fun _ _ => ⟨rfl, e12, (by decide : 1 + 0 ≤ _), (by decide : 3 + 0 ≤ _)⟩)
  dsimp only [Pt.U, Pt.locs, Pt.cells, Pt.slots] at X18 l18 y18 z18 st18 hQ18
  subst l18 y18 z18
  obtain ⟨rfl, N18q, e18⟩ := hQ18
  have N18 := Fr.app N12 N18q
  replace X18 := X18.more (cells' := 1) (slots' := 3) (by decide) (by decide)
  obtain ⟨cl19, Ar19, q19, S19, Nn19, Hh19, G19⟩ := id V12
  have hin19 : ¬ ((1 : Int32) < 0 ∨ cl19.slots.size ≤ ((1 : Int32)).toNatClampNeg) := inb_of S19 ⟨by decide, by decide⟩
  have f20 := ((HI_el1.ext E3).wr W12)
  obtain ⟨T21, h21, X21, e21, W21, st21⟩ := stR X18 hx hZ e18 Ar19 (j := (1 : Int32)) hin19 rfl (Sto.ofV Ar19 q19 Ov3 f20) (g := (mkF m 22 #[.val (.ref a1), .val (.ref b3), .val (.int (1 : Int32))] [(.ref el1), (.int (1 : Int32)), (.ref b3)])) rfl rfl (hb hby d27_22)
  have N21 := Fr.snoc X21 N18 g_b3
  have K22 : Keep h0 h21 [] := K13.wr W21 (Or.inr sz_b3)
  have O23 : Old Z n0 h21 := O14.wr W21 g_b3
  have V21 : Arv Z h21 b3 k3 (.object "java/lang/Object") (3 : Int32) [(.ref el0), (.ref el1), .null] .null := Arv.set Ar19 q19 S19 Nn19 Hh19 G19 rfl W21 1 rfl (Nat.le_of_ble_eq_true rfl)
  have f24 := (f15.other W21 (Nat.ne_of_lt (Nat.lt_of_lt_of_le HV_a1.lt (Nat.le_of_eq g3.symm))))
  obtain ⟨cl25, Ar25, q25, S25, Nn25, Hh25, G25⟩ := id f24
  obtain ⟨cl26, Ar26, q26, S26, Nn26, Hh26, G26⟩ := id f24
  have hin26 : ¬ ((2 : Int32) < 0 ∨ cl26.slots.size ≤ ((2 : Int32)).toNatClampNeg) := inb_of S26 ⟨by decide, by decide⟩
  have hat26 : cl26.slots[((2 : Int32)).toNatClampNeg]? = some (.ref el2) := Has.at Hh26 hin26 rfl
  obtain ⟨vr27, _, ⟨T27, L27, k27, n27⟩, -, X27, ⟨Lc27, hQ27, l27, y27, z27⟩, st27⟩ := Jvm.LawKit.callS X21 hx (y := (⟨"java/util/Objects", "requireNonNull", "(Ljava/lang/Object;)Ljava/lang/Object;"⟩ : MethodName)) hown (mvT hZ (hw _ (List.mem_of_getElem? (i := 199) rfl))) (mvT hZ (hw _ (List.mem_of_getElem? (i := 170) rfl))) (mvT hZ (hw _ (List.mem_of_getElem? (i := 171) rfl))) (mvT hZ (hw _ (List.mem_of_getElem? (i := 172) rfl))) (by decide) (backOf (W := 2) (rm24 l Z a0 hw [] el2 h21 n0 O23) hZ (hw _ (List.mem_of_getElem? (i := 172) rfl)) (hw _ (List.mem_of_getElem? (i := 171) rfl)) (by decide) (by decide)) (g := (mkF m 19 #[.val (.ref a1), .val (.ref b3), .val (.int (2 : Int32))] [(.ref el2), (.int (2 : Int32)), (.ref b3)])) rfl (by rw [hml]; rfl) (argsL := [(.ref el2)]) (rest := [(.int (2 : Int32)), (.ref b3)]) (lenOf pd_8 rfl) rfl (by show 2 * 0 + _ ≤ _; exact Nat.le_of_eq rfl) (hb hby d27_19) (fun _ _ => ⟨rfl, e21, (by decide : 1 + 0 ≤ _), (by decide : 3 + 0 ≤ _)⟩)
  dsimp only [Pt.U, Pt.locs, Pt.cells, Pt.slots] at X27 l27 y27 z27 st27 hQ27
  subst l27 y27 z27
  obtain ⟨rfl, N27q, e27⟩ := hQ27
  have N27 := Fr.app N21 N27q
  replace X27 := X27.more (cells' := 1) (slots' := 3) (by decide) (by decide)
  obtain ⟨cl28, Ar28, q28, S28, Nn28, Hh28, G28⟩ := id V21
  have hin28 : ¬ ((2 : Int32) < 0 ∨ cl28.slots.size ≤ ((2 : Int32)).toNatClampNeg) := inb_of S28 ⟨by decide, by decide⟩
  have f29 := (((HI_el2.ext E3).wr W12).wr W21)
  obtain ⟨T30, h30, X30, e30, W30, st30⟩ := stR X27 hx hZ e27 Ar28 (j := (2 : Int32)) hin28 rfl (Sto.ofV Ar28 q28 Ov3 f29) (g := (mkF m 22 #[.val (.ref a1), .val (.ref b3), .val (.int (2 : Int32))] [(.ref el2), (.int (2 : Int32)), (.ref b3)])) rfl rfl (hb hby d27_22)
  have N30 := Fr.snoc X30 N27 g_b3
  have K31 : Keep h0 h30 [] := K22.wr W30 (Or.inr sz_b3)
  have O32 : Old Z n0 h30 := O23.wr W30 g_b3
  have V30 : Arv Z h30 b3 k3 (.object "java/lang/Object") (3 : Int32) [(.ref el0), (.ref el1), (.ref el2)] .null := Arv.set Ar28 q28 S28 Nn28 Hh28 G28 rfl W30 2 rfl (Nat.le_of_ble_eq_true rfl)
  have f33 := (f24.other W30 (Nat.ne_of_lt (Nat.lt_of_lt_of_le HV_a1.lt (Nat.le_of_eq g3.symm))))
  obtain ⟨cl34, Ar34, q34, S34, Nn34, Hh34, G34⟩ := id f33
  obtain ⟨T35, h35, X35, e35, E35, A35, D35, -, st35⟩ := newO X30 hx hZ hown (hw _ (List.mem_of_getElem? (i := 105) rfl)) (hw _ (List.mem_of_getElem? (i := 200) rfl)) (hw _ (List.mem_of_getElem? (i := 201) rfl)) e30 (g := (mkF m 29 #[.val (.ref a1), .val (.ref b3), .val (.int (3 : Int32))] [])) rfl (hb hby d27_29) (by decide) (by decide)
  obtain ⟨b35, g35⟩ : ∃ z, z = h30.size := ⟨_, rfl⟩
  rw [← g35] at A35 D35 st35
  have g_b35 : n0 ≤ b35 := Nat.le_trans (Nat.le_trans Z0 K31.1) (Nat.le_of_eq g35.symm)
  have sz_b35 : h0.size ≤ b35 := Nat.le_trans K31.1 (Nat.le_of_eq g35.symm)
  have K36 : Keep h0 h35 [] := K31.ext E35
  have O37 : Old Z n0 h35 := O32.ext E35
  have F_elements_b35 : Fld Z h35 b35 "java/util/ImmutableCollections$ListN" "elements" "[Ljava/lang/Object;" .null := D35 (Or.inr (hw _ (List.mem_of_getElem? (i := 211) rfl))) (ty := (.array (.object "java/lang/Object"))) (by decide)
  have F_allowNulls_b35 : Fld Z h35 b35 "java/util/ImmutableCollections$ListN" "allowNulls" "Z" (.int (0 : Int32)) := D35 (Or.inr (hw _ (List.mem_of_getElem? (i := 213) rfl))) (ty := .boolean) (by decide)
  replace X35 := X35.more (cells' := 2) (slots' := 5) (by decide) (by decide)
  obtain ⟨vr38, _, ⟨T38, L38, k38, n38⟩, -, X38, ⟨Lc38, hQ38, l38, y38, z38⟩, st38⟩ := X35.specialBackNest hx (y := (⟨"java/util/ImmutableCollections$ListN", "<init>", "([Ljava/lang/Object;Z)V"⟩ : MethodName)) rfl hown (own_mvMN hZ (hw _ (List.mem_of_getElem? (i := 202) rfl))) (mvT hZ (hw _ (List.mem_of_getElem? (i := 203) rfl))) (mvT hZ (hw _ (List.mem_of_getElem? (i := 205) rfl))) (by decide) (backOf (W := 1) (rm28 l Z a0 hw [] b35 b3 ((0 : Int32)) (.null) ((.int (0 : Int32))) h35 n0 O37 A35 F_elements_b35 g_b35 F_allowNulls_b35) hZ (hw _ (List.mem_of_getElem? (i := 205) rfl)) (hw _ (List.mem_of_getElem? (i := 201) rfl)) (by decide) (by decide)) (g := (mkF m 35 #[.val (.ref a1), .val (.ref b3), .val (.int (3 : Int32))] [(.int (0 : Int32)), (.ref b3), (.ref b35), (.ref b35)])) rfl (by rw [hml]; rfl) (Steps.refl _) (a := b35) (argsL := [(.ref b3), (.int (0 : Int32))]) (rest := [(.ref b35)]) (lenOf pd_20 rfl) rfl (by show 2 * 0 + _ ≤ _; exact Nat.le_of_eq rfl) (hb hby d27_35) (fun _ _ => ⟨rfl, e35, (by decide : 2 + 0 ≤ _), (by decide : 5 + 0 ≤ _)⟩)
  dsimp only [Pt.U, Pt.locs, Pt.cells, Pt.slots] at X38 l38 y38 z38 st38 hQ38
  subst l38 y38 z38
  obtain ⟨rfl, N38q, K38, Y38_0, Y38_1, Y38_2⟩ := hQ38
  have N38 := Fr.app N30 N38q
  replace X38 := X38.more (cells' := 2) (slots' := 5) (by decide) (by decide)
  have K39 : Keep h0 T38.heap [] := K36.trans K38 (allS (Or.inr sz_b35) all0)
  have O40 : Old Z n0 T38.heap := O37.keep K38 (allS g_b35 all0)
  have f41 := (((((B3.wr W12).wr W21).wr W30).ext E35).keep K38)
  have f42 := ((V30.ext E35).keep K38 (ninS (Nat.ne_of_lt (Nat.lt_of_lt_of_le (Nat.lt_of_lt_of_le V3.lt (Nat.le_trans (Nat.le_trans (Keep.of_wr W12).1 (Keep.of_wr W21).1) (Keep.of_wr W30).1)) (Nat.le_of_eq g35.symm))) nin0))
  have f43 := Ov3
  obtain ⟨fs, hr, hrun, hended, hW, hsame⟩ := X38.leave (v := some (.ref b35)) (fun h => by rw [Bd.returns] at h; cases h)
  refine ⟨_, _, pre0 _ ?_, hrun, hended, _, _, rfl, ?_, ⟨_, rfl⟩, hW, hsame.mono (by decide) (by decide)⟩
  · show Steps p.tables e below (s₁.setTop (mkF m 0 #[.val (.ref a1), .unset, .unset] [])) _
    refine XS.aloadN X0.here hx rfl (hb hby d27_0) rfl rfl ?_
    show Steps p.tables e below (s₁.setTop (mkF m 1 #[.val (.ref a1), .unset, .unset] [(.ref a1)])) _
    refine X0.arraylength hx (by rw [e0]; exact Ar2.1) (State.isArrayOf_alike hZ.alike Ar2.2.1) (g := (mkF m 1 #[.val (.ref a1), .unset, .unset] [(.ref a1)])) rfl rfl (hb hby d27_1) _ ?_
    rw [len_of S2 Nn2]
    show Steps p.tables e below (s₁.setTop (mkF m 2 #[.val (.ref a1), .unset, .unset] [(.int (3 : Int32))])) _
    refine st3 _ ?_
    show Steps p.tables e below (T3.setTop (mkF m 5 #[.val (.ref a1), .unset, .unset] [(.ref b3)])) _
    refine XS.astoreN X3.here hx rfl (hb hby d27_5) rfl rfl (l' := #[.val (.ref a1), .val (.ref b3), .unset]) rfl ?_
    show Steps p.tables e below (T3.setTop (mkF m 6 #[.val (.ref a1), .val (.ref b3), .unset] [])) _
    refine XS.iconst X3.here hx rfl (hb hby d27_6) ?_
    show Steps p.tables e below (T3.setTop (mkF m 7 #[.val (.ref a1), .val (.ref b3), .unset] [(.int (0 : Int32))])) _
    refine XS.istoreN X3.here hx rfl (hb hby d27_7) rfl (l' := #[.val (.ref a1), .val (.ref b3), .val (.int (0 : Int32))]) rfl ?_
    show Steps p.tables e below (T3.setTop (mkF m 8 #[.val (.ref a1), .val (.ref b3), .val (.int (0 : Int32))] [])) _
    refine XS.iloadN X3.here hx rfl (hb hby d27_8) rfl ?_
    show Steps p.tables e below (T3.setTop (mkF m 9 #[.val (.ref a1), .val (.ref b3), .val (.int (0 : Int32))] [(.int (0 : Int32))])) _
    refine XS.aloadN X3.here hx rfl (hb hby d27_9) rfl rfl ?_
    show Steps p.tables e below (T3.setTop (mkF m 10 #[.val (.ref a1), .val (.ref b3), .val (.int (0 : Int32))] [(.ref a1), (.int (0 : Int32))])) _
    refine X3.arraylength hx (by rw [e3]; exact Ar7.1) (State.isArrayOf_alike hZ.alike Ar7.2.1) (g := (mkF m 10 #[.val (.ref a1), .val (.ref b3), .val (.int (0 : Int32))] [(.ref a1), (.int (0 : Int32))])) rfl rfl (hb hby d27_10) _ ?_
    rw [len_of S7 Nn7]
    show Steps p.tables e below (T3.setTop (mkF m 11 #[.val (.ref a1), .val (.ref b3), .val (.int (0 : Int32))] [(.int (3 : Int32)), (.int (0 : Int32))])) _
    refine XS.icmpNo X3.here hx rfl (hb hby d27_11) rfl (tlt (by decide : (0 : Int32) < (3 : Int32))).2.1 ?_
    show Steps p.tables e below (T3.setTop (mkF m 14 #[.val (.ref a1), .val (.ref b3), .val (.int (0 : Int32))] [])) _
    refine XS.aloadN X3.here hx rfl (hb hby d27_14) rfl rfl ?_
    show Steps p.tables e below (T3.setTop (mkF m 15 #[.val (.ref a1), .val (.ref b3), .val (.int (0 : Int32))] [(.ref b3)])) _
    refine XS.iloadN X3.here hx rfl (hb hby d27_15) rfl ?_
    show Steps p.tables e below (T3.setTop (mkF m 16 #[.val (.ref a1), .val (.ref b3), .val (.int (0 : Int32))] [(.int (0 : Int32)), (.ref b3)])) _
    refine XS.aloadN X3.here hx rfl (hb hby d27_16) rfl rfl ?_
    show Steps p.tables e below (T3.setTop (mkF m 17 #[.val (.ref a1), .val (.ref b3), .val (.int (0 : Int32))] [(.ref a1), (.int (0 : Int32)), (.ref b3)])) _
    refine XS.iloadN X3.here hx rfl (hb hby d27_17) rfl ?_
    show Steps p.tables e below (T3.setTop (mkF m 18 #[.val (.ref a1), .val (.ref b3), .val (.int (0 : Int32))] [(.int (0 : Int32)), (.ref a1), (.int (0 : Int32)), (.ref b3)])) _
    refine X3.aaload hx (j := (0 : Int32)) (v := (.ref el0)) (by rw [e3]; exact Ar8.1) (State.isArrayOf_alike hZ.alike Ar8.2.1) rfl Ar8.2.2 hin8 hat8 (g := (mkF m 18 #[.val (.ref a1), .val (.ref b3), .val (.int (0 : Int32))] [(.int (0 : Int32)), (.ref a1), (.int (0 : Int32)), (.ref b3)])) rfl rfl (hb hby d27_18) _ ?_
    show Steps p.tables e below (T3.setTop (mkF m 19 #[.val (.ref a1), .val (.ref b3), .val (.int (0 : Int32))] [(.ref el0), (.int (0 : Int32)), (.ref b3)])) _
    refine st9 _ ?_
    show Steps p.tables e below (T9.setTop (mkF m 22 #[.val (.ref a1), .val (.ref b3), .val (.int (0 : Int32))] [(.ref el0), (.int (0 : Int32)), (.ref b3)])) _
    refine st12 _ ?_
    show Steps p.tables e below (T12.setTop (mkF m 23 #[.val (.ref a1), .val (.ref b3), .val (.int (0 : Int32))] [])) _
    refine XS.iinc X12.here hx rfl (hb hby d27_23) rfl (l' := #[.val (.ref a1), .val (.ref b3), .val (.int (1 : Int32))]) rfl ?_
    show Steps p.tables e below (T12.setTop (mkF m 26 #[.val (.ref a1), .val (.ref b3), .val (.int (1 : Int32))] [])) _
    refine XS.goto X12.here hx rfl (pc0 := 26) (pc' := 8) rfl (hb hby d27_26) (by decide) (by decide) ?_
    show Steps p.tables e below (T12.setTop (mkF m 8 #[.val (.ref a1), .val (.ref b3), .val (.int (1 : Int32))] [])) _
    refine XS.iloadN X12.here hx rfl (hb hby d27_8) rfl ?_
    show Steps p.tables e below (T12.setTop (mkF m 9 #[.val (.ref a1), .val (.ref b3), .val (.int (1 : Int32))] [(.int (1 : Int32))])) _
    refine XS.aloadN X12.here hx rfl (hb hby d27_9) rfl rfl ?_
    show Steps p.tables e below (T12.setTop (mkF m 10 #[.val (.ref a1), .val (.ref b3), .val (.int (1 : Int32))] [(.ref a1), (.int (1 : Int32))])) _
    refine X12.arraylength hx (by rw [e12]; exact Ar16.1) (State.isArrayOf_alike hZ.alike Ar16.2.1) (g := (mkF m 10 #[.val (.ref a1), .val (.ref b3), .val (.int (1 : Int32))] [(.ref a1), (.int (1 : Int32))])) rfl rfl (hb hby d27_10) _ ?_
    rw [len_of S16 Nn16]
    show Steps p.tables e below (T12.setTop (mkF m 11 #[.val (.ref a1), .val (.ref b3), .val (.int (1 : Int32))] [(.int (3 : Int32)), (.int (1 : Int32))])) _
    refine XS.icmpNo X12.here hx rfl (hb hby d27_11) rfl (tlt (by decide : (1 : Int32) < (3 : Int32))).2.1 ?_
    show Steps p.tables e below (T12.setTop (mkF m 14 #[.val (.ref a1), .val (.ref b3), .val (.int (1 : Int32))] [])) _
    refine XS.aloadN X12.here hx rfl (hb hby d27_14) rfl rfl ?_
    show Steps p.tables e below (T12.setTop (mkF m 15 #[.val (.ref a1), .val (.ref b3), .val (.int (1 : Int32))] [(.ref b3)])) _
    refine XS.iloadN X12.here hx rfl (hb hby d27_15) rfl ?_
    show Steps p.tables e below (T12.setTop (mkF m 16 #[.val (.ref a1), .val (.ref b3), .val (.int (1 : Int32))] [(.int (1 : Int32)), (.ref b3)])) _
    refine XS.aloadN X12.here hx rfl (hb hby d27_16) rfl rfl ?_
    show Steps p.tables e below (T12.setTop (mkF m 17 #[.val (.ref a1), .val (.ref b3), .val (.int (1 : Int32))] [(.ref a1), (.int (1 : Int32)), (.ref b3)])) _
    refine XS.iloadN X12.here hx rfl (hb hby d27_17) rfl ?_
    show Steps p.tables e below (T12.setTop (mkF m 18 #[.val (.ref a1), .val (.ref b3), .val (.int (1 : Int32))] [(.int (1 : Int32)), (.ref a1), (.int (1 : Int32)), (.ref b3)])) _
    refine X12.aaload hx (j := (1 : Int32)) (v := (.ref el1)) (by rw [e12]; exact Ar17.1) (State.isArrayOf_alike hZ.alike Ar17.2.1) rfl Ar17.2.2 hin17 hat17 (g := (mkF m 18 #[.val (.ref a1), .val (.ref b3), .val (.int (1 : Int32))] [(.int (1 : Int32)), (.ref a1), (.int (1 : Int32)), (.ref b3)])) rfl rfl (hb hby d27_18) _ ?_
    show Steps p.tables e below (T12.setTop (mkF m 19 #[.val (.ref a1), .val (.ref b3), .val (.int (1 : Int32))] [(.ref el1), (.int (1 : Int32)), (.ref b3)])) _
    refine st18 _ ?_
    show Steps p.tables e below (T18.setTop (mkF m 22 #[.val (.ref a1), .val (.ref b3), .val (.int (1 : Int32))] [(.ref el1), (.int (1 : Int32)), (.ref b3)])) _
    refine st21 _ ?_
    show Steps p.tables e below (T21.setTop (mkF m 23 #[.val (.ref a1), .val (.ref b3), .val (.int (1 : Int32))] [])) _
    refine XS.iinc X21.here hx rfl (hb hby d27_23) rfl (l' := #[.val (.ref a1), .val (.ref b3), .val (.int (2 : Int32))]) rfl ?_
    show Steps p.tables e below (T21.setTop (mkF m 26 #[.val (.ref a1), .val (.ref b3), .val (.int (2 : Int32))] [])) _
    refine XS.goto X21.here hx rfl (pc0 := 26) (pc' := 8) rfl (hb hby d27_26) (by decide) (by decide) ?_
    show Steps p.tables e below (T21.setTop (mkF m 8 #[.val (.ref a1), .val (.ref b3), .val (.int (2 : Int32))] [])) _
    refine XS.iloadN X21.here hx rfl (hb hby d27_8) rfl ?_
    show Steps p.tables e below (T21.setTop (mkF m 9 #[.val (.ref a1), .val (.ref b3), .val (.int (2 : Int32))] [(.int (2 : Int32))])) _
    refine XS.aloadN X21.here hx rfl (hb hby d27_9) rfl rfl ?_
    show Steps p.tables e below (T21.setTop (mkF m 10 #[.val (.ref a1), .val (.ref b3), .val (.int (2 : Int32))] [(.ref a1), (.int (2 : Int32))])) _
    refine X21.arraylength hx (by rw [e21]; exact Ar25.1) (State.isArrayOf_alike hZ.alike Ar25.2.1) (g := (mkF m 10 #[.val (.ref a1), .val (.ref b3), .val (.int (2 : Int32))] [(.ref a1), (.int (2 : Int32))])) rfl rfl (hb hby d27_10) _ ?_
    rw [len_of S25 Nn25]
    show Steps p.tables e below (T21.setTop (mkF m 11 #[.val (.ref a1), .val (.ref b3), .val (.int (2 : Int32))] [(.int (3 : Int32)), (.int (2 : Int32))])) _
    refine XS.icmpNo X21.here hx rfl (hb hby d27_11) rfl (tlt (by decide : (2 : Int32) < (3 : Int32))).2.1 ?_
    show Steps p.tables e below (T21.setTop (mkF m 14 #[.val (.ref a1), .val (.ref b3), .val (.int (2 : Int32))] [])) _
    refine XS.aloadN X21.here hx rfl (hb hby d27_14) rfl rfl ?_
    show Steps p.tables e below (T21.setTop (mkF m 15 #[.val (.ref a1), .val (.ref b3), .val (.int (2 : Int32))] [(.ref b3)])) _
    refine XS.iloadN X21.here hx rfl (hb hby d27_15) rfl ?_
    show Steps p.tables e below (T21.setTop (mkF m 16 #[.val (.ref a1), .val (.ref b3), .val (.int (2 : Int32))] [(.int (2 : Int32)), (.ref b3)])) _
    refine XS.aloadN X21.here hx rfl (hb hby d27_16) rfl rfl ?_
    show Steps p.tables e below (T21.setTop (mkF m 17 #[.val (.ref a1), .val (.ref b3), .val (.int (2 : Int32))] [(.ref a1), (.int (2 : Int32)), (.ref b3)])) _
    refine XS.iloadN X21.here hx rfl (hb hby d27_17) rfl ?_
    show Steps p.tables e below (T21.setTop (mkF m 18 #[.val (.ref a1), .val (.ref b3), .val (.int (2 : Int32))] [(.int (2 : Int32)), (.ref a1), (.int (2 : Int32)), (.ref b3)])) _
    refine X21.aaload hx (j := (2 : Int32)) (v := (.ref el2)) (by rw [e21]; exact Ar26.1) (State.isArrayOf_alike hZ.alike Ar26.2.1) rfl Ar26.2.2 hin26 hat26 (g := (mkF m 18 #[.val (.ref a1), .val (.ref b3), .val (.int (2 : Int32))] [(.int (2 : Int32)), (.ref a1), (.int (2 : Int32)), (.ref b3)])) rfl rfl (hb hby d27_18) _ ?_
    show Steps p.tables e below (T21.setTop (mkF m 19 #[.val (.ref a1), .val (.ref b3), .val (.int (2 : Int32))] [(.ref el2), (.int (2 : Int32)), (.ref b3)])) _
    refine st27 _ ?_
    show Steps p.tables e below (T27.setTop (mkF m 22 #[.val (.ref a1), .val (.ref b3), .val (.int (2 : Int32))] [(.ref el2), (.int (2 : Int32)), (.ref b3)])) _
    refine st30 _ ?_
    show Steps p.tables e below (T30.setTop (mkF m 23 #[.val (.ref a1), .val (.ref b3), .val (.int (2 : Int32))] [])) _
    refine XS.iinc X30.here hx rfl (hb hby d27_23) rfl (l' := #[.val (.ref a1), .val (.ref b3), .val (.int (3 : Int32))]) rfl ?_
    show Steps p.tables e below (T30.setTop (mkF m 26 #[.val (.ref a1), .val (.ref b3), .val (.int (3 : Int32))] [])) _
    refine XS.goto X30.here hx rfl (pc0 := 26) (pc' := 8) rfl (hb hby d27_26) (by decide) (by decide) ?_
    show Steps p.tables e below (T30.setTop (mkF m 8 #[.val (.ref a1), .val (.ref b3), .val (.int (3 : Int32))] [])) _
    refine XS.iloadN X30.here hx rfl (hb hby d27_8) rfl ?_
    show Steps p.tables e below (T30.setTop (mkF m 9 #[.val (.ref a1), .val (.ref b3), .val (.int (3 : Int32))] [(.int (3 : Int32))])) _
    refine XS.aloadN X30.here hx rfl (hb hby d27_9) rfl rfl ?_
    show Steps p.tables e below (T30.setTop (mkF m 10 #[.val (.ref a1), .val (.ref b3), .val (.int (3 : Int32))] [(.ref a1), (.int (3 : Int32))])) _
    refine X30.arraylength hx (by rw [e30]; exact Ar34.1) (State.isArrayOf_alike hZ.alike Ar34.2.1) (g := (mkF m 10 #[.val (.ref a1), .val (.ref b3), .val (.int (3 : Int32))] [(.ref a1), (.int (3 : Int32))])) rfl rfl (hb hby d27_10) _ ?_
    rw [len_of S34 Nn34]
    show Steps p.tables e below (T30.setTop (mkF m 11 #[.val (.ref a1), .val (.ref b3), .val (.int (3 : Int32))] [(.int (3 : Int32)), (.int (3 : Int32))])) _
    refine XS.icmpYes X30.here hx rfl (pc0 := 11) (pc' := 29) rfl (hb hby d27_11) rfl (flt (by decide : ¬ ((3 : Int32) < (3 : Int32)))).2.1 (by decide) (by decide) ?_
    show Steps p.tables e below (T30.setTop (mkF m 29 #[.val (.ref a1), .val (.ref b3), .val (.int (3 : Int32))] [])) _
    refine st35 _ ?_
    show Steps p.tables e below (T35.setTop (mkF m 32 #[.val (.ref a1), .val (.ref b3), .val (.int (3 : Int32))] [(.ref b35)])) _
    refine XS.dup X35.here hx rfl (hb hby d27_32) rfl rfl ?_
    show Steps p.tables e below (T35.setTop (mkF m 33 #[.val (.ref a1), .val (.ref b3), .val (.int (3 : Int32))] [(.ref b35), (.ref b35)])) _
    refine XS.aloadN X35.here hx rfl (hb hby d27_33) rfl rfl ?_
    show Steps p.tables e below (T35.setTop (mkF m 34 #[.val (.ref a1), .val (.ref b3), .val (.int (3 : Int32))] [(.ref b3), (.ref b35), (.ref b35)])) _
    refine XS.iconst X35.here hx rfl (hb hby d27_34) ?_
    show Steps p.tables e below (T35.setTop (mkF m 35 #[.val (.ref a1), .val (.ref b3), .val (.int (3 : Int32))] [(.int (0 : Int32)), (.ref b3), (.ref b35), (.ref b35)])) _
    refine st38.trans ?_
    show Steps p.tables e below (T38.setTop (mkF m 38 #[.val (.ref a1), .val (.ref b3), .val (.int (3 : Int32))] [(.ref b35)])) _
    exact own_retR X38 hx Bd.returns rfl rfl (hb hby d27_38) hr
  · show Q27c3 Z a1 k0 el0 el1 el2 h0 n0 _ T38.heap _
    exact ⟨b35, b3, k3, rfl, N38, K39, sz_b35, sz_b3, (Ne.symm (Nat.ne_of_lt (Nat.lt_of_lt_of_le (Nat.lt_of_lt_of_le V3.lt (Nat.le_trans (Nat.le_trans (Keep.of_wr W12).1 (Keep.of_wr W21).1) (Keep.of_wr W30).1)) (Nat.le_of_eq g35.symm)))), Y38_0, Y38_1, Y38_2, f41, f42, f43⟩
theorem d20_59 : decode jdk_40_method_47_code 59 = .ok (.aload_n 0, 1) := by decide +kernel
theorem d20_60 : decode jdk_40_method_47_code 60 = .ok (.invokestatic 109, 3) := by decide +kernel
theorem d20_63 : decode jdk_40_method_47_code 63 = .ok (.areturn, 1) := by decide +kernel
def Q20c3 (Z : State) (a1 : Addr) (k0 : ClassId) (el0 el1 el2 : Addr) (h0 : Heap) (n0 : Nat) (v : Option Value) (h : Heap) (L : List Loc) : Prop := ∃ b4 b5 : Addr, ∃ k6 : ClassId, v = some (.ref b4) ∧ Fr n0 L ∧ Keep h0 h [] ∧ h0.size ≤ b4 ∧ h0.size ≤ b5 ∧ b4 ≠ b5 ∧ Exa Z h b4 "java/util/ImmutableCollections$ListN" ∧ Fld Z h b4 "java/util/ImmutableCollections$ListN" "allowNulls" "Z" (.int ((0 : Int32) &&& 1)) ∧ Fld Z h b4 "java/util/ImmutableCollections$ListN" "elements" "[Ljava/lang/Object;" (.ref b5) ∧ Exa Z h b5 "[Ljava/lang/Object;" ∧ Arv Z h b5 k6 (.object "java/lang/Object") (3 : Int32) [(.ref el0), (.ref el1), (.ref el2)] .null ∧ Ovr Z k6 "java/lang/Object"
set_option maxRecDepth 65536 in
set_option maxHeartbeats 40000000 in
theorem rm20c3 (l : Launch) (Z : State) (a0 : Array Value) (hw : ∀ d ∈ tables_1, d.before a0 Z = true) (ws : List Jvm.Cond) (a1 : Addr) (k0 : ClassId) (el0 el1 el2 : Addr) (h0 : Heap) (n0 : Nat) (O0 : Old Z n0 h0) (HV_a1 : Arv Z h0 a1 k0 (.object "java/lang/Object") (3 : Int32) [(.ref el0), (.ref el1), (.ref el2)] .null) (HI_el0 : Ins Z h0 el0 "java/lang/Object" true) (HI_el1 : Ins Z h0 el1 "java/lang/Object" true) (HI_el2 : Ins Z h0 el2 "java/lang/Object" true) :
    MetFree l (⟨"java/util/List", "of", "([Ljava/lang/Object;)Ljava/util/List;"⟩ : MethodName) (head1 (Jvm.Cond.code (⟨"java/util/List", "of", "([Ljava/lang/Object;)Ljava/util/List;"⟩ : MethodName) jdk_40_method_47_code 2 (some (.object "java/util/List")) :: ws) ({ frames := 6, cells := 2, slots := 5, locals := 77 } : Room)) (fun a U => a = #[(.ref a1)] ∧ Z.Warmed39 U.vm ∧ U.heap = h0) (fun _ _ _ _ _ => True) (fun _ U o U' => ∃ v L, o = .returned v ∧ Q20c3 Z a1 k0 el0 el1 el2 h0 n0 v U'.heap L ∧ FrameEnd U o U' L ({ frames := 6, cells := 2, slots := 5, locals := 77 } : Room).cells ({ frames := 6, cells := 2, slots := 5, locals := 77 } : Room).slots) := by
  refine MetFree.of_bodySF (plainFor_of_name pnc_java_util_List) hisR ?_
  intro p e s m args below meth c s₁ Bd hml0 hP hK
  obtain ⟨rfl, hZ, hh⟩ := hP
  have hx := Bd.exec
  have hby := Bd.bytes
  have hml : c.maxLocals = 2 := hml0
  have hown : s.vm.findClass "java/util/List" = some m.cls := findClass_of_methodNamed Bd.named
  have hnm := (name_of_methodNamed Bd.named Bd.method).1
  have X0 : Stand p l e ({ frames := 6, cells := 2, slots := 5, locals := 77 } : Room) s m #[(.ref a1)] below meth c s₁ [] 0 0 := Stand.of_body Bd
  have e0 : s₁.heap = h0 := by rw [← hh, Bd.state]; rfl
  have N0 := Fr.nil n0
  have Z0 : n0 ≤ h0.size := O0.1 ▸ O0.2.1
  have pre0 : ∀ t, Steps p.tables e below (s₁.setTop (mkF m 0 #[.val (.ref a1), .unset] [])) t → Steps p.tables e below (s₁.setTop (entryFrame m #[(.ref a1)] 2)) t := fun t k => castTop (ef_20 m a1) k
  obtain ⟨cl2, Ar2, q2, S2, Nn2, Hh2, G2⟩ := id HV_a1
  obtain ⟨vr3, _, ⟨T3, L3, k3, n3⟩, -, X3, ⟨Lc3, hQ3, l3, y3, z3⟩, st3⟩ := Jvm.LawKit.callS X0 hx (y := (⟨"java/util/ImmutableCollections", "listFromArray", "([Ljava/lang/Object;)Ljava/util/List;"⟩ : MethodName)) hown (mvT hZ (hw _ (List.mem_of_getElem? (i := 195) rfl))) (mvT hZ (hw _ (List.mem_of_getElem? (i := 196) rfl))) (mvT hZ (hw _ (List.mem_of_getElem? (i := 98) rfl))) (mvT hZ (hw _ (List.mem_of_getElem? (i := 197) rfl))) (by decide) (backOf (W := 0) (rm27c3 l Z a0 hw [] a1 k0 el0 el1 el2 h0 n0 O0 HV_a1 HI_el0 HI_el1 HI_el2) hZ (hw _ (List.mem_of_getElem? (i := 197) rfl)) (hw _ (List.mem_of_getElem? (i := 98) rfl)) (by decide) (by decide)) (g := (mkF m 60 #[.val (.ref a1), .unset] [(.ref a1)])) rfl (by rw [hml]; rfl) (argsL := [(.ref a1)]) (rest := []) (lenOf pd_17 rfl) rfl (by show 2 * 0 + _ ≤ _; exact Nat.le_of_eq rfl) (hb hby d20_60) (fun _ _ => ⟨rfl, e0, (by decide : 0 + 2 ≤ _), (by decide : 0 + 5 ≤ _)⟩)
  dsimp only [Pt.U, Pt.locs, Pt.cells, Pt.slots] at X3 l3 y3 z3 st3 hQ3
  subst l3 y3 z3
  obtain ⟨b4, b5, k6, rfl, N3q, K3, Y3_z0, Y3_z1, Y3_n0, Y3_0, Y3_1, Y3_2, Y3_3, Y3_4, Y3_5⟩ := hQ3
  have N3 := Fr.app N0 N3q
  replace X3 := X3.more (cells' := 2) (slots' := 5) (by decide) (by decide)
  have g_b4 : n0 ≤ b4 := Nat.le_trans (Nat.le_trans Z0 (Keep.refl h0 []).1) Y3_z0
  have sz_b4 : h0.size ≤ b4 := Nat.le_trans (Keep.refl h0 []).1 Y3_z0
  have g_b5 : n0 ≤ b5 := Nat.le_trans (Nat.le_trans Z0 (Keep.refl h0 []).1) Y3_z1
  have sz_b5 : h0.size ≤ b5 := Nat.le_trans (Keep.refl h0 []).1 Y3_z1
  have K7 : Keep h0 T3.heap [] := (Keep.refl h0 []).trans K3 all0
  have O8 : Old Z n0 T3.heap := O0.keep K3 all0
  obtain ⟨fs, hr, hrun, hended, hW, hsame⟩ := X3.leave (v := some (.ref b4)) (fun h => by rw [Bd.returns] at h; cases h)
  refine ⟨_, _, pre0 _ ?_, hrun, hended, _, _, rfl, ?_, ⟨_, rfl⟩, hW, hsame.mono (by decide) (by decide)⟩
  · show Steps p.tables e below (s₁.setTop (mkF m 0 #[.val (.ref a1), .unset] [])) _
    refine XS.aloadN X0.here hx rfl (hb hby d20_0) rfl rfl ?_
    show Steps p.tables e below (s₁.setTop (mkF m 1 #[.val (.ref a1), .unset] [(.ref a1)])) _
    refine X0.arraylength hx (by rw [e0]; exact Ar2.1) (State.isArrayOf_alike hZ.alike Ar2.2.1) (g := (mkF m 1 #[.val (.ref a1), .unset] [(.ref a1)])) rfl rfl (hb hby d20_1) _ ?_
    rw [len_of S2 Nn2]
    show Steps p.tables e below (s₁.setTop (mkF m 2 #[.val (.ref a1), .unset] [(.int (3 : Int32))])) _
    refine XS.tswOut X0.here hx rfl (pc0 := 2) (pc' := 59) rfl (hb hby d20_2) rfl (by decide) (by decide) (by decide) ?_
    show Steps p.tables e below (s₁.setTop (mkF m 59 #[.val (.ref a1), .unset] [])) _
    refine XS.aloadN X0.here hx rfl (hb hby d20_59) rfl rfl ?_
    show Steps p.tables e below (s₁.setTop (mkF m 60 #[.val (.ref a1), .unset] [(.ref a1)])) _
    refine st3 _ ?_
    show Steps p.tables e below (T3.setTop (mkF m 63 #[.val (.ref a1), .unset] [(.ref b4)])) _
    exact own_retR X3 hx Bd.returns rfl rfl (hb hby d20_63) hr
  · show Q20c3 Z a1 k0 el0 el1 el2 h0 n0 _ T3.heap _
    exact ⟨b4, b5, k6, rfl, N3, K7, sz_b4, sz_b5, Y3_n0, Y3_0, Y3_1, Y3_2, Y3_3, Y3_4, Y3_5⟩
def Q14c3 (Z : State) (a1 : Addr) (k0 : ClassId) (el0 el1 el2 w0 w5 : Addr) (h0 : Heap) (n0 : Nat) (v : Option Value) (h : Heap) (L : List Loc) : Prop := ∃ b15 b16 : Addr, ∃ k17 : ClassId, v = some (.ref b15) ∧ Fr n0 L ∧ Keep h0 h [] ∧ h0.size ≤ b15 ∧ h0.size ≤ b16 ∧ b15 ≠ b16 ∧ Exa Z h b15 "java/util/ImmutableCollections$ListN" ∧ Fld Z h b15 "java/util/ImmutableCollections$ListN" "allowNulls" "Z" (.int ((0 : Int32) &&& 1)) ∧ Fld Z h b15 "java/util/ImmutableCollections$ListN" "elements" "[Ljava/lang/Object;" (.ref b16) ∧ Exa Z h b16 "[Ljava/lang/Object;" ∧ Arv Z h b16 k17 (.object "java/lang/Object") (3 : Int32) [(.ref el0), (.ref el1), (.ref el2)] .null ∧ Ovr Z k17 "java/lang/Object"
set_option maxRecDepth 65536 in
set_option maxHeartbeats 40000000 in
theorem rm14c3 (l : Launch) (Z : State) (a0 : Array Value) (hw : ∀ d ∈ tables_1, d.before a0 Z = true) (ws : List Jvm.Cond) (a1 : Addr) (k0 : ClassId) (el0 el1 el2 w0 w5 : Addr) (h0 : Heap) (n0 : Nat) (O0 : Old Z n0 h0) (HE_a1 : Exa Z h0 a1 "java/util/ArrayList") (HF_a1_elementData : Fld Z h0 a1 "java/util/ArrayList" "elementData" "[Ljava/lang/Object;" (.ref w0)) (HF_a1_size : Fld Z h0 a1 "java/util/ArrayList" "size" "I" (.int (3 : Int32))) (HE_w0 : Exa Z h0 w0 "[Ljava/lang/Object;") (HV_w0 : Arv Z h0 w0 k0 (.object "java/lang/Object") (10 : Int32) [(.ref el0), (.ref el1), (.ref el2), .null, .null, .null, .null, .null, .null, .null] .null) (HI_el0 : Ins Z h0 el0 "java/lang/Object" true) (HI_el1 : Ins Z h0 el1 "java/lang/Object" true) (HI_el2 : Ins Z h0 el2 "java/lang/Object" true) (Mi__Ljava_lang_Object_ : own_Mir Z "[Ljava/lang/Object;" w5) :
    MetFree l (⟨"java/util/ImmutableCollections", "listCopy", "(Ljava/util/Collection;)Ljava/util/List;"⟩ : MethodName) (head1 (Jvm.Cond.code (⟨"java/util/ImmutableCollections", "listCopy", "(Ljava/util/Collection;)Ljava/util/List;"⟩ : MethodName) jdk_56_method_3_code 2 (some (.object "java/util/List")) :: ws) ({ frames := 7, cells := 3, slots := 8, locals := 90 } : Room)) (fun a U => a = #[(.ref a1)] ∧ Z.Warmed39 U.vm ∧ U.heap = h0) (fun _ _ _ _ _ => True) (fun _ U o U' => ∃ v L, o = .returned v ∧ Q14c3 Z a1 k0 el0 el1 el2 w0 w5 h0 n0 v U'.heap L ∧ FrameEnd U o U' L ({ frames := 7, cells := 3, slots := 8, locals := 90 } : Room).cells ({ frames := 7, cells := 3, slots := 8, locals := 90 } : Room).slots) := by
  refine MetFree.of_bodySF (plainFor_of_name pnc_java_util_ImmutableCollections) hisR ?_
  intro p e s m args below meth c s₁ Bd hml0 hP hK
  obtain ⟨rfl, hZ, hh⟩ := hP
  have hx := Bd.exec
  have hby := Bd.bytes
  have hml : c.maxLocals = 2 := hml0
  have hown : s.vm.findClass "java/util/ImmutableCollections" = some m.cls := findClass_of_methodNamed Bd.named
  have hnm := (name_of_methodNamed Bd.named Bd.method).1
  have X0 : Stand p l e ({ frames := 7, cells := 3, slots := 8, locals := 90 } : Room) s m #[(.ref a1)] below meth c s₁ [] 0 0 := Stand.of_body Bd
  have e0 : s₁.heap = h0 := by rw [← hh, Bd.state]; rfl
  have N0 := Fr.nil n0
  have Z0 : n0 ≤ h0.size := O0.1 ▸ O0.2.1
  have pre0 : ∀ t, Steps p.tables e below (s₁.setTop (mkF m 0 #[.val (.ref a1), .unset] [])) t → Steps p.tables e below (s₁.setTop (entryFrame m #[(.ref a1)] 2)) t := fun t k => castTop (ef_14 m a1) k
  obtain ⟨T2, X2, e2, st2⟩ := instNo X0 hx hZ hown (hw _ (List.mem_of_getElem? (i := 100) rfl)) e0 HE_a1 (own_nsno (hw _ (List.mem_of_getElem? (i := 101) rfl)) (hw _ (List.mem_of_getElem? (i := 149) rfl)) (NS.step (hw _ (List.mem_of_getElem? (i := 101) rfl)) (NS.step (hw _ (List.mem_of_getElem? (i := 102) rfl)) (NS.step (hw _ (List.mem_of_getElem? (i := 103) rfl)) (own_nsroot (hw _ (List.mem_of_getElem? (i := 104) rfl)) (hw _ (List.mem_of_getElem? (i := 149) rfl)) (by decide)) (by decide)) (by decide)) (by decide)) (by decide)) (g := (mkF m 1 #[.val (.ref a1), .unset] [(.ref a1)])) rfl rfl (hb hby d14_1)
  obtain ⟨T3, X3, e3, st3⟩ := instNo X2 hx hZ hown (hw _ (List.mem_of_getElem? (i := 105) rfl)) e2 HE_a1 (own_nsno (hw _ (List.mem_of_getElem? (i := 101) rfl)) (hw _ (List.mem_of_getElem? (i := 200) rfl)) (NS.step (hw _ (List.mem_of_getElem? (i := 101) rfl)) (NS.step (hw _ (List.mem_of_getElem? (i := 102) rfl)) (NS.step (hw _ (List.mem_of_getElem? (i := 103) rfl)) (own_nsroot (hw _ (List.mem_of_getElem? (i := 104) rfl)) (hw _ (List.mem_of_getElem? (i := 200) rfl)) (by decide)) (by decide)) (by decide)) (by decide)) (by decide)) (g := (mkF m 8 #[.val (.ref a1), .unset] [(.ref a1)])) rfl rfl (hb hby d14_8)
  obtain ⟨cq4, kq4, q4a, q4b, q4c⟩ := isOf hZ e3 HE_a1
  obtain ⟨vr4, _, ⟨T4, L4, k4, n4⟩, -, X4, ⟨Lc4, hQ4, l4, y4, z4⟩, st4⟩ := X3.interfaceBack hx (xi := (⟨"java/util/Collection", "isEmpty", "()Z"⟩ : MethodName)) (y := (⟨"java/util/ArrayList", "isEmpty", "()Z"⟩ : MethodName)) hown (mvT hZ (hw _ (List.mem_of_getElem? (i := 106) rfl))) (mvT hZ (hw _ (List.mem_of_getElem? (i := 107) rfl))) (mvT hZ (hw _ (List.mem_of_getElem? (i := 108) rfl))) (mvT hZ (hw _ (List.mem_of_getElem? (i := 109) rfl))) (mvT hZ (hw _ (List.mem_of_getElem? (i := 110) rfl))) (mvT hZ (hw _ (List.mem_of_getElem? (i := 111) rfl))) (mvT hZ (hw _ (List.mem_of_getElem? (i := 112) rfl))) (mvT hZ (hw _ (List.mem_of_getElem? (i := 113) rfl))) (by decide) (backOf (W := 0) (rm15 l Z a0 hw [] a1 ((3 : Int32)) h0 n0 O0 HF_a1_size (by decide : ¬ ((3 : Int32) = (0 : Int32)))) hZ (hw _ (List.mem_of_getElem? (i := 114) rfl)) (hw _ (List.mem_of_getElem? (i := 22) rfl)) (by decide) (by decide)) q4a q4b q4c (g := (mkF m 32 #[.val (.ref a1), .unset] [(.ref a1)])) rfl (by rw [hml]; rfl) (Steps.refl _) (argsL := []) (rest := []) (lenOf pd_3 rfl) rfl (by show 2 * 0 + _ ≤ _; exact Nat.le_of_eq rfl) (hb hby d14_32) (fun _ _ => ⟨rfl, e3, (by decide : 0 + 0 ≤ _), (by decide : 0 + 0 ≤ _)⟩)
  dsimp only [Pt.U, Pt.locs, Pt.cells, Pt.slots] at X4 l4 y4 z4 st4 hQ4
  subst l4 y4 z4
  obtain ⟨rfl, N4q, e4⟩ := hQ4
  have N4 := Fr.app N0 N4q
  replace X4 := X4.more (cells' := 0) (slots' := 0) (by decide) (by decide)
  obtain ⟨cq6, kq6, q6a, q6b, q6c⟩ := isOf hZ e4 HE_a1
  obtain ⟨vr6, _, ⟨T6, L6, k6, n6⟩, -, X6, ⟨Lc6, hQ6, l6, y6, z6⟩, st6⟩ := X4.interfaceBack hx (xi := (⟨"java/util/Collection", "toArray", "()[Ljava/lang/Object;"⟩ : MethodName)) (y := (⟨"java/util/ArrayList", "toArray", "()[Ljava/lang/Object;"⟩ : MethodName)) hown (mvT hZ (hw _ (List.mem_of_getElem? (i := 115) rfl))) (mvT hZ (hw _ (List.mem_of_getElem? (i := 116) rfl))) (mvT hZ (hw _ (List.mem_of_getElem? (i := 117) rfl))) (mvT hZ (hw _ (List.mem_of_getElem? (i := 118) rfl))) (mvT hZ (hw _ (List.mem_of_getElem? (i := 119) rfl))) (mvT hZ (hw _ (List.mem_of_getElem? (i := 120) rfl))) (mvT hZ (hw _ (List.mem_of_getElem? (i := 121) rfl))) (mvT hZ (hw _ (List.mem_of_getElem? (i := 113) rfl))) (by decide) (backOf (W := 0) (rm16c3 l Z a0 hw [] a1 k0 el0 el1 el2 w0 w5 h0 n0 O0 HF_a1_elementData HF_a1_size HE_w0 HV_w0 HI_el0 HI_el1 HI_el2 Mi__Ljava_lang_Object_) hZ (hw _ (List.mem_of_getElem? (i := 122) rfl)) (hw _ (List.mem_of_getElem? (i := 22) rfl)) (by decide) (by decide)) q6a q6b q6c (g := (mkF m 45 #[.val (.ref a1), .unset] [(.ref a1)])) rfl (by rw [hml]; rfl) (Steps.refl _) (argsL := []) (rest := []) (lenOf pd_4 rfl) rfl (by show 2 * 0 + _ ≤ _; exact Nat.le_of_eq rfl) (hb hby d14_45) (fun _ _ => ⟨rfl, e4, (by decide : 0 + 1 ≤ _), (by decide : 0 + 3 ≤ _)⟩)
  dsimp only [Pt.U, Pt.locs, Pt.cells, Pt.slots] at X6 l6 y6 z6 st6 hQ6
  subst l6 y6 z6
  obtain ⟨b7, k8, rfl, N6q, K6, Y6_z0, Y6_0, Y6_1, Y6_2⟩ := hQ6
  have N6 := Fr.app N4 N6q
  replace X6 := X6.more (cells' := 1) (slots' := 3) (by decide) (by decide)
  have g_b7 : n0 ≤ b7 := Nat.le_trans (Nat.le_trans Z0 (Keep.refl h0 []).1) Y6_z0
  have sz_b7 : h0.size ≤ b7 := Nat.le_trans (Keep.refl h0 []).1 Y6_z0
  have K9 : Keep h0 T6.heap [] := (Keep.refl h0 []).trans K6 all0
  have O10 : Old Z n0 T6.heap := O0.keep K6 all0
  have f11 := (own_inskeep HI_el0 K6)
  have f12 := (own_inskeep HI_el1 K6)
  have f13 := (own_inskeep HI_el2 K6)
  obtain ⟨vr14, _, ⟨T14, L14, k14, n14⟩, -, X14, ⟨Lc14, hQ14, l14, y14, z14⟩, st14⟩ := Jvm.LawKit.callS X6 hx (y := (⟨"java/util/List", "of", "([Ljava/lang/Object;)Ljava/util/List;"⟩ : MethodName)) hown (mvT hZ (hw _ (List.mem_of_getElem? (i := 145) rfl))) (mvT hZ (hw _ (List.mem_of_getElem? (i := 146) rfl))) (mvT hZ (hw _ (List.mem_of_getElem? (i := 94) rfl))) (mvT hZ (hw _ (List.mem_of_getElem? (i := 147) rfl))) (by decide) (backOf (W := 0) (rm20c3 l Z a0 hw [] b7 k8 el0 el1 el2 T6.heap n0 O10 Y6_1 f11 f12 f13) hZ (hw _ (List.mem_of_getElem? (i := 147) rfl)) (hw _ (List.mem_of_getElem? (i := 94) rfl)) (by decide) (by decide)) (g := (mkF m 50 #[.val (.ref a1), .unset] [(.ref b7)])) rfl (by rw [hml]; rfl) (argsL := [(.ref b7)]) (rest := []) (lenOf pd_17 rfl) rfl (by show 2 * 0 + _ ≤ _; exact Nat.le_of_eq rfl) (hb hby d14_50) (fun _ _ => ⟨rfl, rfl, (by decide : 1 + 2 ≤ _), (by decide : 3 + 5 ≤ _)⟩)
  dsimp only [Pt.U, Pt.locs, Pt.cells, Pt.slots] at X14 l14 y14 z14 st14 hQ14
  subst l14 y14 z14
  obtain ⟨b15, b16, k17, rfl, N14q, K14, Y14_z0, Y14_z1, Y14_n0, Y14_0, Y14_1, Y14_2, Y14_3, Y14_4, Y14_5⟩ := hQ14
  have N14 := Fr.app N6 N14q
  replace X14 := X14.more (cells' := 3) (slots' := 8) (by decide) (by decide)
  have g_b15 : n0 ≤ b15 := Nat.le_trans (Nat.le_trans Z0 K9.1) Y14_z0
  have sz_b15 : h0.size ≤ b15 := Nat.le_trans K9.1 Y14_z0
  have g_b16 : n0 ≤ b16 := Nat.le_trans (Nat.le_trans Z0 K9.1) Y14_z1
  have sz_b16 : h0.size ≤ b16 := Nat.le_trans K9.1 Y14_z1
  have K18 : Keep h0 T14.heap [] := K9.trans K14 all0
  have O19 : Old Z n0 T14.heap := O10.keep K14 all0
  obtain ⟨fs, hr, hrun, hended, hW, hsame⟩ := X14.leave (v := some (.ref b15)) (fun h => by rw [Bd.returns] at h; cases h)
  refine ⟨_, _, pre0 _ ?_, hrun, hended, _, _, rfl, ?_, ⟨_, rfl⟩, hW, hsame.mono (by decide) (by decide)⟩
  · show Steps p.tables e below (s₁.setTop (mkF m 0 #[.val (.ref a1), .unset] [])) _
    refine XS.aloadN X0.here hx rfl (hb hby d14_0) rfl rfl ?_
    show Steps p.tables e below (s₁.setTop (mkF m 1 #[.val (.ref a1), .unset] [(.ref a1)])) _
    refine st2 _ ?_
    show Steps p.tables e below (T2.setTop (mkF m 4 #[.val (.ref a1), .unset] [(.int (0 : Int32))])) _
    refine XS.ifNo X2.here hx rfl (hb hby d14_4) rfl ((if0 _ _).trans (teq (by decide : (0 : Int32) = (0 : Int32))).2) ?_
    show Steps p.tables e below (T2.setTop (mkF m 7 #[.val (.ref a1), .unset] [])) _
    refine XS.aloadN X2.here hx rfl (hb hby d14_7) rfl rfl ?_
    show Steps p.tables e below (T2.setTop (mkF m 8 #[.val (.ref a1), .unset] [(.ref a1)])) _
    refine st3 _ ?_
    show Steps p.tables e below (T3.setTop (mkF m 11 #[.val (.ref a1), .unset] [(.int (0 : Int32))])) _
    refine XS.ifYes X3.here hx rfl (pc0 := 11) (pc' := 31) rfl (hb hby d14_11) rfl ((if0 _ _).trans (teq (by decide : (0 : Int32) = (0 : Int32))).1) (by decide) (by decide) ?_
    show Steps p.tables e below (T3.setTop (mkF m 31 #[.val (.ref a1), .unset] [])) _
    refine XS.aloadN X3.here hx rfl (hb hby d14_31) rfl rfl ?_
    show Steps p.tables e below (T3.setTop (mkF m 32 #[.val (.ref a1), .unset] [(.ref a1)])) _
    refine st4.trans ?_
    show Steps p.tables e below (T4.setTop (mkF m 37 #[.val (.ref a1), .unset] [(.int (0 : Int32))])) _
    refine XS.ifYes X4.here hx rfl (pc0 := 37) (pc' := 44) rfl (hb hby d14_37) rfl ((if0 _ _).trans (teq (by decide : (0 : Int32) = (0 : Int32))).1) (by decide) (by decide) ?_
    show Steps p.tables e below (T4.setTop (mkF m 44 #[.val (.ref a1), .unset] [])) _
    refine XS.aloadN X4.here hx rfl (hb hby d14_44) rfl rfl ?_
    show Steps p.tables e below (T4.setTop (mkF m 45 #[.val (.ref a1), .unset] [(.ref a1)])) _
    refine st6.trans ?_
    show Steps p.tables e below (T6.setTop (mkF m 50 #[.val (.ref a1), .unset] [(.ref b7)])) _
    refine st14 _ ?_
    show Steps p.tables e below (T14.setTop (mkF m 53 #[.val (.ref a1), .unset] [(.ref b15)])) _
    exact own_retR X14 hx Bd.returns rfl rfl (hb hby d14_53) hr
  · show Q14c3 Z a1 k0 el0 el1 el2 w0 w5 h0 n0 _ T14.heap _
    exact ⟨b15, b16, k17, rfl, N14, K18, sz_b15, sz_b16, Y14_n0, Y14_0, Y14_1, Y14_2, Y14_3, Y14_4, Y14_5⟩
def Q13c3 (Z : State) (a1 : Addr) (k0 : ClassId) (el0 el1 el2 w0 w2 : Addr) (h0 : Heap) (n0 : Nat) (v : Option Value) (h : Heap) (L : List Loc) : Prop := ∃ b4 b5 : Addr, ∃ k6 : ClassId, v = some (.ref b4) ∧ Fr n0 L ∧ Keep h0 h [] ∧ h0.size ≤ b4 ∧ h0.size ≤ b5 ∧ b4 ≠ b5 ∧ Exa Z h b4 "java/util/ImmutableCollections$ListN" ∧ Fld Z h b4 "java/util/ImmutableCollections$ListN" "allowNulls" "Z" (.int ((0 : Int32) &&& 1)) ∧ Fld Z h b4 "java/util/ImmutableCollections$ListN" "elements" "[Ljava/lang/Object;" (.ref b5) ∧ Exa Z h b5 "[Ljava/lang/Object;" ∧ Arv Z h b5 k6 (.object "java/lang/Object") (3 : Int32) [(.ref el0), (.ref el1), (.ref el2)] .null ∧ Ovr Z k6 "java/lang/Object"
set_option maxRecDepth 65536 in
set_option maxHeartbeats 40000000 in
theorem rm13c3 (l : Launch) (Z : State) (a0 : Array Value) (hw : ∀ d ∈ tables_1, d.before a0 Z = true) (ws : List Jvm.Cond) (a1 : Addr) (k0 : ClassId) (el0 el1 el2 w0 w2 : Addr) (h0 : Heap) (n0 : Nat) (O0 : Old Z n0 h0) (HE_a1 : Exa Z h0 a1 "java/util/ArrayList") (HF_a1_elementData : Fld Z h0 a1 "java/util/ArrayList" "elementData" "[Ljava/lang/Object;" (.ref w0)) (HF_a1_size : Fld Z h0 a1 "java/util/ArrayList" "size" "I" (.int (3 : Int32))) (HE_w0 : Exa Z h0 w0 "[Ljava/lang/Object;") (HV_w0 : Arv Z h0 w0 k0 (.object "java/lang/Object") (10 : Int32) [(.ref el0), (.ref el1), (.ref el2), .null, .null, .null, .null, .null, .null, .null] .null) (HI_el0 : Ins Z h0 el0 "java/lang/Object" true) (HI_el1 : Ins Z h0 el1 "java/lang/Object" true) (HI_el2 : Ins Z h0 el2 "java/lang/Object" true) (Mi__Ljava_lang_Object_ : own_Mir Z "[Ljava/lang/Object;" w2) :
    MetFree l (⟨"java/util/List", "copyOf", "(Ljava/util/Collection;)Ljava/util/List;"⟩ : MethodName) (head1 (Jvm.Cond.code (⟨"java/util/List", "copyOf", "(Ljava/util/Collection;)Ljava/util/List;"⟩ : MethodName) jdk_40_method_48_code 1 (some (.object "java/util/List")) :: ws) ({ frames := 8, cells := 3, slots := 8, locals := 103 } : Room)) (fun a U => a = #[(.ref a1)] ∧ Z.Warmed39 U.vm ∧ U.heap = h0) (fun _ _ _ _ _ => True) (fun _ U o U' => ∃ v L, o = .returned v ∧ Q13c3 Z a1 k0 el0 el1 el2 w0 w2 h0 n0 v U'.heap L ∧ FrameEnd U o U' L ({ frames := 8, cells := 3, slots := 8, locals := 103 } : Room).cells ({ frames := 8, cells := 3, slots := 8, locals := 103 } : Room).slots) := by
  refine MetFree.of_bodySF (plainFor_of_name pnc_java_util_List) hisR ?_
  intro p e s m args below meth c s₁ Bd hml0 hP hK
  obtain ⟨rfl, hZ, hh⟩ := hP
  have hx := Bd.exec
  have hby := Bd.bytes
  have hml : c.maxLocals = 1 := hml0
  have hown : s.vm.findClass "java/util/List" = some m.cls := findClass_of_methodNamed Bd.named
  have hnm := (name_of_methodNamed Bd.named Bd.method).1
  have X0 : Stand p l e ({ frames := 8, cells := 3, slots := 8, locals := 103 } : Room) s m #[(.ref a1)] below meth c s₁ [] 0 0 := Stand.of_body Bd
  have e0 : s₁.heap = h0 := by rw [← hh, Bd.state]; rfl
  have N0 := Fr.nil n0
  have Z0 : n0 ≤ h0.size := O0.1 ▸ O0.2.1
  have pre0 : ∀ t, Steps p.tables e below (s₁.setTop (mkF m 0 #[.val (.ref a1)] [])) t → Steps p.tables e below (s₁.setTop (entryFrame m #[(.ref a1)] 1)) t := fun t k => castTop (ef_13 m a1) k
  obtain ⟨vr3, _, ⟨T3, L3, k3, n3⟩, -, X3, ⟨Lc3, hQ3, l3, y3, z3⟩, st3⟩ := Jvm.LawKit.callS X0 hx (y := (⟨"java/util/ImmutableCollections", "listCopy", "(Ljava/util/Collection;)Ljava/util/List;"⟩ : MethodName)) hown (mvT hZ (hw _ (List.mem_of_getElem? (i := 96) rfl))) (mvT hZ (hw _ (List.mem_of_getElem? (i := 97) rfl))) (mvT hZ (hw _ (List.mem_of_getElem? (i := 98) rfl))) (mvT hZ (hw _ (List.mem_of_getElem? (i := 99) rfl))) (by decide) (backOf (W := 0) (rm14c3 l Z a0 hw [] a1 k0 el0 el1 el2 w0 w2 h0 n0 O0 HE_a1 HF_a1_elementData HF_a1_size HE_w0 HV_w0 HI_el0 HI_el1 HI_el2 Mi__Ljava_lang_Object_) hZ (hw _ (List.mem_of_getElem? (i := 99) rfl)) (hw _ (List.mem_of_getElem? (i := 98) rfl)) (by decide) (by decide)) (g := (mkF m 1 #[.val (.ref a1)] [(.ref a1)])) rfl (by rw [hml]; rfl) (argsL := [(.ref a1)]) (rest := []) (lenOf pd_16 rfl) rfl (by show 2 * 0 + _ ≤ _; exact Nat.le_of_eq rfl) (hb hby d13_1) (fun _ _ => ⟨rfl, e0, (by decide : 0 + 3 ≤ _), (by decide : 0 + 8 ≤ _)⟩)
  dsimp only [Pt.U, Pt.locs, Pt.cells, Pt.slots] at X3 l3 y3 z3 st3 hQ3
  subst l3 y3 z3
  obtain ⟨b4, b5, k6, rfl, N3q, K3, Y3_z0, Y3_z1, Y3_n0, Y3_0, Y3_1, Y3_2, Y3_3, Y3_4, Y3_5⟩ := hQ3
  have N3 := Fr.app N0 N3q
  replace X3 := X3.more (cells' := 3) (slots' := 8) (by decide) (by decide)
  have g_b4 : n0 ≤ b4 := Nat.le_trans (Nat.le_trans Z0 (Keep.refl h0 []).1) Y3_z0
  have sz_b4 : h0.size ≤ b4 := Nat.le_trans (Keep.refl h0 []).1 Y3_z0
  have g_b5 : n0 ≤ b5 := Nat.le_trans (Nat.le_trans Z0 (Keep.refl h0 []).1) Y3_z1
  have sz_b5 : h0.size ≤ b5 := Nat.le_trans (Keep.refl h0 []).1 Y3_z1
  have K7 : Keep h0 T3.heap [] := (Keep.refl h0 []).trans K3 all0
  have O8 : Old Z n0 T3.heap := O0.keep K3 all0
  obtain ⟨fs, hr, hrun, hended, hW, hsame⟩ := X3.leave (v := some (.ref b4)) (fun h => by rw [Bd.returns] at h; cases h)
  refine ⟨_, _, pre0 _ ?_, hrun, hended, _, _, rfl, ?_, ⟨_, rfl⟩, hW, hsame.mono (by decide) (by decide)⟩
  · show Steps p.tables e below (s₁.setTop (mkF m 0 #[.val (.ref a1)] [])) _
    refine XS.aloadN X0.here hx rfl (hb hby d13_0) rfl rfl ?_
    show Steps p.tables e below (s₁.setTop (mkF m 1 #[.val (.ref a1)] [(.ref a1)])) _
    refine st3 _ ?_
    show Steps p.tables e below (T3.setTop (mkF m 4 #[.val (.ref a1)] [(.ref b4)])) _
    exact own_retR X3 hx Bd.returns rfl rfl (hb hby d13_4) hr
  · show Q13c3 Z a1 k0 el0 el1 el2 w0 w2 h0 n0 _ T3.heap _
    exact ⟨b4, b5, k6, rfl, N3, K7, sz_b4, sz_b5, Y3_n0, Y3_0, Y3_1, Y3_2, Y3_3, Y3_4, Y3_5⟩
def Q18c4 (Z : State) (a1 a2 : Addr) (k0 : ClassId) (el0 el1 el2 el3 w3 : Addr) (h0 : Heap) (n0 : Nat) (v : Option Value) (h : Heap) (L : List Loc) : Prop := ∃ b5 : Addr, ∃ k5 : ClassId, v = some (.ref b5) ∧ Fr n0 L ∧ Keep h0 h [] ∧ h0.size ≤ b5 ∧ Exa Z h b5 "[Ljava/lang/Object;" ∧ Arv Z h b5 k5 (.object "java/lang/Object") (4 : Int32) [(.ref el0), (.ref el1), (.ref el2), (.ref el3)] .null ∧ Ovr Z k5 "java/lang/Object"
theorem ef_18a__4___Int32__a (m : MethodId) (x0 : Addr) (x2 : Addr) : entryFrame m #[(.ref x0), (.int (4 : Int32)), (.ref x2)] 4 = mkF m 0 #[.val (.ref x0), .val (.int (4 : Int32)), .val (.ref x2), .unset] [] := by first | (simp [entryFrame, mkF, argsToLocals, Value.category]; done) | rfl
set_option maxRecDepth 65536 in
set_option maxHeartbeats 40000000 in
theorem rm18c4 (l : Launch) (Z : State) (a0 : Array Value) (hw : ∀ d ∈ tables_1, d.before a0 Z = true) (ws : List Jvm.Cond) (a1 a2 : Addr) (k0 : ClassId) (el0 el1 el2 el3 w3 : Addr) (h0 : Heap) (n0 : Nat) (O0 : Old Z n0 h0) (HV_a1 : Arv Z h0 a1 k0 (.object "java/lang/Object") (10 : Int32) [(.ref el0), (.ref el1), (.ref el2), (.ref el3), .null, .null, .null, .null, .null, .null] .null) (HI_el0 : Ins Z h0 el0 "java/lang/Object" true) (HI_el1 : Ins Z h0 el1 "java/lang/Object" true) (HI_el2 : Ins Z h0 el2 "java/lang/Object" true) (HI_el3 : Ins Z h0 el3 "java/lang/Object" true) (Mi__Ljava_lang_Object_ : own_Mir Z "[Ljava/lang/Object;" w3) (ha3 : a2 = w3) :
    MetFree l (⟨"java/util/Arrays", "copyOf", "([Ljava/lang/Object;ILjava/lang/Class;)[Ljava/lang/Object;"⟩ : MethodName) (head1 (Jvm.Cond.code (⟨"java/util/Arrays", "copyOf", "([Ljava/lang/Object;ILjava/lang/Class;)[Ljava/lang/Object;"⟩ : MethodName) jdk_65_method_120_code 4 (some (.array (.object "java/lang/Object"))) :: ws) ({ frames := 1, cells := 1, slots := 4, locals := 18 } : Room)) (fun a U => a = #[(.ref a1), (.int (4 : Int32)), (.ref a2)] ∧ Z.Warmed39 U.vm ∧ U.heap = h0) (fun _ _ _ _ _ => True) (fun _ U o U' => ∃ v L, o = .returned v ∧ Q18c4 Z a1 a2 k0 el0 el1 el2 el3 w3 h0 n0 v U'.heap L ∧ FrameEnd U o U' L ({ frames := 1, cells := 1, slots := 4, locals := 18 } : Room).cells ({ frames := 1, cells := 1, slots := 4, locals := 18 } : Room).slots) := by
  refine MetFree.of_bodySF (plainFor_of_name pnc_java_util_Arrays) hisR ?_
  intro p e s m args below meth c s₁ Bd hml0 hP hK
  obtain ⟨rfl, hZ, hh⟩ := hP
  have hx := Bd.exec
  have hby := Bd.bytes
  have hml : c.maxLocals = 4 := hml0
  have hown : s.vm.findClass "java/util/Arrays" = some m.cls := findClass_of_methodNamed Bd.named
  have hnm := (name_of_methodNamed Bd.named Bd.method).1
  have X0 : Stand p l e ({ frames := 1, cells := 1, slots := 4, locals := 18 } : Room) s m #[(.ref a1), (.int (4 : Int32)), (.ref a2)] below meth c s₁ [] 0 0 := Stand.of_body Bd
  have e0 : s₁.heap = h0 := by rw [← hh, Bd.state]; rfl
  have N0 := Fr.nil n0
  have Z0 : n0 ≤ h0.size := O0.1 ▸ O0.2.1
  have pre0 : ∀ t, Steps p.tables e below (s₁.setTop (mkF m 0 #[.val (.ref a1), .val (.int (4 : Int32)), .val (.ref a2), .unset] [])) t → Steps p.tables e below (s₁.setTop (entryFrame m #[(.ref a1), (.int (4 : Int32)), (.ref a2)] 4)) t := fun t k => castTop (ef_18a__4___Int32__a m a1 a2) k
  obtain ⟨T4, X4, e4, st4⟩ := own_ldcM X0 hx hZ hown (hw _ (List.mem_of_getElem? (i := 136) rfl)) e0 Mi__Ljava_lang_Object_ (g := (mkF m 1 #[.val (.ref a1), .val (.int (4 : Int32)), .val (.ref a2), .unset] [(.ref a2)])) rfl (hb hby d18_1)
  obtain ⟨T5, h5, k5, X5, e5, E5, A5, B5, Ov5, st5⟩ := newRE X4 hx hZ hown (hw _ (List.mem_of_getElem? (i := 137) rfl)) (hw _ (List.mem_of_getElem? (i := 73) rfl)) e4 (g := (mkF m 7 #[.val (.ref a1), .val (.int (4 : Int32)), .val (.ref a2), .unset] [(.int (4 : Int32))])) rfl (hb hby d18_7) rfl (by decide) (cap := 4) (by decide) (by decide) (by decide) (by decide) (ad := "[Ljava/lang/Object;") (by decide)
  obtain ⟨b5, g5⟩ : ∃ z, z = h0.size := ⟨_, rfl⟩
  rw [← g5] at A5 B5 st5
  have g_b5 : n0 ≤ b5 := Nat.le_trans (Nat.le_trans Z0 (Keep.refl h0 []).1) (Nat.le_of_eq g5.symm)
  have sz_b5 : h0.size ≤ b5 := Nat.le_trans (Keep.refl h0 []).1 (Nat.le_of_eq g5.symm)
  have K6 : Keep h0 h5 [] := (Keep.refl h0 []).ext E5
  have O7 : Old Z n0 h5 := O0.ext E5
  have V5 : Arv Z h5 b5 k5 (.object "java/lang/Object") (4 : Int32) [.null, .null, .null, .null] .null := (Arv.new A5 (by decide)).pad (pad_rep [] .null 4)
  replace X5 := X5.more (cells' := 1) (slots' := 4) (by decide) (by decide)
  have f8 := (HV_a1.ext E5)
  obtain ⟨cl9, Ar9, q9, S9, Nn9, Hh9, G9⟩ := id f8
  obtain ⟨vr10, _, ⟨T10, L10, k10, n10⟩, -, X10, ⟨Lc10, hQ10, l10, y10, z10⟩, st10⟩ := Jvm.LawKit.callS X5 hx (y := (⟨"java/lang/Math", "min", "(II)I"⟩ : MethodName)) hown (mvT hZ (hw _ (List.mem_of_getElem? (i := 138) rfl))) (mvT hZ (hw _ (List.mem_of_getElem? (i := 139) rfl))) (mvT hZ (hw _ (List.mem_of_getElem? (i := 70) rfl))) (mvT hZ (hw _ (List.mem_of_getElem? (i := 140) rfl))) (by decide) (backOf (W := 4) (rm19 l Z a0 hw [] ((10 : Int32)) ((4 : Int32)) h5 n0 O7 (by decide : (4 : Int32) < (10 : Int32))) hZ (hw _ (List.mem_of_getElem? (i := 140) rfl)) (hw _ (List.mem_of_getElem? (i := 70) rfl)) (by decide) (by decide)) (g := (mkF m 32 #[.val (.ref a1), .val (.int (4 : Int32)), .val (.ref a2), .val (.ref b5)] [(.int (4 : Int32)), (.int (10 : Int32)), (.int (0 : Int32)), (.ref b5), (.int (0 : Int32)), (.ref a1)])) rfl (by rw [hml]; rfl) (argsL := [(.int (10 : Int32)), (.int (4 : Int32))]) (rest := [(.int (0 : Int32)), (.ref b5), (.int (0 : Int32)), (.ref a1)]) (lenOf pd_7 rfl) rfl (by show 2 * 0 + _ ≤ _; exact Nat.le_of_eq rfl) (hb hby d18_32) (fun _ _ => ⟨rfl, e5, (by decide : 1 + 0 ≤ _), (by decide : 4 + 0 ≤ _)⟩)
  dsimp only [Pt.U, Pt.locs, Pt.cells, Pt.slots] at X10 l10 y10 z10 st10 hQ10
  subst l10 y10 z10
  obtain ⟨rfl, N10q, e10⟩ := hQ10
  have N10 := Fr.app N0 N10q
  replace X10 := X10.more (cells' := 1) (slots' := 4) (by decide) (by decide)
  obtain ⟨cl11, Ar11, q11, S11, Nn11, Hh11, G11⟩ := id V5
  have f12 := (HI_el0.ext E5)
  have f13 := (HI_el1.ext E5)
  have f14 := (HI_el2.ext E5)
  have f15 := (HI_el3.ext E5)
  have sl11 : StoL Z h5 b5 [(.ref el0), (.ref el1), (.ref el2), (.ref el3)] := ⟨Sto.ofV Ar11 q11 Ov5 f12, Sto.ofV Ar11 q11 Ov5 f13, Sto.ofV Ar11 q11 Ov5 f14, Sto.ofV Ar11 q11 Ov5 f15, trivial⟩
  obtain ⟨T16, h16, L16, X16, e16, N16, Kc16, V16, st16⟩ := cpA X10 hx hZ hown (hw _ (List.mem_of_getElem? (i := 141) rfl)) (hw _ (List.mem_of_getElem? (i := 144) rfl)) (hw _ (List.mem_of_getElem? (i := 142) rfl)) (hw _ (List.mem_of_getElem? (i := 143) rfl)) e10 f8 V5 (us := [(.ref el0), (.ref el1), (.ref el2), (.ref el3)]) (Or.inr ⟨rfl, rfl, sl11⟩) (sp := (0 : Int32)) (dp := (0 : Int32)) (nn := (4 : Int32)) (by decide) (by decide) (by decide) (by decide) (by decide) rfl (by decide) N10 g_b5 (g := (mkF m 35 #[.val (.ref a1), .val (.int (4 : Int32)), .val (.ref a2), .val (.ref b5)] [(.int (4 : Int32)), (.int (0 : Int32)), (.ref b5), (.int (0 : Int32)), (.ref a1)])) rfl (by rw [hml]; rfl) (rest := []) rfl (hb hby d18_35) (by decide) (W := 0) (by show 2 * 0 + _ ≤ _; exact Nat.le_of_eq rfl) (by decide)
  have K17 : Keep h0 h16 [] := K6.trans Kc16 (allS (Or.inr sz_b5) all0)
  have O18 : Old Z n0 h16 := O7.keep Kc16 (allS g_b5 all0)
  have Vc16 : Arv Z h16 b5 k5 (.object "java/lang/Object") (4 : Int32) [(.ref el0), (.ref el1), (.ref el2), (.ref el3)] .null := V16
  have f19 := (B5.keep Kc16)
  have f20 := Ov5
  obtain ⟨fs, hr, hrun, hended, hW, hsame⟩ := X16.leave (v := some (.ref b5)) (fun h => by rw [Bd.returns] at h; cases h)
  refine ⟨_, _, pre0 _ ?_, hrun, hended, _, _, rfl, ?_, ⟨_, rfl⟩, hW, hsame.mono (by decide) (by decide)⟩
  · show Steps p.tables e below (s₁.setTop (mkF m 0 #[.val (.ref a1), .val (.int (4 : Int32)), .val (.ref a2), .unset] [])) _
    refine XS.aloadN X0.here hx rfl (hb hby d18_0) rfl rfl ?_
    show Steps p.tables e below (s₁.setTop (mkF m 1 #[.val (.ref a1), .val (.int (4 : Int32)), .val (.ref a2), .unset] [(.ref a2)])) _
    refine st4 _ ?_
    show Steps p.tables e below (T4.setTop (mkF m 3 #[.val (.ref a1), .val (.int (4 : Int32)), .val (.ref a2), .unset] [(.ref w3), (.ref a2)])) _
    refine Jvm.RoadKit.acmp (g := (mkF m 3 #[.val (.ref a1), .val (.int (4 : Int32)), .val (.ref a2), .unset] [(.ref w3), (.ref a2)])) X4 hx rfl rfl rfl (pc0 := 3) (pc' := 6) (same := true) rfl (hb hby d18_3) rfl (decide_eq_true (congrArg Value.ref ha3)) (by decide) (by decide) ?_
    show Steps p.tables e below (T4.setTop (mkF m 6 #[.val (.ref a1), .val (.int (4 : Int32)), .val (.ref a2), .unset] [])) _
    refine XS.iloadN X4.here hx rfl (hb hby d18_6) rfl ?_
    show Steps p.tables e below (T4.setTop (mkF m 7 #[.val (.ref a1), .val (.int (4 : Int32)), .val (.ref a2), .unset] [(.int (4 : Int32))])) _
    refine st5 _ ?_
    show Steps p.tables e below (T5.setTop (mkF m 10 #[.val (.ref a1), .val (.int (4 : Int32)), .val (.ref a2), .unset] [(.ref b5)])) _
    refine XS.goto X5.here hx rfl (pc0 := 10) (pc' := 24) rfl (hb hby d18_10) (by decide) (by decide) ?_
    show Steps p.tables e below (T5.setTop (mkF m 24 #[.val (.ref a1), .val (.int (4 : Int32)), .val (.ref a2), .unset] [(.ref b5)])) _
    refine XS.astoreN X5.here hx rfl (hb hby d18_24) rfl rfl (l' := #[.val (.ref a1), .val (.int (4 : Int32)), .val (.ref a2), .val (.ref b5)]) rfl ?_
    show Steps p.tables e below (T5.setTop (mkF m 25 #[.val (.ref a1), .val (.int (4 : Int32)), .val (.ref a2), .val (.ref b5)] [])) _
    refine XS.aloadN X5.here hx rfl (hb hby d18_25) rfl rfl ?_
    show Steps p.tables e below (T5.setTop (mkF m 26 #[.val (.ref a1), .val (.int (4 : Int32)), .val (.ref a2), .val (.ref b5)] [(.ref a1)])) _
    refine XS.iconst X5.here hx rfl (hb hby d18_26) ?_
    show Steps p.tables e below (T5.setTop (mkF m 27 #[.val (.ref a1), .val (.int (4 : Int32)), .val (.ref a2), .val (.ref b5)] [(.int (0 : Int32)), (.ref a1)])) _
    refine XS.aloadN X5.here hx rfl (hb hby d18_27) rfl rfl ?_
    show Steps p.tables e below (T5.setTop (mkF m 28 #[.val (.ref a1), .val (.int (4 : Int32)), .val (.ref a2), .val (.ref b5)] [(.ref b5), (.int (0 : Int32)), (.ref a1)])) _
    refine XS.iconst X5.here hx rfl (hb hby d18_28) ?_
    show Steps p.tables e below (T5.setTop (mkF m 29 #[.val (.ref a1), .val (.int (4 : Int32)), .val (.ref a2), .val (.ref b5)] [(.int (0 : Int32)), (.ref b5), (.int (0 : Int32)), (.ref a1)])) _
    refine XS.aloadN X5.here hx rfl (hb hby d18_29) rfl rfl ?_
    show Steps p.tables e below (T5.setTop (mkF m 30 #[.val (.ref a1), .val (.int (4 : Int32)), .val (.ref a2), .val (.ref b5)] [(.ref a1), (.int (0 : Int32)), (.ref b5), (.int (0 : Int32)), (.ref a1)])) _
    refine X5.arraylength hx (by rw [e5]; exact Ar9.1) (State.isArrayOf_alike hZ.alike Ar9.2.1) (g := (mkF m 30 #[.val (.ref a1), .val (.int (4 : Int32)), .val (.ref a2), .val (.ref b5)] [(.ref a1), (.int (0 : Int32)), (.ref b5), (.int (0 : Int32)), (.ref a1)])) rfl rfl (hb hby d18_30) _ ?_
    rw [len_of S9 Nn9]
    show Steps p.tables e below (T5.setTop (mkF m 31 #[.val (.ref a1), .val (.int (4 : Int32)), .val (.ref a2), .val (.ref b5)] [(.int (10 : Int32)), (.int (0 : Int32)), (.ref b5), (.int (0 : Int32)), (.ref a1)])) _
    refine XS.iloadN X5.here hx rfl (hb hby d18_31) rfl ?_
    show Steps p.tables e below (T5.setTop (mkF m 32 #[.val (.ref a1), .val (.int (4 : Int32)), .val (.ref a2), .val (.ref b5)] [(.int (4 : Int32)), (.int (10 : Int32)), (.int (0 : Int32)), (.ref b5), (.int (0 : Int32)), (.ref a1)])) _
    refine st10 _ ?_
    show Steps p.tables e below (T10.setTop (mkF m 35 #[.val (.ref a1), .val (.int (4 : Int32)), .val (.ref a2), .val (.ref b5)] [(.int (4 : Int32)), (.int (0 : Int32)), (.ref b5), (.int (0 : Int32)), (.ref a1)])) _
    refine st16 _ ?_
    show Steps p.tables e below (T16.setTop (mkF m 38 #[.val (.ref a1), .val (.int (4 : Int32)), .val (.ref a2), .val (.ref b5)] [])) _
    refine XS.aloadN X16.here hx rfl (hb hby d18_38) rfl rfl ?_
    show Steps p.tables e below (T16.setTop (mkF m 39 #[.val (.ref a1), .val (.int (4 : Int32)), .val (.ref a2), .val (.ref b5)] [(.ref b5)])) _
    exact own_retR X16 hx Bd.returns rfl rfl (hb hby d18_39) hr
  · show Q18c4 Z a1 a2 k0 el0 el1 el2 el3 w3 h0 n0 _ T16.heap _
    rw [e16]
    exact ⟨b5, k5, rfl, N16, K17, sz_b5, f19, Vc16, f20⟩
def Q17c4 (Z : State) (a1 : Addr) (k0 : ClassId) (el0 el1 el2 el3 w2 : Addr) (h0 : Heap) (n0 : Nat) (v : Option Value) (h : Heap) (L : List Loc) : Prop := ∃ b5 : Addr, ∃ k6 : ClassId, v = some (.ref b5) ∧ Fr n0 L ∧ Keep h0 h [] ∧ h0.size ≤ b5 ∧ Exa Z h b5 "[Ljava/lang/Object;" ∧ Arv Z h b5 k6 (.object "java/lang/Object") (4 : Int32) [(.ref el0), (.ref el1), (.ref el2), (.ref el3)] .null ∧ Ovr Z k6 "java/lang/Object"
theorem ef_17a__4___Int32__ (m : MethodId) (x0 : Addr) : entryFrame m #[(.ref x0), (.int (4 : Int32))] 2 = mkF m 0 #[.val (.ref x0), .val (.int (4 : Int32))] [] := by first | (simp [entryFrame, mkF, argsToLocals, Value.category]; done) | rfl
set_option maxRecDepth 65536 in
set_option maxHeartbeats 40000000 in
theorem rm17c4 (l : Launch) (Z : State) (a0 : Array Value) (hw : ∀ d ∈ tables_1, d.before a0 Z = true) (ws : List Jvm.Cond) (a1 : Addr) (k0 : ClassId) (el0 el1 el2 el3 w2 : Addr) (h0 : Heap) (n0 : Nat) (O0 : Old Z n0 h0) (HE_a1 : Exa Z h0 a1 "[Ljava/lang/Object;") (HV_a1 : Arv Z h0 a1 k0 (.object "java/lang/Object") (10 : Int32) [(.ref el0), (.ref el1), (.ref el2), (.ref el3), .null, .null, .null, .null, .null, .null] .null) (HI_el0 : Ins Z h0 el0 "java/lang/Object" true) (HI_el1 : Ins Z h0 el1 "java/lang/Object" true) (HI_el2 : Ins Z h0 el2 "java/lang/Object" true) (HI_el3 : Ins Z h0 el3 "java/lang/Object" true) (Mi__Ljava_lang_Object_ : own_Mir Z "[Ljava/lang/Object;" w2) :
    MetFree l (⟨"java/util/Arrays", "copyOf", "([Ljava/lang/Object;I)[Ljava/lang/Object;"⟩ : MethodName) (head1 (Jvm.Cond.code (⟨"java/util/Arrays", "copyOf", "([Ljava/lang/Object;I)[Ljava/lang/Object;"⟩ : MethodName) jdk_65_method_119_code 2 (some (.array (.object "java/lang/Object"))) :: ws) ({ frames := 2, cells := 1, slots := 4, locals := 33 } : Room)) (fun a U => a = #[(.ref a1), (.int (4 : Int32))] ∧ Z.Warmed39 U.vm ∧ U.heap = h0) (fun _ _ _ _ _ => True) (fun _ U o U' => ∃ v L, o = .returned v ∧ Q17c4 Z a1 k0 el0 el1 el2 el3 w2 h0 n0 v U'.heap L ∧ FrameEnd U o U' L ({ frames := 2, cells := 1, slots := 4, locals := 33 } : Room).cells ({ frames := 2, cells := 1, slots := 4, locals := 33 } : Room).slots) := by
  refine MetFree.of_bodySF (plainFor_of_name pnc_java_util_Arrays) hisR ?_
  intro p e s m args below meth c s₁ Bd hml0 hP hK
  obtain ⟨rfl, hZ, hh⟩ := hP
  have hx := Bd.exec
  have hby := Bd.bytes
  have hml : c.maxLocals = 2 := hml0
  have hown : s.vm.findClass "java/util/Arrays" = some m.cls := findClass_of_methodNamed Bd.named
  have hnm := (name_of_methodNamed Bd.named Bd.method).1
  have X0 : Stand p l e ({ frames := 2, cells := 1, slots := 4, locals := 33 } : Room) s m #[(.ref a1), (.int (4 : Int32))] below meth c s₁ [] 0 0 := Stand.of_body Bd
  have e0 : s₁.heap = h0 := by rw [← hh, Bd.state]; rfl
  have N0 := Fr.nil n0
  have Z0 : n0 ≤ h0.size := O0.1 ▸ O0.2.1
  have pre0 : ∀ t, Steps p.tables e below (s₁.setTop (mkF m 0 #[.val (.ref a1), .val (.int (4 : Int32))] [])) t → Steps p.tables e below (s₁.setTop (entryFrame m #[(.ref a1), (.int (4 : Int32))] 2)) t := fun t k => castTop (ef_17a__4___Int32__ m a1) k
  obtain ⟨T3, X3, e3, st3⟩ := own_gcls X0 hx hZ hown (hw _ (List.mem_of_getElem? (i := 127) rfl)) (hw _ (List.mem_of_getElem? (i := 128) rfl)) (hw _ (List.mem_of_getElem? (i := 104) rfl)) (hw _ (List.mem_of_getElem? (i := 130) rfl)) (hw _ (List.mem_of_getElem? (i := 129) rfl)) (hw _ (List.mem_of_getElem? (i := 131) rfl)) e0 HE_a1 Mi__Ljava_lang_Object_ (g := (mkF m 3 #[.val (.ref a1), .val (.int (4 : Int32))] [(.ref a1), (.int (4 : Int32)), (.ref a1)])) rfl (by rw [hml]; rfl) rfl (hb hby d17_3) (by decide) (W := 2) (by show 2 * 0 + _ ≤ _; exact Nat.le_of_eq rfl) (by decide)
  obtain ⟨vr4, _, ⟨T4, L4, k4, n4⟩, -, X4, ⟨Lc4, hQ4, l4, y4, z4⟩, st4⟩ := Jvm.LawKit.callS X3 hx (y := (⟨"java/util/Arrays", "copyOf", "([Ljava/lang/Object;ILjava/lang/Class;)[Ljava/lang/Object;"⟩ : MethodName)) hown (mvT hZ (hw _ (List.mem_of_getElem? (i := 133) rfl))) (mvT hZ (hw _ (List.mem_of_getElem? (i := 134) rfl))) (mvT hZ (hw _ (List.mem_of_getElem? (i := 125) rfl))) (mvT hZ (hw _ (List.mem_of_getElem? (i := 135) rfl))) (by decide) (backOf (W := 0) (rm18c4 l Z a0 hw [] a1 w2 k0 el0 el1 el2 el3 w2 h0 n0 O0 HV_a1 HI_el0 HI_el1 HI_el2 HI_el3 Mi__Ljava_lang_Object_ (rfl : w2 = w2)) hZ (hw _ (List.mem_of_getElem? (i := 135) rfl)) (hw _ (List.mem_of_getElem? (i := 125) rfl)) (by decide) (by decide)) (g := (mkF m 6 #[.val (.ref a1), .val (.int (4 : Int32))] [(.ref w2), (.int (4 : Int32)), (.ref a1)])) rfl (by rw [hml]; rfl) (argsL := [(.ref a1), (.int (4 : Int32)), (.ref w2)]) (rest := []) (lenOf pd_19 rfl) rfl (by show 2 * 0 + _ ≤ _; exact Nat.le_of_eq rfl) (hb hby d17_6) (fun _ _ => ⟨rfl, e3, (by decide : 0 + 1 ≤ _), (by decide : 0 + 4 ≤ _)⟩)
  dsimp only [Pt.U, Pt.locs, Pt.cells, Pt.slots] at X4 l4 y4 z4 st4 hQ4
  subst l4 y4 z4
  obtain ⟨b5, k6, rfl, N4q, K4, Y4_z0, Y4_0, Y4_1, Y4_2⟩ := hQ4
  have N4 := Fr.app N0 N4q
  replace X4 := X4.more (cells' := 1) (slots' := 4) (by decide) (by decide)
  have g_b5 : n0 ≤ b5 := Nat.le_trans (Nat.le_trans Z0 (Keep.refl h0 []).1) Y4_z0
  have sz_b5 : h0.size ≤ b5 := Nat.le_trans (Keep.refl h0 []).1 Y4_z0
  have K7 : Keep h0 T4.heap [] := (Keep.refl h0 []).trans K4 all0
  have O8 : Old Z n0 T4.heap := O0.keep K4 all0
  obtain ⟨fs, hr, hrun, hended, hW, hsame⟩ := X4.leave (v := some (.ref b5)) (fun h => by rw [Bd.returns] at h; cases h)
  refine ⟨_, _, pre0 _ ?_, hrun, hended, _, _, rfl, ?_, ⟨_, rfl⟩, hW, hsame.mono (by decide) (by decide)⟩
  · show Steps p.tables e below (s₁.setTop (mkF m 0 #[.val (.ref a1), .val (.int (4 : Int32))] [])) _
    refine XS.aloadN X0.here hx rfl (hb hby d17_0) rfl rfl ?_
    show Steps p.tables e below (s₁.setTop (mkF m 1 #[.val (.ref a1), .val (.int (4 : Int32))] [(.ref a1)])) _
    refine XS.iloadN X0.here hx rfl (hb hby d17_1) rfl ?_
    show Steps p.tables e below (s₁.setTop (mkF m 2 #[.val (.ref a1), .val (.int (4 : Int32))] [(.int (4 : Int32)), (.ref a1)])) _
    refine XS.aloadN X0.here hx rfl (hb hby d17_2) rfl rfl ?_
    show Steps p.tables e below (s₁.setTop (mkF m 3 #[.val (.ref a1), .val (.int (4 : Int32))] [(.ref a1), (.int (4 : Int32)), (.ref a1)])) _
    refine st3 _ ?_
    show Steps p.tables e below (T3.setTop (mkF m 6 #[.val (.ref a1), .val (.int (4 : Int32))] [(.ref w2), (.int (4 : Int32)), (.ref a1)])) _
    refine st4 _ ?_
    show Steps p.tables e below (T4.setTop (mkF m 9 #[.val (.ref a1), .val (.int (4 : Int32))] [(.ref b5)])) _
    exact own_retR X4 hx Bd.returns rfl rfl (hb hby d17_9) hr
  · show Q17c4 Z a1 k0 el0 el1 el2 el3 w2 h0 n0 _ T4.heap _
    exact ⟨b5, k6, rfl, N4, K7, sz_b5, Y4_0, Y4_1, Y4_2⟩
def Q16c4 (Z : State) (a1 : Addr) (k0 : ClassId) (el0 el1 el2 el3 w0 w4 : Addr) (h0 : Heap) (n0 : Nat) (v : Option Value) (h : Heap) (L : List Loc) : Prop := ∃ b6 : Addr, ∃ k7 : ClassId, v = some (.ref b6) ∧ Fr n0 L ∧ Keep h0 h [] ∧ h0.size ≤ b6 ∧ Exa Z h b6 "[Ljava/lang/Object;" ∧ Arv Z h b6 k7 (.object "java/lang/Object") (4 : Int32) [(.ref el0), (.ref el1), (.ref el2), (.ref el3)] .null ∧ Ovr Z k7 "java/lang/Object"
set_option maxRecDepth 65536 in
set_option maxHeartbeats 40000000 in
theorem rm16c4 (l : Launch) (Z : State) (a0 : Array Value) (hw : ∀ d ∈ tables_1, d.before a0 Z = true) (ws : List Jvm.Cond) (a1 : Addr) (k0 : ClassId) (el0 el1 el2 el3 w0 w4 : Addr) (h0 : Heap) (n0 : Nat) (O0 : Old Z n0 h0) (HF_a1_elementData : Fld Z h0 a1 "java/util/ArrayList" "elementData" "[Ljava/lang/Object;" (.ref w0)) (HF_a1_size : Fld Z h0 a1 "java/util/ArrayList" "size" "I" (.int (4 : Int32))) (HE_w0 : Exa Z h0 w0 "[Ljava/lang/Object;") (HV_w0 : Arv Z h0 w0 k0 (.object "java/lang/Object") (10 : Int32) [(.ref el0), (.ref el1), (.ref el2), (.ref el3), .null, .null, .null, .null, .null, .null] .null) (HI_el0 : Ins Z h0 el0 "java/lang/Object" true) (HI_el1 : Ins Z h0 el1 "java/lang/Object" true) (HI_el2 : Ins Z h0 el2 "java/lang/Object" true) (HI_el3 : Ins Z h0 el3 "java/lang/Object" true) (Mi__Ljava_lang_Object_ : own_Mir Z "[Ljava/lang/Object;" w4) :
    MetFree l (⟨"java/util/ArrayList", "toArray", "()[Ljava/lang/Object;"⟩ : MethodName) (head1 (Jvm.Cond.code (⟨"java/util/ArrayList", "toArray", "()[Ljava/lang/Object;"⟩ : MethodName) jdk_38_method_16_code 1 (some (.array (.object "java/lang/Object"))) :: ws) ({ frames := 3, cells := 1, slots := 4, locals := 46 } : Room)) (fun a U => a = #[(.ref a1)] ∧ Z.Warmed39 U.vm ∧ U.heap = h0) (fun _ _ _ _ _ => True) (fun _ U o U' => ∃ v L, o = .returned v ∧ Q16c4 Z a1 k0 el0 el1 el2 el3 w0 w4 h0 n0 v U'.heap L ∧ FrameEnd U o U' L ({ frames := 3, cells := 1, slots := 4, locals := 46 } : Room).cells ({ frames := 3, cells := 1, slots := 4, locals := 46 } : Room).slots) := by
  refine MetFree.of_bodySF (plainFor_of_name pnc_java_util_ArrayList) hisR ?_
  intro p e s m args below meth c s₁ Bd hml0 hP hK
  obtain ⟨rfl, hZ, hh⟩ := hP
  have hx := Bd.exec
  have hby := Bd.bytes
  have hml : c.maxLocals = 1 := hml0
  have hown : s.vm.findClass "java/util/ArrayList" = some m.cls := findClass_of_methodNamed Bd.named
  have hnm := (name_of_methodNamed Bd.named Bd.method).1
  have X0 : Stand p l e ({ frames := 3, cells := 1, slots := 4, locals := 46 } : Room) s m #[(.ref a1)] below meth c s₁ [] 0 0 := Stand.of_body Bd
  have e0 : s₁.heap = h0 := by rw [← hh, Bd.state]; rfl
  have N0 := Fr.nil n0
  have Z0 : n0 ≤ h0.size := O0.1 ▸ O0.2.1
  have pre0 : ∀ t, Steps p.tables e below (s₁.setTop (mkF m 0 #[.val (.ref a1)] [])) t → Steps p.tables e below (s₁.setTop (entryFrame m #[(.ref a1)] 1)) t := fun t k => castTop (ef_16 m a1) k
  obtain ⟨T2, X2, e2, st2⟩ := getF X0 hx hZ hown (host := "") (Or.inl (hw _ (List.mem_of_getElem? (i := 42) rfl))) Via.refl e0 HF_a1_elementData (g := (mkF m 1 #[.val (.ref a1)] [(.ref a1)])) rfl rfl (hb hby d16_1)
  obtain ⟨T3, X3, e3, st3⟩ := getF X2 hx hZ hown (host := "") (Or.inl (hw _ (List.mem_of_getElem? (i := 51) rfl))) Via.refl e2 HF_a1_size (g := (mkF m 5 #[.val (.ref a1)] [(.ref a1), (.ref w0)])) rfl rfl (hb hby d16_5)
  obtain ⟨vr5, _, ⟨T5, L5, k5, n5⟩, -, X5, ⟨Lc5, hQ5, l5, y5, z5⟩, st5⟩ := Jvm.LawKit.callS X3 hx (y := (⟨"java/util/Arrays", "copyOf", "([Ljava/lang/Object;I)[Ljava/lang/Object;"⟩ : MethodName)) hown (mvT hZ (hw _ (List.mem_of_getElem? (i := 123) rfl))) (mvT hZ (hw _ (List.mem_of_getElem? (i := 124) rfl))) (mvT hZ (hw _ (List.mem_of_getElem? (i := 125) rfl))) (mvT hZ (hw _ (List.mem_of_getElem? (i := 126) rfl))) (by decide) (backOf (W := 0) (rm17c4 l Z a0 hw [] w0 k0 el0 el1 el2 el3 w4 h0 n0 O0 HE_w0 HV_w0 HI_el0 HI_el1 HI_el2 HI_el3 Mi__Ljava_lang_Object_) hZ (hw _ (List.mem_of_getElem? (i := 126) rfl)) (hw _ (List.mem_of_getElem? (i := 125) rfl)) (by decide) (by decide)) (g := (mkF m 8 #[.val (.ref a1)] [(.int (4 : Int32)), (.ref w0)])) rfl (by rw [hml]; rfl) (argsL := [(.ref w0), (.int (4 : Int32))]) (rest := []) (lenOf pd_18 rfl) rfl (by show 2 * 0 + _ ≤ _; exact Nat.le_of_eq rfl) (hb hby d16_8) (fun _ _ => ⟨rfl, e3, (by decide : 0 + 1 ≤ _), (by decide : 0 + 4 ≤ _)⟩)
  dsimp only [Pt.U, Pt.locs, Pt.cells, Pt.slots] at X5 l5 y5 z5 st5 hQ5
  subst l5 y5 z5
  obtain ⟨b6, k7, rfl, N5q, K5, Y5_z0, Y5_0, Y5_1, Y5_2⟩ := hQ5
  have N5 := Fr.app N0 N5q
  replace X5 := X5.more (cells' := 1) (slots' := 4) (by decide) (by decide)
  have g_b6 : n0 ≤ b6 := Nat.le_trans (Nat.le_trans Z0 (Keep.refl h0 []).1) Y5_z0
  have sz_b6 : h0.size ≤ b6 := Nat.le_trans (Keep.refl h0 []).1 Y5_z0
  have K8 : Keep h0 T5.heap [] := (Keep.refl h0 []).trans K5 all0
  have O9 : Old Z n0 T5.heap := O0.keep K5 all0
  obtain ⟨fs, hr, hrun, hended, hW, hsame⟩ := X5.leave (v := some (.ref b6)) (fun h => by rw [Bd.returns] at h; cases h)
  refine ⟨_, _, pre0 _ ?_, hrun, hended, _, _, rfl, ?_, ⟨_, rfl⟩, hW, hsame.mono (by decide) (by decide)⟩
  · show Steps p.tables e below (s₁.setTop (mkF m 0 #[.val (.ref a1)] [])) _
    refine XS.aloadN X0.here hx rfl (hb hby d16_0) rfl rfl ?_
    show Steps p.tables e below (s₁.setTop (mkF m 1 #[.val (.ref a1)] [(.ref a1)])) _
    refine st2 _ ?_
    show Steps p.tables e below (T2.setTop (mkF m 4 #[.val (.ref a1)] [(.ref w0)])) _
    refine XS.aloadN X2.here hx rfl (hb hby d16_4) rfl rfl ?_
    show Steps p.tables e below (T2.setTop (mkF m 5 #[.val (.ref a1)] [(.ref a1), (.ref w0)])) _
    refine st3 _ ?_
    show Steps p.tables e below (T3.setTop (mkF m 8 #[.val (.ref a1)] [(.int (4 : Int32)), (.ref w0)])) _
    refine st5 _ ?_
    show Steps p.tables e below (T5.setTop (mkF m 11 #[.val (.ref a1)] [(.ref b6)])) _
    exact own_retR X5 hx Bd.returns rfl rfl (hb hby d16_11) hr
  · show Q16c4 Z a1 k0 el0 el1 el2 el3 w0 w4 h0 n0 _ T5.heap _
    exact ⟨b6, k7, rfl, N5, K8, sz_b6, Y5_0, Y5_1, Y5_2⟩
def Q27c4 (Z : State) (a1 : Addr) (k0 : ClassId) (el0 el1 el2 el3 : Addr) (h0 : Heap) (n0 : Nat) (v : Option Value) (h : Heap) (L : List Loc) : Prop := ∃ b44 b3 : Addr, ∃ k3 : ClassId, v = some (.ref b44) ∧ Fr n0 L ∧ Keep h0 h [] ∧ h0.size ≤ b44 ∧ h0.size ≤ b3 ∧ b44 ≠ b3 ∧ Exa Z h b44 "java/util/ImmutableCollections$ListN" ∧ Fld Z h b44 "java/util/ImmutableCollections$ListN" "allowNulls" "Z" (.int ((0 : Int32) &&& 1)) ∧ Fld Z h b44 "java/util/ImmutableCollections$ListN" "elements" "[Ljava/lang/Object;" (.ref b3) ∧ Exa Z h b3 "[Ljava/lang/Object;" ∧ Arv Z h b3 k3 (.object "java/lang/Object") (4 : Int32) [(.ref el0), (.ref el1), (.ref el2), (.ref el3)] .null ∧ Ovr Z k3 "java/lang/Object"
set_option maxRecDepth 65536 in
set_option maxHeartbeats 40000000 in
theorem rm27c4 (l : Launch) (Z : State) (a0 : Array Value) (hw : ∀ d ∈ tables_1, d.before a0 Z = true) (ws : List Jvm.Cond) (a1 : Addr) (k0 : ClassId) (el0 el1 el2 el3 : Addr) (h0 : Heap) (n0 : Nat) (O0 : Old Z n0 h0) (HV_a1 : Arv Z h0 a1 k0 (.object "java/lang/Object") (4 : Int32) [(.ref el0), (.ref el1), (.ref el2), (.ref el3)] .null) (HI_el0 : Ins Z h0 el0 "java/lang/Object" true) (HI_el1 : Ins Z h0 el1 "java/lang/Object" true) (HI_el2 : Ins Z h0 el2 "java/lang/Object" true) (HI_el3 : Ins Z h0 el3 "java/lang/Object" true) :
    MetFree l (⟨"java/util/ImmutableCollections", "listFromArray", "([Ljava/lang/Object;)Ljava/util/List;"⟩ : MethodName) (head1 (Jvm.Cond.code (⟨"java/util/ImmutableCollections", "listFromArray", "([Ljava/lang/Object;)Ljava/util/List;"⟩ : MethodName) jdk_56_method_4_code 3 (some (.object "java/util/List")) :: ws) ({ frames := 5, cells := 2, slots := 6, locals := 63 } : Room)) (fun a U => a = #[(.ref a1)] ∧ Z.Warmed39 U.vm ∧ U.heap = h0) (fun _ _ _ _ _ => True) (fun _ U o U' => ∃ v L, o = .returned v ∧ Q27c4 Z a1 k0 el0 el1 el2 el3 h0 n0 v U'.heap L ∧ FrameEnd U o U' L ({ frames := 5, cells := 2, slots := 6, locals := 63 } : Room).cells ({ frames := 5, cells := 2, slots := 6, locals := 63 } : Room).slots) := by
  refine MetFree.of_bodySF (plainFor_of_name pnc_java_util_ImmutableCollections) hisR ?_
  intro p e s m args below meth c s₁ Bd hml0 hP hK
  obtain ⟨rfl, hZ, hh⟩ := hP
  have hx := Bd.exec
  have hby := Bd.bytes
  have hml : c.maxLocals = 3 := hml0
  have hown : s.vm.findClass "java/util/ImmutableCollections" = some m.cls := findClass_of_methodNamed Bd.named
  have hnm := (name_of_methodNamed Bd.named Bd.method).1
  have X0 : Stand p l e ({ frames := 5, cells := 2, slots := 6, locals := 63 } : Room) s m #[(.ref a1)] below meth c s₁ [] 0 0 := Stand.of_body Bd
  have e0 : s₁.heap = h0 := by rw [← hh, Bd.state]; rfl
  have N0 := Fr.nil n0
  have Z0 : n0 ≤ h0.size := O0.1 ▸ O0.2.1
  have pre0 : ∀ t, Steps p.tables e below (s₁.setTop (mkF m 0 #[.val (.ref a1), .unset, .unset] [])) t → Steps p.tables e below (s₁.setTop (entryFrame m #[(.ref a1)] 3)) t := fun t k => castTop (ef_27 m a1) k
  obtain ⟨cl2, Ar2, q2, S2, Nn2, Hh2, G2⟩ := id HV_a1
  obtain ⟨T3, h3, k3, X3, e3, E3, A3, B3, Ov3, st3⟩ := newRE X0 hx hZ hown (hw _ (List.mem_of_getElem? (i := 198) rfl)) (hw _ (List.mem_of_getElem? (i := 73) rfl)) e0 (g := (mkF m 2 #[.val (.ref a1), .unset, .unset] [(.int (4 : Int32))])) rfl (hb hby d27_2) rfl (by decide) (cap := 4) (by decide) (by decide) (by decide) (by decide) (ad := "[Ljava/lang/Object;") (by decide)
  obtain ⟨b3, g3⟩ : ∃ z, z = h0.size := ⟨_, rfl⟩
  rw [← g3] at A3 B3 st3
  have g_b3 : n0 ≤ b3 := Nat.le_trans (Nat.le_trans Z0 (Keep.refl h0 []).1) (Nat.le_of_eq g3.symm)
  have sz_b3 : h0.size ≤ b3 := Nat.le_trans (Keep.refl h0 []).1 (Nat.le_of_eq g3.symm)
  have K4 : Keep h0 h3 [] := (Keep.refl h0 []).ext E3
  have O5 : Old Z n0 h3 := O0.ext E3
  have V3 : Arv Z h3 b3 k3 (.object "java/lang/Object") (4 : Int32) [.null, .null, .null, .null] .null := (Arv.new A3 (by decide)).pad (pad_rep [] .null 4)
  replace X3 := X3.more (cells' := 1) (slots' := 4) (by decide) (by decide)
  have f6 := (HV_a1.ext E3)
  obtain ⟨cl7, Ar7, q7, S7, Nn7, Hh7, G7⟩ := id f6
  obtain ⟨cl8, Ar8, q8, S8, Nn8, Hh8, G8⟩ := id f6
  have hin8 : ¬ ((0 : Int32) < 0 ∨ cl8.slots.size ≤ ((0 : Int32)).toNatClampNeg) := inb_of S8 ⟨by decide, by decide⟩
  have hat8 : cl8.slots[((0 : Int32)).toNatClampNeg]? = some (.ref el0) := Has.at Hh8 hin8 rfl
  obtain ⟨vr9, _, ⟨T9, L9, k9, n9⟩, -, X9, ⟨Lc9, hQ9, l9, y9, z9⟩, st9⟩ := Jvm.LawKit.callS X3 hx (y := (⟨"java/util/Objects", "requireNonNull", "(Ljava/lang/Object;)Ljava/lang/Object;"⟩ : MethodName)) hown (mvT hZ (hw _ (List.mem_of_getElem? (i := 199) rfl))) (mvT hZ (hw _ (List.mem_of_getElem? (i := 170) rfl))) (mvT hZ (hw _ (List.mem_of_getElem? (i := 171) rfl))) (mvT hZ (hw _ (List.mem_of_getElem? (i := 172) rfl))) (by decide) (backOf (W := 2) (rm24 l Z a0 hw [] el0 h3 n0 O5) hZ (hw _ (List.mem_of_getElem? (i := 172) rfl)) (hw _ (List.mem_of_getElem? (i := 171) rfl)) (by decide) (by decide)) (g := (mkF m 19 #[.val (.ref a1), .val (.ref b3), .val (.int (0 : Int32))] [(.ref el0), (.int (0 : Int32)), (.ref b3)])) rfl (by rw [hml]; rfl) (argsL := [(.ref el0)]) (rest := [(.int (0 : Int32)), (.ref b3)]) (lenOf pd_8 rfl) rfl (by show 2 * 0 + _ ≤ _; exact Nat.le_of_eq rfl) (hb hby d27_19) (fun _ _ => ⟨rfl, e3, (by decide : 1 + 0 ≤ _), (by decide : 4 + 0 ≤ _)⟩)
  dsimp only [Pt.U, Pt.locs, Pt.cells, Pt.slots] at X9 l9 y9 z9 st9 hQ9
  subst l9 y9 z9
  obtain ⟨rfl, N9q, e9⟩ := hQ9
  have N9 := Fr.app N0 N9q
  replace X9 := X9.more (cells' := 1) (slots' := 4) (by decide) (by decide)
  obtain ⟨cl10, Ar10, q10, S10, Nn10, Hh10, G10⟩ := id V3
  have hin10 : ¬ ((0 : Int32) < 0 ∨ cl10.slots.size ≤ ((0 : Int32)).toNatClampNeg) := inb_of S10 ⟨by decide, by decide⟩
  have f11 := (HI_el0.ext E3)
  obtain ⟨T12, h12, X12, e12, W12, st12⟩ := stR X9 hx hZ e9 Ar10 (j := (0 : Int32)) hin10 rfl (Sto.ofV Ar10 q10 Ov3 f11) (g := (mkF m 22 #[.val (.ref a1), .val (.ref b3), .val (.int (0 : Int32))] [(.ref el0), (.int (0 : Int32)), (.ref b3)])) rfl rfl (hb hby d27_22)
  have N12 := Fr.snoc X12 N9 g_b3
  have K13 : Keep h0 h12 [] := K4.wr W12 (Or.inr sz_b3)
  have O14 : Old Z n0 h12 := O5.wr W12 g_b3
  have V12 : Arv Z h12 b3 k3 (.object "java/lang/Object") (4 : Int32) [(.ref el0), .null, .null, .null] .null := Arv.set Ar10 q10 S10 Nn10 Hh10 G10 rfl W12 0 rfl (Nat.le_of_ble_eq_true rfl)
  have f15 := (f6.other W12 (Nat.ne_of_lt (Nat.lt_of_lt_of_le HV_a1.lt (Nat.le_of_eq g3.symm))))
  obtain ⟨cl16, Ar16, q16, S16, Nn16, Hh16, G16⟩ := id f15
  obtain ⟨cl17, Ar17, q17, S17, Nn17, Hh17, G17⟩ := id f15
  have hin17 : ¬ ((1 : Int32) < 0 ∨ cl17.slots.size ≤ ((1 : Int32)).toNatClampNeg) := inb_of S17 ⟨by decide, by decide⟩
  have hat17 : cl17.slots[((1 : Int32)).toNatClampNeg]? = some (.ref el1) := Has.at Hh17 hin17 rfl
  obtain ⟨vr18, _, ⟨T18, L18, k18, n18⟩, -, X18, ⟨Lc18, hQ18, l18, y18, z18⟩, st18⟩ := Jvm.LawKit.callS X12 hx (y := (⟨"java/util/Objects", "requireNonNull", "(Ljava/lang/Object;)Ljava/lang/Object;"⟩ : MethodName)) hown (mvT hZ (hw _ (List.mem_of_getElem? (i := 199) rfl))) (mvT hZ (hw _ (List.mem_of_getElem? (i := 170) rfl))) (mvT hZ (hw _ (List.mem_of_getElem? (i := 171) rfl))) (mvT hZ (hw _ (List.mem_of_getElem? (i := 172) rfl))) (by decide) (backOf (W := 2) (rm24 l Z a0 hw [] el1 h12 n0 O14) hZ (hw _ (List.mem_of_getElem? (i := 172) rfl)) (hw _ (List.mem_of_getElem? (i := 171) rfl)) (by decide) (by decide)) (g := (mkF m 19 #[.val (.ref a1), .val (.ref b3), .val (.int (1 : Int32))] [(.ref el1), (.int (1 : Int32)), (.ref b3)])) rfl (by rw [hml]; rfl) (argsL := [(.ref el1)]) (rest := [(.int (1 : Int32)), (.ref b3)]) (lenOf pd_8 rfl) rfl (by show 2 * 0 + _ ≤ _; exact Nat.le_of_eq rfl) (hb hby d27_19) (fun _ _ => ⟨rfl, e12, (by decide : 1 + 0 ≤ _), (by decide : 4 + 0 ≤ _)⟩)
  dsimp only [Pt.U, Pt.locs, Pt.cells, Pt.slots] at X18 l18 y18 z18 st18 hQ18
  subst l18 y18 z18
  obtain ⟨rfl, N18q, e18⟩ := hQ18
  have N18 := Fr.app N12 N18q
  replace X18 := X18.more (cells' := 1) (slots' := 4) (by decide) (by decide)
  obtain ⟨cl19, Ar19, q19, S19, Nn19, Hh19, G19⟩ := id V12
  have hin19 : ¬ ((1 : Int32) < 0 ∨ cl19.slots.size ≤ ((1 : Int32)).toNatClampNeg) := inb_of S19 ⟨by decide, by decide⟩
  have f20 := ((HI_el1.ext E3).wr W12)
  obtain ⟨T21, h21, X21, e21, W21, st21⟩ := stR X18 hx hZ e18 Ar19 (j := (1 : Int32)) hin19 rfl (Sto.ofV Ar19 q19 Ov3 f20) (g := (mkF m 22 #[.val (.ref a1), .val (.ref b3), .val (.int (1 : Int32))] [(.ref el1), (.int (1 : Int32)), (.ref b3)])) rfl rfl (hb hby d27_22)
  have N21 := Fr.snoc X21 N18 g_b3
  have K22 : Keep h0 h21 [] := K13.wr W21 (Or.inr sz_b3)
  have O23 : Old Z n0 h21 := O14.wr W21 g_b3
  have V21 : Arv Z h21 b3 k3 (.object "java/lang/Object") (4 : Int32) [(.ref el0), (.ref el1), .null, .null] .null := Arv.set Ar19 q19 S19 Nn19 Hh19 G19 rfl W21 1 rfl (Nat.le_of_ble_eq_true rfl)
  have f24 := (f15.other W21 (Nat.ne_of_lt (Nat.lt_of_lt_of_le HV_a1.lt (Nat.le_of_eq g3.symm))))
  obtain ⟨cl25, Ar25, q25, S25, Nn25, Hh25, G25⟩ := id f24
  obtain ⟨cl26, Ar26, q26, S26, Nn26, Hh26, G26⟩ := id f24
  have hin26 : ¬ ((2 : Int32) < 0 ∨ cl26.slots.size ≤ ((2 : Int32)).toNatClampNeg) := inb_of S26 ⟨by decide, by decide⟩
  have hat26 : cl26.slots[((2 : Int32)).toNatClampNeg]? = some (.ref el2) := Has.at Hh26 hin26 rfl
  obtain ⟨vr27, _, ⟨T27, L27, k27, n27⟩, -, X27, ⟨Lc27, hQ27, l27, y27, z27⟩, st27⟩ := Jvm.LawKit.callS X21 hx (y := (⟨"java/util/Objects", "requireNonNull", "(Ljava/lang/Object;)Ljava/lang/Object;"⟩ : MethodName)) hown (mvT hZ (hw _ (List.mem_of_getElem? (i := 199) rfl))) (mvT hZ (hw _ (List.mem_of_getElem? (i := 170) rfl))) (mvT hZ (hw _ (List.mem_of_getElem? (i := 171) rfl))) (mvT hZ (hw _ (List.mem_of_getElem? (i := 172) rfl))) (by decide) (backOf (W := 2) (rm24 l Z a0 hw [] el2 h21 n0 O23) hZ (hw _ (List.mem_of_getElem? (i := 172) rfl)) (hw _ (List.mem_of_getElem? (i := 171) rfl)) (by decide) (by decide)) (g := (mkF m 19 #[.val (.ref a1), .val (.ref b3), .val (.int (2 : Int32))] [(.ref el2), (.int (2 : Int32)), (.ref b3)])) rfl (by rw [hml]; rfl) (argsL := [(.ref el2)]) (rest := [(.int (2 : Int32)), (.ref b3)]) (lenOf pd_8 rfl) rfl (by show 2 * 0 + _ ≤ _; exact Nat.le_of_eq rfl) (hb hby d27_19) (fun _ _ => ⟨rfl, e21, (by decide : 1 + 0 ≤ _), (by decide : 4 + 0 ≤ _)⟩)
  dsimp only [Pt.U, Pt.locs, Pt.cells, Pt.slots] at X27 l27 y27 z27 st27 hQ27
  subst l27 y27 z27
  obtain ⟨rfl, N27q, e27⟩ := hQ27
  have N27 := Fr.app N21 N27q
  replace X27 := X27.more (cells' := 1) (slots' := 4) (by decide) (by decide)
  obtain ⟨cl28, Ar28, q28, S28, Nn28, Hh28, G28⟩ := id V21
  have hin28 : ¬ ((2 : Int32) < 0 ∨ cl28.slots.size ≤ ((2 : Int32)).toNatClampNeg) := inb_of S28 ⟨by decide, by decide⟩
  have f29 := (((HI_el2.ext E3).wr W12).wr W21)
  obtain ⟨T30, h30, X30, e30, W30, st30⟩ := stR X27 hx hZ e27 Ar28 (j := (2 : Int32)) hin28 rfl (Sto.ofV Ar28 q28 Ov3 f29) (g := (mkF m 22 #[.val (.ref a1), .val (.ref b3), .val (.int (2 : Int32))] [(.ref el2), (.int (2 : Int32)), (.ref b3)])) rfl rfl (hb hby d27_22)
  have N30 := Fr.snoc X30 N27 g_b3
  have K31 : Keep h0 h30 [] := K22.wr W30 (Or.inr sz_b3)
  have O32 : Old Z n0 h30 := O23.wr W30 g_b3
  have V30 : Arv Z h30 b3 k3 (.object "java/lang/Object") (4 : Int32) [(.ref el0), (.ref el1), (.ref el2), .null] .null := Arv.set Ar28 q28 S28 Nn28 Hh28 G28 rfl W30 2 rfl (Nat.le_of_ble_eq_true rfl)
  have f33 := (f24.other W30 (Nat.ne_of_lt (Nat.lt_of_lt_of_le HV_a1.lt (Nat.le_of_eq g3.symm))))
  obtain ⟨cl34, Ar34, q34, S34, Nn34, Hh34, G34⟩ := id f33
  obtain ⟨cl35, Ar35, q35, S35, Nn35, Hh35, G35⟩ := id f33
  have hin35 : ¬ ((3 : Int32) < 0 ∨ cl35.slots.size ≤ ((3 : Int32)).toNatClampNeg) := inb_of S35 ⟨by decide, by decide⟩
  have hat35 : cl35.slots[((3 : Int32)).toNatClampNeg]? = some (.ref el3) := Has.at Hh35 hin35 rfl
  obtain ⟨vr36, _, ⟨T36, L36, k36, n36⟩, -, X36, ⟨Lc36, hQ36, l36, y36, z36⟩, st36⟩ := Jvm.LawKit.callS X30 hx (y := (⟨"java/util/Objects", "requireNonNull", "(Ljava/lang/Object;)Ljava/lang/Object;"⟩ : MethodName)) hown (mvT hZ (hw _ (List.mem_of_getElem? (i := 199) rfl))) (mvT hZ (hw _ (List.mem_of_getElem? (i := 170) rfl))) (mvT hZ (hw _ (List.mem_of_getElem? (i := 171) rfl))) (mvT hZ (hw _ (List.mem_of_getElem? (i := 172) rfl))) (by decide) (backOf (W := 2) (rm24 l Z a0 hw [] el3 h30 n0 O32) hZ (hw _ (List.mem_of_getElem? (i := 172) rfl)) (hw _ (List.mem_of_getElem? (i := 171) rfl)) (by decide) (by decide)) (g := (mkF m 19 #[.val (.ref a1), .val (.ref b3), .val (.int (3 : Int32))] [(.ref el3), (.int (3 : Int32)), (.ref b3)])) rfl (by rw [hml]; rfl) (argsL := [(.ref el3)]) (rest := [(.int (3 : Int32)), (.ref b3)]) (lenOf pd_8 rfl) rfl (by show 2 * 0 + _ ≤ _; exact Nat.le_of_eq rfl) (hb hby d27_19) (fun _ _ => ⟨rfl, e30, (by decide : 1 + 0 ≤ _), (by decide : 4 + 0 ≤ _)⟩)
  dsimp only [Pt.U, Pt.locs, Pt.cells, Pt.slots] at X36 l36 y36 z36 st36 hQ36
  subst l36 y36 z36
  obtain ⟨rfl, N36q, e36⟩ := hQ36
  have N36 := Fr.app N30 N36q
  replace X36 := X36.more (cells' := 1) (slots' := 4) (by decide) (by decide)
  obtain ⟨cl37, Ar37, q37, S37, Nn37, Hh37, G37⟩ := id V30
  have hin37 : ¬ ((3 : Int32) < 0 ∨ cl37.slots.size ≤ ((3 : Int32)).toNatClampNeg) := inb_of S37 ⟨by decide, by decide⟩
  have f38 := ((((HI_el3.ext E3).wr W12).wr W21).wr W30)
  obtain ⟨T39, h39, X39, e39, W39, st39⟩ := stR X36 hx hZ e36 Ar37 (j := (3 : Int32)) hin37 rfl (Sto.ofV Ar37 q37 Ov3 f38) (g := (mkF m 22 #[.val (.ref a1), .val (.ref b3), .val (.int (3 : Int32))] [(.ref el3), (.int (3 : Int32)), (.ref b3)])) rfl rfl (hb hby d27_22)
  have N39 := Fr.snoc X39 N36 g_b3
  have K40 : Keep h0 h39 [] := K31.wr W39 (Or.inr sz_b3)
  have O41 : Old Z n0 h39 := O32.wr W39 g_b3
  have V39 : Arv Z h39 b3 k3 (.object "java/lang/Object") (4 : Int32) [(.ref el0), (.ref el1), (.ref el2), (.ref el3)] .null := Arv.set Ar37 q37 S37 Nn37 Hh37 G37 rfl W39 3 rfl (Nat.le_of_ble_eq_true rfl)
  have f42 := (f33.other W39 (Nat.ne_of_lt (Nat.lt_of_lt_of_le HV_a1.lt (Nat.le_of_eq g3.symm))))
  obtain ⟨cl43, Ar43, q43, S43, Nn43, Hh43, G43⟩ := id f42
  obtain ⟨T44, h44, X44, e44, E44, A44, D44, -, st44⟩ := newO X39 hx hZ hown (hw _ (List.mem_of_getElem? (i := 105) rfl)) (hw _ (List.mem_of_getElem? (i := 200) rfl)) (hw _ (List.mem_of_getElem? (i := 201) rfl)) e39 (g := (mkF m 29 #[.val (.ref a1), .val (.ref b3), .val (.int (4 : Int32))] [])) rfl (hb hby d27_29) (by decide) (by decide)
  obtain ⟨b44, g44⟩ : ∃ z, z = h39.size := ⟨_, rfl⟩
  rw [← g44] at A44 D44 st44
  have g_b44 : n0 ≤ b44 := Nat.le_trans (Nat.le_trans Z0 K40.1) (Nat.le_of_eq g44.symm)
  have sz_b44 : h0.size ≤ b44 := Nat.le_trans K40.1 (Nat.le_of_eq g44.symm)
  have K45 : Keep h0 h44 [] := K40.ext E44
  have O46 : Old Z n0 h44 := O41.ext E44
  have F_elements_b44 : Fld Z h44 b44 "java/util/ImmutableCollections$ListN" "elements" "[Ljava/lang/Object;" .null := D44 (Or.inr (hw _ (List.mem_of_getElem? (i := 211) rfl))) (ty := (.array (.object "java/lang/Object"))) (by decide)
  have F_allowNulls_b44 : Fld Z h44 b44 "java/util/ImmutableCollections$ListN" "allowNulls" "Z" (.int (0 : Int32)) := D44 (Or.inr (hw _ (List.mem_of_getElem? (i := 213) rfl))) (ty := .boolean) (by decide)
  replace X44 := X44.more (cells' := 2) (slots' := 6) (by decide) (by decide)
  obtain ⟨vr47, _, ⟨T47, L47, k47, n47⟩, -, X47, ⟨Lc47, hQ47, l47, y47, z47⟩, st47⟩ := X44.specialBackNest hx (y := (⟨"java/util/ImmutableCollections$ListN", "<init>", "([Ljava/lang/Object;Z)V"⟩ : MethodName)) rfl hown (own_mvMN hZ (hw _ (List.mem_of_getElem? (i := 202) rfl))) (mvT hZ (hw _ (List.mem_of_getElem? (i := 203) rfl))) (mvT hZ (hw _ (List.mem_of_getElem? (i := 205) rfl))) (by decide) (backOf (W := 1) (rm28 l Z a0 hw [] b44 b3 ((0 : Int32)) (.null) ((.int (0 : Int32))) h44 n0 O46 A44 F_elements_b44 g_b44 F_allowNulls_b44) hZ (hw _ (List.mem_of_getElem? (i := 205) rfl)) (hw _ (List.mem_of_getElem? (i := 201) rfl)) (by decide) (by decide)) (g := (mkF m 35 #[.val (.ref a1), .val (.ref b3), .val (.int (4 : Int32))] [(.int (0 : Int32)), (.ref b3), (.ref b44), (.ref b44)])) rfl (by rw [hml]; rfl) (Steps.refl _) (a := b44) (argsL := [(.ref b3), (.int (0 : Int32))]) (rest := [(.ref b44)]) (lenOf pd_20 rfl) rfl (by show 2 * 0 + _ ≤ _; exact Nat.le_of_eq rfl) (hb hby d27_35) (fun _ _ => ⟨rfl, e44, (by decide : 2 + 0 ≤ _), (by decide : 6 + 0 ≤ _)⟩)
  dsimp only [Pt.U, Pt.locs, Pt.cells, Pt.slots] at X47 l47 y47 z47 st47 hQ47
  subst l47 y47 z47
  obtain ⟨rfl, N47q, K47, Y47_0, Y47_1, Y47_2⟩ := hQ47
  have N47 := Fr.app N39 N47q
  replace X47 := X47.more (cells' := 2) (slots' := 6) (by decide) (by decide)
  have K48 : Keep h0 T47.heap [] := K45.trans K47 (allS (Or.inr sz_b44) all0)
  have O49 : Old Z n0 T47.heap := O46.keep K47 (allS g_b44 all0)
  have f50 := ((((((B3.wr W12).wr W21).wr W30).wr W39).ext E44).keep K47)
  have f51 := ((V39.ext E44).keep K47 (ninS (Nat.ne_of_lt (Nat.lt_of_lt_of_le (Nat.lt_of_lt_of_le V3.lt (Nat.le_trans (Nat.le_trans (Nat.le_trans (Keep.of_wr W12).1 (Keep.of_wr W21).1) (Keep.of_wr W30).1) (Keep.of_wr W39).1)) (Nat.le_of_eq g44.symm))) nin0))
  have f52 := Ov3
  obtain ⟨fs, hr, hrun, hended, hW, hsame⟩ := X47.leave (v := some (.ref b44)) (fun h => by rw [Bd.returns] at h; cases h)
  refine ⟨_, _, pre0 _ ?_, hrun, hended, _, _, rfl, ?_, ⟨_, rfl⟩, hW, hsame.mono (by decide) (by decide)⟩
  · show Steps p.tables e below (s₁.setTop (mkF m 0 #[.val (.ref a1), .unset, .unset] [])) _
    refine XS.aloadN X0.here hx rfl (hb hby d27_0) rfl rfl ?_
    show Steps p.tables e below (s₁.setTop (mkF m 1 #[.val (.ref a1), .unset, .unset] [(.ref a1)])) _
    refine X0.arraylength hx (by rw [e0]; exact Ar2.1) (State.isArrayOf_alike hZ.alike Ar2.2.1) (g := (mkF m 1 #[.val (.ref a1), .unset, .unset] [(.ref a1)])) rfl rfl (hb hby d27_1) _ ?_
    rw [len_of S2 Nn2]
    show Steps p.tables e below (s₁.setTop (mkF m 2 #[.val (.ref a1), .unset, .unset] [(.int (4 : Int32))])) _
    refine st3 _ ?_
    show Steps p.tables e below (T3.setTop (mkF m 5 #[.val (.ref a1), .unset, .unset] [(.ref b3)])) _
    refine XS.astoreN X3.here hx rfl (hb hby d27_5) rfl rfl (l' := #[.val (.ref a1), .val (.ref b3), .unset]) rfl ?_
    show Steps p.tables e below (T3.setTop (mkF m 6 #[.val (.ref a1), .val (.ref b3), .unset] [])) _
    refine XS.iconst X3.here hx rfl (hb hby d27_6) ?_
    show Steps p.tables e below (T3.setTop (mkF m 7 #[.val (.ref a1), .val (.ref b3), .unset] [(.int (0 : Int32))])) _
    refine XS.istoreN X3.here hx rfl (hb hby d27_7) rfl (l' := #[.val (.ref a1), .val (.ref b3), .val (.int (0 : Int32))]) rfl ?_
    show Steps p.tables e below (T3.setTop (mkF m 8 #[.val (.ref a1), .val (.ref b3), .val (.int (0 : Int32))] [])) _
    refine XS.iloadN X3.here hx rfl (hb hby d27_8) rfl ?_
    show Steps p.tables e below (T3.setTop (mkF m 9 #[.val (.ref a1), .val (.ref b3), .val (.int (0 : Int32))] [(.int (0 : Int32))])) _
    refine XS.aloadN X3.here hx rfl (hb hby d27_9) rfl rfl ?_
    show Steps p.tables e below (T3.setTop (mkF m 10 #[.val (.ref a1), .val (.ref b3), .val (.int (0 : Int32))] [(.ref a1), (.int (0 : Int32))])) _
    refine X3.arraylength hx (by rw [e3]; exact Ar7.1) (State.isArrayOf_alike hZ.alike Ar7.2.1) (g := (mkF m 10 #[.val (.ref a1), .val (.ref b3), .val (.int (0 : Int32))] [(.ref a1), (.int (0 : Int32))])) rfl rfl (hb hby d27_10) _ ?_
    rw [len_of S7 Nn7]
    show Steps p.tables e below (T3.setTop (mkF m 11 #[.val (.ref a1), .val (.ref b3), .val (.int (0 : Int32))] [(.int (4 : Int32)), (.int (0 : Int32))])) _
    refine XS.icmpNo X3.here hx rfl (hb hby d27_11) rfl (tlt (by decide : (0 : Int32) < (4 : Int32))).2.1 ?_
    show Steps p.tables e below (T3.setTop (mkF m 14 #[.val (.ref a1), .val (.ref b3), .val (.int (0 : Int32))] [])) _
    refine XS.aloadN X3.here hx rfl (hb hby d27_14) rfl rfl ?_
    show Steps p.tables e below (T3.setTop (mkF m 15 #[.val (.ref a1), .val (.ref b3), .val (.int (0 : Int32))] [(.ref b3)])) _
    refine XS.iloadN X3.here hx rfl (hb hby d27_15) rfl ?_
    show Steps p.tables e below (T3.setTop (mkF m 16 #[.val (.ref a1), .val (.ref b3), .val (.int (0 : Int32))] [(.int (0 : Int32)), (.ref b3)])) _
    refine XS.aloadN X3.here hx rfl (hb hby d27_16) rfl rfl ?_
    show Steps p.tables e below (T3.setTop (mkF m 17 #[.val (.ref a1), .val (.ref b3), .val (.int (0 : Int32))] [(.ref a1), (.int (0 : Int32)), (.ref b3)])) _
    refine XS.iloadN X3.here hx rfl (hb hby d27_17) rfl ?_
    show Steps p.tables e below (T3.setTop (mkF m 18 #[.val (.ref a1), .val (.ref b3), .val (.int (0 : Int32))] [(.int (0 : Int32)), (.ref a1), (.int (0 : Int32)), (.ref b3)])) _
    refine X3.aaload hx (j := (0 : Int32)) (v := (.ref el0)) (by rw [e3]; exact Ar8.1) (State.isArrayOf_alike hZ.alike Ar8.2.1) rfl Ar8.2.2 hin8 hat8 (g := (mkF m 18 #[.val (.ref a1), .val (.ref b3), .val (.int (0 : Int32))] [(.int (0 : Int32)), (.ref a1), (.int (0 : Int32)), (.ref b3)])) rfl rfl (hb hby d27_18) _ ?_
    show Steps p.tables e below (T3.setTop (mkF m 19 #[.val (.ref a1), .val (.ref b3), .val (.int (0 : Int32))] [(.ref el0), (.int (0 : Int32)), (.ref b3)])) _
    refine st9 _ ?_
    show Steps p.tables e below (T9.setTop (mkF m 22 #[.val (.ref a1), .val (.ref b3), .val (.int (0 : Int32))] [(.ref el0), (.int (0 : Int32)), (.ref b3)])) _
    refine st12 _ ?_
    show Steps p.tables e below (T12.setTop (mkF m 23 #[.val (.ref a1), .val (.ref b3), .val (.int (0 : Int32))] [])) _
    refine XS.iinc X12.here hx rfl (hb hby d27_23) rfl (l' := #[.val (.ref a1), .val (.ref b3), .val (.int (1 : Int32))]) rfl ?_
    show Steps p.tables e below (T12.setTop (mkF m 26 #[.val (.ref a1), .val (.ref b3), .val (.int (1 : Int32))] [])) _
    refine XS.goto X12.here hx rfl (pc0 := 26) (pc' := 8) rfl (hb hby d27_26) (by decide) (by decide) ?_
    show Steps p.tables e below (T12.setTop (mkF m 8 #[.val (.ref a1), .val (.ref b3), .val (.int (1 : Int32))] [])) _
    refine XS.iloadN X12.here hx rfl (hb hby d27_8) rfl ?_
    show Steps p.tables e below (T12.setTop (mkF m 9 #[.val (.ref a1), .val (.ref b3), .val (.int (1 : Int32))] [(.int (1 : Int32))])) _
    refine XS.aloadN X12.here hx rfl (hb hby d27_9) rfl rfl ?_
    show Steps p.tables e below (T12.setTop (mkF m 10 #[.val (.ref a1), .val (.ref b3), .val (.int (1 : Int32))] [(.ref a1), (.int (1 : Int32))])) _
    refine X12.arraylength hx (by rw [e12]; exact Ar16.1) (State.isArrayOf_alike hZ.alike Ar16.2.1) (g := (mkF m 10 #[.val (.ref a1), .val (.ref b3), .val (.int (1 : Int32))] [(.ref a1), (.int (1 : Int32))])) rfl rfl (hb hby d27_10) _ ?_
    rw [len_of S16 Nn16]
    show Steps p.tables e below (T12.setTop (mkF m 11 #[.val (.ref a1), .val (.ref b3), .val (.int (1 : Int32))] [(.int (4 : Int32)), (.int (1 : Int32))])) _
    refine XS.icmpNo X12.here hx rfl (hb hby d27_11) rfl (tlt (by decide : (1 : Int32) < (4 : Int32))).2.1 ?_
    show Steps p.tables e below (T12.setTop (mkF m 14 #[.val (.ref a1), .val (.ref b3), .val (.int (1 : Int32))] [])) _
    refine XS.aloadN X12.here hx rfl (hb hby d27_14) rfl rfl ?_
    show Steps p.tables e below (T12.setTop (mkF m 15 #[.val (.ref a1), .val (.ref b3), .val (.int (1 : Int32))] [(.ref b3)])) _
    refine XS.iloadN X12.here hx rfl (hb hby d27_15) rfl ?_
    show Steps p.tables e below (T12.setTop (mkF m 16 #[.val (.ref a1), .val (.ref b3), .val (.int (1 : Int32))] [(.int (1 : Int32)), (.ref b3)])) _
    refine XS.aloadN X12.here hx rfl (hb hby d27_16) rfl rfl ?_
    show Steps p.tables e below (T12.setTop (mkF m 17 #[.val (.ref a1), .val (.ref b3), .val (.int (1 : Int32))] [(.ref a1), (.int (1 : Int32)), (.ref b3)])) _
    refine XS.iloadN X12.here hx rfl (hb hby d27_17) rfl ?_
    show Steps p.tables e below (T12.setTop (mkF m 18 #[.val (.ref a1), .val (.ref b3), .val (.int (1 : Int32))] [(.int (1 : Int32)), (.ref a1), (.int (1 : Int32)), (.ref b3)])) _
    refine X12.aaload hx (j := (1 : Int32)) (v := (.ref el1)) (by rw [e12]; exact Ar17.1) (State.isArrayOf_alike hZ.alike Ar17.2.1) rfl Ar17.2.2 hin17 hat17 (g := (mkF m 18 #[.val (.ref a1), .val (.ref b3), .val (.int (1 : Int32))] [(.int (1 : Int32)), (.ref a1), (.int (1 : Int32)), (.ref b3)])) rfl rfl (hb hby d27_18) _ ?_
    show Steps p.tables e below (T12.setTop (mkF m 19 #[.val (.ref a1), .val (.ref b3), .val (.int (1 : Int32))] [(.ref el1), (.int (1 : Int32)), (.ref b3)])) _
    refine st18 _ ?_
    show Steps p.tables e below (T18.setTop (mkF m 22 #[.val (.ref a1), .val (.ref b3), .val (.int (1 : Int32))] [(.ref el1), (.int (1 : Int32)), (.ref b3)])) _
    refine st21 _ ?_
    show Steps p.tables e below (T21.setTop (mkF m 23 #[.val (.ref a1), .val (.ref b3), .val (.int (1 : Int32))] [])) _
    refine XS.iinc X21.here hx rfl (hb hby d27_23) rfl (l' := #[.val (.ref a1), .val (.ref b3), .val (.int (2 : Int32))]) rfl ?_
    show Steps p.tables e below (T21.setTop (mkF m 26 #[.val (.ref a1), .val (.ref b3), .val (.int (2 : Int32))] [])) _
    refine XS.goto X21.here hx rfl (pc0 := 26) (pc' := 8) rfl (hb hby d27_26) (by decide) (by decide) ?_
    show Steps p.tables e below (T21.setTop (mkF m 8 #[.val (.ref a1), .val (.ref b3), .val (.int (2 : Int32))] [])) _
    refine XS.iloadN X21.here hx rfl (hb hby d27_8) rfl ?_
    show Steps p.tables e below (T21.setTop (mkF m 9 #[.val (.ref a1), .val (.ref b3), .val (.int (2 : Int32))] [(.int (2 : Int32))])) _
    refine XS.aloadN X21.here hx rfl (hb hby d27_9) rfl rfl ?_
    show Steps p.tables e below (T21.setTop (mkF m 10 #[.val (.ref a1), .val (.ref b3), .val (.int (2 : Int32))] [(.ref a1), (.int (2 : Int32))])) _
    refine X21.arraylength hx (by rw [e21]; exact Ar25.1) (State.isArrayOf_alike hZ.alike Ar25.2.1) (g := (mkF m 10 #[.val (.ref a1), .val (.ref b3), .val (.int (2 : Int32))] [(.ref a1), (.int (2 : Int32))])) rfl rfl (hb hby d27_10) _ ?_
    rw [len_of S25 Nn25]
    show Steps p.tables e below (T21.setTop (mkF m 11 #[.val (.ref a1), .val (.ref b3), .val (.int (2 : Int32))] [(.int (4 : Int32)), (.int (2 : Int32))])) _
    refine XS.icmpNo X21.here hx rfl (hb hby d27_11) rfl (tlt (by decide : (2 : Int32) < (4 : Int32))).2.1 ?_
    show Steps p.tables e below (T21.setTop (mkF m 14 #[.val (.ref a1), .val (.ref b3), .val (.int (2 : Int32))] [])) _
    refine XS.aloadN X21.here hx rfl (hb hby d27_14) rfl rfl ?_
    show Steps p.tables e below (T21.setTop (mkF m 15 #[.val (.ref a1), .val (.ref b3), .val (.int (2 : Int32))] [(.ref b3)])) _
    refine XS.iloadN X21.here hx rfl (hb hby d27_15) rfl ?_
    show Steps p.tables e below (T21.setTop (mkF m 16 #[.val (.ref a1), .val (.ref b3), .val (.int (2 : Int32))] [(.int (2 : Int32)), (.ref b3)])) _
    refine XS.aloadN X21.here hx rfl (hb hby d27_16) rfl rfl ?_
    show Steps p.tables e below (T21.setTop (mkF m 17 #[.val (.ref a1), .val (.ref b3), .val (.int (2 : Int32))] [(.ref a1), (.int (2 : Int32)), (.ref b3)])) _
    refine XS.iloadN X21.here hx rfl (hb hby d27_17) rfl ?_
    show Steps p.tables e below (T21.setTop (mkF m 18 #[.val (.ref a1), .val (.ref b3), .val (.int (2 : Int32))] [(.int (2 : Int32)), (.ref a1), (.int (2 : Int32)), (.ref b3)])) _
    refine X21.aaload hx (j := (2 : Int32)) (v := (.ref el2)) (by rw [e21]; exact Ar26.1) (State.isArrayOf_alike hZ.alike Ar26.2.1) rfl Ar26.2.2 hin26 hat26 (g := (mkF m 18 #[.val (.ref a1), .val (.ref b3), .val (.int (2 : Int32))] [(.int (2 : Int32)), (.ref a1), (.int (2 : Int32)), (.ref b3)])) rfl rfl (hb hby d27_18) _ ?_
    show Steps p.tables e below (T21.setTop (mkF m 19 #[.val (.ref a1), .val (.ref b3), .val (.int (2 : Int32))] [(.ref el2), (.int (2 : Int32)), (.ref b3)])) _
    refine st27 _ ?_
    show Steps p.tables e below (T27.setTop (mkF m 22 #[.val (.ref a1), .val (.ref b3), .val (.int (2 : Int32))] [(.ref el2), (.int (2 : Int32)), (.ref b3)])) _
    refine st30 _ ?_
    show Steps p.tables e below (T30.setTop (mkF m 23 #[.val (.ref a1), .val (.ref b3), .val (.int (2 : Int32))] [])) _
    refine XS.iinc X30.here hx rfl (hb hby d27_23) rfl (l' := #[.val (.ref a1), .val (.ref b3), .val (.int (3 : Int32))]) rfl ?_
    show Steps p.tables e below (T30.setTop (mkF m 26 #[.val (.ref a1), .val (.ref b3), .val (.int (3 : Int32))] [])) _
    refine XS.goto X30.here hx rfl (pc0 := 26) (pc' := 8) rfl (hb hby d27_26) (by decide) (by decide) ?_
    show Steps p.tables e below (T30.setTop (mkF m 8 #[.val (.ref a1), .val (.ref b3), .val (.int (3 : Int32))] [])) _
    refine XS.iloadN X30.here hx rfl (hb hby d27_8) rfl ?_
    show Steps p.tables e below (T30.setTop (mkF m 9 #[.val (.ref a1), .val (.ref b3), .val (.int (3 : Int32))] [(.int (3 : Int32))])) _
    refine XS.aloadN X30.here hx rfl (hb hby d27_9) rfl rfl ?_
    show Steps p.tables e below (T30.setTop (mkF m 10 #[.val (.ref a1), .val (.ref b3), .val (.int (3 : Int32))] [(.ref a1), (.int (3 : Int32))])) _
    refine X30.arraylength hx (by rw [e30]; exact Ar34.1) (State.isArrayOf_alike hZ.alike Ar34.2.1) (g := (mkF m 10 #[.val (.ref a1), .val (.ref b3), .val (.int (3 : Int32))] [(.ref a1), (.int (3 : Int32))])) rfl rfl (hb hby d27_10) _ ?_
    rw [len_of S34 Nn34]
    show Steps p.tables e below (T30.setTop (mkF m 11 #[.val (.ref a1), .val (.ref b3), .val (.int (3 : Int32))] [(.int (4 : Int32)), (.int (3 : Int32))])) _
    refine XS.icmpNo X30.here hx rfl (hb hby d27_11) rfl (tlt (by decide : (3 : Int32) < (4 : Int32))).2.1 ?_
    show Steps p.tables e below (T30.setTop (mkF m 14 #[.val (.ref a1), .val (.ref b3), .val (.int (3 : Int32))] [])) _
    refine XS.aloadN X30.here hx rfl (hb hby d27_14) rfl rfl ?_
    show Steps p.tables e below (T30.setTop (mkF m 15 #[.val (.ref a1), .val (.ref b3), .val (.int (3 : Int32))] [(.ref b3)])) _
    refine XS.iloadN X30.here hx rfl (hb hby d27_15) rfl ?_
    show Steps p.tables e below (T30.setTop (mkF m 16 #[.val (.ref a1), .val (.ref b3), .val (.int (3 : Int32))] [(.int (3 : Int32)), (.ref b3)])) _
    refine XS.aloadN X30.here hx rfl (hb hby d27_16) rfl rfl ?_
    show Steps p.tables e below (T30.setTop (mkF m 17 #[.val (.ref a1), .val (.ref b3), .val (.int (3 : Int32))] [(.ref a1), (.int (3 : Int32)), (.ref b3)])) _
    refine XS.iloadN X30.here hx rfl (hb hby d27_17) rfl ?_
    show Steps p.tables e below (T30.setTop (mkF m 18 #[.val (.ref a1), .val (.ref b3), .val (.int (3 : Int32))] [(.int (3 : Int32)), (.ref a1), (.int (3 : Int32)), (.ref b3)])) _
    refine X30.aaload hx (j := (3 : Int32)) (v := (.ref el3)) (by rw [e30]; exact Ar35.1) (State.isArrayOf_alike hZ.alike Ar35.2.1) rfl Ar35.2.2 hin35 hat35 (g := (mkF m 18 #[.val (.ref a1), .val (.ref b3), .val (.int (3 : Int32))] [(.int (3 : Int32)), (.ref a1), (.int (3 : Int32)), (.ref b3)])) rfl rfl (hb hby d27_18) _ ?_
    show Steps p.tables e below (T30.setTop (mkF m 19 #[.val (.ref a1), .val (.ref b3), .val (.int (3 : Int32))] [(.ref el3), (.int (3 : Int32)), (.ref b3)])) _
    refine st36 _ ?_
    show Steps p.tables e below (T36.setTop (mkF m 22 #[.val (.ref a1), .val (.ref b3), .val (.int (3 : Int32))] [(.ref el3), (.int (3 : Int32)), (.ref b3)])) _
    refine st39 _ ?_
    show Steps p.tables e below (T39.setTop (mkF m 23 #[.val (.ref a1), .val (.ref b3), .val (.int (3 : Int32))] [])) _
    refine XS.iinc X39.here hx rfl (hb hby d27_23) rfl (l' := #[.val (.ref a1), .val (.ref b3), .val (.int (4 : Int32))]) rfl ?_
    show Steps p.tables e below (T39.setTop (mkF m 26 #[.val (.ref a1), .val (.ref b3), .val (.int (4 : Int32))] [])) _
    refine XS.goto X39.here hx rfl (pc0 := 26) (pc' := 8) rfl (hb hby d27_26) (by decide) (by decide) ?_
    show Steps p.tables e below (T39.setTop (mkF m 8 #[.val (.ref a1), .val (.ref b3), .val (.int (4 : Int32))] [])) _
    refine XS.iloadN X39.here hx rfl (hb hby d27_8) rfl ?_
    show Steps p.tables e below (T39.setTop (mkF m 9 #[.val (.ref a1), .val (.ref b3), .val (.int (4 : Int32))] [(.int (4 : Int32))])) _
    refine XS.aloadN X39.here hx rfl (hb hby d27_9) rfl rfl ?_
    show Steps p.tables e below (T39.setTop (mkF m 10 #[.val (.ref a1), .val (.ref b3), .val (.int (4 : Int32))] [(.ref a1), (.int (4 : Int32))])) _
    refine X39.arraylength hx (by rw [e39]; exact Ar43.1) (State.isArrayOf_alike hZ.alike Ar43.2.1) (g := (mkF m 10 #[.val (.ref a1), .val (.ref b3), .val (.int (4 : Int32))] [(.ref a1), (.int (4 : Int32))])) rfl rfl (hb hby d27_10) _ ?_
    rw [len_of S43 Nn43]
    show Steps p.tables e below (T39.setTop (mkF m 11 #[.val (.ref a1), .val (.ref b3), .val (.int (4 : Int32))] [(.int (4 : Int32)), (.int (4 : Int32))])) _
    refine XS.icmpYes X39.here hx rfl (pc0 := 11) (pc' := 29) rfl (hb hby d27_11) rfl (flt (by decide : ¬ ((4 : Int32) < (4 : Int32)))).2.1 (by decide) (by decide) ?_
    show Steps p.tables e below (T39.setTop (mkF m 29 #[.val (.ref a1), .val (.ref b3), .val (.int (4 : Int32))] [])) _
    refine st44 _ ?_
    show Steps p.tables e below (T44.setTop (mkF m 32 #[.val (.ref a1), .val (.ref b3), .val (.int (4 : Int32))] [(.ref b44)])) _
    refine XS.dup X44.here hx rfl (hb hby d27_32) rfl rfl ?_
    show Steps p.tables e below (T44.setTop (mkF m 33 #[.val (.ref a1), .val (.ref b3), .val (.int (4 : Int32))] [(.ref b44), (.ref b44)])) _
    refine XS.aloadN X44.here hx rfl (hb hby d27_33) rfl rfl ?_
    show Steps p.tables e below (T44.setTop (mkF m 34 #[.val (.ref a1), .val (.ref b3), .val (.int (4 : Int32))] [(.ref b3), (.ref b44), (.ref b44)])) _
    refine XS.iconst X44.here hx rfl (hb hby d27_34) ?_
    show Steps p.tables e below (T44.setTop (mkF m 35 #[.val (.ref a1), .val (.ref b3), .val (.int (4 : Int32))] [(.int (0 : Int32)), (.ref b3), (.ref b44), (.ref b44)])) _
    refine st47.trans ?_
    show Steps p.tables e below (T47.setTop (mkF m 38 #[.val (.ref a1), .val (.ref b3), .val (.int (4 : Int32))] [(.ref b44)])) _
    exact own_retR X47 hx Bd.returns rfl rfl (hb hby d27_38) hr
  · show Q27c4 Z a1 k0 el0 el1 el2 el3 h0 n0 _ T47.heap _
    exact ⟨b44, b3, k3, rfl, N47, K48, sz_b44, sz_b3, (Ne.symm (Nat.ne_of_lt (Nat.lt_of_lt_of_le (Nat.lt_of_lt_of_le V3.lt (Nat.le_trans (Nat.le_trans (Nat.le_trans (Keep.of_wr W12).1 (Keep.of_wr W21).1) (Keep.of_wr W30).1) (Keep.of_wr W39).1)) (Nat.le_of_eq g44.symm)))), Y47_0, Y47_1, Y47_2, f50, f51, f52⟩
def Q20c4 (Z : State) (a1 : Addr) (k0 : ClassId) (el0 el1 el2 el3 : Addr) (h0 : Heap) (n0 : Nat) (v : Option Value) (h : Heap) (L : List Loc) : Prop := ∃ b4 b5 : Addr, ∃ k6 : ClassId, v = some (.ref b4) ∧ Fr n0 L ∧ Keep h0 h [] ∧ h0.size ≤ b4 ∧ h0.size ≤ b5 ∧ b4 ≠ b5 ∧ Exa Z h b4 "java/util/ImmutableCollections$ListN" ∧ Fld Z h b4 "java/util/ImmutableCollections$ListN" "allowNulls" "Z" (.int ((0 : Int32) &&& 1)) ∧ Fld Z h b4 "java/util/ImmutableCollections$ListN" "elements" "[Ljava/lang/Object;" (.ref b5) ∧ Exa Z h b5 "[Ljava/lang/Object;" ∧ Arv Z h b5 k6 (.object "java/lang/Object") (4 : Int32) [(.ref el0), (.ref el1), (.ref el2), (.ref el3)] .null ∧ Ovr Z k6 "java/lang/Object"
set_option maxRecDepth 65536 in
set_option maxHeartbeats 40000000 in
theorem rm20c4 (l : Launch) (Z : State) (a0 : Array Value) (hw : ∀ d ∈ tables_1, d.before a0 Z = true) (ws : List Jvm.Cond) (a1 : Addr) (k0 : ClassId) (el0 el1 el2 el3 : Addr) (h0 : Heap) (n0 : Nat) (O0 : Old Z n0 h0) (HV_a1 : Arv Z h0 a1 k0 (.object "java/lang/Object") (4 : Int32) [(.ref el0), (.ref el1), (.ref el2), (.ref el3)] .null) (HI_el0 : Ins Z h0 el0 "java/lang/Object" true) (HI_el1 : Ins Z h0 el1 "java/lang/Object" true) (HI_el2 : Ins Z h0 el2 "java/lang/Object" true) (HI_el3 : Ins Z h0 el3 "java/lang/Object" true) :
    MetFree l (⟨"java/util/List", "of", "([Ljava/lang/Object;)Ljava/util/List;"⟩ : MethodName) (head1 (Jvm.Cond.code (⟨"java/util/List", "of", "([Ljava/lang/Object;)Ljava/util/List;"⟩ : MethodName) jdk_40_method_47_code 2 (some (.object "java/util/List")) :: ws) ({ frames := 6, cells := 2, slots := 6, locals := 77 } : Room)) (fun a U => a = #[(.ref a1)] ∧ Z.Warmed39 U.vm ∧ U.heap = h0) (fun _ _ _ _ _ => True) (fun _ U o U' => ∃ v L, o = .returned v ∧ Q20c4 Z a1 k0 el0 el1 el2 el3 h0 n0 v U'.heap L ∧ FrameEnd U o U' L ({ frames := 6, cells := 2, slots := 6, locals := 77 } : Room).cells ({ frames := 6, cells := 2, slots := 6, locals := 77 } : Room).slots) := by
  refine MetFree.of_bodySF (plainFor_of_name pnc_java_util_List) hisR ?_
  intro p e s m args below meth c s₁ Bd hml0 hP hK
  obtain ⟨rfl, hZ, hh⟩ := hP
  have hx := Bd.exec
  have hby := Bd.bytes
  have hml : c.maxLocals = 2 := hml0
  have hown : s.vm.findClass "java/util/List" = some m.cls := findClass_of_methodNamed Bd.named
  have hnm := (name_of_methodNamed Bd.named Bd.method).1
  have X0 : Stand p l e ({ frames := 6, cells := 2, slots := 6, locals := 77 } : Room) s m #[(.ref a1)] below meth c s₁ [] 0 0 := Stand.of_body Bd
  have e0 : s₁.heap = h0 := by rw [← hh, Bd.state]; rfl
  have N0 := Fr.nil n0
  have Z0 : n0 ≤ h0.size := O0.1 ▸ O0.2.1
  have pre0 : ∀ t, Steps p.tables e below (s₁.setTop (mkF m 0 #[.val (.ref a1), .unset] [])) t → Steps p.tables e below (s₁.setTop (entryFrame m #[(.ref a1)] 2)) t := fun t k => castTop (ef_20 m a1) k
  obtain ⟨cl2, Ar2, q2, S2, Nn2, Hh2, G2⟩ := id HV_a1
  obtain ⟨vr3, _, ⟨T3, L3, k3, n3⟩, -, X3, ⟨Lc3, hQ3, l3, y3, z3⟩, st3⟩ := Jvm.LawKit.callS X0 hx (y := (⟨"java/util/ImmutableCollections", "listFromArray", "([Ljava/lang/Object;)Ljava/util/List;"⟩ : MethodName)) hown (mvT hZ (hw _ (List.mem_of_getElem? (i := 195) rfl))) (mvT hZ (hw _ (List.mem_of_getElem? (i := 196) rfl))) (mvT hZ (hw _ (List.mem_of_getElem? (i := 98) rfl))) (mvT hZ (hw _ (List.mem_of_getElem? (i := 197) rfl))) (by decide) (backOf (W := 0) (rm27c4 l Z a0 hw [] a1 k0 el0 el1 el2 el3 h0 n0 O0 HV_a1 HI_el0 HI_el1 HI_el2 HI_el3) hZ (hw _ (List.mem_of_getElem? (i := 197) rfl)) (hw _ (List.mem_of_getElem? (i := 98) rfl)) (by decide) (by decide)) (g := (mkF m 60 #[.val (.ref a1), .unset] [(.ref a1)])) rfl (by rw [hml]; rfl) (argsL := [(.ref a1)]) (rest := []) (lenOf pd_17 rfl) rfl (by show 2 * 0 + _ ≤ _; exact Nat.le_of_eq rfl) (hb hby d20_60) (fun _ _ => ⟨rfl, e0, (by decide : 0 + 2 ≤ _), (by decide : 0 + 6 ≤ _)⟩)
  dsimp only [Pt.U, Pt.locs, Pt.cells, Pt.slots] at X3 l3 y3 z3 st3 hQ3
  subst l3 y3 z3
  obtain ⟨b4, b5, k6, rfl, N3q, K3, Y3_z0, Y3_z1, Y3_n0, Y3_0, Y3_1, Y3_2, Y3_3, Y3_4, Y3_5⟩ := hQ3
  have N3 := Fr.app N0 N3q
  replace X3 := X3.more (cells' := 2) (slots' := 6) (by decide) (by decide)
  have g_b4 : n0 ≤ b4 := Nat.le_trans (Nat.le_trans Z0 (Keep.refl h0 []).1) Y3_z0
  have sz_b4 : h0.size ≤ b4 := Nat.le_trans (Keep.refl h0 []).1 Y3_z0
  have g_b5 : n0 ≤ b5 := Nat.le_trans (Nat.le_trans Z0 (Keep.refl h0 []).1) Y3_z1
  have sz_b5 : h0.size ≤ b5 := Nat.le_trans (Keep.refl h0 []).1 Y3_z1
  have K7 : Keep h0 T3.heap [] := (Keep.refl h0 []).trans K3 all0
  have O8 : Old Z n0 T3.heap := O0.keep K3 all0
  obtain ⟨fs, hr, hrun, hended, hW, hsame⟩ := X3.leave (v := some (.ref b4)) (fun h => by rw [Bd.returns] at h; cases h)
  refine ⟨_, _, pre0 _ ?_, hrun, hended, _, _, rfl, ?_, ⟨_, rfl⟩, hW, hsame.mono (by decide) (by decide)⟩
  · show Steps p.tables e below (s₁.setTop (mkF m 0 #[.val (.ref a1), .unset] [])) _
    refine XS.aloadN X0.here hx rfl (hb hby d20_0) rfl rfl ?_
    show Steps p.tables e below (s₁.setTop (mkF m 1 #[.val (.ref a1), .unset] [(.ref a1)])) _
    refine X0.arraylength hx (by rw [e0]; exact Ar2.1) (State.isArrayOf_alike hZ.alike Ar2.2.1) (g := (mkF m 1 #[.val (.ref a1), .unset] [(.ref a1)])) rfl rfl (hb hby d20_1) _ ?_
    rw [len_of S2 Nn2]
    show Steps p.tables e below (s₁.setTop (mkF m 2 #[.val (.ref a1), .unset] [(.int (4 : Int32))])) _
    refine XS.tswOut X0.here hx rfl (pc0 := 2) (pc' := 59) rfl (hb hby d20_2) rfl (by decide) (by decide) (by decide) ?_
    show Steps p.tables e below (s₁.setTop (mkF m 59 #[.val (.ref a1), .unset] [])) _
    refine XS.aloadN X0.here hx rfl (hb hby d20_59) rfl rfl ?_
    show Steps p.tables e below (s₁.setTop (mkF m 60 #[.val (.ref a1), .unset] [(.ref a1)])) _
    refine st3 _ ?_
    show Steps p.tables e below (T3.setTop (mkF m 63 #[.val (.ref a1), .unset] [(.ref b4)])) _
    exact own_retR X3 hx Bd.returns rfl rfl (hb hby d20_63) hr
  · show Q20c4 Z a1 k0 el0 el1 el2 el3 h0 n0 _ T3.heap _
    exact ⟨b4, b5, k6, rfl, N3, K7, sz_b4, sz_b5, Y3_n0, Y3_0, Y3_1, Y3_2, Y3_3, Y3_4, Y3_5⟩
def Q14c4 (Z : State) (a1 : Addr) (k0 : ClassId) (el0 el1 el2 el3 w0 w5 : Addr) (h0 : Heap) (n0 : Nat) (v : Option Value) (h : Heap) (L : List Loc) : Prop := ∃ b16 b17 : Addr, ∃ k18 : ClassId, v = some (.ref b16) ∧ Fr n0 L ∧ Keep h0 h [] ∧ h0.size ≤ b16 ∧ h0.size ≤ b17 ∧ b16 ≠ b17 ∧ Exa Z h b16 "java/util/ImmutableCollections$ListN" ∧ Fld Z h b16 "java/util/ImmutableCollections$ListN" "allowNulls" "Z" (.int ((0 : Int32) &&& 1)) ∧ Fld Z h b16 "java/util/ImmutableCollections$ListN" "elements" "[Ljava/lang/Object;" (.ref b17) ∧ Exa Z h b17 "[Ljava/lang/Object;" ∧ Arv Z h b17 k18 (.object "java/lang/Object") (4 : Int32) [(.ref el0), (.ref el1), (.ref el2), (.ref el3)] .null ∧ Ovr Z k18 "java/lang/Object"
set_option maxRecDepth 65536 in
set_option maxHeartbeats 40000000 in
theorem rm14c4 (l : Launch) (Z : State) (a0 : Array Value) (hw : ∀ d ∈ tables_1, d.before a0 Z = true) (ws : List Jvm.Cond) (a1 : Addr) (k0 : ClassId) (el0 el1 el2 el3 w0 w5 : Addr) (h0 : Heap) (n0 : Nat) (O0 : Old Z n0 h0) (HE_a1 : Exa Z h0 a1 "java/util/ArrayList") (HF_a1_elementData : Fld Z h0 a1 "java/util/ArrayList" "elementData" "[Ljava/lang/Object;" (.ref w0)) (HF_a1_size : Fld Z h0 a1 "java/util/ArrayList" "size" "I" (.int (4 : Int32))) (HE_w0 : Exa Z h0 w0 "[Ljava/lang/Object;") (HV_w0 : Arv Z h0 w0 k0 (.object "java/lang/Object") (10 : Int32) [(.ref el0), (.ref el1), (.ref el2), (.ref el3), .null, .null, .null, .null, .null, .null] .null) (HI_el0 : Ins Z h0 el0 "java/lang/Object" true) (HI_el1 : Ins Z h0 el1 "java/lang/Object" true) (HI_el2 : Ins Z h0 el2 "java/lang/Object" true) (HI_el3 : Ins Z h0 el3 "java/lang/Object" true) (Mi__Ljava_lang_Object_ : own_Mir Z "[Ljava/lang/Object;" w5) :
    MetFree l (⟨"java/util/ImmutableCollections", "listCopy", "(Ljava/util/Collection;)Ljava/util/List;"⟩ : MethodName) (head1 (Jvm.Cond.code (⟨"java/util/ImmutableCollections", "listCopy", "(Ljava/util/Collection;)Ljava/util/List;"⟩ : MethodName) jdk_56_method_3_code 2 (some (.object "java/util/List")) :: ws) ({ frames := 7, cells := 3, slots := 10, locals := 90 } : Room)) (fun a U => a = #[(.ref a1)] ∧ Z.Warmed39 U.vm ∧ U.heap = h0) (fun _ _ _ _ _ => True) (fun _ U o U' => ∃ v L, o = .returned v ∧ Q14c4 Z a1 k0 el0 el1 el2 el3 w0 w5 h0 n0 v U'.heap L ∧ FrameEnd U o U' L ({ frames := 7, cells := 3, slots := 10, locals := 90 } : Room).cells ({ frames := 7, cells := 3, slots := 10, locals := 90 } : Room).slots) := by
  refine MetFree.of_bodySF (plainFor_of_name pnc_java_util_ImmutableCollections) hisR ?_
  intro p e s m args below meth c s₁ Bd hml0 hP hK
  obtain ⟨rfl, hZ, hh⟩ := hP
  have hx := Bd.exec
  have hby := Bd.bytes
  have hml : c.maxLocals = 2 := hml0
  have hown : s.vm.findClass "java/util/ImmutableCollections" = some m.cls := findClass_of_methodNamed Bd.named
  have hnm := (name_of_methodNamed Bd.named Bd.method).1
  have X0 : Stand p l e ({ frames := 7, cells := 3, slots := 10, locals := 90 } : Room) s m #[(.ref a1)] below meth c s₁ [] 0 0 := Stand.of_body Bd
  have e0 : s₁.heap = h0 := by rw [← hh, Bd.state]; rfl
  have N0 := Fr.nil n0
  have Z0 : n0 ≤ h0.size := O0.1 ▸ O0.2.1
  have pre0 : ∀ t, Steps p.tables e below (s₁.setTop (mkF m 0 #[.val (.ref a1), .unset] [])) t → Steps p.tables e below (s₁.setTop (entryFrame m #[(.ref a1)] 2)) t := fun t k => castTop (ef_14 m a1) k
  obtain ⟨T2, X2, e2, st2⟩ := instNo X0 hx hZ hown (hw _ (List.mem_of_getElem? (i := 100) rfl)) e0 HE_a1 (own_nsno (hw _ (List.mem_of_getElem? (i := 101) rfl)) (hw _ (List.mem_of_getElem? (i := 149) rfl)) (NS.step (hw _ (List.mem_of_getElem? (i := 101) rfl)) (NS.step (hw _ (List.mem_of_getElem? (i := 102) rfl)) (NS.step (hw _ (List.mem_of_getElem? (i := 103) rfl)) (own_nsroot (hw _ (List.mem_of_getElem? (i := 104) rfl)) (hw _ (List.mem_of_getElem? (i := 149) rfl)) (by decide)) (by decide)) (by decide)) (by decide)) (by decide)) (g := (mkF m 1 #[.val (.ref a1), .unset] [(.ref a1)])) rfl rfl (hb hby d14_1)
  obtain ⟨T3, X3, e3, st3⟩ := instNo X2 hx hZ hown (hw _ (List.mem_of_getElem? (i := 105) rfl)) e2 HE_a1 (own_nsno (hw _ (List.mem_of_getElem? (i := 101) rfl)) (hw _ (List.mem_of_getElem? (i := 200) rfl)) (NS.step (hw _ (List.mem_of_getElem? (i := 101) rfl)) (NS.step (hw _ (List.mem_of_getElem? (i := 102) rfl)) (NS.step (hw _ (List.mem_of_getElem? (i := 103) rfl)) (own_nsroot (hw _ (List.mem_of_getElem? (i := 104) rfl)) (hw _ (List.mem_of_getElem? (i := 200) rfl)) (by decide)) (by decide)) (by decide)) (by decide)) (by decide)) (g := (mkF m 8 #[.val (.ref a1), .unset] [(.ref a1)])) rfl rfl (hb hby d14_8)
  obtain ⟨cq4, kq4, q4a, q4b, q4c⟩ := isOf hZ e3 HE_a1
  obtain ⟨vr4, _, ⟨T4, L4, k4, n4⟩, -, X4, ⟨Lc4, hQ4, l4, y4, z4⟩, st4⟩ := X3.interfaceBack hx (xi := (⟨"java/util/Collection", "isEmpty", "()Z"⟩ : MethodName)) (y := (⟨"java/util/ArrayList", "isEmpty", "()Z"⟩ : MethodName)) hown (mvT hZ (hw _ (List.mem_of_getElem? (i := 106) rfl))) (mvT hZ (hw _ (List.mem_of_getElem? (i := 107) rfl))) (mvT hZ (hw _ (List.mem_of_getElem? (i := 108) rfl))) (mvT hZ (hw _ (List.mem_of_getElem? (i := 109) rfl))) (mvT hZ (hw _ (List.mem_of_getElem? (i := 110) rfl))) (mvT hZ (hw _ (List.mem_of_getElem? (i := 111) rfl))) (mvT hZ (hw _ (List.mem_of_getElem? (i := 112) rfl))) (mvT hZ (hw _ (List.mem_of_getElem? (i := 113) rfl))) (by decide) (backOf (W := 0) (rm15 l Z a0 hw [] a1 ((4 : Int32)) h0 n0 O0 HF_a1_size (by decide : ¬ ((4 : Int32) = (0 : Int32)))) hZ (hw _ (List.mem_of_getElem? (i := 114) rfl)) (hw _ (List.mem_of_getElem? (i := 22) rfl)) (by decide) (by decide)) q4a q4b q4c (g := (mkF m 32 #[.val (.ref a1), .unset] [(.ref a1)])) rfl (by rw [hml]; rfl) (Steps.refl _) (argsL := []) (rest := []) (lenOf pd_3 rfl) rfl (by show 2 * 0 + _ ≤ _; exact Nat.le_of_eq rfl) (hb hby d14_32) (fun _ _ => ⟨rfl, e3, (by decide : 0 + 0 ≤ _), (by decide : 0 + 0 ≤ _)⟩)
  dsimp only [Pt.U, Pt.locs, Pt.cells, Pt.slots] at X4 l4 y4 z4 st4 hQ4
  subst l4 y4 z4
  obtain ⟨rfl, N4q, e4⟩ := hQ4
  have N4 := Fr.app N0 N4q
  replace X4 := X4.more (cells' := 0) (slots' := 0) (by decide) (by decide)
  obtain ⟨cq6, kq6, q6a, q6b, q6c⟩ := isOf hZ e4 HE_a1
  obtain ⟨vr6, _, ⟨T6, L6, k6, n6⟩, -, X6, ⟨Lc6, hQ6, l6, y6, z6⟩, st6⟩ := X4.interfaceBack hx (xi := (⟨"java/util/Collection", "toArray", "()[Ljava/lang/Object;"⟩ : MethodName)) (y := (⟨"java/util/ArrayList", "toArray", "()[Ljava/lang/Object;"⟩ : MethodName)) hown (mvT hZ (hw _ (List.mem_of_getElem? (i := 115) rfl))) (mvT hZ (hw _ (List.mem_of_getElem? (i := 116) rfl))) (mvT hZ (hw _ (List.mem_of_getElem? (i := 117) rfl))) (mvT hZ (hw _ (List.mem_of_getElem? (i := 118) rfl))) (mvT hZ (hw _ (List.mem_of_getElem? (i := 119) rfl))) (mvT hZ (hw _ (List.mem_of_getElem? (i := 120) rfl))) (mvT hZ (hw _ (List.mem_of_getElem? (i := 121) rfl))) (mvT hZ (hw _ (List.mem_of_getElem? (i := 113) rfl))) (by decide) (backOf (W := 0) (rm16c4 l Z a0 hw [] a1 k0 el0 el1 el2 el3 w0 w5 h0 n0 O0 HF_a1_elementData HF_a1_size HE_w0 HV_w0 HI_el0 HI_el1 HI_el2 HI_el3 Mi__Ljava_lang_Object_) hZ (hw _ (List.mem_of_getElem? (i := 122) rfl)) (hw _ (List.mem_of_getElem? (i := 22) rfl)) (by decide) (by decide)) q6a q6b q6c (g := (mkF m 45 #[.val (.ref a1), .unset] [(.ref a1)])) rfl (by rw [hml]; rfl) (Steps.refl _) (argsL := []) (rest := []) (lenOf pd_4 rfl) rfl (by show 2 * 0 + _ ≤ _; exact Nat.le_of_eq rfl) (hb hby d14_45) (fun _ _ => ⟨rfl, e4, (by decide : 0 + 1 ≤ _), (by decide : 0 + 4 ≤ _)⟩)
  dsimp only [Pt.U, Pt.locs, Pt.cells, Pt.slots] at X6 l6 y6 z6 st6 hQ6
  subst l6 y6 z6
  obtain ⟨b7, k8, rfl, N6q, K6, Y6_z0, Y6_0, Y6_1, Y6_2⟩ := hQ6
  have N6 := Fr.app N4 N6q
  replace X6 := X6.more (cells' := 1) (slots' := 4) (by decide) (by decide)
  have g_b7 : n0 ≤ b7 := Nat.le_trans (Nat.le_trans Z0 (Keep.refl h0 []).1) Y6_z0
  have sz_b7 : h0.size ≤ b7 := Nat.le_trans (Keep.refl h0 []).1 Y6_z0
  have K9 : Keep h0 T6.heap [] := (Keep.refl h0 []).trans K6 all0
  have O10 : Old Z n0 T6.heap := O0.keep K6 all0
  have f11 := (own_inskeep HI_el0 K6)
  have f12 := (own_inskeep HI_el1 K6)
  have f13 := (own_inskeep HI_el2 K6)
  have f14 := (own_inskeep HI_el3 K6)
  obtain ⟨vr15, _, ⟨T15, L15, k15, n15⟩, -, X15, ⟨Lc15, hQ15, l15, y15, z15⟩, st15⟩ := Jvm.LawKit.callS X6 hx (y := (⟨"java/util/List", "of", "([Ljava/lang/Object;)Ljava/util/List;"⟩ : MethodName)) hown (mvT hZ (hw _ (List.mem_of_getElem? (i := 145) rfl))) (mvT hZ (hw _ (List.mem_of_getElem? (i := 146) rfl))) (mvT hZ (hw _ (List.mem_of_getElem? (i := 94) rfl))) (mvT hZ (hw _ (List.mem_of_getElem? (i := 147) rfl))) (by decide) (backOf (W := 0) (rm20c4 l Z a0 hw [] b7 k8 el0 el1 el2 el3 T6.heap n0 O10 Y6_1 f11 f12 f13 f14) hZ (hw _ (List.mem_of_getElem? (i := 147) rfl)) (hw _ (List.mem_of_getElem? (i := 94) rfl)) (by decide) (by decide)) (g := (mkF m 50 #[.val (.ref a1), .unset] [(.ref b7)])) rfl (by rw [hml]; rfl) (argsL := [(.ref b7)]) (rest := []) (lenOf pd_17 rfl) rfl (by show 2 * 0 + _ ≤ _; exact Nat.le_of_eq rfl) (hb hby d14_50) (fun _ _ => ⟨rfl, rfl, (by decide : 1 + 2 ≤ _), (by decide : 4 + 6 ≤ _)⟩)
  dsimp only [Pt.U, Pt.locs, Pt.cells, Pt.slots] at X15 l15 y15 z15 st15 hQ15
  subst l15 y15 z15
  obtain ⟨b16, b17, k18, rfl, N15q, K15, Y15_z0, Y15_z1, Y15_n0, Y15_0, Y15_1, Y15_2, Y15_3, Y15_4, Y15_5⟩ := hQ15
  have N15 := Fr.app N6 N15q
  replace X15 := X15.more (cells' := 3) (slots' := 10) (by decide) (by decide)
  have g_b16 : n0 ≤ b16 := Nat.le_trans (Nat.le_trans Z0 K9.1) Y15_z0
  have sz_b16 : h0.size ≤ b16 := Nat.le_trans K9.1 Y15_z0
  have g_b17 : n0 ≤ b17 := Nat.le_trans (Nat.le_trans Z0 K9.1) Y15_z1
  have sz_b17 : h0.size ≤ b17 := Nat.le_trans K9.1 Y15_z1
  have K19 : Keep h0 T15.heap [] := K9.trans K15 all0
  have O20 : Old Z n0 T15.heap := O10.keep K15 all0
  obtain ⟨fs, hr, hrun, hended, hW, hsame⟩ := X15.leave (v := some (.ref b16)) (fun h => by rw [Bd.returns] at h; cases h)
  refine ⟨_, _, pre0 _ ?_, hrun, hended, _, _, rfl, ?_, ⟨_, rfl⟩, hW, hsame.mono (by decide) (by decide)⟩
  · show Steps p.tables e below (s₁.setTop (mkF m 0 #[.val (.ref a1), .unset] [])) _
    refine XS.aloadN X0.here hx rfl (hb hby d14_0) rfl rfl ?_
    show Steps p.tables e below (s₁.setTop (mkF m 1 #[.val (.ref a1), .unset] [(.ref a1)])) _
    refine st2 _ ?_
    show Steps p.tables e below (T2.setTop (mkF m 4 #[.val (.ref a1), .unset] [(.int (0 : Int32))])) _
    refine XS.ifNo X2.here hx rfl (hb hby d14_4) rfl ((if0 _ _).trans (teq (by decide : (0 : Int32) = (0 : Int32))).2) ?_
    show Steps p.tables e below (T2.setTop (mkF m 7 #[.val (.ref a1), .unset] [])) _
    refine XS.aloadN X2.here hx rfl (hb hby d14_7) rfl rfl ?_
    show Steps p.tables e below (T2.setTop (mkF m 8 #[.val (.ref a1), .unset] [(.ref a1)])) _
    refine st3 _ ?_
    show Steps p.tables e below (T3.setTop (mkF m 11 #[.val (.ref a1), .unset] [(.int (0 : Int32))])) _
    refine XS.ifYes X3.here hx rfl (pc0 := 11) (pc' := 31) rfl (hb hby d14_11) rfl ((if0 _ _).trans (teq (by decide : (0 : Int32) = (0 : Int32))).1) (by decide) (by decide) ?_
    show Steps p.tables e below (T3.setTop (mkF m 31 #[.val (.ref a1), .unset] [])) _
    refine XS.aloadN X3.here hx rfl (hb hby d14_31) rfl rfl ?_
    show Steps p.tables e below (T3.setTop (mkF m 32 #[.val (.ref a1), .unset] [(.ref a1)])) _
    refine st4.trans ?_
    show Steps p.tables e below (T4.setTop (mkF m 37 #[.val (.ref a1), .unset] [(.int (0 : Int32))])) _
    refine XS.ifYes X4.here hx rfl (pc0 := 37) (pc' := 44) rfl (hb hby d14_37) rfl ((if0 _ _).trans (teq (by decide : (0 : Int32) = (0 : Int32))).1) (by decide) (by decide) ?_
    show Steps p.tables e below (T4.setTop (mkF m 44 #[.val (.ref a1), .unset] [])) _
    refine XS.aloadN X4.here hx rfl (hb hby d14_44) rfl rfl ?_
    show Steps p.tables e below (T4.setTop (mkF m 45 #[.val (.ref a1), .unset] [(.ref a1)])) _
    refine st6.trans ?_
    show Steps p.tables e below (T6.setTop (mkF m 50 #[.val (.ref a1), .unset] [(.ref b7)])) _
    refine st15 _ ?_
    show Steps p.tables e below (T15.setTop (mkF m 53 #[.val (.ref a1), .unset] [(.ref b16)])) _
    exact own_retR X15 hx Bd.returns rfl rfl (hb hby d14_53) hr
  · show Q14c4 Z a1 k0 el0 el1 el2 el3 w0 w5 h0 n0 _ T15.heap _
    exact ⟨b16, b17, k18, rfl, N15, K19, sz_b16, sz_b17, Y15_n0, Y15_0, Y15_1, Y15_2, Y15_3, Y15_4, Y15_5⟩
def Q13c4 (Z : State) (a1 : Addr) (k0 : ClassId) (el0 el1 el2 el3 w0 w2 : Addr) (h0 : Heap) (n0 : Nat) (v : Option Value) (h : Heap) (L : List Loc) : Prop := ∃ b4 b5 : Addr, ∃ k6 : ClassId, v = some (.ref b4) ∧ Fr n0 L ∧ Keep h0 h [] ∧ h0.size ≤ b4 ∧ h0.size ≤ b5 ∧ b4 ≠ b5 ∧ Exa Z h b4 "java/util/ImmutableCollections$ListN" ∧ Fld Z h b4 "java/util/ImmutableCollections$ListN" "allowNulls" "Z" (.int ((0 : Int32) &&& 1)) ∧ Fld Z h b4 "java/util/ImmutableCollections$ListN" "elements" "[Ljava/lang/Object;" (.ref b5) ∧ Exa Z h b5 "[Ljava/lang/Object;" ∧ Arv Z h b5 k6 (.object "java/lang/Object") (4 : Int32) [(.ref el0), (.ref el1), (.ref el2), (.ref el3)] .null ∧ Ovr Z k6 "java/lang/Object"
set_option maxRecDepth 65536 in
set_option maxHeartbeats 40000000 in
theorem rm13c4 (l : Launch) (Z : State) (a0 : Array Value) (hw : ∀ d ∈ tables_1, d.before a0 Z = true) (ws : List Jvm.Cond) (a1 : Addr) (k0 : ClassId) (el0 el1 el2 el3 w0 w2 : Addr) (h0 : Heap) (n0 : Nat) (O0 : Old Z n0 h0) (HE_a1 : Exa Z h0 a1 "java/util/ArrayList") (HF_a1_elementData : Fld Z h0 a1 "java/util/ArrayList" "elementData" "[Ljava/lang/Object;" (.ref w0)) (HF_a1_size : Fld Z h0 a1 "java/util/ArrayList" "size" "I" (.int (4 : Int32))) (HE_w0 : Exa Z h0 w0 "[Ljava/lang/Object;") (HV_w0 : Arv Z h0 w0 k0 (.object "java/lang/Object") (10 : Int32) [(.ref el0), (.ref el1), (.ref el2), (.ref el3), .null, .null, .null, .null, .null, .null] .null) (HI_el0 : Ins Z h0 el0 "java/lang/Object" true) (HI_el1 : Ins Z h0 el1 "java/lang/Object" true) (HI_el2 : Ins Z h0 el2 "java/lang/Object" true) (HI_el3 : Ins Z h0 el3 "java/lang/Object" true) (Mi__Ljava_lang_Object_ : own_Mir Z "[Ljava/lang/Object;" w2) :
    MetFree l (⟨"java/util/List", "copyOf", "(Ljava/util/Collection;)Ljava/util/List;"⟩ : MethodName) (head1 (Jvm.Cond.code (⟨"java/util/List", "copyOf", "(Ljava/util/Collection;)Ljava/util/List;"⟩ : MethodName) jdk_40_method_48_code 1 (some (.object "java/util/List")) :: ws) ({ frames := 8, cells := 3, slots := 10, locals := 103 } : Room)) (fun a U => a = #[(.ref a1)] ∧ Z.Warmed39 U.vm ∧ U.heap = h0) (fun _ _ _ _ _ => True) (fun _ U o U' => ∃ v L, o = .returned v ∧ Q13c4 Z a1 k0 el0 el1 el2 el3 w0 w2 h0 n0 v U'.heap L ∧ FrameEnd U o U' L ({ frames := 8, cells := 3, slots := 10, locals := 103 } : Room).cells ({ frames := 8, cells := 3, slots := 10, locals := 103 } : Room).slots) := by
  refine MetFree.of_bodySF (plainFor_of_name pnc_java_util_List) hisR ?_
  intro p e s m args below meth c s₁ Bd hml0 hP hK
  obtain ⟨rfl, hZ, hh⟩ := hP
  have hx := Bd.exec
  have hby := Bd.bytes
  have hml : c.maxLocals = 1 := hml0
  have hown : s.vm.findClass "java/util/List" = some m.cls := findClass_of_methodNamed Bd.named
  have hnm := (name_of_methodNamed Bd.named Bd.method).1
  have X0 : Stand p l e ({ frames := 8, cells := 3, slots := 10, locals := 103 } : Room) s m #[(.ref a1)] below meth c s₁ [] 0 0 := Stand.of_body Bd
  have e0 : s₁.heap = h0 := by rw [← hh, Bd.state]; rfl
  have N0 := Fr.nil n0
  have Z0 : n0 ≤ h0.size := O0.1 ▸ O0.2.1
  have pre0 : ∀ t, Steps p.tables e below (s₁.setTop (mkF m 0 #[.val (.ref a1)] [])) t → Steps p.tables e below (s₁.setTop (entryFrame m #[(.ref a1)] 1)) t := fun t k => castTop (ef_13 m a1) k
  obtain ⟨vr3, _, ⟨T3, L3, k3, n3⟩, -, X3, ⟨Lc3, hQ3, l3, y3, z3⟩, st3⟩ := Jvm.LawKit.callS X0 hx (y := (⟨"java/util/ImmutableCollections", "listCopy", "(Ljava/util/Collection;)Ljava/util/List;"⟩ : MethodName)) hown (mvT hZ (hw _ (List.mem_of_getElem? (i := 96) rfl))) (mvT hZ (hw _ (List.mem_of_getElem? (i := 97) rfl))) (mvT hZ (hw _ (List.mem_of_getElem? (i := 98) rfl))) (mvT hZ (hw _ (List.mem_of_getElem? (i := 99) rfl))) (by decide) (backOf (W := 0) (rm14c4 l Z a0 hw [] a1 k0 el0 el1 el2 el3 w0 w2 h0 n0 O0 HE_a1 HF_a1_elementData HF_a1_size HE_w0 HV_w0 HI_el0 HI_el1 HI_el2 HI_el3 Mi__Ljava_lang_Object_) hZ (hw _ (List.mem_of_getElem? (i := 99) rfl)) (hw _ (List.mem_of_getElem? (i := 98) rfl)) (by decide) (by decide)) (g := (mkF m 1 #[.val (.ref a1)] [(.ref a1)])) rfl (by rw [hml]; rfl) (argsL := [(.ref a1)]) (rest := []) (lenOf pd_16 rfl) rfl (by show 2 * 0 + _ ≤ _; exact Nat.le_of_eq rfl) (hb hby d13_1) (fun _ _ => ⟨rfl, e0, (by decide : 0 + 3 ≤ _), (by decide : 0 + 10 ≤ _)⟩)
  dsimp only [Pt.U, Pt.locs, Pt.cells, Pt.slots] at X3 l3 y3 z3 st3 hQ3
  subst l3 y3 z3
  obtain ⟨b4, b5, k6, rfl, N3q, K3, Y3_z0, Y3_z1, Y3_n0, Y3_0, Y3_1, Y3_2, Y3_3, Y3_4, Y3_5⟩ := hQ3
  have N3 := Fr.app N0 N3q
  replace X3 := X3.more (cells' := 3) (slots' := 10) (by decide) (by decide)
  have g_b4 : n0 ≤ b4 := Nat.le_trans (Nat.le_trans Z0 (Keep.refl h0 []).1) Y3_z0
  have sz_b4 : h0.size ≤ b4 := Nat.le_trans (Keep.refl h0 []).1 Y3_z0
  have g_b5 : n0 ≤ b5 := Nat.le_trans (Nat.le_trans Z0 (Keep.refl h0 []).1) Y3_z1
  have sz_b5 : h0.size ≤ b5 := Nat.le_trans (Keep.refl h0 []).1 Y3_z1
  have K7 : Keep h0 T3.heap [] := (Keep.refl h0 []).trans K3 all0
  have O8 : Old Z n0 T3.heap := O0.keep K3 all0
  obtain ⟨fs, hr, hrun, hended, hW, hsame⟩ := X3.leave (v := some (.ref b4)) (fun h => by rw [Bd.returns] at h; cases h)
  refine ⟨_, _, pre0 _ ?_, hrun, hended, _, _, rfl, ?_, ⟨_, rfl⟩, hW, hsame.mono (by decide) (by decide)⟩
  · show Steps p.tables e below (s₁.setTop (mkF m 0 #[.val (.ref a1)] [])) _
    refine XS.aloadN X0.here hx rfl (hb hby d13_0) rfl rfl ?_
    show Steps p.tables e below (s₁.setTop (mkF m 1 #[.val (.ref a1)] [(.ref a1)])) _
    refine st3 _ ?_
    show Steps p.tables e below (T3.setTop (mkF m 4 #[.val (.ref a1)] [(.ref b4)])) _
    exact own_retR X3 hx Bd.returns rfl rfl (hb hby d13_4) hr
  · show Q13c4 Z a1 k0 el0 el1 el2 el3 w0 w2 h0 n0 _ T3.heap _
    exact ⟨b4, b5, k6, rfl, N3, K7, sz_b4, sz_b5, Y3_n0, Y3_0, Y3_1, Y3_2, Y3_3, Y3_4, Y3_5⟩
theorem d12_0 : decode prog_17_method_1_code 0 = .ok (.aload_n 0, 1) := by decide +kernel
theorem d12_1 : decode prog_17_method_1_code 1 = .ok (.invokespecial 1, 3) := by decide +kernel
theorem d12_4 : decode prog_17_method_1_code 4 = .ok (.aload_n 0, 1) := by decide +kernel
theorem d12_5 : decode prog_17_method_1_code 5 = .ok (.aload_n 1, 1) := by decide +kernel
theorem d12_6 : decode prog_17_method_1_code 6 = .ok (.putfield 7, 3) := by decide +kernel
theorem d12_9 : decode prog_17_method_1_code 9 = .ok (.aload_n 0, 1) := by decide +kernel
theorem d12_10 : decode prog_17_method_1_code 10 = .ok (.aload_n 2, 1) := by decide +kernel
theorem d12_11 : decode prog_17_method_1_code 11 = .ok (.invokestatic 13, 3) := by decide +kernel
theorem d12_14 : decode prog_17_method_1_code 14 = .ok (.putfield 19, 3) := by decide +kernel
theorem d12_17 : decode prog_17_method_1_code 17 = .ok (.return_, 1) := by decide +kernel
def Q12t1 (Z : State) (a1 a2 a3 : Addr) (u5 : Value) (w10 : Addr) (v14 : ClassId) (v15 w18 w19 : Addr) (u25 : Value) (h0 : Heap) (n0 : Nat) (v : Option Value) (h : Heap) (L : List Loc) : Prop := ∃ b21 : Addr, v = none ∧ Fr n0 L ∧ Keep h0 h [a1] ∧ h0.size ≤ b21 ∧ Exa Z h a1 "com/example/wattle/wattle/DayAheadPrices" ∧ Fld Z h a1 "com/example/wattle/wattle/DayAheadPrices" "hours" "Ljava/util/List;" (.ref b21) ∧ Fld Z h a1 "com/example/wattle/wattle/DayAheadPrices" "source" "Ljava/lang/String;" (.ref a2) ∧ Exa Z h b21 "java/util/ImmutableCollections$List12" ∧ Fld Z h b21 "java/util/ImmutableCollections$List12" "e0" "Ljava/lang/Object;" (.ref v15) ∧ Fld Z h b21 "java/util/ImmutableCollections$List12" "e1" "Ljava/lang/Object;" (.ref w19)
theorem ef_12 (m : MethodId) (x0 : Addr) (x1 : Addr) (x2 : Addr) : entryFrame m #[(.ref x0), (.ref x1), (.ref x2)] 3 = mkF m 0 #[.val (.ref x0), .val (.ref x1), .val (.ref x2)] [] := by first | (simp [entryFrame, mkF, argsToLocals, Value.category]; done) | rfl
theorem pnc_com_example_wattle_wattle_DayAheadPrices : plainName "com/example/wattle/wattle/DayAheadPrices" = true := by first | (simp [plainName, overriddenIn]; done) | decide +kernel
set_option maxRecDepth 65536 in
set_option maxHeartbeats 40000000 in
theorem rm12t1 (l : Launch) (Z : State) (a0 : Array Value) (hw : ∀ d ∈ tables_1, d.before a0 Z = true) (ws : List Jvm.Cond) (a1 a2 a3 : Addr) (u5 : Value) (w10 : Addr) (v14 : ClassId) (v15 w18 w19 : Addr) (u25 : Value) (h0 : Heap) (n0 : Nat) (O0 : Old Z n0 h0) (HE_a1 : Exa Z h0 a1 "com/example/wattle/wattle/DayAheadPrices") (HF_a1_source : Fld Z h0 a1 "com/example/wattle/wattle/DayAheadPrices" "source" "Ljava/lang/String;" u5) (g_a1 : n0 ≤ a1) (HE_a3 : Exa Z h0 a3 "java/util/ArrayList") (HF_a3_elementData : Fld Z h0 a3 "java/util/ArrayList" "elementData" "[Ljava/lang/Object;" (.ref w10)) (ne_a3_a1 : a3 ≠ a1) (HF_a3_size : Fld Z h0 a3 "java/util/ArrayList" "size" "I" (.int (1 : Int32))) (HE_w10 : Exa Z h0 w10 "[Ljava/lang/Object;") (HV_w10 : Arv Z h0 w10 v14 (.object "java/lang/Object") (10 : Int32) [(.ref v15), .null, .null, .null, .null, .null, .null, .null, .null, .null] .null) (ne_w10_a1 : w10 ≠ a1) (HI_v15_java_lang_Object : Ins Z h0 v15 "java/lang/Object" true) (Mi__Ljava_lang_Object_ : own_Mir Z "[Ljava/lang/Object;" w18) (S_EMPTY : Sta Z Z.heap "java/util/ImmutableCollections" "EMPTY" "Ljava/lang/Object;" (.ref w19)) (HF_a1_hours : Fld Z h0 a1 "com/example/wattle/wattle/DayAheadPrices" "hours" "Ljava/util/List;" u25) :
    MetFree l (⟨"com/example/wattle/wattle/DayAheadPrices", "<init>", "(Ljava/lang/String;Ljava/util/List;)V"⟩ : MethodName) (head1 (Jvm.Cond.code (⟨"com/example/wattle/wattle/DayAheadPrices", "<init>", "(Ljava/lang/String;Ljava/util/List;)V"⟩ : MethodName) prog_17_method_1_code 3 none :: ws) ({ frames := 8, cells := 2, slots := 3, locals := 101 } : Room)) (fun a U => a = #[(.ref a1), (.ref a2), (.ref a3)] ∧ Z.Warmed39 U.vm ∧ U.heap = h0) (fun _ _ _ _ _ => True) (fun _ U o U' => ∃ v L, o = .returned v ∧ Q12t1 Z a1 a2 a3 u5 w10 v14 v15 w18 w19 u25 h0 n0 v U'.heap L ∧ FrameEnd U o U' L ({ frames := 8, cells := 2, slots := 3, locals := 101 } : Room).cells ({ frames := 8, cells := 2, slots := 3, locals := 101 } : Room).slots) := by
  refine MetFree.of_bodySF (plainFor_of_name pnc_com_example_wattle_wattle_DayAheadPrices) hisR ?_
  intro p e s m args below meth c s₁ Bd hml0 hP hK
  obtain ⟨rfl, hZ, hh⟩ := hP
  have hx := Bd.exec
  have hby := Bd.bytes
  have hml : c.maxLocals = 3 := hml0
  have hown : s.vm.findClass "com/example/wattle/wattle/DayAheadPrices" = some m.cls := findClass_of_methodNamed Bd.named
  have hnm := (name_of_methodNamed Bd.named Bd.method).1
  have X0 : Stand p l e ({ frames := 8, cells := 2, slots := 3, locals := 101 } : Room) s m #[(.ref a1), (.ref a2), (.ref a3)] below meth c s₁ [] 0 0 := Stand.of_body Bd
  have e0 : s₁.heap = h0 := by rw [← hh, Bd.state]; rfl
  have N0 := Fr.nil n0
  have Z0 : n0 ≤ h0.size := O0.1 ▸ O0.2.1
  have pre0 : ∀ t, Steps p.tables e below (s₁.setTop (mkF m 0 #[.val (.ref a1), .val (.ref a2), .val (.ref a3)] [])) t → Steps p.tables e below (s₁.setTop (entryFrame m #[(.ref a1), (.ref a2), (.ref a3)] 3)) t := fun t k => castTop (ef_12 m a1 a2 a3) k
  obtain ⟨T4, X4, e4, st4⟩ := initO X0 hx hZ hown (hw _ (List.mem_of_getElem? (i := 89) rfl)) (hw _ (List.mem_of_getElem? (i := 13) rfl)) (hw _ (List.mem_of_getElem? (i := 14) rfl)) e0 (g := (mkF m 1 #[.val (.ref a1), .val (.ref a2), .val (.ref a3)] [(.ref a1)])) rfl (by rw [hml]; rfl) rfl (hb hby d12_1) (by decide) (W := 0) (by show 2 * 0 + _ ≤ _; exact Nat.le_of_eq rfl) (by decide)
  obtain ⟨T6, h6, X6, e6, W6, st6⟩ := putF X4 hx hZ hown (host := "") (Or.inl (hw _ (List.mem_of_getElem? (i := 90) rfl))) Via.refl e4 HF_a1_source HE_a1 (Or.inr ⟨(hw _ (List.mem_of_getElem? (i := 91) rfl)), rfl, hnm⟩) (hw _ (List.mem_of_getElem? (i := 76) rfl)) (ty := (.object "java/lang/String")) (by decide) rfl rfl (g := (mkF m 6 #[.val (.ref a1), .val (.ref a2), .val (.ref a3)] [(.ref a2), (.ref a1)])) rfl rfl (hb hby d12_6)
  have N6 := Fr.snoc X6 N0 g_a1
  have K7 : Keep h0 h6 [a1] := (Keep.refl h0 [a1]).wr W6 (Or.inl (List.mem_of_getElem? (i := 0) rfl))
  have O8 : Old Z n0 h6 := O0.wr W6 g_a1
  have Fw6 : Fld Z h6 a1 "com/example/wattle/wattle/DayAheadPrices" "source" "Ljava/lang/String;" (.ref a2) := HF_a1_source.same W6
  have f9 := (HE_a3.wr W6)
  have f11 := (HF_a3_elementData.other W6 (Or.inl ne_a3_a1))
  have f12 := (HF_a3_size.other W6 (Or.inl ne_a3_a1))
  have f13 := (HE_w10.wr W6)
  have f16 := (HV_w10.other W6 ne_w10_a1)
  have f17 := (HI_v15_java_lang_Object.wr W6)
  obtain ⟨vr20, _, ⟨T20, L20, k20, n20⟩, -, X20, ⟨Lc20, hQ20, l20, y20, z20⟩, st20⟩ := Jvm.LawKit.callS X6 hx (y := (⟨"java/util/List", "copyOf", "(Ljava/util/Collection;)Ljava/util/List;"⟩ : MethodName)) hown (mvT hZ (hw _ (List.mem_of_getElem? (i := 92) rfl))) (mvT hZ (hw _ (List.mem_of_getElem? (i := 93) rfl))) (mvT hZ (hw _ (List.mem_of_getElem? (i := 94) rfl))) (mvT hZ (hw _ (List.mem_of_getElem? (i := 95) rfl))) (by decide) (backOf (W := 1) (rm13c1 l Z a0 hw [] a3 v14 v15 w10 w18 w19 h6 n0 O8 f9 f11 f12 f13 f16 f17 Mi__Ljava_lang_Object_ S_EMPTY) hZ (hw _ (List.mem_of_getElem? (i := 95) rfl)) (hw _ (List.mem_of_getElem? (i := 94) rfl)) (by decide) (by decide)) (g := (mkF m 11 #[.val (.ref a1), .val (.ref a2), .val (.ref a3)] [(.ref a3), (.ref a1)])) rfl (by rw [hml]; rfl) (argsL := [(.ref a3)]) (rest := [(.ref a1)]) (lenOf pd_16 rfl) rfl (by show 2 * 0 + _ ≤ _; exact Nat.le_of_eq rfl) (hb hby d12_11) (fun _ _ => ⟨rfl, e6, (by decide : 0 + 2 ≤ _), (by decide : 0 + 3 ≤ _)⟩)
  dsimp only [Pt.U, Pt.locs, Pt.cells, Pt.slots] at X20 l20 y20 z20 st20 hQ20
  subst l20 y20 z20
  obtain ⟨b21, rfl, N20q, K20, Y20_z0, Y20_0, Y20_1, Y20_2⟩ := hQ20
  have N20 := Fr.app N6 N20q
  replace X20 := X20.more (cells' := 2) (slots' := 3) (by decide) (by decide)
  have g_b21 : n0 ≤ b21 := Nat.le_trans (Nat.le_trans Z0 K7.1) Y20_z0
  have sz_b21 : h0.size ≤ b21 := Nat.le_trans K7.1 Y20_z0
  have K22 : Keep h0 T20.heap [a1] := K7.trans K20 all0
  have O23 : Old Z n0 T20.heap := O8.keep K20 all0
  have f24 := ((HE_a1.wr W6).keep K20)
  have f26 := ((HF_a1_hours.other W6 (Or.inr (slot_ne (Or.inr (hw _ (List.mem_of_getElem? (i := 179) rfl))) (Or.inr (hw _ (List.mem_of_getElem? (i := 91) rfl))) (by decide) (t := (.object "java/util/List")) (t' := (.object "java/lang/String")) (by decide) (by decide)))).keep K20 nin0)
  obtain ⟨T27, h27, X27, e27, W27, st27⟩ := putF X20 hx hZ hown (host := "") (Or.inl (hw _ (List.mem_of_getElem? (i := 178) rfl))) Via.refl rfl f26 f24 (Or.inr ⟨(hw _ (List.mem_of_getElem? (i := 179) rfl)), rfl, hnm⟩) (hw _ (List.mem_of_getElem? (i := 76) rfl)) (ty := (.object "java/util/List")) (by decide) rfl rfl (g := (mkF m 14 #[.val (.ref a1), .val (.ref a2), .val (.ref a3)] [(.ref b21), (.ref a1)])) rfl rfl (hb hby d12_14)
  have N27 := Fr.snoc X27 N20 g_a1
  have K28 : Keep h0 h27 [a1] := K22.wr W27 (Or.inl (List.mem_of_getElem? (i := 0) rfl))
  have O29 : Old Z n0 h27 := O23.wr W27 g_a1
  have Fw27 : Fld Z h27 a1 "com/example/wattle/wattle/DayAheadPrices" "hours" "Ljava/util/List;" (.ref b21) := f26.same W27
  have f30 := (f24.wr W27)
  have f31 := ((Fw6.keep K20 nin0).other W27 (Or.inr (slot_ne (Or.inr (hw _ (List.mem_of_getElem? (i := 91) rfl))) (Or.inr (hw _ (List.mem_of_getElem? (i := 179) rfl))) (by decide) (t := (.object "java/lang/String")) (t' := (.object "java/util/List")) (by decide) (by decide))))
  have f32 := (Y20_0.wr W27)
  have f33 := (Y20_1.other W27 (Or.inl (Ne.symm (Nat.ne_of_lt (Nat.lt_of_lt_of_le (Nat.lt_of_lt_of_le HE_a1.lt (Keep.of_wr W6).1) Y20_z0)))))
  have f34 := (Y20_2.other W27 (Or.inl (Ne.symm (Nat.ne_of_lt (Nat.lt_of_lt_of_le (Nat.lt_of_lt_of_le HE_a1.lt (Keep.of_wr W6).1) Y20_z0)))))
  obtain ⟨fs, hr, hrun, hended, hW, hsame⟩ := X27.leave (v := none) (fun _ => rfl)
  refine ⟨_, _, pre0 _ ?_, hrun, hended, _, _, rfl, ?_, ⟨_, rfl⟩, hW, hsame.mono (by decide) (by decide)⟩
  · show Steps p.tables e below (s₁.setTop (mkF m 0 #[.val (.ref a1), .val (.ref a2), .val (.ref a3)] [])) _
    refine XS.aloadN X0.here hx rfl (hb hby d12_0) rfl rfl ?_
    show Steps p.tables e below (s₁.setTop (mkF m 1 #[.val (.ref a1), .val (.ref a2), .val (.ref a3)] [(.ref a1)])) _
    refine st4 _ ?_
    show Steps p.tables e below (T4.setTop (mkF m 4 #[.val (.ref a1), .val (.ref a2), .val (.ref a3)] [])) _
    refine XS.aloadN X4.here hx rfl (hb hby d12_4) rfl rfl ?_
    show Steps p.tables e below (T4.setTop (mkF m 5 #[.val (.ref a1), .val (.ref a2), .val (.ref a3)] [(.ref a1)])) _
    refine XS.aloadN X4.here hx rfl (hb hby d12_5) rfl rfl ?_
    show Steps p.tables e below (T4.setTop (mkF m 6 #[.val (.ref a1), .val (.ref a2), .val (.ref a3)] [(.ref a2), (.ref a1)])) _
    refine st6 _ ?_
    show Steps p.tables e below (T6.setTop (mkF m 9 #[.val (.ref a1), .val (.ref a2), .val (.ref a3)] [])) _
    refine XS.aloadN X6.here hx rfl (hb hby d12_9) rfl rfl ?_
    show Steps p.tables e below (T6.setTop (mkF m 10 #[.val (.ref a1), .val (.ref a2), .val (.ref a3)] [(.ref a1)])) _
    refine XS.aloadN X6.here hx rfl (hb hby d12_10) rfl rfl ?_
    show Steps p.tables e below (T6.setTop (mkF m 11 #[.val (.ref a1), .val (.ref a2), .val (.ref a3)] [(.ref a3), (.ref a1)])) _
    refine st20 _ ?_
    show Steps p.tables e below (T20.setTop (mkF m 14 #[.val (.ref a1), .val (.ref a2), .val (.ref a3)] [(.ref b21), (.ref a1)])) _
    refine st27 _ ?_
    show Steps p.tables e below (T27.setTop (mkF m 17 #[.val (.ref a1), .val (.ref a2), .val (.ref a3)] [])) _
    exact X27.returnOut hx Bd.returns (hb hby d12_17) hr
  · show Q12t1 Z a1 a2 a3 u5 w10 v14 v15 w18 w19 u25 h0 n0 _ T27.heap _
    rw [e27]
    exact ⟨b21, rfl, N27, K28, sz_b21, f30, Fw27, f31, f32, f33, f34⟩
def Q12t2 (Z : State) (a1 a2 a3 : Addr) (u5 : Value) (w10 : Addr) (v14 : ClassId) (v15 v16 w20 : Addr) (u26 : Value) (h0 : Heap) (n0 : Nat) (v : Option Value) (h : Heap) (L : List Loc) : Prop := ∃ b22 : Addr, v = none ∧ Fr n0 L ∧ Keep h0 h [a1] ∧ h0.size ≤ b22 ∧ Exa Z h a1 "com/example/wattle/wattle/DayAheadPrices" ∧ Fld Z h a1 "com/example/wattle/wattle/DayAheadPrices" "hours" "Ljava/util/List;" (.ref b22) ∧ Fld Z h a1 "com/example/wattle/wattle/DayAheadPrices" "source" "Ljava/lang/String;" (.ref a2) ∧ Exa Z h b22 "java/util/ImmutableCollections$List12" ∧ Fld Z h b22 "java/util/ImmutableCollections$List12" "e0" "Ljava/lang/Object;" (.ref v15) ∧ Fld Z h b22 "java/util/ImmutableCollections$List12" "e1" "Ljava/lang/Object;" (.ref v16)
set_option maxRecDepth 65536 in
set_option maxHeartbeats 40000000 in
theorem rm12t2 (l : Launch) (Z : State) (a0 : Array Value) (hw : ∀ d ∈ tables_1, d.before a0 Z = true) (ws : List Jvm.Cond) (a1 a2 a3 : Addr) (u5 : Value) (w10 : Addr) (v14 : ClassId) (v15 v16 w20 : Addr) (u26 : Value) (h0 : Heap) (n0 : Nat) (O0 : Old Z n0 h0) (HE_a1 : Exa Z h0 a1 "com/example/wattle/wattle/DayAheadPrices") (HF_a1_source : Fld Z h0 a1 "com/example/wattle/wattle/DayAheadPrices" "source" "Ljava/lang/String;" u5) (g_a1 : n0 ≤ a1) (HE_a3 : Exa Z h0 a3 "java/util/ArrayList") (HF_a3_elementData : Fld Z h0 a3 "java/util/ArrayList" "elementData" "[Ljava/lang/Object;" (.ref w10)) (ne_a3_a1 : a3 ≠ a1) (HF_a3_size : Fld Z h0 a3 "java/util/ArrayList" "size" "I" (.int (2 : Int32))) (HE_w10 : Exa Z h0 w10 "[Ljava/lang/Object;") (HV_w10 : Arv Z h0 w10 v14 (.object "java/lang/Object") (10 : Int32) [(.ref v15), (.ref v16), .null, .null, .null, .null, .null, .null, .null, .null] .null) (ne_w10_a1 : w10 ≠ a1) (HI_v15_java_lang_Object : Ins Z h0 v15 "java/lang/Object" true) (HI_v16_java_lang_Object : Ins Z h0 v16 "java/lang/Object" true) (Mi__Ljava_lang_Object_ : own_Mir Z "[Ljava/lang/Object;" w20) (HF_a1_hours : Fld Z h0 a1 "com/example/wattle/wattle/DayAheadPrices" "hours" "Ljava/util/List;" u26) :
    MetFree l (⟨"com/example/wattle/wattle/DayAheadPrices", "<init>", "(Ljava/lang/String;Ljava/util/List;)V"⟩ : MethodName) (head1 (Jvm.Cond.code (⟨"com/example/wattle/wattle/DayAheadPrices", "<init>", "(Ljava/lang/String;Ljava/util/List;)V"⟩ : MethodName) prog_17_method_1_code 3 none :: ws) ({ frames := 8, cells := 2, slots := 4, locals := 102 } : Room)) (fun a U => a = #[(.ref a1), (.ref a2), (.ref a3)] ∧ Z.Warmed39 U.vm ∧ U.heap = h0) (fun _ _ _ _ _ => True) (fun _ U o U' => ∃ v L, o = .returned v ∧ Q12t2 Z a1 a2 a3 u5 w10 v14 v15 v16 w20 u26 h0 n0 v U'.heap L ∧ FrameEnd U o U' L ({ frames := 8, cells := 2, slots := 4, locals := 102 } : Room).cells ({ frames := 8, cells := 2, slots := 4, locals := 102 } : Room).slots) := by
  refine MetFree.of_bodySF (plainFor_of_name pnc_com_example_wattle_wattle_DayAheadPrices) hisR ?_
  intro p e s m args below meth c s₁ Bd hml0 hP hK
  obtain ⟨rfl, hZ, hh⟩ := hP
  have hx := Bd.exec
  have hby := Bd.bytes
  have hml : c.maxLocals = 3 := hml0
  have hown : s.vm.findClass "com/example/wattle/wattle/DayAheadPrices" = some m.cls := findClass_of_methodNamed Bd.named
  have hnm := (name_of_methodNamed Bd.named Bd.method).1
  have X0 : Stand p l e ({ frames := 8, cells := 2, slots := 4, locals := 102 } : Room) s m #[(.ref a1), (.ref a2), (.ref a3)] below meth c s₁ [] 0 0 := Stand.of_body Bd
  have e0 : s₁.heap = h0 := by rw [← hh, Bd.state]; rfl
  have N0 := Fr.nil n0
  have Z0 : n0 ≤ h0.size := O0.1 ▸ O0.2.1
  have pre0 : ∀ t, Steps p.tables e below (s₁.setTop (mkF m 0 #[.val (.ref a1), .val (.ref a2), .val (.ref a3)] [])) t → Steps p.tables e below (s₁.setTop (entryFrame m #[(.ref a1), (.ref a2), (.ref a3)] 3)) t := fun t k => castTop (ef_12 m a1 a2 a3) k
  obtain ⟨T4, X4, e4, st4⟩ := initO X0 hx hZ hown (hw _ (List.mem_of_getElem? (i := 89) rfl)) (hw _ (List.mem_of_getElem? (i := 13) rfl)) (hw _ (List.mem_of_getElem? (i := 14) rfl)) e0 (g := (mkF m 1 #[.val (.ref a1), .val (.ref a2), .val (.ref a3)] [(.ref a1)])) rfl (by rw [hml]; rfl) rfl (hb hby d12_1) (by decide) (W := 0) (by show 2 * 0 + _ ≤ _; exact Nat.le_of_eq rfl) (by decide)
  obtain ⟨T6, h6, X6, e6, W6, st6⟩ := putF X4 hx hZ hown (host := "") (Or.inl (hw _ (List.mem_of_getElem? (i := 90) rfl))) Via.refl e4 HF_a1_source HE_a1 (Or.inr ⟨(hw _ (List.mem_of_getElem? (i := 91) rfl)), rfl, hnm⟩) (hw _ (List.mem_of_getElem? (i := 76) rfl)) (ty := (.object "java/lang/String")) (by decide) rfl rfl (g := (mkF m 6 #[.val (.ref a1), .val (.ref a2), .val (.ref a3)] [(.ref a2), (.ref a1)])) rfl rfl (hb hby d12_6)
  have N6 := Fr.snoc X6 N0 g_a1
  have K7 : Keep h0 h6 [a1] := (Keep.refl h0 [a1]).wr W6 (Or.inl (List.mem_of_getElem? (i := 0) rfl))
  have O8 : Old Z n0 h6 := O0.wr W6 g_a1
  have Fw6 : Fld Z h6 a1 "com/example/wattle/wattle/DayAheadPrices" "source" "Ljava/lang/String;" (.ref a2) := HF_a1_source.same W6
  have f9 := (HE_a3.wr W6)
  have f11 := (HF_a3_elementData.other W6 (Or.inl ne_a3_a1))
  have f12 := (HF_a3_size.other W6 (Or.inl ne_a3_a1))
  have f13 := (HE_w10.wr W6)
  have f17 := (HV_w10.other W6 ne_w10_a1)
  have f18 := (HI_v15_java_lang_Object.wr W6)
  have f19 := (HI_v16_java_lang_Object.wr W6)
  obtain ⟨vr21, _, ⟨T21, L21, k21, n21⟩, -, X21, ⟨Lc21, hQ21, l21, y21, z21⟩, st21⟩ := Jvm.LawKit.callS X6 hx (y := (⟨"java/util/List", "copyOf", "(Ljava/util/Collection;)Ljava/util/List;"⟩ : MethodName)) hown (mvT hZ (hw _ (List.mem_of_getElem? (i := 92) rfl))) (mvT hZ (hw _ (List.mem_of_getElem? (i := 93) rfl))) (mvT hZ (hw _ (List.mem_of_getElem? (i := 94) rfl))) (mvT hZ (hw _ (List.mem_of_getElem? (i := 95) rfl))) (by decide) (backOf (W := 1) (rm13c2 l Z a0 hw [] a3 v14 v15 v16 w10 w20 h6 n0 O8 f9 f11 f12 f13 f17 f18 f19 Mi__Ljava_lang_Object_) hZ (hw _ (List.mem_of_getElem? (i := 95) rfl)) (hw _ (List.mem_of_getElem? (i := 94) rfl)) (by decide) (by decide)) (g := (mkF m 11 #[.val (.ref a1), .val (.ref a2), .val (.ref a3)] [(.ref a3), (.ref a1)])) rfl (by rw [hml]; rfl) (argsL := [(.ref a3)]) (rest := [(.ref a1)]) (lenOf pd_16 rfl) rfl (by show 2 * 0 + _ ≤ _; exact Nat.le_of_eq rfl) (hb hby d12_11) (fun _ _ => ⟨rfl, e6, (by decide : 0 + 2 ≤ _), (by decide : 0 + 4 ≤ _)⟩)
  dsimp only [Pt.U, Pt.locs, Pt.cells, Pt.slots] at X21 l21 y21 z21 st21 hQ21
  subst l21 y21 z21
  obtain ⟨b22, rfl, N21q, K21, Y21_z0, Y21_0, Y21_1, Y21_2⟩ := hQ21
  have N21 := Fr.app N6 N21q
  replace X21 := X21.more (cells' := 2) (slots' := 4) (by decide) (by decide)
  have g_b22 : n0 ≤ b22 := Nat.le_trans (Nat.le_trans Z0 K7.1) Y21_z0
  have sz_b22 : h0.size ≤ b22 := Nat.le_trans K7.1 Y21_z0
  have K23 : Keep h0 T21.heap [a1] := K7.trans K21 all0
  have O24 : Old Z n0 T21.heap := O8.keep K21 all0
  have f25 := ((HE_a1.wr W6).keep K21)
  have f27 := ((HF_a1_hours.other W6 (Or.inr (slot_ne (Or.inr (hw _ (List.mem_of_getElem? (i := 179) rfl))) (Or.inr (hw _ (List.mem_of_getElem? (i := 91) rfl))) (by decide) (t := (.object "java/util/List")) (t' := (.object "java/lang/String")) (by decide) (by decide)))).keep K21 nin0)
  obtain ⟨T28, h28, X28, e28, W28, st28⟩ := putF X21 hx hZ hown (host := "") (Or.inl (hw _ (List.mem_of_getElem? (i := 178) rfl))) Via.refl rfl f27 f25 (Or.inr ⟨(hw _ (List.mem_of_getElem? (i := 179) rfl)), rfl, hnm⟩) (hw _ (List.mem_of_getElem? (i := 76) rfl)) (ty := (.object "java/util/List")) (by decide) rfl rfl (g := (mkF m 14 #[.val (.ref a1), .val (.ref a2), .val (.ref a3)] [(.ref b22), (.ref a1)])) rfl rfl (hb hby d12_14)
  have N28 := Fr.snoc X28 N21 g_a1
  have K29 : Keep h0 h28 [a1] := K23.wr W28 (Or.inl (List.mem_of_getElem? (i := 0) rfl))
  have O30 : Old Z n0 h28 := O24.wr W28 g_a1
  have Fw28 : Fld Z h28 a1 "com/example/wattle/wattle/DayAheadPrices" "hours" "Ljava/util/List;" (.ref b22) := f27.same W28
  have f31 := (f25.wr W28)
  have f32 := ((Fw6.keep K21 nin0).other W28 (Or.inr (slot_ne (Or.inr (hw _ (List.mem_of_getElem? (i := 91) rfl))) (Or.inr (hw _ (List.mem_of_getElem? (i := 179) rfl))) (by decide) (t := (.object "java/lang/String")) (t' := (.object "java/util/List")) (by decide) (by decide))))
  have f33 := (Y21_0.wr W28)
  have f34 := (Y21_1.other W28 (Or.inl (Ne.symm (Nat.ne_of_lt (Nat.lt_of_lt_of_le (Nat.lt_of_lt_of_le HE_a1.lt (Keep.of_wr W6).1) Y21_z0)))))
  have f35 := (Y21_2.other W28 (Or.inl (Ne.symm (Nat.ne_of_lt (Nat.lt_of_lt_of_le (Nat.lt_of_lt_of_le HE_a1.lt (Keep.of_wr W6).1) Y21_z0)))))
  obtain ⟨fs, hr, hrun, hended, hW, hsame⟩ := X28.leave (v := none) (fun _ => rfl)
  refine ⟨_, _, pre0 _ ?_, hrun, hended, _, _, rfl, ?_, ⟨_, rfl⟩, hW, hsame.mono (by decide) (by decide)⟩
  · show Steps p.tables e below (s₁.setTop (mkF m 0 #[.val (.ref a1), .val (.ref a2), .val (.ref a3)] [])) _
    refine XS.aloadN X0.here hx rfl (hb hby d12_0) rfl rfl ?_
    show Steps p.tables e below (s₁.setTop (mkF m 1 #[.val (.ref a1), .val (.ref a2), .val (.ref a3)] [(.ref a1)])) _
    refine st4 _ ?_
    show Steps p.tables e below (T4.setTop (mkF m 4 #[.val (.ref a1), .val (.ref a2), .val (.ref a3)] [])) _
    refine XS.aloadN X4.here hx rfl (hb hby d12_4) rfl rfl ?_
    show Steps p.tables e below (T4.setTop (mkF m 5 #[.val (.ref a1), .val (.ref a2), .val (.ref a3)] [(.ref a1)])) _
    refine XS.aloadN X4.here hx rfl (hb hby d12_5) rfl rfl ?_
    show Steps p.tables e below (T4.setTop (mkF m 6 #[.val (.ref a1), .val (.ref a2), .val (.ref a3)] [(.ref a2), (.ref a1)])) _
    refine st6 _ ?_
    show Steps p.tables e below (T6.setTop (mkF m 9 #[.val (.ref a1), .val (.ref a2), .val (.ref a3)] [])) _
    refine XS.aloadN X6.here hx rfl (hb hby d12_9) rfl rfl ?_
    show Steps p.tables e below (T6.setTop (mkF m 10 #[.val (.ref a1), .val (.ref a2), .val (.ref a3)] [(.ref a1)])) _
    refine XS.aloadN X6.here hx rfl (hb hby d12_10) rfl rfl ?_
    show Steps p.tables e below (T6.setTop (mkF m 11 #[.val (.ref a1), .val (.ref a2), .val (.ref a3)] [(.ref a3), (.ref a1)])) _
    refine st21 _ ?_
    show Steps p.tables e below (T21.setTop (mkF m 14 #[.val (.ref a1), .val (.ref a2), .val (.ref a3)] [(.ref b22), (.ref a1)])) _
    refine st28 _ ?_
    show Steps p.tables e below (T28.setTop (mkF m 17 #[.val (.ref a1), .val (.ref a2), .val (.ref a3)] [])) _
    exact X28.returnOut hx Bd.returns (hb hby d12_17) hr
  · show Q12t2 Z a1 a2 a3 u5 w10 v14 v15 v16 w20 u26 h0 n0 _ T28.heap _
    rw [e28]
    exact ⟨b22, rfl, N28, K29, sz_b22, f31, Fw28, f32, f33, f34, f35⟩
def Q12t3 (Z : State) (a1 a2 a3 : Addr) (u5 : Value) (w10 : Addr) (v14 : ClassId) (v15 v16 v17 w22 : Addr) (u30 : Value) (h0 : Heap) (n0 : Nat) (v : Option Value) (h : Heap) (L : List Loc) : Prop := ∃ b24 b25 : Addr, ∃ k26 : ClassId, v = none ∧ Fr n0 L ∧ Keep h0 h [a1] ∧ h0.size ≤ b24 ∧ h0.size ≤ b25 ∧ b24 ≠ b25 ∧ Exa Z h a1 "com/example/wattle/wattle/DayAheadPrices" ∧ Fld Z h a1 "com/example/wattle/wattle/DayAheadPrices" "hours" "Ljava/util/List;" (.ref b24) ∧ Fld Z h a1 "com/example/wattle/wattle/DayAheadPrices" "source" "Ljava/lang/String;" (.ref a2) ∧ Exa Z h b24 "java/util/ImmutableCollections$ListN" ∧ Fld Z h b24 "java/util/ImmutableCollections$ListN" "allowNulls" "Z" (.int ((0 : Int32) &&& 1)) ∧ Fld Z h b24 "java/util/ImmutableCollections$ListN" "elements" "[Ljava/lang/Object;" (.ref b25) ∧ Exa Z h b25 "[Ljava/lang/Object;" ∧ Arv Z h b25 k26 (.object "java/lang/Object") (3 : Int32) [(.ref v15), (.ref v16), (.ref v17)] .null ∧ Ovr Z k26 "java/lang/Object"
set_option maxRecDepth 65536 in
set_option maxHeartbeats 40000000 in
theorem rm12t3 (l : Launch) (Z : State) (a0 : Array Value) (hw : ∀ d ∈ tables_1, d.before a0 Z = true) (ws : List Jvm.Cond) (a1 a2 a3 : Addr) (u5 : Value) (w10 : Addr) (v14 : ClassId) (v15 v16 v17 w22 : Addr) (u30 : Value) (h0 : Heap) (n0 : Nat) (O0 : Old Z n0 h0) (HE_a1 : Exa Z h0 a1 "com/example/wattle/wattle/DayAheadPrices") (HF_a1_source : Fld Z h0 a1 "com/example/wattle/wattle/DayAheadPrices" "source" "Ljava/lang/String;" u5) (g_a1 : n0 ≤ a1) (HE_a3 : Exa Z h0 a3 "java/util/ArrayList") (HF_a3_elementData : Fld Z h0 a3 "java/util/ArrayList" "elementData" "[Ljava/lang/Object;" (.ref w10)) (ne_a3_a1 : a3 ≠ a1) (HF_a3_size : Fld Z h0 a3 "java/util/ArrayList" "size" "I" (.int (3 : Int32))) (HE_w10 : Exa Z h0 w10 "[Ljava/lang/Object;") (HV_w10 : Arv Z h0 w10 v14 (.object "java/lang/Object") (10 : Int32) [(.ref v15), (.ref v16), (.ref v17), .null, .null, .null, .null, .null, .null, .null] .null) (ne_w10_a1 : w10 ≠ a1) (HI_v15_java_lang_Object : Ins Z h0 v15 "java/lang/Object" true) (HI_v16_java_lang_Object : Ins Z h0 v16 "java/lang/Object" true) (HI_v17_java_lang_Object : Ins Z h0 v17 "java/lang/Object" true) (Mi__Ljava_lang_Object_ : own_Mir Z "[Ljava/lang/Object;" w22) (HF_a1_hours : Fld Z h0 a1 "com/example/wattle/wattle/DayAheadPrices" "hours" "Ljava/util/List;" u30) :
    MetFree l (⟨"com/example/wattle/wattle/DayAheadPrices", "<init>", "(Ljava/lang/String;Ljava/util/List;)V"⟩ : MethodName) (head1 (Jvm.Cond.code (⟨"com/example/wattle/wattle/DayAheadPrices", "<init>", "(Ljava/lang/String;Ljava/util/List;)V"⟩ : MethodName) prog_17_method_1_code 3 none :: ws) ({ frames := 9, cells := 3, slots := 8, locals := 116 } : Room)) (fun a U => a = #[(.ref a1), (.ref a2), (.ref a3)] ∧ Z.Warmed39 U.vm ∧ U.heap = h0) (fun _ _ _ _ _ => True) (fun _ U o U' => ∃ v L, o = .returned v ∧ Q12t3 Z a1 a2 a3 u5 w10 v14 v15 v16 v17 w22 u30 h0 n0 v U'.heap L ∧ FrameEnd U o U' L ({ frames := 9, cells := 3, slots := 8, locals := 116 } : Room).cells ({ frames := 9, cells := 3, slots := 8, locals := 116 } : Room).slots) := by
  refine MetFree.of_bodySF (plainFor_of_name pnc_com_example_wattle_wattle_DayAheadPrices) hisR ?_
  intro p e s m args below meth c s₁ Bd hml0 hP hK
  obtain ⟨rfl, hZ, hh⟩ := hP
  have hx := Bd.exec
  have hby := Bd.bytes
  have hml : c.maxLocals = 3 := hml0
  have hown : s.vm.findClass "com/example/wattle/wattle/DayAheadPrices" = some m.cls := findClass_of_methodNamed Bd.named
  have hnm := (name_of_methodNamed Bd.named Bd.method).1
  have X0 : Stand p l e ({ frames := 9, cells := 3, slots := 8, locals := 116 } : Room) s m #[(.ref a1), (.ref a2), (.ref a3)] below meth c s₁ [] 0 0 := Stand.of_body Bd
  have e0 : s₁.heap = h0 := by rw [← hh, Bd.state]; rfl
  have N0 := Fr.nil n0
  have Z0 : n0 ≤ h0.size := O0.1 ▸ O0.2.1
  have pre0 : ∀ t, Steps p.tables e below (s₁.setTop (mkF m 0 #[.val (.ref a1), .val (.ref a2), .val (.ref a3)] [])) t → Steps p.tables e below (s₁.setTop (entryFrame m #[(.ref a1), (.ref a2), (.ref a3)] 3)) t := fun t k => castTop (ef_12 m a1 a2 a3) k
  obtain ⟨T4, X4, e4, st4⟩ := initO X0 hx hZ hown (hw _ (List.mem_of_getElem? (i := 89) rfl)) (hw _ (List.mem_of_getElem? (i := 13) rfl)) (hw _ (List.mem_of_getElem? (i := 14) rfl)) e0 (g := (mkF m 1 #[.val (.ref a1), .val (.ref a2), .val (.ref a3)] [(.ref a1)])) rfl (by rw [hml]; rfl) rfl (hb hby d12_1) (by decide) (W := 0) (by show 2 * 0 + _ ≤ _; exact Nat.le_of_eq rfl) (by decide)
  obtain ⟨T6, h6, X6, e6, W6, st6⟩ := putF X4 hx hZ hown (host := "") (Or.inl (hw _ (List.mem_of_getElem? (i := 90) rfl))) Via.refl e4 HF_a1_source HE_a1 (Or.inr ⟨(hw _ (List.mem_of_getElem? (i := 91) rfl)), rfl, hnm⟩) (hw _ (List.mem_of_getElem? (i := 76) rfl)) (ty := (.object "java/lang/String")) (by decide) rfl rfl (g := (mkF m 6 #[.val (.ref a1), .val (.ref a2), .val (.ref a3)] [(.ref a2), (.ref a1)])) rfl rfl (hb hby d12_6)
  have N6 := Fr.snoc X6 N0 g_a1
  have K7 : Keep h0 h6 [a1] := (Keep.refl h0 [a1]).wr W6 (Or.inl (List.mem_of_getElem? (i := 0) rfl))
  have O8 : Old Z n0 h6 := O0.wr W6 g_a1
  have Fw6 : Fld Z h6 a1 "com/example/wattle/wattle/DayAheadPrices" "source" "Ljava/lang/String;" (.ref a2) := HF_a1_source.same W6
  have f9 := (HE_a3.wr W6)
  have f11 := (HF_a3_elementData.other W6 (Or.inl ne_a3_a1))
  have f12 := (HF_a3_size.other W6 (Or.inl ne_a3_a1))
  have f13 := (HE_w10.wr W6)
  have f18 := (HV_w10.other W6 ne_w10_a1)
  have f19 := (HI_v15_java_lang_Object.wr W6)
  have f20 := (HI_v16_java_lang_Object.wr W6)
  have f21 := (HI_v17_java_lang_Object.wr W6)
  obtain ⟨vr23, _, ⟨T23, L23, k23, n23⟩, -, X23, ⟨Lc23, hQ23, l23, y23, z23⟩, st23⟩ := Jvm.LawKit.callS X6 hx (y := (⟨"java/util/List", "copyOf", "(Ljava/util/Collection;)Ljava/util/List;"⟩ : MethodName)) hown (mvT hZ (hw _ (List.mem_of_getElem? (i := 92) rfl))) (mvT hZ (hw _ (List.mem_of_getElem? (i := 93) rfl))) (mvT hZ (hw _ (List.mem_of_getElem? (i := 94) rfl))) (mvT hZ (hw _ (List.mem_of_getElem? (i := 95) rfl))) (by decide) (backOf (W := 1) (rm13c3 l Z a0 hw [] a3 v14 v15 v16 v17 w10 w22 h6 n0 O8 f9 f11 f12 f13 f18 f19 f20 f21 Mi__Ljava_lang_Object_) hZ (hw _ (List.mem_of_getElem? (i := 95) rfl)) (hw _ (List.mem_of_getElem? (i := 94) rfl)) (by decide) (by decide)) (g := (mkF m 11 #[.val (.ref a1), .val (.ref a2), .val (.ref a3)] [(.ref a3), (.ref a1)])) rfl (by rw [hml]; rfl) (argsL := [(.ref a3)]) (rest := [(.ref a1)]) (lenOf pd_16 rfl) rfl (by show 2 * 0 + _ ≤ _; exact Nat.le_of_eq rfl) (hb hby d12_11) (fun _ _ => ⟨rfl, e6, (by decide : 0 + 3 ≤ _), (by decide : 0 + 8 ≤ _)⟩)
  dsimp only [Pt.U, Pt.locs, Pt.cells, Pt.slots] at X23 l23 y23 z23 st23 hQ23
  subst l23 y23 z23
  obtain ⟨b24, b25, k26, rfl, N23q, K23, Y23_z0, Y23_z1, Y23_n0, Y23_0, Y23_1, Y23_2, Y23_3, Y23_4, Y23_5⟩ := hQ23
  have N23 := Fr.app N6 N23q
  replace X23 := X23.more (cells' := 3) (slots' := 8) (by decide) (by decide)
  have g_b24 : n0 ≤ b24 := Nat.le_trans (Nat.le_trans Z0 K7.1) Y23_z0
  have sz_b24 : h0.size ≤ b24 := Nat.le_trans K7.1 Y23_z0
  have g_b25 : n0 ≤ b25 := Nat.le_trans (Nat.le_trans Z0 K7.1) Y23_z1
  have sz_b25 : h0.size ≤ b25 := Nat.le_trans K7.1 Y23_z1
  have K27 : Keep h0 T23.heap [a1] := K7.trans K23 all0
  have O28 : Old Z n0 T23.heap := O8.keep K23 all0
  have f29 := ((HE_a1.wr W6).keep K23)
  have f31 := ((HF_a1_hours.other W6 (Or.inr (slot_ne (Or.inr (hw _ (List.mem_of_getElem? (i := 179) rfl))) (Or.inr (hw _ (List.mem_of_getElem? (i := 91) rfl))) (by decide) (t := (.object "java/util/List")) (t' := (.object "java/lang/String")) (by decide) (by decide)))).keep K23 nin0)
  obtain ⟨T32, h32, X32, e32, W32, st32⟩ := putF X23 hx hZ hown (host := "") (Or.inl (hw _ (List.mem_of_getElem? (i := 178) rfl))) Via.refl rfl f31 f29 (Or.inr ⟨(hw _ (List.mem_of_getElem? (i := 179) rfl)), rfl, hnm⟩) (hw _ (List.mem_of_getElem? (i := 76) rfl)) (ty := (.object "java/util/List")) (by decide) rfl rfl (g := (mkF m 14 #[.val (.ref a1), .val (.ref a2), .val (.ref a3)] [(.ref b24), (.ref a1)])) rfl rfl (hb hby d12_14)
  have N32 := Fr.snoc X32 N23 g_a1
  have K33 : Keep h0 h32 [a1] := K27.wr W32 (Or.inl (List.mem_of_getElem? (i := 0) rfl))
  have O34 : Old Z n0 h32 := O28.wr W32 g_a1
  have Fw32 : Fld Z h32 a1 "com/example/wattle/wattle/DayAheadPrices" "hours" "Ljava/util/List;" (.ref b24) := f31.same W32
  have f35 := (f29.wr W32)
  have f36 := ((Fw6.keep K23 nin0).other W32 (Or.inr (slot_ne (Or.inr (hw _ (List.mem_of_getElem? (i := 91) rfl))) (Or.inr (hw _ (List.mem_of_getElem? (i := 179) rfl))) (by decide) (t := (.object "java/lang/String")) (t' := (.object "java/util/List")) (by decide) (by decide))))
  have f37 := (Y23_0.wr W32)
  have f38 := (Y23_1.other W32 (Or.inl (Ne.symm (Nat.ne_of_lt (Nat.lt_of_lt_of_le (Nat.lt_of_lt_of_le HE_a1.lt (Keep.of_wr W6).1) Y23_z0)))))
  have f39 := (Y23_2.other W32 (Or.inl (Ne.symm (Nat.ne_of_lt (Nat.lt_of_lt_of_le (Nat.lt_of_lt_of_le HE_a1.lt (Keep.of_wr W6).1) Y23_z0)))))
  have f40 := (Y23_3.wr W32)
  have f41 := (Y23_4.other W32 (Ne.symm (Nat.ne_of_lt (Nat.lt_of_lt_of_le (Nat.lt_of_lt_of_le HE_a1.lt (Keep.of_wr W6).1) Y23_z1))))
  have f42 := Y23_5
  obtain ⟨fs, hr, hrun, hended, hW, hsame⟩ := X32.leave (v := none) (fun _ => rfl)
  refine ⟨_, _, pre0 _ ?_, hrun, hended, _, _, rfl, ?_, ⟨_, rfl⟩, hW, hsame.mono (by decide) (by decide)⟩
  · show Steps p.tables e below (s₁.setTop (mkF m 0 #[.val (.ref a1), .val (.ref a2), .val (.ref a3)] [])) _
    refine XS.aloadN X0.here hx rfl (hb hby d12_0) rfl rfl ?_
    show Steps p.tables e below (s₁.setTop (mkF m 1 #[.val (.ref a1), .val (.ref a2), .val (.ref a3)] [(.ref a1)])) _
    refine st4 _ ?_
    show Steps p.tables e below (T4.setTop (mkF m 4 #[.val (.ref a1), .val (.ref a2), .val (.ref a3)] [])) _
    refine XS.aloadN X4.here hx rfl (hb hby d12_4) rfl rfl ?_
    show Steps p.tables e below (T4.setTop (mkF m 5 #[.val (.ref a1), .val (.ref a2), .val (.ref a3)] [(.ref a1)])) _
    refine XS.aloadN X4.here hx rfl (hb hby d12_5) rfl rfl ?_
    show Steps p.tables e below (T4.setTop (mkF m 6 #[.val (.ref a1), .val (.ref a2), .val (.ref a3)] [(.ref a2), (.ref a1)])) _
    refine st6 _ ?_
    show Steps p.tables e below (T6.setTop (mkF m 9 #[.val (.ref a1), .val (.ref a2), .val (.ref a3)] [])) _
    refine XS.aloadN X6.here hx rfl (hb hby d12_9) rfl rfl ?_
    show Steps p.tables e below (T6.setTop (mkF m 10 #[.val (.ref a1), .val (.ref a2), .val (.ref a3)] [(.ref a1)])) _
    refine XS.aloadN X6.here hx rfl (hb hby d12_10) rfl rfl ?_
    show Steps p.tables e below (T6.setTop (mkF m 11 #[.val (.ref a1), .val (.ref a2), .val (.ref a3)] [(.ref a3), (.ref a1)])) _
    refine st23 _ ?_
    show Steps p.tables e below (T23.setTop (mkF m 14 #[.val (.ref a1), .val (.ref a2), .val (.ref a3)] [(.ref b24), (.ref a1)])) _
    refine st32 _ ?_
    show Steps p.tables e below (T32.setTop (mkF m 17 #[.val (.ref a1), .val (.ref a2), .val (.ref a3)] [])) _
    exact X32.returnOut hx Bd.returns (hb hby d12_17) hr
  · show Q12t3 Z a1 a2 a3 u5 w10 v14 v15 v16 v17 w22 u30 h0 n0 _ T32.heap _
    rw [e32]
    exact ⟨b24, b25, k26, rfl, N32, K33, sz_b24, sz_b25, Y23_n0, f35, Fw32, f36, f37, f38, f39, f40, f41, f42⟩
def Q12t4 (Z : State) (a1 a2 a3 : Addr) (u5 : Value) (w10 : Addr) (v14 : ClassId) (v15 v16 v17 v18 w24 : Addr) (u32 : Value) (h0 : Heap) (n0 : Nat) (v : Option Value) (h : Heap) (L : List Loc) : Prop := ∃ b26 b27 : Addr, ∃ k28 : ClassId, v = none ∧ Fr n0 L ∧ Keep h0 h [a1] ∧ h0.size ≤ b26 ∧ h0.size ≤ b27 ∧ b26 ≠ b27 ∧ Exa Z h a1 "com/example/wattle/wattle/DayAheadPrices" ∧ Fld Z h a1 "com/example/wattle/wattle/DayAheadPrices" "hours" "Ljava/util/List;" (.ref b26) ∧ Fld Z h a1 "com/example/wattle/wattle/DayAheadPrices" "source" "Ljava/lang/String;" (.ref a2) ∧ Exa Z h b26 "java/util/ImmutableCollections$ListN" ∧ Fld Z h b26 "java/util/ImmutableCollections$ListN" "allowNulls" "Z" (.int ((0 : Int32) &&& 1)) ∧ Fld Z h b26 "java/util/ImmutableCollections$ListN" "elements" "[Ljava/lang/Object;" (.ref b27) ∧ Exa Z h b27 "[Ljava/lang/Object;" ∧ Arv Z h b27 k28 (.object "java/lang/Object") (4 : Int32) [(.ref v15), (.ref v16), (.ref v17), (.ref v18)] .null ∧ Ovr Z k28 "java/lang/Object"
set_option maxRecDepth 65536 in
set_option maxHeartbeats 40000000 in
theorem rm12t4 (l : Launch) (Z : State) (a0 : Array Value) (hw : ∀ d ∈ tables_1, d.before a0 Z = true) (ws : List Jvm.Cond) (a1 a2 a3 : Addr) (u5 : Value) (w10 : Addr) (v14 : ClassId) (v15 v16 v17 v18 w24 : Addr) (u32 : Value) (h0 : Heap) (n0 : Nat) (O0 : Old Z n0 h0) (HE_a1 : Exa Z h0 a1 "com/example/wattle/wattle/DayAheadPrices") (HF_a1_source : Fld Z h0 a1 "com/example/wattle/wattle/DayAheadPrices" "source" "Ljava/lang/String;" u5) (g_a1 : n0 ≤ a1) (HE_a3 : Exa Z h0 a3 "java/util/ArrayList") (HF_a3_elementData : Fld Z h0 a3 "java/util/ArrayList" "elementData" "[Ljava/lang/Object;" (.ref w10)) (ne_a3_a1 : a3 ≠ a1) (HF_a3_size : Fld Z h0 a3 "java/util/ArrayList" "size" "I" (.int (4 : Int32))) (HE_w10 : Exa Z h0 w10 "[Ljava/lang/Object;") (HV_w10 : Arv Z h0 w10 v14 (.object "java/lang/Object") (10 : Int32) [(.ref v15), (.ref v16), (.ref v17), (.ref v18), .null, .null, .null, .null, .null, .null] .null) (ne_w10_a1 : w10 ≠ a1) (HI_v15_java_lang_Object : Ins Z h0 v15 "java/lang/Object" true) (HI_v16_java_lang_Object : Ins Z h0 v16 "java/lang/Object" true) (HI_v17_java_lang_Object : Ins Z h0 v17 "java/lang/Object" true) (HI_v18_java_lang_Object : Ins Z h0 v18 "java/lang/Object" true) (Mi__Ljava_lang_Object_ : own_Mir Z "[Ljava/lang/Object;" w24) (HF_a1_hours : Fld Z h0 a1 "com/example/wattle/wattle/DayAheadPrices" "hours" "Ljava/util/List;" u32) :
    MetFree l (⟨"com/example/wattle/wattle/DayAheadPrices", "<init>", "(Ljava/lang/String;Ljava/util/List;)V"⟩ : MethodName) (head1 (Jvm.Cond.code (⟨"com/example/wattle/wattle/DayAheadPrices", "<init>", "(Ljava/lang/String;Ljava/util/List;)V"⟩ : MethodName) prog_17_method_1_code 3 none :: ws) ({ frames := 9, cells := 3, slots := 10, locals := 116 } : Room)) (fun a U => a = #[(.ref a1), (.ref a2), (.ref a3)] ∧ Z.Warmed39 U.vm ∧ U.heap = h0) (fun _ _ _ _ _ => True) (fun _ U o U' => ∃ v L, o = .returned v ∧ Q12t4 Z a1 a2 a3 u5 w10 v14 v15 v16 v17 v18 w24 u32 h0 n0 v U'.heap L ∧ FrameEnd U o U' L ({ frames := 9, cells := 3, slots := 10, locals := 116 } : Room).cells ({ frames := 9, cells := 3, slots := 10, locals := 116 } : Room).slots) := by
  refine MetFree.of_bodySF (plainFor_of_name pnc_com_example_wattle_wattle_DayAheadPrices) hisR ?_
  intro p e s m args below meth c s₁ Bd hml0 hP hK
  obtain ⟨rfl, hZ, hh⟩ := hP
  have hx := Bd.exec
  have hby := Bd.bytes
  have hml : c.maxLocals = 3 := hml0
  have hown : s.vm.findClass "com/example/wattle/wattle/DayAheadPrices" = some m.cls := findClass_of_methodNamed Bd.named
  have hnm := (name_of_methodNamed Bd.named Bd.method).1
  have X0 : Stand p l e ({ frames := 9, cells := 3, slots := 10, locals := 116 } : Room) s m #[(.ref a1), (.ref a2), (.ref a3)] below meth c s₁ [] 0 0 := Stand.of_body Bd
  have e0 : s₁.heap = h0 := by rw [← hh, Bd.state]; rfl
  have N0 := Fr.nil n0
  have Z0 : n0 ≤ h0.size := O0.1 ▸ O0.2.1
  have pre0 : ∀ t, Steps p.tables e below (s₁.setTop (mkF m 0 #[.val (.ref a1), .val (.ref a2), .val (.ref a3)] [])) t → Steps p.tables e below (s₁.setTop (entryFrame m #[(.ref a1), (.ref a2), (.ref a3)] 3)) t := fun t k => castTop (ef_12 m a1 a2 a3) k
  obtain ⟨T4, X4, e4, st4⟩ := initO X0 hx hZ hown (hw _ (List.mem_of_getElem? (i := 89) rfl)) (hw _ (List.mem_of_getElem? (i := 13) rfl)) (hw _ (List.mem_of_getElem? (i := 14) rfl)) e0 (g := (mkF m 1 #[.val (.ref a1), .val (.ref a2), .val (.ref a3)] [(.ref a1)])) rfl (by rw [hml]; rfl) rfl (hb hby d12_1) (by decide) (W := 0) (by show 2 * 0 + _ ≤ _; exact Nat.le_of_eq rfl) (by decide)
  obtain ⟨T6, h6, X6, e6, W6, st6⟩ := putF X4 hx hZ hown (host := "") (Or.inl (hw _ (List.mem_of_getElem? (i := 90) rfl))) Via.refl e4 HF_a1_source HE_a1 (Or.inr ⟨(hw _ (List.mem_of_getElem? (i := 91) rfl)), rfl, hnm⟩) (hw _ (List.mem_of_getElem? (i := 76) rfl)) (ty := (.object "java/lang/String")) (by decide) rfl rfl (g := (mkF m 6 #[.val (.ref a1), .val (.ref a2), .val (.ref a3)] [(.ref a2), (.ref a1)])) rfl rfl (hb hby d12_6)
  have N6 := Fr.snoc X6 N0 g_a1
  have K7 : Keep h0 h6 [a1] := (Keep.refl h0 [a1]).wr W6 (Or.inl (List.mem_of_getElem? (i := 0) rfl))
  have O8 : Old Z n0 h6 := O0.wr W6 g_a1
  have Fw6 : Fld Z h6 a1 "com/example/wattle/wattle/DayAheadPrices" "source" "Ljava/lang/String;" (.ref a2) := HF_a1_source.same W6
  have f9 := (HE_a3.wr W6)
  have f11 := (HF_a3_elementData.other W6 (Or.inl ne_a3_a1))
  have f12 := (HF_a3_size.other W6 (Or.inl ne_a3_a1))
  have f13 := (HE_w10.wr W6)
  have f19 := (HV_w10.other W6 ne_w10_a1)
  have f20 := (HI_v15_java_lang_Object.wr W6)
  have f21 := (HI_v16_java_lang_Object.wr W6)
  have f22 := (HI_v17_java_lang_Object.wr W6)
  have f23 := (HI_v18_java_lang_Object.wr W6)
  obtain ⟨vr25, _, ⟨T25, L25, k25, n25⟩, -, X25, ⟨Lc25, hQ25, l25, y25, z25⟩, st25⟩ := Jvm.LawKit.callS X6 hx (y := (⟨"java/util/List", "copyOf", "(Ljava/util/Collection;)Ljava/util/List;"⟩ : MethodName)) hown (mvT hZ (hw _ (List.mem_of_getElem? (i := 92) rfl))) (mvT hZ (hw _ (List.mem_of_getElem? (i := 93) rfl))) (mvT hZ (hw _ (List.mem_of_getElem? (i := 94) rfl))) (mvT hZ (hw _ (List.mem_of_getElem? (i := 95) rfl))) (by decide) (backOf (W := 1) (rm13c4 l Z a0 hw [] a3 v14 v15 v16 v17 v18 w10 w24 h6 n0 O8 f9 f11 f12 f13 f19 f20 f21 f22 f23 Mi__Ljava_lang_Object_) hZ (hw _ (List.mem_of_getElem? (i := 95) rfl)) (hw _ (List.mem_of_getElem? (i := 94) rfl)) (by decide) (by decide)) (g := (mkF m 11 #[.val (.ref a1), .val (.ref a2), .val (.ref a3)] [(.ref a3), (.ref a1)])) rfl (by rw [hml]; rfl) (argsL := [(.ref a3)]) (rest := [(.ref a1)]) (lenOf pd_16 rfl) rfl (by show 2 * 0 + _ ≤ _; exact Nat.le_of_eq rfl) (hb hby d12_11) (fun _ _ => ⟨rfl, e6, (by decide : 0 + 3 ≤ _), (by decide : 0 + 10 ≤ _)⟩)
  dsimp only [Pt.U, Pt.locs, Pt.cells, Pt.slots] at X25 l25 y25 z25 st25 hQ25
  subst l25 y25 z25
  obtain ⟨b26, b27, k28, rfl, N25q, K25, Y25_z0, Y25_z1, Y25_n0, Y25_0, Y25_1, Y25_2, Y25_3, Y25_4, Y25_5⟩ := hQ25
  have N25 := Fr.app N6 N25q
  replace X25 := X25.more (cells' := 3) (slots' := 10) (by decide) (by decide)
  have g_b26 : n0 ≤ b26 := Nat.le_trans (Nat.le_trans Z0 K7.1) Y25_z0
  have sz_b26 : h0.size ≤ b26 := Nat.le_trans K7.1 Y25_z0
  have g_b27 : n0 ≤ b27 := Nat.le_trans (Nat.le_trans Z0 K7.1) Y25_z1
  have sz_b27 : h0.size ≤ b27 := Nat.le_trans K7.1 Y25_z1
  have K29 : Keep h0 T25.heap [a1] := K7.trans K25 all0
  have O30 : Old Z n0 T25.heap := O8.keep K25 all0
  have f31 := ((HE_a1.wr W6).keep K25)
  have f33 := ((HF_a1_hours.other W6 (Or.inr (slot_ne (Or.inr (hw _ (List.mem_of_getElem? (i := 179) rfl))) (Or.inr (hw _ (List.mem_of_getElem? (i := 91) rfl))) (by decide) (t := (.object "java/util/List")) (t' := (.object "java/lang/String")) (by decide) (by decide)))).keep K25 nin0)
  obtain ⟨T34, h34, X34, e34, W34, st34⟩ := putF X25 hx hZ hown (host := "") (Or.inl (hw _ (List.mem_of_getElem? (i := 178) rfl))) Via.refl rfl f33 f31 (Or.inr ⟨(hw _ (List.mem_of_getElem? (i := 179) rfl)), rfl, hnm⟩) (hw _ (List.mem_of_getElem? (i := 76) rfl)) (ty := (.object "java/util/List")) (by decide) rfl rfl (g := (mkF m 14 #[.val (.ref a1), .val (.ref a2), .val (.ref a3)] [(.ref b26), (.ref a1)])) rfl rfl (hb hby d12_14)
  have N34 := Fr.snoc X34 N25 g_a1
  have K35 : Keep h0 h34 [a1] := K29.wr W34 (Or.inl (List.mem_of_getElem? (i := 0) rfl))
  have O36 : Old Z n0 h34 := O30.wr W34 g_a1
  have Fw34 : Fld Z h34 a1 "com/example/wattle/wattle/DayAheadPrices" "hours" "Ljava/util/List;" (.ref b26) := f33.same W34
  have f37 := (f31.wr W34)
  have f38 := ((Fw6.keep K25 nin0).other W34 (Or.inr (slot_ne (Or.inr (hw _ (List.mem_of_getElem? (i := 91) rfl))) (Or.inr (hw _ (List.mem_of_getElem? (i := 179) rfl))) (by decide) (t := (.object "java/lang/String")) (t' := (.object "java/util/List")) (by decide) (by decide))))
  have f39 := (Y25_0.wr W34)
  have f40 := (Y25_1.other W34 (Or.inl (Ne.symm (Nat.ne_of_lt (Nat.lt_of_lt_of_le (Nat.lt_of_lt_of_le HE_a1.lt (Keep.of_wr W6).1) Y25_z0)))))
  have f41 := (Y25_2.other W34 (Or.inl (Ne.symm (Nat.ne_of_lt (Nat.lt_of_lt_of_le (Nat.lt_of_lt_of_le HE_a1.lt (Keep.of_wr W6).1) Y25_z0)))))
  have f42 := (Y25_3.wr W34)
  have f43 := (Y25_4.other W34 (Ne.symm (Nat.ne_of_lt (Nat.lt_of_lt_of_le (Nat.lt_of_lt_of_le HE_a1.lt (Keep.of_wr W6).1) Y25_z1))))
  have f44 := Y25_5
  obtain ⟨fs, hr, hrun, hended, hW, hsame⟩ := X34.leave (v := none) (fun _ => rfl)
  refine ⟨_, _, pre0 _ ?_, hrun, hended, _, _, rfl, ?_, ⟨_, rfl⟩, hW, hsame.mono (by decide) (by decide)⟩
  · show Steps p.tables e below (s₁.setTop (mkF m 0 #[.val (.ref a1), .val (.ref a2), .val (.ref a3)] [])) _
    refine XS.aloadN X0.here hx rfl (hb hby d12_0) rfl rfl ?_
    show Steps p.tables e below (s₁.setTop (mkF m 1 #[.val (.ref a1), .val (.ref a2), .val (.ref a3)] [(.ref a1)])) _
    refine st4 _ ?_
    show Steps p.tables e below (T4.setTop (mkF m 4 #[.val (.ref a1), .val (.ref a2), .val (.ref a3)] [])) _
    refine XS.aloadN X4.here hx rfl (hb hby d12_4) rfl rfl ?_
    show Steps p.tables e below (T4.setTop (mkF m 5 #[.val (.ref a1), .val (.ref a2), .val (.ref a3)] [(.ref a1)])) _
    refine XS.aloadN X4.here hx rfl (hb hby d12_5) rfl rfl ?_
    show Steps p.tables e below (T4.setTop (mkF m 6 #[.val (.ref a1), .val (.ref a2), .val (.ref a3)] [(.ref a2), (.ref a1)])) _
    refine st6 _ ?_
    show Steps p.tables e below (T6.setTop (mkF m 9 #[.val (.ref a1), .val (.ref a2), .val (.ref a3)] [])) _
    refine XS.aloadN X6.here hx rfl (hb hby d12_9) rfl rfl ?_
    show Steps p.tables e below (T6.setTop (mkF m 10 #[.val (.ref a1), .val (.ref a2), .val (.ref a3)] [(.ref a1)])) _
    refine XS.aloadN X6.here hx rfl (hb hby d12_10) rfl rfl ?_
    show Steps p.tables e below (T6.setTop (mkF m 11 #[.val (.ref a1), .val (.ref a2), .val (.ref a3)] [(.ref a3), (.ref a1)])) _
    refine st25 _ ?_
    show Steps p.tables e below (T25.setTop (mkF m 14 #[.val (.ref a1), .val (.ref a2), .val (.ref a3)] [(.ref b26), (.ref a1)])) _
    refine st34 _ ?_
    show Steps p.tables e below (T34.setTop (mkF m 17 #[.val (.ref a1), .val (.ref a2), .val (.ref a3)] [])) _
    exact X34.returnOut hx Bd.returns (hb hby d12_17) hr
  · show Q12t4 Z a1 a2 a3 u5 w10 v14 v15 v16 v17 v18 w24 u32 h0 n0 _ T34.heap _
    rw [e34]
    exact ⟨b26, b27, k28, rfl, N34, K35, sz_b26, sz_b27, Y25_n0, f37, Fw34, f38, f39, f40, f41, f42, f43, f44⟩
theorem d26_0 : decode jdk_44_method_5_code 0 = .ok (.iload_n 1, 1) := by decide +kernel
theorem d26_1 : decode jdk_44_method_5_code 1 = .ok (.ifCond .ne 8, 3) := by decide +kernel
theorem d26_4 : decode jdk_44_method_5_code 4 = .ok (.aload_n 0, 1) := by decide +kernel
theorem d26_5 : decode jdk_44_method_5_code 5 = .ok (.getfield 13, 3) := by decide +kernel
theorem d26_8 : decode jdk_44_method_5_code 8 = .ok (.areturn, 1) := by decide +kernel
def Q26o (Z : State) (a1 w2 : Addr) (h0 : Heap) (n0 : Nat) (v : Option Value) (h : Heap) (L : List Loc) : Prop := v = some (.ref w2) ∧ Fr n0 L ∧ h = h0
theorem ef_26a__0___Int32__ (m : MethodId) (x0 : Addr) : entryFrame m #[(.ref x0), (.int (0 : Int32))] 2 = mkF m 0 #[.val (.ref x0), .val (.int (0 : Int32))] [] := by first | (simp [entryFrame, mkF, argsToLocals, Value.category]; done) | rfl
set_option maxRecDepth 65536 in
set_option maxHeartbeats 40000000 in
theorem rm26o (l : Launch) (Z : State) (a0 : Array Value) (hw : ∀ d ∈ tables_1, d.before a0 Z = true) (ws : List Jvm.Cond) (a1 w2 : Addr) (h0 : Heap) (n0 : Nat) (O0 : Old Z n0 h0) (HF_a1_e0 : Fld Z h0 a1 "java/util/ImmutableCollections$List12" "e0" "Ljava/lang/Object;" (.ref w2)) :
    MetFree l (⟨"java/util/ImmutableCollections$List12", "get", "(I)Ljava/lang/Object;"⟩ : MethodName) (head1 (Jvm.Cond.code (⟨"java/util/ImmutableCollections$List12", "get", "(I)Ljava/lang/Object;"⟩ : MethodName) jdk_44_method_5_code 2 (some (.object "java/lang/Object")) :: ws) ({ frames := 0, cells := 0, slots := 0, locals := 0 } : Room)) (fun a U => a = #[(.ref a1), (.int (0 : Int32))] ∧ Z.Warmed39 U.vm ∧ U.heap = h0) (fun _ _ _ _ _ => True) (fun _ U o U' => ∃ v L, o = .returned v ∧ Q26o Z a1 w2 h0 n0 v U'.heap L ∧ FrameEnd U o U' L ({ frames := 0, cells := 0, slots := 0, locals := 0 } : Room).cells ({ frames := 0, cells := 0, slots := 0, locals := 0 } : Room).slots) := by
  refine MetFree.of_bodySF (plainFor_of_name pnc_java_util_ImmutableCollections_List12) hisR ?_
  intro p e s m args below meth c s₁ Bd hml0 hP hK
  obtain ⟨rfl, hZ, hh⟩ := hP
  have hx := Bd.exec
  have hby := Bd.bytes
  have hml : c.maxLocals = 2 := hml0
  have hown : s.vm.findClass "java/util/ImmutableCollections$List12" = some m.cls := findClass_of_methodNamed Bd.named
  have hnm := (name_of_methodNamed Bd.named Bd.method).1
  have X0 : Stand p l e ({ frames := 0, cells := 0, slots := 0, locals := 0 } : Room) s m #[(.ref a1), (.int (0 : Int32))] below meth c s₁ [] 0 0 := Stand.of_body Bd
  have e0 : s₁.heap = h0 := by rw [← hh, Bd.state]; rfl
  have N0 := Fr.nil n0
  have Z0 : n0 ≤ h0.size := O0.1 ▸ O0.2.1
  have pre0 : ∀ t, Steps p.tables e below (s₁.setTop (mkF m 0 #[.val (.ref a1), .val (.int (0 : Int32))] [])) t → Steps p.tables e below (s₁.setTop (entryFrame m #[(.ref a1), (.int (0 : Int32))] 2)) t := fun t k => castTop (ef_26a__0___Int32__ m a1) k
  obtain ⟨T3, X3, e3, st3⟩ := getF X0 hx hZ hown (host := "") (Or.inl (hw _ (List.mem_of_getElem? (i := 173) rfl))) Via.refl e0 HF_a1_e0 (g := (mkF m 5 #[.val (.ref a1), .val (.int (0 : Int32))] [(.ref a1)])) rfl rfl (hb hby d26_5)
  obtain ⟨fs, hr, hrun, hended, hW, hsame⟩ := X3.leave (v := some (.ref w2)) (fun h => by rw [Bd.returns] at h; cases h)
  refine ⟨_, _, pre0 _ ?_, hrun, hended, _, _, rfl, ?_, ⟨_, rfl⟩, hW, hsame.mono (by decide) (by decide)⟩
  · show Steps p.tables e below (s₁.setTop (mkF m 0 #[.val (.ref a1), .val (.int (0 : Int32))] [])) _
    refine XS.iloadN X0.here hx rfl (hb hby d26_0) rfl ?_
    show Steps p.tables e below (s₁.setTop (mkF m 1 #[.val (.ref a1), .val (.int (0 : Int32))] [(.int (0 : Int32))])) _
    refine XS.ifNo X0.here hx rfl (hb hby d26_1) rfl ((if0 _ _).trans (teq (by decide : (0 : Int32) = (0 : Int32))).2) ?_
    show Steps p.tables e below (s₁.setTop (mkF m 4 #[.val (.ref a1), .val (.int (0 : Int32))] [])) _
    refine XS.aloadN X0.here hx rfl (hb hby d26_4) rfl rfl ?_
    show Steps p.tables e below (s₁.setTop (mkF m 5 #[.val (.ref a1), .val (.int (0 : Int32))] [(.ref a1)])) _
    refine st3 _ ?_
    show Steps p.tables e below (T3.setTop (mkF m 8 #[.val (.ref a1), .val (.int (0 : Int32))] [(.ref w2)])) _
    exact own_retR X3 hx Bd.returns rfl rfl (hb hby d26_8) hr
  · show Q26o Z a1 w2 h0 n0 _ T3.heap _
    rw [e3]
    exact ⟨rfl, N0, rfl⟩
theorem d29_0 : decode jdk_45_method_4_code 0 = .ok (.aload_n 0, 1) := by decide +kernel
theorem d29_1 : decode jdk_45_method_4_code 1 = .ok (.getfield 7, 3) := by decide +kernel
theorem d29_4 : decode jdk_45_method_4_code 4 = .ok (.iload_n 1, 1) := by decide +kernel
theorem d29_5 : decode jdk_45_method_4_code 5 = .ok (.aaload, 1) := by decide +kernel
theorem d29_6 : decode jdk_45_method_4_code 6 = .ok (.areturn, 1) := by decide +kernel
def Q29n3 (Z : State) (a1 w0 : Addr) (k0 : ClassId) (el0 el1 el2 : Addr) (h0 : Heap) (n0 : Nat) (v : Option Value) (h : Heap) (L : List Loc) : Prop := v = some (.ref el0) ∧ Fr n0 L ∧ h = h0
theorem ef_29a__0___Int32__ (m : MethodId) (x0 : Addr) : entryFrame m #[(.ref x0), (.int (0 : Int32))] 2 = mkF m 0 #[.val (.ref x0), .val (.int (0 : Int32))] [] := by first | (simp [entryFrame, mkF, argsToLocals, Value.category]; done) | rfl
set_option maxRecDepth 65536 in
set_option maxHeartbeats 40000000 in
theorem rm29n3 (l : Launch) (Z : State) (a0 : Array Value) (hw : ∀ d ∈ tables_1, d.before a0 Z = true) (ws : List Jvm.Cond) (a1 w0 : Addr) (k0 : ClassId) (el0 el1 el2 : Addr) (h0 : Heap) (n0 : Nat) (O0 : Old Z n0 h0) (HF_a1_elements : Fld Z h0 a1 "java/util/ImmutableCollections$ListN" "elements" "[Ljava/lang/Object;" (.ref w0)) (HV_w0 : Arv Z h0 w0 k0 (.object "java/lang/Object") (3 : Int32) [(.ref el0), (.ref el1), (.ref el2)] .null) :
    MetFree l (⟨"java/util/ImmutableCollections$ListN", "get", "(I)Ljava/lang/Object;"⟩ : MethodName) (head1 (Jvm.Cond.code (⟨"java/util/ImmutableCollections$ListN", "get", "(I)Ljava/lang/Object;"⟩ : MethodName) jdk_45_method_4_code 2 (some (.object "java/lang/Object")) :: ws) ({ frames := 0, cells := 0, slots := 0, locals := 0 } : Room)) (fun a U => a = #[(.ref a1), (.int (0 : Int32))] ∧ Z.Warmed39 U.vm ∧ U.heap = h0) (fun _ _ _ _ _ => True) (fun _ U o U' => ∃ v L, o = .returned v ∧ Q29n3 Z a1 w0 k0 el0 el1 el2 h0 n0 v U'.heap L ∧ FrameEnd U o U' L ({ frames := 0, cells := 0, slots := 0, locals := 0 } : Room).cells ({ frames := 0, cells := 0, slots := 0, locals := 0 } : Room).slots) := by
  refine MetFree.of_bodySF (plainFor_of_name pnc_java_util_ImmutableCollections_ListN) hisR ?_
  intro p e s m args below meth c s₁ Bd hml0 hP hK
  obtain ⟨rfl, hZ, hh⟩ := hP
  have hx := Bd.exec
  have hby := Bd.bytes
  have hml : c.maxLocals = 2 := hml0
  have hown : s.vm.findClass "java/util/ImmutableCollections$ListN" = some m.cls := findClass_of_methodNamed Bd.named
  have hnm := (name_of_methodNamed Bd.named Bd.method).1
  have X0 : Stand p l e ({ frames := 0, cells := 0, slots := 0, locals := 0 } : Room) s m #[(.ref a1), (.int (0 : Int32))] below meth c s₁ [] 0 0 := Stand.of_body Bd
  have e0 : s₁.heap = h0 := by rw [← hh, Bd.state]; rfl
  have N0 := Fr.nil n0
  have Z0 : n0 ≤ h0.size := O0.1 ▸ O0.2.1
  have pre0 : ∀ t, Steps p.tables e below (s₁.setTop (mkF m 0 #[.val (.ref a1), .val (.int (0 : Int32))] [])) t → Steps p.tables e below (s₁.setTop (entryFrame m #[(.ref a1), (.int (0 : Int32))] 2)) t := fun t k => castTop (ef_29a__0___Int32__ m a1) k
  obtain ⟨T2, X2, e2, st2⟩ := getF X0 hx hZ hown (host := "") (Or.inl (hw _ (List.mem_of_getElem? (i := 210) rfl))) Via.refl e0 HF_a1_elements (g := (mkF m 1 #[.val (.ref a1), .val (.int (0 : Int32))] [(.ref a1)])) rfl rfl (hb hby d29_1)
  obtain ⟨cl3, Ar3, q3, S3, Nn3, Hh3, G3⟩ := id HV_w0
  have hin3 : ¬ ((0 : Int32) < 0 ∨ cl3.slots.size ≤ ((0 : Int32)).toNatClampNeg) := inb_of S3 ⟨by decide, by decide⟩
  have hat3 : cl3.slots[((0 : Int32)).toNatClampNeg]? = some (.ref el0) := Has.at Hh3 hin3 rfl
  obtain ⟨fs, hr, hrun, hended, hW, hsame⟩ := X2.leave (v := some (.ref el0)) (fun h => by rw [Bd.returns] at h; cases h)
  refine ⟨_, _, pre0 _ ?_, hrun, hended, _, _, rfl, ?_, ⟨_, rfl⟩, hW, hsame.mono (by decide) (by decide)⟩
  · show Steps p.tables e below (s₁.setTop (mkF m 0 #[.val (.ref a1), .val (.int (0 : Int32))] [])) _
    refine XS.aloadN X0.here hx rfl (hb hby d29_0) rfl rfl ?_
    show Steps p.tables e below (s₁.setTop (mkF m 1 #[.val (.ref a1), .val (.int (0 : Int32))] [(.ref a1)])) _
    refine st2 _ ?_
    show Steps p.tables e below (T2.setTop (mkF m 4 #[.val (.ref a1), .val (.int (0 : Int32))] [(.ref w0)])) _
    refine XS.iloadN X2.here hx rfl (hb hby d29_4) rfl ?_
    show Steps p.tables e below (T2.setTop (mkF m 5 #[.val (.ref a1), .val (.int (0 : Int32))] [(.int (0 : Int32)), (.ref w0)])) _
    refine X2.aaload hx (j := (0 : Int32)) (v := (.ref el0)) (by rw [e2]; exact Ar3.1) (State.isArrayOf_alike hZ.alike Ar3.2.1) rfl Ar3.2.2 hin3 hat3 (g := (mkF m 5 #[.val (.ref a1), .val (.int (0 : Int32))] [(.int (0 : Int32)), (.ref w0)])) rfl rfl (hb hby d29_5) _ ?_
    show Steps p.tables e below (T2.setTop (mkF m 6 #[.val (.ref a1), .val (.int (0 : Int32))] [(.ref el0)])) _
    exact own_retR X2 hx Bd.returns rfl rfl (hb hby d29_6) hr
  · show Q29n3 Z a1 w0 k0 el0 el1 el2 h0 n0 _ T2.heap _
    rw [e2]
    exact ⟨rfl, N0, rfl⟩
def Q29n4 (Z : State) (a1 w0 : Addr) (k0 : ClassId) (el0 el1 el2 el3 : Addr) (h0 : Heap) (n0 : Nat) (v : Option Value) (h : Heap) (L : List Loc) : Prop := v = some (.ref el0) ∧ Fr n0 L ∧ h = h0
set_option maxRecDepth 65536 in
set_option maxHeartbeats 40000000 in
theorem rm29n4 (l : Launch) (Z : State) (a0 : Array Value) (hw : ∀ d ∈ tables_1, d.before a0 Z = true) (ws : List Jvm.Cond) (a1 w0 : Addr) (k0 : ClassId) (el0 el1 el2 el3 : Addr) (h0 : Heap) (n0 : Nat) (O0 : Old Z n0 h0) (HF_a1_elements : Fld Z h0 a1 "java/util/ImmutableCollections$ListN" "elements" "[Ljava/lang/Object;" (.ref w0)) (HV_w0 : Arv Z h0 w0 k0 (.object "java/lang/Object") (4 : Int32) [(.ref el0), (.ref el1), (.ref el2), (.ref el3)] .null) :
    MetFree l (⟨"java/util/ImmutableCollections$ListN", "get", "(I)Ljava/lang/Object;"⟩ : MethodName) (head1 (Jvm.Cond.code (⟨"java/util/ImmutableCollections$ListN", "get", "(I)Ljava/lang/Object;"⟩ : MethodName) jdk_45_method_4_code 2 (some (.object "java/lang/Object")) :: ws) ({ frames := 0, cells := 0, slots := 0, locals := 0 } : Room)) (fun a U => a = #[(.ref a1), (.int (0 : Int32))] ∧ Z.Warmed39 U.vm ∧ U.heap = h0) (fun _ _ _ _ _ => True) (fun _ U o U' => ∃ v L, o = .returned v ∧ Q29n4 Z a1 w0 k0 el0 el1 el2 el3 h0 n0 v U'.heap L ∧ FrameEnd U o U' L ({ frames := 0, cells := 0, slots := 0, locals := 0 } : Room).cells ({ frames := 0, cells := 0, slots := 0, locals := 0 } : Room).slots) := by
  refine MetFree.of_bodySF (plainFor_of_name pnc_java_util_ImmutableCollections_ListN) hisR ?_
  intro p e s m args below meth c s₁ Bd hml0 hP hK
  obtain ⟨rfl, hZ, hh⟩ := hP
  have hx := Bd.exec
  have hby := Bd.bytes
  have hml : c.maxLocals = 2 := hml0
  have hown : s.vm.findClass "java/util/ImmutableCollections$ListN" = some m.cls := findClass_of_methodNamed Bd.named
  have hnm := (name_of_methodNamed Bd.named Bd.method).1
  have X0 : Stand p l e ({ frames := 0, cells := 0, slots := 0, locals := 0 } : Room) s m #[(.ref a1), (.int (0 : Int32))] below meth c s₁ [] 0 0 := Stand.of_body Bd
  have e0 : s₁.heap = h0 := by rw [← hh, Bd.state]; rfl
  have N0 := Fr.nil n0
  have Z0 : n0 ≤ h0.size := O0.1 ▸ O0.2.1
  have pre0 : ∀ t, Steps p.tables e below (s₁.setTop (mkF m 0 #[.val (.ref a1), .val (.int (0 : Int32))] [])) t → Steps p.tables e below (s₁.setTop (entryFrame m #[(.ref a1), (.int (0 : Int32))] 2)) t := fun t k => castTop (ef_29a__0___Int32__ m a1) k
  obtain ⟨T2, X2, e2, st2⟩ := getF X0 hx hZ hown (host := "") (Or.inl (hw _ (List.mem_of_getElem? (i := 210) rfl))) Via.refl e0 HF_a1_elements (g := (mkF m 1 #[.val (.ref a1), .val (.int (0 : Int32))] [(.ref a1)])) rfl rfl (hb hby d29_1)
  obtain ⟨cl3, Ar3, q3, S3, Nn3, Hh3, G3⟩ := id HV_w0
  have hin3 : ¬ ((0 : Int32) < 0 ∨ cl3.slots.size ≤ ((0 : Int32)).toNatClampNeg) := inb_of S3 ⟨by decide, by decide⟩
  have hat3 : cl3.slots[((0 : Int32)).toNatClampNeg]? = some (.ref el0) := Has.at Hh3 hin3 rfl
  obtain ⟨fs, hr, hrun, hended, hW, hsame⟩ := X2.leave (v := some (.ref el0)) (fun h => by rw [Bd.returns] at h; cases h)
  refine ⟨_, _, pre0 _ ?_, hrun, hended, _, _, rfl, ?_, ⟨_, rfl⟩, hW, hsame.mono (by decide) (by decide)⟩
  · show Steps p.tables e below (s₁.setTop (mkF m 0 #[.val (.ref a1), .val (.int (0 : Int32))] [])) _
    refine XS.aloadN X0.here hx rfl (hb hby d29_0) rfl rfl ?_
    show Steps p.tables e below (s₁.setTop (mkF m 1 #[.val (.ref a1), .val (.int (0 : Int32))] [(.ref a1)])) _
    refine st2 _ ?_
    show Steps p.tables e below (T2.setTop (mkF m 4 #[.val (.ref a1), .val (.int (0 : Int32))] [(.ref w0)])) _
    refine XS.iloadN X2.here hx rfl (hb hby d29_4) rfl ?_
    show Steps p.tables e below (T2.setTop (mkF m 5 #[.val (.ref a1), .val (.int (0 : Int32))] [(.int (0 : Int32)), (.ref w0)])) _
    refine X2.aaload hx (j := (0 : Int32)) (v := (.ref el0)) (by rw [e2]; exact Ar3.1) (State.isArrayOf_alike hZ.alike Ar3.2.1) rfl Ar3.2.2 hin3 hat3 (g := (mkF m 5 #[.val (.ref a1), .val (.int (0 : Int32))] [(.int (0 : Int32)), (.ref w0)])) rfl rfl (hb hby d29_5) _ ?_
    show Steps p.tables e below (T2.setTop (mkF m 6 #[.val (.ref a1), .val (.int (0 : Int32))] [(.ref el0)])) _
    exact own_retR X2 hx Bd.returns rfl rfl (hb hby d29_6) hr
  · show Q29n4 Z a1 w0 k0 el0 el1 el2 el3 h0 n0 _ T2.heap _
    rw [e2]
    exact ⟨rfl, N0, rfl⟩
theorem d25_0 : decode prog_17_method_4_code 0 = .ok (.aload_n 0, 1) := by decide +kernel
theorem d25_1 : decode prog_17_method_4_code 1 = .ok (.getfield 19, 3) := by decide +kernel
theorem d25_4 : decode prog_17_method_4_code 4 = .ok (.iconst 0, 1) := by decide +kernel
theorem d25_5 : decode prog_17_method_4_code 5 = .ok (.invokeinterface 23 2, 5) := by decide +kernel
theorem pd_5 : parseMethodDescriptor "(I)Ljava/lang/Object;" = some ⟨[.int], some (.object "java/lang/Object")⟩ := by decide +kernel
theorem d25_10 : decode prog_17_method_4_code 10 = .ok (.checkcast 27, 3) := by decide +kernel
theorem d25_13 : decode prog_17_method_4_code 13 = .ok (.areturn, 1) := by decide +kernel
def Q25o (Z : State) (a1 w1 el0 : Addr) (h0 : Heap) (n0 : Nat) (v : Option Value) (h : Heap) (L : List Loc) : Prop := v = some (.ref el0) ∧ Fr n0 L ∧ h = h0
theorem ef_25 (m : MethodId) (x0 : Addr) : entryFrame m #[(.ref x0)] 1 = mkF m 0 #[.val (.ref x0)] [] := by first | (simp [entryFrame, mkF, argsToLocals, Value.category]; done) | rfl
set_option maxRecDepth 65536 in
set_option maxHeartbeats 40000000 in
theorem rm25o (l : Launch) (Z : State) (a0 : Array Value) (hw : ∀ d ∈ tables_1, d.before a0 Z = true) (ws : List Jvm.Cond) (a1 w1 el0 : Addr) (h0 : Heap) (n0 : Nat) (O0 : Old Z n0 h0) (HF_a1_hours : Fld Z h0 a1 "com/example/wattle/wattle/DayAheadPrices" "hours" "Ljava/util/List;" (.ref w1)) (HE_w1 : Exa Z h0 w1 "java/util/ImmutableCollections$List12") (HF_w1_e0 : Fld Z h0 w1 "java/util/ImmutableCollections$List12" "e0" "Ljava/lang/Object;" (.ref el0)) (HE_el0 : Exa Z h0 el0 "com/example/wattle/wattle/HourlyPrice") :
    MetFree l (⟨"com/example/wattle/wattle/DayAheadPrices", "first", "()Lcom/example/wattle/wattle/HourlyPrice;"⟩ : MethodName) (head1 (Jvm.Cond.code (⟨"com/example/wattle/wattle/DayAheadPrices", "first", "()Lcom/example/wattle/wattle/HourlyPrice;"⟩ : MethodName) prog_17_method_4_code 1 (some (.object "com/example/wattle/wattle/HourlyPrice")) :: ws) ({ frames := 1, cells := 0, slots := 0, locals := 13 } : Room)) (fun a U => a = #[(.ref a1)] ∧ Z.Warmed39 U.vm ∧ U.heap = h0) (fun _ _ _ _ _ => True) (fun _ U o U' => ∃ v L, o = .returned v ∧ Q25o Z a1 w1 el0 h0 n0 v U'.heap L ∧ FrameEnd U o U' L ({ frames := 1, cells := 0, slots := 0, locals := 13 } : Room).cells ({ frames := 1, cells := 0, slots := 0, locals := 13 } : Room).slots) := by
  refine MetFree.of_bodySF (plainFor_of_name pnc_com_example_wattle_wattle_DayAheadPrices) hisR ?_
  intro p e s m args below meth c s₁ Bd hml0 hP hK
  obtain ⟨rfl, hZ, hh⟩ := hP
  have hx := Bd.exec
  have hby := Bd.bytes
  have hml : c.maxLocals = 1 := hml0
  have hown : s.vm.findClass "com/example/wattle/wattle/DayAheadPrices" = some m.cls := findClass_of_methodNamed Bd.named
  have hnm := (name_of_methodNamed Bd.named Bd.method).1
  have X0 : Stand p l e ({ frames := 1, cells := 0, slots := 0, locals := 13 } : Room) s m #[(.ref a1)] below meth c s₁ [] 0 0 := Stand.of_body Bd
  have e0 : s₁.heap = h0 := by rw [← hh, Bd.state]; rfl
  have N0 := Fr.nil n0
  have Z0 : n0 ≤ h0.size := O0.1 ▸ O0.2.1
  have pre0 : ∀ t, Steps p.tables e below (s₁.setTop (mkF m 0 #[.val (.ref a1)] [])) t → Steps p.tables e below (s₁.setTop (entryFrame m #[(.ref a1)] 1)) t := fun t k => castTop (ef_25 m a1) k
  obtain ⟨T2, X2, e2, st2⟩ := getF X0 hx hZ hown (host := "") (Or.inl (hw _ (List.mem_of_getElem? (i := 178) rfl))) Via.refl e0 HF_a1_hours (g := (mkF m 1 #[.val (.ref a1)] [(.ref a1)])) rfl rfl (hb hby d25_1)
  obtain ⟨cq3, kq3, q3a, q3b, q3c⟩ := isOf hZ e2 HE_w1
  obtain ⟨vr3, _, ⟨T3, L3, k3, n3⟩, -, X3, ⟨Lc3, hQ3, l3, y3, z3⟩, st3⟩ := X2.interfaceBack hx (xi := (⟨"java/util/List", "get", "(I)Ljava/lang/Object;"⟩ : MethodName)) (y := (⟨"java/util/ImmutableCollections$List12", "get", "(I)Ljava/lang/Object;"⟩ : MethodName)) hown (mvT hZ (hw _ (List.mem_of_getElem? (i := 185) rfl))) (mvT hZ (hw _ (List.mem_of_getElem? (i := 186) rfl))) (mvT hZ (hw _ (List.mem_of_getElem? (i := 187) rfl))) (mvT hZ (hw _ (List.mem_of_getElem? (i := 188) rfl))) (mvT hZ (hw _ (List.mem_of_getElem? (i := 189) rfl))) (mvT hZ (hw _ (List.mem_of_getElem? (i := 190) rfl))) (mvT hZ (hw _ (List.mem_of_getElem? (i := 191) rfl))) (mvT hZ (hw _ (List.mem_of_getElem? (i := 192) rfl))) (by decide) (backOf (W := 0) (rm26o l Z a0 hw [] w1 el0 h0 n0 O0 HF_w1_e0) hZ (hw _ (List.mem_of_getElem? (i := 193) rfl)) (hw _ (List.mem_of_getElem? (i := 150) rfl)) (by decide) (by decide)) q3a q3b q3c (g := (mkF m 5 #[.val (.ref a1)] [(.int (0 : Int32)), (.ref w1)])) rfl (by rw [hml]; rfl) (Steps.refl _) (argsL := [(.int (0 : Int32))]) (rest := []) (lenOf pd_5 rfl) rfl (by show 2 * 0 + _ ≤ _; exact Nat.le_of_eq rfl) (hb hby d25_5) (fun _ _ => ⟨rfl, e2, (by decide : 0 + 0 ≤ _), (by decide : 0 + 0 ≤ _)⟩)
  dsimp only [Pt.U, Pt.locs, Pt.cells, Pt.slots] at X3 l3 y3 z3 st3 hQ3
  subst l3 y3 z3
  obtain ⟨rfl, N3q, e3⟩ := hQ3
  have N3 := Fr.app N0 N3q
  replace X3 := X3.more (cells' := 0) (slots' := 0) (by decide) (by decide)
  obtain ⟨T4, X4, e4, st4⟩ := castY X3 hx hZ hown (hw _ (List.mem_of_getElem? (i := 194) rfl)) e3 (Ins.self HE_el0) (g := (mkF m 10 #[.val (.ref a1)] [(.ref el0)])) rfl rfl (hb hby d25_10)
  obtain ⟨fs, hr, hrun, hended, hW, hsame⟩ := X4.leave (v := some (.ref el0)) (fun h => by rw [Bd.returns] at h; cases h)
  refine ⟨_, _, pre0 _ ?_, hrun, hended, _, _, rfl, ?_, ⟨_, rfl⟩, hW, hsame.mono (by decide) (by decide)⟩
  · show Steps p.tables e below (s₁.setTop (mkF m 0 #[.val (.ref a1)] [])) _
    refine XS.aloadN X0.here hx rfl (hb hby d25_0) rfl rfl ?_
    show Steps p.tables e below (s₁.setTop (mkF m 1 #[.val (.ref a1)] [(.ref a1)])) _
    refine st2 _ ?_
    show Steps p.tables e below (T2.setTop (mkF m 4 #[.val (.ref a1)] [(.ref w1)])) _
    refine XS.iconst X2.here hx rfl (hb hby d25_4) ?_
    show Steps p.tables e below (T2.setTop (mkF m 5 #[.val (.ref a1)] [(.int (0 : Int32)), (.ref w1)])) _
    refine st3.trans ?_
    show Steps p.tables e below (T3.setTop (mkF m 10 #[.val (.ref a1)] [(.ref el0)])) _
    refine st4 _ ?_
    show Steps p.tables e below (T4.setTop (mkF m 13 #[.val (.ref a1)] [(.ref el0)])) _
    exact own_retR X4 hx Bd.returns rfl rfl (hb hby d25_13) hr
  · show Q25o Z a1 w1 el0 h0 n0 _ T4.heap _
    rw [e4]
    exact ⟨rfl, N3, rfl⟩
def Q25n3 (Z : State) (a1 w1 w2 el0 el1 el2 : Addr) (k0 : ClassId) (h0 : Heap) (n0 : Nat) (v : Option Value) (h : Heap) (L : List Loc) : Prop := v = some (.ref el0) ∧ Fr n0 L ∧ h = h0
set_option maxRecDepth 65536 in
set_option maxHeartbeats 40000000 in
theorem rm25n3 (l : Launch) (Z : State) (a0 : Array Value) (hw : ∀ d ∈ tables_1, d.before a0 Z = true) (ws : List Jvm.Cond) (a1 w1 w2 el0 el1 el2 : Addr) (k0 : ClassId) (h0 : Heap) (n0 : Nat) (O0 : Old Z n0 h0) (HF_a1_hours : Fld Z h0 a1 "com/example/wattle/wattle/DayAheadPrices" "hours" "Ljava/util/List;" (.ref w1)) (HE_w1 : Exa Z h0 w1 "java/util/ImmutableCollections$ListN") (HF_w1_elements : Fld Z h0 w1 "java/util/ImmutableCollections$ListN" "elements" "[Ljava/lang/Object;" (.ref w2)) (HV_w2 : Arv Z h0 w2 k0 (.object "java/lang/Object") (3 : Int32) [(.ref el0), (.ref el1), (.ref el2)] .null) (HE_el0 : Exa Z h0 el0 "com/example/wattle/wattle/HourlyPrice") :
    MetFree l (⟨"com/example/wattle/wattle/DayAheadPrices", "first", "()Lcom/example/wattle/wattle/HourlyPrice;"⟩ : MethodName) (head1 (Jvm.Cond.code (⟨"com/example/wattle/wattle/DayAheadPrices", "first", "()Lcom/example/wattle/wattle/HourlyPrice;"⟩ : MethodName) prog_17_method_4_code 1 (some (.object "com/example/wattle/wattle/HourlyPrice")) :: ws) ({ frames := 1, cells := 0, slots := 0, locals := 13 } : Room)) (fun a U => a = #[(.ref a1)] ∧ Z.Warmed39 U.vm ∧ U.heap = h0) (fun _ _ _ _ _ => True) (fun _ U o U' => ∃ v L, o = .returned v ∧ Q25n3 Z a1 w1 w2 el0 el1 el2 k0 h0 n0 v U'.heap L ∧ FrameEnd U o U' L ({ frames := 1, cells := 0, slots := 0, locals := 13 } : Room).cells ({ frames := 1, cells := 0, slots := 0, locals := 13 } : Room).slots) := by
  refine MetFree.of_bodySF (plainFor_of_name pnc_com_example_wattle_wattle_DayAheadPrices) hisR ?_
  intro p e s m args below meth c s₁ Bd hml0 hP hK
  obtain ⟨rfl, hZ, hh⟩ := hP
  have hx := Bd.exec
  have hby := Bd.bytes
  have hml : c.maxLocals = 1 := hml0
  have hown : s.vm.findClass "com/example/wattle/wattle/DayAheadPrices" = some m.cls := findClass_of_methodNamed Bd.named
  have hnm := (name_of_methodNamed Bd.named Bd.method).1
  have X0 : Stand p l e ({ frames := 1, cells := 0, slots := 0, locals := 13 } : Room) s m #[(.ref a1)] below meth c s₁ [] 0 0 := Stand.of_body Bd
  have e0 : s₁.heap = h0 := by rw [← hh, Bd.state]; rfl
  have N0 := Fr.nil n0
  have Z0 : n0 ≤ h0.size := O0.1 ▸ O0.2.1
  have pre0 : ∀ t, Steps p.tables e below (s₁.setTop (mkF m 0 #[.val (.ref a1)] [])) t → Steps p.tables e below (s₁.setTop (entryFrame m #[(.ref a1)] 1)) t := fun t k => castTop (ef_25 m a1) k
  obtain ⟨T2, X2, e2, st2⟩ := getF X0 hx hZ hown (host := "") (Or.inl (hw _ (List.mem_of_getElem? (i := 178) rfl))) Via.refl e0 HF_a1_hours (g := (mkF m 1 #[.val (.ref a1)] [(.ref a1)])) rfl rfl (hb hby d25_1)
  obtain ⟨cq3, kq3, q3a, q3b, q3c⟩ := isOf hZ e2 HE_w1
  obtain ⟨vr3, _, ⟨T3, L3, k3, n3⟩, -, X3, ⟨Lc3, hQ3, l3, y3, z3⟩, st3⟩ := X2.interfaceBack hx (xi := (⟨"java/util/List", "get", "(I)Ljava/lang/Object;"⟩ : MethodName)) (y := (⟨"java/util/ImmutableCollections$ListN", "get", "(I)Ljava/lang/Object;"⟩ : MethodName)) hown (mvT hZ (hw _ (List.mem_of_getElem? (i := 185) rfl))) (mvT hZ (hw _ (List.mem_of_getElem? (i := 186) rfl))) (mvT hZ (hw _ (List.mem_of_getElem? (i := 187) rfl))) (mvT hZ (hw _ (List.mem_of_getElem? (i := 214) rfl))) (mvT hZ (hw _ (List.mem_of_getElem? (i := 215) rfl))) (mvT hZ (hw _ (List.mem_of_getElem? (i := 216) rfl))) (mvT hZ (hw _ (List.mem_of_getElem? (i := 217) rfl))) (mvT hZ (hw _ (List.mem_of_getElem? (i := 218) rfl))) (by decide) (backOf (W := 0) (rm29n3 l Z a0 hw [] w1 w2 k0 el0 el1 el2 h0 n0 O0 HF_w1_elements HV_w2) hZ (hw _ (List.mem_of_getElem? (i := 219) rfl)) (hw _ (List.mem_of_getElem? (i := 201) rfl)) (by decide) (by decide)) q3a q3b q3c (g := (mkF m 5 #[.val (.ref a1)] [(.int (0 : Int32)), (.ref w1)])) rfl (by rw [hml]; rfl) (Steps.refl _) (argsL := [(.int (0 : Int32))]) (rest := []) (lenOf pd_5 rfl) rfl (by show 2 * 0 + _ ≤ _; exact Nat.le_of_eq rfl) (hb hby d25_5) (fun _ _ => ⟨rfl, e2, (by decide : 0 + 0 ≤ _), (by decide : 0 + 0 ≤ _)⟩)
  dsimp only [Pt.U, Pt.locs, Pt.cells, Pt.slots] at X3 l3 y3 z3 st3 hQ3
  subst l3 y3 z3
  obtain ⟨rfl, N3q, e3⟩ := hQ3
  have N3 := Fr.app N0 N3q
  replace X3 := X3.more (cells' := 0) (slots' := 0) (by decide) (by decide)
  obtain ⟨T4, X4, e4, st4⟩ := castY X3 hx hZ hown (hw _ (List.mem_of_getElem? (i := 194) rfl)) e3 (Ins.self HE_el0) (g := (mkF m 10 #[.val (.ref a1)] [(.ref el0)])) rfl rfl (hb hby d25_10)
  obtain ⟨fs, hr, hrun, hended, hW, hsame⟩ := X4.leave (v := some (.ref el0)) (fun h => by rw [Bd.returns] at h; cases h)
  refine ⟨_, _, pre0 _ ?_, hrun, hended, _, _, rfl, ?_, ⟨_, rfl⟩, hW, hsame.mono (by decide) (by decide)⟩
  · show Steps p.tables e below (s₁.setTop (mkF m 0 #[.val (.ref a1)] [])) _
    refine XS.aloadN X0.here hx rfl (hb hby d25_0) rfl rfl ?_
    show Steps p.tables e below (s₁.setTop (mkF m 1 #[.val (.ref a1)] [(.ref a1)])) _
    refine st2 _ ?_
    show Steps p.tables e below (T2.setTop (mkF m 4 #[.val (.ref a1)] [(.ref w1)])) _
    refine XS.iconst X2.here hx rfl (hb hby d25_4) ?_
    show Steps p.tables e below (T2.setTop (mkF m 5 #[.val (.ref a1)] [(.int (0 : Int32)), (.ref w1)])) _
    refine st3.trans ?_
    show Steps p.tables e below (T3.setTop (mkF m 10 #[.val (.ref a1)] [(.ref el0)])) _
    refine st4 _ ?_
    show Steps p.tables e below (T4.setTop (mkF m 13 #[.val (.ref a1)] [(.ref el0)])) _
    exact own_retR X4 hx Bd.returns rfl rfl (hb hby d25_13) hr
  · show Q25n3 Z a1 w1 w2 el0 el1 el2 k0 h0 n0 _ T4.heap _
    rw [e4]
    exact ⟨rfl, N3, rfl⟩
def Q25n4 (Z : State) (a1 w1 w2 el0 el1 el2 el3 : Addr) (k0 : ClassId) (h0 : Heap) (n0 : Nat) (v : Option Value) (h : Heap) (L : List Loc) : Prop := v = some (.ref el0) ∧ Fr n0 L ∧ h = h0
set_option maxRecDepth 65536 in
set_option maxHeartbeats 40000000 in
theorem rm25n4 (l : Launch) (Z : State) (a0 : Array Value) (hw : ∀ d ∈ tables_1, d.before a0 Z = true) (ws : List Jvm.Cond) (a1 w1 w2 el0 el1 el2 el3 : Addr) (k0 : ClassId) (h0 : Heap) (n0 : Nat) (O0 : Old Z n0 h0) (HF_a1_hours : Fld Z h0 a1 "com/example/wattle/wattle/DayAheadPrices" "hours" "Ljava/util/List;" (.ref w1)) (HE_w1 : Exa Z h0 w1 "java/util/ImmutableCollections$ListN") (HF_w1_elements : Fld Z h0 w1 "java/util/ImmutableCollections$ListN" "elements" "[Ljava/lang/Object;" (.ref w2)) (HV_w2 : Arv Z h0 w2 k0 (.object "java/lang/Object") (4 : Int32) [(.ref el0), (.ref el1), (.ref el2), (.ref el3)] .null) (HE_el0 : Exa Z h0 el0 "com/example/wattle/wattle/HourlyPrice") :
    MetFree l (⟨"com/example/wattle/wattle/DayAheadPrices", "first", "()Lcom/example/wattle/wattle/HourlyPrice;"⟩ : MethodName) (head1 (Jvm.Cond.code (⟨"com/example/wattle/wattle/DayAheadPrices", "first", "()Lcom/example/wattle/wattle/HourlyPrice;"⟩ : MethodName) prog_17_method_4_code 1 (some (.object "com/example/wattle/wattle/HourlyPrice")) :: ws) ({ frames := 1, cells := 0, slots := 0, locals := 13 } : Room)) (fun a U => a = #[(.ref a1)] ∧ Z.Warmed39 U.vm ∧ U.heap = h0) (fun _ _ _ _ _ => True) (fun _ U o U' => ∃ v L, o = .returned v ∧ Q25n4 Z a1 w1 w2 el0 el1 el2 el3 k0 h0 n0 v U'.heap L ∧ FrameEnd U o U' L ({ frames := 1, cells := 0, slots := 0, locals := 13 } : Room).cells ({ frames := 1, cells := 0, slots := 0, locals := 13 } : Room).slots) := by
  refine MetFree.of_bodySF (plainFor_of_name pnc_com_example_wattle_wattle_DayAheadPrices) hisR ?_
  intro p e s m args below meth c s₁ Bd hml0 hP hK
  obtain ⟨rfl, hZ, hh⟩ := hP
  have hx := Bd.exec
  have hby := Bd.bytes
  have hml : c.maxLocals = 1 := hml0
  have hown : s.vm.findClass "com/example/wattle/wattle/DayAheadPrices" = some m.cls := findClass_of_methodNamed Bd.named
  have hnm := (name_of_methodNamed Bd.named Bd.method).1
  have X0 : Stand p l e ({ frames := 1, cells := 0, slots := 0, locals := 13 } : Room) s m #[(.ref a1)] below meth c s₁ [] 0 0 := Stand.of_body Bd
  have e0 : s₁.heap = h0 := by rw [← hh, Bd.state]; rfl
  have N0 := Fr.nil n0
  have Z0 : n0 ≤ h0.size := O0.1 ▸ O0.2.1
  have pre0 : ∀ t, Steps p.tables e below (s₁.setTop (mkF m 0 #[.val (.ref a1)] [])) t → Steps p.tables e below (s₁.setTop (entryFrame m #[(.ref a1)] 1)) t := fun t k => castTop (ef_25 m a1) k
  obtain ⟨T2, X2, e2, st2⟩ := getF X0 hx hZ hown (host := "") (Or.inl (hw _ (List.mem_of_getElem? (i := 178) rfl))) Via.refl e0 HF_a1_hours (g := (mkF m 1 #[.val (.ref a1)] [(.ref a1)])) rfl rfl (hb hby d25_1)
  obtain ⟨cq3, kq3, q3a, q3b, q3c⟩ := isOf hZ e2 HE_w1
  obtain ⟨vr3, _, ⟨T3, L3, k3, n3⟩, -, X3, ⟨Lc3, hQ3, l3, y3, z3⟩, st3⟩ := X2.interfaceBack hx (xi := (⟨"java/util/List", "get", "(I)Ljava/lang/Object;"⟩ : MethodName)) (y := (⟨"java/util/ImmutableCollections$ListN", "get", "(I)Ljava/lang/Object;"⟩ : MethodName)) hown (mvT hZ (hw _ (List.mem_of_getElem? (i := 185) rfl))) (mvT hZ (hw _ (List.mem_of_getElem? (i := 186) rfl))) (mvT hZ (hw _ (List.mem_of_getElem? (i := 187) rfl))) (mvT hZ (hw _ (List.mem_of_getElem? (i := 214) rfl))) (mvT hZ (hw _ (List.mem_of_getElem? (i := 215) rfl))) (mvT hZ (hw _ (List.mem_of_getElem? (i := 216) rfl))) (mvT hZ (hw _ (List.mem_of_getElem? (i := 217) rfl))) (mvT hZ (hw _ (List.mem_of_getElem? (i := 218) rfl))) (by decide) (backOf (W := 0) (rm29n4 l Z a0 hw [] w1 w2 k0 el0 el1 el2 el3 h0 n0 O0 HF_w1_elements HV_w2) hZ (hw _ (List.mem_of_getElem? (i := 219) rfl)) (hw _ (List.mem_of_getElem? (i := 201) rfl)) (by decide) (by decide)) q3a q3b q3c (g := (mkF m 5 #[.val (.ref a1)] [(.int (0 : Int32)), (.ref w1)])) rfl (by rw [hml]; rfl) (Steps.refl _) (argsL := [(.int (0 : Int32))]) (rest := []) (lenOf pd_5 rfl) rfl (by show 2 * 0 + _ ≤ _; exact Nat.le_of_eq rfl) (hb hby d25_5) (fun _ _ => ⟨rfl, e2, (by decide : 0 + 0 ≤ _), (by decide : 0 + 0 ≤ _)⟩)
  dsimp only [Pt.U, Pt.locs, Pt.cells, Pt.slots] at X3 l3 y3 z3 st3 hQ3
  subst l3 y3 z3
  obtain ⟨rfl, N3q, e3⟩ := hQ3
  have N3 := Fr.app N0 N3q
  replace X3 := X3.more (cells' := 0) (slots' := 0) (by decide) (by decide)
  obtain ⟨T4, X4, e4, st4⟩ := castY X3 hx hZ hown (hw _ (List.mem_of_getElem? (i := 194) rfl)) e3 (Ins.self HE_el0) (g := (mkF m 10 #[.val (.ref a1)] [(.ref el0)])) rfl rfl (hb hby d25_10)
  obtain ⟨fs, hr, hrun, hended, hW, hsame⟩ := X4.leave (v := some (.ref el0)) (fun h => by rw [Bd.returns] at h; cases h)
  refine ⟨_, _, pre0 _ ?_, hrun, hended, _, _, rfl, ?_, ⟨_, rfl⟩, hW, hsame.mono (by decide) (by decide)⟩
  · show Steps p.tables e below (s₁.setTop (mkF m 0 #[.val (.ref a1)] [])) _
    refine XS.aloadN X0.here hx rfl (hb hby d25_0) rfl rfl ?_
    show Steps p.tables e below (s₁.setTop (mkF m 1 #[.val (.ref a1)] [(.ref a1)])) _
    refine st2 _ ?_
    show Steps p.tables e below (T2.setTop (mkF m 4 #[.val (.ref a1)] [(.ref w1)])) _
    refine XS.iconst X2.here hx rfl (hb hby d25_4) ?_
    show Steps p.tables e below (T2.setTop (mkF m 5 #[.val (.ref a1)] [(.int (0 : Int32)), (.ref w1)])) _
    refine st3.trans ?_
    show Steps p.tables e below (T3.setTop (mkF m 10 #[.val (.ref a1)] [(.ref el0)])) _
    refine st4 _ ?_
    show Steps p.tables e below (T4.setTop (mkF m 13 #[.val (.ref a1)] [(.ref el0)])) _
    exact own_retR X4 hx Bd.returns rfl rfl (hb hby d25_13) hr
  · show Q25n4 Z a1 w1 w2 el0 el1 el2 el3 k0 h0 n0 _ T4.heap _
    rw [e4]
    exact ⟨rfl, N3, rfl⟩
theorem own_pick4 {Z : State} {h : Heap} {cl : Cell} {b0 b1 b2 b3 : Addr} {C : String} (S : cl.slots.size = (4 : Int32).toNatClampNeg) (H : Has cl [.ref b0, .ref b1, .ref b2, .ref b3] .null) (E0 : Exa Z h b0 C) (E1 : Exa Z h b1 C) (E2 : Exa Z h b2 C) (E3 : Exa Z h b3 C) (y : Int32) :
    ∃ z : Addr, ¬ ((y &&& (3 : Int32)) < 0 ∨ cl.slots.size ≤ (y &&& (3 : Int32)).toNatClampNeg) ∧ cl.slots[(y &&& (3 : Int32)).toNatClampNeg]? = some (.ref z) ∧ Exa Z h z C := by
  have hb := c_and y 3 (by decide)
  rw [show (3 : Int32).toInt = 3 from rfl] at hb
  have h0 : ¬ (y &&& (3 : Int32)) < 0 := by rw [Int32.lt_iff_toInt_lt, show (0 : Int32).toInt = 0 from rfl]; omega
  have hn := nat_of h0
  have S4 : cl.slots.size = 4 := S
  generalize (y &&& (3 : Int32)).toNatClampNeg = k at hn ⊢
  have hk : k = 0 ∨ k = 1 ∨ k = 2 ∨ k = 3 := by omega
  have hH := H k (by omega)
  rcases hk with rfl | rfl | rfl | rfl
  · exact ⟨b0, fun q => q.elim h0 fun q => by omega, hH, E0⟩
  · exact ⟨b1, fun q => q.elim h0 fun q => by omega, hH, E1⟩
  · exact ⟨b2, fun q => q.elim h0 fun q => by omega, hH, E2⟩
  · exact ⟨b3, fun q => q.elim h0 fun q => by omega, hH, E3⟩
theorem own_arrkeep {Z : State} {h h' : Heap} {a : Addr} {c : Cell} {ty : FieldType} {ws : List Addr} (A : Arr Z h a c ty) (K : Keep h h' ws) (q : a ∉ ws) : Arr Z h' a c ty := ⟨K.2.1 _ _ A.1 q, A.2⟩
theorem pd_15 : parseMethodDescriptor "(Ljava/time/OffsetDateTime;Ljava/math/BigDecimal;)V" = some ⟨[(.object "java/time/OffsetDateTime"), (.object "java/math/BigDecimal")], none⟩ := by decide +kernel
theorem pd_10 : parseMethodDescriptor "(Ljava/lang/Object;)Z" = some ⟨[(.object "java/lang/Object")], some .boolean⟩ := by decide +kernel
theorem own_strw : ∀ d ∈ Bundle.stringAtoms, d ∈ tables_1 := by decide +kernel
theorem pd_14 : parseMethodDescriptor "(Ljava/lang/String;Ljava/util/List;)V" = some ⟨[(.object "java/lang/String"), (.object "java/util/List")], none⟩ := by decide +kernel
theorem pd_0 : parseMethodDescriptor "()Lcom/example/wattle/wattle/HourlyPrice;" = some ⟨[], some (.object "com/example/wattle/wattle/HourlyPrice")⟩ := by decide +kernel
def own_Met (l : Launch) (Z : State) (ws : List Jvm.Cond) (as : Array Value) (h0 : Heap) (n0 : Nat) : Prop := MetFree l x (head1 (Jvm.Cond.code x code maxLocals ret :: ws) room_1) (fun a U => a = as ∧ Z.Warmed39 U.vm ∧ U.heap = h0) (fun _ _ _ _ _ => True) (fun _ U o U' => ∃ v L, o = .returned v ∧ (v = some (.int (1 : Int32)) ∧ Fr n0 L) ∧ ReturnedEndW U o U' L room_1.cells room_1.slots)
theorem ef_0 (m : MethodId) (x0 : Int32) (x1 : Int32) : entryFrame m #[(.int x0), (.int x1)] maxLocals = mkF m 0 #[.val (.int x0), .val (.int x1), .unset, .unset, .unset, .unset, .unset, .unset] [] := by first | (simp [entryFrame, mkF, argsToLocals, Value.category, maxLocals]; done) | rfl
theorem pnc_com_example_wattle_wattle_DayAheadPricesFirstPinLaw : plainName "com/example/wattle/wattle/DayAheadPricesFirstPinLaw" = true := by first | (simp [plainName, overriddenIn]; done) | decide +kernel
set_option maxRecDepth 65536 in
set_option maxHeartbeats 40000000 in
theorem rm0n1 (l : Launch) (Z : State) (a0 : Array Value) (hw : ∀ d ∈ tables_1, d.before a0 Z = true) (ws : List Jvm.Cond) (p1 p2 : Int32) (w58 : Addr) (v63 : ClassId) (w85 w86 : Addr) (h0 : Heap) (n0 : Nat) (O0 : Old Z n0 h0) (hn59 : ((1 : Int32) + (p1 &&& (3 : Int32))) = (1 : Int32)) (S_DEFAULTCAPACITY_EMPTY_ELEMENTDATA : Sta Z Z.heap "java/util/ArrayList" "DEFAULTCAPACITY_EMPTY_ELEMENTDATA" "[Ljava/lang/Object;" (.ref w58)) (HV_w58 : Arv Z h0 w58 v63 (.object "java/lang/Object") (0 : Int32) [] .null) (Mi__Ljava_lang_Object_ : own_Mir Z "[Ljava/lang/Object;" w85) (S_EMPTY : Sta Z Z.heap "java/util/ImmutableCollections" "EMPTY" "Ljava/lang/Object;" (.ref w86)) :
    own_Met l Z ws #[(.int p1), (.int p2)] h0 n0 := by
  refine MetFree.of_bodySF (plainFor_of_name pnc_com_example_wattle_wattle_DayAheadPricesFirstPinLaw) hisR ?_
  intro p e s m args below meth c s₁ Bd hml0 hP hK
  obtain ⟨rfl, hZ_, hh⟩ := hP
  have hx := Bd.exec
  have hby := Bd.bytes
  have hml : c.maxLocals = 8 := hml0
  have hown : s.vm.findClass "com/example/wattle/wattle/DayAheadPricesFirstPinLaw" = some m.cls := findClass_of_methodNamed Bd.named
  have hnm := (name_of_methodNamed Bd.named Bd.method).1
  have X0 : Stand p l e room_1 (s.setVm s.vm) m #[(.int p1), (.int p2)] below meth c s₁ [] 0 0 := Stand.of_body Bd
  have hZ : Z.Warmed39 (s.setVm s.vm).vm := hZ_
  have hS0 : s.Since s.vm s.heap.size := (State.WarmedH.refl s).since s.heap.size
  have hk0 : s.heap.size ≤ h0.size := Nat.le_of_eq (by rw [hh])
  have e0 : s₁.heap = h0 := by rw [← hh, Bd.state]; rfl
  have N0 := Fr.nil n0
  have Z0 : n0 ≤ h0.size := O0.1 ▸ O0.2.1
  have pre0 : ∀ t, Steps p.tables e below (s₁.setTop (mkF m 0 #[.val (.int p1), .val (.int p2), .unset, .unset, .unset, .unset, .unset, .unset] [])) t → Steps p.tables e below (s₁.setTop (entryFrame m #[(.int p1), (.int p2)] maxLocals)) t := fun t k => castTop (ef_0 m p1 p2) k
  obtain ⟨T3, h3, k3, X3, e3, E3, A3, B3, Ov3, st3⟩ := newRE X0 hx hZ hown (hw _ (List.mem_of_getElem? (i := 0) rfl)) (hw _ (List.mem_of_getElem? (i := 1) rfl)) e0 (g := (mkF m 1 #[.val (.int p1), .val (.int p2), .unset, .unset, .unset, .unset, .unset, .unset] [(.int (4 : Int32))])) rfl (hb hby at_1) rfl (by decide) (cap := 4) (by decide) (by decide) (by decide) (by decide) (ad := "[Lcom/example/wattle/wattle/HourlyPrice;") (by decide)
  obtain ⟨b3, g3⟩ : ∃ z, z = h0.size := ⟨_, rfl⟩
  rw [← g3] at A3 B3 st3
  have g_b3 : n0 ≤ b3 := Nat.le_trans (Nat.le_trans Z0 (Keep.refl h0 []).1) (Nat.le_of_eq g3.symm)
  have sz_b3 : h0.size ≤ b3 := Nat.le_trans (Keep.refl h0 []).1 (Nat.le_of_eq g3.symm)
  have K4 : Keep h0 h3 [] := (Keep.refl h0 []).ext E3
  have O5 : Old Z n0 h3 := O0.ext E3
  have V3 : Arv Z h3 b3 k3 (.object "com/example/wattle/wattle/HourlyPrice") (4 : Int32) [.null, .null, .null, .null] .null := (Arv.new A3 (by decide)).pad (pad_rep [] .null 4)
  replace X3 := X3.more (cells' := 1) (slots' := 4) (by decide) (by decide)
  obtain ⟨T6, h6, X6, e6, E6, A6, D6, -, st6⟩ := newO X3 hx hZ hown (hw _ (List.mem_of_getElem? (i := 0) rfl)) (hw _ (List.mem_of_getElem? (i := 2) rfl)) (hw _ (List.mem_of_getElem? (i := 3) rfl)) e3 (g := (mkF m 7 #[.val (.int p1), .val (.int p2), .val (.ref b3), .unset, .unset, .unset, .unset, .unset] [(.int (0 : Int32)), (.ref b3)])) rfl (hb hby at_7) (by decide) (by decide)
  obtain ⟨b6, g6⟩ : ∃ z, z = h3.size := ⟨_, rfl⟩
  rw [← g6] at A6 D6 st6
  have g_b6 : n0 ≤ b6 := Nat.le_trans (Nat.le_trans Z0 K4.1) (Nat.le_of_eq g6.symm)
  have sz_b6 : h0.size ≤ b6 := Nat.le_trans K4.1 (Nat.le_of_eq g6.symm)
  have K7 : Keep h0 h6 [] := K4.ext E6
  have O8 : Old Z n0 h6 := O5.ext E6
  have F_hour_b6 : Fld Z h6 b6 "com/example/wattle/wattle/HourlyPrice" "hour" "Ljava/time/OffsetDateTime;" .null := D6 (Or.inr (hw _ (List.mem_of_getElem? (i := 16) rfl))) (ty := (.object "java/time/OffsetDateTime")) (by decide)
  have F_price_b6 : Fld Z h6 b6 "com/example/wattle/wattle/HourlyPrice" "price" "Ljava/math/BigDecimal;" .null := D6 (Or.inr (hw _ (List.mem_of_getElem? (i := 18) rfl))) (ty := (.object "java/math/BigDecimal")) (by decide)
  replace X6 := X6.more (cells' := 2) (slots' := 6) (by decide) (by decide)
  obtain ⟨vr9, _, ⟨T9, L9, k9, n9⟩, -, X9, ⟨Lc9, hQ9, l9, y9, z9⟩, st9⟩ := X6.specialBack hx (y := (⟨"com/example/wattle/wattle/HourlyPrice", "<init>", "(Ljava/time/OffsetDateTime;Ljava/math/BigDecimal;)V"⟩ : MethodName)) rfl hown (mvT hZ (hw _ (List.mem_of_getElem? (i := 4) rfl))) (mvT hZ (hw _ (List.mem_of_getElem? (i := 5) rfl))) (mvT hZ (hw _ (List.mem_of_getElem? (i := 6) rfl))) (by decide) (backOf (W := 3) (rm1 l Z a0 hw [] b6 (.null) (.null) h6 n0 O8 A6 F_hour_b6 g_b6 F_price_b6) hZ (hw _ (List.mem_of_getElem? (i := 6) rfl)) (hw _ (List.mem_of_getElem? (i := 3) rfl)) (by decide) (by decide)) (g := (mkF m 13 #[.val (.int p1), .val (.int p2), .val (.ref b3), .unset, .unset, .unset, .unset, .unset] [.null, .null, (.ref b6), (.ref b6), (.int (0 : Int32)), (.ref b3)])) rfl (by rw [hml]; rfl) (Steps.refl _) (a := b6) (argsL := [.null, .null]) (rest := [(.ref b6), (.int (0 : Int32)), (.ref b3)]) (lenOf pd_15 rfl) rfl (by show 2 * 0 + _ ≤ _; exact Nat.le_of_eq rfl) (hb hby at_13) (fun _ _ => ⟨rfl, e6, (by decide : 2 + 0 ≤ _), (by decide : 6 + 0 ≤ _)⟩)
  dsimp only [Pt.U, Pt.locs, Pt.cells, Pt.slots] at X9 l9 y9 z9 st9 hQ9
  subst l9 y9 z9
  obtain ⟨rfl, N9q, K9, Y9_0, Y9_1, Y9_2⟩ := hQ9
  have N9 := Fr.app N0 N9q
  replace X9 := X9.more (cells' := 2) (slots' := 6) (by decide) (by decide)
  have K10 : Keep h0 T9.heap [] := K7.trans K9 (allS (Or.inr sz_b6) all0)
  have O11 : Old Z n0 T9.heap := O8.keep K9 (allS g_b6 all0)
  have f12 := ((V3.ext E6).keep K9 (ninS (Nat.ne_of_lt (Nat.lt_of_lt_of_le V3.lt (Nat.le_of_eq g6.symm))) nin0))
  obtain ⟨cl13, Ar13, q13, S13, Nn13, Hh13, G13⟩ := id f12
  have hin13 : ¬ ((0 : Int32) < 0 ∨ cl13.slots.size ≤ ((0 : Int32)).toNatClampNeg) := inb_of S13 ⟨by decide, by decide⟩
  obtain ⟨T14, h14, X14, e14, W14, st14⟩ := stR X9 hx hZ rfl Ar13 (j := (0 : Int32)) hin13 rfl (Sto.ofV Ar13 q13 Ov3 (Ins.self Y9_0)) (g := (mkF m 16 #[.val (.int p1), .val (.int p2), .val (.ref b3), .unset, .unset, .unset, .unset, .unset] [(.ref b6), (.int (0 : Int32)), (.ref b3)])) rfl rfl (hb hby at_16)
  have N14 := Fr.snoc X14 N9 g_b3
  have K15 : Keep h0 h14 [] := K10.wr W14 (Or.inr sz_b3)
  have O16 : Old Z n0 h14 := O11.wr W14 g_b3
  have V14 : Arv Z h14 b3 k3 (.object "com/example/wattle/wattle/HourlyPrice") (4 : Int32) [(.ref b6), .null, .null, .null] .null := Arv.set Ar13 q13 S13 Nn13 Hh13 G13 rfl W14 0 rfl (Nat.le_of_ble_eq_true rfl)
  obtain ⟨T17, h17, X17, e17, E17, A17, D17, -, st17⟩ := newO X14 hx hZ hown (hw _ (List.mem_of_getElem? (i := 0) rfl)) (hw _ (List.mem_of_getElem? (i := 2) rfl)) (hw _ (List.mem_of_getElem? (i := 3) rfl)) e14 (g := (mkF m 19 #[.val (.int p1), .val (.int p2), .val (.ref b3), .unset, .unset, .unset, .unset, .unset] [(.int (1 : Int32)), (.ref b3)])) rfl (hb hby at_19) (by decide) (by decide)
  obtain ⟨b17, g17⟩ : ∃ z, z = h14.size := ⟨_, rfl⟩
  rw [← g17] at A17 D17 st17
  have g_b17 : n0 ≤ b17 := Nat.le_trans (Nat.le_trans Z0 K15.1) (Nat.le_of_eq g17.symm)
  have sz_b17 : h0.size ≤ b17 := Nat.le_trans K15.1 (Nat.le_of_eq g17.symm)
  have K18 : Keep h0 h17 [] := K15.ext E17
  have O19 : Old Z n0 h17 := O16.ext E17
  have F_hour_b17 : Fld Z h17 b17 "com/example/wattle/wattle/HourlyPrice" "hour" "Ljava/time/OffsetDateTime;" .null := D17 (Or.inr (hw _ (List.mem_of_getElem? (i := 16) rfl))) (ty := (.object "java/time/OffsetDateTime")) (by decide)
  have F_price_b17 : Fld Z h17 b17 "com/example/wattle/wattle/HourlyPrice" "price" "Ljava/math/BigDecimal;" .null := D17 (Or.inr (hw _ (List.mem_of_getElem? (i := 18) rfl))) (ty := (.object "java/math/BigDecimal")) (by decide)
  replace X17 := X17.more (cells' := 3) (slots' := 8) (by decide) (by decide)
  obtain ⟨vr20, _, ⟨T20, L20, k20, n20⟩, -, X20, ⟨Lc20, hQ20, l20, y20, z20⟩, st20⟩ := X17.specialBack hx (y := (⟨"com/example/wattle/wattle/HourlyPrice", "<init>", "(Ljava/time/OffsetDateTime;Ljava/math/BigDecimal;)V"⟩ : MethodName)) rfl hown (mvT hZ (hw _ (List.mem_of_getElem? (i := 4) rfl))) (mvT hZ (hw _ (List.mem_of_getElem? (i := 5) rfl))) (mvT hZ (hw _ (List.mem_of_getElem? (i := 6) rfl))) (by decide) (backOf (W := 3) (rm1 l Z a0 hw [] b17 (.null) (.null) h17 n0 O19 A17 F_hour_b17 g_b17 F_price_b17) hZ (hw _ (List.mem_of_getElem? (i := 6) rfl)) (hw _ (List.mem_of_getElem? (i := 3) rfl)) (by decide) (by decide)) (g := (mkF m 25 #[.val (.int p1), .val (.int p2), .val (.ref b3), .unset, .unset, .unset, .unset, .unset] [.null, .null, (.ref b17), (.ref b17), (.int (1 : Int32)), (.ref b3)])) rfl (by rw [hml]; rfl) (Steps.refl _) (a := b17) (argsL := [.null, .null]) (rest := [(.ref b17), (.int (1 : Int32)), (.ref b3)]) (lenOf pd_15 rfl) rfl (by show 2 * 0 + _ ≤ _; exact Nat.le_of_eq rfl) (hb hby at_25) (fun _ _ => ⟨rfl, e17, (by decide : 3 + 0 ≤ _), (by decide : 8 + 0 ≤ _)⟩)
  dsimp only [Pt.U, Pt.locs, Pt.cells, Pt.slots] at X20 l20 y20 z20 st20 hQ20
  subst l20 y20 z20
  obtain ⟨rfl, N20q, K20, Y20_0, Y20_1, Y20_2⟩ := hQ20
  have N20 := Fr.app N14 N20q
  replace X20 := X20.more (cells' := 3) (slots' := 8) (by decide) (by decide)
  have K21 : Keep h0 T20.heap [] := K18.trans K20 (allS (Or.inr sz_b17) all0)
  have O22 : Old Z n0 T20.heap := O19.keep K20 (allS g_b17 all0)
  have f23 := ((V14.ext E17).keep K20 (ninS (Nat.ne_of_lt (Nat.lt_of_lt_of_le (Nat.lt_of_lt_of_le V3.lt (Nat.le_trans (Nat.le_trans E6.1 K9.1) (Keep.of_wr W14).1)) (Nat.le_of_eq g17.symm))) nin0))
  obtain ⟨cl24, Ar24, q24, S24, Nn24, Hh24, G24⟩ := id f23
  have hin24 : ¬ ((1 : Int32) < 0 ∨ cl24.slots.size ≤ ((1 : Int32)).toNatClampNeg) := inb_of S24 ⟨by decide, by decide⟩
  obtain ⟨T25, h25, X25, e25, W25, st25⟩ := stR X20 hx hZ rfl Ar24 (j := (1 : Int32)) hin24 rfl (Sto.ofV Ar24 q24 Ov3 (Ins.self Y20_0)) (g := (mkF m 28 #[.val (.int p1), .val (.int p2), .val (.ref b3), .unset, .unset, .unset, .unset, .unset] [(.ref b17), (.int (1 : Int32)), (.ref b3)])) rfl rfl (hb hby at_28)
  have N25 := Fr.snoc X25 N20 g_b3
  have K26 : Keep h0 h25 [] := K21.wr W25 (Or.inr sz_b3)
  have O27 : Old Z n0 h25 := O22.wr W25 g_b3
  have V25 : Arv Z h25 b3 k3 (.object "com/example/wattle/wattle/HourlyPrice") (4 : Int32) [(.ref b6), (.ref b17), .null, .null] .null := Arv.set Ar24 q24 S24 Nn24 Hh24 G24 rfl W25 1 rfl (Nat.le_of_ble_eq_true rfl)
  obtain ⟨T28, h28, X28, e28, E28, A28, D28, -, st28⟩ := newO X25 hx hZ hown (hw _ (List.mem_of_getElem? (i := 0) rfl)) (hw _ (List.mem_of_getElem? (i := 2) rfl)) (hw _ (List.mem_of_getElem? (i := 3) rfl)) e25 (g := (mkF m 31 #[.val (.int p1), .val (.int p2), .val (.ref b3), .unset, .unset, .unset, .unset, .unset] [(.int (2 : Int32)), (.ref b3)])) rfl (hb hby at_31) (by decide) (by decide)
  obtain ⟨b28, g28⟩ : ∃ z, z = h25.size := ⟨_, rfl⟩
  rw [← g28] at A28 D28 st28
  have g_b28 : n0 ≤ b28 := Nat.le_trans (Nat.le_trans Z0 K26.1) (Nat.le_of_eq g28.symm)
  have sz_b28 : h0.size ≤ b28 := Nat.le_trans K26.1 (Nat.le_of_eq g28.symm)
  have K29 : Keep h0 h28 [] := K26.ext E28
  have O30 : Old Z n0 h28 := O27.ext E28
  have F_hour_b28 : Fld Z h28 b28 "com/example/wattle/wattle/HourlyPrice" "hour" "Ljava/time/OffsetDateTime;" .null := D28 (Or.inr (hw _ (List.mem_of_getElem? (i := 16) rfl))) (ty := (.object "java/time/OffsetDateTime")) (by decide)
  have F_price_b28 : Fld Z h28 b28 "com/example/wattle/wattle/HourlyPrice" "price" "Ljava/math/BigDecimal;" .null := D28 (Or.inr (hw _ (List.mem_of_getElem? (i := 18) rfl))) (ty := (.object "java/math/BigDecimal")) (by decide)
  replace X28 := X28.more (cells' := 4) (slots' := 10) (by decide) (by decide)
  obtain ⟨vr31, _, ⟨T31, L31, k31, n31⟩, -, X31, ⟨Lc31, hQ31, l31, y31, z31⟩, st31⟩ := X28.specialBack hx (y := (⟨"com/example/wattle/wattle/HourlyPrice", "<init>", "(Ljava/time/OffsetDateTime;Ljava/math/BigDecimal;)V"⟩ : MethodName)) rfl hown (mvT hZ (hw _ (List.mem_of_getElem? (i := 4) rfl))) (mvT hZ (hw _ (List.mem_of_getElem? (i := 5) rfl))) (mvT hZ (hw _ (List.mem_of_getElem? (i := 6) rfl))) (by decide) (backOf (W := 3) (rm1 l Z a0 hw [] b28 (.null) (.null) h28 n0 O30 A28 F_hour_b28 g_b28 F_price_b28) hZ (hw _ (List.mem_of_getElem? (i := 6) rfl)) (hw _ (List.mem_of_getElem? (i := 3) rfl)) (by decide) (by decide)) (g := (mkF m 37 #[.val (.int p1), .val (.int p2), .val (.ref b3), .unset, .unset, .unset, .unset, .unset] [.null, .null, (.ref b28), (.ref b28), (.int (2 : Int32)), (.ref b3)])) rfl (by rw [hml]; rfl) (Steps.refl _) (a := b28) (argsL := [.null, .null]) (rest := [(.ref b28), (.int (2 : Int32)), (.ref b3)]) (lenOf pd_15 rfl) rfl (by show 2 * 0 + _ ≤ _; exact Nat.le_of_eq rfl) (hb hby at_37) (fun _ _ => ⟨rfl, e28, (by decide : 4 + 0 ≤ _), (by decide : 10 + 0 ≤ _)⟩)
  dsimp only [Pt.U, Pt.locs, Pt.cells, Pt.slots] at X31 l31 y31 z31 st31 hQ31
  subst l31 y31 z31
  obtain ⟨rfl, N31q, K31, Y31_0, Y31_1, Y31_2⟩ := hQ31
  have N31 := Fr.app N25 N31q
  replace X31 := X31.more (cells' := 4) (slots' := 10) (by decide) (by decide)
  have K32 : Keep h0 T31.heap [] := K29.trans K31 (allS (Or.inr sz_b28) all0)
  have O33 : Old Z n0 T31.heap := O30.keep K31 (allS g_b28 all0)
  have f34 := ((V25.ext E28).keep K31 (ninS (Nat.ne_of_lt (Nat.lt_of_lt_of_le (Nat.lt_of_lt_of_le V3.lt (Nat.le_trans (Nat.le_trans (Nat.le_trans (Nat.le_trans (Nat.le_trans E6.1 K9.1) (Keep.of_wr W14).1) E17.1) K20.1) (Keep.of_wr W25).1)) (Nat.le_of_eq g28.symm))) nin0))
  obtain ⟨cl35, Ar35, q35, S35, Nn35, Hh35, G35⟩ := id f34
  have hin35 : ¬ ((2 : Int32) < 0 ∨ cl35.slots.size ≤ ((2 : Int32)).toNatClampNeg) := inb_of S35 ⟨by decide, by decide⟩
  obtain ⟨T36, h36, X36, e36, W36, st36⟩ := stR X31 hx hZ rfl Ar35 (j := (2 : Int32)) hin35 rfl (Sto.ofV Ar35 q35 Ov3 (Ins.self Y31_0)) (g := (mkF m 40 #[.val (.int p1), .val (.int p2), .val (.ref b3), .unset, .unset, .unset, .unset, .unset] [(.ref b28), (.int (2 : Int32)), (.ref b3)])) rfl rfl (hb hby at_40)
  have N36 := Fr.snoc X36 N31 g_b3
  have K37 : Keep h0 h36 [] := K32.wr W36 (Or.inr sz_b3)
  have O38 : Old Z n0 h36 := O33.wr W36 g_b3
  have V36 : Arv Z h36 b3 k3 (.object "com/example/wattle/wattle/HourlyPrice") (4 : Int32) [(.ref b6), (.ref b17), (.ref b28), .null] .null := Arv.set Ar35 q35 S35 Nn35 Hh35 G35 rfl W36 2 rfl (Nat.le_of_ble_eq_true rfl)
  obtain ⟨T39, h39, X39, e39, E39, A39, D39, -, st39⟩ := newO X36 hx hZ hown (hw _ (List.mem_of_getElem? (i := 0) rfl)) (hw _ (List.mem_of_getElem? (i := 2) rfl)) (hw _ (List.mem_of_getElem? (i := 3) rfl)) e36 (g := (mkF m 43 #[.val (.int p1), .val (.int p2), .val (.ref b3), .unset, .unset, .unset, .unset, .unset] [(.int (3 : Int32)), (.ref b3)])) rfl (hb hby at_43) (by decide) (by decide)
  obtain ⟨b39, g39⟩ : ∃ z, z = h36.size := ⟨_, rfl⟩
  rw [← g39] at A39 D39 st39
  have g_b39 : n0 ≤ b39 := Nat.le_trans (Nat.le_trans Z0 K37.1) (Nat.le_of_eq g39.symm)
  have sz_b39 : h0.size ≤ b39 := Nat.le_trans K37.1 (Nat.le_of_eq g39.symm)
  have K40 : Keep h0 h39 [] := K37.ext E39
  have O41 : Old Z n0 h39 := O38.ext E39
  have F_hour_b39 : Fld Z h39 b39 "com/example/wattle/wattle/HourlyPrice" "hour" "Ljava/time/OffsetDateTime;" .null := D39 (Or.inr (hw _ (List.mem_of_getElem? (i := 16) rfl))) (ty := (.object "java/time/OffsetDateTime")) (by decide)
  have F_price_b39 : Fld Z h39 b39 "com/example/wattle/wattle/HourlyPrice" "price" "Ljava/math/BigDecimal;" .null := D39 (Or.inr (hw _ (List.mem_of_getElem? (i := 18) rfl))) (ty := (.object "java/math/BigDecimal")) (by decide)
  replace X39 := X39.more (cells' := 5) (slots' := 12) (by decide) (by decide)
  obtain ⟨vr42, _, ⟨T42, L42, k42, n42⟩, -, X42, ⟨Lc42, hQ42, l42, y42, z42⟩, st42⟩ := X39.specialBack hx (y := (⟨"com/example/wattle/wattle/HourlyPrice", "<init>", "(Ljava/time/OffsetDateTime;Ljava/math/BigDecimal;)V"⟩ : MethodName)) rfl hown (mvT hZ (hw _ (List.mem_of_getElem? (i := 4) rfl))) (mvT hZ (hw _ (List.mem_of_getElem? (i := 5) rfl))) (mvT hZ (hw _ (List.mem_of_getElem? (i := 6) rfl))) (by decide) (backOf (W := 3) (rm1 l Z a0 hw [] b39 (.null) (.null) h39 n0 O41 A39 F_hour_b39 g_b39 F_price_b39) hZ (hw _ (List.mem_of_getElem? (i := 6) rfl)) (hw _ (List.mem_of_getElem? (i := 3) rfl)) (by decide) (by decide)) (g := (mkF m 49 #[.val (.int p1), .val (.int p2), .val (.ref b3), .unset, .unset, .unset, .unset, .unset] [.null, .null, (.ref b39), (.ref b39), (.int (3 : Int32)), (.ref b3)])) rfl (by rw [hml]; rfl) (Steps.refl _) (a := b39) (argsL := [.null, .null]) (rest := [(.ref b39), (.int (3 : Int32)), (.ref b3)]) (lenOf pd_15 rfl) rfl (by show 2 * 0 + _ ≤ _; exact Nat.le_of_eq rfl) (hb hby at_49) (fun _ _ => ⟨rfl, e39, (by decide : 5 + 0 ≤ _), (by decide : 12 + 0 ≤ _)⟩)
  dsimp only [Pt.U, Pt.locs, Pt.cells, Pt.slots] at X42 l42 y42 z42 st42 hQ42
  subst l42 y42 z42
  obtain ⟨rfl, N42q, K42, Y42_0, Y42_1, Y42_2⟩ := hQ42
  have N42 := Fr.app N36 N42q
  replace X42 := X42.more (cells' := 5) (slots' := 12) (by decide) (by decide)
  have K43 : Keep h0 T42.heap [] := K40.trans K42 (allS (Or.inr sz_b39) all0)
  have O44 : Old Z n0 T42.heap := O41.keep K42 (allS g_b39 all0)
  have f45 := ((V36.ext E39).keep K42 (ninS (Nat.ne_of_lt (Nat.lt_of_lt_of_le (Nat.lt_of_lt_of_le V3.lt (Nat.le_trans (Nat.le_trans (Nat.le_trans (Nat.le_trans (Nat.le_trans (Nat.le_trans (Nat.le_trans (Nat.le_trans E6.1 K9.1) (Keep.of_wr W14).1) E17.1) K20.1) (Keep.of_wr W25).1) E28.1) K31.1) (Keep.of_wr W36).1)) (Nat.le_of_eq g39.symm))) nin0))
  obtain ⟨cl46, Ar46, q46, S46, Nn46, Hh46, G46⟩ := id f45
  have hin46 : ¬ ((3 : Int32) < 0 ∨ cl46.slots.size ≤ ((3 : Int32)).toNatClampNeg) := inb_of S46 ⟨by decide, by decide⟩
  obtain ⟨T47, h47, X47, e47, W47, st47⟩ := stR X42 hx hZ rfl Ar46 (j := (3 : Int32)) hin46 rfl (Sto.ofV Ar46 q46 Ov3 (Ins.self Y42_0)) (g := (mkF m 52 #[.val (.int p1), .val (.int p2), .val (.ref b3), .unset, .unset, .unset, .unset, .unset] [(.ref b39), (.int (3 : Int32)), (.ref b3)])) rfl rfl (hb hby at_52)
  have N47 := Fr.snoc X47 N42 g_b3
  have K48 : Keep h0 h47 [] := K43.wr W47 (Or.inr sz_b3)
  have O49 : Old Z n0 h47 := O44.wr W47 g_b3
  have V47 : Arv Z h47 b3 k3 (.object "com/example/wattle/wattle/HourlyPrice") (4 : Int32) [(.ref b6), (.ref b17), (.ref b28), (.ref b39)] .null := Arv.set Ar46 q46 S46 Nn46 Hh46 G46 rfl W47 3 rfl (Nat.le_of_ble_eq_true rfl)
  obtain ⟨cl50, Ar50, q50, S50, Nn50, Hh50, G50⟩ := id V47
  have f51 := ((((((((((Y9_0.wr W14).ext E17).keep K20).wr W25).ext E28).keep K31).wr W36).ext E39).keep K42).wr W47)
  have f52 := (((((((Y20_0.wr W25).ext E28).keep K31).wr W36).ext E39).keep K42).wr W47)
  have f53 := ((((Y31_0.wr W36).ext E39).keep K42).wr W47)
  have f54 := (Y42_0.wr W47)
  obtain ⟨xx0, hxi0, hxa0, hxe0⟩ := own_pick4 S50 Hh50 f51 f52 f53 f54 p2
  obtain ⟨xx1, hxi1, hxa1, hxe1⟩ := own_pick4 S50 Hh50 f51 f52 f53 f54 ((p2 &&& (3 : Int32)) + (1 : Int32))
  obtain ⟨xx2, hxi2, hxa2, hxe2⟩ := own_pick4 S50 Hh50 f51 f52 f53 f54 ((p2 &&& (3 : Int32)) + (2 : Int32))
  obtain ⟨xx3, hxi3, hxa3, hxe3⟩ := own_pick4 S50 Hh50 f51 f52 f53 f54 ((p2 &&& (3 : Int32)) + (3 : Int32))
  obtain ⟨T55, h55, X55, e55, E55, A55, D55, -, st55⟩ := newO X47 hx hZ hown (hw _ (List.mem_of_getElem? (i := 20) rfl)) (hw _ (List.mem_of_getElem? (i := 21) rfl)) (hw _ (List.mem_of_getElem? (i := 22) rfl)) e47 (g := (mkF m 64 #[.val (.int p1), .val (.int p2), .val (.ref b3), .val (.int (1 : Int32)), .val (.int (p2 &&& (3 : Int32))), .unset, .unset, .unset] [])) rfl (hb hby at_64) (by decide) (by decide)
  obtain ⟨b55, g55⟩ : ∃ z, z = h47.size := ⟨_, rfl⟩
  rw [← g55] at A55 D55 st55
  have g_b55 : n0 ≤ b55 := Nat.le_trans (Nat.le_trans Z0 K48.1) (Nat.le_of_eq g55.symm)
  have sz_b55 : h0.size ≤ b55 := Nat.le_trans K48.1 (Nat.le_of_eq g55.symm)
  have K56 : Keep h0 h55 [] := K48.ext E55
  have O57 : Old Z n0 h55 := O49.ext E55
  have F_modCount_b55 : Fld Z h55 b55 "java/util/AbstractList" "modCount" "I" (.int (0 : Int32)) := D55 (Or.inl (hw _ (List.mem_of_getElem? (i := 40) rfl))) (ty := .int) (by decide)
  have F_elementData_b55 : Fld Z h55 b55 "java/util/ArrayList" "elementData" "[Ljava/lang/Object;" .null := D55 (Or.inl (hw _ (List.mem_of_getElem? (i := 43) rfl))) (ty := (.array (.object "java/lang/Object"))) (by decide)
  have F_size_b55 : Fld Z h55 b55 "java/util/ArrayList" "size" "I" (.int (0 : Int32)) := D55 (Or.inl (hw _ (List.mem_of_getElem? (i := 52) rfl))) (ty := .int) (by decide)
  replace X55 := X55.more (cells' := 6) (slots' := 15) (by decide) (by decide)
  obtain ⟨vr59, _, ⟨T59, L59, k59, n59⟩, -, X59, ⟨Lc59, hQ59, l59, y59, z59⟩, st59⟩ := X55.specialBack hx (y := (⟨"java/util/ArrayList", "<init>", "()V"⟩ : MethodName)) rfl hown (mvT hZ (hw _ (List.mem_of_getElem? (i := 23) rfl))) (mvT hZ (hw _ (List.mem_of_getElem? (i := 24) rfl))) (mvT hZ (hw _ (List.mem_of_getElem? (i := 25) rfl))) (by decide) (backOf (W := 1) (rm4 l Z a0 hw [] b55 ((.int (0 : Int32))) (.null) ((.int (0 : Int32))) w58 h55 n0 O57 A55 F_modCount_b55 F_elementData_b55 F_size_b55 g_b55 S_DEFAULTCAPACITY_EMPTY_ELEMENTDATA) hZ (hw _ (List.mem_of_getElem? (i := 25) rfl)) (hw _ (List.mem_of_getElem? (i := 22) rfl)) (by decide) (by decide)) (g := (mkF m 68 #[.val (.int p1), .val (.int p2), .val (.ref b3), .val (.int (1 : Int32)), .val (.int (p2 &&& (3 : Int32))), .unset, .unset, .unset] [(.ref b55), (.ref b55)])) rfl (by rw [hml]; rfl) (Steps.refl _) (a := b55) (argsL := []) (rest := [(.ref b55)]) (lenOf pd_2 rfl) rfl (by show 2 * 0 + _ ≤ _; exact Nat.le_of_eq rfl) (hb hby at_68) (fun _ _ => ⟨rfl, e55, (by decide : 6 + 0 ≤ _), (by decide : 15 + 0 ≤ _)⟩)
  dsimp only [Pt.U, Pt.locs, Pt.cells, Pt.slots] at X59 l59 y59 z59 st59 hQ59
  subst l59 y59 z59
  obtain ⟨rfl, N59q, K59, Y59_0, Y59_1, Y59_2, Y59_3⟩ := hQ59
  have N59 := Fr.app N47 N59q
  replace X59 := X59.more (cells' := 6) (slots' := 15) (by decide) (by decide)
  have K60 : Keep h0 T59.heap [] := K56.trans K59 (allS (Or.inr sz_b55) all0)
  have O61 : Old Z n0 T59.heap := O57.keep K59 (allS g_b55 all0)
  have f62 := (own_arrkeep (Ar50.ext E55) K59 (ninS (Nat.ne_of_lt (Nat.lt_of_lt_of_le (Nat.lt_of_lt_of_le V3.lt (Nat.le_trans (Nat.le_trans (Nat.le_trans (Nat.le_trans (Nat.le_trans (Nat.le_trans (Nat.le_trans (Nat.le_trans (Nat.le_trans (Nat.le_trans (Nat.le_trans E6.1 K9.1) (Keep.of_wr W14).1) E17.1) K20.1) (Keep.of_wr W25).1) E28.1) K31.1) (Keep.of_wr W36).1) E39.1) K42.1) (Keep.of_wr W47).1)) (Nat.le_of_eq g55.symm))) nin0))
  have f64 := (((((((((((((((HV_w58.ext E3).ext E6).keep K9 (ninS (Nat.ne_of_lt (Nat.lt_of_lt_of_le (Nat.lt_of_lt_of_le HV_w58.lt E3.1) (Nat.le_of_eq g6.symm))) nin0)).other W14 (Nat.ne_of_lt (Nat.lt_of_lt_of_le HV_w58.lt (Nat.le_of_eq g3.symm)))).ext E17).keep K20 (ninS (Nat.ne_of_lt (Nat.lt_of_lt_of_le (Nat.lt_of_lt_of_le HV_w58.lt (Nat.le_trans (Nat.le_trans (Nat.le_trans E3.1 E6.1) K9.1) (Keep.of_wr W14).1)) (Nat.le_of_eq g17.symm))) nin0)).other W25 (Nat.ne_of_lt (Nat.lt_of_lt_of_le HV_w58.lt (Nat.le_of_eq g3.symm)))).ext E28).keep K31 (ninS (Nat.ne_of_lt (Nat.lt_of_lt_of_le (Nat.lt_of_lt_of_le HV_w58.lt (Nat.le_trans (Nat.le_trans (Nat.le_trans (Nat.le_trans (Nat.le_trans (Nat.le_trans E3.1 E6.1) K9.1) (Keep.of_wr W14).1) E17.1) K20.1) (Keep.of_wr W25).1)) (Nat.le_of_eq g28.symm))) nin0)).other W36 (Nat.ne_of_lt (Nat.lt_of_lt_of_le HV_w58.lt (Nat.le_of_eq g3.symm)))).ext E39).keep K42 (ninS (Nat.ne_of_lt (Nat.lt_of_lt_of_le (Nat.lt_of_lt_of_le HV_w58.lt (Nat.le_trans (Nat.le_trans (Nat.le_trans (Nat.le_trans (Nat.le_trans (Nat.le_trans (Nat.le_trans (Nat.le_trans (Nat.le_trans E3.1 E6.1) K9.1) (Keep.of_wr W14).1) E17.1) K20.1) (Keep.of_wr W25).1) E28.1) K31.1) (Keep.of_wr W36).1)) (Nat.le_of_eq g39.symm))) nin0)).other W47 (Nat.ne_of_lt (Nat.lt_of_lt_of_le HV_w58.lt (Nat.le_of_eq g3.symm)))).ext E55).keep K59 (ninS (Nat.ne_of_lt (Nat.lt_of_lt_of_le (Nat.lt_of_lt_of_le HV_w58.lt (Nat.le_trans (Nat.le_trans (Nat.le_trans (Nat.le_trans (Nat.le_trans (Nat.le_trans (Nat.le_trans (Nat.le_trans (Nat.le_trans (Nat.le_trans (Nat.le_trans (Nat.le_trans E3.1 E6.1) K9.1) (Keep.of_wr W14).1) E17.1) K20.1) (Keep.of_wr W25).1) E28.1) K31.1) (Keep.of_wr W36).1) E39.1) K42.1) (Keep.of_wr W47).1)) (Nat.le_of_eq g55.symm))) nin0))
  have f65 := ((hxe0.ext E55).keep K59)
  obtain ⟨cq66, kq66, q66a, q66b, q66c⟩ := isOf hZ rfl Y59_0
  obtain ⟨vr66, _, ⟨T66, L66, k66, n66⟩, -, X66, ⟨Lc66, hQ66, l66, y66, z66⟩, st66⟩ := X59.virtualBack hx (y := (⟨"java/util/ArrayList", "add", "(Ljava/lang/Object;)Z"⟩ : MethodName)) (z := (⟨"java/util/ArrayList", "add", "(Ljava/lang/Object;)Z"⟩ : MethodName)) hown (mvT hZ (hw _ (List.mem_of_getElem? (i := 44) rfl))) (mvT hZ (hw _ (List.mem_of_getElem? (i := 45) rfl))) (notFace_of_selects (args := #[]) (mvT hZ (hw _ (List.mem_of_getElem? (i := 47) rfl)))) (mvT hZ (hw _ (List.mem_of_getElem? (i := 47) rfl))) (mvT hZ (hw _ (List.mem_of_getElem? (i := 46) rfl))) (by decide) (backOf (W := 0) (rm7f l Z a0 hw [] b55 xx0 ((0 : Int32)) v63 w58 T59.heap n0 O61 Y59_0 Y59_2 Y59_1 Y59_3 f64 g_b55 (Nat.ne_of_lt (Nat.lt_of_lt_of_le (Nat.lt_of_lt_of_le HV_w58.lt (Nat.le_trans (Nat.le_trans (Nat.le_trans (Nat.le_trans (Nat.le_trans (Nat.le_trans (Nat.le_trans (Nat.le_trans (Nat.le_trans (Nat.le_trans (Nat.le_trans (Nat.le_trans E3.1 E6.1) K9.1) (Keep.of_wr W14).1) E17.1) K20.1) (Keep.of_wr W25).1) E28.1) K31.1) (Keep.of_wr W36).1) E39.1) K42.1) (Keep.of_wr W47).1)) (Nat.le_of_eq g55.symm))) S_DEFAULTCAPACITY_EMPTY_ELEMENTDATA (Ins.of_exa f65 (hw _ (List.mem_of_getElem? (i := 74) rfl)))) hZ (hw _ (List.mem_of_getElem? (i := 48) rfl)) (hw _ (List.mem_of_getElem? (i := 22) rfl)) (by decide) (by decide)) q66a q66c (g := (mkF m 79 #[.val (.int p1), .val (.int p2), .val (.ref b3), .val (.int (1 : Int32)), .val (.int (p2 &&& (3 : Int32))), .val (.ref b55), .unset, .unset] [(.ref xx0), (.ref b55)])) rfl (by rw [hml]; rfl) (Steps.refl _) (argsL := [(.ref xx0)]) (rest := []) (lenOf pd_10 rfl) rfl (by show 2 * 0 + _ ≤ _; exact Nat.le_of_eq rfl) (hb hby at_79) (fun _ _ => ⟨rfl, rfl, (by decide : 6 + 1 ≤ _), (by decide : 15 + 10 ≤ _)⟩)
  dsimp only [Pt.U, Pt.locs, Pt.cells, Pt.slots] at X66 l66 y66 z66 st66 hQ66
  subst l66 y66 z66
  obtain ⟨b67, k68, rfl, N66q, K66, Y66_z0, Y66_0, Y66_1, Y66_2, Y66_3, Y66_4, Y66_5, Y66_6⟩ := hQ66
  have N66 := Fr.app N59 N66q
  replace X66 := X66.more (cells' := 7) (slots' := 25) (by decide) (by decide)
  have g_b67 : n0 ≤ b67 := Nat.le_trans (Nat.le_trans Z0 K60.1) Y66_z0
  have sz_b67 : h0.size ≤ b67 := Nat.le_trans K60.1 Y66_z0
  have K69 : Keep h0 T66.heap [] := K60.trans K66 (allS (Or.inr sz_b55) all0)
  have O70 : Old Z n0 T66.heap := O61.keep K66 (allS g_b55 all0)
  obtain ⟨T71, h71, X71, e71, E71, A71, D71, -, st71⟩ := newO X66 hx hZ hown (hw _ (List.mem_of_getElem? (i := 75) rfl)) (hw _ (List.mem_of_getElem? (i := 76) rfl)) (hw _ (List.mem_of_getElem? (i := 77) rfl)) rfl (g := (mkF m 140 #[.val (.int p1), .val (.int p2), .val (.ref b3), .val (.int (1 : Int32)), .val (.int (p2 &&& (3 : Int32))), .val (.ref b55), .unset, .unset] [])) rfl (hb hby at_140) (by decide) (by decide)
  obtain ⟨b71, g71⟩ : ∃ z, z = T66.heap.size := ⟨_, rfl⟩
  rw [← g71] at A71 D71 st71
  have g_b71 : n0 ≤ b71 := Nat.le_trans (Nat.le_trans Z0 K69.1) (Nat.le_of_eq g71.symm)
  have sz_b71 : h0.size ≤ b71 := Nat.le_trans K69.1 (Nat.le_of_eq g71.symm)
  have K72 : Keep h0 h71 [] := K69.ext E71
  have O73 : Old Z n0 h71 := O70.ext E71
  have F_source_b71 : Fld Z h71 b71 "com/example/wattle/wattle/DayAheadPrices" "source" "Ljava/lang/String;" .null := D71 (Or.inr (hw _ (List.mem_of_getElem? (i := 91) rfl))) (ty := (.object "java/lang/String")) (by decide)
  have F_hours_b71 : Fld Z h71 b71 "com/example/wattle/wattle/DayAheadPrices" "hours" "Ljava/util/List;" .null := D71 (Or.inr (hw _ (List.mem_of_getElem? (i := 179) rfl))) (ty := (.object "java/util/List")) (by decide)
  replace X71 := X71.more (cells' := 8) (slots' := 27) (by decide) (by decide)
  obtain ⟨b74, T74, h74, k74, X74, e74, E74, hS74, hk74, hZ74, ho74, st74⟩ := ldcS X71 hx hZ hown (hw _ (List.mem_of_getElem? (i := 78) rfl)) (fun d hd => hw d (own_strw d hd)) e71 hS0 (Nat.le_trans hk0 (Nat.le_trans (Nat.le_trans (Nat.le_trans (Nat.le_trans (Nat.le_trans (Nat.le_trans (Nat.le_trans (Nat.le_trans (Nat.le_trans (Nat.le_trans (Nat.le_trans (Nat.le_trans (Nat.le_trans (Nat.le_trans (Nat.le_trans (Nat.le_trans E3.1 E6.1) K9.1) (Keep.of_wr W14).1) E17.1) K20.1) (Keep.of_wr W25).1) E28.1) K31.1) (Keep.of_wr W36).1) E39.1) K42.1) (Keep.of_wr W47).1) E55.1) K59.1) K66.1) E71.1)) (g := (mkF m 144 #[.val (.int p1), .val (.int p2), .val (.ref b3), .val (.int (1 : Int32)), .val (.int (p2 &&& (3 : Int32))), .val (.ref b55), .unset, .unset] [(.ref b71), (.ref b71)])) rfl (hb hby at_144) (n := 24) (by decide) (by decide) (by decide) (by decide)
  have K75 : Keep h0 h74 [] := K72.ext E74
  have O76 : Old Z n0 h74 := O73.ext E74
  replace X74 := X74.more (cells' := 10) (slots' := 55) (by decide) (by decide)
  have f77 := (A71.ext E74)
  have f78 := (F_source_b71.ext E74)
  have f79 := ((Y66_0.ext E71).ext E74)
  have f80 := ((Y66_1.ext E71).ext E74)
  have f81 := ((Y66_3.ext E71).ext E74)
  have f82 := ((Y66_4.ext E71).ext E74)
  have f83 := ((Y66_5.ext E71).ext E74)
  have f84 := (((f65.keep K66).ext E71).ext E74)
  have f87 := (F_hours_b71.ext E74)
  obtain ⟨vr88, _, ⟨T88, L88, k88, n88⟩, -, X88, ⟨Lc88, hQ88, l88, y88, z88⟩, st88⟩ := X74.specialBack hx (y := (⟨"com/example/wattle/wattle/DayAheadPrices", "<init>", "(Ljava/lang/String;Ljava/util/List;)V"⟩ : MethodName)) rfl ho74 (mvT hZ74 (hw _ (List.mem_of_getElem? (i := 86) rfl))) (mvT hZ74 (hw _ (List.mem_of_getElem? (i := 87) rfl))) (mvT hZ74 (hw _ (List.mem_of_getElem? (i := 88) rfl))) (by decide) (backOf (W := 1) (rm12t1 l Z a0 hw [] b71 b74 b55 (.null) b67 k68 xx0 w85 w86 (.null) h74 n0 O76 f77 f78 g_b71 f79 f80 (Nat.ne_of_lt (Nat.lt_of_lt_of_le (Nat.lt_of_lt_of_le A55.lt (Nat.le_trans K59.1 K66.1)) (Nat.le_of_eq g71.symm))) f81 f82 f83 (Nat.ne_of_lt (Nat.lt_of_lt_of_le Y66_4.lt (Nat.le_of_eq g71.symm))) (Ins.of_exa f84 (hw _ (List.mem_of_getElem? (i := 74) rfl))) Mi__Ljava_lang_Object_ S_EMPTY f87) hZ74 (hw _ (List.mem_of_getElem? (i := 88) rfl)) (hw _ (List.mem_of_getElem? (i := 77) rfl)) (by decide) (by decide)) (g := (mkF m 148 #[.val (.int p1), .val (.int p2), .val (.ref b3), .val (.int (1 : Int32)), .val (.int (p2 &&& (3 : Int32))), .val (.ref b55), .unset, .unset] [(.ref b55), (.ref b74), (.ref b71), (.ref b71)])) rfl (by rw [hml]; rfl) (Steps.refl _) (a := b71) (argsL := [(.ref b74), (.ref b55)]) (rest := [(.ref b71)]) (lenOf pd_14 rfl) rfl (by show 2 * 0 + _ ≤ _; exact Nat.le_of_eq rfl) (hb hby at_148) (fun _ _ => ⟨rfl, e74, (by decide : 10 + 2 ≤ _), (by decide : 55 + 3 ≤ _)⟩)
  dsimp only [Pt.U, Pt.locs, Pt.cells, Pt.slots] at X88 l88 y88 z88 st88 hQ88
  subst l88 y88 z88
  obtain ⟨b89, rfl, N88q, K88, Y88_z0, Y88_0, Y88_1, Y88_2, Y88_3, Y88_4, Y88_5⟩ := hQ88
  have N88 := Fr.app N66 N88q
  replace X88 := X88.more (cells' := 12) (slots' := 58) (by decide) (by decide)
  have g_b89 : n0 ≤ b89 := Nat.le_trans (Nat.le_trans Z0 K75.1) Y88_z0
  have sz_b89 : h0.size ≤ b89 := Nat.le_trans K75.1 Y88_z0
  have K90 : Keep h0 T88.heap [] := K75.trans K88 (allS (Or.inr sz_b71) all0)
  have O91 : Old Z n0 T88.heap := O76.keep K88 (allS g_b71 all0)
  have f92 := (f84.keep K88)
  obtain ⟨cq93, kq93, q93a, q93b, q93c⟩ := isOf hZ74 rfl Y88_0
  obtain ⟨vr93, _, ⟨T93, L93, k93, n93⟩, -, X93, ⟨Lc93, hQ93, l93, y93, z93⟩, st93⟩ := X88.virtualBack hx (y := (⟨"com/example/wattle/wattle/DayAheadPrices", "first", "()Lcom/example/wattle/wattle/HourlyPrice;"⟩ : MethodName)) (z := (⟨"com/example/wattle/wattle/DayAheadPrices", "first", "()Lcom/example/wattle/wattle/HourlyPrice;"⟩ : MethodName)) ho74 (mvT hZ74 (hw _ (List.mem_of_getElem? (i := 180) rfl))) (mvT hZ74 (hw _ (List.mem_of_getElem? (i := 181) rfl))) (notFace_of_selects (args := #[]) (mvT hZ74 (hw _ (List.mem_of_getElem? (i := 183) rfl)))) (mvT hZ74 (hw _ (List.mem_of_getElem? (i := 183) rfl))) (mvT hZ74 (hw _ (List.mem_of_getElem? (i := 182) rfl))) (by decide) (backOf (W := 0) (rm25o l Z a0 hw [] b71 b89 xx0 T88.heap n0 O91 Y88_1 Y88_3 Y88_4 f92) hZ74 (hw _ (List.mem_of_getElem? (i := 184) rfl)) (hw _ (List.mem_of_getElem? (i := 77) rfl)) (by decide) (by decide)) q93a q93c (g := (mkF m 155 #[.val (.int p1), .val (.int p2), .val (.ref b3), .val (.int (1 : Int32)), .val (.int (p2 &&& (3 : Int32))), .val (.ref b55), .val (.ref b71), .unset] [(.ref b71)])) rfl (by rw [hml]; rfl) (Steps.refl _) (argsL := []) (rest := []) (lenOf pd_0 rfl) rfl (by show 2 * 0 + _ ≤ _; exact Nat.le_of_eq rfl) (hb hby at_155) (fun _ _ => ⟨rfl, rfl, (by decide : 12 + 0 ≤ _), (by decide : 58 + 0 ≤ _)⟩)
  dsimp only [Pt.U, Pt.locs, Pt.cells, Pt.slots] at X93 l93 y93 z93 st93 hQ93
  subst l93 y93 z93
  obtain ⟨rfl, N93q, e93⟩ := hQ93
  have N93 := Fr.app N88 N93q
  replace X93 := X93.more (cells' := 12) (slots' := 58) (by decide) (by decide)
  have f94 := (own_arrkeep (((own_arrkeep f62 K66 (ninS (Nat.ne_of_lt (Nat.lt_of_lt_of_le (Nat.lt_of_lt_of_le V3.lt (Nat.le_trans (Nat.le_trans (Nat.le_trans (Nat.le_trans (Nat.le_trans (Nat.le_trans (Nat.le_trans (Nat.le_trans (Nat.le_trans (Nat.le_trans (Nat.le_trans E6.1 K9.1) (Keep.of_wr W14).1) E17.1) K20.1) (Keep.of_wr W25).1) E28.1) K31.1) (Keep.of_wr W36).1) E39.1) K42.1) (Keep.of_wr W47).1)) (Nat.le_of_eq g55.symm))) nin0)).ext E71).ext E74) K88 (ninS (Nat.ne_of_lt (Nat.lt_of_lt_of_le (Nat.lt_of_lt_of_le V3.lt (Nat.le_trans (Nat.le_trans (Nat.le_trans (Nat.le_trans (Nat.le_trans (Nat.le_trans (Nat.le_trans (Nat.le_trans (Nat.le_trans (Nat.le_trans (Nat.le_trans (Nat.le_trans (Nat.le_trans (Nat.le_trans E6.1 K9.1) (Keep.of_wr W14).1) E17.1) K20.1) (Keep.of_wr W25).1) E28.1) K31.1) (Keep.of_wr W36).1) E39.1) K42.1) (Keep.of_wr W47).1) E55.1) K59.1) K66.1)) (Nat.le_of_eq g71.symm))) nin0))
  obtain ⟨fs, hr, hrun, hended, hend⟩ := X93.leaveW hS74 (by rw [e93]; exact (Nat.le_trans hk74 K88.1)) (v := some (.int (1 : Int32))) (fun h => by rw [Bd.returns] at h; cases h)
  refine ⟨_, _, pre0 _ ?_, hrun, hended, _, _, rfl, ?_, hend.1, hend.2.1, hend.2.2.1, hend.2.2.2.mono (by decide) (by decide)⟩
  · show Steps p.tables e below (s₁.setTop (mkF m 0 #[.val (.int p1), .val (.int p2), .unset, .unset, .unset, .unset, .unset, .unset] [])) _
    refine XS.iconst X0.here hx rfl (hb hby at_0) ?_
    show Steps p.tables e below (s₁.setTop (mkF m 1 #[.val (.int p1), .val (.int p2), .unset, .unset, .unset, .unset, .unset, .unset] [(.int (4 : Int32))])) _
    refine st3 _ ?_
    show Steps p.tables e below (T3.setTop (mkF m 4 #[.val (.int p1), .val (.int p2), .unset, .unset, .unset, .unset, .unset, .unset] [(.ref b3)])) _
    refine XS.astoreN X3.here hx rfl (hb hby at_4) rfl rfl (l' := #[.val (.int p1), .val (.int p2), .val (.ref b3), .unset, .unset, .unset, .unset, .unset]) rfl ?_
    show Steps p.tables e below (T3.setTop (mkF m 5 #[.val (.int p1), .val (.int p2), .val (.ref b3), .unset, .unset, .unset, .unset, .unset] [])) _
    refine XS.aloadN X3.here hx rfl (hb hby at_5) rfl rfl ?_
    show Steps p.tables e below (T3.setTop (mkF m 6 #[.val (.int p1), .val (.int p2), .val (.ref b3), .unset, .unset, .unset, .unset, .unset] [(.ref b3)])) _
    refine XS.iconst X3.here hx rfl (hb hby at_6) ?_
    show Steps p.tables e below (T3.setTop (mkF m 7 #[.val (.int p1), .val (.int p2), .val (.ref b3), .unset, .unset, .unset, .unset, .unset] [(.int (0 : Int32)), (.ref b3)])) _
    refine st6 _ ?_
    show Steps p.tables e below (T6.setTop (mkF m 10 #[.val (.int p1), .val (.int p2), .val (.ref b3), .unset, .unset, .unset, .unset, .unset] [(.ref b6), (.int (0 : Int32)), (.ref b3)])) _
    refine XS.dup X6.here hx rfl (hb hby at_10) rfl rfl ?_
    show Steps p.tables e below (T6.setTop (mkF m 11 #[.val (.int p1), .val (.int p2), .val (.ref b3), .unset, .unset, .unset, .unset, .unset] [(.ref b6), (.ref b6), (.int (0 : Int32)), (.ref b3)])) _
    refine XS.aconstNull X6.here hx rfl (hb hby at_11) ?_
    show Steps p.tables e below (T6.setTop (mkF m 12 #[.val (.int p1), .val (.int p2), .val (.ref b3), .unset, .unset, .unset, .unset, .unset] [.null, (.ref b6), (.ref b6), (.int (0 : Int32)), (.ref b3)])) _
    refine XS.aconstNull X6.here hx rfl (hb hby at_12) ?_
    show Steps p.tables e below (T6.setTop (mkF m 13 #[.val (.int p1), .val (.int p2), .val (.ref b3), .unset, .unset, .unset, .unset, .unset] [.null, .null, (.ref b6), (.ref b6), (.int (0 : Int32)), (.ref b3)])) _
    refine st9.trans ?_
    show Steps p.tables e below (T9.setTop (mkF m 16 #[.val (.int p1), .val (.int p2), .val (.ref b3), .unset, .unset, .unset, .unset, .unset] [(.ref b6), (.int (0 : Int32)), (.ref b3)])) _
    refine st14 _ ?_
    show Steps p.tables e below (T14.setTop (mkF m 17 #[.val (.int p1), .val (.int p2), .val (.ref b3), .unset, .unset, .unset, .unset, .unset] [])) _
    refine XS.aloadN X14.here hx rfl (hb hby at_17) rfl rfl ?_
    show Steps p.tables e below (T14.setTop (mkF m 18 #[.val (.int p1), .val (.int p2), .val (.ref b3), .unset, .unset, .unset, .unset, .unset] [(.ref b3)])) _
    refine XS.iconst X14.here hx rfl (hb hby at_18) ?_
    show Steps p.tables e below (T14.setTop (mkF m 19 #[.val (.int p1), .val (.int p2), .val (.ref b3), .unset, .unset, .unset, .unset, .unset] [(.int (1 : Int32)), (.ref b3)])) _
    refine st17 _ ?_
    show Steps p.tables e below (T17.setTop (mkF m 22 #[.val (.int p1), .val (.int p2), .val (.ref b3), .unset, .unset, .unset, .unset, .unset] [(.ref b17), (.int (1 : Int32)), (.ref b3)])) _
    refine XS.dup X17.here hx rfl (hb hby at_22) rfl rfl ?_
    show Steps p.tables e below (T17.setTop (mkF m 23 #[.val (.int p1), .val (.int p2), .val (.ref b3), .unset, .unset, .unset, .unset, .unset] [(.ref b17), (.ref b17), (.int (1 : Int32)), (.ref b3)])) _
    refine XS.aconstNull X17.here hx rfl (hb hby at_23) ?_
    show Steps p.tables e below (T17.setTop (mkF m 24 #[.val (.int p1), .val (.int p2), .val (.ref b3), .unset, .unset, .unset, .unset, .unset] [.null, (.ref b17), (.ref b17), (.int (1 : Int32)), (.ref b3)])) _
    refine XS.aconstNull X17.here hx rfl (hb hby at_24) ?_
    show Steps p.tables e below (T17.setTop (mkF m 25 #[.val (.int p1), .val (.int p2), .val (.ref b3), .unset, .unset, .unset, .unset, .unset] [.null, .null, (.ref b17), (.ref b17), (.int (1 : Int32)), (.ref b3)])) _
    refine st20.trans ?_
    show Steps p.tables e below (T20.setTop (mkF m 28 #[.val (.int p1), .val (.int p2), .val (.ref b3), .unset, .unset, .unset, .unset, .unset] [(.ref b17), (.int (1 : Int32)), (.ref b3)])) _
    refine st25 _ ?_
    show Steps p.tables e below (T25.setTop (mkF m 29 #[.val (.int p1), .val (.int p2), .val (.ref b3), .unset, .unset, .unset, .unset, .unset] [])) _
    refine XS.aloadN X25.here hx rfl (hb hby at_29) rfl rfl ?_
    show Steps p.tables e below (T25.setTop (mkF m 30 #[.val (.int p1), .val (.int p2), .val (.ref b3), .unset, .unset, .unset, .unset, .unset] [(.ref b3)])) _
    refine XS.iconst X25.here hx rfl (hb hby at_30) ?_
    show Steps p.tables e below (T25.setTop (mkF m 31 #[.val (.int p1), .val (.int p2), .val (.ref b3), .unset, .unset, .unset, .unset, .unset] [(.int (2 : Int32)), (.ref b3)])) _
    refine st28 _ ?_
    show Steps p.tables e below (T28.setTop (mkF m 34 #[.val (.int p1), .val (.int p2), .val (.ref b3), .unset, .unset, .unset, .unset, .unset] [(.ref b28), (.int (2 : Int32)), (.ref b3)])) _
    refine XS.dup X28.here hx rfl (hb hby at_34) rfl rfl ?_
    show Steps p.tables e below (T28.setTop (mkF m 35 #[.val (.int p1), .val (.int p2), .val (.ref b3), .unset, .unset, .unset, .unset, .unset] [(.ref b28), (.ref b28), (.int (2 : Int32)), (.ref b3)])) _
    refine XS.aconstNull X28.here hx rfl (hb hby at_35) ?_
    show Steps p.tables e below (T28.setTop (mkF m 36 #[.val (.int p1), .val (.int p2), .val (.ref b3), .unset, .unset, .unset, .unset, .unset] [.null, (.ref b28), (.ref b28), (.int (2 : Int32)), (.ref b3)])) _
    refine XS.aconstNull X28.here hx rfl (hb hby at_36) ?_
    show Steps p.tables e below (T28.setTop (mkF m 37 #[.val (.int p1), .val (.int p2), .val (.ref b3), .unset, .unset, .unset, .unset, .unset] [.null, .null, (.ref b28), (.ref b28), (.int (2 : Int32)), (.ref b3)])) _
    refine st31.trans ?_
    show Steps p.tables e below (T31.setTop (mkF m 40 #[.val (.int p1), .val (.int p2), .val (.ref b3), .unset, .unset, .unset, .unset, .unset] [(.ref b28), (.int (2 : Int32)), (.ref b3)])) _
    refine st36 _ ?_
    show Steps p.tables e below (T36.setTop (mkF m 41 #[.val (.int p1), .val (.int p2), .val (.ref b3), .unset, .unset, .unset, .unset, .unset] [])) _
    refine XS.aloadN X36.here hx rfl (hb hby at_41) rfl rfl ?_
    show Steps p.tables e below (T36.setTop (mkF m 42 #[.val (.int p1), .val (.int p2), .val (.ref b3), .unset, .unset, .unset, .unset, .unset] [(.ref b3)])) _
    refine XS.iconst X36.here hx rfl (hb hby at_42) ?_
    show Steps p.tables e below (T36.setTop (mkF m 43 #[.val (.int p1), .val (.int p2), .val (.ref b3), .unset, .unset, .unset, .unset, .unset] [(.int (3 : Int32)), (.ref b3)])) _
    refine st39 _ ?_
    show Steps p.tables e below (T39.setTop (mkF m 46 #[.val (.int p1), .val (.int p2), .val (.ref b3), .unset, .unset, .unset, .unset, .unset] [(.ref b39), (.int (3 : Int32)), (.ref b3)])) _
    refine XS.dup X39.here hx rfl (hb hby at_46) rfl rfl ?_
    show Steps p.tables e below (T39.setTop (mkF m 47 #[.val (.int p1), .val (.int p2), .val (.ref b3), .unset, .unset, .unset, .unset, .unset] [(.ref b39), (.ref b39), (.int (3 : Int32)), (.ref b3)])) _
    refine XS.aconstNull X39.here hx rfl (hb hby at_47) ?_
    show Steps p.tables e below (T39.setTop (mkF m 48 #[.val (.int p1), .val (.int p2), .val (.ref b3), .unset, .unset, .unset, .unset, .unset] [.null, (.ref b39), (.ref b39), (.int (3 : Int32)), (.ref b3)])) _
    refine XS.aconstNull X39.here hx rfl (hb hby at_48) ?_
    show Steps p.tables e below (T39.setTop (mkF m 49 #[.val (.int p1), .val (.int p2), .val (.ref b3), .unset, .unset, .unset, .unset, .unset] [.null, .null, (.ref b39), (.ref b39), (.int (3 : Int32)), (.ref b3)])) _
    refine st42.trans ?_
    show Steps p.tables e below (T42.setTop (mkF m 52 #[.val (.int p1), .val (.int p2), .val (.ref b3), .unset, .unset, .unset, .unset, .unset] [(.ref b39), (.int (3 : Int32)), (.ref b3)])) _
    refine st47 _ ?_
    show Steps p.tables e below (T47.setTop (mkF m 53 #[.val (.int p1), .val (.int p2), .val (.ref b3), .unset, .unset, .unset, .unset, .unset] [])) _
    refine XS.iconst X47.here hx rfl (hb hby at_53) ?_
    show Steps p.tables e below (T47.setTop (mkF m 54 #[.val (.int p1), .val (.int p2), .val (.ref b3), .unset, .unset, .unset, .unset, .unset] [(.int (1 : Int32))])) _
    refine XS.iloadN X47.here hx rfl (hb hby at_54) rfl ?_
    show Steps p.tables e below (T47.setTop (mkF m 55 #[.val (.int p1), .val (.int p2), .val (.ref b3), .unset, .unset, .unset, .unset, .unset] [(.int p1), (.int (1 : Int32))])) _
    refine XS.iconst X47.here hx rfl (hb hby at_55) ?_
    show Steps p.tables e below (T47.setTop (mkF m 56 #[.val (.int p1), .val (.int p2), .val (.ref b3), .unset, .unset, .unset, .unset, .unset] [(.int (3 : Int32)), (.int p1), (.int (1 : Int32))])) _
    refine XS.iand X47.here hx rfl (hb hby at_56) rfl ?_
    show Steps p.tables e below (T47.setTop (mkF m 57 #[.val (.int p1), .val (.int p2), .val (.ref b3), .unset, .unset, .unset, .unset, .unset] [(.int (p1 &&& (3 : Int32))), (.int (1 : Int32))])) _
    refine XS.iadd X47.here hx rfl (hb hby at_57) rfl ?_
    show Steps p.tables e below (T47.setTop (mkF m 58 #[.val (.int p1), .val (.int p2), .val (.ref b3), .unset, .unset, .unset, .unset, .unset] [(.int ((1 : Int32) + (p1 &&& (3 : Int32))))])) _
    refine XS.istoreN X47.here hx rfl (hb hby at_58) rfl (l' := #[.val (.int p1), .val (.int p2), .val (.ref b3), .val (.int ((1 : Int32) + (p1 &&& (3 : Int32)))), .unset, .unset, .unset, .unset]) rfl ?_
    show Steps p.tables e below (T47.setTop (mkF m 59 #[.val (.int p1), .val (.int p2), .val (.ref b3), .val (.int ((1 : Int32) + (p1 &&& (3 : Int32)))), .unset, .unset, .unset, .unset] [])) _
    rw [hn59]
    show Steps p.tables e below (T47.setTop (mkF m 59 #[.val (.int p1), .val (.int p2), .val (.ref b3), .val (.int (1 : Int32)), .unset, .unset, .unset, .unset] [])) _
    refine XS.iloadN X47.here hx rfl (hb hby at_59) rfl ?_
    show Steps p.tables e below (T47.setTop (mkF m 60 #[.val (.int p1), .val (.int p2), .val (.ref b3), .val (.int (1 : Int32)), .unset, .unset, .unset, .unset] [(.int p2)])) _
    refine XS.iconst X47.here hx rfl (hb hby at_60) ?_
    show Steps p.tables e below (T47.setTop (mkF m 61 #[.val (.int p1), .val (.int p2), .val (.ref b3), .val (.int (1 : Int32)), .unset, .unset, .unset, .unset] [(.int (3 : Int32)), (.int p2)])) _
    refine XS.iand X47.here hx rfl (hb hby at_61) rfl ?_
    show Steps p.tables e below (T47.setTop (mkF m 62 #[.val (.int p1), .val (.int p2), .val (.ref b3), .val (.int (1 : Int32)), .unset, .unset, .unset, .unset] [(.int (p2 &&& (3 : Int32)))])) _
    refine XS.istore X47.here hx rfl (hb hby at_62) rfl (l' := #[.val (.int p1), .val (.int p2), .val (.ref b3), .val (.int (1 : Int32)), .val (.int (p2 &&& (3 : Int32))), .unset, .unset, .unset]) rfl ?_
    show Steps p.tables e below (T47.setTop (mkF m 64 #[.val (.int p1), .val (.int p2), .val (.ref b3), .val (.int (1 : Int32)), .val (.int (p2 &&& (3 : Int32))), .unset, .unset, .unset] [])) _
    refine st55 _ ?_
    show Steps p.tables e below (T55.setTop (mkF m 67 #[.val (.int p1), .val (.int p2), .val (.ref b3), .val (.int (1 : Int32)), .val (.int (p2 &&& (3 : Int32))), .unset, .unset, .unset] [(.ref b55)])) _
    refine XS.dup X55.here hx rfl (hb hby at_67) rfl rfl ?_
    show Steps p.tables e below (T55.setTop (mkF m 68 #[.val (.int p1), .val (.int p2), .val (.ref b3), .val (.int (1 : Int32)), .val (.int (p2 &&& (3 : Int32))), .unset, .unset, .unset] [(.ref b55), (.ref b55)])) _
    refine st59.trans ?_
    show Steps p.tables e below (T59.setTop (mkF m 71 #[.val (.int p1), .val (.int p2), .val (.ref b3), .val (.int (1 : Int32)), .val (.int (p2 &&& (3 : Int32))), .unset, .unset, .unset] [(.ref b55)])) _
    refine XS.astore X59.here hx rfl (hb hby at_71) rfl rfl (l' := #[.val (.int p1), .val (.int p2), .val (.ref b3), .val (.int (1 : Int32)), .val (.int (p2 &&& (3 : Int32))), .val (.ref b55), .unset, .unset]) rfl ?_
    show Steps p.tables e below (T59.setTop (mkF m 73 #[.val (.int p1), .val (.int p2), .val (.ref b3), .val (.int (1 : Int32)), .val (.int (p2 &&& (3 : Int32))), .val (.ref b55), .unset, .unset] [])) _
    refine XS.aload X59.here hx rfl (hb hby at_73) rfl rfl ?_
    show Steps p.tables e below (T59.setTop (mkF m 75 #[.val (.int p1), .val (.int p2), .val (.ref b3), .val (.int (1 : Int32)), .val (.int (p2 &&& (3 : Int32))), .val (.ref b55), .unset, .unset] [(.ref b55)])) _
    refine XS.aloadN X59.here hx rfl (hb hby at_75) rfl rfl ?_
    show Steps p.tables e below (T59.setTop (mkF m 76 #[.val (.int p1), .val (.int p2), .val (.ref b3), .val (.int (1 : Int32)), .val (.int (p2 &&& (3 : Int32))), .val (.ref b55), .unset, .unset] [(.ref b3), (.ref b55)])) _
    refine XS.iload X59.here hx rfl (hb hby at_76) rfl ?_
    show Steps p.tables e below (T59.setTop (mkF m 78 #[.val (.int p1), .val (.int p2), .val (.ref b3), .val (.int (1 : Int32)), .val (.int (p2 &&& (3 : Int32))), .val (.ref b55), .unset, .unset] [(.int (p2 &&& (3 : Int32))), (.ref b3), (.ref b55)])) _
    refine X59.aaload hx (j := (p2 &&& (3 : Int32))) (v := (.ref xx0)) f62.1 (State.isArrayOf_alike hZ.alike f62.2.1) rfl f62.2.2 hxi0 hxa0 (g := (mkF m 78 #[.val (.int p1), .val (.int p2), .val (.ref b3), .val (.int (1 : Int32)), .val (.int (p2 &&& (3 : Int32))), .val (.ref b55), .unset, .unset] [(.int (p2 &&& (3 : Int32))), (.ref b3), (.ref b55)])) rfl rfl (hb hby at_78) _ ?_
    show Steps p.tables e below (T59.setTop (mkF m 79 #[.val (.int p1), .val (.int p2), .val (.ref b3), .val (.int (1 : Int32)), .val (.int (p2 &&& (3 : Int32))), .val (.ref b55), .unset, .unset] [(.ref xx0), (.ref b55)])) _
    refine st66.trans ?_
    show Steps p.tables e below (T66.setTop (mkF m 82 #[.val (.int p1), .val (.int p2), .val (.ref b3), .val (.int (1 : Int32)), .val (.int (p2 &&& (3 : Int32))), .val (.ref b55), .unset, .unset] [(.int (1 : Int32))])) _
    refine XS.pop X66.here hx rfl (hb hby at_82) rfl rfl ?_
    show Steps p.tables e below (T66.setTop (mkF m 83 #[.val (.int p1), .val (.int p2), .val (.ref b3), .val (.int (1 : Int32)), .val (.int (p2 &&& (3 : Int32))), .val (.ref b55), .unset, .unset] [])) _
    refine XS.iloadN X66.here hx rfl (hb hby at_83) rfl ?_
    show Steps p.tables e below (T66.setTop (mkF m 84 #[.val (.int p1), .val (.int p2), .val (.ref b3), .val (.int (1 : Int32)), .val (.int (p2 &&& (3 : Int32))), .val (.ref b55), .unset, .unset] [(.int (1 : Int32))])) _
    refine XS.iconst X66.here hx rfl (hb hby at_84) ?_
    show Steps p.tables e below (T66.setTop (mkF m 85 #[.val (.int p1), .val (.int p2), .val (.ref b3), .val (.int (1 : Int32)), .val (.int (p2 &&& (3 : Int32))), .val (.ref b55), .unset, .unset] [(.int (1 : Int32)), (.int (1 : Int32))])) _
    refine XS.icmpYes X66.here hx rfl (pc0 := 85) (pc' := 102) rfl (hb hby at_85) rfl (flt (by decide : ¬ ((1 : Int32) < (1 : Int32)))).2.2.2 (by decide) (by decide) ?_
    show Steps p.tables e below (T66.setTop (mkF m 102 #[.val (.int p1), .val (.int p2), .val (.ref b3), .val (.int (1 : Int32)), .val (.int (p2 &&& (3 : Int32))), .val (.ref b55), .unset, .unset] [])) _
    refine XS.iloadN X66.here hx rfl (hb hby at_102) rfl ?_
    show Steps p.tables e below (T66.setTop (mkF m 103 #[.val (.int p1), .val (.int p2), .val (.ref b3), .val (.int (1 : Int32)), .val (.int (p2 &&& (3 : Int32))), .val (.ref b55), .unset, .unset] [(.int (1 : Int32))])) _
    refine XS.iconst X66.here hx rfl (hb hby at_103) ?_
    show Steps p.tables e below (T66.setTop (mkF m 104 #[.val (.int p1), .val (.int p2), .val (.ref b3), .val (.int (1 : Int32)), .val (.int (p2 &&& (3 : Int32))), .val (.ref b55), .unset, .unset] [(.int (2 : Int32)), (.int (1 : Int32))])) _
    refine XS.icmpYes X66.here hx rfl (pc0 := 104) (pc' := 121) rfl (hb hby at_104) rfl (flt (by decide : ¬ ((2 : Int32) < (1 : Int32)))).2.2.2 (by decide) (by decide) ?_
    show Steps p.tables e below (T66.setTop (mkF m 121 #[.val (.int p1), .val (.int p2), .val (.ref b3), .val (.int (1 : Int32)), .val (.int (p2 &&& (3 : Int32))), .val (.ref b55), .unset, .unset] [])) _
    refine XS.iloadN X66.here hx rfl (hb hby at_121) rfl ?_
    show Steps p.tables e below (T66.setTop (mkF m 122 #[.val (.int p1), .val (.int p2), .val (.ref b3), .val (.int (1 : Int32)), .val (.int (p2 &&& (3 : Int32))), .val (.ref b55), .unset, .unset] [(.int (1 : Int32))])) _
    refine XS.iconst X66.here hx rfl (hb hby at_122) ?_
    show Steps p.tables e below (T66.setTop (mkF m 123 #[.val (.int p1), .val (.int p2), .val (.ref b3), .val (.int (1 : Int32)), .val (.int (p2 &&& (3 : Int32))), .val (.ref b55), .unset, .unset] [(.int (3 : Int32)), (.int (1 : Int32))])) _
    refine XS.icmpYes X66.here hx rfl (pc0 := 123) (pc' := 140) rfl (hb hby at_123) rfl (flt (by decide : ¬ ((3 : Int32) < (1 : Int32)))).2.2.2 (by decide) (by decide) ?_
    show Steps p.tables e below (T66.setTop (mkF m 140 #[.val (.int p1), .val (.int p2), .val (.ref b3), .val (.int (1 : Int32)), .val (.int (p2 &&& (3 : Int32))), .val (.ref b55), .unset, .unset] [])) _
    refine st71 _ ?_
    show Steps p.tables e below (T71.setTop (mkF m 143 #[.val (.int p1), .val (.int p2), .val (.ref b3), .val (.int (1 : Int32)), .val (.int (p2 &&& (3 : Int32))), .val (.ref b55), .unset, .unset] [(.ref b71)])) _
    refine XS.dup X71.here hx rfl (hb hby at_143) rfl rfl ?_
    show Steps p.tables e below (T71.setTop (mkF m 144 #[.val (.int p1), .val (.int p2), .val (.ref b3), .val (.int (1 : Int32)), .val (.int (p2 &&& (3 : Int32))), .val (.ref b55), .unset, .unset] [(.ref b71), (.ref b71)])) _
    refine st74 _ ?_
    show Steps p.tables e below (T74.setTop (mkF m 146 #[.val (.int p1), .val (.int p2), .val (.ref b3), .val (.int (1 : Int32)), .val (.int (p2 &&& (3 : Int32))), .val (.ref b55), .unset, .unset] [(.ref b74), (.ref b71), (.ref b71)])) _
    refine XS.aload X74.here hx rfl (hb hby at_146) rfl rfl ?_
    show Steps p.tables e below (T74.setTop (mkF m 148 #[.val (.int p1), .val (.int p2), .val (.ref b3), .val (.int (1 : Int32)), .val (.int (p2 &&& (3 : Int32))), .val (.ref b55), .unset, .unset] [(.ref b55), (.ref b74), (.ref b71), (.ref b71)])) _
    refine st88.trans ?_
    show Steps p.tables e below (T88.setTop (mkF m 151 #[.val (.int p1), .val (.int p2), .val (.ref b3), .val (.int (1 : Int32)), .val (.int (p2 &&& (3 : Int32))), .val (.ref b55), .unset, .unset] [(.ref b71)])) _
    refine XS.astore X88.here hx rfl (hb hby at_151) rfl rfl (l' := #[.val (.int p1), .val (.int p2), .val (.ref b3), .val (.int (1 : Int32)), .val (.int (p2 &&& (3 : Int32))), .val (.ref b55), .val (.ref b71), .unset]) rfl ?_
    show Steps p.tables e below (T88.setTop (mkF m 153 #[.val (.int p1), .val (.int p2), .val (.ref b3), .val (.int (1 : Int32)), .val (.int (p2 &&& (3 : Int32))), .val (.ref b55), .val (.ref b71), .unset] [])) _
    refine XS.aload X88.here hx rfl (hb hby at_153) rfl rfl ?_
    show Steps p.tables e below (T88.setTop (mkF m 155 #[.val (.int p1), .val (.int p2), .val (.ref b3), .val (.int (1 : Int32)), .val (.int (p2 &&& (3 : Int32))), .val (.ref b55), .val (.ref b71), .unset] [(.ref b71)])) _
    refine st93.trans ?_
    show Steps p.tables e below (T93.setTop (mkF m 158 #[.val (.int p1), .val (.int p2), .val (.ref b3), .val (.int (1 : Int32)), .val (.int (p2 &&& (3 : Int32))), .val (.ref b55), .val (.ref b71), .unset] [(.ref xx0)])) _
    refine XS.astore X93.here hx rfl (hb hby at_158) rfl rfl (l' := #[.val (.int p1), .val (.int p2), .val (.ref b3), .val (.int (1 : Int32)), .val (.int (p2 &&& (3 : Int32))), .val (.ref b55), .val (.ref b71), .val (.ref xx0)]) rfl ?_
    show Steps p.tables e below (T93.setTop (mkF m 160 #[.val (.int p1), .val (.int p2), .val (.ref b3), .val (.int (1 : Int32)), .val (.int (p2 &&& (3 : Int32))), .val (.ref b55), .val (.ref b71), .val (.ref xx0)] [])) _
    refine XS.aload X93.here hx rfl (hb hby at_160) rfl rfl ?_
    show Steps p.tables e below (T93.setTop (mkF m 162 #[.val (.int p1), .val (.int p2), .val (.ref b3), .val (.int (1 : Int32)), .val (.int (p2 &&& (3 : Int32))), .val (.ref b55), .val (.ref b71), .val (.ref xx0)] [(.ref xx0)])) _
    refine XS.aloadN X93.here hx rfl (hb hby at_162) rfl rfl ?_
    show Steps p.tables e below (T93.setTop (mkF m 163 #[.val (.int p1), .val (.int p2), .val (.ref b3), .val (.int (1 : Int32)), .val (.int (p2 &&& (3 : Int32))), .val (.ref b55), .val (.ref b71), .val (.ref xx0)] [(.ref b3), (.ref xx0)])) _
    refine XS.iload X93.here hx rfl (hb hby at_163) rfl ?_
    show Steps p.tables e below (T93.setTop (mkF m 165 #[.val (.int p1), .val (.int p2), .val (.ref b3), .val (.int (1 : Int32)), .val (.int (p2 &&& (3 : Int32))), .val (.ref b55), .val (.ref b71), .val (.ref xx0)] [(.int (p2 &&& (3 : Int32))), (.ref b3), (.ref xx0)])) _
    refine X93.aaload hx (j := (p2 &&& (3 : Int32))) (v := (.ref xx0)) (by rw [e93]; exact f94.1) (State.isArrayOf_alike hZ74.alike f94.2.1) rfl f94.2.2 hxi0 hxa0 (g := (mkF m 165 #[.val (.int p1), .val (.int p2), .val (.ref b3), .val (.int (1 : Int32)), .val (.int (p2 &&& (3 : Int32))), .val (.ref b55), .val (.ref b71), .val (.ref xx0)] [(.int (p2 &&& (3 : Int32))), (.ref b3), (.ref xx0)])) rfl rfl (hb hby at_165) _ ?_
    show Steps p.tables e below (T93.setTop (mkF m 166 #[.val (.int p1), .val (.int p2), .val (.ref b3), .val (.int (1 : Int32)), .val (.int (p2 &&& (3 : Int32))), .val (.ref b55), .val (.ref b71), .val (.ref xx0)] [(.ref xx0), (.ref xx0)])) _
    refine Jvm.RoadKit.acmp (g := (mkF m 166 #[.val (.int p1), .val (.int p2), .val (.ref b3), .val (.int (1 : Int32)), .val (.int (p2 &&& (3 : Int32))), .val (.ref b55), .val (.ref b71), .val (.ref xx0)] [(.ref xx0), (.ref xx0)])) X93 hx rfl rfl rfl (pc0 := 166) (pc' := 169) (same := true) rfl (hb hby at_166) rfl (decide_eq_true rfl) (by decide) (by decide) ?_
    show Steps p.tables e below (T93.setTop (mkF m 169 #[.val (.int p1), .val (.int p2), .val (.ref b3), .val (.int (1 : Int32)), .val (.int (p2 &&& (3 : Int32))), .val (.ref b55), .val (.ref b71), .val (.ref xx0)] [])) _
    refine XS.iconst X93.here hx rfl (hb hby at_169) ?_
    show Steps p.tables e below (T93.setTop (mkF m 170 #[.val (.int p1), .val (.int p2), .val (.ref b3), .val (.int (1 : Int32)), .val (.int (p2 &&& (3 : Int32))), .val (.ref b55), .val (.ref b71), .val (.ref xx0)] [(.int (1 : Int32))])) _
    refine XS.goto X93.here hx rfl (pc0 := 170) (pc' := 174) rfl (hb hby at_170) (by decide) (by decide) ?_
    show Steps p.tables e below (T93.setTop (mkF m 174 #[.val (.int p1), .val (.int p2), .val (.ref b3), .val (.int (1 : Int32)), .val (.int (p2 &&& (3 : Int32))), .val (.ref b55), .val (.ref b71), .val (.ref xx0)] [(.int (1 : Int32))])) _
    exact retN X93 hx (t := .boolean) Bd.returns (by simp) (hb hby at_174) hr
  · skip
    exact ⟨rfl, N93⟩
set_option maxRecDepth 65536 in
set_option maxHeartbeats 40000000 in
theorem rm0n2 (l : Launch) (Z : State) (a0 : Array Value) (hw : ∀ d ∈ tables_1, d.before a0 Z = true) (ws : List Jvm.Cond) (p1 p2 : Int32) (w58 : Addr) (v63 : ClassId) (w91 : Addr) (h0 : Heap) (n0 : Nat) (O0 : Old Z n0 h0) (hn59 : ((1 : Int32) + (p1 &&& (3 : Int32))) = (2 : Int32)) (S_DEFAULTCAPACITY_EMPTY_ELEMENTDATA : Sta Z Z.heap "java/util/ArrayList" "DEFAULTCAPACITY_EMPTY_ELEMENTDATA" "[Ljava/lang/Object;" (.ref w58)) (HV_w58 : Arv Z h0 w58 v63 (.object "java/lang/Object") (0 : Int32) [] .null) (Mi__Ljava_lang_Object_ : own_Mir Z "[Ljava/lang/Object;" w91) :
    own_Met l Z ws #[(.int p1), (.int p2)] h0 n0 := by
  refine MetFree.of_bodySF (plainFor_of_name pnc_com_example_wattle_wattle_DayAheadPricesFirstPinLaw) hisR ?_
  intro p e s m args below meth c s₁ Bd hml0 hP hK
  obtain ⟨rfl, hZ_, hh⟩ := hP
  have hx := Bd.exec
  have hby := Bd.bytes
  have hml : c.maxLocals = 8 := hml0
  have hown : s.vm.findClass "com/example/wattle/wattle/DayAheadPricesFirstPinLaw" = some m.cls := findClass_of_methodNamed Bd.named
  have hnm := (name_of_methodNamed Bd.named Bd.method).1
  have X0 : Stand p l e room_1 (s.setVm s.vm) m #[(.int p1), (.int p2)] below meth c s₁ [] 0 0 := Stand.of_body Bd
  have hZ : Z.Warmed39 (s.setVm s.vm).vm := hZ_
  have hS0 : s.Since s.vm s.heap.size := (State.WarmedH.refl s).since s.heap.size
  have hk0 : s.heap.size ≤ h0.size := Nat.le_of_eq (by rw [hh])
  have e0 : s₁.heap = h0 := by rw [← hh, Bd.state]; rfl
  have N0 := Fr.nil n0
  have Z0 : n0 ≤ h0.size := O0.1 ▸ O0.2.1
  have pre0 : ∀ t, Steps p.tables e below (s₁.setTop (mkF m 0 #[.val (.int p1), .val (.int p2), .unset, .unset, .unset, .unset, .unset, .unset] [])) t → Steps p.tables e below (s₁.setTop (entryFrame m #[(.int p1), (.int p2)] maxLocals)) t := fun t k => castTop (ef_0 m p1 p2) k
  obtain ⟨T3, h3, k3, X3, e3, E3, A3, B3, Ov3, st3⟩ := newRE X0 hx hZ hown (hw _ (List.mem_of_getElem? (i := 0) rfl)) (hw _ (List.mem_of_getElem? (i := 1) rfl)) e0 (g := (mkF m 1 #[.val (.int p1), .val (.int p2), .unset, .unset, .unset, .unset, .unset, .unset] [(.int (4 : Int32))])) rfl (hb hby at_1) rfl (by decide) (cap := 4) (by decide) (by decide) (by decide) (by decide) (ad := "[Lcom/example/wattle/wattle/HourlyPrice;") (by decide)
  obtain ⟨b3, g3⟩ : ∃ z, z = h0.size := ⟨_, rfl⟩
  rw [← g3] at A3 B3 st3
  have g_b3 : n0 ≤ b3 := Nat.le_trans (Nat.le_trans Z0 (Keep.refl h0 []).1) (Nat.le_of_eq g3.symm)
  have sz_b3 : h0.size ≤ b3 := Nat.le_trans (Keep.refl h0 []).1 (Nat.le_of_eq g3.symm)
  have K4 : Keep h0 h3 [] := (Keep.refl h0 []).ext E3
  have O5 : Old Z n0 h3 := O0.ext E3
  have V3 : Arv Z h3 b3 k3 (.object "com/example/wattle/wattle/HourlyPrice") (4 : Int32) [.null, .null, .null, .null] .null := (Arv.new A3 (by decide)).pad (pad_rep [] .null 4)
  replace X3 := X3.more (cells' := 1) (slots' := 4) (by decide) (by decide)
  obtain ⟨T6, h6, X6, e6, E6, A6, D6, -, st6⟩ := newO X3 hx hZ hown (hw _ (List.mem_of_getElem? (i := 0) rfl)) (hw _ (List.mem_of_getElem? (i := 2) rfl)) (hw _ (List.mem_of_getElem? (i := 3) rfl)) e3 (g := (mkF m 7 #[.val (.int p1), .val (.int p2), .val (.ref b3), .unset, .unset, .unset, .unset, .unset] [(.int (0 : Int32)), (.ref b3)])) rfl (hb hby at_7) (by decide) (by decide)
  obtain ⟨b6, g6⟩ : ∃ z, z = h3.size := ⟨_, rfl⟩
  rw [← g6] at A6 D6 st6
  have g_b6 : n0 ≤ b6 := Nat.le_trans (Nat.le_trans Z0 K4.1) (Nat.le_of_eq g6.symm)
  have sz_b6 : h0.size ≤ b6 := Nat.le_trans K4.1 (Nat.le_of_eq g6.symm)
  have K7 : Keep h0 h6 [] := K4.ext E6
  have O8 : Old Z n0 h6 := O5.ext E6
  have F_hour_b6 : Fld Z h6 b6 "com/example/wattle/wattle/HourlyPrice" "hour" "Ljava/time/OffsetDateTime;" .null := D6 (Or.inr (hw _ (List.mem_of_getElem? (i := 16) rfl))) (ty := (.object "java/time/OffsetDateTime")) (by decide)
  have F_price_b6 : Fld Z h6 b6 "com/example/wattle/wattle/HourlyPrice" "price" "Ljava/math/BigDecimal;" .null := D6 (Or.inr (hw _ (List.mem_of_getElem? (i := 18) rfl))) (ty := (.object "java/math/BigDecimal")) (by decide)
  replace X6 := X6.more (cells' := 2) (slots' := 6) (by decide) (by decide)
  obtain ⟨vr9, _, ⟨T9, L9, k9, n9⟩, -, X9, ⟨Lc9, hQ9, l9, y9, z9⟩, st9⟩ := X6.specialBack hx (y := (⟨"com/example/wattle/wattle/HourlyPrice", "<init>", "(Ljava/time/OffsetDateTime;Ljava/math/BigDecimal;)V"⟩ : MethodName)) rfl hown (mvT hZ (hw _ (List.mem_of_getElem? (i := 4) rfl))) (mvT hZ (hw _ (List.mem_of_getElem? (i := 5) rfl))) (mvT hZ (hw _ (List.mem_of_getElem? (i := 6) rfl))) (by decide) (backOf (W := 3) (rm1 l Z a0 hw [] b6 (.null) (.null) h6 n0 O8 A6 F_hour_b6 g_b6 F_price_b6) hZ (hw _ (List.mem_of_getElem? (i := 6) rfl)) (hw _ (List.mem_of_getElem? (i := 3) rfl)) (by decide) (by decide)) (g := (mkF m 13 #[.val (.int p1), .val (.int p2), .val (.ref b3), .unset, .unset, .unset, .unset, .unset] [.null, .null, (.ref b6), (.ref b6), (.int (0 : Int32)), (.ref b3)])) rfl (by rw [hml]; rfl) (Steps.refl _) (a := b6) (argsL := [.null, .null]) (rest := [(.ref b6), (.int (0 : Int32)), (.ref b3)]) (lenOf pd_15 rfl) rfl (by show 2 * 0 + _ ≤ _; exact Nat.le_of_eq rfl) (hb hby at_13) (fun _ _ => ⟨rfl, e6, (by decide : 2 + 0 ≤ _), (by decide : 6 + 0 ≤ _)⟩)
  dsimp only [Pt.U, Pt.locs, Pt.cells, Pt.slots] at X9 l9 y9 z9 st9 hQ9
  subst l9 y9 z9
  obtain ⟨rfl, N9q, K9, Y9_0, Y9_1, Y9_2⟩ := hQ9
  have N9 := Fr.app N0 N9q
  replace X9 := X9.more (cells' := 2) (slots' := 6) (by decide) (by decide)
  have K10 : Keep h0 T9.heap [] := K7.trans K9 (allS (Or.inr sz_b6) all0)
  have O11 : Old Z n0 T9.heap := O8.keep K9 (allS g_b6 all0)
  have f12 := ((V3.ext E6).keep K9 (ninS (Nat.ne_of_lt (Nat.lt_of_lt_of_le V3.lt (Nat.le_of_eq g6.symm))) nin0))
  obtain ⟨cl13, Ar13, q13, S13, Nn13, Hh13, G13⟩ := id f12
  have hin13 : ¬ ((0 : Int32) < 0 ∨ cl13.slots.size ≤ ((0 : Int32)).toNatClampNeg) := inb_of S13 ⟨by decide, by decide⟩
  obtain ⟨T14, h14, X14, e14, W14, st14⟩ := stR X9 hx hZ rfl Ar13 (j := (0 : Int32)) hin13 rfl (Sto.ofV Ar13 q13 Ov3 (Ins.self Y9_0)) (g := (mkF m 16 #[.val (.int p1), .val (.int p2), .val (.ref b3), .unset, .unset, .unset, .unset, .unset] [(.ref b6), (.int (0 : Int32)), (.ref b3)])) rfl rfl (hb hby at_16)
  have N14 := Fr.snoc X14 N9 g_b3
  have K15 : Keep h0 h14 [] := K10.wr W14 (Or.inr sz_b3)
  have O16 : Old Z n0 h14 := O11.wr W14 g_b3
  have V14 : Arv Z h14 b3 k3 (.object "com/example/wattle/wattle/HourlyPrice") (4 : Int32) [(.ref b6), .null, .null, .null] .null := Arv.set Ar13 q13 S13 Nn13 Hh13 G13 rfl W14 0 rfl (Nat.le_of_ble_eq_true rfl)
  obtain ⟨T17, h17, X17, e17, E17, A17, D17, -, st17⟩ := newO X14 hx hZ hown (hw _ (List.mem_of_getElem? (i := 0) rfl)) (hw _ (List.mem_of_getElem? (i := 2) rfl)) (hw _ (List.mem_of_getElem? (i := 3) rfl)) e14 (g := (mkF m 19 #[.val (.int p1), .val (.int p2), .val (.ref b3), .unset, .unset, .unset, .unset, .unset] [(.int (1 : Int32)), (.ref b3)])) rfl (hb hby at_19) (by decide) (by decide)
  obtain ⟨b17, g17⟩ : ∃ z, z = h14.size := ⟨_, rfl⟩
  rw [← g17] at A17 D17 st17
  have g_b17 : n0 ≤ b17 := Nat.le_trans (Nat.le_trans Z0 K15.1) (Nat.le_of_eq g17.symm)
  have sz_b17 : h0.size ≤ b17 := Nat.le_trans K15.1 (Nat.le_of_eq g17.symm)
  have K18 : Keep h0 h17 [] := K15.ext E17
  have O19 : Old Z n0 h17 := O16.ext E17
  have F_hour_b17 : Fld Z h17 b17 "com/example/wattle/wattle/HourlyPrice" "hour" "Ljava/time/OffsetDateTime;" .null := D17 (Or.inr (hw _ (List.mem_of_getElem? (i := 16) rfl))) (ty := (.object "java/time/OffsetDateTime")) (by decide)
  have F_price_b17 : Fld Z h17 b17 "com/example/wattle/wattle/HourlyPrice" "price" "Ljava/math/BigDecimal;" .null := D17 (Or.inr (hw _ (List.mem_of_getElem? (i := 18) rfl))) (ty := (.object "java/math/BigDecimal")) (by decide)
  replace X17 := X17.more (cells' := 3) (slots' := 8) (by decide) (by decide)
  obtain ⟨vr20, _, ⟨T20, L20, k20, n20⟩, -, X20, ⟨Lc20, hQ20, l20, y20, z20⟩, st20⟩ := X17.specialBack hx (y := (⟨"com/example/wattle/wattle/HourlyPrice", "<init>", "(Ljava/time/OffsetDateTime;Ljava/math/BigDecimal;)V"⟩ : MethodName)) rfl hown (mvT hZ (hw _ (List.mem_of_getElem? (i := 4) rfl))) (mvT hZ (hw _ (List.mem_of_getElem? (i := 5) rfl))) (mvT hZ (hw _ (List.mem_of_getElem? (i := 6) rfl))) (by decide) (backOf (W := 3) (rm1 l Z a0 hw [] b17 (.null) (.null) h17 n0 O19 A17 F_hour_b17 g_b17 F_price_b17) hZ (hw _ (List.mem_of_getElem? (i := 6) rfl)) (hw _ (List.mem_of_getElem? (i := 3) rfl)) (by decide) (by decide)) (g := (mkF m 25 #[.val (.int p1), .val (.int p2), .val (.ref b3), .unset, .unset, .unset, .unset, .unset] [.null, .null, (.ref b17), (.ref b17), (.int (1 : Int32)), (.ref b3)])) rfl (by rw [hml]; rfl) (Steps.refl _) (a := b17) (argsL := [.null, .null]) (rest := [(.ref b17), (.int (1 : Int32)), (.ref b3)]) (lenOf pd_15 rfl) rfl (by show 2 * 0 + _ ≤ _; exact Nat.le_of_eq rfl) (hb hby at_25) (fun _ _ => ⟨rfl, e17, (by decide : 3 + 0 ≤ _), (by decide : 8 + 0 ≤ _)⟩)
  dsimp only [Pt.U, Pt.locs, Pt.cells, Pt.slots] at X20 l20 y20 z20 st20 hQ20
  subst l20 y20 z20
  obtain ⟨rfl, N20q, K20, Y20_0, Y20_1, Y20_2⟩ := hQ20
  have N20 := Fr.app N14 N20q
  replace X20 := X20.more (cells' := 3) (slots' := 8) (by decide) (by decide)
  have K21 : Keep h0 T20.heap [] := K18.trans K20 (allS (Or.inr sz_b17) all0)
  have O22 : Old Z n0 T20.heap := O19.keep K20 (allS g_b17 all0)
  have f23 := ((V14.ext E17).keep K20 (ninS (Nat.ne_of_lt (Nat.lt_of_lt_of_le (Nat.lt_of_lt_of_le V3.lt (Nat.le_trans (Nat.le_trans E6.1 K9.1) (Keep.of_wr W14).1)) (Nat.le_of_eq g17.symm))) nin0))
  obtain ⟨cl24, Ar24, q24, S24, Nn24, Hh24, G24⟩ := id f23
  have hin24 : ¬ ((1 : Int32) < 0 ∨ cl24.slots.size ≤ ((1 : Int32)).toNatClampNeg) := inb_of S24 ⟨by decide, by decide⟩
  obtain ⟨T25, h25, X25, e25, W25, st25⟩ := stR X20 hx hZ rfl Ar24 (j := (1 : Int32)) hin24 rfl (Sto.ofV Ar24 q24 Ov3 (Ins.self Y20_0)) (g := (mkF m 28 #[.val (.int p1), .val (.int p2), .val (.ref b3), .unset, .unset, .unset, .unset, .unset] [(.ref b17), (.int (1 : Int32)), (.ref b3)])) rfl rfl (hb hby at_28)
  have N25 := Fr.snoc X25 N20 g_b3
  have K26 : Keep h0 h25 [] := K21.wr W25 (Or.inr sz_b3)
  have O27 : Old Z n0 h25 := O22.wr W25 g_b3
  have V25 : Arv Z h25 b3 k3 (.object "com/example/wattle/wattle/HourlyPrice") (4 : Int32) [(.ref b6), (.ref b17), .null, .null] .null := Arv.set Ar24 q24 S24 Nn24 Hh24 G24 rfl W25 1 rfl (Nat.le_of_ble_eq_true rfl)
  obtain ⟨T28, h28, X28, e28, E28, A28, D28, -, st28⟩ := newO X25 hx hZ hown (hw _ (List.mem_of_getElem? (i := 0) rfl)) (hw _ (List.mem_of_getElem? (i := 2) rfl)) (hw _ (List.mem_of_getElem? (i := 3) rfl)) e25 (g := (mkF m 31 #[.val (.int p1), .val (.int p2), .val (.ref b3), .unset, .unset, .unset, .unset, .unset] [(.int (2 : Int32)), (.ref b3)])) rfl (hb hby at_31) (by decide) (by decide)
  obtain ⟨b28, g28⟩ : ∃ z, z = h25.size := ⟨_, rfl⟩
  rw [← g28] at A28 D28 st28
  have g_b28 : n0 ≤ b28 := Nat.le_trans (Nat.le_trans Z0 K26.1) (Nat.le_of_eq g28.symm)
  have sz_b28 : h0.size ≤ b28 := Nat.le_trans K26.1 (Nat.le_of_eq g28.symm)
  have K29 : Keep h0 h28 [] := K26.ext E28
  have O30 : Old Z n0 h28 := O27.ext E28
  have F_hour_b28 : Fld Z h28 b28 "com/example/wattle/wattle/HourlyPrice" "hour" "Ljava/time/OffsetDateTime;" .null := D28 (Or.inr (hw _ (List.mem_of_getElem? (i := 16) rfl))) (ty := (.object "java/time/OffsetDateTime")) (by decide)
  have F_price_b28 : Fld Z h28 b28 "com/example/wattle/wattle/HourlyPrice" "price" "Ljava/math/BigDecimal;" .null := D28 (Or.inr (hw _ (List.mem_of_getElem? (i := 18) rfl))) (ty := (.object "java/math/BigDecimal")) (by decide)
  replace X28 := X28.more (cells' := 4) (slots' := 10) (by decide) (by decide)
  obtain ⟨vr31, _, ⟨T31, L31, k31, n31⟩, -, X31, ⟨Lc31, hQ31, l31, y31, z31⟩, st31⟩ := X28.specialBack hx (y := (⟨"com/example/wattle/wattle/HourlyPrice", "<init>", "(Ljava/time/OffsetDateTime;Ljava/math/BigDecimal;)V"⟩ : MethodName)) rfl hown (mvT hZ (hw _ (List.mem_of_getElem? (i := 4) rfl))) (mvT hZ (hw _ (List.mem_of_getElem? (i := 5) rfl))) (mvT hZ (hw _ (List.mem_of_getElem? (i := 6) rfl))) (by decide) (backOf (W := 3) (rm1 l Z a0 hw [] b28 (.null) (.null) h28 n0 O30 A28 F_hour_b28 g_b28 F_price_b28) hZ (hw _ (List.mem_of_getElem? (i := 6) rfl)) (hw _ (List.mem_of_getElem? (i := 3) rfl)) (by decide) (by decide)) (g := (mkF m 37 #[.val (.int p1), .val (.int p2), .val (.ref b3), .unset, .unset, .unset, .unset, .unset] [.null, .null, (.ref b28), (.ref b28), (.int (2 : Int32)), (.ref b3)])) rfl (by rw [hml]; rfl) (Steps.refl _) (a := b28) (argsL := [.null, .null]) (rest := [(.ref b28), (.int (2 : Int32)), (.ref b3)]) (lenOf pd_15 rfl) rfl (by show 2 * 0 + _ ≤ _; exact Nat.le_of_eq rfl) (hb hby at_37) (fun _ _ => ⟨rfl, e28, (by decide : 4 + 0 ≤ _), (by decide : 10 + 0 ≤ _)⟩)
  dsimp only [Pt.U, Pt.locs, Pt.cells, Pt.slots] at X31 l31 y31 z31 st31 hQ31
  subst l31 y31 z31
  obtain ⟨rfl, N31q, K31, Y31_0, Y31_1, Y31_2⟩ := hQ31
  have N31 := Fr.app N25 N31q
  replace X31 := X31.more (cells' := 4) (slots' := 10) (by decide) (by decide)
  have K32 : Keep h0 T31.heap [] := K29.trans K31 (allS (Or.inr sz_b28) all0)
  have O33 : Old Z n0 T31.heap := O30.keep K31 (allS g_b28 all0)
  have f34 := ((V25.ext E28).keep K31 (ninS (Nat.ne_of_lt (Nat.lt_of_lt_of_le (Nat.lt_of_lt_of_le V3.lt (Nat.le_trans (Nat.le_trans (Nat.le_trans (Nat.le_trans (Nat.le_trans E6.1 K9.1) (Keep.of_wr W14).1) E17.1) K20.1) (Keep.of_wr W25).1)) (Nat.le_of_eq g28.symm))) nin0))
  obtain ⟨cl35, Ar35, q35, S35, Nn35, Hh35, G35⟩ := id f34
  have hin35 : ¬ ((2 : Int32) < 0 ∨ cl35.slots.size ≤ ((2 : Int32)).toNatClampNeg) := inb_of S35 ⟨by decide, by decide⟩
  obtain ⟨T36, h36, X36, e36, W36, st36⟩ := stR X31 hx hZ rfl Ar35 (j := (2 : Int32)) hin35 rfl (Sto.ofV Ar35 q35 Ov3 (Ins.self Y31_0)) (g := (mkF m 40 #[.val (.int p1), .val (.int p2), .val (.ref b3), .unset, .unset, .unset, .unset, .unset] [(.ref b28), (.int (2 : Int32)), (.ref b3)])) rfl rfl (hb hby at_40)
  have N36 := Fr.snoc X36 N31 g_b3
  have K37 : Keep h0 h36 [] := K32.wr W36 (Or.inr sz_b3)
  have O38 : Old Z n0 h36 := O33.wr W36 g_b3
  have V36 : Arv Z h36 b3 k3 (.object "com/example/wattle/wattle/HourlyPrice") (4 : Int32) [(.ref b6), (.ref b17), (.ref b28), .null] .null := Arv.set Ar35 q35 S35 Nn35 Hh35 G35 rfl W36 2 rfl (Nat.le_of_ble_eq_true rfl)
  obtain ⟨T39, h39, X39, e39, E39, A39, D39, -, st39⟩ := newO X36 hx hZ hown (hw _ (List.mem_of_getElem? (i := 0) rfl)) (hw _ (List.mem_of_getElem? (i := 2) rfl)) (hw _ (List.mem_of_getElem? (i := 3) rfl)) e36 (g := (mkF m 43 #[.val (.int p1), .val (.int p2), .val (.ref b3), .unset, .unset, .unset, .unset, .unset] [(.int (3 : Int32)), (.ref b3)])) rfl (hb hby at_43) (by decide) (by decide)
  obtain ⟨b39, g39⟩ : ∃ z, z = h36.size := ⟨_, rfl⟩
  rw [← g39] at A39 D39 st39
  have g_b39 : n0 ≤ b39 := Nat.le_trans (Nat.le_trans Z0 K37.1) (Nat.le_of_eq g39.symm)
  have sz_b39 : h0.size ≤ b39 := Nat.le_trans K37.1 (Nat.le_of_eq g39.symm)
  have K40 : Keep h0 h39 [] := K37.ext E39
  have O41 : Old Z n0 h39 := O38.ext E39
  have F_hour_b39 : Fld Z h39 b39 "com/example/wattle/wattle/HourlyPrice" "hour" "Ljava/time/OffsetDateTime;" .null := D39 (Or.inr (hw _ (List.mem_of_getElem? (i := 16) rfl))) (ty := (.object "java/time/OffsetDateTime")) (by decide)
  have F_price_b39 : Fld Z h39 b39 "com/example/wattle/wattle/HourlyPrice" "price" "Ljava/math/BigDecimal;" .null := D39 (Or.inr (hw _ (List.mem_of_getElem? (i := 18) rfl))) (ty := (.object "java/math/BigDecimal")) (by decide)
  replace X39 := X39.more (cells' := 5) (slots' := 12) (by decide) (by decide)
  obtain ⟨vr42, _, ⟨T42, L42, k42, n42⟩, -, X42, ⟨Lc42, hQ42, l42, y42, z42⟩, st42⟩ := X39.specialBack hx (y := (⟨"com/example/wattle/wattle/HourlyPrice", "<init>", "(Ljava/time/OffsetDateTime;Ljava/math/BigDecimal;)V"⟩ : MethodName)) rfl hown (mvT hZ (hw _ (List.mem_of_getElem? (i := 4) rfl))) (mvT hZ (hw _ (List.mem_of_getElem? (i := 5) rfl))) (mvT hZ (hw _ (List.mem_of_getElem? (i := 6) rfl))) (by decide) (backOf (W := 3) (rm1 l Z a0 hw [] b39 (.null) (.null) h39 n0 O41 A39 F_hour_b39 g_b39 F_price_b39) hZ (hw _ (List.mem_of_getElem? (i := 6) rfl)) (hw _ (List.mem_of_getElem? (i := 3) rfl)) (by decide) (by decide)) (g := (mkF m 49 #[.val (.int p1), .val (.int p2), .val (.ref b3), .unset, .unset, .unset, .unset, .unset] [.null, .null, (.ref b39), (.ref b39), (.int (3 : Int32)), (.ref b3)])) rfl (by rw [hml]; rfl) (Steps.refl _) (a := b39) (argsL := [.null, .null]) (rest := [(.ref b39), (.int (3 : Int32)), (.ref b3)]) (lenOf pd_15 rfl) rfl (by show 2 * 0 + _ ≤ _; exact Nat.le_of_eq rfl) (hb hby at_49) (fun _ _ => ⟨rfl, e39, (by decide : 5 + 0 ≤ _), (by decide : 12 + 0 ≤ _)⟩)
  dsimp only [Pt.U, Pt.locs, Pt.cells, Pt.slots] at X42 l42 y42 z42 st42 hQ42
  subst l42 y42 z42
  obtain ⟨rfl, N42q, K42, Y42_0, Y42_1, Y42_2⟩ := hQ42
  have N42 := Fr.app N36 N42q
  replace X42 := X42.more (cells' := 5) (slots' := 12) (by decide) (by decide)
  have K43 : Keep h0 T42.heap [] := K40.trans K42 (allS (Or.inr sz_b39) all0)
  have O44 : Old Z n0 T42.heap := O41.keep K42 (allS g_b39 all0)
  have f45 := ((V36.ext E39).keep K42 (ninS (Nat.ne_of_lt (Nat.lt_of_lt_of_le (Nat.lt_of_lt_of_le V3.lt (Nat.le_trans (Nat.le_trans (Nat.le_trans (Nat.le_trans (Nat.le_trans (Nat.le_trans (Nat.le_trans (Nat.le_trans E6.1 K9.1) (Keep.of_wr W14).1) E17.1) K20.1) (Keep.of_wr W25).1) E28.1) K31.1) (Keep.of_wr W36).1)) (Nat.le_of_eq g39.symm))) nin0))
  obtain ⟨cl46, Ar46, q46, S46, Nn46, Hh46, G46⟩ := id f45
  have hin46 : ¬ ((3 : Int32) < 0 ∨ cl46.slots.size ≤ ((3 : Int32)).toNatClampNeg) := inb_of S46 ⟨by decide, by decide⟩
  obtain ⟨T47, h47, X47, e47, W47, st47⟩ := stR X42 hx hZ rfl Ar46 (j := (3 : Int32)) hin46 rfl (Sto.ofV Ar46 q46 Ov3 (Ins.self Y42_0)) (g := (mkF m 52 #[.val (.int p1), .val (.int p2), .val (.ref b3), .unset, .unset, .unset, .unset, .unset] [(.ref b39), (.int (3 : Int32)), (.ref b3)])) rfl rfl (hb hby at_52)
  have N47 := Fr.snoc X47 N42 g_b3
  have K48 : Keep h0 h47 [] := K43.wr W47 (Or.inr sz_b3)
  have O49 : Old Z n0 h47 := O44.wr W47 g_b3
  have V47 : Arv Z h47 b3 k3 (.object "com/example/wattle/wattle/HourlyPrice") (4 : Int32) [(.ref b6), (.ref b17), (.ref b28), (.ref b39)] .null := Arv.set Ar46 q46 S46 Nn46 Hh46 G46 rfl W47 3 rfl (Nat.le_of_ble_eq_true rfl)
  obtain ⟨cl50, Ar50, q50, S50, Nn50, Hh50, G50⟩ := id V47
  have f51 := ((((((((((Y9_0.wr W14).ext E17).keep K20).wr W25).ext E28).keep K31).wr W36).ext E39).keep K42).wr W47)
  have f52 := (((((((Y20_0.wr W25).ext E28).keep K31).wr W36).ext E39).keep K42).wr W47)
  have f53 := ((((Y31_0.wr W36).ext E39).keep K42).wr W47)
  have f54 := (Y42_0.wr W47)
  obtain ⟨xx0, hxi0, hxa0, hxe0⟩ := own_pick4 S50 Hh50 f51 f52 f53 f54 p2
  obtain ⟨xx1, hxi1, hxa1, hxe1⟩ := own_pick4 S50 Hh50 f51 f52 f53 f54 ((p2 &&& (3 : Int32)) + (1 : Int32))
  obtain ⟨xx2, hxi2, hxa2, hxe2⟩ := own_pick4 S50 Hh50 f51 f52 f53 f54 ((p2 &&& (3 : Int32)) + (2 : Int32))
  obtain ⟨xx3, hxi3, hxa3, hxe3⟩ := own_pick4 S50 Hh50 f51 f52 f53 f54 ((p2 &&& (3 : Int32)) + (3 : Int32))
  obtain ⟨T55, h55, X55, e55, E55, A55, D55, -, st55⟩ := newO X47 hx hZ hown (hw _ (List.mem_of_getElem? (i := 20) rfl)) (hw _ (List.mem_of_getElem? (i := 21) rfl)) (hw _ (List.mem_of_getElem? (i := 22) rfl)) e47 (g := (mkF m 64 #[.val (.int p1), .val (.int p2), .val (.ref b3), .val (.int (2 : Int32)), .val (.int (p2 &&& (3 : Int32))), .unset, .unset, .unset] [])) rfl (hb hby at_64) (by decide) (by decide)
  obtain ⟨b55, g55⟩ : ∃ z, z = h47.size := ⟨_, rfl⟩
  rw [← g55] at A55 D55 st55
  have g_b55 : n0 ≤ b55 := Nat.le_trans (Nat.le_trans Z0 K48.1) (Nat.le_of_eq g55.symm)
  have sz_b55 : h0.size ≤ b55 := Nat.le_trans K48.1 (Nat.le_of_eq g55.symm)
  have K56 : Keep h0 h55 [] := K48.ext E55
  have O57 : Old Z n0 h55 := O49.ext E55
  have F_modCount_b55 : Fld Z h55 b55 "java/util/AbstractList" "modCount" "I" (.int (0 : Int32)) := D55 (Or.inl (hw _ (List.mem_of_getElem? (i := 40) rfl))) (ty := .int) (by decide)
  have F_elementData_b55 : Fld Z h55 b55 "java/util/ArrayList" "elementData" "[Ljava/lang/Object;" .null := D55 (Or.inl (hw _ (List.mem_of_getElem? (i := 43) rfl))) (ty := (.array (.object "java/lang/Object"))) (by decide)
  have F_size_b55 : Fld Z h55 b55 "java/util/ArrayList" "size" "I" (.int (0 : Int32)) := D55 (Or.inl (hw _ (List.mem_of_getElem? (i := 52) rfl))) (ty := .int) (by decide)
  replace X55 := X55.more (cells' := 6) (slots' := 15) (by decide) (by decide)
  obtain ⟨vr59, _, ⟨T59, L59, k59, n59⟩, -, X59, ⟨Lc59, hQ59, l59, y59, z59⟩, st59⟩ := X55.specialBack hx (y := (⟨"java/util/ArrayList", "<init>", "()V"⟩ : MethodName)) rfl hown (mvT hZ (hw _ (List.mem_of_getElem? (i := 23) rfl))) (mvT hZ (hw _ (List.mem_of_getElem? (i := 24) rfl))) (mvT hZ (hw _ (List.mem_of_getElem? (i := 25) rfl))) (by decide) (backOf (W := 1) (rm4 l Z a0 hw [] b55 ((.int (0 : Int32))) (.null) ((.int (0 : Int32))) w58 h55 n0 O57 A55 F_modCount_b55 F_elementData_b55 F_size_b55 g_b55 S_DEFAULTCAPACITY_EMPTY_ELEMENTDATA) hZ (hw _ (List.mem_of_getElem? (i := 25) rfl)) (hw _ (List.mem_of_getElem? (i := 22) rfl)) (by decide) (by decide)) (g := (mkF m 68 #[.val (.int p1), .val (.int p2), .val (.ref b3), .val (.int (2 : Int32)), .val (.int (p2 &&& (3 : Int32))), .unset, .unset, .unset] [(.ref b55), (.ref b55)])) rfl (by rw [hml]; rfl) (Steps.refl _) (a := b55) (argsL := []) (rest := [(.ref b55)]) (lenOf pd_2 rfl) rfl (by show 2 * 0 + _ ≤ _; exact Nat.le_of_eq rfl) (hb hby at_68) (fun _ _ => ⟨rfl, e55, (by decide : 6 + 0 ≤ _), (by decide : 15 + 0 ≤ _)⟩)
  dsimp only [Pt.U, Pt.locs, Pt.cells, Pt.slots] at X59 l59 y59 z59 st59 hQ59
  subst l59 y59 z59
  obtain ⟨rfl, N59q, K59, Y59_0, Y59_1, Y59_2, Y59_3⟩ := hQ59
  have N59 := Fr.app N47 N59q
  replace X59 := X59.more (cells' := 6) (slots' := 15) (by decide) (by decide)
  have K60 : Keep h0 T59.heap [] := K56.trans K59 (allS (Or.inr sz_b55) all0)
  have O61 : Old Z n0 T59.heap := O57.keep K59 (allS g_b55 all0)
  have f62 := (own_arrkeep (Ar50.ext E55) K59 (ninS (Nat.ne_of_lt (Nat.lt_of_lt_of_le (Nat.lt_of_lt_of_le V3.lt (Nat.le_trans (Nat.le_trans (Nat.le_trans (Nat.le_trans (Nat.le_trans (Nat.le_trans (Nat.le_trans (Nat.le_trans (Nat.le_trans (Nat.le_trans (Nat.le_trans E6.1 K9.1) (Keep.of_wr W14).1) E17.1) K20.1) (Keep.of_wr W25).1) E28.1) K31.1) (Keep.of_wr W36).1) E39.1) K42.1) (Keep.of_wr W47).1)) (Nat.le_of_eq g55.symm))) nin0))
  have f64 := (((((((((((((((HV_w58.ext E3).ext E6).keep K9 (ninS (Nat.ne_of_lt (Nat.lt_of_lt_of_le (Nat.lt_of_lt_of_le HV_w58.lt E3.1) (Nat.le_of_eq g6.symm))) nin0)).other W14 (Nat.ne_of_lt (Nat.lt_of_lt_of_le HV_w58.lt (Nat.le_of_eq g3.symm)))).ext E17).keep K20 (ninS (Nat.ne_of_lt (Nat.lt_of_lt_of_le (Nat.lt_of_lt_of_le HV_w58.lt (Nat.le_trans (Nat.le_trans (Nat.le_trans E3.1 E6.1) K9.1) (Keep.of_wr W14).1)) (Nat.le_of_eq g17.symm))) nin0)).other W25 (Nat.ne_of_lt (Nat.lt_of_lt_of_le HV_w58.lt (Nat.le_of_eq g3.symm)))).ext E28).keep K31 (ninS (Nat.ne_of_lt (Nat.lt_of_lt_of_le (Nat.lt_of_lt_of_le HV_w58.lt (Nat.le_trans (Nat.le_trans (Nat.le_trans (Nat.le_trans (Nat.le_trans (Nat.le_trans E3.1 E6.1) K9.1) (Keep.of_wr W14).1) E17.1) K20.1) (Keep.of_wr W25).1)) (Nat.le_of_eq g28.symm))) nin0)).other W36 (Nat.ne_of_lt (Nat.lt_of_lt_of_le HV_w58.lt (Nat.le_of_eq g3.symm)))).ext E39).keep K42 (ninS (Nat.ne_of_lt (Nat.lt_of_lt_of_le (Nat.lt_of_lt_of_le HV_w58.lt (Nat.le_trans (Nat.le_trans (Nat.le_trans (Nat.le_trans (Nat.le_trans (Nat.le_trans (Nat.le_trans (Nat.le_trans (Nat.le_trans E3.1 E6.1) K9.1) (Keep.of_wr W14).1) E17.1) K20.1) (Keep.of_wr W25).1) E28.1) K31.1) (Keep.of_wr W36).1)) (Nat.le_of_eq g39.symm))) nin0)).other W47 (Nat.ne_of_lt (Nat.lt_of_lt_of_le HV_w58.lt (Nat.le_of_eq g3.symm)))).ext E55).keep K59 (ninS (Nat.ne_of_lt (Nat.lt_of_lt_of_le (Nat.lt_of_lt_of_le HV_w58.lt (Nat.le_trans (Nat.le_trans (Nat.le_trans (Nat.le_trans (Nat.le_trans (Nat.le_trans (Nat.le_trans (Nat.le_trans (Nat.le_trans (Nat.le_trans (Nat.le_trans (Nat.le_trans E3.1 E6.1) K9.1) (Keep.of_wr W14).1) E17.1) K20.1) (Keep.of_wr W25).1) E28.1) K31.1) (Keep.of_wr W36).1) E39.1) K42.1) (Keep.of_wr W47).1)) (Nat.le_of_eq g55.symm))) nin0))
  have f65 := ((hxe0.ext E55).keep K59)
  obtain ⟨cq66, kq66, q66a, q66b, q66c⟩ := isOf hZ rfl Y59_0
  obtain ⟨vr66, _, ⟨T66, L66, k66, n66⟩, -, X66, ⟨Lc66, hQ66, l66, y66, z66⟩, st66⟩ := X59.virtualBack hx (y := (⟨"java/util/ArrayList", "add", "(Ljava/lang/Object;)Z"⟩ : MethodName)) (z := (⟨"java/util/ArrayList", "add", "(Ljava/lang/Object;)Z"⟩ : MethodName)) hown (mvT hZ (hw _ (List.mem_of_getElem? (i := 44) rfl))) (mvT hZ (hw _ (List.mem_of_getElem? (i := 45) rfl))) (notFace_of_selects (args := #[]) (mvT hZ (hw _ (List.mem_of_getElem? (i := 47) rfl)))) (mvT hZ (hw _ (List.mem_of_getElem? (i := 47) rfl))) (mvT hZ (hw _ (List.mem_of_getElem? (i := 46) rfl))) (by decide) (backOf (W := 0) (rm7f l Z a0 hw [] b55 xx0 ((0 : Int32)) v63 w58 T59.heap n0 O61 Y59_0 Y59_2 Y59_1 Y59_3 f64 g_b55 (Nat.ne_of_lt (Nat.lt_of_lt_of_le (Nat.lt_of_lt_of_le HV_w58.lt (Nat.le_trans (Nat.le_trans (Nat.le_trans (Nat.le_trans (Nat.le_trans (Nat.le_trans (Nat.le_trans (Nat.le_trans (Nat.le_trans (Nat.le_trans (Nat.le_trans (Nat.le_trans E3.1 E6.1) K9.1) (Keep.of_wr W14).1) E17.1) K20.1) (Keep.of_wr W25).1) E28.1) K31.1) (Keep.of_wr W36).1) E39.1) K42.1) (Keep.of_wr W47).1)) (Nat.le_of_eq g55.symm))) S_DEFAULTCAPACITY_EMPTY_ELEMENTDATA (Ins.of_exa f65 (hw _ (List.mem_of_getElem? (i := 74) rfl)))) hZ (hw _ (List.mem_of_getElem? (i := 48) rfl)) (hw _ (List.mem_of_getElem? (i := 22) rfl)) (by decide) (by decide)) q66a q66c (g := (mkF m 79 #[.val (.int p1), .val (.int p2), .val (.ref b3), .val (.int (2 : Int32)), .val (.int (p2 &&& (3 : Int32))), .val (.ref b55), .unset, .unset] [(.ref xx0), (.ref b55)])) rfl (by rw [hml]; rfl) (Steps.refl _) (argsL := [(.ref xx0)]) (rest := []) (lenOf pd_10 rfl) rfl (by show 2 * 0 + _ ≤ _; exact Nat.le_of_eq rfl) (hb hby at_79) (fun _ _ => ⟨rfl, rfl, (by decide : 6 + 1 ≤ _), (by decide : 15 + 10 ≤ _)⟩)
  dsimp only [Pt.U, Pt.locs, Pt.cells, Pt.slots] at X66 l66 y66 z66 st66 hQ66
  subst l66 y66 z66
  obtain ⟨b67, k68, rfl, N66q, K66, Y66_z0, Y66_0, Y66_1, Y66_2, Y66_3, Y66_4, Y66_5, Y66_6⟩ := hQ66
  have N66 := Fr.app N59 N66q
  replace X66 := X66.more (cells' := 7) (slots' := 25) (by decide) (by decide)
  have g_b67 : n0 ≤ b67 := Nat.le_trans (Nat.le_trans Z0 K60.1) Y66_z0
  have sz_b67 : h0.size ≤ b67 := Nat.le_trans K60.1 Y66_z0
  have K69 : Keep h0 T66.heap [] := K60.trans K66 (allS (Or.inr sz_b55) all0)
  have O70 : Old Z n0 T66.heap := O61.keep K66 (allS g_b55 all0)
  have f71 := (own_arrkeep f62 K66 (ninS (Nat.ne_of_lt (Nat.lt_of_lt_of_le (Nat.lt_of_lt_of_le V3.lt (Nat.le_trans (Nat.le_trans (Nat.le_trans (Nat.le_trans (Nat.le_trans (Nat.le_trans (Nat.le_trans (Nat.le_trans (Nat.le_trans (Nat.le_trans (Nat.le_trans E6.1 K9.1) (Keep.of_wr W14).1) E17.1) K20.1) (Keep.of_wr W25).1) E28.1) K31.1) (Keep.of_wr W36).1) E39.1) K42.1) (Keep.of_wr W47).1)) (Nat.le_of_eq g55.symm))) nin0))
  have f72 := (((hxe1.ext E55).keep K59).keep K66)
  obtain ⟨cq73, kq73, q73a, q73b, q73c⟩ := isOf hZ rfl Y66_0
  obtain ⟨vr73, _, ⟨T73, L73, k73, n73⟩, -, X73, ⟨Lc73, hQ73, l73, y73, z73⟩, st73⟩ := X66.virtualBack hx (y := (⟨"java/util/ArrayList", "add", "(Ljava/lang/Object;)Z"⟩ : MethodName)) (z := (⟨"java/util/ArrayList", "add", "(Ljava/lang/Object;)Z"⟩ : MethodName)) hown (mvT hZ (hw _ (List.mem_of_getElem? (i := 44) rfl))) (mvT hZ (hw _ (List.mem_of_getElem? (i := 45) rfl))) (notFace_of_selects (args := #[]) (mvT hZ (hw _ (List.mem_of_getElem? (i := 47) rfl)))) (mvT hZ (hw _ (List.mem_of_getElem? (i := 47) rfl))) (mvT hZ (hw _ (List.mem_of_getElem? (i := 46) rfl))) (by decide) (backOf (W := 0) (rm7r1a l Z a0 hw [] b55 xx1 (((0 : Int32) + (1 : Int32))) k68 xx0 b67 T66.heap n0 O70 Y66_0 Y66_2 Y66_1 Y66_3 Y66_4 Y66_5 Y66_6 g_b55 (Ne.symm (Nat.ne_of_lt (Nat.lt_of_lt_of_le (Nat.lt_of_lt_of_le A55.lt K59.1) Y66_z0))) (Ins.of_exa f72 (hw _ (List.mem_of_getElem? (i := 74) rfl))) g_b67) hZ (hw _ (List.mem_of_getElem? (i := 48) rfl)) (hw _ (List.mem_of_getElem? (i := 22) rfl)) (by decide) (by decide)) q73a q73c (g := (mkF m 98 #[.val (.int p1), .val (.int p2), .val (.ref b3), .val (.int (2 : Int32)), .val (.int (p2 &&& (3 : Int32))), .val (.ref b55), .unset, .unset] [(.ref xx1), (.ref b55)])) rfl (by rw [hml]; rfl) (Steps.refl _) (argsL := [(.ref xx1)]) (rest := []) (lenOf pd_10 rfl) rfl (by show 2 * 0 + _ ≤ _; exact Nat.le_of_eq rfl) (hb hby at_98) (fun _ _ => ⟨rfl, rfl, (by decide : 7 + 0 ≤ _), (by decide : 25 + 0 ≤ _)⟩)
  dsimp only [Pt.U, Pt.locs, Pt.cells, Pt.slots] at X73 l73 y73 z73 st73 hQ73
  subst l73 y73 z73
  obtain ⟨rfl, N73q, K73, Y73_0, Y73_1, Y73_2, Y73_3, Y73_4, Y73_5, Y73_6⟩ := hQ73
  have N73 := Fr.app N66 N73q
  replace X73 := X73.more (cells' := 7) (slots' := 25) (by decide) (by decide)
  have K74 : Keep h0 T73.heap [] := K69.trans K73 (allS (Or.inr sz_b55) (allS (Or.inr sz_b67) all0))
  have O75 : Old Z n0 T73.heap := O70.keep K73 (allS g_b55 (allS g_b67 all0))
  obtain ⟨T76, h76, X76, e76, E76, A76, D76, -, st76⟩ := newO X73 hx hZ hown (hw _ (List.mem_of_getElem? (i := 75) rfl)) (hw _ (List.mem_of_getElem? (i := 76) rfl)) (hw _ (List.mem_of_getElem? (i := 77) rfl)) rfl (g := (mkF m 140 #[.val (.int p1), .val (.int p2), .val (.ref b3), .val (.int (2 : Int32)), .val (.int (p2 &&& (3 : Int32))), .val (.ref b55), .unset, .unset] [])) rfl (hb hby at_140) (by decide) (by decide)
  obtain ⟨b76, g76⟩ : ∃ z, z = T73.heap.size := ⟨_, rfl⟩
  rw [← g76] at A76 D76 st76
  have g_b76 : n0 ≤ b76 := Nat.le_trans (Nat.le_trans Z0 K74.1) (Nat.le_of_eq g76.symm)
  have sz_b76 : h0.size ≤ b76 := Nat.le_trans K74.1 (Nat.le_of_eq g76.symm)
  have K77 : Keep h0 h76 [] := K74.ext E76
  have O78 : Old Z n0 h76 := O75.ext E76
  have F_source_b76 : Fld Z h76 b76 "com/example/wattle/wattle/DayAheadPrices" "source" "Ljava/lang/String;" .null := D76 (Or.inr (hw _ (List.mem_of_getElem? (i := 91) rfl))) (ty := (.object "java/lang/String")) (by decide)
  have F_hours_b76 : Fld Z h76 b76 "com/example/wattle/wattle/DayAheadPrices" "hours" "Ljava/util/List;" .null := D76 (Or.inr (hw _ (List.mem_of_getElem? (i := 179) rfl))) (ty := (.object "java/util/List")) (by decide)
  replace X76 := X76.more (cells' := 8) (slots' := 27) (by decide) (by decide)
  obtain ⟨b79, T79, h79, k79, X79, e79, E79, hS79, hk79, hZ79, ho79, st79⟩ := ldcS X76 hx hZ hown (hw _ (List.mem_of_getElem? (i := 78) rfl)) (fun d hd => hw d (own_strw d hd)) e76 hS0 (Nat.le_trans hk0 (Nat.le_trans (Nat.le_trans (Nat.le_trans (Nat.le_trans (Nat.le_trans (Nat.le_trans (Nat.le_trans (Nat.le_trans (Nat.le_trans (Nat.le_trans (Nat.le_trans (Nat.le_trans (Nat.le_trans (Nat.le_trans (Nat.le_trans (Nat.le_trans (Nat.le_trans E3.1 E6.1) K9.1) (Keep.of_wr W14).1) E17.1) K20.1) (Keep.of_wr W25).1) E28.1) K31.1) (Keep.of_wr W36).1) E39.1) K42.1) (Keep.of_wr W47).1) E55.1) K59.1) K66.1) K73.1) E76.1)) (g := (mkF m 144 #[.val (.int p1), .val (.int p2), .val (.ref b3), .val (.int (2 : Int32)), .val (.int (p2 &&& (3 : Int32))), .val (.ref b55), .unset, .unset] [(.ref b76), (.ref b76)])) rfl (hb hby at_144) (n := 24) (by decide) (by decide) (by decide) (by decide)
  have K80 : Keep h0 h79 [] := K77.ext E79
  have O81 : Old Z n0 h79 := O78.ext E79
  replace X79 := X79.more (cells' := 10) (slots' := 55) (by decide) (by decide)
  have f82 := (A76.ext E79)
  have f83 := (F_source_b76.ext E79)
  have f84 := ((Y73_0.ext E76).ext E79)
  have f85 := ((Y73_1.ext E76).ext E79)
  have f86 := ((Y73_3.ext E76).ext E79)
  have f87 := ((Y73_4.ext E76).ext E79)
  have f88 := ((Y73_5.ext E76).ext E79)
  have f89 := ((((f65.keep K66).keep K73).ext E76).ext E79)
  have f90 := (((f72.keep K73).ext E76).ext E79)
  have f92 := (F_hours_b76.ext E79)
  obtain ⟨vr93, _, ⟨T93, L93, k93, n93⟩, -, X93, ⟨Lc93, hQ93, l93, y93, z93⟩, st93⟩ := X79.specialBack hx (y := (⟨"com/example/wattle/wattle/DayAheadPrices", "<init>", "(Ljava/lang/String;Ljava/util/List;)V"⟩ : MethodName)) rfl ho79 (mvT hZ79 (hw _ (List.mem_of_getElem? (i := 86) rfl))) (mvT hZ79 (hw _ (List.mem_of_getElem? (i := 87) rfl))) (mvT hZ79 (hw _ (List.mem_of_getElem? (i := 88) rfl))) (by decide) (backOf (W := 1) (rm12t2 l Z a0 hw [] b76 b79 b55 (.null) b67 k68 xx0 xx1 w91 (.null) h79 n0 O81 f82 f83 g_b76 f84 f85 (Nat.ne_of_lt (Nat.lt_of_lt_of_le (Nat.lt_of_lt_of_le A55.lt (Nat.le_trans (Nat.le_trans K59.1 K66.1) K73.1)) (Nat.le_of_eq g76.symm))) f86 f87 f88 (Nat.ne_of_lt (Nat.lt_of_lt_of_le (Nat.lt_of_lt_of_le Y66_4.lt K73.1) (Nat.le_of_eq g76.symm))) (Ins.of_exa f89 (hw _ (List.mem_of_getElem? (i := 74) rfl))) (Ins.of_exa f90 (hw _ (List.mem_of_getElem? (i := 74) rfl))) Mi__Ljava_lang_Object_ f92) hZ79 (hw _ (List.mem_of_getElem? (i := 88) rfl)) (hw _ (List.mem_of_getElem? (i := 77) rfl)) (by decide) (by decide)) (g := (mkF m 148 #[.val (.int p1), .val (.int p2), .val (.ref b3), .val (.int (2 : Int32)), .val (.int (p2 &&& (3 : Int32))), .val (.ref b55), .unset, .unset] [(.ref b55), (.ref b79), (.ref b76), (.ref b76)])) rfl (by rw [hml]; rfl) (Steps.refl _) (a := b76) (argsL := [(.ref b79), (.ref b55)]) (rest := [(.ref b76)]) (lenOf pd_14 rfl) rfl (by show 2 * 0 + _ ≤ _; exact Nat.le_of_eq rfl) (hb hby at_148) (fun _ _ => ⟨rfl, e79, (by decide : 10 + 2 ≤ _), (by decide : 55 + 4 ≤ _)⟩)
  dsimp only [Pt.U, Pt.locs, Pt.cells, Pt.slots] at X93 l93 y93 z93 st93 hQ93
  subst l93 y93 z93
  obtain ⟨b94, rfl, N93q, K93, Y93_z0, Y93_0, Y93_1, Y93_2, Y93_3, Y93_4, Y93_5⟩ := hQ93
  have N93 := Fr.app N73 N93q
  replace X93 := X93.more (cells' := 12) (slots' := 59) (by decide) (by decide)
  have g_b94 : n0 ≤ b94 := Nat.le_trans (Nat.le_trans Z0 K80.1) Y93_z0
  have sz_b94 : h0.size ≤ b94 := Nat.le_trans K80.1 Y93_z0
  have K95 : Keep h0 T93.heap [] := K80.trans K93 (allS (Or.inr sz_b76) all0)
  have O96 : Old Z n0 T93.heap := O81.keep K93 (allS g_b76 all0)
  have f97 := (f89.keep K93)
  obtain ⟨cq98, kq98, q98a, q98b, q98c⟩ := isOf hZ79 rfl Y93_0
  obtain ⟨vr98, _, ⟨T98, L98, k98, n98⟩, -, X98, ⟨Lc98, hQ98, l98, y98, z98⟩, st98⟩ := X93.virtualBack hx (y := (⟨"com/example/wattle/wattle/DayAheadPrices", "first", "()Lcom/example/wattle/wattle/HourlyPrice;"⟩ : MethodName)) (z := (⟨"com/example/wattle/wattle/DayAheadPrices", "first", "()Lcom/example/wattle/wattle/HourlyPrice;"⟩ : MethodName)) ho79 (mvT hZ79 (hw _ (List.mem_of_getElem? (i := 180) rfl))) (mvT hZ79 (hw _ (List.mem_of_getElem? (i := 181) rfl))) (notFace_of_selects (args := #[]) (mvT hZ79 (hw _ (List.mem_of_getElem? (i := 183) rfl)))) (mvT hZ79 (hw _ (List.mem_of_getElem? (i := 183) rfl))) (mvT hZ79 (hw _ (List.mem_of_getElem? (i := 182) rfl))) (by decide) (backOf (W := 0) (rm25o l Z a0 hw [] b76 b94 xx0 T93.heap n0 O96 Y93_1 Y93_3 Y93_4 f97) hZ79 (hw _ (List.mem_of_getElem? (i := 184) rfl)) (hw _ (List.mem_of_getElem? (i := 77) rfl)) (by decide) (by decide)) q98a q98c (g := (mkF m 155 #[.val (.int p1), .val (.int p2), .val (.ref b3), .val (.int (2 : Int32)), .val (.int (p2 &&& (3 : Int32))), .val (.ref b55), .val (.ref b76), .unset] [(.ref b76)])) rfl (by rw [hml]; rfl) (Steps.refl _) (argsL := []) (rest := []) (lenOf pd_0 rfl) rfl (by show 2 * 0 + _ ≤ _; exact Nat.le_of_eq rfl) (hb hby at_155) (fun _ _ => ⟨rfl, rfl, (by decide : 12 + 0 ≤ _), (by decide : 59 + 0 ≤ _)⟩)
  dsimp only [Pt.U, Pt.locs, Pt.cells, Pt.slots] at X98 l98 y98 z98 st98 hQ98
  subst l98 y98 z98
  obtain ⟨rfl, N98q, e98⟩ := hQ98
  have N98 := Fr.app N93 N98q
  replace X98 := X98.more (cells' := 12) (slots' := 59) (by decide) (by decide)
  have f99 := (own_arrkeep (((own_arrkeep f71 K73 (ninS (Nat.ne_of_lt (Nat.lt_of_lt_of_le (Nat.lt_of_lt_of_le V3.lt (Nat.le_trans (Nat.le_trans (Nat.le_trans (Nat.le_trans (Nat.le_trans (Nat.le_trans (Nat.le_trans (Nat.le_trans (Nat.le_trans (Nat.le_trans (Nat.le_trans E6.1 K9.1) (Keep.of_wr W14).1) E17.1) K20.1) (Keep.of_wr W25).1) E28.1) K31.1) (Keep.of_wr W36).1) E39.1) K42.1) (Keep.of_wr W47).1)) (Nat.le_of_eq g55.symm))) (ninS (Nat.ne_of_lt (Nat.lt_of_lt_of_le (Nat.lt_of_lt_of_le V3.lt (Nat.le_trans (Nat.le_trans (Nat.le_trans (Nat.le_trans (Nat.le_trans (Nat.le_trans (Nat.le_trans (Nat.le_trans (Nat.le_trans (Nat.le_trans (Nat.le_trans (Nat.le_trans (Nat.le_trans E6.1 K9.1) (Keep.of_wr W14).1) E17.1) K20.1) (Keep.of_wr W25).1) E28.1) K31.1) (Keep.of_wr W36).1) E39.1) K42.1) (Keep.of_wr W47).1) E55.1) K59.1)) Y66_z0)) nin0))).ext E76).ext E79) K93 (ninS (Nat.ne_of_lt (Nat.lt_of_lt_of_le (Nat.lt_of_lt_of_le V3.lt (Nat.le_trans (Nat.le_trans (Nat.le_trans (Nat.le_trans (Nat.le_trans (Nat.le_trans (Nat.le_trans (Nat.le_trans (Nat.le_trans (Nat.le_trans (Nat.le_trans (Nat.le_trans (Nat.le_trans (Nat.le_trans (Nat.le_trans E6.1 K9.1) (Keep.of_wr W14).1) E17.1) K20.1) (Keep.of_wr W25).1) E28.1) K31.1) (Keep.of_wr W36).1) E39.1) K42.1) (Keep.of_wr W47).1) E55.1) K59.1) K66.1) K73.1)) (Nat.le_of_eq g76.symm))) nin0))
  obtain ⟨fs, hr, hrun, hended, hend⟩ := X98.leaveW hS79 (by rw [e98]; exact (Nat.le_trans hk79 K93.1)) (v := some (.int (1 : Int32))) (fun h => by rw [Bd.returns] at h; cases h)
  refine ⟨_, _, pre0 _ ?_, hrun, hended, _, _, rfl, ?_, hend.1, hend.2.1, hend.2.2.1, hend.2.2.2.mono (by decide) (by decide)⟩
  · show Steps p.tables e below (s₁.setTop (mkF m 0 #[.val (.int p1), .val (.int p2), .unset, .unset, .unset, .unset, .unset, .unset] [])) _
    refine XS.iconst X0.here hx rfl (hb hby at_0) ?_
    show Steps p.tables e below (s₁.setTop (mkF m 1 #[.val (.int p1), .val (.int p2), .unset, .unset, .unset, .unset, .unset, .unset] [(.int (4 : Int32))])) _
    refine st3 _ ?_
    show Steps p.tables e below (T3.setTop (mkF m 4 #[.val (.int p1), .val (.int p2), .unset, .unset, .unset, .unset, .unset, .unset] [(.ref b3)])) _
    refine XS.astoreN X3.here hx rfl (hb hby at_4) rfl rfl (l' := #[.val (.int p1), .val (.int p2), .val (.ref b3), .unset, .unset, .unset, .unset, .unset]) rfl ?_
    show Steps p.tables e below (T3.setTop (mkF m 5 #[.val (.int p1), .val (.int p2), .val (.ref b3), .unset, .unset, .unset, .unset, .unset] [])) _
    refine XS.aloadN X3.here hx rfl (hb hby at_5) rfl rfl ?_
    show Steps p.tables e below (T3.setTop (mkF m 6 #[.val (.int p1), .val (.int p2), .val (.ref b3), .unset, .unset, .unset, .unset, .unset] [(.ref b3)])) _
    refine XS.iconst X3.here hx rfl (hb hby at_6) ?_
    show Steps p.tables e below (T3.setTop (mkF m 7 #[.val (.int p1), .val (.int p2), .val (.ref b3), .unset, .unset, .unset, .unset, .unset] [(.int (0 : Int32)), (.ref b3)])) _
    refine st6 _ ?_
    show Steps p.tables e below (T6.setTop (mkF m 10 #[.val (.int p1), .val (.int p2), .val (.ref b3), .unset, .unset, .unset, .unset, .unset] [(.ref b6), (.int (0 : Int32)), (.ref b3)])) _
    refine XS.dup X6.here hx rfl (hb hby at_10) rfl rfl ?_
    show Steps p.tables e below (T6.setTop (mkF m 11 #[.val (.int p1), .val (.int p2), .val (.ref b3), .unset, .unset, .unset, .unset, .unset] [(.ref b6), (.ref b6), (.int (0 : Int32)), (.ref b3)])) _
    refine XS.aconstNull X6.here hx rfl (hb hby at_11) ?_
    show Steps p.tables e below (T6.setTop (mkF m 12 #[.val (.int p1), .val (.int p2), .val (.ref b3), .unset, .unset, .unset, .unset, .unset] [.null, (.ref b6), (.ref b6), (.int (0 : Int32)), (.ref b3)])) _
    refine XS.aconstNull X6.here hx rfl (hb hby at_12) ?_
    show Steps p.tables e below (T6.setTop (mkF m 13 #[.val (.int p1), .val (.int p2), .val (.ref b3), .unset, .unset, .unset, .unset, .unset] [.null, .null, (.ref b6), (.ref b6), (.int (0 : Int32)), (.ref b3)])) _
    refine st9.trans ?_
    show Steps p.tables e below (T9.setTop (mkF m 16 #[.val (.int p1), .val (.int p2), .val (.ref b3), .unset, .unset, .unset, .unset, .unset] [(.ref b6), (.int (0 : Int32)), (.ref b3)])) _
    refine st14 _ ?_
    show Steps p.tables e below (T14.setTop (mkF m 17 #[.val (.int p1), .val (.int p2), .val (.ref b3), .unset, .unset, .unset, .unset, .unset] [])) _
    refine XS.aloadN X14.here hx rfl (hb hby at_17) rfl rfl ?_
    show Steps p.tables e below (T14.setTop (mkF m 18 #[.val (.int p1), .val (.int p2), .val (.ref b3), .unset, .unset, .unset, .unset, .unset] [(.ref b3)])) _
    refine XS.iconst X14.here hx rfl (hb hby at_18) ?_
    show Steps p.tables e below (T14.setTop (mkF m 19 #[.val (.int p1), .val (.int p2), .val (.ref b3), .unset, .unset, .unset, .unset, .unset] [(.int (1 : Int32)), (.ref b3)])) _
    refine st17 _ ?_
    show Steps p.tables e below (T17.setTop (mkF m 22 #[.val (.int p1), .val (.int p2), .val (.ref b3), .unset, .unset, .unset, .unset, .unset] [(.ref b17), (.int (1 : Int32)), (.ref b3)])) _
    refine XS.dup X17.here hx rfl (hb hby at_22) rfl rfl ?_
    show Steps p.tables e below (T17.setTop (mkF m 23 #[.val (.int p1), .val (.int p2), .val (.ref b3), .unset, .unset, .unset, .unset, .unset] [(.ref b17), (.ref b17), (.int (1 : Int32)), (.ref b3)])) _
    refine XS.aconstNull X17.here hx rfl (hb hby at_23) ?_
    show Steps p.tables e below (T17.setTop (mkF m 24 #[.val (.int p1), .val (.int p2), .val (.ref b3), .unset, .unset, .unset, .unset, .unset] [.null, (.ref b17), (.ref b17), (.int (1 : Int32)), (.ref b3)])) _
    refine XS.aconstNull X17.here hx rfl (hb hby at_24) ?_
    show Steps p.tables e below (T17.setTop (mkF m 25 #[.val (.int p1), .val (.int p2), .val (.ref b3), .unset, .unset, .unset, .unset, .unset] [.null, .null, (.ref b17), (.ref b17), (.int (1 : Int32)), (.ref b3)])) _
    refine st20.trans ?_
    show Steps p.tables e below (T20.setTop (mkF m 28 #[.val (.int p1), .val (.int p2), .val (.ref b3), .unset, .unset, .unset, .unset, .unset] [(.ref b17), (.int (1 : Int32)), (.ref b3)])) _
    refine st25 _ ?_
    show Steps p.tables e below (T25.setTop (mkF m 29 #[.val (.int p1), .val (.int p2), .val (.ref b3), .unset, .unset, .unset, .unset, .unset] [])) _
    refine XS.aloadN X25.here hx rfl (hb hby at_29) rfl rfl ?_
    show Steps p.tables e below (T25.setTop (mkF m 30 #[.val (.int p1), .val (.int p2), .val (.ref b3), .unset, .unset, .unset, .unset, .unset] [(.ref b3)])) _
    refine XS.iconst X25.here hx rfl (hb hby at_30) ?_
    show Steps p.tables e below (T25.setTop (mkF m 31 #[.val (.int p1), .val (.int p2), .val (.ref b3), .unset, .unset, .unset, .unset, .unset] [(.int (2 : Int32)), (.ref b3)])) _
    refine st28 _ ?_
    show Steps p.tables e below (T28.setTop (mkF m 34 #[.val (.int p1), .val (.int p2), .val (.ref b3), .unset, .unset, .unset, .unset, .unset] [(.ref b28), (.int (2 : Int32)), (.ref b3)])) _
    refine XS.dup X28.here hx rfl (hb hby at_34) rfl rfl ?_
    show Steps p.tables e below (T28.setTop (mkF m 35 #[.val (.int p1), .val (.int p2), .val (.ref b3), .unset, .unset, .unset, .unset, .unset] [(.ref b28), (.ref b28), (.int (2 : Int32)), (.ref b3)])) _
    refine XS.aconstNull X28.here hx rfl (hb hby at_35) ?_
    show Steps p.tables e below (T28.setTop (mkF m 36 #[.val (.int p1), .val (.int p2), .val (.ref b3), .unset, .unset, .unset, .unset, .unset] [.null, (.ref b28), (.ref b28), (.int (2 : Int32)), (.ref b3)])) _
    refine XS.aconstNull X28.here hx rfl (hb hby at_36) ?_
    show Steps p.tables e below (T28.setTop (mkF m 37 #[.val (.int p1), .val (.int p2), .val (.ref b3), .unset, .unset, .unset, .unset, .unset] [.null, .null, (.ref b28), (.ref b28), (.int (2 : Int32)), (.ref b3)])) _
    refine st31.trans ?_
    show Steps p.tables e below (T31.setTop (mkF m 40 #[.val (.int p1), .val (.int p2), .val (.ref b3), .unset, .unset, .unset, .unset, .unset] [(.ref b28), (.int (2 : Int32)), (.ref b3)])) _
    refine st36 _ ?_
    show Steps p.tables e below (T36.setTop (mkF m 41 #[.val (.int p1), .val (.int p2), .val (.ref b3), .unset, .unset, .unset, .unset, .unset] [])) _
    refine XS.aloadN X36.here hx rfl (hb hby at_41) rfl rfl ?_
    show Steps p.tables e below (T36.setTop (mkF m 42 #[.val (.int p1), .val (.int p2), .val (.ref b3), .unset, .unset, .unset, .unset, .unset] [(.ref b3)])) _
    refine XS.iconst X36.here hx rfl (hb hby at_42) ?_
    show Steps p.tables e below (T36.setTop (mkF m 43 #[.val (.int p1), .val (.int p2), .val (.ref b3), .unset, .unset, .unset, .unset, .unset] [(.int (3 : Int32)), (.ref b3)])) _
    refine st39 _ ?_
    show Steps p.tables e below (T39.setTop (mkF m 46 #[.val (.int p1), .val (.int p2), .val (.ref b3), .unset, .unset, .unset, .unset, .unset] [(.ref b39), (.int (3 : Int32)), (.ref b3)])) _
    refine XS.dup X39.here hx rfl (hb hby at_46) rfl rfl ?_
    show Steps p.tables e below (T39.setTop (mkF m 47 #[.val (.int p1), .val (.int p2), .val (.ref b3), .unset, .unset, .unset, .unset, .unset] [(.ref b39), (.ref b39), (.int (3 : Int32)), (.ref b3)])) _
    refine XS.aconstNull X39.here hx rfl (hb hby at_47) ?_
    show Steps p.tables e below (T39.setTop (mkF m 48 #[.val (.int p1), .val (.int p2), .val (.ref b3), .unset, .unset, .unset, .unset, .unset] [.null, (.ref b39), (.ref b39), (.int (3 : Int32)), (.ref b3)])) _
    refine XS.aconstNull X39.here hx rfl (hb hby at_48) ?_
    show Steps p.tables e below (T39.setTop (mkF m 49 #[.val (.int p1), .val (.int p2), .val (.ref b3), .unset, .unset, .unset, .unset, .unset] [.null, .null, (.ref b39), (.ref b39), (.int (3 : Int32)), (.ref b3)])) _
    refine st42.trans ?_
    show Steps p.tables e below (T42.setTop (mkF m 52 #[.val (.int p1), .val (.int p2), .val (.ref b3), .unset, .unset, .unset, .unset, .unset] [(.ref b39), (.int (3 : Int32)), (.ref b3)])) _
    refine st47 _ ?_
    show Steps p.tables e below (T47.setTop (mkF m 53 #[.val (.int p1), .val (.int p2), .val (.ref b3), .unset, .unset, .unset, .unset, .unset] [])) _
    refine XS.iconst X47.here hx rfl (hb hby at_53) ?_
    show Steps p.tables e below (T47.setTop (mkF m 54 #[.val (.int p1), .val (.int p2), .val (.ref b3), .unset, .unset, .unset, .unset, .unset] [(.int (1 : Int32))])) _
    refine XS.iloadN X47.here hx rfl (hb hby at_54) rfl ?_
    show Steps p.tables e below (T47.setTop (mkF m 55 #[.val (.int p1), .val (.int p2), .val (.ref b3), .unset, .unset, .unset, .unset, .unset] [(.int p1), (.int (1 : Int32))])) _
    refine XS.iconst X47.here hx rfl (hb hby at_55) ?_
    show Steps p.tables e below (T47.setTop (mkF m 56 #[.val (.int p1), .val (.int p2), .val (.ref b3), .unset, .unset, .unset, .unset, .unset] [(.int (3 : Int32)), (.int p1), (.int (1 : Int32))])) _
    refine XS.iand X47.here hx rfl (hb hby at_56) rfl ?_
    show Steps p.tables e below (T47.setTop (mkF m 57 #[.val (.int p1), .val (.int p2), .val (.ref b3), .unset, .unset, .unset, .unset, .unset] [(.int (p1 &&& (3 : Int32))), (.int (1 : Int32))])) _
    refine XS.iadd X47.here hx rfl (hb hby at_57) rfl ?_
    show Steps p.tables e below (T47.setTop (mkF m 58 #[.val (.int p1), .val (.int p2), .val (.ref b3), .unset, .unset, .unset, .unset, .unset] [(.int ((1 : Int32) + (p1 &&& (3 : Int32))))])) _
    refine XS.istoreN X47.here hx rfl (hb hby at_58) rfl (l' := #[.val (.int p1), .val (.int p2), .val (.ref b3), .val (.int ((1 : Int32) + (p1 &&& (3 : Int32)))), .unset, .unset, .unset, .unset]) rfl ?_
    show Steps p.tables e below (T47.setTop (mkF m 59 #[.val (.int p1), .val (.int p2), .val (.ref b3), .val (.int ((1 : Int32) + (p1 &&& (3 : Int32)))), .unset, .unset, .unset, .unset] [])) _
    rw [hn59]
    show Steps p.tables e below (T47.setTop (mkF m 59 #[.val (.int p1), .val (.int p2), .val (.ref b3), .val (.int (2 : Int32)), .unset, .unset, .unset, .unset] [])) _
    refine XS.iloadN X47.here hx rfl (hb hby at_59) rfl ?_
    show Steps p.tables e below (T47.setTop (mkF m 60 #[.val (.int p1), .val (.int p2), .val (.ref b3), .val (.int (2 : Int32)), .unset, .unset, .unset, .unset] [(.int p2)])) _
    refine XS.iconst X47.here hx rfl (hb hby at_60) ?_
    show Steps p.tables e below (T47.setTop (mkF m 61 #[.val (.int p1), .val (.int p2), .val (.ref b3), .val (.int (2 : Int32)), .unset, .unset, .unset, .unset] [(.int (3 : Int32)), (.int p2)])) _
    refine XS.iand X47.here hx rfl (hb hby at_61) rfl ?_
    show Steps p.tables e below (T47.setTop (mkF m 62 #[.val (.int p1), .val (.int p2), .val (.ref b3), .val (.int (2 : Int32)), .unset, .unset, .unset, .unset] [(.int (p2 &&& (3 : Int32)))])) _
    refine XS.istore X47.here hx rfl (hb hby at_62) rfl (l' := #[.val (.int p1), .val (.int p2), .val (.ref b3), .val (.int (2 : Int32)), .val (.int (p2 &&& (3 : Int32))), .unset, .unset, .unset]) rfl ?_
    show Steps p.tables e below (T47.setTop (mkF m 64 #[.val (.int p1), .val (.int p2), .val (.ref b3), .val (.int (2 : Int32)), .val (.int (p2 &&& (3 : Int32))), .unset, .unset, .unset] [])) _
    refine st55 _ ?_
    show Steps p.tables e below (T55.setTop (mkF m 67 #[.val (.int p1), .val (.int p2), .val (.ref b3), .val (.int (2 : Int32)), .val (.int (p2 &&& (3 : Int32))), .unset, .unset, .unset] [(.ref b55)])) _
    refine XS.dup X55.here hx rfl (hb hby at_67) rfl rfl ?_
    show Steps p.tables e below (T55.setTop (mkF m 68 #[.val (.int p1), .val (.int p2), .val (.ref b3), .val (.int (2 : Int32)), .val (.int (p2 &&& (3 : Int32))), .unset, .unset, .unset] [(.ref b55), (.ref b55)])) _
    refine st59.trans ?_
    show Steps p.tables e below (T59.setTop (mkF m 71 #[.val (.int p1), .val (.int p2), .val (.ref b3), .val (.int (2 : Int32)), .val (.int (p2 &&& (3 : Int32))), .unset, .unset, .unset] [(.ref b55)])) _
    refine XS.astore X59.here hx rfl (hb hby at_71) rfl rfl (l' := #[.val (.int p1), .val (.int p2), .val (.ref b3), .val (.int (2 : Int32)), .val (.int (p2 &&& (3 : Int32))), .val (.ref b55), .unset, .unset]) rfl ?_
    show Steps p.tables e below (T59.setTop (mkF m 73 #[.val (.int p1), .val (.int p2), .val (.ref b3), .val (.int (2 : Int32)), .val (.int (p2 &&& (3 : Int32))), .val (.ref b55), .unset, .unset] [])) _
    refine XS.aload X59.here hx rfl (hb hby at_73) rfl rfl ?_
    show Steps p.tables e below (T59.setTop (mkF m 75 #[.val (.int p1), .val (.int p2), .val (.ref b3), .val (.int (2 : Int32)), .val (.int (p2 &&& (3 : Int32))), .val (.ref b55), .unset, .unset] [(.ref b55)])) _
    refine XS.aloadN X59.here hx rfl (hb hby at_75) rfl rfl ?_
    show Steps p.tables e below (T59.setTop (mkF m 76 #[.val (.int p1), .val (.int p2), .val (.ref b3), .val (.int (2 : Int32)), .val (.int (p2 &&& (3 : Int32))), .val (.ref b55), .unset, .unset] [(.ref b3), (.ref b55)])) _
    refine XS.iload X59.here hx rfl (hb hby at_76) rfl ?_
    show Steps p.tables e below (T59.setTop (mkF m 78 #[.val (.int p1), .val (.int p2), .val (.ref b3), .val (.int (2 : Int32)), .val (.int (p2 &&& (3 : Int32))), .val (.ref b55), .unset, .unset] [(.int (p2 &&& (3 : Int32))), (.ref b3), (.ref b55)])) _
    refine X59.aaload hx (j := (p2 &&& (3 : Int32))) (v := (.ref xx0)) f62.1 (State.isArrayOf_alike hZ.alike f62.2.1) rfl f62.2.2 hxi0 hxa0 (g := (mkF m 78 #[.val (.int p1), .val (.int p2), .val (.ref b3), .val (.int (2 : Int32)), .val (.int (p2 &&& (3 : Int32))), .val (.ref b55), .unset, .unset] [(.int (p2 &&& (3 : Int32))), (.ref b3), (.ref b55)])) rfl rfl (hb hby at_78) _ ?_
    show Steps p.tables e below (T59.setTop (mkF m 79 #[.val (.int p1), .val (.int p2), .val (.ref b3), .val (.int (2 : Int32)), .val (.int (p2 &&& (3 : Int32))), .val (.ref b55), .unset, .unset] [(.ref xx0), (.ref b55)])) _
    refine st66.trans ?_
    show Steps p.tables e below (T66.setTop (mkF m 82 #[.val (.int p1), .val (.int p2), .val (.ref b3), .val (.int (2 : Int32)), .val (.int (p2 &&& (3 : Int32))), .val (.ref b55), .unset, .unset] [(.int (1 : Int32))])) _
    refine XS.pop X66.here hx rfl (hb hby at_82) rfl rfl ?_
    show Steps p.tables e below (T66.setTop (mkF m 83 #[.val (.int p1), .val (.int p2), .val (.ref b3), .val (.int (2 : Int32)), .val (.int (p2 &&& (3 : Int32))), .val (.ref b55), .unset, .unset] [])) _
    refine XS.iloadN X66.here hx rfl (hb hby at_83) rfl ?_
    show Steps p.tables e below (T66.setTop (mkF m 84 #[.val (.int p1), .val (.int p2), .val (.ref b3), .val (.int (2 : Int32)), .val (.int (p2 &&& (3 : Int32))), .val (.ref b55), .unset, .unset] [(.int (2 : Int32))])) _
    refine XS.iconst X66.here hx rfl (hb hby at_84) ?_
    show Steps p.tables e below (T66.setTop (mkF m 85 #[.val (.int p1), .val (.int p2), .val (.ref b3), .val (.int (2 : Int32)), .val (.int (p2 &&& (3 : Int32))), .val (.ref b55), .unset, .unset] [(.int (1 : Int32)), (.int (2 : Int32))])) _
    refine XS.icmpNo X66.here hx rfl (hb hby at_85) rfl (tlt (by decide : (1 : Int32) < (2 : Int32))).2.2.2 ?_
    show Steps p.tables e below (T66.setTop (mkF m 88 #[.val (.int p1), .val (.int p2), .val (.ref b3), .val (.int (2 : Int32)), .val (.int (p2 &&& (3 : Int32))), .val (.ref b55), .unset, .unset] [])) _
    refine XS.aload X66.here hx rfl (hb hby at_88) rfl rfl ?_
    show Steps p.tables e below (T66.setTop (mkF m 90 #[.val (.int p1), .val (.int p2), .val (.ref b3), .val (.int (2 : Int32)), .val (.int (p2 &&& (3 : Int32))), .val (.ref b55), .unset, .unset] [(.ref b55)])) _
    refine XS.aloadN X66.here hx rfl (hb hby at_90) rfl rfl ?_
    show Steps p.tables e below (T66.setTop (mkF m 91 #[.val (.int p1), .val (.int p2), .val (.ref b3), .val (.int (2 : Int32)), .val (.int (p2 &&& (3 : Int32))), .val (.ref b55), .unset, .unset] [(.ref b3), (.ref b55)])) _
    refine XS.iload X66.here hx rfl (hb hby at_91) rfl ?_
    show Steps p.tables e below (T66.setTop (mkF m 93 #[.val (.int p1), .val (.int p2), .val (.ref b3), .val (.int (2 : Int32)), .val (.int (p2 &&& (3 : Int32))), .val (.ref b55), .unset, .unset] [(.int (p2 &&& (3 : Int32))), (.ref b3), (.ref b55)])) _
    refine XS.iconst X66.here hx rfl (hb hby at_93) ?_
    show Steps p.tables e below (T66.setTop (mkF m 94 #[.val (.int p1), .val (.int p2), .val (.ref b3), .val (.int (2 : Int32)), .val (.int (p2 &&& (3 : Int32))), .val (.ref b55), .unset, .unset] [(.int (1 : Int32)), (.int (p2 &&& (3 : Int32))), (.ref b3), (.ref b55)])) _
    refine XS.iadd X66.here hx rfl (hb hby at_94) rfl ?_
    show Steps p.tables e below (T66.setTop (mkF m 95 #[.val (.int p1), .val (.int p2), .val (.ref b3), .val (.int (2 : Int32)), .val (.int (p2 &&& (3 : Int32))), .val (.ref b55), .unset, .unset] [(.int ((p2 &&& (3 : Int32)) + (1 : Int32))), (.ref b3), (.ref b55)])) _
    refine XS.iconst X66.here hx rfl (hb hby at_95) ?_
    show Steps p.tables e below (T66.setTop (mkF m 96 #[.val (.int p1), .val (.int p2), .val (.ref b3), .val (.int (2 : Int32)), .val (.int (p2 &&& (3 : Int32))), .val (.ref b55), .unset, .unset] [(.int (3 : Int32)), (.int ((p2 &&& (3 : Int32)) + (1 : Int32))), (.ref b3), (.ref b55)])) _
    refine XS.iand X66.here hx rfl (hb hby at_96) rfl ?_
    show Steps p.tables e below (T66.setTop (mkF m 97 #[.val (.int p1), .val (.int p2), .val (.ref b3), .val (.int (2 : Int32)), .val (.int (p2 &&& (3 : Int32))), .val (.ref b55), .unset, .unset] [(.int (((p2 &&& (3 : Int32)) + (1 : Int32)) &&& (3 : Int32))), (.ref b3), (.ref b55)])) _
    refine X66.aaload hx (j := (((p2 &&& (3 : Int32)) + (1 : Int32)) &&& (3 : Int32))) (v := (.ref xx1)) f71.1 (State.isArrayOf_alike hZ.alike f71.2.1) rfl f71.2.2 hxi1 hxa1 (g := (mkF m 97 #[.val (.int p1), .val (.int p2), .val (.ref b3), .val (.int (2 : Int32)), .val (.int (p2 &&& (3 : Int32))), .val (.ref b55), .unset, .unset] [(.int (((p2 &&& (3 : Int32)) + (1 : Int32)) &&& (3 : Int32))), (.ref b3), (.ref b55)])) rfl rfl (hb hby at_97) _ ?_
    show Steps p.tables e below (T66.setTop (mkF m 98 #[.val (.int p1), .val (.int p2), .val (.ref b3), .val (.int (2 : Int32)), .val (.int (p2 &&& (3 : Int32))), .val (.ref b55), .unset, .unset] [(.ref xx1), (.ref b55)])) _
    refine st73.trans ?_
    show Steps p.tables e below (T73.setTop (mkF m 101 #[.val (.int p1), .val (.int p2), .val (.ref b3), .val (.int (2 : Int32)), .val (.int (p2 &&& (3 : Int32))), .val (.ref b55), .unset, .unset] [(.int (1 : Int32))])) _
    refine XS.pop X73.here hx rfl (hb hby at_101) rfl rfl ?_
    show Steps p.tables e below (T73.setTop (mkF m 102 #[.val (.int p1), .val (.int p2), .val (.ref b3), .val (.int (2 : Int32)), .val (.int (p2 &&& (3 : Int32))), .val (.ref b55), .unset, .unset] [])) _
    refine XS.iloadN X73.here hx rfl (hb hby at_102) rfl ?_
    show Steps p.tables e below (T73.setTop (mkF m 103 #[.val (.int p1), .val (.int p2), .val (.ref b3), .val (.int (2 : Int32)), .val (.int (p2 &&& (3 : Int32))), .val (.ref b55), .unset, .unset] [(.int (2 : Int32))])) _
    refine XS.iconst X73.here hx rfl (hb hby at_103) ?_
    show Steps p.tables e below (T73.setTop (mkF m 104 #[.val (.int p1), .val (.int p2), .val (.ref b3), .val (.int (2 : Int32)), .val (.int (p2 &&& (3 : Int32))), .val (.ref b55), .unset, .unset] [(.int (2 : Int32)), (.int (2 : Int32))])) _
    refine XS.icmpYes X73.here hx rfl (pc0 := 104) (pc' := 121) rfl (hb hby at_104) rfl (flt (by decide : ¬ ((2 : Int32) < (2 : Int32)))).2.2.2 (by decide) (by decide) ?_
    show Steps p.tables e below (T73.setTop (mkF m 121 #[.val (.int p1), .val (.int p2), .val (.ref b3), .val (.int (2 : Int32)), .val (.int (p2 &&& (3 : Int32))), .val (.ref b55), .unset, .unset] [])) _
    refine XS.iloadN X73.here hx rfl (hb hby at_121) rfl ?_
    show Steps p.tables e below (T73.setTop (mkF m 122 #[.val (.int p1), .val (.int p2), .val (.ref b3), .val (.int (2 : Int32)), .val (.int (p2 &&& (3 : Int32))), .val (.ref b55), .unset, .unset] [(.int (2 : Int32))])) _
    refine XS.iconst X73.here hx rfl (hb hby at_122) ?_
    show Steps p.tables e below (T73.setTop (mkF m 123 #[.val (.int p1), .val (.int p2), .val (.ref b3), .val (.int (2 : Int32)), .val (.int (p2 &&& (3 : Int32))), .val (.ref b55), .unset, .unset] [(.int (3 : Int32)), (.int (2 : Int32))])) _
    refine XS.icmpYes X73.here hx rfl (pc0 := 123) (pc' := 140) rfl (hb hby at_123) rfl (flt (by decide : ¬ ((3 : Int32) < (2 : Int32)))).2.2.2 (by decide) (by decide) ?_
    show Steps p.tables e below (T73.setTop (mkF m 140 #[.val (.int p1), .val (.int p2), .val (.ref b3), .val (.int (2 : Int32)), .val (.int (p2 &&& (3 : Int32))), .val (.ref b55), .unset, .unset] [])) _
    refine st76 _ ?_
    show Steps p.tables e below (T76.setTop (mkF m 143 #[.val (.int p1), .val (.int p2), .val (.ref b3), .val (.int (2 : Int32)), .val (.int (p2 &&& (3 : Int32))), .val (.ref b55), .unset, .unset] [(.ref b76)])) _
    refine XS.dup X76.here hx rfl (hb hby at_143) rfl rfl ?_
    show Steps p.tables e below (T76.setTop (mkF m 144 #[.val (.int p1), .val (.int p2), .val (.ref b3), .val (.int (2 : Int32)), .val (.int (p2 &&& (3 : Int32))), .val (.ref b55), .unset, .unset] [(.ref b76), (.ref b76)])) _
    refine st79 _ ?_
    show Steps p.tables e below (T79.setTop (mkF m 146 #[.val (.int p1), .val (.int p2), .val (.ref b3), .val (.int (2 : Int32)), .val (.int (p2 &&& (3 : Int32))), .val (.ref b55), .unset, .unset] [(.ref b79), (.ref b76), (.ref b76)])) _
    refine XS.aload X79.here hx rfl (hb hby at_146) rfl rfl ?_
    show Steps p.tables e below (T79.setTop (mkF m 148 #[.val (.int p1), .val (.int p2), .val (.ref b3), .val (.int (2 : Int32)), .val (.int (p2 &&& (3 : Int32))), .val (.ref b55), .unset, .unset] [(.ref b55), (.ref b79), (.ref b76), (.ref b76)])) _
    refine st93.trans ?_
    show Steps p.tables e below (T93.setTop (mkF m 151 #[.val (.int p1), .val (.int p2), .val (.ref b3), .val (.int (2 : Int32)), .val (.int (p2 &&& (3 : Int32))), .val (.ref b55), .unset, .unset] [(.ref b76)])) _
    refine XS.astore X93.here hx rfl (hb hby at_151) rfl rfl (l' := #[.val (.int p1), .val (.int p2), .val (.ref b3), .val (.int (2 : Int32)), .val (.int (p2 &&& (3 : Int32))), .val (.ref b55), .val (.ref b76), .unset]) rfl ?_
    show Steps p.tables e below (T93.setTop (mkF m 153 #[.val (.int p1), .val (.int p2), .val (.ref b3), .val (.int (2 : Int32)), .val (.int (p2 &&& (3 : Int32))), .val (.ref b55), .val (.ref b76), .unset] [])) _
    refine XS.aload X93.here hx rfl (hb hby at_153) rfl rfl ?_
    show Steps p.tables e below (T93.setTop (mkF m 155 #[.val (.int p1), .val (.int p2), .val (.ref b3), .val (.int (2 : Int32)), .val (.int (p2 &&& (3 : Int32))), .val (.ref b55), .val (.ref b76), .unset] [(.ref b76)])) _
    refine st98.trans ?_
    show Steps p.tables e below (T98.setTop (mkF m 158 #[.val (.int p1), .val (.int p2), .val (.ref b3), .val (.int (2 : Int32)), .val (.int (p2 &&& (3 : Int32))), .val (.ref b55), .val (.ref b76), .unset] [(.ref xx0)])) _
    refine XS.astore X98.here hx rfl (hb hby at_158) rfl rfl (l' := #[.val (.int p1), .val (.int p2), .val (.ref b3), .val (.int (2 : Int32)), .val (.int (p2 &&& (3 : Int32))), .val (.ref b55), .val (.ref b76), .val (.ref xx0)]) rfl ?_
    show Steps p.tables e below (T98.setTop (mkF m 160 #[.val (.int p1), .val (.int p2), .val (.ref b3), .val (.int (2 : Int32)), .val (.int (p2 &&& (3 : Int32))), .val (.ref b55), .val (.ref b76), .val (.ref xx0)] [])) _
    refine XS.aload X98.here hx rfl (hb hby at_160) rfl rfl ?_
    show Steps p.tables e below (T98.setTop (mkF m 162 #[.val (.int p1), .val (.int p2), .val (.ref b3), .val (.int (2 : Int32)), .val (.int (p2 &&& (3 : Int32))), .val (.ref b55), .val (.ref b76), .val (.ref xx0)] [(.ref xx0)])) _
    refine XS.aloadN X98.here hx rfl (hb hby at_162) rfl rfl ?_
    show Steps p.tables e below (T98.setTop (mkF m 163 #[.val (.int p1), .val (.int p2), .val (.ref b3), .val (.int (2 : Int32)), .val (.int (p2 &&& (3 : Int32))), .val (.ref b55), .val (.ref b76), .val (.ref xx0)] [(.ref b3), (.ref xx0)])) _
    refine XS.iload X98.here hx rfl (hb hby at_163) rfl ?_
    show Steps p.tables e below (T98.setTop (mkF m 165 #[.val (.int p1), .val (.int p2), .val (.ref b3), .val (.int (2 : Int32)), .val (.int (p2 &&& (3 : Int32))), .val (.ref b55), .val (.ref b76), .val (.ref xx0)] [(.int (p2 &&& (3 : Int32))), (.ref b3), (.ref xx0)])) _
    refine X98.aaload hx (j := (p2 &&& (3 : Int32))) (v := (.ref xx0)) (by rw [e98]; exact f99.1) (State.isArrayOf_alike hZ79.alike f99.2.1) rfl f99.2.2 hxi0 hxa0 (g := (mkF m 165 #[.val (.int p1), .val (.int p2), .val (.ref b3), .val (.int (2 : Int32)), .val (.int (p2 &&& (3 : Int32))), .val (.ref b55), .val (.ref b76), .val (.ref xx0)] [(.int (p2 &&& (3 : Int32))), (.ref b3), (.ref xx0)])) rfl rfl (hb hby at_165) _ ?_
    show Steps p.tables e below (T98.setTop (mkF m 166 #[.val (.int p1), .val (.int p2), .val (.ref b3), .val (.int (2 : Int32)), .val (.int (p2 &&& (3 : Int32))), .val (.ref b55), .val (.ref b76), .val (.ref xx0)] [(.ref xx0), (.ref xx0)])) _
    refine Jvm.RoadKit.acmp (g := (mkF m 166 #[.val (.int p1), .val (.int p2), .val (.ref b3), .val (.int (2 : Int32)), .val (.int (p2 &&& (3 : Int32))), .val (.ref b55), .val (.ref b76), .val (.ref xx0)] [(.ref xx0), (.ref xx0)])) X98 hx rfl rfl rfl (pc0 := 166) (pc' := 169) (same := true) rfl (hb hby at_166) rfl (decide_eq_true rfl) (by decide) (by decide) ?_
    show Steps p.tables e below (T98.setTop (mkF m 169 #[.val (.int p1), .val (.int p2), .val (.ref b3), .val (.int (2 : Int32)), .val (.int (p2 &&& (3 : Int32))), .val (.ref b55), .val (.ref b76), .val (.ref xx0)] [])) _
    refine XS.iconst X98.here hx rfl (hb hby at_169) ?_
    show Steps p.tables e below (T98.setTop (mkF m 170 #[.val (.int p1), .val (.int p2), .val (.ref b3), .val (.int (2 : Int32)), .val (.int (p2 &&& (3 : Int32))), .val (.ref b55), .val (.ref b76), .val (.ref xx0)] [(.int (1 : Int32))])) _
    refine XS.goto X98.here hx rfl (pc0 := 170) (pc' := 174) rfl (hb hby at_170) (by decide) (by decide) ?_
    show Steps p.tables e below (T98.setTop (mkF m 174 #[.val (.int p1), .val (.int p2), .val (.ref b3), .val (.int (2 : Int32)), .val (.int (p2 &&& (3 : Int32))), .val (.ref b55), .val (.ref b76), .val (.ref xx0)] [(.int (1 : Int32))])) _
    exact retN X98 hx (t := .boolean) Bd.returns (by simp) (hb hby at_174) hr
  · skip
    exact ⟨rfl, N98⟩
set_option maxRecDepth 65536 in
set_option maxHeartbeats 40000000 in
theorem rm0n3 (l : Launch) (Z : State) (a0 : Array Value) (hw : ∀ d ∈ tables_1, d.before a0 Z = true) (ws : List Jvm.Cond) (p1 p2 : Int32) (w58 : Addr) (v63 : ClassId) (w97 : Addr) (h0 : Heap) (n0 : Nat) (O0 : Old Z n0 h0) (hn59 : ((1 : Int32) + (p1 &&& (3 : Int32))) = (3 : Int32)) (S_DEFAULTCAPACITY_EMPTY_ELEMENTDATA : Sta Z Z.heap "java/util/ArrayList" "DEFAULTCAPACITY_EMPTY_ELEMENTDATA" "[Ljava/lang/Object;" (.ref w58)) (HV_w58 : Arv Z h0 w58 v63 (.object "java/lang/Object") (0 : Int32) [] .null) (Mi__Ljava_lang_Object_ : own_Mir Z "[Ljava/lang/Object;" w97) :
    own_Met l Z ws #[(.int p1), (.int p2)] h0 n0 := by
  refine MetFree.of_bodySF (plainFor_of_name pnc_com_example_wattle_wattle_DayAheadPricesFirstPinLaw) hisR ?_
  intro p e s m args below meth c s₁ Bd hml0 hP hK
  obtain ⟨rfl, hZ_, hh⟩ := hP
  have hx := Bd.exec
  have hby := Bd.bytes
  have hml : c.maxLocals = 8 := hml0
  have hown : s.vm.findClass "com/example/wattle/wattle/DayAheadPricesFirstPinLaw" = some m.cls := findClass_of_methodNamed Bd.named
  have hnm := (name_of_methodNamed Bd.named Bd.method).1
  have X0 : Stand p l e room_1 (s.setVm s.vm) m #[(.int p1), (.int p2)] below meth c s₁ [] 0 0 := Stand.of_body Bd
  have hZ : Z.Warmed39 (s.setVm s.vm).vm := hZ_
  have hS0 : s.Since s.vm s.heap.size := (State.WarmedH.refl s).since s.heap.size
  have hk0 : s.heap.size ≤ h0.size := Nat.le_of_eq (by rw [hh])
  have e0 : s₁.heap = h0 := by rw [← hh, Bd.state]; rfl
  have N0 := Fr.nil n0
  have Z0 : n0 ≤ h0.size := O0.1 ▸ O0.2.1
  have pre0 : ∀ t, Steps p.tables e below (s₁.setTop (mkF m 0 #[.val (.int p1), .val (.int p2), .unset, .unset, .unset, .unset, .unset, .unset] [])) t → Steps p.tables e below (s₁.setTop (entryFrame m #[(.int p1), (.int p2)] maxLocals)) t := fun t k => castTop (ef_0 m p1 p2) k
  obtain ⟨T3, h3, k3, X3, e3, E3, A3, B3, Ov3, st3⟩ := newRE X0 hx hZ hown (hw _ (List.mem_of_getElem? (i := 0) rfl)) (hw _ (List.mem_of_getElem? (i := 1) rfl)) e0 (g := (mkF m 1 #[.val (.int p1), .val (.int p2), .unset, .unset, .unset, .unset, .unset, .unset] [(.int (4 : Int32))])) rfl (hb hby at_1) rfl (by decide) (cap := 4) (by decide) (by decide) (by decide) (by decide) (ad := "[Lcom/example/wattle/wattle/HourlyPrice;") (by decide)
  obtain ⟨b3, g3⟩ : ∃ z, z = h0.size := ⟨_, rfl⟩
  rw [← g3] at A3 B3 st3
  have g_b3 : n0 ≤ b3 := Nat.le_trans (Nat.le_trans Z0 (Keep.refl h0 []).1) (Nat.le_of_eq g3.symm)
  have sz_b3 : h0.size ≤ b3 := Nat.le_trans (Keep.refl h0 []).1 (Nat.le_of_eq g3.symm)
  have K4 : Keep h0 h3 [] := (Keep.refl h0 []).ext E3
  have O5 : Old Z n0 h3 := O0.ext E3
  have V3 : Arv Z h3 b3 k3 (.object "com/example/wattle/wattle/HourlyPrice") (4 : Int32) [.null, .null, .null, .null] .null := (Arv.new A3 (by decide)).pad (pad_rep [] .null 4)
  replace X3 := X3.more (cells' := 1) (slots' := 4) (by decide) (by decide)
  obtain ⟨T6, h6, X6, e6, E6, A6, D6, -, st6⟩ := newO X3 hx hZ hown (hw _ (List.mem_of_getElem? (i := 0) rfl)) (hw _ (List.mem_of_getElem? (i := 2) rfl)) (hw _ (List.mem_of_getElem? (i := 3) rfl)) e3 (g := (mkF m 7 #[.val (.int p1), .val (.int p2), .val (.ref b3), .unset, .unset, .unset, .unset, .unset] [(.int (0 : Int32)), (.ref b3)])) rfl (hb hby at_7) (by decide) (by decide)
  obtain ⟨b6, g6⟩ : ∃ z, z = h3.size := ⟨_, rfl⟩
  rw [← g6] at A6 D6 st6
  have g_b6 : n0 ≤ b6 := Nat.le_trans (Nat.le_trans Z0 K4.1) (Nat.le_of_eq g6.symm)
  have sz_b6 : h0.size ≤ b6 := Nat.le_trans K4.1 (Nat.le_of_eq g6.symm)
  have K7 : Keep h0 h6 [] := K4.ext E6
  have O8 : Old Z n0 h6 := O5.ext E6
  have F_hour_b6 : Fld Z h6 b6 "com/example/wattle/wattle/HourlyPrice" "hour" "Ljava/time/OffsetDateTime;" .null := D6 (Or.inr (hw _ (List.mem_of_getElem? (i := 16) rfl))) (ty := (.object "java/time/OffsetDateTime")) (by decide)
  have F_price_b6 : Fld Z h6 b6 "com/example/wattle/wattle/HourlyPrice" "price" "Ljava/math/BigDecimal;" .null := D6 (Or.inr (hw _ (List.mem_of_getElem? (i := 18) rfl))) (ty := (.object "java/math/BigDecimal")) (by decide)
  replace X6 := X6.more (cells' := 2) (slots' := 6) (by decide) (by decide)
  obtain ⟨vr9, _, ⟨T9, L9, k9, n9⟩, -, X9, ⟨Lc9, hQ9, l9, y9, z9⟩, st9⟩ := X6.specialBack hx (y := (⟨"com/example/wattle/wattle/HourlyPrice", "<init>", "(Ljava/time/OffsetDateTime;Ljava/math/BigDecimal;)V"⟩ : MethodName)) rfl hown (mvT hZ (hw _ (List.mem_of_getElem? (i := 4) rfl))) (mvT hZ (hw _ (List.mem_of_getElem? (i := 5) rfl))) (mvT hZ (hw _ (List.mem_of_getElem? (i := 6) rfl))) (by decide) (backOf (W := 3) (rm1 l Z a0 hw [] b6 (.null) (.null) h6 n0 O8 A6 F_hour_b6 g_b6 F_price_b6) hZ (hw _ (List.mem_of_getElem? (i := 6) rfl)) (hw _ (List.mem_of_getElem? (i := 3) rfl)) (by decide) (by decide)) (g := (mkF m 13 #[.val (.int p1), .val (.int p2), .val (.ref b3), .unset, .unset, .unset, .unset, .unset] [.null, .null, (.ref b6), (.ref b6), (.int (0 : Int32)), (.ref b3)])) rfl (by rw [hml]; rfl) (Steps.refl _) (a := b6) (argsL := [.null, .null]) (rest := [(.ref b6), (.int (0 : Int32)), (.ref b3)]) (lenOf pd_15 rfl) rfl (by show 2 * 0 + _ ≤ _; exact Nat.le_of_eq rfl) (hb hby at_13) (fun _ _ => ⟨rfl, e6, (by decide : 2 + 0 ≤ _), (by decide : 6 + 0 ≤ _)⟩)
  dsimp only [Pt.U, Pt.locs, Pt.cells, Pt.slots] at X9 l9 y9 z9 st9 hQ9
  subst l9 y9 z9
  obtain ⟨rfl, N9q, K9, Y9_0, Y9_1, Y9_2⟩ := hQ9
  have N9 := Fr.app N0 N9q
  replace X9 := X9.more (cells' := 2) (slots' := 6) (by decide) (by decide)
  have K10 : Keep h0 T9.heap [] := K7.trans K9 (allS (Or.inr sz_b6) all0)
  have O11 : Old Z n0 T9.heap := O8.keep K9 (allS g_b6 all0)
  have f12 := ((V3.ext E6).keep K9 (ninS (Nat.ne_of_lt (Nat.lt_of_lt_of_le V3.lt (Nat.le_of_eq g6.symm))) nin0))
  obtain ⟨cl13, Ar13, q13, S13, Nn13, Hh13, G13⟩ := id f12
  have hin13 : ¬ ((0 : Int32) < 0 ∨ cl13.slots.size ≤ ((0 : Int32)).toNatClampNeg) := inb_of S13 ⟨by decide, by decide⟩
  obtain ⟨T14, h14, X14, e14, W14, st14⟩ := stR X9 hx hZ rfl Ar13 (j := (0 : Int32)) hin13 rfl (Sto.ofV Ar13 q13 Ov3 (Ins.self Y9_0)) (g := (mkF m 16 #[.val (.int p1), .val (.int p2), .val (.ref b3), .unset, .unset, .unset, .unset, .unset] [(.ref b6), (.int (0 : Int32)), (.ref b3)])) rfl rfl (hb hby at_16)
  have N14 := Fr.snoc X14 N9 g_b3
  have K15 : Keep h0 h14 [] := K10.wr W14 (Or.inr sz_b3)
  have O16 : Old Z n0 h14 := O11.wr W14 g_b3
  have V14 : Arv Z h14 b3 k3 (.object "com/example/wattle/wattle/HourlyPrice") (4 : Int32) [(.ref b6), .null, .null, .null] .null := Arv.set Ar13 q13 S13 Nn13 Hh13 G13 rfl W14 0 rfl (Nat.le_of_ble_eq_true rfl)
  obtain ⟨T17, h17, X17, e17, E17, A17, D17, -, st17⟩ := newO X14 hx hZ hown (hw _ (List.mem_of_getElem? (i := 0) rfl)) (hw _ (List.mem_of_getElem? (i := 2) rfl)) (hw _ (List.mem_of_getElem? (i := 3) rfl)) e14 (g := (mkF m 19 #[.val (.int p1), .val (.int p2), .val (.ref b3), .unset, .unset, .unset, .unset, .unset] [(.int (1 : Int32)), (.ref b3)])) rfl (hb hby at_19) (by decide) (by decide)
  obtain ⟨b17, g17⟩ : ∃ z, z = h14.size := ⟨_, rfl⟩
  rw [← g17] at A17 D17 st17
  have g_b17 : n0 ≤ b17 := Nat.le_trans (Nat.le_trans Z0 K15.1) (Nat.le_of_eq g17.symm)
  have sz_b17 : h0.size ≤ b17 := Nat.le_trans K15.1 (Nat.le_of_eq g17.symm)
  have K18 : Keep h0 h17 [] := K15.ext E17
  have O19 : Old Z n0 h17 := O16.ext E17
  have F_hour_b17 : Fld Z h17 b17 "com/example/wattle/wattle/HourlyPrice" "hour" "Ljava/time/OffsetDateTime;" .null := D17 (Or.inr (hw _ (List.mem_of_getElem? (i := 16) rfl))) (ty := (.object "java/time/OffsetDateTime")) (by decide)
  have F_price_b17 : Fld Z h17 b17 "com/example/wattle/wattle/HourlyPrice" "price" "Ljava/math/BigDecimal;" .null := D17 (Or.inr (hw _ (List.mem_of_getElem? (i := 18) rfl))) (ty := (.object "java/math/BigDecimal")) (by decide)
  replace X17 := X17.more (cells' := 3) (slots' := 8) (by decide) (by decide)
  obtain ⟨vr20, _, ⟨T20, L20, k20, n20⟩, -, X20, ⟨Lc20, hQ20, l20, y20, z20⟩, st20⟩ := X17.specialBack hx (y := (⟨"com/example/wattle/wattle/HourlyPrice", "<init>", "(Ljava/time/OffsetDateTime;Ljava/math/BigDecimal;)V"⟩ : MethodName)) rfl hown (mvT hZ (hw _ (List.mem_of_getElem? (i := 4) rfl))) (mvT hZ (hw _ (List.mem_of_getElem? (i := 5) rfl))) (mvT hZ (hw _ (List.mem_of_getElem? (i := 6) rfl))) (by decide) (backOf (W := 3) (rm1 l Z a0 hw [] b17 (.null) (.null) h17 n0 O19 A17 F_hour_b17 g_b17 F_price_b17) hZ (hw _ (List.mem_of_getElem? (i := 6) rfl)) (hw _ (List.mem_of_getElem? (i := 3) rfl)) (by decide) (by decide)) (g := (mkF m 25 #[.val (.int p1), .val (.int p2), .val (.ref b3), .unset, .unset, .unset, .unset, .unset] [.null, .null, (.ref b17), (.ref b17), (.int (1 : Int32)), (.ref b3)])) rfl (by rw [hml]; rfl) (Steps.refl _) (a := b17) (argsL := [.null, .null]) (rest := [(.ref b17), (.int (1 : Int32)), (.ref b3)]) (lenOf pd_15 rfl) rfl (by show 2 * 0 + _ ≤ _; exact Nat.le_of_eq rfl) (hb hby at_25) (fun _ _ => ⟨rfl, e17, (by decide : 3 + 0 ≤ _), (by decide : 8 + 0 ≤ _)⟩)
  dsimp only [Pt.U, Pt.locs, Pt.cells, Pt.slots] at X20 l20 y20 z20 st20 hQ20
  subst l20 y20 z20
  obtain ⟨rfl, N20q, K20, Y20_0, Y20_1, Y20_2⟩ := hQ20
  have N20 := Fr.app N14 N20q
  replace X20 := X20.more (cells' := 3) (slots' := 8) (by decide) (by decide)
  have K21 : Keep h0 T20.heap [] := K18.trans K20 (allS (Or.inr sz_b17) all0)
  have O22 : Old Z n0 T20.heap := O19.keep K20 (allS g_b17 all0)
  have f23 := ((V14.ext E17).keep K20 (ninS (Nat.ne_of_lt (Nat.lt_of_lt_of_le (Nat.lt_of_lt_of_le V3.lt (Nat.le_trans (Nat.le_trans E6.1 K9.1) (Keep.of_wr W14).1)) (Nat.le_of_eq g17.symm))) nin0))
  obtain ⟨cl24, Ar24, q24, S24, Nn24, Hh24, G24⟩ := id f23
  have hin24 : ¬ ((1 : Int32) < 0 ∨ cl24.slots.size ≤ ((1 : Int32)).toNatClampNeg) := inb_of S24 ⟨by decide, by decide⟩
  obtain ⟨T25, h25, X25, e25, W25, st25⟩ := stR X20 hx hZ rfl Ar24 (j := (1 : Int32)) hin24 rfl (Sto.ofV Ar24 q24 Ov3 (Ins.self Y20_0)) (g := (mkF m 28 #[.val (.int p1), .val (.int p2), .val (.ref b3), .unset, .unset, .unset, .unset, .unset] [(.ref b17), (.int (1 : Int32)), (.ref b3)])) rfl rfl (hb hby at_28)
  have N25 := Fr.snoc X25 N20 g_b3
  have K26 : Keep h0 h25 [] := K21.wr W25 (Or.inr sz_b3)
  have O27 : Old Z n0 h25 := O22.wr W25 g_b3
  have V25 : Arv Z h25 b3 k3 (.object "com/example/wattle/wattle/HourlyPrice") (4 : Int32) [(.ref b6), (.ref b17), .null, .null] .null := Arv.set Ar24 q24 S24 Nn24 Hh24 G24 rfl W25 1 rfl (Nat.le_of_ble_eq_true rfl)
  obtain ⟨T28, h28, X28, e28, E28, A28, D28, -, st28⟩ := newO X25 hx hZ hown (hw _ (List.mem_of_getElem? (i := 0) rfl)) (hw _ (List.mem_of_getElem? (i := 2) rfl)) (hw _ (List.mem_of_getElem? (i := 3) rfl)) e25 (g := (mkF m 31 #[.val (.int p1), .val (.int p2), .val (.ref b3), .unset, .unset, .unset, .unset, .unset] [(.int (2 : Int32)), (.ref b3)])) rfl (hb hby at_31) (by decide) (by decide)
  obtain ⟨b28, g28⟩ : ∃ z, z = h25.size := ⟨_, rfl⟩
  rw [← g28] at A28 D28 st28
  have g_b28 : n0 ≤ b28 := Nat.le_trans (Nat.le_trans Z0 K26.1) (Nat.le_of_eq g28.symm)
  have sz_b28 : h0.size ≤ b28 := Nat.le_trans K26.1 (Nat.le_of_eq g28.symm)
  have K29 : Keep h0 h28 [] := K26.ext E28
  have O30 : Old Z n0 h28 := O27.ext E28
  have F_hour_b28 : Fld Z h28 b28 "com/example/wattle/wattle/HourlyPrice" "hour" "Ljava/time/OffsetDateTime;" .null := D28 (Or.inr (hw _ (List.mem_of_getElem? (i := 16) rfl))) (ty := (.object "java/time/OffsetDateTime")) (by decide)
  have F_price_b28 : Fld Z h28 b28 "com/example/wattle/wattle/HourlyPrice" "price" "Ljava/math/BigDecimal;" .null := D28 (Or.inr (hw _ (List.mem_of_getElem? (i := 18) rfl))) (ty := (.object "java/math/BigDecimal")) (by decide)
  replace X28 := X28.more (cells' := 4) (slots' := 10) (by decide) (by decide)
  obtain ⟨vr31, _, ⟨T31, L31, k31, n31⟩, -, X31, ⟨Lc31, hQ31, l31, y31, z31⟩, st31⟩ := X28.specialBack hx (y := (⟨"com/example/wattle/wattle/HourlyPrice", "<init>", "(Ljava/time/OffsetDateTime;Ljava/math/BigDecimal;)V"⟩ : MethodName)) rfl hown (mvT hZ (hw _ (List.mem_of_getElem? (i := 4) rfl))) (mvT hZ (hw _ (List.mem_of_getElem? (i := 5) rfl))) (mvT hZ (hw _ (List.mem_of_getElem? (i := 6) rfl))) (by decide) (backOf (W := 3) (rm1 l Z a0 hw [] b28 (.null) (.null) h28 n0 O30 A28 F_hour_b28 g_b28 F_price_b28) hZ (hw _ (List.mem_of_getElem? (i := 6) rfl)) (hw _ (List.mem_of_getElem? (i := 3) rfl)) (by decide) (by decide)) (g := (mkF m 37 #[.val (.int p1), .val (.int p2), .val (.ref b3), .unset, .unset, .unset, .unset, .unset] [.null, .null, (.ref b28), (.ref b28), (.int (2 : Int32)), (.ref b3)])) rfl (by rw [hml]; rfl) (Steps.refl _) (a := b28) (argsL := [.null, .null]) (rest := [(.ref b28), (.int (2 : Int32)), (.ref b3)]) (lenOf pd_15 rfl) rfl (by show 2 * 0 + _ ≤ _; exact Nat.le_of_eq rfl) (hb hby at_37) (fun _ _ => ⟨rfl, e28, (by decide : 4 + 0 ≤ _), (by decide : 10 + 0 ≤ _)⟩)
  dsimp only [Pt.U, Pt.locs, Pt.cells, Pt.slots] at X31 l31 y31 z31 st31 hQ31
  subst l31 y31 z31
  obtain ⟨rfl, N31q, K31, Y31_0, Y31_1, Y31_2⟩ := hQ31
  have N31 := Fr.app N25 N31q
  replace X31 := X31.more (cells' := 4) (slots' := 10) (by decide) (by decide)
  have K32 : Keep h0 T31.heap [] := K29.trans K31 (allS (Or.inr sz_b28) all0)
  have O33 : Old Z n0 T31.heap := O30.keep K31 (allS g_b28 all0)
  have f34 := ((V25.ext E28).keep K31 (ninS (Nat.ne_of_lt (Nat.lt_of_lt_of_le (Nat.lt_of_lt_of_le V3.lt (Nat.le_trans (Nat.le_trans (Nat.le_trans (Nat.le_trans (Nat.le_trans E6.1 K9.1) (Keep.of_wr W14).1) E17.1) K20.1) (Keep.of_wr W25).1)) (Nat.le_of_eq g28.symm))) nin0))
  obtain ⟨cl35, Ar35, q35, S35, Nn35, Hh35, G35⟩ := id f34
  have hin35 : ¬ ((2 : Int32) < 0 ∨ cl35.slots.size ≤ ((2 : Int32)).toNatClampNeg) := inb_of S35 ⟨by decide, by decide⟩
  obtain ⟨T36, h36, X36, e36, W36, st36⟩ := stR X31 hx hZ rfl Ar35 (j := (2 : Int32)) hin35 rfl (Sto.ofV Ar35 q35 Ov3 (Ins.self Y31_0)) (g := (mkF m 40 #[.val (.int p1), .val (.int p2), .val (.ref b3), .unset, .unset, .unset, .unset, .unset] [(.ref b28), (.int (2 : Int32)), (.ref b3)])) rfl rfl (hb hby at_40)
  have N36 := Fr.snoc X36 N31 g_b3
  have K37 : Keep h0 h36 [] := K32.wr W36 (Or.inr sz_b3)
  have O38 : Old Z n0 h36 := O33.wr W36 g_b3
  have V36 : Arv Z h36 b3 k3 (.object "com/example/wattle/wattle/HourlyPrice") (4 : Int32) [(.ref b6), (.ref b17), (.ref b28), .null] .null := Arv.set Ar35 q35 S35 Nn35 Hh35 G35 rfl W36 2 rfl (Nat.le_of_ble_eq_true rfl)
  obtain ⟨T39, h39, X39, e39, E39, A39, D39, -, st39⟩ := newO X36 hx hZ hown (hw _ (List.mem_of_getElem? (i := 0) rfl)) (hw _ (List.mem_of_getElem? (i := 2) rfl)) (hw _ (List.mem_of_getElem? (i := 3) rfl)) e36 (g := (mkF m 43 #[.val (.int p1), .val (.int p2), .val (.ref b3), .unset, .unset, .unset, .unset, .unset] [(.int (3 : Int32)), (.ref b3)])) rfl (hb hby at_43) (by decide) (by decide)
  obtain ⟨b39, g39⟩ : ∃ z, z = h36.size := ⟨_, rfl⟩
  rw [← g39] at A39 D39 st39
  have g_b39 : n0 ≤ b39 := Nat.le_trans (Nat.le_trans Z0 K37.1) (Nat.le_of_eq g39.symm)
  have sz_b39 : h0.size ≤ b39 := Nat.le_trans K37.1 (Nat.le_of_eq g39.symm)
  have K40 : Keep h0 h39 [] := K37.ext E39
  have O41 : Old Z n0 h39 := O38.ext E39
  have F_hour_b39 : Fld Z h39 b39 "com/example/wattle/wattle/HourlyPrice" "hour" "Ljava/time/OffsetDateTime;" .null := D39 (Or.inr (hw _ (List.mem_of_getElem? (i := 16) rfl))) (ty := (.object "java/time/OffsetDateTime")) (by decide)
  have F_price_b39 : Fld Z h39 b39 "com/example/wattle/wattle/HourlyPrice" "price" "Ljava/math/BigDecimal;" .null := D39 (Or.inr (hw _ (List.mem_of_getElem? (i := 18) rfl))) (ty := (.object "java/math/BigDecimal")) (by decide)
  replace X39 := X39.more (cells' := 5) (slots' := 12) (by decide) (by decide)
  obtain ⟨vr42, _, ⟨T42, L42, k42, n42⟩, -, X42, ⟨Lc42, hQ42, l42, y42, z42⟩, st42⟩ := X39.specialBack hx (y := (⟨"com/example/wattle/wattle/HourlyPrice", "<init>", "(Ljava/time/OffsetDateTime;Ljava/math/BigDecimal;)V"⟩ : MethodName)) rfl hown (mvT hZ (hw _ (List.mem_of_getElem? (i := 4) rfl))) (mvT hZ (hw _ (List.mem_of_getElem? (i := 5) rfl))) (mvT hZ (hw _ (List.mem_of_getElem? (i := 6) rfl))) (by decide) (backOf (W := 3) (rm1 l Z a0 hw [] b39 (.null) (.null) h39 n0 O41 A39 F_hour_b39 g_b39 F_price_b39) hZ (hw _ (List.mem_of_getElem? (i := 6) rfl)) (hw _ (List.mem_of_getElem? (i := 3) rfl)) (by decide) (by decide)) (g := (mkF m 49 #[.val (.int p1), .val (.int p2), .val (.ref b3), .unset, .unset, .unset, .unset, .unset] [.null, .null, (.ref b39), (.ref b39), (.int (3 : Int32)), (.ref b3)])) rfl (by rw [hml]; rfl) (Steps.refl _) (a := b39) (argsL := [.null, .null]) (rest := [(.ref b39), (.int (3 : Int32)), (.ref b3)]) (lenOf pd_15 rfl) rfl (by show 2 * 0 + _ ≤ _; exact Nat.le_of_eq rfl) (hb hby at_49) (fun _ _ => ⟨rfl, e39, (by decide : 5 + 0 ≤ _), (by decide : 12 + 0 ≤ _)⟩)
  dsimp only [Pt.U, Pt.locs, Pt.cells, Pt.slots] at X42 l42 y42 z42 st42 hQ42
  subst l42 y42 z42
  obtain ⟨rfl, N42q, K42, Y42_0, Y42_1, Y42_2⟩ := hQ42
  have N42 := Fr.app N36 N42q
  replace X42 := X42.more (cells' := 5) (slots' := 12) (by decide) (by decide)
  have K43 : Keep h0 T42.heap [] := K40.trans K42 (allS (Or.inr sz_b39) all0)
  have O44 : Old Z n0 T42.heap := O41.keep K42 (allS g_b39 all0)
  have f45 := ((V36.ext E39).keep K42 (ninS (Nat.ne_of_lt (Nat.lt_of_lt_of_le (Nat.lt_of_lt_of_le V3.lt (Nat.le_trans (Nat.le_trans (Nat.le_trans (Nat.le_trans (Nat.le_trans (Nat.le_trans (Nat.le_trans (Nat.le_trans E6.1 K9.1) (Keep.of_wr W14).1) E17.1) K20.1) (Keep.of_wr W25).1) E28.1) K31.1) (Keep.of_wr W36).1)) (Nat.le_of_eq g39.symm))) nin0))
  obtain ⟨cl46, Ar46, q46, S46, Nn46, Hh46, G46⟩ := id f45
  have hin46 : ¬ ((3 : Int32) < 0 ∨ cl46.slots.size ≤ ((3 : Int32)).toNatClampNeg) := inb_of S46 ⟨by decide, by decide⟩
  obtain ⟨T47, h47, X47, e47, W47, st47⟩ := stR X42 hx hZ rfl Ar46 (j := (3 : Int32)) hin46 rfl (Sto.ofV Ar46 q46 Ov3 (Ins.self Y42_0)) (g := (mkF m 52 #[.val (.int p1), .val (.int p2), .val (.ref b3), .unset, .unset, .unset, .unset, .unset] [(.ref b39), (.int (3 : Int32)), (.ref b3)])) rfl rfl (hb hby at_52)
  have N47 := Fr.snoc X47 N42 g_b3
  have K48 : Keep h0 h47 [] := K43.wr W47 (Or.inr sz_b3)
  have O49 : Old Z n0 h47 := O44.wr W47 g_b3
  have V47 : Arv Z h47 b3 k3 (.object "com/example/wattle/wattle/HourlyPrice") (4 : Int32) [(.ref b6), (.ref b17), (.ref b28), (.ref b39)] .null := Arv.set Ar46 q46 S46 Nn46 Hh46 G46 rfl W47 3 rfl (Nat.le_of_ble_eq_true rfl)
  obtain ⟨cl50, Ar50, q50, S50, Nn50, Hh50, G50⟩ := id V47
  have f51 := ((((((((((Y9_0.wr W14).ext E17).keep K20).wr W25).ext E28).keep K31).wr W36).ext E39).keep K42).wr W47)
  have f52 := (((((((Y20_0.wr W25).ext E28).keep K31).wr W36).ext E39).keep K42).wr W47)
  have f53 := ((((Y31_0.wr W36).ext E39).keep K42).wr W47)
  have f54 := (Y42_0.wr W47)
  obtain ⟨xx0, hxi0, hxa0, hxe0⟩ := own_pick4 S50 Hh50 f51 f52 f53 f54 p2
  obtain ⟨xx1, hxi1, hxa1, hxe1⟩ := own_pick4 S50 Hh50 f51 f52 f53 f54 ((p2 &&& (3 : Int32)) + (1 : Int32))
  obtain ⟨xx2, hxi2, hxa2, hxe2⟩ := own_pick4 S50 Hh50 f51 f52 f53 f54 ((p2 &&& (3 : Int32)) + (2 : Int32))
  obtain ⟨xx3, hxi3, hxa3, hxe3⟩ := own_pick4 S50 Hh50 f51 f52 f53 f54 ((p2 &&& (3 : Int32)) + (3 : Int32))
  obtain ⟨T55, h55, X55, e55, E55, A55, D55, -, st55⟩ := newO X47 hx hZ hown (hw _ (List.mem_of_getElem? (i := 20) rfl)) (hw _ (List.mem_of_getElem? (i := 21) rfl)) (hw _ (List.mem_of_getElem? (i := 22) rfl)) e47 (g := (mkF m 64 #[.val (.int p1), .val (.int p2), .val (.ref b3), .val (.int (3 : Int32)), .val (.int (p2 &&& (3 : Int32))), .unset, .unset, .unset] [])) rfl (hb hby at_64) (by decide) (by decide)
  obtain ⟨b55, g55⟩ : ∃ z, z = h47.size := ⟨_, rfl⟩
  rw [← g55] at A55 D55 st55
  have g_b55 : n0 ≤ b55 := Nat.le_trans (Nat.le_trans Z0 K48.1) (Nat.le_of_eq g55.symm)
  have sz_b55 : h0.size ≤ b55 := Nat.le_trans K48.1 (Nat.le_of_eq g55.symm)
  have K56 : Keep h0 h55 [] := K48.ext E55
  have O57 : Old Z n0 h55 := O49.ext E55
  have F_modCount_b55 : Fld Z h55 b55 "java/util/AbstractList" "modCount" "I" (.int (0 : Int32)) := D55 (Or.inl (hw _ (List.mem_of_getElem? (i := 40) rfl))) (ty := .int) (by decide)
  have F_elementData_b55 : Fld Z h55 b55 "java/util/ArrayList" "elementData" "[Ljava/lang/Object;" .null := D55 (Or.inl (hw _ (List.mem_of_getElem? (i := 43) rfl))) (ty := (.array (.object "java/lang/Object"))) (by decide)
  have F_size_b55 : Fld Z h55 b55 "java/util/ArrayList" "size" "I" (.int (0 : Int32)) := D55 (Or.inl (hw _ (List.mem_of_getElem? (i := 52) rfl))) (ty := .int) (by decide)
  replace X55 := X55.more (cells' := 6) (slots' := 15) (by decide) (by decide)
  obtain ⟨vr59, _, ⟨T59, L59, k59, n59⟩, -, X59, ⟨Lc59, hQ59, l59, y59, z59⟩, st59⟩ := X55.specialBack hx (y := (⟨"java/util/ArrayList", "<init>", "()V"⟩ : MethodName)) rfl hown (mvT hZ (hw _ (List.mem_of_getElem? (i := 23) rfl))) (mvT hZ (hw _ (List.mem_of_getElem? (i := 24) rfl))) (mvT hZ (hw _ (List.mem_of_getElem? (i := 25) rfl))) (by decide) (backOf (W := 1) (rm4 l Z a0 hw [] b55 ((.int (0 : Int32))) (.null) ((.int (0 : Int32))) w58 h55 n0 O57 A55 F_modCount_b55 F_elementData_b55 F_size_b55 g_b55 S_DEFAULTCAPACITY_EMPTY_ELEMENTDATA) hZ (hw _ (List.mem_of_getElem? (i := 25) rfl)) (hw _ (List.mem_of_getElem? (i := 22) rfl)) (by decide) (by decide)) (g := (mkF m 68 #[.val (.int p1), .val (.int p2), .val (.ref b3), .val (.int (3 : Int32)), .val (.int (p2 &&& (3 : Int32))), .unset, .unset, .unset] [(.ref b55), (.ref b55)])) rfl (by rw [hml]; rfl) (Steps.refl _) (a := b55) (argsL := []) (rest := [(.ref b55)]) (lenOf pd_2 rfl) rfl (by show 2 * 0 + _ ≤ _; exact Nat.le_of_eq rfl) (hb hby at_68) (fun _ _ => ⟨rfl, e55, (by decide : 6 + 0 ≤ _), (by decide : 15 + 0 ≤ _)⟩)
  dsimp only [Pt.U, Pt.locs, Pt.cells, Pt.slots] at X59 l59 y59 z59 st59 hQ59
  subst l59 y59 z59
  obtain ⟨rfl, N59q, K59, Y59_0, Y59_1, Y59_2, Y59_3⟩ := hQ59
  have N59 := Fr.app N47 N59q
  replace X59 := X59.more (cells' := 6) (slots' := 15) (by decide) (by decide)
  have K60 : Keep h0 T59.heap [] := K56.trans K59 (allS (Or.inr sz_b55) all0)
  have O61 : Old Z n0 T59.heap := O57.keep K59 (allS g_b55 all0)
  have f62 := (own_arrkeep (Ar50.ext E55) K59 (ninS (Nat.ne_of_lt (Nat.lt_of_lt_of_le (Nat.lt_of_lt_of_le V3.lt (Nat.le_trans (Nat.le_trans (Nat.le_trans (Nat.le_trans (Nat.le_trans (Nat.le_trans (Nat.le_trans (Nat.le_trans (Nat.le_trans (Nat.le_trans (Nat.le_trans E6.1 K9.1) (Keep.of_wr W14).1) E17.1) K20.1) (Keep.of_wr W25).1) E28.1) K31.1) (Keep.of_wr W36).1) E39.1) K42.1) (Keep.of_wr W47).1)) (Nat.le_of_eq g55.symm))) nin0))
  have f64 := (((((((((((((((HV_w58.ext E3).ext E6).keep K9 (ninS (Nat.ne_of_lt (Nat.lt_of_lt_of_le (Nat.lt_of_lt_of_le HV_w58.lt E3.1) (Nat.le_of_eq g6.symm))) nin0)).other W14 (Nat.ne_of_lt (Nat.lt_of_lt_of_le HV_w58.lt (Nat.le_of_eq g3.symm)))).ext E17).keep K20 (ninS (Nat.ne_of_lt (Nat.lt_of_lt_of_le (Nat.lt_of_lt_of_le HV_w58.lt (Nat.le_trans (Nat.le_trans (Nat.le_trans E3.1 E6.1) K9.1) (Keep.of_wr W14).1)) (Nat.le_of_eq g17.symm))) nin0)).other W25 (Nat.ne_of_lt (Nat.lt_of_lt_of_le HV_w58.lt (Nat.le_of_eq g3.symm)))).ext E28).keep K31 (ninS (Nat.ne_of_lt (Nat.lt_of_lt_of_le (Nat.lt_of_lt_of_le HV_w58.lt (Nat.le_trans (Nat.le_trans (Nat.le_trans (Nat.le_trans (Nat.le_trans (Nat.le_trans E3.1 E6.1) K9.1) (Keep.of_wr W14).1) E17.1) K20.1) (Keep.of_wr W25).1)) (Nat.le_of_eq g28.symm))) nin0)).other W36 (Nat.ne_of_lt (Nat.lt_of_lt_of_le HV_w58.lt (Nat.le_of_eq g3.symm)))).ext E39).keep K42 (ninS (Nat.ne_of_lt (Nat.lt_of_lt_of_le (Nat.lt_of_lt_of_le HV_w58.lt (Nat.le_trans (Nat.le_trans (Nat.le_trans (Nat.le_trans (Nat.le_trans (Nat.le_trans (Nat.le_trans (Nat.le_trans (Nat.le_trans E3.1 E6.1) K9.1) (Keep.of_wr W14).1) E17.1) K20.1) (Keep.of_wr W25).1) E28.1) K31.1) (Keep.of_wr W36).1)) (Nat.le_of_eq g39.symm))) nin0)).other W47 (Nat.ne_of_lt (Nat.lt_of_lt_of_le HV_w58.lt (Nat.le_of_eq g3.symm)))).ext E55).keep K59 (ninS (Nat.ne_of_lt (Nat.lt_of_lt_of_le (Nat.lt_of_lt_of_le HV_w58.lt (Nat.le_trans (Nat.le_trans (Nat.le_trans (Nat.le_trans (Nat.le_trans (Nat.le_trans (Nat.le_trans (Nat.le_trans (Nat.le_trans (Nat.le_trans (Nat.le_trans (Nat.le_trans E3.1 E6.1) K9.1) (Keep.of_wr W14).1) E17.1) K20.1) (Keep.of_wr W25).1) E28.1) K31.1) (Keep.of_wr W36).1) E39.1) K42.1) (Keep.of_wr W47).1)) (Nat.le_of_eq g55.symm))) nin0))
  have f65 := ((hxe0.ext E55).keep K59)
  obtain ⟨cq66, kq66, q66a, q66b, q66c⟩ := isOf hZ rfl Y59_0
  obtain ⟨vr66, _, ⟨T66, L66, k66, n66⟩, -, X66, ⟨Lc66, hQ66, l66, y66, z66⟩, st66⟩ := X59.virtualBack hx (y := (⟨"java/util/ArrayList", "add", "(Ljava/lang/Object;)Z"⟩ : MethodName)) (z := (⟨"java/util/ArrayList", "add", "(Ljava/lang/Object;)Z"⟩ : MethodName)) hown (mvT hZ (hw _ (List.mem_of_getElem? (i := 44) rfl))) (mvT hZ (hw _ (List.mem_of_getElem? (i := 45) rfl))) (notFace_of_selects (args := #[]) (mvT hZ (hw _ (List.mem_of_getElem? (i := 47) rfl)))) (mvT hZ (hw _ (List.mem_of_getElem? (i := 47) rfl))) (mvT hZ (hw _ (List.mem_of_getElem? (i := 46) rfl))) (by decide) (backOf (W := 0) (rm7f l Z a0 hw [] b55 xx0 ((0 : Int32)) v63 w58 T59.heap n0 O61 Y59_0 Y59_2 Y59_1 Y59_3 f64 g_b55 (Nat.ne_of_lt (Nat.lt_of_lt_of_le (Nat.lt_of_lt_of_le HV_w58.lt (Nat.le_trans (Nat.le_trans (Nat.le_trans (Nat.le_trans (Nat.le_trans (Nat.le_trans (Nat.le_trans (Nat.le_trans (Nat.le_trans (Nat.le_trans (Nat.le_trans (Nat.le_trans E3.1 E6.1) K9.1) (Keep.of_wr W14).1) E17.1) K20.1) (Keep.of_wr W25).1) E28.1) K31.1) (Keep.of_wr W36).1) E39.1) K42.1) (Keep.of_wr W47).1)) (Nat.le_of_eq g55.symm))) S_DEFAULTCAPACITY_EMPTY_ELEMENTDATA (Ins.of_exa f65 (hw _ (List.mem_of_getElem? (i := 74) rfl)))) hZ (hw _ (List.mem_of_getElem? (i := 48) rfl)) (hw _ (List.mem_of_getElem? (i := 22) rfl)) (by decide) (by decide)) q66a q66c (g := (mkF m 79 #[.val (.int p1), .val (.int p2), .val (.ref b3), .val (.int (3 : Int32)), .val (.int (p2 &&& (3 : Int32))), .val (.ref b55), .unset, .unset] [(.ref xx0), (.ref b55)])) rfl (by rw [hml]; rfl) (Steps.refl _) (argsL := [(.ref xx0)]) (rest := []) (lenOf pd_10 rfl) rfl (by show 2 * 0 + _ ≤ _; exact Nat.le_of_eq rfl) (hb hby at_79) (fun _ _ => ⟨rfl, rfl, (by decide : 6 + 1 ≤ _), (by decide : 15 + 10 ≤ _)⟩)
  dsimp only [Pt.U, Pt.locs, Pt.cells, Pt.slots] at X66 l66 y66 z66 st66 hQ66
  subst l66 y66 z66
  obtain ⟨b67, k68, rfl, N66q, K66, Y66_z0, Y66_0, Y66_1, Y66_2, Y66_3, Y66_4, Y66_5, Y66_6⟩ := hQ66
  have N66 := Fr.app N59 N66q
  replace X66 := X66.more (cells' := 7) (slots' := 25) (by decide) (by decide)
  have g_b67 : n0 ≤ b67 := Nat.le_trans (Nat.le_trans Z0 K60.1) Y66_z0
  have sz_b67 : h0.size ≤ b67 := Nat.le_trans K60.1 Y66_z0
  have K69 : Keep h0 T66.heap [] := K60.trans K66 (allS (Or.inr sz_b55) all0)
  have O70 : Old Z n0 T66.heap := O61.keep K66 (allS g_b55 all0)
  have f71 := (own_arrkeep f62 K66 (ninS (Nat.ne_of_lt (Nat.lt_of_lt_of_le (Nat.lt_of_lt_of_le V3.lt (Nat.le_trans (Nat.le_trans (Nat.le_trans (Nat.le_trans (Nat.le_trans (Nat.le_trans (Nat.le_trans (Nat.le_trans (Nat.le_trans (Nat.le_trans (Nat.le_trans E6.1 K9.1) (Keep.of_wr W14).1) E17.1) K20.1) (Keep.of_wr W25).1) E28.1) K31.1) (Keep.of_wr W36).1) E39.1) K42.1) (Keep.of_wr W47).1)) (Nat.le_of_eq g55.symm))) nin0))
  have f72 := (((hxe1.ext E55).keep K59).keep K66)
  obtain ⟨cq73, kq73, q73a, q73b, q73c⟩ := isOf hZ rfl Y66_0
  obtain ⟨vr73, _, ⟨T73, L73, k73, n73⟩, -, X73, ⟨Lc73, hQ73, l73, y73, z73⟩, st73⟩ := X66.virtualBack hx (y := (⟨"java/util/ArrayList", "add", "(Ljava/lang/Object;)Z"⟩ : MethodName)) (z := (⟨"java/util/ArrayList", "add", "(Ljava/lang/Object;)Z"⟩ : MethodName)) hown (mvT hZ (hw _ (List.mem_of_getElem? (i := 44) rfl))) (mvT hZ (hw _ (List.mem_of_getElem? (i := 45) rfl))) (notFace_of_selects (args := #[]) (mvT hZ (hw _ (List.mem_of_getElem? (i := 47) rfl)))) (mvT hZ (hw _ (List.mem_of_getElem? (i := 47) rfl))) (mvT hZ (hw _ (List.mem_of_getElem? (i := 46) rfl))) (by decide) (backOf (W := 0) (rm7r1a l Z a0 hw [] b55 xx1 (((0 : Int32) + (1 : Int32))) k68 xx0 b67 T66.heap n0 O70 Y66_0 Y66_2 Y66_1 Y66_3 Y66_4 Y66_5 Y66_6 g_b55 (Ne.symm (Nat.ne_of_lt (Nat.lt_of_lt_of_le (Nat.lt_of_lt_of_le A55.lt K59.1) Y66_z0))) (Ins.of_exa f72 (hw _ (List.mem_of_getElem? (i := 74) rfl))) g_b67) hZ (hw _ (List.mem_of_getElem? (i := 48) rfl)) (hw _ (List.mem_of_getElem? (i := 22) rfl)) (by decide) (by decide)) q73a q73c (g := (mkF m 98 #[.val (.int p1), .val (.int p2), .val (.ref b3), .val (.int (3 : Int32)), .val (.int (p2 &&& (3 : Int32))), .val (.ref b55), .unset, .unset] [(.ref xx1), (.ref b55)])) rfl (by rw [hml]; rfl) (Steps.refl _) (argsL := [(.ref xx1)]) (rest := []) (lenOf pd_10 rfl) rfl (by show 2 * 0 + _ ≤ _; exact Nat.le_of_eq rfl) (hb hby at_98) (fun _ _ => ⟨rfl, rfl, (by decide : 7 + 0 ≤ _), (by decide : 25 + 0 ≤ _)⟩)
  dsimp only [Pt.U, Pt.locs, Pt.cells, Pt.slots] at X73 l73 y73 z73 st73 hQ73
  subst l73 y73 z73
  obtain ⟨rfl, N73q, K73, Y73_0, Y73_1, Y73_2, Y73_3, Y73_4, Y73_5, Y73_6⟩ := hQ73
  have N73 := Fr.app N66 N73q
  replace X73 := X73.more (cells' := 7) (slots' := 25) (by decide) (by decide)
  have K74 : Keep h0 T73.heap [] := K69.trans K73 (allS (Or.inr sz_b55) (allS (Or.inr sz_b67) all0))
  have O75 : Old Z n0 T73.heap := O70.keep K73 (allS g_b55 (allS g_b67 all0))
  have f76 := (own_arrkeep f71 K73 (ninS (Nat.ne_of_lt (Nat.lt_of_lt_of_le (Nat.lt_of_lt_of_le V3.lt (Nat.le_trans (Nat.le_trans (Nat.le_trans (Nat.le_trans (Nat.le_trans (Nat.le_trans (Nat.le_trans (Nat.le_trans (Nat.le_trans (Nat.le_trans (Nat.le_trans E6.1 K9.1) (Keep.of_wr W14).1) E17.1) K20.1) (Keep.of_wr W25).1) E28.1) K31.1) (Keep.of_wr W36).1) E39.1) K42.1) (Keep.of_wr W47).1)) (Nat.le_of_eq g55.symm))) (ninS (Nat.ne_of_lt (Nat.lt_of_lt_of_le (Nat.lt_of_lt_of_le V3.lt (Nat.le_trans (Nat.le_trans (Nat.le_trans (Nat.le_trans (Nat.le_trans (Nat.le_trans (Nat.le_trans (Nat.le_trans (Nat.le_trans (Nat.le_trans (Nat.le_trans (Nat.le_trans (Nat.le_trans E6.1 K9.1) (Keep.of_wr W14).1) E17.1) K20.1) (Keep.of_wr W25).1) E28.1) K31.1) (Keep.of_wr W36).1) E39.1) K42.1) (Keep.of_wr W47).1) E55.1) K59.1)) Y66_z0)) nin0)))
  have f77 := ((((hxe2.ext E55).keep K59).keep K66).keep K73)
  obtain ⟨cq78, kq78, q78a, q78b, q78c⟩ := isOf hZ rfl Y73_0
  obtain ⟨vr78, _, ⟨T78, L78, k78, n78⟩, -, X78, ⟨Lc78, hQ78, l78, y78, z78⟩, st78⟩ := X73.virtualBack hx (y := (⟨"java/util/ArrayList", "add", "(Ljava/lang/Object;)Z"⟩ : MethodName)) (z := (⟨"java/util/ArrayList", "add", "(Ljava/lang/Object;)Z"⟩ : MethodName)) hown (mvT hZ (hw _ (List.mem_of_getElem? (i := 44) rfl))) (mvT hZ (hw _ (List.mem_of_getElem? (i := 45) rfl))) (notFace_of_selects (args := #[]) (mvT hZ (hw _ (List.mem_of_getElem? (i := 47) rfl)))) (mvT hZ (hw _ (List.mem_of_getElem? (i := 47) rfl))) (mvT hZ (hw _ (List.mem_of_getElem? (i := 46) rfl))) (by decide) (backOf (W := 0) (rm7r2aa l Z a0 hw [] b55 xx2 ((((0 : Int32) + (1 : Int32)) + (1 : Int32))) k68 xx0 xx1 b67 T73.heap n0 O75 Y73_0 Y73_2 Y73_1 Y73_3 Y73_4 Y73_5 Y73_6 g_b55 (Ne.symm (Nat.ne_of_lt (Nat.lt_of_lt_of_le (Nat.lt_of_lt_of_le A55.lt K59.1) Y66_z0))) (Ins.of_exa f77 (hw _ (List.mem_of_getElem? (i := 74) rfl))) g_b67) hZ (hw _ (List.mem_of_getElem? (i := 48) rfl)) (hw _ (List.mem_of_getElem? (i := 22) rfl)) (by decide) (by decide)) q78a q78c (g := (mkF m 117 #[.val (.int p1), .val (.int p2), .val (.ref b3), .val (.int (3 : Int32)), .val (.int (p2 &&& (3 : Int32))), .val (.ref b55), .unset, .unset] [(.ref xx2), (.ref b55)])) rfl (by rw [hml]; rfl) (Steps.refl _) (argsL := [(.ref xx2)]) (rest := []) (lenOf pd_10 rfl) rfl (by show 2 * 0 + _ ≤ _; exact Nat.le_of_eq rfl) (hb hby at_117) (fun _ _ => ⟨rfl, rfl, (by decide : 7 + 0 ≤ _), (by decide : 25 + 0 ≤ _)⟩)
  dsimp only [Pt.U, Pt.locs, Pt.cells, Pt.slots] at X78 l78 y78 z78 st78 hQ78
  subst l78 y78 z78
  obtain ⟨rfl, N78q, K78, Y78_0, Y78_1, Y78_2, Y78_3, Y78_4, Y78_5, Y78_6⟩ := hQ78
  have N78 := Fr.app N73 N78q
  replace X78 := X78.more (cells' := 7) (slots' := 25) (by decide) (by decide)
  have K79 : Keep h0 T78.heap [] := K74.trans K78 (allS (Or.inr sz_b55) (allS (Or.inr sz_b67) all0))
  have O80 : Old Z n0 T78.heap := O75.keep K78 (allS g_b55 (allS g_b67 all0))
  obtain ⟨T81, h81, X81, e81, E81, A81, D81, -, st81⟩ := newO X78 hx hZ hown (hw _ (List.mem_of_getElem? (i := 75) rfl)) (hw _ (List.mem_of_getElem? (i := 76) rfl)) (hw _ (List.mem_of_getElem? (i := 77) rfl)) rfl (g := (mkF m 140 #[.val (.int p1), .val (.int p2), .val (.ref b3), .val (.int (3 : Int32)), .val (.int (p2 &&& (3 : Int32))), .val (.ref b55), .unset, .unset] [])) rfl (hb hby at_140) (by decide) (by decide)
  obtain ⟨b81, g81⟩ : ∃ z, z = T78.heap.size := ⟨_, rfl⟩
  rw [← g81] at A81 D81 st81
  have g_b81 : n0 ≤ b81 := Nat.le_trans (Nat.le_trans Z0 K79.1) (Nat.le_of_eq g81.symm)
  have sz_b81 : h0.size ≤ b81 := Nat.le_trans K79.1 (Nat.le_of_eq g81.symm)
  have K82 : Keep h0 h81 [] := K79.ext E81
  have O83 : Old Z n0 h81 := O80.ext E81
  have F_source_b81 : Fld Z h81 b81 "com/example/wattle/wattle/DayAheadPrices" "source" "Ljava/lang/String;" .null := D81 (Or.inr (hw _ (List.mem_of_getElem? (i := 91) rfl))) (ty := (.object "java/lang/String")) (by decide)
  have F_hours_b81 : Fld Z h81 b81 "com/example/wattle/wattle/DayAheadPrices" "hours" "Ljava/util/List;" .null := D81 (Or.inr (hw _ (List.mem_of_getElem? (i := 179) rfl))) (ty := (.object "java/util/List")) (by decide)
  replace X81 := X81.more (cells' := 8) (slots' := 27) (by decide) (by decide)
  obtain ⟨b84, T84, h84, k84, X84, e84, E84, hS84, hk84, hZ84, ho84, st84⟩ := ldcS X81 hx hZ hown (hw _ (List.mem_of_getElem? (i := 78) rfl)) (fun d hd => hw d (own_strw d hd)) e81 hS0 (Nat.le_trans hk0 (Nat.le_trans (Nat.le_trans (Nat.le_trans (Nat.le_trans (Nat.le_trans (Nat.le_trans (Nat.le_trans (Nat.le_trans (Nat.le_trans (Nat.le_trans (Nat.le_trans (Nat.le_trans (Nat.le_trans (Nat.le_trans (Nat.le_trans (Nat.le_trans (Nat.le_trans (Nat.le_trans E3.1 E6.1) K9.1) (Keep.of_wr W14).1) E17.1) K20.1) (Keep.of_wr W25).1) E28.1) K31.1) (Keep.of_wr W36).1) E39.1) K42.1) (Keep.of_wr W47).1) E55.1) K59.1) K66.1) K73.1) K78.1) E81.1)) (g := (mkF m 144 #[.val (.int p1), .val (.int p2), .val (.ref b3), .val (.int (3 : Int32)), .val (.int (p2 &&& (3 : Int32))), .val (.ref b55), .unset, .unset] [(.ref b81), (.ref b81)])) rfl (hb hby at_144) (n := 24) (by decide) (by decide) (by decide) (by decide)
  have K85 : Keep h0 h84 [] := K82.ext E84
  have O86 : Old Z n0 h84 := O83.ext E84
  replace X84 := X84.more (cells' := 10) (slots' := 55) (by decide) (by decide)
  have f87 := (A81.ext E84)
  have f88 := (F_source_b81.ext E84)
  have f89 := ((Y78_0.ext E81).ext E84)
  have f90 := ((Y78_1.ext E81).ext E84)
  have f91 := ((Y78_3.ext E81).ext E84)
  have f92 := ((Y78_4.ext E81).ext E84)
  have f93 := ((Y78_5.ext E81).ext E84)
  have f94 := (((((f65.keep K66).keep K73).keep K78).ext E81).ext E84)
  have f95 := ((((f72.keep K73).keep K78).ext E81).ext E84)
  have f96 := (((f77.keep K78).ext E81).ext E84)
  have f98 := (F_hours_b81.ext E84)
  obtain ⟨vr99, _, ⟨T99, L99, k99, n99⟩, -, X99, ⟨Lc99, hQ99, l99, y99, z99⟩, st99⟩ := X84.specialBack hx (y := (⟨"com/example/wattle/wattle/DayAheadPrices", "<init>", "(Ljava/lang/String;Ljava/util/List;)V"⟩ : MethodName)) rfl ho84 (mvT hZ84 (hw _ (List.mem_of_getElem? (i := 86) rfl))) (mvT hZ84 (hw _ (List.mem_of_getElem? (i := 87) rfl))) (mvT hZ84 (hw _ (List.mem_of_getElem? (i := 88) rfl))) (by decide) (backOf (W := 1) (rm12t3 l Z a0 hw [] b81 b84 b55 (.null) b67 k68 xx0 xx1 xx2 w97 (.null) h84 n0 O86 f87 f88 g_b81 f89 f90 (Nat.ne_of_lt (Nat.lt_of_lt_of_le (Nat.lt_of_lt_of_le A55.lt (Nat.le_trans (Nat.le_trans (Nat.le_trans K59.1 K66.1) K73.1) K78.1)) (Nat.le_of_eq g81.symm))) f91 f92 f93 (Nat.ne_of_lt (Nat.lt_of_lt_of_le (Nat.lt_of_lt_of_le Y66_4.lt (Nat.le_trans K73.1 K78.1)) (Nat.le_of_eq g81.symm))) (Ins.of_exa f94 (hw _ (List.mem_of_getElem? (i := 74) rfl))) (Ins.of_exa f95 (hw _ (List.mem_of_getElem? (i := 74) rfl))) (Ins.of_exa f96 (hw _ (List.mem_of_getElem? (i := 74) rfl))) Mi__Ljava_lang_Object_ f98) hZ84 (hw _ (List.mem_of_getElem? (i := 88) rfl)) (hw _ (List.mem_of_getElem? (i := 77) rfl)) (by decide) (by decide)) (g := (mkF m 148 #[.val (.int p1), .val (.int p2), .val (.ref b3), .val (.int (3 : Int32)), .val (.int (p2 &&& (3 : Int32))), .val (.ref b55), .unset, .unset] [(.ref b55), (.ref b84), (.ref b81), (.ref b81)])) rfl (by rw [hml]; rfl) (Steps.refl _) (a := b81) (argsL := [(.ref b84), (.ref b55)]) (rest := [(.ref b81)]) (lenOf pd_14 rfl) rfl (by show 2 * 0 + _ ≤ _; exact Nat.le_of_eq rfl) (hb hby at_148) (fun _ _ => ⟨rfl, e84, (by decide : 10 + 3 ≤ _), (by decide : 55 + 8 ≤ _)⟩)
  dsimp only [Pt.U, Pt.locs, Pt.cells, Pt.slots] at X99 l99 y99 z99 st99 hQ99
  subst l99 y99 z99
  obtain ⟨b100, b101, k102, rfl, N99q, K99, Y99_z0, Y99_z1, Y99_n0, Y99_0, Y99_1, Y99_2, Y99_3, Y99_4, Y99_5, Y99_6, Y99_7, Y99_8⟩ := hQ99
  have N99 := Fr.app N78 N99q
  replace X99 := X99.more (cells' := 13) (slots' := 63) (by decide) (by decide)
  have g_b100 : n0 ≤ b100 := Nat.le_trans (Nat.le_trans Z0 K85.1) Y99_z0
  have sz_b100 : h0.size ≤ b100 := Nat.le_trans K85.1 Y99_z0
  have g_b101 : n0 ≤ b101 := Nat.le_trans (Nat.le_trans Z0 K85.1) Y99_z1
  have sz_b101 : h0.size ≤ b101 := Nat.le_trans K85.1 Y99_z1
  have K103 : Keep h0 T99.heap [] := K85.trans K99 (allS (Or.inr sz_b81) all0)
  have O104 : Old Z n0 T99.heap := O86.keep K99 (allS g_b81 all0)
  have f105 := (f94.keep K99)
  obtain ⟨cq106, kq106, q106a, q106b, q106c⟩ := isOf hZ84 rfl Y99_0
  obtain ⟨vr106, _, ⟨T106, L106, k106, n106⟩, -, X106, ⟨Lc106, hQ106, l106, y106, z106⟩, st106⟩ := X99.virtualBack hx (y := (⟨"com/example/wattle/wattle/DayAheadPrices", "first", "()Lcom/example/wattle/wattle/HourlyPrice;"⟩ : MethodName)) (z := (⟨"com/example/wattle/wattle/DayAheadPrices", "first", "()Lcom/example/wattle/wattle/HourlyPrice;"⟩ : MethodName)) ho84 (mvT hZ84 (hw _ (List.mem_of_getElem? (i := 180) rfl))) (mvT hZ84 (hw _ (List.mem_of_getElem? (i := 181) rfl))) (notFace_of_selects (args := #[]) (mvT hZ84 (hw _ (List.mem_of_getElem? (i := 183) rfl)))) (mvT hZ84 (hw _ (List.mem_of_getElem? (i := 183) rfl))) (mvT hZ84 (hw _ (List.mem_of_getElem? (i := 182) rfl))) (by decide) (backOf (W := 0) (rm25n3 l Z a0 hw [] b81 b100 b101 xx0 xx1 xx2 k102 T99.heap n0 O104 Y99_1 Y99_3 Y99_5 Y99_7 f105) hZ84 (hw _ (List.mem_of_getElem? (i := 184) rfl)) (hw _ (List.mem_of_getElem? (i := 77) rfl)) (by decide) (by decide)) q106a q106c (g := (mkF m 155 #[.val (.int p1), .val (.int p2), .val (.ref b3), .val (.int (3 : Int32)), .val (.int (p2 &&& (3 : Int32))), .val (.ref b55), .val (.ref b81), .unset] [(.ref b81)])) rfl (by rw [hml]; rfl) (Steps.refl _) (argsL := []) (rest := []) (lenOf pd_0 rfl) rfl (by show 2 * 0 + _ ≤ _; exact Nat.le_of_eq rfl) (hb hby at_155) (fun _ _ => ⟨rfl, rfl, (by decide : 13 + 0 ≤ _), (by decide : 63 + 0 ≤ _)⟩)
  dsimp only [Pt.U, Pt.locs, Pt.cells, Pt.slots] at X106 l106 y106 z106 st106 hQ106
  subst l106 y106 z106
  obtain ⟨rfl, N106q, e106⟩ := hQ106
  have N106 := Fr.app N99 N106q
  replace X106 := X106.more (cells' := 13) (slots' := 63) (by decide) (by decide)
  have f107 := (own_arrkeep (((own_arrkeep f76 K78 (ninS (Nat.ne_of_lt (Nat.lt_of_lt_of_le (Nat.lt_of_lt_of_le V3.lt (Nat.le_trans (Nat.le_trans (Nat.le_trans (Nat.le_trans (Nat.le_trans (Nat.le_trans (Nat.le_trans (Nat.le_trans (Nat.le_trans (Nat.le_trans (Nat.le_trans E6.1 K9.1) (Keep.of_wr W14).1) E17.1) K20.1) (Keep.of_wr W25).1) E28.1) K31.1) (Keep.of_wr W36).1) E39.1) K42.1) (Keep.of_wr W47).1)) (Nat.le_of_eq g55.symm))) (ninS (Nat.ne_of_lt (Nat.lt_of_lt_of_le (Nat.lt_of_lt_of_le V3.lt (Nat.le_trans (Nat.le_trans (Nat.le_trans (Nat.le_trans (Nat.le_trans (Nat.le_trans (Nat.le_trans (Nat.le_trans (Nat.le_trans (Nat.le_trans (Nat.le_trans (Nat.le_trans (Nat.le_trans E6.1 K9.1) (Keep.of_wr W14).1) E17.1) K20.1) (Keep.of_wr W25).1) E28.1) K31.1) (Keep.of_wr W36).1) E39.1) K42.1) (Keep.of_wr W47).1) E55.1) K59.1)) Y66_z0)) nin0))).ext E81).ext E84) K99 (ninS (Nat.ne_of_lt (Nat.lt_of_lt_of_le (Nat.lt_of_lt_of_le V3.lt (Nat.le_trans (Nat.le_trans (Nat.le_trans (Nat.le_trans (Nat.le_trans (Nat.le_trans (Nat.le_trans (Nat.le_trans (Nat.le_trans (Nat.le_trans (Nat.le_trans (Nat.le_trans (Nat.le_trans (Nat.le_trans (Nat.le_trans (Nat.le_trans E6.1 K9.1) (Keep.of_wr W14).1) E17.1) K20.1) (Keep.of_wr W25).1) E28.1) K31.1) (Keep.of_wr W36).1) E39.1) K42.1) (Keep.of_wr W47).1) E55.1) K59.1) K66.1) K73.1) K78.1)) (Nat.le_of_eq g81.symm))) nin0))
  obtain ⟨fs, hr, hrun, hended, hend⟩ := X106.leaveW hS84 (by rw [e106]; exact (Nat.le_trans hk84 K99.1)) (v := some (.int (1 : Int32))) (fun h => by rw [Bd.returns] at h; cases h)
  refine ⟨_, _, pre0 _ ?_, hrun, hended, _, _, rfl, ?_, hend.1, hend.2.1, hend.2.2.1, hend.2.2.2.mono (by decide) (by decide)⟩
  · show Steps p.tables e below (s₁.setTop (mkF m 0 #[.val (.int p1), .val (.int p2), .unset, .unset, .unset, .unset, .unset, .unset] [])) _
    refine XS.iconst X0.here hx rfl (hb hby at_0) ?_
    show Steps p.tables e below (s₁.setTop (mkF m 1 #[.val (.int p1), .val (.int p2), .unset, .unset, .unset, .unset, .unset, .unset] [(.int (4 : Int32))])) _
    refine st3 _ ?_
    show Steps p.tables e below (T3.setTop (mkF m 4 #[.val (.int p1), .val (.int p2), .unset, .unset, .unset, .unset, .unset, .unset] [(.ref b3)])) _
    refine XS.astoreN X3.here hx rfl (hb hby at_4) rfl rfl (l' := #[.val (.int p1), .val (.int p2), .val (.ref b3), .unset, .unset, .unset, .unset, .unset]) rfl ?_
    show Steps p.tables e below (T3.setTop (mkF m 5 #[.val (.int p1), .val (.int p2), .val (.ref b3), .unset, .unset, .unset, .unset, .unset] [])) _
    refine XS.aloadN X3.here hx rfl (hb hby at_5) rfl rfl ?_
    show Steps p.tables e below (T3.setTop (mkF m 6 #[.val (.int p1), .val (.int p2), .val (.ref b3), .unset, .unset, .unset, .unset, .unset] [(.ref b3)])) _
    refine XS.iconst X3.here hx rfl (hb hby at_6) ?_
    show Steps p.tables e below (T3.setTop (mkF m 7 #[.val (.int p1), .val (.int p2), .val (.ref b3), .unset, .unset, .unset, .unset, .unset] [(.int (0 : Int32)), (.ref b3)])) _
    refine st6 _ ?_
    show Steps p.tables e below (T6.setTop (mkF m 10 #[.val (.int p1), .val (.int p2), .val (.ref b3), .unset, .unset, .unset, .unset, .unset] [(.ref b6), (.int (0 : Int32)), (.ref b3)])) _
    refine XS.dup X6.here hx rfl (hb hby at_10) rfl rfl ?_
    show Steps p.tables e below (T6.setTop (mkF m 11 #[.val (.int p1), .val (.int p2), .val (.ref b3), .unset, .unset, .unset, .unset, .unset] [(.ref b6), (.ref b6), (.int (0 : Int32)), (.ref b3)])) _
    refine XS.aconstNull X6.here hx rfl (hb hby at_11) ?_
    show Steps p.tables e below (T6.setTop (mkF m 12 #[.val (.int p1), .val (.int p2), .val (.ref b3), .unset, .unset, .unset, .unset, .unset] [.null, (.ref b6), (.ref b6), (.int (0 : Int32)), (.ref b3)])) _
    refine XS.aconstNull X6.here hx rfl (hb hby at_12) ?_
    show Steps p.tables e below (T6.setTop (mkF m 13 #[.val (.int p1), .val (.int p2), .val (.ref b3), .unset, .unset, .unset, .unset, .unset] [.null, .null, (.ref b6), (.ref b6), (.int (0 : Int32)), (.ref b3)])) _
    refine st9.trans ?_
    show Steps p.tables e below (T9.setTop (mkF m 16 #[.val (.int p1), .val (.int p2), .val (.ref b3), .unset, .unset, .unset, .unset, .unset] [(.ref b6), (.int (0 : Int32)), (.ref b3)])) _
    refine st14 _ ?_
    show Steps p.tables e below (T14.setTop (mkF m 17 #[.val (.int p1), .val (.int p2), .val (.ref b3), .unset, .unset, .unset, .unset, .unset] [])) _
    refine XS.aloadN X14.here hx rfl (hb hby at_17) rfl rfl ?_
    show Steps p.tables e below (T14.setTop (mkF m 18 #[.val (.int p1), .val (.int p2), .val (.ref b3), .unset, .unset, .unset, .unset, .unset] [(.ref b3)])) _
    refine XS.iconst X14.here hx rfl (hb hby at_18) ?_
    show Steps p.tables e below (T14.setTop (mkF m 19 #[.val (.int p1), .val (.int p2), .val (.ref b3), .unset, .unset, .unset, .unset, .unset] [(.int (1 : Int32)), (.ref b3)])) _
    refine st17 _ ?_
    show Steps p.tables e below (T17.setTop (mkF m 22 #[.val (.int p1), .val (.int p2), .val (.ref b3), .unset, .unset, .unset, .unset, .unset] [(.ref b17), (.int (1 : Int32)), (.ref b3)])) _
    refine XS.dup X17.here hx rfl (hb hby at_22) rfl rfl ?_
    show Steps p.tables e below (T17.setTop (mkF m 23 #[.val (.int p1), .val (.int p2), .val (.ref b3), .unset, .unset, .unset, .unset, .unset] [(.ref b17), (.ref b17), (.int (1 : Int32)), (.ref b3)])) _
    refine XS.aconstNull X17.here hx rfl (hb hby at_23) ?_
    show Steps p.tables e below (T17.setTop (mkF m 24 #[.val (.int p1), .val (.int p2), .val (.ref b3), .unset, .unset, .unset, .unset, .unset] [.null, (.ref b17), (.ref b17), (.int (1 : Int32)), (.ref b3)])) _
    refine XS.aconstNull X17.here hx rfl (hb hby at_24) ?_
    show Steps p.tables e below (T17.setTop (mkF m 25 #[.val (.int p1), .val (.int p2), .val (.ref b3), .unset, .unset, .unset, .unset, .unset] [.null, .null, (.ref b17), (.ref b17), (.int (1 : Int32)), (.ref b3)])) _
    refine st20.trans ?_
    show Steps p.tables e below (T20.setTop (mkF m 28 #[.val (.int p1), .val (.int p2), .val (.ref b3), .unset, .unset, .unset, .unset, .unset] [(.ref b17), (.int (1 : Int32)), (.ref b3)])) _
    refine st25 _ ?_
    show Steps p.tables e below (T25.setTop (mkF m 29 #[.val (.int p1), .val (.int p2), .val (.ref b3), .unset, .unset, .unset, .unset, .unset] [])) _
    refine XS.aloadN X25.here hx rfl (hb hby at_29) rfl rfl ?_
    show Steps p.tables e below (T25.setTop (mkF m 30 #[.val (.int p1), .val (.int p2), .val (.ref b3), .unset, .unset, .unset, .unset, .unset] [(.ref b3)])) _
    refine XS.iconst X25.here hx rfl (hb hby at_30) ?_
    show Steps p.tables e below (T25.setTop (mkF m 31 #[.val (.int p1), .val (.int p2), .val (.ref b3), .unset, .unset, .unset, .unset, .unset] [(.int (2 : Int32)), (.ref b3)])) _
    refine st28 _ ?_
    show Steps p.tables e below (T28.setTop (mkF m 34 #[.val (.int p1), .val (.int p2), .val (.ref b3), .unset, .unset, .unset, .unset, .unset] [(.ref b28), (.int (2 : Int32)), (.ref b3)])) _
    refine XS.dup X28.here hx rfl (hb hby at_34) rfl rfl ?_
    show Steps p.tables e below (T28.setTop (mkF m 35 #[.val (.int p1), .val (.int p2), .val (.ref b3), .unset, .unset, .unset, .unset, .unset] [(.ref b28), (.ref b28), (.int (2 : Int32)), (.ref b3)])) _
    refine XS.aconstNull X28.here hx rfl (hb hby at_35) ?_
    show Steps p.tables e below (T28.setTop (mkF m 36 #[.val (.int p1), .val (.int p2), .val (.ref b3), .unset, .unset, .unset, .unset, .unset] [.null, (.ref b28), (.ref b28), (.int (2 : Int32)), (.ref b3)])) _
    refine XS.aconstNull X28.here hx rfl (hb hby at_36) ?_
    show Steps p.tables e below (T28.setTop (mkF m 37 #[.val (.int p1), .val (.int p2), .val (.ref b3), .unset, .unset, .unset, .unset, .unset] [.null, .null, (.ref b28), (.ref b28), (.int (2 : Int32)), (.ref b3)])) _
    refine st31.trans ?_
    show Steps p.tables e below (T31.setTop (mkF m 40 #[.val (.int p1), .val (.int p2), .val (.ref b3), .unset, .unset, .unset, .unset, .unset] [(.ref b28), (.int (2 : Int32)), (.ref b3)])) _
    refine st36 _ ?_
    show Steps p.tables e below (T36.setTop (mkF m 41 #[.val (.int p1), .val (.int p2), .val (.ref b3), .unset, .unset, .unset, .unset, .unset] [])) _
    refine XS.aloadN X36.here hx rfl (hb hby at_41) rfl rfl ?_
    show Steps p.tables e below (T36.setTop (mkF m 42 #[.val (.int p1), .val (.int p2), .val (.ref b3), .unset, .unset, .unset, .unset, .unset] [(.ref b3)])) _
    refine XS.iconst X36.here hx rfl (hb hby at_42) ?_
    show Steps p.tables e below (T36.setTop (mkF m 43 #[.val (.int p1), .val (.int p2), .val (.ref b3), .unset, .unset, .unset, .unset, .unset] [(.int (3 : Int32)), (.ref b3)])) _
    refine st39 _ ?_
    show Steps p.tables e below (T39.setTop (mkF m 46 #[.val (.int p1), .val (.int p2), .val (.ref b3), .unset, .unset, .unset, .unset, .unset] [(.ref b39), (.int (3 : Int32)), (.ref b3)])) _
    refine XS.dup X39.here hx rfl (hb hby at_46) rfl rfl ?_
    show Steps p.tables e below (T39.setTop (mkF m 47 #[.val (.int p1), .val (.int p2), .val (.ref b3), .unset, .unset, .unset, .unset, .unset] [(.ref b39), (.ref b39), (.int (3 : Int32)), (.ref b3)])) _
    refine XS.aconstNull X39.here hx rfl (hb hby at_47) ?_
    show Steps p.tables e below (T39.setTop (mkF m 48 #[.val (.int p1), .val (.int p2), .val (.ref b3), .unset, .unset, .unset, .unset, .unset] [.null, (.ref b39), (.ref b39), (.int (3 : Int32)), (.ref b3)])) _
    refine XS.aconstNull X39.here hx rfl (hb hby at_48) ?_
    show Steps p.tables e below (T39.setTop (mkF m 49 #[.val (.int p1), .val (.int p2), .val (.ref b3), .unset, .unset, .unset, .unset, .unset] [.null, .null, (.ref b39), (.ref b39), (.int (3 : Int32)), (.ref b3)])) _
    refine st42.trans ?_
    show Steps p.tables e below (T42.setTop (mkF m 52 #[.val (.int p1), .val (.int p2), .val (.ref b3), .unset, .unset, .unset, .unset, .unset] [(.ref b39), (.int (3 : Int32)), (.ref b3)])) _
    refine st47 _ ?_
    show Steps p.tables e below (T47.setTop (mkF m 53 #[.val (.int p1), .val (.int p2), .val (.ref b3), .unset, .unset, .unset, .unset, .unset] [])) _
    refine XS.iconst X47.here hx rfl (hb hby at_53) ?_
    show Steps p.tables e below (T47.setTop (mkF m 54 #[.val (.int p1), .val (.int p2), .val (.ref b3), .unset, .unset, .unset, .unset, .unset] [(.int (1 : Int32))])) _
    refine XS.iloadN X47.here hx rfl (hb hby at_54) rfl ?_
    show Steps p.tables e below (T47.setTop (mkF m 55 #[.val (.int p1), .val (.int p2), .val (.ref b3), .unset, .unset, .unset, .unset, .unset] [(.int p1), (.int (1 : Int32))])) _
    refine XS.iconst X47.here hx rfl (hb hby at_55) ?_
    show Steps p.tables e below (T47.setTop (mkF m 56 #[.val (.int p1), .val (.int p2), .val (.ref b3), .unset, .unset, .unset, .unset, .unset] [(.int (3 : Int32)), (.int p1), (.int (1 : Int32))])) _
    refine XS.iand X47.here hx rfl (hb hby at_56) rfl ?_
    show Steps p.tables e below (T47.setTop (mkF m 57 #[.val (.int p1), .val (.int p2), .val (.ref b3), .unset, .unset, .unset, .unset, .unset] [(.int (p1 &&& (3 : Int32))), (.int (1 : Int32))])) _
    refine XS.iadd X47.here hx rfl (hb hby at_57) rfl ?_
    show Steps p.tables e below (T47.setTop (mkF m 58 #[.val (.int p1), .val (.int p2), .val (.ref b3), .unset, .unset, .unset, .unset, .unset] [(.int ((1 : Int32) + (p1 &&& (3 : Int32))))])) _
    refine XS.istoreN X47.here hx rfl (hb hby at_58) rfl (l' := #[.val (.int p1), .val (.int p2), .val (.ref b3), .val (.int ((1 : Int32) + (p1 &&& (3 : Int32)))), .unset, .unset, .unset, .unset]) rfl ?_
    show Steps p.tables e below (T47.setTop (mkF m 59 #[.val (.int p1), .val (.int p2), .val (.ref b3), .val (.int ((1 : Int32) + (p1 &&& (3 : Int32)))), .unset, .unset, .unset, .unset] [])) _
    rw [hn59]
    show Steps p.tables e below (T47.setTop (mkF m 59 #[.val (.int p1), .val (.int p2), .val (.ref b3), .val (.int (3 : Int32)), .unset, .unset, .unset, .unset] [])) _
    refine XS.iloadN X47.here hx rfl (hb hby at_59) rfl ?_
    show Steps p.tables e below (T47.setTop (mkF m 60 #[.val (.int p1), .val (.int p2), .val (.ref b3), .val (.int (3 : Int32)), .unset, .unset, .unset, .unset] [(.int p2)])) _
    refine XS.iconst X47.here hx rfl (hb hby at_60) ?_
    show Steps p.tables e below (T47.setTop (mkF m 61 #[.val (.int p1), .val (.int p2), .val (.ref b3), .val (.int (3 : Int32)), .unset, .unset, .unset, .unset] [(.int (3 : Int32)), (.int p2)])) _
    refine XS.iand X47.here hx rfl (hb hby at_61) rfl ?_
    show Steps p.tables e below (T47.setTop (mkF m 62 #[.val (.int p1), .val (.int p2), .val (.ref b3), .val (.int (3 : Int32)), .unset, .unset, .unset, .unset] [(.int (p2 &&& (3 : Int32)))])) _
    refine XS.istore X47.here hx rfl (hb hby at_62) rfl (l' := #[.val (.int p1), .val (.int p2), .val (.ref b3), .val (.int (3 : Int32)), .val (.int (p2 &&& (3 : Int32))), .unset, .unset, .unset]) rfl ?_
    show Steps p.tables e below (T47.setTop (mkF m 64 #[.val (.int p1), .val (.int p2), .val (.ref b3), .val (.int (3 : Int32)), .val (.int (p2 &&& (3 : Int32))), .unset, .unset, .unset] [])) _
    refine st55 _ ?_
    show Steps p.tables e below (T55.setTop (mkF m 67 #[.val (.int p1), .val (.int p2), .val (.ref b3), .val (.int (3 : Int32)), .val (.int (p2 &&& (3 : Int32))), .unset, .unset, .unset] [(.ref b55)])) _
    refine XS.dup X55.here hx rfl (hb hby at_67) rfl rfl ?_
    show Steps p.tables e below (T55.setTop (mkF m 68 #[.val (.int p1), .val (.int p2), .val (.ref b3), .val (.int (3 : Int32)), .val (.int (p2 &&& (3 : Int32))), .unset, .unset, .unset] [(.ref b55), (.ref b55)])) _
    refine st59.trans ?_
    show Steps p.tables e below (T59.setTop (mkF m 71 #[.val (.int p1), .val (.int p2), .val (.ref b3), .val (.int (3 : Int32)), .val (.int (p2 &&& (3 : Int32))), .unset, .unset, .unset] [(.ref b55)])) _
    refine XS.astore X59.here hx rfl (hb hby at_71) rfl rfl (l' := #[.val (.int p1), .val (.int p2), .val (.ref b3), .val (.int (3 : Int32)), .val (.int (p2 &&& (3 : Int32))), .val (.ref b55), .unset, .unset]) rfl ?_
    show Steps p.tables e below (T59.setTop (mkF m 73 #[.val (.int p1), .val (.int p2), .val (.ref b3), .val (.int (3 : Int32)), .val (.int (p2 &&& (3 : Int32))), .val (.ref b55), .unset, .unset] [])) _
    refine XS.aload X59.here hx rfl (hb hby at_73) rfl rfl ?_
    show Steps p.tables e below (T59.setTop (mkF m 75 #[.val (.int p1), .val (.int p2), .val (.ref b3), .val (.int (3 : Int32)), .val (.int (p2 &&& (3 : Int32))), .val (.ref b55), .unset, .unset] [(.ref b55)])) _
    refine XS.aloadN X59.here hx rfl (hb hby at_75) rfl rfl ?_
    show Steps p.tables e below (T59.setTop (mkF m 76 #[.val (.int p1), .val (.int p2), .val (.ref b3), .val (.int (3 : Int32)), .val (.int (p2 &&& (3 : Int32))), .val (.ref b55), .unset, .unset] [(.ref b3), (.ref b55)])) _
    refine XS.iload X59.here hx rfl (hb hby at_76) rfl ?_
    show Steps p.tables e below (T59.setTop (mkF m 78 #[.val (.int p1), .val (.int p2), .val (.ref b3), .val (.int (3 : Int32)), .val (.int (p2 &&& (3 : Int32))), .val (.ref b55), .unset, .unset] [(.int (p2 &&& (3 : Int32))), (.ref b3), (.ref b55)])) _
    refine X59.aaload hx (j := (p2 &&& (3 : Int32))) (v := (.ref xx0)) f62.1 (State.isArrayOf_alike hZ.alike f62.2.1) rfl f62.2.2 hxi0 hxa0 (g := (mkF m 78 #[.val (.int p1), .val (.int p2), .val (.ref b3), .val (.int (3 : Int32)), .val (.int (p2 &&& (3 : Int32))), .val (.ref b55), .unset, .unset] [(.int (p2 &&& (3 : Int32))), (.ref b3), (.ref b55)])) rfl rfl (hb hby at_78) _ ?_
    show Steps p.tables e below (T59.setTop (mkF m 79 #[.val (.int p1), .val (.int p2), .val (.ref b3), .val (.int (3 : Int32)), .val (.int (p2 &&& (3 : Int32))), .val (.ref b55), .unset, .unset] [(.ref xx0), (.ref b55)])) _
    refine st66.trans ?_
    show Steps p.tables e below (T66.setTop (mkF m 82 #[.val (.int p1), .val (.int p2), .val (.ref b3), .val (.int (3 : Int32)), .val (.int (p2 &&& (3 : Int32))), .val (.ref b55), .unset, .unset] [(.int (1 : Int32))])) _
    refine XS.pop X66.here hx rfl (hb hby at_82) rfl rfl ?_
    show Steps p.tables e below (T66.setTop (mkF m 83 #[.val (.int p1), .val (.int p2), .val (.ref b3), .val (.int (3 : Int32)), .val (.int (p2 &&& (3 : Int32))), .val (.ref b55), .unset, .unset] [])) _
    refine XS.iloadN X66.here hx rfl (hb hby at_83) rfl ?_
    show Steps p.tables e below (T66.setTop (mkF m 84 #[.val (.int p1), .val (.int p2), .val (.ref b3), .val (.int (3 : Int32)), .val (.int (p2 &&& (3 : Int32))), .val (.ref b55), .unset, .unset] [(.int (3 : Int32))])) _
    refine XS.iconst X66.here hx rfl (hb hby at_84) ?_
    show Steps p.tables e below (T66.setTop (mkF m 85 #[.val (.int p1), .val (.int p2), .val (.ref b3), .val (.int (3 : Int32)), .val (.int (p2 &&& (3 : Int32))), .val (.ref b55), .unset, .unset] [(.int (1 : Int32)), (.int (3 : Int32))])) _
    refine XS.icmpNo X66.here hx rfl (hb hby at_85) rfl (tlt (by decide : (1 : Int32) < (3 : Int32))).2.2.2 ?_
    show Steps p.tables e below (T66.setTop (mkF m 88 #[.val (.int p1), .val (.int p2), .val (.ref b3), .val (.int (3 : Int32)), .val (.int (p2 &&& (3 : Int32))), .val (.ref b55), .unset, .unset] [])) _
    refine XS.aload X66.here hx rfl (hb hby at_88) rfl rfl ?_
    show Steps p.tables e below (T66.setTop (mkF m 90 #[.val (.int p1), .val (.int p2), .val (.ref b3), .val (.int (3 : Int32)), .val (.int (p2 &&& (3 : Int32))), .val (.ref b55), .unset, .unset] [(.ref b55)])) _
    refine XS.aloadN X66.here hx rfl (hb hby at_90) rfl rfl ?_
    show Steps p.tables e below (T66.setTop (mkF m 91 #[.val (.int p1), .val (.int p2), .val (.ref b3), .val (.int (3 : Int32)), .val (.int (p2 &&& (3 : Int32))), .val (.ref b55), .unset, .unset] [(.ref b3), (.ref b55)])) _
    refine XS.iload X66.here hx rfl (hb hby at_91) rfl ?_
    show Steps p.tables e below (T66.setTop (mkF m 93 #[.val (.int p1), .val (.int p2), .val (.ref b3), .val (.int (3 : Int32)), .val (.int (p2 &&& (3 : Int32))), .val (.ref b55), .unset, .unset] [(.int (p2 &&& (3 : Int32))), (.ref b3), (.ref b55)])) _
    refine XS.iconst X66.here hx rfl (hb hby at_93) ?_
    show Steps p.tables e below (T66.setTop (mkF m 94 #[.val (.int p1), .val (.int p2), .val (.ref b3), .val (.int (3 : Int32)), .val (.int (p2 &&& (3 : Int32))), .val (.ref b55), .unset, .unset] [(.int (1 : Int32)), (.int (p2 &&& (3 : Int32))), (.ref b3), (.ref b55)])) _
    refine XS.iadd X66.here hx rfl (hb hby at_94) rfl ?_
    show Steps p.tables e below (T66.setTop (mkF m 95 #[.val (.int p1), .val (.int p2), .val (.ref b3), .val (.int (3 : Int32)), .val (.int (p2 &&& (3 : Int32))), .val (.ref b55), .unset, .unset] [(.int ((p2 &&& (3 : Int32)) + (1 : Int32))), (.ref b3), (.ref b55)])) _
    refine XS.iconst X66.here hx rfl (hb hby at_95) ?_
    show Steps p.tables e below (T66.setTop (mkF m 96 #[.val (.int p1), .val (.int p2), .val (.ref b3), .val (.int (3 : Int32)), .val (.int (p2 &&& (3 : Int32))), .val (.ref b55), .unset, .unset] [(.int (3 : Int32)), (.int ((p2 &&& (3 : Int32)) + (1 : Int32))), (.ref b3), (.ref b55)])) _
    refine XS.iand X66.here hx rfl (hb hby at_96) rfl ?_
    show Steps p.tables e below (T66.setTop (mkF m 97 #[.val (.int p1), .val (.int p2), .val (.ref b3), .val (.int (3 : Int32)), .val (.int (p2 &&& (3 : Int32))), .val (.ref b55), .unset, .unset] [(.int (((p2 &&& (3 : Int32)) + (1 : Int32)) &&& (3 : Int32))), (.ref b3), (.ref b55)])) _
    refine X66.aaload hx (j := (((p2 &&& (3 : Int32)) + (1 : Int32)) &&& (3 : Int32))) (v := (.ref xx1)) f71.1 (State.isArrayOf_alike hZ.alike f71.2.1) rfl f71.2.2 hxi1 hxa1 (g := (mkF m 97 #[.val (.int p1), .val (.int p2), .val (.ref b3), .val (.int (3 : Int32)), .val (.int (p2 &&& (3 : Int32))), .val (.ref b55), .unset, .unset] [(.int (((p2 &&& (3 : Int32)) + (1 : Int32)) &&& (3 : Int32))), (.ref b3), (.ref b55)])) rfl rfl (hb hby at_97) _ ?_
    show Steps p.tables e below (T66.setTop (mkF m 98 #[.val (.int p1), .val (.int p2), .val (.ref b3), .val (.int (3 : Int32)), .val (.int (p2 &&& (3 : Int32))), .val (.ref b55), .unset, .unset] [(.ref xx1), (.ref b55)])) _
    refine st73.trans ?_
    show Steps p.tables e below (T73.setTop (mkF m 101 #[.val (.int p1), .val (.int p2), .val (.ref b3), .val (.int (3 : Int32)), .val (.int (p2 &&& (3 : Int32))), .val (.ref b55), .unset, .unset] [(.int (1 : Int32))])) _
    refine XS.pop X73.here hx rfl (hb hby at_101) rfl rfl ?_
    show Steps p.tables e below (T73.setTop (mkF m 102 #[.val (.int p1), .val (.int p2), .val (.ref b3), .val (.int (3 : Int32)), .val (.int (p2 &&& (3 : Int32))), .val (.ref b55), .unset, .unset] [])) _
    refine XS.iloadN X73.here hx rfl (hb hby at_102) rfl ?_
    show Steps p.tables e below (T73.setTop (mkF m 103 #[.val (.int p1), .val (.int p2), .val (.ref b3), .val (.int (3 : Int32)), .val (.int (p2 &&& (3 : Int32))), .val (.ref b55), .unset, .unset] [(.int (3 : Int32))])) _
    refine XS.iconst X73.here hx rfl (hb hby at_103) ?_
    show Steps p.tables e below (T73.setTop (mkF m 104 #[.val (.int p1), .val (.int p2), .val (.ref b3), .val (.int (3 : Int32)), .val (.int (p2 &&& (3 : Int32))), .val (.ref b55), .unset, .unset] [(.int (2 : Int32)), (.int (3 : Int32))])) _
    refine XS.icmpNo X73.here hx rfl (hb hby at_104) rfl (tlt (by decide : (2 : Int32) < (3 : Int32))).2.2.2 ?_
    show Steps p.tables e below (T73.setTop (mkF m 107 #[.val (.int p1), .val (.int p2), .val (.ref b3), .val (.int (3 : Int32)), .val (.int (p2 &&& (3 : Int32))), .val (.ref b55), .unset, .unset] [])) _
    refine XS.aload X73.here hx rfl (hb hby at_107) rfl rfl ?_
    show Steps p.tables e below (T73.setTop (mkF m 109 #[.val (.int p1), .val (.int p2), .val (.ref b3), .val (.int (3 : Int32)), .val (.int (p2 &&& (3 : Int32))), .val (.ref b55), .unset, .unset] [(.ref b55)])) _
    refine XS.aloadN X73.here hx rfl (hb hby at_109) rfl rfl ?_
    show Steps p.tables e below (T73.setTop (mkF m 110 #[.val (.int p1), .val (.int p2), .val (.ref b3), .val (.int (3 : Int32)), .val (.int (p2 &&& (3 : Int32))), .val (.ref b55), .unset, .unset] [(.ref b3), (.ref b55)])) _
    refine XS.iload X73.here hx rfl (hb hby at_110) rfl ?_
    show Steps p.tables e below (T73.setTop (mkF m 112 #[.val (.int p1), .val (.int p2), .val (.ref b3), .val (.int (3 : Int32)), .val (.int (p2 &&& (3 : Int32))), .val (.ref b55), .unset, .unset] [(.int (p2 &&& (3 : Int32))), (.ref b3), (.ref b55)])) _
    refine XS.iconst X73.here hx rfl (hb hby at_112) ?_
    show Steps p.tables e below (T73.setTop (mkF m 113 #[.val (.int p1), .val (.int p2), .val (.ref b3), .val (.int (3 : Int32)), .val (.int (p2 &&& (3 : Int32))), .val (.ref b55), .unset, .unset] [(.int (2 : Int32)), (.int (p2 &&& (3 : Int32))), (.ref b3), (.ref b55)])) _
    refine XS.iadd X73.here hx rfl (hb hby at_113) rfl ?_
    show Steps p.tables e below (T73.setTop (mkF m 114 #[.val (.int p1), .val (.int p2), .val (.ref b3), .val (.int (3 : Int32)), .val (.int (p2 &&& (3 : Int32))), .val (.ref b55), .unset, .unset] [(.int ((p2 &&& (3 : Int32)) + (2 : Int32))), (.ref b3), (.ref b55)])) _
    refine XS.iconst X73.here hx rfl (hb hby at_114) ?_
    show Steps p.tables e below (T73.setTop (mkF m 115 #[.val (.int p1), .val (.int p2), .val (.ref b3), .val (.int (3 : Int32)), .val (.int (p2 &&& (3 : Int32))), .val (.ref b55), .unset, .unset] [(.int (3 : Int32)), (.int ((p2 &&& (3 : Int32)) + (2 : Int32))), (.ref b3), (.ref b55)])) _
    refine XS.iand X73.here hx rfl (hb hby at_115) rfl ?_
    show Steps p.tables e below (T73.setTop (mkF m 116 #[.val (.int p1), .val (.int p2), .val (.ref b3), .val (.int (3 : Int32)), .val (.int (p2 &&& (3 : Int32))), .val (.ref b55), .unset, .unset] [(.int (((p2 &&& (3 : Int32)) + (2 : Int32)) &&& (3 : Int32))), (.ref b3), (.ref b55)])) _
    refine X73.aaload hx (j := (((p2 &&& (3 : Int32)) + (2 : Int32)) &&& (3 : Int32))) (v := (.ref xx2)) f76.1 (State.isArrayOf_alike hZ.alike f76.2.1) rfl f76.2.2 hxi2 hxa2 (g := (mkF m 116 #[.val (.int p1), .val (.int p2), .val (.ref b3), .val (.int (3 : Int32)), .val (.int (p2 &&& (3 : Int32))), .val (.ref b55), .unset, .unset] [(.int (((p2 &&& (3 : Int32)) + (2 : Int32)) &&& (3 : Int32))), (.ref b3), (.ref b55)])) rfl rfl (hb hby at_116) _ ?_
    show Steps p.tables e below (T73.setTop (mkF m 117 #[.val (.int p1), .val (.int p2), .val (.ref b3), .val (.int (3 : Int32)), .val (.int (p2 &&& (3 : Int32))), .val (.ref b55), .unset, .unset] [(.ref xx2), (.ref b55)])) _
    refine st78.trans ?_
    show Steps p.tables e below (T78.setTop (mkF m 120 #[.val (.int p1), .val (.int p2), .val (.ref b3), .val (.int (3 : Int32)), .val (.int (p2 &&& (3 : Int32))), .val (.ref b55), .unset, .unset] [(.int (1 : Int32))])) _
    refine XS.pop X78.here hx rfl (hb hby at_120) rfl rfl ?_
    show Steps p.tables e below (T78.setTop (mkF m 121 #[.val (.int p1), .val (.int p2), .val (.ref b3), .val (.int (3 : Int32)), .val (.int (p2 &&& (3 : Int32))), .val (.ref b55), .unset, .unset] [])) _
    refine XS.iloadN X78.here hx rfl (hb hby at_121) rfl ?_
    show Steps p.tables e below (T78.setTop (mkF m 122 #[.val (.int p1), .val (.int p2), .val (.ref b3), .val (.int (3 : Int32)), .val (.int (p2 &&& (3 : Int32))), .val (.ref b55), .unset, .unset] [(.int (3 : Int32))])) _
    refine XS.iconst X78.here hx rfl (hb hby at_122) ?_
    show Steps p.tables e below (T78.setTop (mkF m 123 #[.val (.int p1), .val (.int p2), .val (.ref b3), .val (.int (3 : Int32)), .val (.int (p2 &&& (3 : Int32))), .val (.ref b55), .unset, .unset] [(.int (3 : Int32)), (.int (3 : Int32))])) _
    refine XS.icmpYes X78.here hx rfl (pc0 := 123) (pc' := 140) rfl (hb hby at_123) rfl (flt (by decide : ¬ ((3 : Int32) < (3 : Int32)))).2.2.2 (by decide) (by decide) ?_
    show Steps p.tables e below (T78.setTop (mkF m 140 #[.val (.int p1), .val (.int p2), .val (.ref b3), .val (.int (3 : Int32)), .val (.int (p2 &&& (3 : Int32))), .val (.ref b55), .unset, .unset] [])) _
    refine st81 _ ?_
    show Steps p.tables e below (T81.setTop (mkF m 143 #[.val (.int p1), .val (.int p2), .val (.ref b3), .val (.int (3 : Int32)), .val (.int (p2 &&& (3 : Int32))), .val (.ref b55), .unset, .unset] [(.ref b81)])) _
    refine XS.dup X81.here hx rfl (hb hby at_143) rfl rfl ?_
    show Steps p.tables e below (T81.setTop (mkF m 144 #[.val (.int p1), .val (.int p2), .val (.ref b3), .val (.int (3 : Int32)), .val (.int (p2 &&& (3 : Int32))), .val (.ref b55), .unset, .unset] [(.ref b81), (.ref b81)])) _
    refine st84 _ ?_
    show Steps p.tables e below (T84.setTop (mkF m 146 #[.val (.int p1), .val (.int p2), .val (.ref b3), .val (.int (3 : Int32)), .val (.int (p2 &&& (3 : Int32))), .val (.ref b55), .unset, .unset] [(.ref b84), (.ref b81), (.ref b81)])) _
    refine XS.aload X84.here hx rfl (hb hby at_146) rfl rfl ?_
    show Steps p.tables e below (T84.setTop (mkF m 148 #[.val (.int p1), .val (.int p2), .val (.ref b3), .val (.int (3 : Int32)), .val (.int (p2 &&& (3 : Int32))), .val (.ref b55), .unset, .unset] [(.ref b55), (.ref b84), (.ref b81), (.ref b81)])) _
    refine st99.trans ?_
    show Steps p.tables e below (T99.setTop (mkF m 151 #[.val (.int p1), .val (.int p2), .val (.ref b3), .val (.int (3 : Int32)), .val (.int (p2 &&& (3 : Int32))), .val (.ref b55), .unset, .unset] [(.ref b81)])) _
    refine XS.astore X99.here hx rfl (hb hby at_151) rfl rfl (l' := #[.val (.int p1), .val (.int p2), .val (.ref b3), .val (.int (3 : Int32)), .val (.int (p2 &&& (3 : Int32))), .val (.ref b55), .val (.ref b81), .unset]) rfl ?_
    show Steps p.tables e below (T99.setTop (mkF m 153 #[.val (.int p1), .val (.int p2), .val (.ref b3), .val (.int (3 : Int32)), .val (.int (p2 &&& (3 : Int32))), .val (.ref b55), .val (.ref b81), .unset] [])) _
    refine XS.aload X99.here hx rfl (hb hby at_153) rfl rfl ?_
    show Steps p.tables e below (T99.setTop (mkF m 155 #[.val (.int p1), .val (.int p2), .val (.ref b3), .val (.int (3 : Int32)), .val (.int (p2 &&& (3 : Int32))), .val (.ref b55), .val (.ref b81), .unset] [(.ref b81)])) _
    refine st106.trans ?_
    show Steps p.tables e below (T106.setTop (mkF m 158 #[.val (.int p1), .val (.int p2), .val (.ref b3), .val (.int (3 : Int32)), .val (.int (p2 &&& (3 : Int32))), .val (.ref b55), .val (.ref b81), .unset] [(.ref xx0)])) _
    refine XS.astore X106.here hx rfl (hb hby at_158) rfl rfl (l' := #[.val (.int p1), .val (.int p2), .val (.ref b3), .val (.int (3 : Int32)), .val (.int (p2 &&& (3 : Int32))), .val (.ref b55), .val (.ref b81), .val (.ref xx0)]) rfl ?_
    show Steps p.tables e below (T106.setTop (mkF m 160 #[.val (.int p1), .val (.int p2), .val (.ref b3), .val (.int (3 : Int32)), .val (.int (p2 &&& (3 : Int32))), .val (.ref b55), .val (.ref b81), .val (.ref xx0)] [])) _
    refine XS.aload X106.here hx rfl (hb hby at_160) rfl rfl ?_
    show Steps p.tables e below (T106.setTop (mkF m 162 #[.val (.int p1), .val (.int p2), .val (.ref b3), .val (.int (3 : Int32)), .val (.int (p2 &&& (3 : Int32))), .val (.ref b55), .val (.ref b81), .val (.ref xx0)] [(.ref xx0)])) _
    refine XS.aloadN X106.here hx rfl (hb hby at_162) rfl rfl ?_
    show Steps p.tables e below (T106.setTop (mkF m 163 #[.val (.int p1), .val (.int p2), .val (.ref b3), .val (.int (3 : Int32)), .val (.int (p2 &&& (3 : Int32))), .val (.ref b55), .val (.ref b81), .val (.ref xx0)] [(.ref b3), (.ref xx0)])) _
    refine XS.iload X106.here hx rfl (hb hby at_163) rfl ?_
    show Steps p.tables e below (T106.setTop (mkF m 165 #[.val (.int p1), .val (.int p2), .val (.ref b3), .val (.int (3 : Int32)), .val (.int (p2 &&& (3 : Int32))), .val (.ref b55), .val (.ref b81), .val (.ref xx0)] [(.int (p2 &&& (3 : Int32))), (.ref b3), (.ref xx0)])) _
    refine X106.aaload hx (j := (p2 &&& (3 : Int32))) (v := (.ref xx0)) (by rw [e106]; exact f107.1) (State.isArrayOf_alike hZ84.alike f107.2.1) rfl f107.2.2 hxi0 hxa0 (g := (mkF m 165 #[.val (.int p1), .val (.int p2), .val (.ref b3), .val (.int (3 : Int32)), .val (.int (p2 &&& (3 : Int32))), .val (.ref b55), .val (.ref b81), .val (.ref xx0)] [(.int (p2 &&& (3 : Int32))), (.ref b3), (.ref xx0)])) rfl rfl (hb hby at_165) _ ?_
    show Steps p.tables e below (T106.setTop (mkF m 166 #[.val (.int p1), .val (.int p2), .val (.ref b3), .val (.int (3 : Int32)), .val (.int (p2 &&& (3 : Int32))), .val (.ref b55), .val (.ref b81), .val (.ref xx0)] [(.ref xx0), (.ref xx0)])) _
    refine Jvm.RoadKit.acmp (g := (mkF m 166 #[.val (.int p1), .val (.int p2), .val (.ref b3), .val (.int (3 : Int32)), .val (.int (p2 &&& (3 : Int32))), .val (.ref b55), .val (.ref b81), .val (.ref xx0)] [(.ref xx0), (.ref xx0)])) X106 hx rfl rfl rfl (pc0 := 166) (pc' := 169) (same := true) rfl (hb hby at_166) rfl (decide_eq_true rfl) (by decide) (by decide) ?_
    show Steps p.tables e below (T106.setTop (mkF m 169 #[.val (.int p1), .val (.int p2), .val (.ref b3), .val (.int (3 : Int32)), .val (.int (p2 &&& (3 : Int32))), .val (.ref b55), .val (.ref b81), .val (.ref xx0)] [])) _
    refine XS.iconst X106.here hx rfl (hb hby at_169) ?_
    show Steps p.tables e below (T106.setTop (mkF m 170 #[.val (.int p1), .val (.int p2), .val (.ref b3), .val (.int (3 : Int32)), .val (.int (p2 &&& (3 : Int32))), .val (.ref b55), .val (.ref b81), .val (.ref xx0)] [(.int (1 : Int32))])) _
    refine XS.goto X106.here hx rfl (pc0 := 170) (pc' := 174) rfl (hb hby at_170) (by decide) (by decide) ?_
    show Steps p.tables e below (T106.setTop (mkF m 174 #[.val (.int p1), .val (.int p2), .val (.ref b3), .val (.int (3 : Int32)), .val (.int (p2 &&& (3 : Int32))), .val (.ref b55), .val (.ref b81), .val (.ref xx0)] [(.int (1 : Int32))])) _
    exact retN X106 hx (t := .boolean) Bd.returns (by simp) (hb hby at_174) hr
  · skip
    exact ⟨rfl, N106⟩
set_option maxRecDepth 65536 in
set_option maxHeartbeats 40000000 in
theorem rm0n4 (l : Launch) (Z : State) (a0 : Array Value) (hw : ∀ d ∈ tables_1, d.before a0 Z = true) (ws : List Jvm.Cond) (p1 p2 : Int32) (w58 : Addr) (v63 : ClassId) (w103 : Addr) (h0 : Heap) (n0 : Nat) (O0 : Old Z n0 h0) (hn59 : ((1 : Int32) + (p1 &&& (3 : Int32))) = (4 : Int32)) (S_DEFAULTCAPACITY_EMPTY_ELEMENTDATA : Sta Z Z.heap "java/util/ArrayList" "DEFAULTCAPACITY_EMPTY_ELEMENTDATA" "[Ljava/lang/Object;" (.ref w58)) (HV_w58 : Arv Z h0 w58 v63 (.object "java/lang/Object") (0 : Int32) [] .null) (Mi__Ljava_lang_Object_ : own_Mir Z "[Ljava/lang/Object;" w103) :
    own_Met l Z ws #[(.int p1), (.int p2)] h0 n0 := by
  refine MetFree.of_bodySF (plainFor_of_name pnc_com_example_wattle_wattle_DayAheadPricesFirstPinLaw) hisR ?_
  intro p e s m args below meth c s₁ Bd hml0 hP hK
  obtain ⟨rfl, hZ_, hh⟩ := hP
  have hx := Bd.exec
  have hby := Bd.bytes
  have hml : c.maxLocals = 8 := hml0
  have hown : s.vm.findClass "com/example/wattle/wattle/DayAheadPricesFirstPinLaw" = some m.cls := findClass_of_methodNamed Bd.named
  have hnm := (name_of_methodNamed Bd.named Bd.method).1
  have X0 : Stand p l e room_1 (s.setVm s.vm) m #[(.int p1), (.int p2)] below meth c s₁ [] 0 0 := Stand.of_body Bd
  have hZ : Z.Warmed39 (s.setVm s.vm).vm := hZ_
  have hS0 : s.Since s.vm s.heap.size := (State.WarmedH.refl s).since s.heap.size
  have hk0 : s.heap.size ≤ h0.size := Nat.le_of_eq (by rw [hh])
  have e0 : s₁.heap = h0 := by rw [← hh, Bd.state]; rfl
  have N0 := Fr.nil n0
  have Z0 : n0 ≤ h0.size := O0.1 ▸ O0.2.1
  have pre0 : ∀ t, Steps p.tables e below (s₁.setTop (mkF m 0 #[.val (.int p1), .val (.int p2), .unset, .unset, .unset, .unset, .unset, .unset] [])) t → Steps p.tables e below (s₁.setTop (entryFrame m #[(.int p1), (.int p2)] maxLocals)) t := fun t k => castTop (ef_0 m p1 p2) k
  obtain ⟨T3, h3, k3, X3, e3, E3, A3, B3, Ov3, st3⟩ := newRE X0 hx hZ hown (hw _ (List.mem_of_getElem? (i := 0) rfl)) (hw _ (List.mem_of_getElem? (i := 1) rfl)) e0 (g := (mkF m 1 #[.val (.int p1), .val (.int p2), .unset, .unset, .unset, .unset, .unset, .unset] [(.int (4 : Int32))])) rfl (hb hby at_1) rfl (by decide) (cap := 4) (by decide) (by decide) (by decide) (by decide) (ad := "[Lcom/example/wattle/wattle/HourlyPrice;") (by decide)
  obtain ⟨b3, g3⟩ : ∃ z, z = h0.size := ⟨_, rfl⟩
  rw [← g3] at A3 B3 st3
  have g_b3 : n0 ≤ b3 := Nat.le_trans (Nat.le_trans Z0 (Keep.refl h0 []).1) (Nat.le_of_eq g3.symm)
  have sz_b3 : h0.size ≤ b3 := Nat.le_trans (Keep.refl h0 []).1 (Nat.le_of_eq g3.symm)
  have K4 : Keep h0 h3 [] := (Keep.refl h0 []).ext E3
  have O5 : Old Z n0 h3 := O0.ext E3
  have V3 : Arv Z h3 b3 k3 (.object "com/example/wattle/wattle/HourlyPrice") (4 : Int32) [.null, .null, .null, .null] .null := (Arv.new A3 (by decide)).pad (pad_rep [] .null 4)
  replace X3 := X3.more (cells' := 1) (slots' := 4) (by decide) (by decide)
  obtain ⟨T6, h6, X6, e6, E6, A6, D6, -, st6⟩ := newO X3 hx hZ hown (hw _ (List.mem_of_getElem? (i := 0) rfl)) (hw _ (List.mem_of_getElem? (i := 2) rfl)) (hw _ (List.mem_of_getElem? (i := 3) rfl)) e3 (g := (mkF m 7 #[.val (.int p1), .val (.int p2), .val (.ref b3), .unset, .unset, .unset, .unset, .unset] [(.int (0 : Int32)), (.ref b3)])) rfl (hb hby at_7) (by decide) (by decide)
  obtain ⟨b6, g6⟩ : ∃ z, z = h3.size := ⟨_, rfl⟩
  rw [← g6] at A6 D6 st6
  have g_b6 : n0 ≤ b6 := Nat.le_trans (Nat.le_trans Z0 K4.1) (Nat.le_of_eq g6.symm)
  have sz_b6 : h0.size ≤ b6 := Nat.le_trans K4.1 (Nat.le_of_eq g6.symm)
  have K7 : Keep h0 h6 [] := K4.ext E6
  have O8 : Old Z n0 h6 := O5.ext E6
  have F_hour_b6 : Fld Z h6 b6 "com/example/wattle/wattle/HourlyPrice" "hour" "Ljava/time/OffsetDateTime;" .null := D6 (Or.inr (hw _ (List.mem_of_getElem? (i := 16) rfl))) (ty := (.object "java/time/OffsetDateTime")) (by decide)
  have F_price_b6 : Fld Z h6 b6 "com/example/wattle/wattle/HourlyPrice" "price" "Ljava/math/BigDecimal;" .null := D6 (Or.inr (hw _ (List.mem_of_getElem? (i := 18) rfl))) (ty := (.object "java/math/BigDecimal")) (by decide)
  replace X6 := X6.more (cells' := 2) (slots' := 6) (by decide) (by decide)
  obtain ⟨vr9, _, ⟨T9, L9, k9, n9⟩, -, X9, ⟨Lc9, hQ9, l9, y9, z9⟩, st9⟩ := X6.specialBack hx (y := (⟨"com/example/wattle/wattle/HourlyPrice", "<init>", "(Ljava/time/OffsetDateTime;Ljava/math/BigDecimal;)V"⟩ : MethodName)) rfl hown (mvT hZ (hw _ (List.mem_of_getElem? (i := 4) rfl))) (mvT hZ (hw _ (List.mem_of_getElem? (i := 5) rfl))) (mvT hZ (hw _ (List.mem_of_getElem? (i := 6) rfl))) (by decide) (backOf (W := 3) (rm1 l Z a0 hw [] b6 (.null) (.null) h6 n0 O8 A6 F_hour_b6 g_b6 F_price_b6) hZ (hw _ (List.mem_of_getElem? (i := 6) rfl)) (hw _ (List.mem_of_getElem? (i := 3) rfl)) (by decide) (by decide)) (g := (mkF m 13 #[.val (.int p1), .val (.int p2), .val (.ref b3), .unset, .unset, .unset, .unset, .unset] [.null, .null, (.ref b6), (.ref b6), (.int (0 : Int32)), (.ref b3)])) rfl (by rw [hml]; rfl) (Steps.refl _) (a := b6) (argsL := [.null, .null]) (rest := [(.ref b6), (.int (0 : Int32)), (.ref b3)]) (lenOf pd_15 rfl) rfl (by show 2 * 0 + _ ≤ _; exact Nat.le_of_eq rfl) (hb hby at_13) (fun _ _ => ⟨rfl, e6, (by decide : 2 + 0 ≤ _), (by decide : 6 + 0 ≤ _)⟩)
  dsimp only [Pt.U, Pt.locs, Pt.cells, Pt.slots] at X9 l9 y9 z9 st9 hQ9
  subst l9 y9 z9
  obtain ⟨rfl, N9q, K9, Y9_0, Y9_1, Y9_2⟩ := hQ9
  have N9 := Fr.app N0 N9q
  replace X9 := X9.more (cells' := 2) (slots' := 6) (by decide) (by decide)
  have K10 : Keep h0 T9.heap [] := K7.trans K9 (allS (Or.inr sz_b6) all0)
  have O11 : Old Z n0 T9.heap := O8.keep K9 (allS g_b6 all0)
  have f12 := ((V3.ext E6).keep K9 (ninS (Nat.ne_of_lt (Nat.lt_of_lt_of_le V3.lt (Nat.le_of_eq g6.symm))) nin0))
  obtain ⟨cl13, Ar13, q13, S13, Nn13, Hh13, G13⟩ := id f12
  have hin13 : ¬ ((0 : Int32) < 0 ∨ cl13.slots.size ≤ ((0 : Int32)).toNatClampNeg) := inb_of S13 ⟨by decide, by decide⟩
  obtain ⟨T14, h14, X14, e14, W14, st14⟩ := stR X9 hx hZ rfl Ar13 (j := (0 : Int32)) hin13 rfl (Sto.ofV Ar13 q13 Ov3 (Ins.self Y9_0)) (g := (mkF m 16 #[.val (.int p1), .val (.int p2), .val (.ref b3), .unset, .unset, .unset, .unset, .unset] [(.ref b6), (.int (0 : Int32)), (.ref b3)])) rfl rfl (hb hby at_16)
  have N14 := Fr.snoc X14 N9 g_b3
  have K15 : Keep h0 h14 [] := K10.wr W14 (Or.inr sz_b3)
  have O16 : Old Z n0 h14 := O11.wr W14 g_b3
  have V14 : Arv Z h14 b3 k3 (.object "com/example/wattle/wattle/HourlyPrice") (4 : Int32) [(.ref b6), .null, .null, .null] .null := Arv.set Ar13 q13 S13 Nn13 Hh13 G13 rfl W14 0 rfl (Nat.le_of_ble_eq_true rfl)
  obtain ⟨T17, h17, X17, e17, E17, A17, D17, -, st17⟩ := newO X14 hx hZ hown (hw _ (List.mem_of_getElem? (i := 0) rfl)) (hw _ (List.mem_of_getElem? (i := 2) rfl)) (hw _ (List.mem_of_getElem? (i := 3) rfl)) e14 (g := (mkF m 19 #[.val (.int p1), .val (.int p2), .val (.ref b3), .unset, .unset, .unset, .unset, .unset] [(.int (1 : Int32)), (.ref b3)])) rfl (hb hby at_19) (by decide) (by decide)
  obtain ⟨b17, g17⟩ : ∃ z, z = h14.size := ⟨_, rfl⟩
  rw [← g17] at A17 D17 st17
  have g_b17 : n0 ≤ b17 := Nat.le_trans (Nat.le_trans Z0 K15.1) (Nat.le_of_eq g17.symm)
  have sz_b17 : h0.size ≤ b17 := Nat.le_trans K15.1 (Nat.le_of_eq g17.symm)
  have K18 : Keep h0 h17 [] := K15.ext E17
  have O19 : Old Z n0 h17 := O16.ext E17
  have F_hour_b17 : Fld Z h17 b17 "com/example/wattle/wattle/HourlyPrice" "hour" "Ljava/time/OffsetDateTime;" .null := D17 (Or.inr (hw _ (List.mem_of_getElem? (i := 16) rfl))) (ty := (.object "java/time/OffsetDateTime")) (by decide)
  have F_price_b17 : Fld Z h17 b17 "com/example/wattle/wattle/HourlyPrice" "price" "Ljava/math/BigDecimal;" .null := D17 (Or.inr (hw _ (List.mem_of_getElem? (i := 18) rfl))) (ty := (.object "java/math/BigDecimal")) (by decide)
  replace X17 := X17.more (cells' := 3) (slots' := 8) (by decide) (by decide)
  obtain ⟨vr20, _, ⟨T20, L20, k20, n20⟩, -, X20, ⟨Lc20, hQ20, l20, y20, z20⟩, st20⟩ := X17.specialBack hx (y := (⟨"com/example/wattle/wattle/HourlyPrice", "<init>", "(Ljava/time/OffsetDateTime;Ljava/math/BigDecimal;)V"⟩ : MethodName)) rfl hown (mvT hZ (hw _ (List.mem_of_getElem? (i := 4) rfl))) (mvT hZ (hw _ (List.mem_of_getElem? (i := 5) rfl))) (mvT hZ (hw _ (List.mem_of_getElem? (i := 6) rfl))) (by decide) (backOf (W := 3) (rm1 l Z a0 hw [] b17 (.null) (.null) h17 n0 O19 A17 F_hour_b17 g_b17 F_price_b17) hZ (hw _ (List.mem_of_getElem? (i := 6) rfl)) (hw _ (List.mem_of_getElem? (i := 3) rfl)) (by decide) (by decide)) (g := (mkF m 25 #[.val (.int p1), .val (.int p2), .val (.ref b3), .unset, .unset, .unset, .unset, .unset] [.null, .null, (.ref b17), (.ref b17), (.int (1 : Int32)), (.ref b3)])) rfl (by rw [hml]; rfl) (Steps.refl _) (a := b17) (argsL := [.null, .null]) (rest := [(.ref b17), (.int (1 : Int32)), (.ref b3)]) (lenOf pd_15 rfl) rfl (by show 2 * 0 + _ ≤ _; exact Nat.le_of_eq rfl) (hb hby at_25) (fun _ _ => ⟨rfl, e17, (by decide : 3 + 0 ≤ _), (by decide : 8 + 0 ≤ _)⟩)
  dsimp only [Pt.U, Pt.locs, Pt.cells, Pt.slots] at X20 l20 y20 z20 st20 hQ20
  subst l20 y20 z20
  obtain ⟨rfl, N20q, K20, Y20_0, Y20_1, Y20_2⟩ := hQ20
  have N20 := Fr.app N14 N20q
  replace X20 := X20.more (cells' := 3) (slots' := 8) (by decide) (by decide)
  have K21 : Keep h0 T20.heap [] := K18.trans K20 (allS (Or.inr sz_b17) all0)
  have O22 : Old Z n0 T20.heap := O19.keep K20 (allS g_b17 all0)
  have f23 := ((V14.ext E17).keep K20 (ninS (Nat.ne_of_lt (Nat.lt_of_lt_of_le (Nat.lt_of_lt_of_le V3.lt (Nat.le_trans (Nat.le_trans E6.1 K9.1) (Keep.of_wr W14).1)) (Nat.le_of_eq g17.symm))) nin0))
  obtain ⟨cl24, Ar24, q24, S24, Nn24, Hh24, G24⟩ := id f23
  have hin24 : ¬ ((1 : Int32) < 0 ∨ cl24.slots.size ≤ ((1 : Int32)).toNatClampNeg) := inb_of S24 ⟨by decide, by decide⟩
  obtain ⟨T25, h25, X25, e25, W25, st25⟩ := stR X20 hx hZ rfl Ar24 (j := (1 : Int32)) hin24 rfl (Sto.ofV Ar24 q24 Ov3 (Ins.self Y20_0)) (g := (mkF m 28 #[.val (.int p1), .val (.int p2), .val (.ref b3), .unset, .unset, .unset, .unset, .unset] [(.ref b17), (.int (1 : Int32)), (.ref b3)])) rfl rfl (hb hby at_28)
  have N25 := Fr.snoc X25 N20 g_b3
  have K26 : Keep h0 h25 [] := K21.wr W25 (Or.inr sz_b3)
  have O27 : Old Z n0 h25 := O22.wr W25 g_b3
  have V25 : Arv Z h25 b3 k3 (.object "com/example/wattle/wattle/HourlyPrice") (4 : Int32) [(.ref b6), (.ref b17), .null, .null] .null := Arv.set Ar24 q24 S24 Nn24 Hh24 G24 rfl W25 1 rfl (Nat.le_of_ble_eq_true rfl)
  obtain ⟨T28, h28, X28, e28, E28, A28, D28, -, st28⟩ := newO X25 hx hZ hown (hw _ (List.mem_of_getElem? (i := 0) rfl)) (hw _ (List.mem_of_getElem? (i := 2) rfl)) (hw _ (List.mem_of_getElem? (i := 3) rfl)) e25 (g := (mkF m 31 #[.val (.int p1), .val (.int p2), .val (.ref b3), .unset, .unset, .unset, .unset, .unset] [(.int (2 : Int32)), (.ref b3)])) rfl (hb hby at_31) (by decide) (by decide)
  obtain ⟨b28, g28⟩ : ∃ z, z = h25.size := ⟨_, rfl⟩
  rw [← g28] at A28 D28 st28
  have g_b28 : n0 ≤ b28 := Nat.le_trans (Nat.le_trans Z0 K26.1) (Nat.le_of_eq g28.symm)
  have sz_b28 : h0.size ≤ b28 := Nat.le_trans K26.1 (Nat.le_of_eq g28.symm)
  have K29 : Keep h0 h28 [] := K26.ext E28
  have O30 : Old Z n0 h28 := O27.ext E28
  have F_hour_b28 : Fld Z h28 b28 "com/example/wattle/wattle/HourlyPrice" "hour" "Ljava/time/OffsetDateTime;" .null := D28 (Or.inr (hw _ (List.mem_of_getElem? (i := 16) rfl))) (ty := (.object "java/time/OffsetDateTime")) (by decide)
  have F_price_b28 : Fld Z h28 b28 "com/example/wattle/wattle/HourlyPrice" "price" "Ljava/math/BigDecimal;" .null := D28 (Or.inr (hw _ (List.mem_of_getElem? (i := 18) rfl))) (ty := (.object "java/math/BigDecimal")) (by decide)
  replace X28 := X28.more (cells' := 4) (slots' := 10) (by decide) (by decide)
  obtain ⟨vr31, _, ⟨T31, L31, k31, n31⟩, -, X31, ⟨Lc31, hQ31, l31, y31, z31⟩, st31⟩ := X28.specialBack hx (y := (⟨"com/example/wattle/wattle/HourlyPrice", "<init>", "(Ljava/time/OffsetDateTime;Ljava/math/BigDecimal;)V"⟩ : MethodName)) rfl hown (mvT hZ (hw _ (List.mem_of_getElem? (i := 4) rfl))) (mvT hZ (hw _ (List.mem_of_getElem? (i := 5) rfl))) (mvT hZ (hw _ (List.mem_of_getElem? (i := 6) rfl))) (by decide) (backOf (W := 3) (rm1 l Z a0 hw [] b28 (.null) (.null) h28 n0 O30 A28 F_hour_b28 g_b28 F_price_b28) hZ (hw _ (List.mem_of_getElem? (i := 6) rfl)) (hw _ (List.mem_of_getElem? (i := 3) rfl)) (by decide) (by decide)) (g := (mkF m 37 #[.val (.int p1), .val (.int p2), .val (.ref b3), .unset, .unset, .unset, .unset, .unset] [.null, .null, (.ref b28), (.ref b28), (.int (2 : Int32)), (.ref b3)])) rfl (by rw [hml]; rfl) (Steps.refl _) (a := b28) (argsL := [.null, .null]) (rest := [(.ref b28), (.int (2 : Int32)), (.ref b3)]) (lenOf pd_15 rfl) rfl (by show 2 * 0 + _ ≤ _; exact Nat.le_of_eq rfl) (hb hby at_37) (fun _ _ => ⟨rfl, e28, (by decide : 4 + 0 ≤ _), (by decide : 10 + 0 ≤ _)⟩)
  dsimp only [Pt.U, Pt.locs, Pt.cells, Pt.slots] at X31 l31 y31 z31 st31 hQ31
  subst l31 y31 z31
  obtain ⟨rfl, N31q, K31, Y31_0, Y31_1, Y31_2⟩ := hQ31
  have N31 := Fr.app N25 N31q
  replace X31 := X31.more (cells' := 4) (slots' := 10) (by decide) (by decide)
  have K32 : Keep h0 T31.heap [] := K29.trans K31 (allS (Or.inr sz_b28) all0)
  have O33 : Old Z n0 T31.heap := O30.keep K31 (allS g_b28 all0)
  have f34 := ((V25.ext E28).keep K31 (ninS (Nat.ne_of_lt (Nat.lt_of_lt_of_le (Nat.lt_of_lt_of_le V3.lt (Nat.le_trans (Nat.le_trans (Nat.le_trans (Nat.le_trans (Nat.le_trans E6.1 K9.1) (Keep.of_wr W14).1) E17.1) K20.1) (Keep.of_wr W25).1)) (Nat.le_of_eq g28.symm))) nin0))
  obtain ⟨cl35, Ar35, q35, S35, Nn35, Hh35, G35⟩ := id f34
  have hin35 : ¬ ((2 : Int32) < 0 ∨ cl35.slots.size ≤ ((2 : Int32)).toNatClampNeg) := inb_of S35 ⟨by decide, by decide⟩
  obtain ⟨T36, h36, X36, e36, W36, st36⟩ := stR X31 hx hZ rfl Ar35 (j := (2 : Int32)) hin35 rfl (Sto.ofV Ar35 q35 Ov3 (Ins.self Y31_0)) (g := (mkF m 40 #[.val (.int p1), .val (.int p2), .val (.ref b3), .unset, .unset, .unset, .unset, .unset] [(.ref b28), (.int (2 : Int32)), (.ref b3)])) rfl rfl (hb hby at_40)
  have N36 := Fr.snoc X36 N31 g_b3
  have K37 : Keep h0 h36 [] := K32.wr W36 (Or.inr sz_b3)
  have O38 : Old Z n0 h36 := O33.wr W36 g_b3
  have V36 : Arv Z h36 b3 k3 (.object "com/example/wattle/wattle/HourlyPrice") (4 : Int32) [(.ref b6), (.ref b17), (.ref b28), .null] .null := Arv.set Ar35 q35 S35 Nn35 Hh35 G35 rfl W36 2 rfl (Nat.le_of_ble_eq_true rfl)
  obtain ⟨T39, h39, X39, e39, E39, A39, D39, -, st39⟩ := newO X36 hx hZ hown (hw _ (List.mem_of_getElem? (i := 0) rfl)) (hw _ (List.mem_of_getElem? (i := 2) rfl)) (hw _ (List.mem_of_getElem? (i := 3) rfl)) e36 (g := (mkF m 43 #[.val (.int p1), .val (.int p2), .val (.ref b3), .unset, .unset, .unset, .unset, .unset] [(.int (3 : Int32)), (.ref b3)])) rfl (hb hby at_43) (by decide) (by decide)
  obtain ⟨b39, g39⟩ : ∃ z, z = h36.size := ⟨_, rfl⟩
  rw [← g39] at A39 D39 st39
  have g_b39 : n0 ≤ b39 := Nat.le_trans (Nat.le_trans Z0 K37.1) (Nat.le_of_eq g39.symm)
  have sz_b39 : h0.size ≤ b39 := Nat.le_trans K37.1 (Nat.le_of_eq g39.symm)
  have K40 : Keep h0 h39 [] := K37.ext E39
  have O41 : Old Z n0 h39 := O38.ext E39
  have F_hour_b39 : Fld Z h39 b39 "com/example/wattle/wattle/HourlyPrice" "hour" "Ljava/time/OffsetDateTime;" .null := D39 (Or.inr (hw _ (List.mem_of_getElem? (i := 16) rfl))) (ty := (.object "java/time/OffsetDateTime")) (by decide)
  have F_price_b39 : Fld Z h39 b39 "com/example/wattle/wattle/HourlyPrice" "price" "Ljava/math/BigDecimal;" .null := D39 (Or.inr (hw _ (List.mem_of_getElem? (i := 18) rfl))) (ty := (.object "java/math/BigDecimal")) (by decide)
  replace X39 := X39.more (cells' := 5) (slots' := 12) (by decide) (by decide)
  obtain ⟨vr42, _, ⟨T42, L42, k42, n42⟩, -, X42, ⟨Lc42, hQ42, l42, y42, z42⟩, st42⟩ := X39.specialBack hx (y := (⟨"com/example/wattle/wattle/HourlyPrice", "<init>", "(Ljava/time/OffsetDateTime;Ljava/math/BigDecimal;)V"⟩ : MethodName)) rfl hown (mvT hZ (hw _ (List.mem_of_getElem? (i := 4) rfl))) (mvT hZ (hw _ (List.mem_of_getElem? (i := 5) rfl))) (mvT hZ (hw _ (List.mem_of_getElem? (i := 6) rfl))) (by decide) (backOf (W := 3) (rm1 l Z a0 hw [] b39 (.null) (.null) h39 n0 O41 A39 F_hour_b39 g_b39 F_price_b39) hZ (hw _ (List.mem_of_getElem? (i := 6) rfl)) (hw _ (List.mem_of_getElem? (i := 3) rfl)) (by decide) (by decide)) (g := (mkF m 49 #[.val (.int p1), .val (.int p2), .val (.ref b3), .unset, .unset, .unset, .unset, .unset] [.null, .null, (.ref b39), (.ref b39), (.int (3 : Int32)), (.ref b3)])) rfl (by rw [hml]; rfl) (Steps.refl _) (a := b39) (argsL := [.null, .null]) (rest := [(.ref b39), (.int (3 : Int32)), (.ref b3)]) (lenOf pd_15 rfl) rfl (by show 2 * 0 + _ ≤ _; exact Nat.le_of_eq rfl) (hb hby at_49) (fun _ _ => ⟨rfl, e39, (by decide : 5 + 0 ≤ _), (by decide : 12 + 0 ≤ _)⟩)
  dsimp only [Pt.U, Pt.locs, Pt.cells, Pt.slots] at X42 l42 y42 z42 st42 hQ42
  subst l42 y42 z42
  obtain ⟨rfl, N42q, K42, Y42_0, Y42_1, Y42_2⟩ := hQ42
  have N42 := Fr.app N36 N42q
  replace X42 := X42.more (cells' := 5) (slots' := 12) (by decide) (by decide)
  have K43 : Keep h0 T42.heap [] := K40.trans K42 (allS (Or.inr sz_b39) all0)
  have O44 : Old Z n0 T42.heap := O41.keep K42 (allS g_b39 all0)
  have f45 := ((V36.ext E39).keep K42 (ninS (Nat.ne_of_lt (Nat.lt_of_lt_of_le (Nat.lt_of_lt_of_le V3.lt (Nat.le_trans (Nat.le_trans (Nat.le_trans (Nat.le_trans (Nat.le_trans (Nat.le_trans (Nat.le_trans (Nat.le_trans E6.1 K9.1) (Keep.of_wr W14).1) E17.1) K20.1) (Keep.of_wr W25).1) E28.1) K31.1) (Keep.of_wr W36).1)) (Nat.le_of_eq g39.symm))) nin0))
  obtain ⟨cl46, Ar46, q46, S46, Nn46, Hh46, G46⟩ := id f45
  have hin46 : ¬ ((3 : Int32) < 0 ∨ cl46.slots.size ≤ ((3 : Int32)).toNatClampNeg) := inb_of S46 ⟨by decide, by decide⟩
  obtain ⟨T47, h47, X47, e47, W47, st47⟩ := stR X42 hx hZ rfl Ar46 (j := (3 : Int32)) hin46 rfl (Sto.ofV Ar46 q46 Ov3 (Ins.self Y42_0)) (g := (mkF m 52 #[.val (.int p1), .val (.int p2), .val (.ref b3), .unset, .unset, .unset, .unset, .unset] [(.ref b39), (.int (3 : Int32)), (.ref b3)])) rfl rfl (hb hby at_52)
  have N47 := Fr.snoc X47 N42 g_b3
  have K48 : Keep h0 h47 [] := K43.wr W47 (Or.inr sz_b3)
  have O49 : Old Z n0 h47 := O44.wr W47 g_b3
  have V47 : Arv Z h47 b3 k3 (.object "com/example/wattle/wattle/HourlyPrice") (4 : Int32) [(.ref b6), (.ref b17), (.ref b28), (.ref b39)] .null := Arv.set Ar46 q46 S46 Nn46 Hh46 G46 rfl W47 3 rfl (Nat.le_of_ble_eq_true rfl)
  obtain ⟨cl50, Ar50, q50, S50, Nn50, Hh50, G50⟩ := id V47
  have f51 := ((((((((((Y9_0.wr W14).ext E17).keep K20).wr W25).ext E28).keep K31).wr W36).ext E39).keep K42).wr W47)
  have f52 := (((((((Y20_0.wr W25).ext E28).keep K31).wr W36).ext E39).keep K42).wr W47)
  have f53 := ((((Y31_0.wr W36).ext E39).keep K42).wr W47)
  have f54 := (Y42_0.wr W47)
  obtain ⟨xx0, hxi0, hxa0, hxe0⟩ := own_pick4 S50 Hh50 f51 f52 f53 f54 p2
  obtain ⟨xx1, hxi1, hxa1, hxe1⟩ := own_pick4 S50 Hh50 f51 f52 f53 f54 ((p2 &&& (3 : Int32)) + (1 : Int32))
  obtain ⟨xx2, hxi2, hxa2, hxe2⟩ := own_pick4 S50 Hh50 f51 f52 f53 f54 ((p2 &&& (3 : Int32)) + (2 : Int32))
  obtain ⟨xx3, hxi3, hxa3, hxe3⟩ := own_pick4 S50 Hh50 f51 f52 f53 f54 ((p2 &&& (3 : Int32)) + (3 : Int32))
  obtain ⟨T55, h55, X55, e55, E55, A55, D55, -, st55⟩ := newO X47 hx hZ hown (hw _ (List.mem_of_getElem? (i := 20) rfl)) (hw _ (List.mem_of_getElem? (i := 21) rfl)) (hw _ (List.mem_of_getElem? (i := 22) rfl)) e47 (g := (mkF m 64 #[.val (.int p1), .val (.int p2), .val (.ref b3), .val (.int (4 : Int32)), .val (.int (p2 &&& (3 : Int32))), .unset, .unset, .unset] [])) rfl (hb hby at_64) (by decide) (by decide)
  obtain ⟨b55, g55⟩ : ∃ z, z = h47.size := ⟨_, rfl⟩
  rw [← g55] at A55 D55 st55
  have g_b55 : n0 ≤ b55 := Nat.le_trans (Nat.le_trans Z0 K48.1) (Nat.le_of_eq g55.symm)
  have sz_b55 : h0.size ≤ b55 := Nat.le_trans K48.1 (Nat.le_of_eq g55.symm)
  have K56 : Keep h0 h55 [] := K48.ext E55
  have O57 : Old Z n0 h55 := O49.ext E55
  have F_modCount_b55 : Fld Z h55 b55 "java/util/AbstractList" "modCount" "I" (.int (0 : Int32)) := D55 (Or.inl (hw _ (List.mem_of_getElem? (i := 40) rfl))) (ty := .int) (by decide)
  have F_elementData_b55 : Fld Z h55 b55 "java/util/ArrayList" "elementData" "[Ljava/lang/Object;" .null := D55 (Or.inl (hw _ (List.mem_of_getElem? (i := 43) rfl))) (ty := (.array (.object "java/lang/Object"))) (by decide)
  have F_size_b55 : Fld Z h55 b55 "java/util/ArrayList" "size" "I" (.int (0 : Int32)) := D55 (Or.inl (hw _ (List.mem_of_getElem? (i := 52) rfl))) (ty := .int) (by decide)
  replace X55 := X55.more (cells' := 6) (slots' := 15) (by decide) (by decide)
  obtain ⟨vr59, _, ⟨T59, L59, k59, n59⟩, -, X59, ⟨Lc59, hQ59, l59, y59, z59⟩, st59⟩ := X55.specialBack hx (y := (⟨"java/util/ArrayList", "<init>", "()V"⟩ : MethodName)) rfl hown (mvT hZ (hw _ (List.mem_of_getElem? (i := 23) rfl))) (mvT hZ (hw _ (List.mem_of_getElem? (i := 24) rfl))) (mvT hZ (hw _ (List.mem_of_getElem? (i := 25) rfl))) (by decide) (backOf (W := 1) (rm4 l Z a0 hw [] b55 ((.int (0 : Int32))) (.null) ((.int (0 : Int32))) w58 h55 n0 O57 A55 F_modCount_b55 F_elementData_b55 F_size_b55 g_b55 S_DEFAULTCAPACITY_EMPTY_ELEMENTDATA) hZ (hw _ (List.mem_of_getElem? (i := 25) rfl)) (hw _ (List.mem_of_getElem? (i := 22) rfl)) (by decide) (by decide)) (g := (mkF m 68 #[.val (.int p1), .val (.int p2), .val (.ref b3), .val (.int (4 : Int32)), .val (.int (p2 &&& (3 : Int32))), .unset, .unset, .unset] [(.ref b55), (.ref b55)])) rfl (by rw [hml]; rfl) (Steps.refl _) (a := b55) (argsL := []) (rest := [(.ref b55)]) (lenOf pd_2 rfl) rfl (by show 2 * 0 + _ ≤ _; exact Nat.le_of_eq rfl) (hb hby at_68) (fun _ _ => ⟨rfl, e55, (by decide : 6 + 0 ≤ _), (by decide : 15 + 0 ≤ _)⟩)
  dsimp only [Pt.U, Pt.locs, Pt.cells, Pt.slots] at X59 l59 y59 z59 st59 hQ59
  subst l59 y59 z59
  obtain ⟨rfl, N59q, K59, Y59_0, Y59_1, Y59_2, Y59_3⟩ := hQ59
  have N59 := Fr.app N47 N59q
  replace X59 := X59.more (cells' := 6) (slots' := 15) (by decide) (by decide)
  have K60 : Keep h0 T59.heap [] := K56.trans K59 (allS (Or.inr sz_b55) all0)
  have O61 : Old Z n0 T59.heap := O57.keep K59 (allS g_b55 all0)
  have f62 := (own_arrkeep (Ar50.ext E55) K59 (ninS (Nat.ne_of_lt (Nat.lt_of_lt_of_le (Nat.lt_of_lt_of_le V3.lt (Nat.le_trans (Nat.le_trans (Nat.le_trans (Nat.le_trans (Nat.le_trans (Nat.le_trans (Nat.le_trans (Nat.le_trans (Nat.le_trans (Nat.le_trans (Nat.le_trans E6.1 K9.1) (Keep.of_wr W14).1) E17.1) K20.1) (Keep.of_wr W25).1) E28.1) K31.1) (Keep.of_wr W36).1) E39.1) K42.1) (Keep.of_wr W47).1)) (Nat.le_of_eq g55.symm))) nin0))
  have f64 := (((((((((((((((HV_w58.ext E3).ext E6).keep K9 (ninS (Nat.ne_of_lt (Nat.lt_of_lt_of_le (Nat.lt_of_lt_of_le HV_w58.lt E3.1) (Nat.le_of_eq g6.symm))) nin0)).other W14 (Nat.ne_of_lt (Nat.lt_of_lt_of_le HV_w58.lt (Nat.le_of_eq g3.symm)))).ext E17).keep K20 (ninS (Nat.ne_of_lt (Nat.lt_of_lt_of_le (Nat.lt_of_lt_of_le HV_w58.lt (Nat.le_trans (Nat.le_trans (Nat.le_trans E3.1 E6.1) K9.1) (Keep.of_wr W14).1)) (Nat.le_of_eq g17.symm))) nin0)).other W25 (Nat.ne_of_lt (Nat.lt_of_lt_of_le HV_w58.lt (Nat.le_of_eq g3.symm)))).ext E28).keep K31 (ninS (Nat.ne_of_lt (Nat.lt_of_lt_of_le (Nat.lt_of_lt_of_le HV_w58.lt (Nat.le_trans (Nat.le_trans (Nat.le_trans (Nat.le_trans (Nat.le_trans (Nat.le_trans E3.1 E6.1) K9.1) (Keep.of_wr W14).1) E17.1) K20.1) (Keep.of_wr W25).1)) (Nat.le_of_eq g28.symm))) nin0)).other W36 (Nat.ne_of_lt (Nat.lt_of_lt_of_le HV_w58.lt (Nat.le_of_eq g3.symm)))).ext E39).keep K42 (ninS (Nat.ne_of_lt (Nat.lt_of_lt_of_le (Nat.lt_of_lt_of_le HV_w58.lt (Nat.le_trans (Nat.le_trans (Nat.le_trans (Nat.le_trans (Nat.le_trans (Nat.le_trans (Nat.le_trans (Nat.le_trans (Nat.le_trans E3.1 E6.1) K9.1) (Keep.of_wr W14).1) E17.1) K20.1) (Keep.of_wr W25).1) E28.1) K31.1) (Keep.of_wr W36).1)) (Nat.le_of_eq g39.symm))) nin0)).other W47 (Nat.ne_of_lt (Nat.lt_of_lt_of_le HV_w58.lt (Nat.le_of_eq g3.symm)))).ext E55).keep K59 (ninS (Nat.ne_of_lt (Nat.lt_of_lt_of_le (Nat.lt_of_lt_of_le HV_w58.lt (Nat.le_trans (Nat.le_trans (Nat.le_trans (Nat.le_trans (Nat.le_trans (Nat.le_trans (Nat.le_trans (Nat.le_trans (Nat.le_trans (Nat.le_trans (Nat.le_trans (Nat.le_trans E3.1 E6.1) K9.1) (Keep.of_wr W14).1) E17.1) K20.1) (Keep.of_wr W25).1) E28.1) K31.1) (Keep.of_wr W36).1) E39.1) K42.1) (Keep.of_wr W47).1)) (Nat.le_of_eq g55.symm))) nin0))
  have f65 := ((hxe0.ext E55).keep K59)
  obtain ⟨cq66, kq66, q66a, q66b, q66c⟩ := isOf hZ rfl Y59_0
  obtain ⟨vr66, _, ⟨T66, L66, k66, n66⟩, -, X66, ⟨Lc66, hQ66, l66, y66, z66⟩, st66⟩ := X59.virtualBack hx (y := (⟨"java/util/ArrayList", "add", "(Ljava/lang/Object;)Z"⟩ : MethodName)) (z := (⟨"java/util/ArrayList", "add", "(Ljava/lang/Object;)Z"⟩ : MethodName)) hown (mvT hZ (hw _ (List.mem_of_getElem? (i := 44) rfl))) (mvT hZ (hw _ (List.mem_of_getElem? (i := 45) rfl))) (notFace_of_selects (args := #[]) (mvT hZ (hw _ (List.mem_of_getElem? (i := 47) rfl)))) (mvT hZ (hw _ (List.mem_of_getElem? (i := 47) rfl))) (mvT hZ (hw _ (List.mem_of_getElem? (i := 46) rfl))) (by decide) (backOf (W := 0) (rm7f l Z a0 hw [] b55 xx0 ((0 : Int32)) v63 w58 T59.heap n0 O61 Y59_0 Y59_2 Y59_1 Y59_3 f64 g_b55 (Nat.ne_of_lt (Nat.lt_of_lt_of_le (Nat.lt_of_lt_of_le HV_w58.lt (Nat.le_trans (Nat.le_trans (Nat.le_trans (Nat.le_trans (Nat.le_trans (Nat.le_trans (Nat.le_trans (Nat.le_trans (Nat.le_trans (Nat.le_trans (Nat.le_trans (Nat.le_trans E3.1 E6.1) K9.1) (Keep.of_wr W14).1) E17.1) K20.1) (Keep.of_wr W25).1) E28.1) K31.1) (Keep.of_wr W36).1) E39.1) K42.1) (Keep.of_wr W47).1)) (Nat.le_of_eq g55.symm))) S_DEFAULTCAPACITY_EMPTY_ELEMENTDATA (Ins.of_exa f65 (hw _ (List.mem_of_getElem? (i := 74) rfl)))) hZ (hw _ (List.mem_of_getElem? (i := 48) rfl)) (hw _ (List.mem_of_getElem? (i := 22) rfl)) (by decide) (by decide)) q66a q66c (g := (mkF m 79 #[.val (.int p1), .val (.int p2), .val (.ref b3), .val (.int (4 : Int32)), .val (.int (p2 &&& (3 : Int32))), .val (.ref b55), .unset, .unset] [(.ref xx0), (.ref b55)])) rfl (by rw [hml]; rfl) (Steps.refl _) (argsL := [(.ref xx0)]) (rest := []) (lenOf pd_10 rfl) rfl (by show 2 * 0 + _ ≤ _; exact Nat.le_of_eq rfl) (hb hby at_79) (fun _ _ => ⟨rfl, rfl, (by decide : 6 + 1 ≤ _), (by decide : 15 + 10 ≤ _)⟩)
  dsimp only [Pt.U, Pt.locs, Pt.cells, Pt.slots] at X66 l66 y66 z66 st66 hQ66
  subst l66 y66 z66
  obtain ⟨b67, k68, rfl, N66q, K66, Y66_z0, Y66_0, Y66_1, Y66_2, Y66_3, Y66_4, Y66_5, Y66_6⟩ := hQ66
  have N66 := Fr.app N59 N66q
  replace X66 := X66.more (cells' := 7) (slots' := 25) (by decide) (by decide)
  have g_b67 : n0 ≤ b67 := Nat.le_trans (Nat.le_trans Z0 K60.1) Y66_z0
  have sz_b67 : h0.size ≤ b67 := Nat.le_trans K60.1 Y66_z0
  have K69 : Keep h0 T66.heap [] := K60.trans K66 (allS (Or.inr sz_b55) all0)
  have O70 : Old Z n0 T66.heap := O61.keep K66 (allS g_b55 all0)
  have f71 := (own_arrkeep f62 K66 (ninS (Nat.ne_of_lt (Nat.lt_of_lt_of_le (Nat.lt_of_lt_of_le V3.lt (Nat.le_trans (Nat.le_trans (Nat.le_trans (Nat.le_trans (Nat.le_trans (Nat.le_trans (Nat.le_trans (Nat.le_trans (Nat.le_trans (Nat.le_trans (Nat.le_trans E6.1 K9.1) (Keep.of_wr W14).1) E17.1) K20.1) (Keep.of_wr W25).1) E28.1) K31.1) (Keep.of_wr W36).1) E39.1) K42.1) (Keep.of_wr W47).1)) (Nat.le_of_eq g55.symm))) nin0))
  have f72 := (((hxe1.ext E55).keep K59).keep K66)
  obtain ⟨cq73, kq73, q73a, q73b, q73c⟩ := isOf hZ rfl Y66_0
  obtain ⟨vr73, _, ⟨T73, L73, k73, n73⟩, -, X73, ⟨Lc73, hQ73, l73, y73, z73⟩, st73⟩ := X66.virtualBack hx (y := (⟨"java/util/ArrayList", "add", "(Ljava/lang/Object;)Z"⟩ : MethodName)) (z := (⟨"java/util/ArrayList", "add", "(Ljava/lang/Object;)Z"⟩ : MethodName)) hown (mvT hZ (hw _ (List.mem_of_getElem? (i := 44) rfl))) (mvT hZ (hw _ (List.mem_of_getElem? (i := 45) rfl))) (notFace_of_selects (args := #[]) (mvT hZ (hw _ (List.mem_of_getElem? (i := 47) rfl)))) (mvT hZ (hw _ (List.mem_of_getElem? (i := 47) rfl))) (mvT hZ (hw _ (List.mem_of_getElem? (i := 46) rfl))) (by decide) (backOf (W := 0) (rm7r1a l Z a0 hw [] b55 xx1 (((0 : Int32) + (1 : Int32))) k68 xx0 b67 T66.heap n0 O70 Y66_0 Y66_2 Y66_1 Y66_3 Y66_4 Y66_5 Y66_6 g_b55 (Ne.symm (Nat.ne_of_lt (Nat.lt_of_lt_of_le (Nat.lt_of_lt_of_le A55.lt K59.1) Y66_z0))) (Ins.of_exa f72 (hw _ (List.mem_of_getElem? (i := 74) rfl))) g_b67) hZ (hw _ (List.mem_of_getElem? (i := 48) rfl)) (hw _ (List.mem_of_getElem? (i := 22) rfl)) (by decide) (by decide)) q73a q73c (g := (mkF m 98 #[.val (.int p1), .val (.int p2), .val (.ref b3), .val (.int (4 : Int32)), .val (.int (p2 &&& (3 : Int32))), .val (.ref b55), .unset, .unset] [(.ref xx1), (.ref b55)])) rfl (by rw [hml]; rfl) (Steps.refl _) (argsL := [(.ref xx1)]) (rest := []) (lenOf pd_10 rfl) rfl (by show 2 * 0 + _ ≤ _; exact Nat.le_of_eq rfl) (hb hby at_98) (fun _ _ => ⟨rfl, rfl, (by decide : 7 + 0 ≤ _), (by decide : 25 + 0 ≤ _)⟩)
  dsimp only [Pt.U, Pt.locs, Pt.cells, Pt.slots] at X73 l73 y73 z73 st73 hQ73
  subst l73 y73 z73
  obtain ⟨rfl, N73q, K73, Y73_0, Y73_1, Y73_2, Y73_3, Y73_4, Y73_5, Y73_6⟩ := hQ73
  have N73 := Fr.app N66 N73q
  replace X73 := X73.more (cells' := 7) (slots' := 25) (by decide) (by decide)
  have K74 : Keep h0 T73.heap [] := K69.trans K73 (allS (Or.inr sz_b55) (allS (Or.inr sz_b67) all0))
  have O75 : Old Z n0 T73.heap := O70.keep K73 (allS g_b55 (allS g_b67 all0))
  have f76 := (own_arrkeep f71 K73 (ninS (Nat.ne_of_lt (Nat.lt_of_lt_of_le (Nat.lt_of_lt_of_le V3.lt (Nat.le_trans (Nat.le_trans (Nat.le_trans (Nat.le_trans (Nat.le_trans (Nat.le_trans (Nat.le_trans (Nat.le_trans (Nat.le_trans (Nat.le_trans (Nat.le_trans E6.1 K9.1) (Keep.of_wr W14).1) E17.1) K20.1) (Keep.of_wr W25).1) E28.1) K31.1) (Keep.of_wr W36).1) E39.1) K42.1) (Keep.of_wr W47).1)) (Nat.le_of_eq g55.symm))) (ninS (Nat.ne_of_lt (Nat.lt_of_lt_of_le (Nat.lt_of_lt_of_le V3.lt (Nat.le_trans (Nat.le_trans (Nat.le_trans (Nat.le_trans (Nat.le_trans (Nat.le_trans (Nat.le_trans (Nat.le_trans (Nat.le_trans (Nat.le_trans (Nat.le_trans (Nat.le_trans (Nat.le_trans E6.1 K9.1) (Keep.of_wr W14).1) E17.1) K20.1) (Keep.of_wr W25).1) E28.1) K31.1) (Keep.of_wr W36).1) E39.1) K42.1) (Keep.of_wr W47).1) E55.1) K59.1)) Y66_z0)) nin0)))
  have f77 := ((((hxe2.ext E55).keep K59).keep K66).keep K73)
  obtain ⟨cq78, kq78, q78a, q78b, q78c⟩ := isOf hZ rfl Y73_0
  obtain ⟨vr78, _, ⟨T78, L78, k78, n78⟩, -, X78, ⟨Lc78, hQ78, l78, y78, z78⟩, st78⟩ := X73.virtualBack hx (y := (⟨"java/util/ArrayList", "add", "(Ljava/lang/Object;)Z"⟩ : MethodName)) (z := (⟨"java/util/ArrayList", "add", "(Ljava/lang/Object;)Z"⟩ : MethodName)) hown (mvT hZ (hw _ (List.mem_of_getElem? (i := 44) rfl))) (mvT hZ (hw _ (List.mem_of_getElem? (i := 45) rfl))) (notFace_of_selects (args := #[]) (mvT hZ (hw _ (List.mem_of_getElem? (i := 47) rfl)))) (mvT hZ (hw _ (List.mem_of_getElem? (i := 47) rfl))) (mvT hZ (hw _ (List.mem_of_getElem? (i := 46) rfl))) (by decide) (backOf (W := 0) (rm7r2aa l Z a0 hw [] b55 xx2 ((((0 : Int32) + (1 : Int32)) + (1 : Int32))) k68 xx0 xx1 b67 T73.heap n0 O75 Y73_0 Y73_2 Y73_1 Y73_3 Y73_4 Y73_5 Y73_6 g_b55 (Ne.symm (Nat.ne_of_lt (Nat.lt_of_lt_of_le (Nat.lt_of_lt_of_le A55.lt K59.1) Y66_z0))) (Ins.of_exa f77 (hw _ (List.mem_of_getElem? (i := 74) rfl))) g_b67) hZ (hw _ (List.mem_of_getElem? (i := 48) rfl)) (hw _ (List.mem_of_getElem? (i := 22) rfl)) (by decide) (by decide)) q78a q78c (g := (mkF m 117 #[.val (.int p1), .val (.int p2), .val (.ref b3), .val (.int (4 : Int32)), .val (.int (p2 &&& (3 : Int32))), .val (.ref b55), .unset, .unset] [(.ref xx2), (.ref b55)])) rfl (by rw [hml]; rfl) (Steps.refl _) (argsL := [(.ref xx2)]) (rest := []) (lenOf pd_10 rfl) rfl (by show 2 * 0 + _ ≤ _; exact Nat.le_of_eq rfl) (hb hby at_117) (fun _ _ => ⟨rfl, rfl, (by decide : 7 + 0 ≤ _), (by decide : 25 + 0 ≤ _)⟩)
  dsimp only [Pt.U, Pt.locs, Pt.cells, Pt.slots] at X78 l78 y78 z78 st78 hQ78
  subst l78 y78 z78
  obtain ⟨rfl, N78q, K78, Y78_0, Y78_1, Y78_2, Y78_3, Y78_4, Y78_5, Y78_6⟩ := hQ78
  have N78 := Fr.app N73 N78q
  replace X78 := X78.more (cells' := 7) (slots' := 25) (by decide) (by decide)
  have K79 : Keep h0 T78.heap [] := K74.trans K78 (allS (Or.inr sz_b55) (allS (Or.inr sz_b67) all0))
  have O80 : Old Z n0 T78.heap := O75.keep K78 (allS g_b55 (allS g_b67 all0))
  have f81 := (own_arrkeep f76 K78 (ninS (Nat.ne_of_lt (Nat.lt_of_lt_of_le (Nat.lt_of_lt_of_le V3.lt (Nat.le_trans (Nat.le_trans (Nat.le_trans (Nat.le_trans (Nat.le_trans (Nat.le_trans (Nat.le_trans (Nat.le_trans (Nat.le_trans (Nat.le_trans (Nat.le_trans E6.1 K9.1) (Keep.of_wr W14).1) E17.1) K20.1) (Keep.of_wr W25).1) E28.1) K31.1) (Keep.of_wr W36).1) E39.1) K42.1) (Keep.of_wr W47).1)) (Nat.le_of_eq g55.symm))) (ninS (Nat.ne_of_lt (Nat.lt_of_lt_of_le (Nat.lt_of_lt_of_le V3.lt (Nat.le_trans (Nat.le_trans (Nat.le_trans (Nat.le_trans (Nat.le_trans (Nat.le_trans (Nat.le_trans (Nat.le_trans (Nat.le_trans (Nat.le_trans (Nat.le_trans (Nat.le_trans (Nat.le_trans E6.1 K9.1) (Keep.of_wr W14).1) E17.1) K20.1) (Keep.of_wr W25).1) E28.1) K31.1) (Keep.of_wr W36).1) E39.1) K42.1) (Keep.of_wr W47).1) E55.1) K59.1)) Y66_z0)) nin0)))
  have f82 := (((((hxe3.ext E55).keep K59).keep K66).keep K73).keep K78)
  obtain ⟨cq83, kq83, q83a, q83b, q83c⟩ := isOf hZ rfl Y78_0
  obtain ⟨vr83, _, ⟨T83, L83, k83, n83⟩, -, X83, ⟨Lc83, hQ83, l83, y83, z83⟩, st83⟩ := X78.virtualBack hx (y := (⟨"java/util/ArrayList", "add", "(Ljava/lang/Object;)Z"⟩ : MethodName)) (z := (⟨"java/util/ArrayList", "add", "(Ljava/lang/Object;)Z"⟩ : MethodName)) hown (mvT hZ (hw _ (List.mem_of_getElem? (i := 44) rfl))) (mvT hZ (hw _ (List.mem_of_getElem? (i := 45) rfl))) (notFace_of_selects (args := #[]) (mvT hZ (hw _ (List.mem_of_getElem? (i := 47) rfl)))) (mvT hZ (hw _ (List.mem_of_getElem? (i := 47) rfl))) (mvT hZ (hw _ (List.mem_of_getElem? (i := 46) rfl))) (by decide) (backOf (W := 0) (rm7r3aaa l Z a0 hw [] b55 xx3 (((((0 : Int32) + (1 : Int32)) + (1 : Int32)) + (1 : Int32))) k68 xx0 xx1 xx2 b67 T78.heap n0 O80 Y78_0 Y78_2 Y78_1 Y78_3 Y78_4 Y78_5 Y78_6 g_b55 (Ne.symm (Nat.ne_of_lt (Nat.lt_of_lt_of_le (Nat.lt_of_lt_of_le A55.lt K59.1) Y66_z0))) (Ins.of_exa f82 (hw _ (List.mem_of_getElem? (i := 74) rfl))) g_b67) hZ (hw _ (List.mem_of_getElem? (i := 48) rfl)) (hw _ (List.mem_of_getElem? (i := 22) rfl)) (by decide) (by decide)) q83a q83c (g := (mkF m 136 #[.val (.int p1), .val (.int p2), .val (.ref b3), .val (.int (4 : Int32)), .val (.int (p2 &&& (3 : Int32))), .val (.ref b55), .unset, .unset] [(.ref xx3), (.ref b55)])) rfl (by rw [hml]; rfl) (Steps.refl _) (argsL := [(.ref xx3)]) (rest := []) (lenOf pd_10 rfl) rfl (by show 2 * 0 + _ ≤ _; exact Nat.le_of_eq rfl) (hb hby at_136) (fun _ _ => ⟨rfl, rfl, (by decide : 7 + 0 ≤ _), (by decide : 25 + 0 ≤ _)⟩)
  dsimp only [Pt.U, Pt.locs, Pt.cells, Pt.slots] at X83 l83 y83 z83 st83 hQ83
  subst l83 y83 z83
  obtain ⟨rfl, N83q, K83, Y83_0, Y83_1, Y83_2, Y83_3, Y83_4, Y83_5, Y83_6⟩ := hQ83
  have N83 := Fr.app N78 N83q
  replace X83 := X83.more (cells' := 7) (slots' := 25) (by decide) (by decide)
  have K84 : Keep h0 T83.heap [] := K79.trans K83 (allS (Or.inr sz_b55) (allS (Or.inr sz_b67) all0))
  have O85 : Old Z n0 T83.heap := O80.keep K83 (allS g_b55 (allS g_b67 all0))
  obtain ⟨T86, h86, X86, e86, E86, A86, D86, -, st86⟩ := newO X83 hx hZ hown (hw _ (List.mem_of_getElem? (i := 75) rfl)) (hw _ (List.mem_of_getElem? (i := 76) rfl)) (hw _ (List.mem_of_getElem? (i := 77) rfl)) rfl (g := (mkF m 140 #[.val (.int p1), .val (.int p2), .val (.ref b3), .val (.int (4 : Int32)), .val (.int (p2 &&& (3 : Int32))), .val (.ref b55), .unset, .unset] [])) rfl (hb hby at_140) (by decide) (by decide)
  obtain ⟨b86, g86⟩ : ∃ z, z = T83.heap.size := ⟨_, rfl⟩
  rw [← g86] at A86 D86 st86
  have g_b86 : n0 ≤ b86 := Nat.le_trans (Nat.le_trans Z0 K84.1) (Nat.le_of_eq g86.symm)
  have sz_b86 : h0.size ≤ b86 := Nat.le_trans K84.1 (Nat.le_of_eq g86.symm)
  have K87 : Keep h0 h86 [] := K84.ext E86
  have O88 : Old Z n0 h86 := O85.ext E86
  have F_source_b86 : Fld Z h86 b86 "com/example/wattle/wattle/DayAheadPrices" "source" "Ljava/lang/String;" .null := D86 (Or.inr (hw _ (List.mem_of_getElem? (i := 91) rfl))) (ty := (.object "java/lang/String")) (by decide)
  have F_hours_b86 : Fld Z h86 b86 "com/example/wattle/wattle/DayAheadPrices" "hours" "Ljava/util/List;" .null := D86 (Or.inr (hw _ (List.mem_of_getElem? (i := 179) rfl))) (ty := (.object "java/util/List")) (by decide)
  replace X86 := X86.more (cells' := 8) (slots' := 27) (by decide) (by decide)
  obtain ⟨b89, T89, h89, k89, X89, e89, E89, hS89, hk89, hZ89, ho89, st89⟩ := ldcS X86 hx hZ hown (hw _ (List.mem_of_getElem? (i := 78) rfl)) (fun d hd => hw d (own_strw d hd)) e86 hS0 (Nat.le_trans hk0 (Nat.le_trans (Nat.le_trans (Nat.le_trans (Nat.le_trans (Nat.le_trans (Nat.le_trans (Nat.le_trans (Nat.le_trans (Nat.le_trans (Nat.le_trans (Nat.le_trans (Nat.le_trans (Nat.le_trans (Nat.le_trans (Nat.le_trans (Nat.le_trans (Nat.le_trans (Nat.le_trans (Nat.le_trans E3.1 E6.1) K9.1) (Keep.of_wr W14).1) E17.1) K20.1) (Keep.of_wr W25).1) E28.1) K31.1) (Keep.of_wr W36).1) E39.1) K42.1) (Keep.of_wr W47).1) E55.1) K59.1) K66.1) K73.1) K78.1) K83.1) E86.1)) (g := (mkF m 144 #[.val (.int p1), .val (.int p2), .val (.ref b3), .val (.int (4 : Int32)), .val (.int (p2 &&& (3 : Int32))), .val (.ref b55), .unset, .unset] [(.ref b86), (.ref b86)])) rfl (hb hby at_144) (n := 24) (by decide) (by decide) (by decide) (by decide)
  have K90 : Keep h0 h89 [] := K87.ext E89
  have O91 : Old Z n0 h89 := O88.ext E89
  replace X89 := X89.more (cells' := 10) (slots' := 55) (by decide) (by decide)
  have f92 := (A86.ext E89)
  have f93 := (F_source_b86.ext E89)
  have f94 := ((Y83_0.ext E86).ext E89)
  have f95 := ((Y83_1.ext E86).ext E89)
  have f96 := ((Y83_3.ext E86).ext E89)
  have f97 := ((Y83_4.ext E86).ext E89)
  have f98 := ((Y83_5.ext E86).ext E89)
  have f99 := ((((((f65.keep K66).keep K73).keep K78).keep K83).ext E86).ext E89)
  have f100 := (((((f72.keep K73).keep K78).keep K83).ext E86).ext E89)
  have f101 := ((((f77.keep K78).keep K83).ext E86).ext E89)
  have f102 := (((f82.keep K83).ext E86).ext E89)
  have f104 := (F_hours_b86.ext E89)
  obtain ⟨vr105, _, ⟨T105, L105, k105, n105⟩, -, X105, ⟨Lc105, hQ105, l105, y105, z105⟩, st105⟩ := X89.specialBack hx (y := (⟨"com/example/wattle/wattle/DayAheadPrices", "<init>", "(Ljava/lang/String;Ljava/util/List;)V"⟩ : MethodName)) rfl ho89 (mvT hZ89 (hw _ (List.mem_of_getElem? (i := 86) rfl))) (mvT hZ89 (hw _ (List.mem_of_getElem? (i := 87) rfl))) (mvT hZ89 (hw _ (List.mem_of_getElem? (i := 88) rfl))) (by decide) (backOf (W := 1) (rm12t4 l Z a0 hw [] b86 b89 b55 (.null) b67 k68 xx0 xx1 xx2 xx3 w103 (.null) h89 n0 O91 f92 f93 g_b86 f94 f95 (Nat.ne_of_lt (Nat.lt_of_lt_of_le (Nat.lt_of_lt_of_le A55.lt (Nat.le_trans (Nat.le_trans (Nat.le_trans (Nat.le_trans K59.1 K66.1) K73.1) K78.1) K83.1)) (Nat.le_of_eq g86.symm))) f96 f97 f98 (Nat.ne_of_lt (Nat.lt_of_lt_of_le (Nat.lt_of_lt_of_le Y66_4.lt (Nat.le_trans (Nat.le_trans K73.1 K78.1) K83.1)) (Nat.le_of_eq g86.symm))) (Ins.of_exa f99 (hw _ (List.mem_of_getElem? (i := 74) rfl))) (Ins.of_exa f100 (hw _ (List.mem_of_getElem? (i := 74) rfl))) (Ins.of_exa f101 (hw _ (List.mem_of_getElem? (i := 74) rfl))) (Ins.of_exa f102 (hw _ (List.mem_of_getElem? (i := 74) rfl))) Mi__Ljava_lang_Object_ f104) hZ89 (hw _ (List.mem_of_getElem? (i := 88) rfl)) (hw _ (List.mem_of_getElem? (i := 77) rfl)) (by decide) (by decide)) (g := (mkF m 148 #[.val (.int p1), .val (.int p2), .val (.ref b3), .val (.int (4 : Int32)), .val (.int (p2 &&& (3 : Int32))), .val (.ref b55), .unset, .unset] [(.ref b55), (.ref b89), (.ref b86), (.ref b86)])) rfl (by rw [hml]; rfl) (Steps.refl _) (a := b86) (argsL := [(.ref b89), (.ref b55)]) (rest := [(.ref b86)]) (lenOf pd_14 rfl) rfl (by show 2 * 0 + _ ≤ _; exact Nat.le_of_eq rfl) (hb hby at_148) (fun _ _ => ⟨rfl, e89, (by decide : 10 + 3 ≤ _), (by decide : 55 + 10 ≤ _)⟩)
  dsimp only [Pt.U, Pt.locs, Pt.cells, Pt.slots] at X105 l105 y105 z105 st105 hQ105
  subst l105 y105 z105
  obtain ⟨b106, b107, k108, rfl, N105q, K105, Y105_z0, Y105_z1, Y105_n0, Y105_0, Y105_1, Y105_2, Y105_3, Y105_4, Y105_5, Y105_6, Y105_7, Y105_8⟩ := hQ105
  have N105 := Fr.app N83 N105q
  replace X105 := X105.more (cells' := 13) (slots' := 65) (by decide) (by decide)
  have g_b106 : n0 ≤ b106 := Nat.le_trans (Nat.le_trans Z0 K90.1) Y105_z0
  have sz_b106 : h0.size ≤ b106 := Nat.le_trans K90.1 Y105_z0
  have g_b107 : n0 ≤ b107 := Nat.le_trans (Nat.le_trans Z0 K90.1) Y105_z1
  have sz_b107 : h0.size ≤ b107 := Nat.le_trans K90.1 Y105_z1
  have K109 : Keep h0 T105.heap [] := K90.trans K105 (allS (Or.inr sz_b86) all0)
  have O110 : Old Z n0 T105.heap := O91.keep K105 (allS g_b86 all0)
  have f111 := (f99.keep K105)
  obtain ⟨cq112, kq112, q112a, q112b, q112c⟩ := isOf hZ89 rfl Y105_0
  obtain ⟨vr112, _, ⟨T112, L112, k112, n112⟩, -, X112, ⟨Lc112, hQ112, l112, y112, z112⟩, st112⟩ := X105.virtualBack hx (y := (⟨"com/example/wattle/wattle/DayAheadPrices", "first", "()Lcom/example/wattle/wattle/HourlyPrice;"⟩ : MethodName)) (z := (⟨"com/example/wattle/wattle/DayAheadPrices", "first", "()Lcom/example/wattle/wattle/HourlyPrice;"⟩ : MethodName)) ho89 (mvT hZ89 (hw _ (List.mem_of_getElem? (i := 180) rfl))) (mvT hZ89 (hw _ (List.mem_of_getElem? (i := 181) rfl))) (notFace_of_selects (args := #[]) (mvT hZ89 (hw _ (List.mem_of_getElem? (i := 183) rfl)))) (mvT hZ89 (hw _ (List.mem_of_getElem? (i := 183) rfl))) (mvT hZ89 (hw _ (List.mem_of_getElem? (i := 182) rfl))) (by decide) (backOf (W := 0) (rm25n4 l Z a0 hw [] b86 b106 b107 xx0 xx1 xx2 xx3 k108 T105.heap n0 O110 Y105_1 Y105_3 Y105_5 Y105_7 f111) hZ89 (hw _ (List.mem_of_getElem? (i := 184) rfl)) (hw _ (List.mem_of_getElem? (i := 77) rfl)) (by decide) (by decide)) q112a q112c (g := (mkF m 155 #[.val (.int p1), .val (.int p2), .val (.ref b3), .val (.int (4 : Int32)), .val (.int (p2 &&& (3 : Int32))), .val (.ref b55), .val (.ref b86), .unset] [(.ref b86)])) rfl (by rw [hml]; rfl) (Steps.refl _) (argsL := []) (rest := []) (lenOf pd_0 rfl) rfl (by show 2 * 0 + _ ≤ _; exact Nat.le_of_eq rfl) (hb hby at_155) (fun _ _ => ⟨rfl, rfl, (by decide : 13 + 0 ≤ _), (by decide : 65 + 0 ≤ _)⟩)
  dsimp only [Pt.U, Pt.locs, Pt.cells, Pt.slots] at X112 l112 y112 z112 st112 hQ112
  subst l112 y112 z112
  obtain ⟨rfl, N112q, e112⟩ := hQ112
  have N112 := Fr.app N105 N112q
  replace X112 := X112.more (cells' := 13) (slots' := 65) (by decide) (by decide)
  have f113 := (own_arrkeep (((own_arrkeep f81 K83 (ninS (Nat.ne_of_lt (Nat.lt_of_lt_of_le (Nat.lt_of_lt_of_le V3.lt (Nat.le_trans (Nat.le_trans (Nat.le_trans (Nat.le_trans (Nat.le_trans (Nat.le_trans (Nat.le_trans (Nat.le_trans (Nat.le_trans (Nat.le_trans (Nat.le_trans E6.1 K9.1) (Keep.of_wr W14).1) E17.1) K20.1) (Keep.of_wr W25).1) E28.1) K31.1) (Keep.of_wr W36).1) E39.1) K42.1) (Keep.of_wr W47).1)) (Nat.le_of_eq g55.symm))) (ninS (Nat.ne_of_lt (Nat.lt_of_lt_of_le (Nat.lt_of_lt_of_le V3.lt (Nat.le_trans (Nat.le_trans (Nat.le_trans (Nat.le_trans (Nat.le_trans (Nat.le_trans (Nat.le_trans (Nat.le_trans (Nat.le_trans (Nat.le_trans (Nat.le_trans (Nat.le_trans (Nat.le_trans E6.1 K9.1) (Keep.of_wr W14).1) E17.1) K20.1) (Keep.of_wr W25).1) E28.1) K31.1) (Keep.of_wr W36).1) E39.1) K42.1) (Keep.of_wr W47).1) E55.1) K59.1)) Y66_z0)) nin0))).ext E86).ext E89) K105 (ninS (Nat.ne_of_lt (Nat.lt_of_lt_of_le (Nat.lt_of_lt_of_le V3.lt (Nat.le_trans (Nat.le_trans (Nat.le_trans (Nat.le_trans (Nat.le_trans (Nat.le_trans (Nat.le_trans (Nat.le_trans (Nat.le_trans (Nat.le_trans (Nat.le_trans (Nat.le_trans (Nat.le_trans (Nat.le_trans (Nat.le_trans (Nat.le_trans (Nat.le_trans E6.1 K9.1) (Keep.of_wr W14).1) E17.1) K20.1) (Keep.of_wr W25).1) E28.1) K31.1) (Keep.of_wr W36).1) E39.1) K42.1) (Keep.of_wr W47).1) E55.1) K59.1) K66.1) K73.1) K78.1) K83.1)) (Nat.le_of_eq g86.symm))) nin0))
  obtain ⟨fs, hr, hrun, hended, hend⟩ := X112.leaveW hS89 (by rw [e112]; exact (Nat.le_trans hk89 K105.1)) (v := some (.int (1 : Int32))) (fun h => by rw [Bd.returns] at h; cases h)
  refine ⟨_, _, pre0 _ ?_, hrun, hended, _, _, rfl, ?_, hend.1, hend.2.1, hend.2.2.1, hend.2.2.2.mono (by decide) (by decide)⟩
  · show Steps p.tables e below (s₁.setTop (mkF m 0 #[.val (.int p1), .val (.int p2), .unset, .unset, .unset, .unset, .unset, .unset] [])) _
    refine XS.iconst X0.here hx rfl (hb hby at_0) ?_
    show Steps p.tables e below (s₁.setTop (mkF m 1 #[.val (.int p1), .val (.int p2), .unset, .unset, .unset, .unset, .unset, .unset] [(.int (4 : Int32))])) _
    refine st3 _ ?_
    show Steps p.tables e below (T3.setTop (mkF m 4 #[.val (.int p1), .val (.int p2), .unset, .unset, .unset, .unset, .unset, .unset] [(.ref b3)])) _
    refine XS.astoreN X3.here hx rfl (hb hby at_4) rfl rfl (l' := #[.val (.int p1), .val (.int p2), .val (.ref b3), .unset, .unset, .unset, .unset, .unset]) rfl ?_
    show Steps p.tables e below (T3.setTop (mkF m 5 #[.val (.int p1), .val (.int p2), .val (.ref b3), .unset, .unset, .unset, .unset, .unset] [])) _
    refine XS.aloadN X3.here hx rfl (hb hby at_5) rfl rfl ?_
    show Steps p.tables e below (T3.setTop (mkF m 6 #[.val (.int p1), .val (.int p2), .val (.ref b3), .unset, .unset, .unset, .unset, .unset] [(.ref b3)])) _
    refine XS.iconst X3.here hx rfl (hb hby at_6) ?_
    show Steps p.tables e below (T3.setTop (mkF m 7 #[.val (.int p1), .val (.int p2), .val (.ref b3), .unset, .unset, .unset, .unset, .unset] [(.int (0 : Int32)), (.ref b3)])) _
    refine st6 _ ?_
    show Steps p.tables e below (T6.setTop (mkF m 10 #[.val (.int p1), .val (.int p2), .val (.ref b3), .unset, .unset, .unset, .unset, .unset] [(.ref b6), (.int (0 : Int32)), (.ref b3)])) _
    refine XS.dup X6.here hx rfl (hb hby at_10) rfl rfl ?_
    show Steps p.tables e below (T6.setTop (mkF m 11 #[.val (.int p1), .val (.int p2), .val (.ref b3), .unset, .unset, .unset, .unset, .unset] [(.ref b6), (.ref b6), (.int (0 : Int32)), (.ref b3)])) _
    refine XS.aconstNull X6.here hx rfl (hb hby at_11) ?_
    show Steps p.tables e below (T6.setTop (mkF m 12 #[.val (.int p1), .val (.int p2), .val (.ref b3), .unset, .unset, .unset, .unset, .unset] [.null, (.ref b6), (.ref b6), (.int (0 : Int32)), (.ref b3)])) _
    refine XS.aconstNull X6.here hx rfl (hb hby at_12) ?_
    show Steps p.tables e below (T6.setTop (mkF m 13 #[.val (.int p1), .val (.int p2), .val (.ref b3), .unset, .unset, .unset, .unset, .unset] [.null, .null, (.ref b6), (.ref b6), (.int (0 : Int32)), (.ref b3)])) _
    refine st9.trans ?_
    show Steps p.tables e below (T9.setTop (mkF m 16 #[.val (.int p1), .val (.int p2), .val (.ref b3), .unset, .unset, .unset, .unset, .unset] [(.ref b6), (.int (0 : Int32)), (.ref b3)])) _
    refine st14 _ ?_
    show Steps p.tables e below (T14.setTop (mkF m 17 #[.val (.int p1), .val (.int p2), .val (.ref b3), .unset, .unset, .unset, .unset, .unset] [])) _
    refine XS.aloadN X14.here hx rfl (hb hby at_17) rfl rfl ?_
    show Steps p.tables e below (T14.setTop (mkF m 18 #[.val (.int p1), .val (.int p2), .val (.ref b3), .unset, .unset, .unset, .unset, .unset] [(.ref b3)])) _
    refine XS.iconst X14.here hx rfl (hb hby at_18) ?_
    show Steps p.tables e below (T14.setTop (mkF m 19 #[.val (.int p1), .val (.int p2), .val (.ref b3), .unset, .unset, .unset, .unset, .unset] [(.int (1 : Int32)), (.ref b3)])) _
    refine st17 _ ?_
    show Steps p.tables e below (T17.setTop (mkF m 22 #[.val (.int p1), .val (.int p2), .val (.ref b3), .unset, .unset, .unset, .unset, .unset] [(.ref b17), (.int (1 : Int32)), (.ref b3)])) _
    refine XS.dup X17.here hx rfl (hb hby at_22) rfl rfl ?_
    show Steps p.tables e below (T17.setTop (mkF m 23 #[.val (.int p1), .val (.int p2), .val (.ref b3), .unset, .unset, .unset, .unset, .unset] [(.ref b17), (.ref b17), (.int (1 : Int32)), (.ref b3)])) _
    refine XS.aconstNull X17.here hx rfl (hb hby at_23) ?_
    show Steps p.tables e below (T17.setTop (mkF m 24 #[.val (.int p1), .val (.int p2), .val (.ref b3), .unset, .unset, .unset, .unset, .unset] [.null, (.ref b17), (.ref b17), (.int (1 : Int32)), (.ref b3)])) _
    refine XS.aconstNull X17.here hx rfl (hb hby at_24) ?_
    show Steps p.tables e below (T17.setTop (mkF m 25 #[.val (.int p1), .val (.int p2), .val (.ref b3), .unset, .unset, .unset, .unset, .unset] [.null, .null, (.ref b17), (.ref b17), (.int (1 : Int32)), (.ref b3)])) _
    refine st20.trans ?_
    show Steps p.tables e below (T20.setTop (mkF m 28 #[.val (.int p1), .val (.int p2), .val (.ref b3), .unset, .unset, .unset, .unset, .unset] [(.ref b17), (.int (1 : Int32)), (.ref b3)])) _
    refine st25 _ ?_
    show Steps p.tables e below (T25.setTop (mkF m 29 #[.val (.int p1), .val (.int p2), .val (.ref b3), .unset, .unset, .unset, .unset, .unset] [])) _
    refine XS.aloadN X25.here hx rfl (hb hby at_29) rfl rfl ?_
    show Steps p.tables e below (T25.setTop (mkF m 30 #[.val (.int p1), .val (.int p2), .val (.ref b3), .unset, .unset, .unset, .unset, .unset] [(.ref b3)])) _
    refine XS.iconst X25.here hx rfl (hb hby at_30) ?_
    show Steps p.tables e below (T25.setTop (mkF m 31 #[.val (.int p1), .val (.int p2), .val (.ref b3), .unset, .unset, .unset, .unset, .unset] [(.int (2 : Int32)), (.ref b3)])) _
    refine st28 _ ?_
    show Steps p.tables e below (T28.setTop (mkF m 34 #[.val (.int p1), .val (.int p2), .val (.ref b3), .unset, .unset, .unset, .unset, .unset] [(.ref b28), (.int (2 : Int32)), (.ref b3)])) _
    refine XS.dup X28.here hx rfl (hb hby at_34) rfl rfl ?_
    show Steps p.tables e below (T28.setTop (mkF m 35 #[.val (.int p1), .val (.int p2), .val (.ref b3), .unset, .unset, .unset, .unset, .unset] [(.ref b28), (.ref b28), (.int (2 : Int32)), (.ref b3)])) _
    refine XS.aconstNull X28.here hx rfl (hb hby at_35) ?_
    show Steps p.tables e below (T28.setTop (mkF m 36 #[.val (.int p1), .val (.int p2), .val (.ref b3), .unset, .unset, .unset, .unset, .unset] [.null, (.ref b28), (.ref b28), (.int (2 : Int32)), (.ref b3)])) _
    refine XS.aconstNull X28.here hx rfl (hb hby at_36) ?_
    show Steps p.tables e below (T28.setTop (mkF m 37 #[.val (.int p1), .val (.int p2), .val (.ref b3), .unset, .unset, .unset, .unset, .unset] [.null, .null, (.ref b28), (.ref b28), (.int (2 : Int32)), (.ref b3)])) _
    refine st31.trans ?_
    show Steps p.tables e below (T31.setTop (mkF m 40 #[.val (.int p1), .val (.int p2), .val (.ref b3), .unset, .unset, .unset, .unset, .unset] [(.ref b28), (.int (2 : Int32)), (.ref b3)])) _
    refine st36 _ ?_
    show Steps p.tables e below (T36.setTop (mkF m 41 #[.val (.int p1), .val (.int p2), .val (.ref b3), .unset, .unset, .unset, .unset, .unset] [])) _
    refine XS.aloadN X36.here hx rfl (hb hby at_41) rfl rfl ?_
    show Steps p.tables e below (T36.setTop (mkF m 42 #[.val (.int p1), .val (.int p2), .val (.ref b3), .unset, .unset, .unset, .unset, .unset] [(.ref b3)])) _
    refine XS.iconst X36.here hx rfl (hb hby at_42) ?_
    show Steps p.tables e below (T36.setTop (mkF m 43 #[.val (.int p1), .val (.int p2), .val (.ref b3), .unset, .unset, .unset, .unset, .unset] [(.int (3 : Int32)), (.ref b3)])) _
    refine st39 _ ?_
    show Steps p.tables e below (T39.setTop (mkF m 46 #[.val (.int p1), .val (.int p2), .val (.ref b3), .unset, .unset, .unset, .unset, .unset] [(.ref b39), (.int (3 : Int32)), (.ref b3)])) _
    refine XS.dup X39.here hx rfl (hb hby at_46) rfl rfl ?_
    show Steps p.tables e below (T39.setTop (mkF m 47 #[.val (.int p1), .val (.int p2), .val (.ref b3), .unset, .unset, .unset, .unset, .unset] [(.ref b39), (.ref b39), (.int (3 : Int32)), (.ref b3)])) _
    refine XS.aconstNull X39.here hx rfl (hb hby at_47) ?_
    show Steps p.tables e below (T39.setTop (mkF m 48 #[.val (.int p1), .val (.int p2), .val (.ref b3), .unset, .unset, .unset, .unset, .unset] [.null, (.ref b39), (.ref b39), (.int (3 : Int32)), (.ref b3)])) _
    refine XS.aconstNull X39.here hx rfl (hb hby at_48) ?_
    show Steps p.tables e below (T39.setTop (mkF m 49 #[.val (.int p1), .val (.int p2), .val (.ref b3), .unset, .unset, .unset, .unset, .unset] [.null, .null, (.ref b39), (.ref b39), (.int (3 : Int32)), (.ref b3)])) _
    refine st42.trans ?_
    show Steps p.tables e below (T42.setTop (mkF m 52 #[.val (.int p1), .val (.int p2), .val (.ref b3), .unset, .unset, .unset, .unset, .unset] [(.ref b39), (.int (3 : Int32)), (.ref b3)])) _
    refine st47 _ ?_
    show Steps p.tables e below (T47.setTop (mkF m 53 #[.val (.int p1), .val (.int p2), .val (.ref b3), .unset, .unset, .unset, .unset, .unset] [])) _
    refine XS.iconst X47.here hx rfl (hb hby at_53) ?_
    show Steps p.tables e below (T47.setTop (mkF m 54 #[.val (.int p1), .val (.int p2), .val (.ref b3), .unset, .unset, .unset, .unset, .unset] [(.int (1 : Int32))])) _
    refine XS.iloadN X47.here hx rfl (hb hby at_54) rfl ?_
    show Steps p.tables e below (T47.setTop (mkF m 55 #[.val (.int p1), .val (.int p2), .val (.ref b3), .unset, .unset, .unset, .unset, .unset] [(.int p1), (.int (1 : Int32))])) _
    refine XS.iconst X47.here hx rfl (hb hby at_55) ?_
    show Steps p.tables e below (T47.setTop (mkF m 56 #[.val (.int p1), .val (.int p2), .val (.ref b3), .unset, .unset, .unset, .unset, .unset] [(.int (3 : Int32)), (.int p1), (.int (1 : Int32))])) _
    refine XS.iand X47.here hx rfl (hb hby at_56) rfl ?_
    show Steps p.tables e below (T47.setTop (mkF m 57 #[.val (.int p1), .val (.int p2), .val (.ref b3), .unset, .unset, .unset, .unset, .unset] [(.int (p1 &&& (3 : Int32))), (.int (1 : Int32))])) _
    refine XS.iadd X47.here hx rfl (hb hby at_57) rfl ?_
    show Steps p.tables e below (T47.setTop (mkF m 58 #[.val (.int p1), .val (.int p2), .val (.ref b3), .unset, .unset, .unset, .unset, .unset] [(.int ((1 : Int32) + (p1 &&& (3 : Int32))))])) _
    refine XS.istoreN X47.here hx rfl (hb hby at_58) rfl (l' := #[.val (.int p1), .val (.int p2), .val (.ref b3), .val (.int ((1 : Int32) + (p1 &&& (3 : Int32)))), .unset, .unset, .unset, .unset]) rfl ?_
    show Steps p.tables e below (T47.setTop (mkF m 59 #[.val (.int p1), .val (.int p2), .val (.ref b3), .val (.int ((1 : Int32) + (p1 &&& (3 : Int32)))), .unset, .unset, .unset, .unset] [])) _
    rw [hn59]
    show Steps p.tables e below (T47.setTop (mkF m 59 #[.val (.int p1), .val (.int p2), .val (.ref b3), .val (.int (4 : Int32)), .unset, .unset, .unset, .unset] [])) _
    refine XS.iloadN X47.here hx rfl (hb hby at_59) rfl ?_
    show Steps p.tables e below (T47.setTop (mkF m 60 #[.val (.int p1), .val (.int p2), .val (.ref b3), .val (.int (4 : Int32)), .unset, .unset, .unset, .unset] [(.int p2)])) _
    refine XS.iconst X47.here hx rfl (hb hby at_60) ?_
    show Steps p.tables e below (T47.setTop (mkF m 61 #[.val (.int p1), .val (.int p2), .val (.ref b3), .val (.int (4 : Int32)), .unset, .unset, .unset, .unset] [(.int (3 : Int32)), (.int p2)])) _
    refine XS.iand X47.here hx rfl (hb hby at_61) rfl ?_
    show Steps p.tables e below (T47.setTop (mkF m 62 #[.val (.int p1), .val (.int p2), .val (.ref b3), .val (.int (4 : Int32)), .unset, .unset, .unset, .unset] [(.int (p2 &&& (3 : Int32)))])) _
    refine XS.istore X47.here hx rfl (hb hby at_62) rfl (l' := #[.val (.int p1), .val (.int p2), .val (.ref b3), .val (.int (4 : Int32)), .val (.int (p2 &&& (3 : Int32))), .unset, .unset, .unset]) rfl ?_
    show Steps p.tables e below (T47.setTop (mkF m 64 #[.val (.int p1), .val (.int p2), .val (.ref b3), .val (.int (4 : Int32)), .val (.int (p2 &&& (3 : Int32))), .unset, .unset, .unset] [])) _
    refine st55 _ ?_
    show Steps p.tables e below (T55.setTop (mkF m 67 #[.val (.int p1), .val (.int p2), .val (.ref b3), .val (.int (4 : Int32)), .val (.int (p2 &&& (3 : Int32))), .unset, .unset, .unset] [(.ref b55)])) _
    refine XS.dup X55.here hx rfl (hb hby at_67) rfl rfl ?_
    show Steps p.tables e below (T55.setTop (mkF m 68 #[.val (.int p1), .val (.int p2), .val (.ref b3), .val (.int (4 : Int32)), .val (.int (p2 &&& (3 : Int32))), .unset, .unset, .unset] [(.ref b55), (.ref b55)])) _
    refine st59.trans ?_
    show Steps p.tables e below (T59.setTop (mkF m 71 #[.val (.int p1), .val (.int p2), .val (.ref b3), .val (.int (4 : Int32)), .val (.int (p2 &&& (3 : Int32))), .unset, .unset, .unset] [(.ref b55)])) _
    refine XS.astore X59.here hx rfl (hb hby at_71) rfl rfl (l' := #[.val (.int p1), .val (.int p2), .val (.ref b3), .val (.int (4 : Int32)), .val (.int (p2 &&& (3 : Int32))), .val (.ref b55), .unset, .unset]) rfl ?_
    show Steps p.tables e below (T59.setTop (mkF m 73 #[.val (.int p1), .val (.int p2), .val (.ref b3), .val (.int (4 : Int32)), .val (.int (p2 &&& (3 : Int32))), .val (.ref b55), .unset, .unset] [])) _
    refine XS.aload X59.here hx rfl (hb hby at_73) rfl rfl ?_
    show Steps p.tables e below (T59.setTop (mkF m 75 #[.val (.int p1), .val (.int p2), .val (.ref b3), .val (.int (4 : Int32)), .val (.int (p2 &&& (3 : Int32))), .val (.ref b55), .unset, .unset] [(.ref b55)])) _
    refine XS.aloadN X59.here hx rfl (hb hby at_75) rfl rfl ?_
    show Steps p.tables e below (T59.setTop (mkF m 76 #[.val (.int p1), .val (.int p2), .val (.ref b3), .val (.int (4 : Int32)), .val (.int (p2 &&& (3 : Int32))), .val (.ref b55), .unset, .unset] [(.ref b3), (.ref b55)])) _
    refine XS.iload X59.here hx rfl (hb hby at_76) rfl ?_
    show Steps p.tables e below (T59.setTop (mkF m 78 #[.val (.int p1), .val (.int p2), .val (.ref b3), .val (.int (4 : Int32)), .val (.int (p2 &&& (3 : Int32))), .val (.ref b55), .unset, .unset] [(.int (p2 &&& (3 : Int32))), (.ref b3), (.ref b55)])) _
    refine X59.aaload hx (j := (p2 &&& (3 : Int32))) (v := (.ref xx0)) f62.1 (State.isArrayOf_alike hZ.alike f62.2.1) rfl f62.2.2 hxi0 hxa0 (g := (mkF m 78 #[.val (.int p1), .val (.int p2), .val (.ref b3), .val (.int (4 : Int32)), .val (.int (p2 &&& (3 : Int32))), .val (.ref b55), .unset, .unset] [(.int (p2 &&& (3 : Int32))), (.ref b3), (.ref b55)])) rfl rfl (hb hby at_78) _ ?_
    show Steps p.tables e below (T59.setTop (mkF m 79 #[.val (.int p1), .val (.int p2), .val (.ref b3), .val (.int (4 : Int32)), .val (.int (p2 &&& (3 : Int32))), .val (.ref b55), .unset, .unset] [(.ref xx0), (.ref b55)])) _
    refine st66.trans ?_
    show Steps p.tables e below (T66.setTop (mkF m 82 #[.val (.int p1), .val (.int p2), .val (.ref b3), .val (.int (4 : Int32)), .val (.int (p2 &&& (3 : Int32))), .val (.ref b55), .unset, .unset] [(.int (1 : Int32))])) _
    refine XS.pop X66.here hx rfl (hb hby at_82) rfl rfl ?_
    show Steps p.tables e below (T66.setTop (mkF m 83 #[.val (.int p1), .val (.int p2), .val (.ref b3), .val (.int (4 : Int32)), .val (.int (p2 &&& (3 : Int32))), .val (.ref b55), .unset, .unset] [])) _
    refine XS.iloadN X66.here hx rfl (hb hby at_83) rfl ?_
    show Steps p.tables e below (T66.setTop (mkF m 84 #[.val (.int p1), .val (.int p2), .val (.ref b3), .val (.int (4 : Int32)), .val (.int (p2 &&& (3 : Int32))), .val (.ref b55), .unset, .unset] [(.int (4 : Int32))])) _
    refine XS.iconst X66.here hx rfl (hb hby at_84) ?_
    show Steps p.tables e below (T66.setTop (mkF m 85 #[.val (.int p1), .val (.int p2), .val (.ref b3), .val (.int (4 : Int32)), .val (.int (p2 &&& (3 : Int32))), .val (.ref b55), .unset, .unset] [(.int (1 : Int32)), (.int (4 : Int32))])) _
    refine XS.icmpNo X66.here hx rfl (hb hby at_85) rfl (tlt (by decide : (1 : Int32) < (4 : Int32))).2.2.2 ?_
    show Steps p.tables e below (T66.setTop (mkF m 88 #[.val (.int p1), .val (.int p2), .val (.ref b3), .val (.int (4 : Int32)), .val (.int (p2 &&& (3 : Int32))), .val (.ref b55), .unset, .unset] [])) _
    refine XS.aload X66.here hx rfl (hb hby at_88) rfl rfl ?_
    show Steps p.tables e below (T66.setTop (mkF m 90 #[.val (.int p1), .val (.int p2), .val (.ref b3), .val (.int (4 : Int32)), .val (.int (p2 &&& (3 : Int32))), .val (.ref b55), .unset, .unset] [(.ref b55)])) _
    refine XS.aloadN X66.here hx rfl (hb hby at_90) rfl rfl ?_
    show Steps p.tables e below (T66.setTop (mkF m 91 #[.val (.int p1), .val (.int p2), .val (.ref b3), .val (.int (4 : Int32)), .val (.int (p2 &&& (3 : Int32))), .val (.ref b55), .unset, .unset] [(.ref b3), (.ref b55)])) _
    refine XS.iload X66.here hx rfl (hb hby at_91) rfl ?_
    show Steps p.tables e below (T66.setTop (mkF m 93 #[.val (.int p1), .val (.int p2), .val (.ref b3), .val (.int (4 : Int32)), .val (.int (p2 &&& (3 : Int32))), .val (.ref b55), .unset, .unset] [(.int (p2 &&& (3 : Int32))), (.ref b3), (.ref b55)])) _
    refine XS.iconst X66.here hx rfl (hb hby at_93) ?_
    show Steps p.tables e below (T66.setTop (mkF m 94 #[.val (.int p1), .val (.int p2), .val (.ref b3), .val (.int (4 : Int32)), .val (.int (p2 &&& (3 : Int32))), .val (.ref b55), .unset, .unset] [(.int (1 : Int32)), (.int (p2 &&& (3 : Int32))), (.ref b3), (.ref b55)])) _
    refine XS.iadd X66.here hx rfl (hb hby at_94) rfl ?_
    show Steps p.tables e below (T66.setTop (mkF m 95 #[.val (.int p1), .val (.int p2), .val (.ref b3), .val (.int (4 : Int32)), .val (.int (p2 &&& (3 : Int32))), .val (.ref b55), .unset, .unset] [(.int ((p2 &&& (3 : Int32)) + (1 : Int32))), (.ref b3), (.ref b55)])) _
    refine XS.iconst X66.here hx rfl (hb hby at_95) ?_
    show Steps p.tables e below (T66.setTop (mkF m 96 #[.val (.int p1), .val (.int p2), .val (.ref b3), .val (.int (4 : Int32)), .val (.int (p2 &&& (3 : Int32))), .val (.ref b55), .unset, .unset] [(.int (3 : Int32)), (.int ((p2 &&& (3 : Int32)) + (1 : Int32))), (.ref b3), (.ref b55)])) _
    refine XS.iand X66.here hx rfl (hb hby at_96) rfl ?_
    show Steps p.tables e below (T66.setTop (mkF m 97 #[.val (.int p1), .val (.int p2), .val (.ref b3), .val (.int (4 : Int32)), .val (.int (p2 &&& (3 : Int32))), .val (.ref b55), .unset, .unset] [(.int (((p2 &&& (3 : Int32)) + (1 : Int32)) &&& (3 : Int32))), (.ref b3), (.ref b55)])) _
    refine X66.aaload hx (j := (((p2 &&& (3 : Int32)) + (1 : Int32)) &&& (3 : Int32))) (v := (.ref xx1)) f71.1 (State.isArrayOf_alike hZ.alike f71.2.1) rfl f71.2.2 hxi1 hxa1 (g := (mkF m 97 #[.val (.int p1), .val (.int p2), .val (.ref b3), .val (.int (4 : Int32)), .val (.int (p2 &&& (3 : Int32))), .val (.ref b55), .unset, .unset] [(.int (((p2 &&& (3 : Int32)) + (1 : Int32)) &&& (3 : Int32))), (.ref b3), (.ref b55)])) rfl rfl (hb hby at_97) _ ?_
    show Steps p.tables e below (T66.setTop (mkF m 98 #[.val (.int p1), .val (.int p2), .val (.ref b3), .val (.int (4 : Int32)), .val (.int (p2 &&& (3 : Int32))), .val (.ref b55), .unset, .unset] [(.ref xx1), (.ref b55)])) _
    refine st73.trans ?_
    show Steps p.tables e below (T73.setTop (mkF m 101 #[.val (.int p1), .val (.int p2), .val (.ref b3), .val (.int (4 : Int32)), .val (.int (p2 &&& (3 : Int32))), .val (.ref b55), .unset, .unset] [(.int (1 : Int32))])) _
    refine XS.pop X73.here hx rfl (hb hby at_101) rfl rfl ?_
    show Steps p.tables e below (T73.setTop (mkF m 102 #[.val (.int p1), .val (.int p2), .val (.ref b3), .val (.int (4 : Int32)), .val (.int (p2 &&& (3 : Int32))), .val (.ref b55), .unset, .unset] [])) _
    refine XS.iloadN X73.here hx rfl (hb hby at_102) rfl ?_
    show Steps p.tables e below (T73.setTop (mkF m 103 #[.val (.int p1), .val (.int p2), .val (.ref b3), .val (.int (4 : Int32)), .val (.int (p2 &&& (3 : Int32))), .val (.ref b55), .unset, .unset] [(.int (4 : Int32))])) _
    refine XS.iconst X73.here hx rfl (hb hby at_103) ?_
    show Steps p.tables e below (T73.setTop (mkF m 104 #[.val (.int p1), .val (.int p2), .val (.ref b3), .val (.int (4 : Int32)), .val (.int (p2 &&& (3 : Int32))), .val (.ref b55), .unset, .unset] [(.int (2 : Int32)), (.int (4 : Int32))])) _
    refine XS.icmpNo X73.here hx rfl (hb hby at_104) rfl (tlt (by decide : (2 : Int32) < (4 : Int32))).2.2.2 ?_
    show Steps p.tables e below (T73.setTop (mkF m 107 #[.val (.int p1), .val (.int p2), .val (.ref b3), .val (.int (4 : Int32)), .val (.int (p2 &&& (3 : Int32))), .val (.ref b55), .unset, .unset] [])) _
    refine XS.aload X73.here hx rfl (hb hby at_107) rfl rfl ?_
    show Steps p.tables e below (T73.setTop (mkF m 109 #[.val (.int p1), .val (.int p2), .val (.ref b3), .val (.int (4 : Int32)), .val (.int (p2 &&& (3 : Int32))), .val (.ref b55), .unset, .unset] [(.ref b55)])) _
    refine XS.aloadN X73.here hx rfl (hb hby at_109) rfl rfl ?_
    show Steps p.tables e below (T73.setTop (mkF m 110 #[.val (.int p1), .val (.int p2), .val (.ref b3), .val (.int (4 : Int32)), .val (.int (p2 &&& (3 : Int32))), .val (.ref b55), .unset, .unset] [(.ref b3), (.ref b55)])) _
    refine XS.iload X73.here hx rfl (hb hby at_110) rfl ?_
    show Steps p.tables e below (T73.setTop (mkF m 112 #[.val (.int p1), .val (.int p2), .val (.ref b3), .val (.int (4 : Int32)), .val (.int (p2 &&& (3 : Int32))), .val (.ref b55), .unset, .unset] [(.int (p2 &&& (3 : Int32))), (.ref b3), (.ref b55)])) _
    refine XS.iconst X73.here hx rfl (hb hby at_112) ?_
    show Steps p.tables e below (T73.setTop (mkF m 113 #[.val (.int p1), .val (.int p2), .val (.ref b3), .val (.int (4 : Int32)), .val (.int (p2 &&& (3 : Int32))), .val (.ref b55), .unset, .unset] [(.int (2 : Int32)), (.int (p2 &&& (3 : Int32))), (.ref b3), (.ref b55)])) _
    refine XS.iadd X73.here hx rfl (hb hby at_113) rfl ?_
    show Steps p.tables e below (T73.setTop (mkF m 114 #[.val (.int p1), .val (.int p2), .val (.ref b3), .val (.int (4 : Int32)), .val (.int (p2 &&& (3 : Int32))), .val (.ref b55), .unset, .unset] [(.int ((p2 &&& (3 : Int32)) + (2 : Int32))), (.ref b3), (.ref b55)])) _
    refine XS.iconst X73.here hx rfl (hb hby at_114) ?_
    show Steps p.tables e below (T73.setTop (mkF m 115 #[.val (.int p1), .val (.int p2), .val (.ref b3), .val (.int (4 : Int32)), .val (.int (p2 &&& (3 : Int32))), .val (.ref b55), .unset, .unset] [(.int (3 : Int32)), (.int ((p2 &&& (3 : Int32)) + (2 : Int32))), (.ref b3), (.ref b55)])) _
    refine XS.iand X73.here hx rfl (hb hby at_115) rfl ?_
    show Steps p.tables e below (T73.setTop (mkF m 116 #[.val (.int p1), .val (.int p2), .val (.ref b3), .val (.int (4 : Int32)), .val (.int (p2 &&& (3 : Int32))), .val (.ref b55), .unset, .unset] [(.int (((p2 &&& (3 : Int32)) + (2 : Int32)) &&& (3 : Int32))), (.ref b3), (.ref b55)])) _
    refine X73.aaload hx (j := (((p2 &&& (3 : Int32)) + (2 : Int32)) &&& (3 : Int32))) (v := (.ref xx2)) f76.1 (State.isArrayOf_alike hZ.alike f76.2.1) rfl f76.2.2 hxi2 hxa2 (g := (mkF m 116 #[.val (.int p1), .val (.int p2), .val (.ref b3), .val (.int (4 : Int32)), .val (.int (p2 &&& (3 : Int32))), .val (.ref b55), .unset, .unset] [(.int (((p2 &&& (3 : Int32)) + (2 : Int32)) &&& (3 : Int32))), (.ref b3), (.ref b55)])) rfl rfl (hb hby at_116) _ ?_
    show Steps p.tables e below (T73.setTop (mkF m 117 #[.val (.int p1), .val (.int p2), .val (.ref b3), .val (.int (4 : Int32)), .val (.int (p2 &&& (3 : Int32))), .val (.ref b55), .unset, .unset] [(.ref xx2), (.ref b55)])) _
    refine st78.trans ?_
    show Steps p.tables e below (T78.setTop (mkF m 120 #[.val (.int p1), .val (.int p2), .val (.ref b3), .val (.int (4 : Int32)), .val (.int (p2 &&& (3 : Int32))), .val (.ref b55), .unset, .unset] [(.int (1 : Int32))])) _
    refine XS.pop X78.here hx rfl (hb hby at_120) rfl rfl ?_
    show Steps p.tables e below (T78.setTop (mkF m 121 #[.val (.int p1), .val (.int p2), .val (.ref b3), .val (.int (4 : Int32)), .val (.int (p2 &&& (3 : Int32))), .val (.ref b55), .unset, .unset] [])) _
    refine XS.iloadN X78.here hx rfl (hb hby at_121) rfl ?_
    show Steps p.tables e below (T78.setTop (mkF m 122 #[.val (.int p1), .val (.int p2), .val (.ref b3), .val (.int (4 : Int32)), .val (.int (p2 &&& (3 : Int32))), .val (.ref b55), .unset, .unset] [(.int (4 : Int32))])) _
    refine XS.iconst X78.here hx rfl (hb hby at_122) ?_
    show Steps p.tables e below (T78.setTop (mkF m 123 #[.val (.int p1), .val (.int p2), .val (.ref b3), .val (.int (4 : Int32)), .val (.int (p2 &&& (3 : Int32))), .val (.ref b55), .unset, .unset] [(.int (3 : Int32)), (.int (4 : Int32))])) _
    refine XS.icmpNo X78.here hx rfl (hb hby at_123) rfl (tlt (by decide : (3 : Int32) < (4 : Int32))).2.2.2 ?_
    show Steps p.tables e below (T78.setTop (mkF m 126 #[.val (.int p1), .val (.int p2), .val (.ref b3), .val (.int (4 : Int32)), .val (.int (p2 &&& (3 : Int32))), .val (.ref b55), .unset, .unset] [])) _
    refine XS.aload X78.here hx rfl (hb hby at_126) rfl rfl ?_
    show Steps p.tables e below (T78.setTop (mkF m 128 #[.val (.int p1), .val (.int p2), .val (.ref b3), .val (.int (4 : Int32)), .val (.int (p2 &&& (3 : Int32))), .val (.ref b55), .unset, .unset] [(.ref b55)])) _
    refine XS.aloadN X78.here hx rfl (hb hby at_128) rfl rfl ?_
    show Steps p.tables e below (T78.setTop (mkF m 129 #[.val (.int p1), .val (.int p2), .val (.ref b3), .val (.int (4 : Int32)), .val (.int (p2 &&& (3 : Int32))), .val (.ref b55), .unset, .unset] [(.ref b3), (.ref b55)])) _
    refine XS.iload X78.here hx rfl (hb hby at_129) rfl ?_
    show Steps p.tables e below (T78.setTop (mkF m 131 #[.val (.int p1), .val (.int p2), .val (.ref b3), .val (.int (4 : Int32)), .val (.int (p2 &&& (3 : Int32))), .val (.ref b55), .unset, .unset] [(.int (p2 &&& (3 : Int32))), (.ref b3), (.ref b55)])) _
    refine XS.iconst X78.here hx rfl (hb hby at_131) ?_
    show Steps p.tables e below (T78.setTop (mkF m 132 #[.val (.int p1), .val (.int p2), .val (.ref b3), .val (.int (4 : Int32)), .val (.int (p2 &&& (3 : Int32))), .val (.ref b55), .unset, .unset] [(.int (3 : Int32)), (.int (p2 &&& (3 : Int32))), (.ref b3), (.ref b55)])) _
    refine XS.iadd X78.here hx rfl (hb hby at_132) rfl ?_
    show Steps p.tables e below (T78.setTop (mkF m 133 #[.val (.int p1), .val (.int p2), .val (.ref b3), .val (.int (4 : Int32)), .val (.int (p2 &&& (3 : Int32))), .val (.ref b55), .unset, .unset] [(.int ((p2 &&& (3 : Int32)) + (3 : Int32))), (.ref b3), (.ref b55)])) _
    refine XS.iconst X78.here hx rfl (hb hby at_133) ?_
    show Steps p.tables e below (T78.setTop (mkF m 134 #[.val (.int p1), .val (.int p2), .val (.ref b3), .val (.int (4 : Int32)), .val (.int (p2 &&& (3 : Int32))), .val (.ref b55), .unset, .unset] [(.int (3 : Int32)), (.int ((p2 &&& (3 : Int32)) + (3 : Int32))), (.ref b3), (.ref b55)])) _
    refine XS.iand X78.here hx rfl (hb hby at_134) rfl ?_
    show Steps p.tables e below (T78.setTop (mkF m 135 #[.val (.int p1), .val (.int p2), .val (.ref b3), .val (.int (4 : Int32)), .val (.int (p2 &&& (3 : Int32))), .val (.ref b55), .unset, .unset] [(.int (((p2 &&& (3 : Int32)) + (3 : Int32)) &&& (3 : Int32))), (.ref b3), (.ref b55)])) _
    refine X78.aaload hx (j := (((p2 &&& (3 : Int32)) + (3 : Int32)) &&& (3 : Int32))) (v := (.ref xx3)) f81.1 (State.isArrayOf_alike hZ.alike f81.2.1) rfl f81.2.2 hxi3 hxa3 (g := (mkF m 135 #[.val (.int p1), .val (.int p2), .val (.ref b3), .val (.int (4 : Int32)), .val (.int (p2 &&& (3 : Int32))), .val (.ref b55), .unset, .unset] [(.int (((p2 &&& (3 : Int32)) + (3 : Int32)) &&& (3 : Int32))), (.ref b3), (.ref b55)])) rfl rfl (hb hby at_135) _ ?_
    show Steps p.tables e below (T78.setTop (mkF m 136 #[.val (.int p1), .val (.int p2), .val (.ref b3), .val (.int (4 : Int32)), .val (.int (p2 &&& (3 : Int32))), .val (.ref b55), .unset, .unset] [(.ref xx3), (.ref b55)])) _
    refine st83.trans ?_
    show Steps p.tables e below (T83.setTop (mkF m 139 #[.val (.int p1), .val (.int p2), .val (.ref b3), .val (.int (4 : Int32)), .val (.int (p2 &&& (3 : Int32))), .val (.ref b55), .unset, .unset] [(.int (1 : Int32))])) _
    refine XS.pop X83.here hx rfl (hb hby at_139) rfl rfl ?_
    show Steps p.tables e below (T83.setTop (mkF m 140 #[.val (.int p1), .val (.int p2), .val (.ref b3), .val (.int (4 : Int32)), .val (.int (p2 &&& (3 : Int32))), .val (.ref b55), .unset, .unset] [])) _
    refine st86 _ ?_
    show Steps p.tables e below (T86.setTop (mkF m 143 #[.val (.int p1), .val (.int p2), .val (.ref b3), .val (.int (4 : Int32)), .val (.int (p2 &&& (3 : Int32))), .val (.ref b55), .unset, .unset] [(.ref b86)])) _
    refine XS.dup X86.here hx rfl (hb hby at_143) rfl rfl ?_
    show Steps p.tables e below (T86.setTop (mkF m 144 #[.val (.int p1), .val (.int p2), .val (.ref b3), .val (.int (4 : Int32)), .val (.int (p2 &&& (3 : Int32))), .val (.ref b55), .unset, .unset] [(.ref b86), (.ref b86)])) _
    refine st89 _ ?_
    show Steps p.tables e below (T89.setTop (mkF m 146 #[.val (.int p1), .val (.int p2), .val (.ref b3), .val (.int (4 : Int32)), .val (.int (p2 &&& (3 : Int32))), .val (.ref b55), .unset, .unset] [(.ref b89), (.ref b86), (.ref b86)])) _
    refine XS.aload X89.here hx rfl (hb hby at_146) rfl rfl ?_
    show Steps p.tables e below (T89.setTop (mkF m 148 #[.val (.int p1), .val (.int p2), .val (.ref b3), .val (.int (4 : Int32)), .val (.int (p2 &&& (3 : Int32))), .val (.ref b55), .unset, .unset] [(.ref b55), (.ref b89), (.ref b86), (.ref b86)])) _
    refine st105.trans ?_
    show Steps p.tables e below (T105.setTop (mkF m 151 #[.val (.int p1), .val (.int p2), .val (.ref b3), .val (.int (4 : Int32)), .val (.int (p2 &&& (3 : Int32))), .val (.ref b55), .unset, .unset] [(.ref b86)])) _
    refine XS.astore X105.here hx rfl (hb hby at_151) rfl rfl (l' := #[.val (.int p1), .val (.int p2), .val (.ref b3), .val (.int (4 : Int32)), .val (.int (p2 &&& (3 : Int32))), .val (.ref b55), .val (.ref b86), .unset]) rfl ?_
    show Steps p.tables e below (T105.setTop (mkF m 153 #[.val (.int p1), .val (.int p2), .val (.ref b3), .val (.int (4 : Int32)), .val (.int (p2 &&& (3 : Int32))), .val (.ref b55), .val (.ref b86), .unset] [])) _
    refine XS.aload X105.here hx rfl (hb hby at_153) rfl rfl ?_
    show Steps p.tables e below (T105.setTop (mkF m 155 #[.val (.int p1), .val (.int p2), .val (.ref b3), .val (.int (4 : Int32)), .val (.int (p2 &&& (3 : Int32))), .val (.ref b55), .val (.ref b86), .unset] [(.ref b86)])) _
    refine st112.trans ?_
    show Steps p.tables e below (T112.setTop (mkF m 158 #[.val (.int p1), .val (.int p2), .val (.ref b3), .val (.int (4 : Int32)), .val (.int (p2 &&& (3 : Int32))), .val (.ref b55), .val (.ref b86), .unset] [(.ref xx0)])) _
    refine XS.astore X112.here hx rfl (hb hby at_158) rfl rfl (l' := #[.val (.int p1), .val (.int p2), .val (.ref b3), .val (.int (4 : Int32)), .val (.int (p2 &&& (3 : Int32))), .val (.ref b55), .val (.ref b86), .val (.ref xx0)]) rfl ?_
    show Steps p.tables e below (T112.setTop (mkF m 160 #[.val (.int p1), .val (.int p2), .val (.ref b3), .val (.int (4 : Int32)), .val (.int (p2 &&& (3 : Int32))), .val (.ref b55), .val (.ref b86), .val (.ref xx0)] [])) _
    refine XS.aload X112.here hx rfl (hb hby at_160) rfl rfl ?_
    show Steps p.tables e below (T112.setTop (mkF m 162 #[.val (.int p1), .val (.int p2), .val (.ref b3), .val (.int (4 : Int32)), .val (.int (p2 &&& (3 : Int32))), .val (.ref b55), .val (.ref b86), .val (.ref xx0)] [(.ref xx0)])) _
    refine XS.aloadN X112.here hx rfl (hb hby at_162) rfl rfl ?_
    show Steps p.tables e below (T112.setTop (mkF m 163 #[.val (.int p1), .val (.int p2), .val (.ref b3), .val (.int (4 : Int32)), .val (.int (p2 &&& (3 : Int32))), .val (.ref b55), .val (.ref b86), .val (.ref xx0)] [(.ref b3), (.ref xx0)])) _
    refine XS.iload X112.here hx rfl (hb hby at_163) rfl ?_
    show Steps p.tables e below (T112.setTop (mkF m 165 #[.val (.int p1), .val (.int p2), .val (.ref b3), .val (.int (4 : Int32)), .val (.int (p2 &&& (3 : Int32))), .val (.ref b55), .val (.ref b86), .val (.ref xx0)] [(.int (p2 &&& (3 : Int32))), (.ref b3), (.ref xx0)])) _
    refine X112.aaload hx (j := (p2 &&& (3 : Int32))) (v := (.ref xx0)) (by rw [e112]; exact f113.1) (State.isArrayOf_alike hZ89.alike f113.2.1) rfl f113.2.2 hxi0 hxa0 (g := (mkF m 165 #[.val (.int p1), .val (.int p2), .val (.ref b3), .val (.int (4 : Int32)), .val (.int (p2 &&& (3 : Int32))), .val (.ref b55), .val (.ref b86), .val (.ref xx0)] [(.int (p2 &&& (3 : Int32))), (.ref b3), (.ref xx0)])) rfl rfl (hb hby at_165) _ ?_
    show Steps p.tables e below (T112.setTop (mkF m 166 #[.val (.int p1), .val (.int p2), .val (.ref b3), .val (.int (4 : Int32)), .val (.int (p2 &&& (3 : Int32))), .val (.ref b55), .val (.ref b86), .val (.ref xx0)] [(.ref xx0), (.ref xx0)])) _
    refine Jvm.RoadKit.acmp (g := (mkF m 166 #[.val (.int p1), .val (.int p2), .val (.ref b3), .val (.int (4 : Int32)), .val (.int (p2 &&& (3 : Int32))), .val (.ref b55), .val (.ref b86), .val (.ref xx0)] [(.ref xx0), (.ref xx0)])) X112 hx rfl rfl rfl (pc0 := 166) (pc' := 169) (same := true) rfl (hb hby at_166) rfl (decide_eq_true rfl) (by decide) (by decide) ?_
    show Steps p.tables e below (T112.setTop (mkF m 169 #[.val (.int p1), .val (.int p2), .val (.ref b3), .val (.int (4 : Int32)), .val (.int (p2 &&& (3 : Int32))), .val (.ref b55), .val (.ref b86), .val (.ref xx0)] [])) _
    refine XS.iconst X112.here hx rfl (hb hby at_169) ?_
    show Steps p.tables e below (T112.setTop (mkF m 170 #[.val (.int p1), .val (.int p2), .val (.ref b3), .val (.int (4 : Int32)), .val (.int (p2 &&& (3 : Int32))), .val (.ref b55), .val (.ref b86), .val (.ref xx0)] [(.int (1 : Int32))])) _
    refine XS.goto X112.here hx rfl (pc0 := 170) (pc' := 174) rfl (hb hby at_170) (by decide) (by decide) ?_
    show Steps p.tables e below (T112.setTop (mkF m 174 #[.val (.int p1), .val (.int p2), .val (.ref b3), .val (.int (4 : Int32)), .val (.int (p2 &&& (3 : Int32))), .val (.ref b55), .val (.ref b86), .val (.ref xx0)] [(.int (1 : Int32))])) _
    exact retN X112 hx (t := .boolean) Bd.returns (by simp) (hb hby at_174) hr
  · skip
    exact ⟨rfl, N112⟩
theorem own_eqv {args : Array Value} {s : State} {t : Term} {n : Int32} (h : (Jvm.Cond.eq t (.int n)).value args s none s [] = some true) : t.eval args s none [] s = some (.int n) := by
  simp only [Cond.value, Term.eval] at h; cases ht : t.eval args s none [] s with | none => simp [ht] at h | some x => cases x <;> simp [ht] at h ⊢; exact h
theorem own_arr0 {s : State} {args : Array Value} {t : Term} {ty : FieldType} {dv : Value} (hf : Fit s) (h2 : (Jvm.Cond.arrayOf t ty).value args s none s [] = some true) (h4 : (Jvm.Cond.eq (.length t) (.int 0)).value args s none s [] = some true) :
    ∃ (w : Addr) (k : ClassId), t.eval args s none [] s = some (.ref w) ∧ Arv s s.heap w k ty 0 [] dv := by
  obtain ⟨w, ew⟩ := arr_v h2
  obtain ⟨cl, A⟩ := Arr.start ew h2
  have e := own_eqv h4
  obtain ⟨w', cl', e1, e2, e3⟩ := Term.length_spec e
  cases ew.symm.trans e1
  obtain rfl : cl = cl' := Option.some.inj (A.1.symm.trans (State.arrayAt?_spec e2).1)
  have hlt : cl.slots.size < 2 ^ 31 := by
    apply Classical.byContradiction
    intro q
    simp [Term.eval, ew, e2, q] at e
  have hz : cl.slots.size.toInt32 = 0 := by injection e3 with q; exact q.symm
  exact ⟨w, cl.cls, ew, Arv.start hf A hlt hz (by decide) rfl trivial⟩
set_option maxRecDepth 65536 in
set_option maxHeartbeats 40000000 in
theorem comes_1 {Post : Tables → Env → Array Value → State → Outcome → State → Prop} (hpost : ∀ tb e args s v u, (limb_1_1.after args s (.returned v) u = true ∧ limb_1_2.after args s (.returned v) u = true ∧ True) → ReturnedEndW s (.returned v) u (Jvm.fieldLocs frame_1_writes args s ++ Jvm.arrayLocs frame_1_arrays args s ++ Jvm.staticLocs frame_1_statics s) 32 1216 → Post tb e args s (.returned v) u) :
    ArmFor flags0 classFile x code maxLocals ret World_1 tables_1 room_1 Calls_1 rest_1 Pre_1 Post := by
  intro l hfl _ _ p e ha hcc hk s m args below hf hA hF happ hP
  obtain ⟨hcalls, hrest, hpre⟩ := hP
  obtain ⟨-, -, -, hnamed, -, -, -, hat⟩ := (Spec.applies_iff hf).mp happ
  obtain ⟨hg, hn⟩ := and_e (Cond.before_iff.mp (show (Jvm.Cond.and given_1 narrow_1).before args s = true from hpre))
  obtain ⟨hcount, gg0⟩ := and_e hg
  obtain ⟨ga0, gg1⟩ := and_e gg0
  obtain ⟨w0, w1, rfl⟩ : ∃ w0 w1 : Value, args = #[w0, w1] := by
    have hs : args.size = 2 := by simpa [Cond.value, given_1] using hcount
    obtain ⟨L⟩ := args
    match L, hs with
    | [w0, w1], _ => exact ⟨w0, w1, rfl⟩
  have hw := fun d (hd : d ∈ tables_1) => atoms_spec (ws := Jvm.Cond.code x code maxLocals ret :: tables_1) hat d (List.mem_cons_of_mem _ hd)
  have hfit : Fit s := fun {y c} hc i hi => by
    obtain ⟨ha, rfl⟩ := Array.getElem?_eq_some_iff.mp hc
    have q := List.all_eq_true.mp ((Array.all_eq_true_iff_forall_mem.mp hF) _ (Array.getElem_mem ha)) i (List.mem_range.mpr hi)
    simpa [Array.getElem?_eq_getElem hi] using q
  obtain ⟨hsets, hown0⟩ := atoms_of _ (rest_1_c_eq ▸ (show rest_1_c.before _ s = true from hrest))
  have hr0 := Cond.before_iff.mp hown0
  obtain ⟨i0, ei0⟩ := is_v ga0
  obtain rfl : w0 = (.int i0) := Option.some.inj ei0
  obtain ⟨i1, ei1⟩ := is_v gg1
  obtain rfl : w1 = (.int i1) := Option.some.inj ei1
  obtain ⟨wD, kD, eD, VD⟩ := own_arr0 (dv := .null) hfit (Cond.before_iff.mp (hsets _ (List.mem_of_getElem? (i := 6) rfl))) (Cond.before_iff.mp (hsets _ (List.mem_of_getElem? (i := 8) rfl)))
  have SD : Sta s s.heap "java/util/ArrayList" "DEFAULTCAPACITY_EMPTY_ELEMENTDATA" "[Ljava/lang/Object;" (.ref wD) := Sta.start eD (Or.inr ⟨(hw _ (List.mem_of_getElem? (i := 22) rfl)), hsets _ (List.mem_of_getElem? (i := 2) rfl)⟩)
  obtain ⟨wE, eE⟩ := exa_v (Cond.before_iff.mp (hsets _ (List.mem_of_getElem? (i := 11) rfl)))
  have SE : Sta s s.heap "java/util/ImmutableCollections" "EMPTY" "Ljava/lang/Object;" (.ref wE) := Sta.start eE (Or.inl (hsets _ (List.mem_of_getElem? (i := 10) rfl)))
  obtain ⟨⟨cM, kM, mr, m1, m2, m3⟩, -⟩ := hcalls
  have Mi : own_Mir s "[Ljava/lang/Object;" mr := ⟨cM, kM, m1, m2, m3.1⟩
  have key : own_Met l s tables_1 #[(.int i0), (.int i1)] s.heap s.heap.size := by
    have r1 := c_and i0 (3 : Int32) (by decide)
    have r3 := c_iadd 1 (i0 &&& (3 : Int32))
    have r4 := rng32 ((1 : Int32) + (i0 &&& (3 : Int32)))
    rw [show (3 : Int32).toInt = 3 from rfl] at r1
    rw [show (1 : Int32).toInt = 1 from rfl] at r3
    by_cases c1 : ((1 : Int32) + (i0 &&& (3 : Int32))) = (1 : Int32)
    · exact rm0n1 l s _ hw tables_1 i0 i1 wD kD mr wE s.heap s.heap.size (Old.start s) c1 SD VD Mi SE
    · by_cases c2 : ((1 : Int32) + (i0 &&& (3 : Int32))) = (2 : Int32)
      · exact rm0n2 l s _ hw tables_1 i0 i1 wD kD mr s.heap s.heap.size (Old.start s) c2 SD VD Mi
      · by_cases c3 : ((1 : Int32) + (i0 &&& (3 : Int32))) = (3 : Int32)
        · exact rm0n3 l s _ hw tables_1 i0 i1 wD kD mr s.heap s.heap.size (Old.start s) c3 SD VD Mi
        · have c4 : ((1 : Int32) + (i0 &&& (3 : Int32))) = (4 : Int32) := by
            rw [← Int32.toInt_inj, show (1 : Int32).toInt = 1 from rfl] at c1
            rw [← Int32.toInt_inj, show (2 : Int32).toInt = 2 from rfl] at c2
            rw [← Int32.toInt_inj, show (3 : Int32).toInt = 3 from rfl] at c3
            rw [← Int32.toInt_inj, show (4 : Int32).toInt = 4 from rfl]
            omega
          exact rm0n4 l s _ hw tables_1 i0 i1 wD kD mr s.heap s.heap.size (Old.start s) c4 SD VD Mi
  obtain ⟨n, o, h1, h2, h3, _, L, rfl, ⟨rfl, N⟩, hq⟩ := key p e ha hcc hk s m _ below hf ((Spec.applies_iff_loose hf).mp happ).1 ⟨rfl, State.Warmed39.refl s, rfl⟩ trivial
  refine ⟨n, _, h1, h2, h3, hpost _ _ _ _ _ _ ⟨Cond.after_iff.mpr rfl, Cond.after_iff.mpr (eq_i res_at (Term.int_eval (1)) rfl), trivial⟩ ⟨hq.1, hq.2.1, hq.2.2.1, (hq.2.2.2.sift fun y hy => Or.inr (N y hy)).mono (by decide) (by decide)⟩⟩
theorem main_1_1 : Claimed_1_1 := comes_1 fun _ _ _ _ _ _ h hF => ⟨h.1, hF⟩
theorem main_1_2 : Claimed_1_2 := comes_1 fun _ _ _ _ _ _ h hF => ⟨h.2.1, hF⟩
end Jvm.Pilot.@@N@@
namespace Jvm.Pilot.@@N@@
open Jvm Jvm.ClassFile Sem Op Lib Jvm.Free Jvm.Stand Jvm.Pilot.@@N@@.Jvm.D
/-! MADE BY PROGRAM (witnessworld.py) out of the Statement's table words and the real class files: 36 classes; the members and pool entries that the words name. The judged class is class 1, her method 1. -/
namespace start1
open Jvm.ClassFile
def u (s : String) : CpInfo := .utf8 (stringToUtf16 s)
/-- a pool by its gaps: so many unusable entries, then the entry; so many at the end -/
def gap : Nat → List CpInfo → List CpInfo
  | 0, r => r
  | n + 1, r => .unusable :: gap n r
def poolList (es : List (Nat × CpInfo)) (last : Nat) : List CpInfo := es.foldr (fun e r => gap e.1 (e.2 :: r)) (gap last [])
def pool (es : List (Nat × CpInfo)) (last : Nat) : Array CpInfo := ⟨poolList es last⟩
def fileOf (pool : Array CpInfo) (this : Nat) (attrs : Array Attribute := #[]) (ms : Array MethodInfo := #[]) (fl : Nat := 33) (sup : Nat := 0) (ifs : Array Nat := #[]) (fds : Array FieldInfo := #[]) : ClassFile where
  minorVersion := 0
  majorVersion := 65
  constantPool := pool
  accessFlags := fl
  thisClass := this
  superClass := sup
  interfaces := ifs
  fields := fds
  methods := ms
  attributes := attrs
def plain (name : String) (sup : Option ClassId) : Class where
  name := name
  kind := .ordinary
  loader := none
  accessFlags := 33
  super := sup
  interfaces := #[]
  cf := none
  fields := #[]
  methods := #[]
  instanceTypes := #[]
  staticTypes := #[]
  resolved := #[]
  callSites := []
  init := .initialized
  statics := none
  mirror := none

def pool0 : Array CpInfo := pool [(5, u "<init>"), (0, u "()V"), (1, .class_ 10), (1, u "java/lang/Object"), (0, u "getClass"), (0, u "()Ljava/lang/Class;")] 111

def k0c0 : Code := { maxStack := 0, maxLocals := 1, code := object_method_1_code, exceptionTable := #[], attributes := #[] }
def k0m0 : Method := { name := "<init>", desc := "()V", sig := { parameters := [], returnType := none }, accessFlags := 1, code := some k0c0 }
def k0m1 : Method := { name := "getClass", desc := "()Ljava/lang/Class;", sig := { parameters := [], returnType := some (.object "java/lang/Class") }, accessFlags := 273, code := none }
/-- java/lang/Object -/
def k0 : Class := { plain "java/lang/Object" none with
  accessFlags := 33
  interfaces := #[]
  cf := some (fileOf pool0 8 #[] #[{ accessFlags := 1, nameIndex := 5, descriptorIndex := 6, attributes := #[] }, { accessFlags := 273, nameIndex := 11, descriptorIndex := 12, attributes := #[] }] 33 0 #[] #[])
  fields := #[]
  methods := #[k0m0, k0m1]
  instanceTypes := #[]
  staticTypes := #[]
  resolved := Array.replicate 124 none
  statics := none }

def pool1 : Array CpInfo := pool [(2, .class_ 4), (0, .nameAndType 5 6), (0, u "java/lang/Object"), (0, u "<init>"), (0, u "()V"), (0, .class_ 8), (0, u "com/example/wattle/wattle/HourlyPrice"), (0, .methodref 7 10), (0, .nameAndType 5 11), (0, u "(Ljava/time/OffsetDateTime;Ljava/math/BigDecimal;)V"), (0, .class_ 13), (0, u "java/util/ArrayList"), (0, .methodref 12 3), (0, .methodref 12 16), (0, .nameAndType 17 18), (0, u "add"), (0, u "(Ljava/lang/Object;)Z"), (0, .class_ 20), (0, u "com/example/wattle/wattle/DayAheadPrices"), (0, .string 22), (0, u "prices"), (0, .methodref 19 24), (0, .nameAndType 5 25), (0, u "(Ljava/lang/String;Ljava/util/List;)V"), (0, .methodref 19 27), (0, .nameAndType 28 29), (0, u "first"), (0, u "()Lcom/example/wattle/wattle/HourlyPrice;"), (0, .class_ 31), (0, u "com/example/wattle/wattle/DayAheadPricesFirstPinLaw"), (2, u "law"), (0, u "(II)Z")] 5

def k1m0 : Method := { name := "<init>", desc := "()V", sig := { parameters := [], returnType := none }, accessFlags := 1, code := none }
def k1c1 : Code := { maxStack := 6, maxLocals := 8, code := code, exceptionTable := #[], attributes := #[] }
def k1m1 : Method := { name := "law", desc := "(II)Z", sig := { parameters := [.int, .int], returnType := some .boolean }, accessFlags := 9, code := some k1c1 }
/-- com/example/wattle/wattle/DayAheadPricesFirstPinLaw -/
def k1 : Class := { plain "com/example/wattle/wattle/DayAheadPricesFirstPinLaw" (some 0) with
  accessFlags := 49
  interfaces := #[]
  cf := some (fileOf pool1 30 #[] #[{ accessFlags := 1, nameIndex := 5, descriptorIndex := 6, attributes := #[] }, { accessFlags := 9, nameIndex := 34, descriptorIndex := 35, attributes := #[] }] 49 2 #[] #[])
  fields := #[]
  methods := #[k1m0, k1m1]
  instanceTypes := #[]
  staticTypes := #[]
  resolved := Array.replicate 41 none
  statics := none }

def pool2 : Array CpInfo := pool [(1, .methodref 2 3), (0, .class_ 4), (0, .nameAndType 5 6), (0, u "java/lang/Object"), (0, u "<init>"), (0, u "()V"), (0, .class_ 8), (0, u "java/lang/Record")] 13

def k2c0 : Code := { maxStack := 1, maxLocals := 1, code := jdk_30_method_1_code, exceptionTable := #[], attributes := #[] }
def k2m0 : Method := { name := "<init>", desc := "()V", sig := { parameters := [], returnType := none }, accessFlags := 4, code := some k2c0 }
/-- java/lang/Record -/
def k2 : Class := { plain "java/lang/Record" (some 0) with
  accessFlags := 1057
  interfaces := #[]
  cf := some (fileOf pool2 7 #[] #[{ accessFlags := 4, nameIndex := 5, descriptorIndex := 6, attributes := #[] }] 1057 2 #[] #[])
  fields := #[]
  methods := #[k2m0]
  instanceTypes := #[]
  staticTypes := #[]
  resolved := Array.replicate 22 none
  statics := none }

def pool3 : Array CpInfo := pool [(1, .methodref 2 3), (0, .class_ 4), (0, .nameAndType 5 6), (0, u "java/lang/Record"), (0, u "<init>"), (0, u "()V"), (0, .fieldref 8 9), (0, .class_ 10), (0, .nameAndType 11 12), (0, u "com/example/wattle/wattle/HourlyPrice"), (0, u "hour"), (0, u "Ljava/time/OffsetDateTime;"), (0, .fieldref 8 14), (0, .nameAndType 15 16), (0, u "price"), (0, u "Ljava/math/BigDecimal;"), (12, u "(Ljava/time/OffsetDateTime;Ljava/math/BigDecimal;)V")] 29

def k3c0 : Code := { maxStack := 2, maxLocals := 3, code := prog_27_method_1_code, exceptionTable := #[], attributes := #[] }
def k3m0 : Method := { name := "<init>", desc := "(Ljava/time/OffsetDateTime;Ljava/math/BigDecimal;)V", sig := { parameters := [(.object "java/time/OffsetDateTime"), (.object "java/math/BigDecimal")], returnType := none }, accessFlags := 1, code := some k3c0 }
/-- com/example/wattle/wattle/HourlyPrice -/
def k3 : Class := { plain "com/example/wattle/wattle/HourlyPrice" (some 2) with
  accessFlags := 49
  interfaces := #[]
  cf := some (fileOf pool3 8 #[] #[{ accessFlags := 1, nameIndex := 5, descriptorIndex := 29, attributes := #[] }] 49 2 #[] #[{ accessFlags := 18, nameIndex := 11, descriptorIndex := 12, attributes := #[] }, { accessFlags := 18, nameIndex := 15, descriptorIndex := 16, attributes := #[] }])
  fields := #[{ name := "hour", type := (.object "java/time/OffsetDateTime"), accessFlags := 18, slot := 0, constantValue := 0 }, { name := "price", type := (.object "java/math/BigDecimal"), accessFlags := 18, slot := 1, constantValue := 0 }]
  methods := #[k3m0]
  instanceTypes := #[(.object "java/time/OffsetDateTime"), (.object "java/math/BigDecimal")]
  staticTypes := #[]
  resolved := Array.replicate 59 none
  statics := none }

def pool4 : Array CpInfo := pool [(8, .class_ 10), (1, u "java/lang/Iterable"), (24, .class_ 36), (0, u "java/lang/Object")] 25

/-- java/lang/Iterable -/
def k4 : Class := { plain "java/lang/Iterable" (some 0) with
  accessFlags := 1537
  interfaces := #[]
  cf := some (fileOf pool4 8 #[] #[] 1537 35 #[] #[])
  fields := #[]
  methods := #[]
  instanceTypes := #[]
  staticTypes := #[]
  resolved := Array.replicate 62 none
  statics := none }

def pool5 : Array CpInfo := pool [(10, .class_ 12), (1, u "java/util/Collection"), (0, u "toArray"), (16, u "()Z"), (29, .class_ 61), (0, u "java/lang/Object"), (0, .class_ 63), (0, u "java/lang/Iterable"), (2, u "isEmpty"), (3, u "()[Ljava/lang/Object;")] 44

def k5m0 : Method := { name := "isEmpty", desc := "()Z", sig := { parameters := [], returnType := some .boolean }, accessFlags := 1025, code := none }
def k5m1 : Method := { name := "toArray", desc := "()[Ljava/lang/Object;", sig := { parameters := [], returnType := some (.array (.object "java/lang/Object")) }, accessFlags := 1025, code := none }
/-- java/util/Collection -/
def k5 : Class := { plain "java/util/Collection" (some 0) with
  accessFlags := 1537
  interfaces := #[4]
  cf := some (fileOf pool5 10 #[] #[{ accessFlags := 1025, nameIndex := 66, descriptorIndex := 30, attributes := #[] }, { accessFlags := 1025, nameIndex := 13, descriptorIndex := 70, attributes := #[] }] 1537 60 #[62] #[])
  fields := #[]
  methods := #[k5m0, k5m1]
  instanceTypes := #[]
  staticTypes := #[]
  resolved := Array.replicate 115 none
  statics := none }

def pool6 : Array CpInfo := pool [(1, .methodref 2 3), (0, .class_ 4), (0, .nameAndType 5 6), (0, u "java/lang/Object"), (0, u "<init>"), (0, u "()V"), (1, .class_ 10), (1, u "java/util/AbstractCollection"), (66, .class_ 78), (0, u "java/util/Collection")] 81

def k6c0 : Code := { maxStack := 1, maxLocals := 1, code := jdk_22_method_1_code, exceptionTable := #[], attributes := #[] }
def k6m0 : Method := { name := "<init>", desc := "()V", sig := { parameters := [], returnType := none }, accessFlags := 4, code := some k6c0 }
/-- java/util/AbstractCollection -/
def k6 : Class := { plain "java/util/AbstractCollection" (some 0) with
  accessFlags := 1057
  interfaces := #[5]
  cf := some (fileOf pool6 8 #[] #[{ accessFlags := 4, nameIndex := 5, descriptorIndex := 6, attributes := #[] }] 1057 2 #[77] #[])
  fields := #[]
  methods := #[k6m0]
  instanceTypes := #[]
  staticTypes := #[]
  resolved := Array.replicate 160 none
  statics := none }

def pool7 : Array CpInfo := pool [(8, .class_ 10), (1, u "java/util/SequencedCollection"), (15, .class_ 27), (0, u "java/lang/Object"), (0, .class_ 29), (0, u "java/util/Collection")] 27

/-- java/util/SequencedCollection -/
def k7 : Class := { plain "java/util/SequencedCollection" (some 0) with
  accessFlags := 1537
  interfaces := #[5]
  cf := some (fileOf pool7 8 #[] #[] 1537 26 #[28] #[])
  fields := #[]
  methods := #[]
  instanceTypes := #[]
  staticTypes := #[]
  resolved := Array.replicate 57 none
  statics := none }

def pool8 : Array CpInfo := pool [(8, .class_ 10), (1, u "java/util/List"), (20, u "(Ljava/lang/Object;)V"), (16, u "<init>"), (26, u "get"), (0, u "(I)Ljava/lang/Object;"), (11, u "of"), (2, .class_ 93), (1, u "java/util/ImmutableCollections"), (2, .class_ 97), (0, u "java/util/ImmutableCollections$List12"), (0, .methodref 96 99), (0, .nameAndType 48 31), (0, .methodref 96 101), (0, .nameAndType 48 102), (0, u "(Ljava/lang/Object;Ljava/lang/Object;)V"), (0, .class_ 104), (0, u "java/lang/Object"), (3, u "([Ljava/lang/Object;)Ljava/util/List;"), (0, .methodref 91 110), (0, .nameAndType 111 108), (0, u "listFromArray"), (0, .methodref 91 113), (0, .nameAndType 114 115), (0, u "listCopy"), (0, u "(Ljava/util/Collection;)Ljava/util/List;"), (4, .class_ 121), (0, u "java/util/SequencedCollection"), (112, u "copyOf")] 16

def k8m0 : Method := { name := "get", desc := "(I)Ljava/lang/Object;", sig := { parameters := [.int], returnType := some (.object "java/lang/Object") }, accessFlags := 1025, code := none }
def k8c1 : Code := { maxStack := 5, maxLocals := 2, code := jdk_40_method_47_code, exceptionTable := #[], attributes := #[] }
def k8m1 : Method := { name := "of", desc := "([Ljava/lang/Object;)Ljava/util/List;", sig := { parameters := [(.array (.object "java/lang/Object"))], returnType := some (.object "java/util/List") }, accessFlags := 137, code := some k8c1 }
def k8c2 : Code := { maxStack := 1, maxLocals := 1, code := jdk_40_method_48_code, exceptionTable := #[], attributes := #[] }
def k8m2 : Method := { name := "copyOf", desc := "(Ljava/util/Collection;)Ljava/util/List;", sig := { parameters := [(.object "java/util/Collection")], returnType := some (.object "java/util/List") }, accessFlags := 9, code := some k8c2 }
/-- java/util/List -/
def k8 : Class := { plain "java/util/List" (some 0) with
  accessFlags := 1537
  interfaces := #[7]
  cf := some (fileOf pool8 8 #[] #[{ accessFlags := 1025, nameIndex := 75, descriptorIndex := 76, attributes := #[] }, { accessFlags := 137, nameIndex := 88, descriptorIndex := 108, attributes := #[] }, { accessFlags := 9, nameIndex := 234, descriptorIndex := 115, attributes := #[] }] 1537 103 #[120] #[])
  fields := #[]
  methods := #[k8m0, k8m1, k8m2]
  instanceTypes := #[]
  staticTypes := #[]
  resolved := Array.replicate 251 none
  statics := none }

def pool9 : Array CpInfo := pool [(1, .methodref 2 3), (0, .class_ 4), (0, .nameAndType 5 6), (0, u "java/util/AbstractCollection"), (0, u "<init>"), (0, u "()V"), (0, .fieldref 8 9), (0, .class_ 10), (0, .nameAndType 11 12), (0, u "java/util/AbstractList"), (0, u "modCount"), (0, u "I"), (64, .class_ 78), (0, u "java/util/AbstractList$Itr"), (3, .class_ 83), (0, u "java/util/AbstractList$ListItr"), (9, .class_ 94), (0, u "java/util/AbstractList$RandomAccessSubList"), (3, .class_ 99), (0, u "java/util/AbstractList$SubList"), (33, .class_ 134), (0, u "java/util/List"), (73, .class_ 209), (0, u "java/util/AbstractList$SubList$1"), (0, .class_ 211), (0, u "java/util/AbstractList$RandomAccessSpliterator")] 6

def k9c0 : Code := { maxStack := 2, maxLocals := 1, code := jdk_39_method_1_code, exceptionTable := #[], attributes := #[] }
def k9m0 : Method := { name := "<init>", desc := "()V", sig := { parameters := [], returnType := none }, accessFlags := 4, code := some k9c0 }
/-- java/util/AbstractList -/
def k9 : Class := { plain "java/util/AbstractList" (some 6) with
  accessFlags := 1057
  interfaces := #[8]
  cf := some (fileOf pool9 8 #[.nestMembers #[93, 98, 208, 210, 82, 77]] #[{ accessFlags := 4, nameIndex := 5, descriptorIndex := 6, attributes := #[] }] 1057 2 #[133] #[{ accessFlags := 132, nameIndex := 11, descriptorIndex := 12, attributes := #[] }])
  fields := #[{ name := "modCount", type := .int, accessFlags := 132, slot := 0, constantValue := 0 }]
  methods := #[k9m0]
  instanceTypes := #[.int]
  staticTypes := #[]
  resolved := Array.replicate 218 none
  statics := none }

def pool10 : Array CpInfo := pool [(1, .class_ 2), (0, u "java/util/RandomAccess"), (0, .class_ 4), (0, u "java/lang/Object")] 2

/-- java/util/RandomAccess -/
def k10 : Class := { plain "java/util/RandomAccess" (some 0) with
  accessFlags := 1537
  interfaces := #[]
  cf := some (fileOf pool10 1 #[] #[] 1537 3 #[] #[])
  fields := #[]
  methods := #[]
  instanceTypes := #[]
  staticTypes := #[]
  resolved := Array.replicate 7 none
  statics := none }

def pool11 : Array CpInfo := pool [(1, .class_ 2), (0, u "java/lang/Cloneable"), (0, .class_ 4), (0, u "java/lang/Object")] 2

/-- java/lang/Cloneable -/
def k11 : Class := { plain "java/lang/Cloneable" (some 0) with
  accessFlags := 1537
  interfaces := #[]
  cf := some (fileOf pool11 1 #[] #[] 1537 3 #[] #[])
  fields := #[]
  methods := #[]
  instanceTypes := #[]
  staticTypes := #[]
  resolved := Array.replicate 7 none
  statics := none }

def pool12 : Array CpInfo := pool [(1, .class_ 2), (0, u "java/io/Serializable"), (0, .class_ 4), (0, u "java/lang/Object")] 2

/-- java/io/Serializable -/
def k12 : Class := { plain "java/io/Serializable" (some 0) with
  accessFlags := 1537
  interfaces := #[]
  cf := some (fileOf pool12 1 #[] #[] 1537 3 #[] #[])
  fields := #[]
  methods := #[]
  instanceTypes := #[]
  staticTypes := #[]
  resolved := Array.replicate 7 none
  statics := none }

def pool13 : Array CpInfo := pool [(1, .methodref 2 3), (0, .class_ 4), (0, .nameAndType 5 6), (0, u "java/util/AbstractList"), (0, u "<init>"), (0, u "()V"), (0, .class_ 8), (0, u "java/lang/Object"), (0, .fieldref 10 11), (0, .class_ 12), (0, .nameAndType 13 14), (0, u "java/util/ArrayList"), (0, u "elementData"), (0, u "[Ljava/lang/Object;"), (2, u "EMPTY_ELEMENTDATA"), (21, .fieldref 10 40), (0, .nameAndType 41 14), (0, u "DEFAULTCAPACITY_EMPTY_ELEMENTDATA"), (4, u "toArray"), (0, u "()[Ljava/lang/Object;"), (0, .fieldref 10 49), (0, .nameAndType 50 51), (0, u "size"), (0, u "I"), (6, .class_ 60), (1, u "java/util/Arrays"), (0, u "copyOf"), (1, .fieldref 10 64), (0, .nameAndType 65 51), (0, u "modCount"), (0, .methodref 58 67), (0, .nameAndType 61 68), (0, u "([Ljava/lang/Object;I)[Ljava/lang/Object;"), (0, .methodref 10 70), (0, .nameAndType 71 72), (0, u "grow"), (0, u "(I)[Ljava/lang/Object;"), (6, .methodref 80 81), (0, .class_ 82), (0, .nameAndType 83 84), (0, u "java/lang/Math"), (0, u "max"), (0, u "(II)I"), (11, u "(Ljava/lang/Object;)Z"), (32, .methodref 10 130), (0, .nameAndType 71 47), (0, .methodref 10 132), (0, .nameAndType 133 134), (0, u "add"), (0, u "(Ljava/lang/Object;[Ljava/lang/Object;I)V"), (13, .class_ 149), (0, u "java/util/List"), (23, u "()Z"), (88, .class_ 263), (0, u "java/util/ArrayList$ListItr"), (3, .class_ 268), (0, u "java/util/ArrayList$Itr"), (7, .class_ 277), (0, u "java/util/ArrayList$SubList"), (12, .class_ 291), (0, u "java/util/ArrayList$ArrayListSpliterator"), (37, .class_ 330), (0, u "java/util/RandomAccess"), (0, .class_ 332), (0, u "java/lang/Cloneable"), (0, .class_ 334), (0, u "java/io/Serializable"), (0, u "serialVersionUID"), (0, u "J"), (3, u "DEFAULT_CAPACITY"), (22, u "isEmpty"), (136, .class_ 501), (0, u "java/util/ArrayList$SubList$2"), (0, .class_ 503), (0, u "java/util/ArrayList$SubList$1")] 5

def k13c0 : Code := { maxStack := 2, maxLocals := 1, code := jdk_38_method_2_code, exceptionTable := #[], attributes := #[] }
def k13m0 : Method := { name := "<init>", desc := "()V", sig := { parameters := [], returnType := none }, accessFlags := 1, code := some k13c0 }
def k13c1 : Code := { maxStack := 4, maxLocals := 4, code := jdk_38_method_6_code, exceptionTable := #[], attributes := #[] }
def k13m1 : Method := { name := "grow", desc := "(I)[Ljava/lang/Object;", sig := { parameters := [.int], returnType := some (.array (.object "java/lang/Object")) }, accessFlags := 2, code := some k13c1 }
def k13c2 : Code := { maxStack := 3, maxLocals := 1, code := jdk_38_method_7_code, exceptionTable := #[], attributes := #[] }
def k13m2 : Method := { name := "grow", desc := "()[Ljava/lang/Object;", sig := { parameters := [], returnType := some (.array (.object "java/lang/Object")) }, accessFlags := 2, code := some k13c2 }
def k13c3 : Code := { maxStack := 1, maxLocals := 1, code := jdk_38_method_9_code, exceptionTable := #[], attributes := #[] }
def k13m3 : Method := { name := "isEmpty", desc := "()Z", sig := { parameters := [], returnType := some .boolean }, accessFlags := 1, code := some k13c3 }
def k13c4 : Code := { maxStack := 2, maxLocals := 1, code := jdk_38_method_16_code, exceptionTable := #[], attributes := #[] }
def k13m4 : Method := { name := "toArray", desc := "()[Ljava/lang/Object;", sig := { parameters := [], returnType := some (.array (.object "java/lang/Object")) }, accessFlags := 1, code := some k13c4 }
def k13c5 : Code := { maxStack := 3, maxLocals := 4, code := jdk_38_method_24_code, exceptionTable := #[], attributes := #[] }
def k13m5 : Method := { name := "add", desc := "(Ljava/lang/Object;[Ljava/lang/Object;I)V", sig := { parameters := [(.object "java/lang/Object"), (.array (.object "java/lang/Object")), .int], returnType := none }, accessFlags := 2, code := some k13c5 }
def k13c6 : Code := { maxStack := 4, maxLocals := 2, code := jdk_38_method_25_code, exceptionTable := #[], attributes := #[] }
def k13m6 : Method := { name := "add", desc := "(Ljava/lang/Object;)Z", sig := { parameters := [(.object "java/lang/Object")], returnType := some .boolean }, accessFlags := 1, code := some k13c6 }
/-- java/util/ArrayList -/
def k13 : Class := { plain "java/util/ArrayList" (some 9) with
  accessFlags := 33
  interfaces := #[8, 10, 11, 12]
  cf := some (fileOf pool13 10 #[.nestMembers #[290, 276, 500, 502, 262, 267]] #[{ accessFlags := 1, nameIndex := 5, descriptorIndex := 6, attributes := #[] }, { accessFlags := 2, nameIndex := 71, descriptorIndex := 72, attributes := #[] }, { accessFlags := 2, nameIndex := 71, descriptorIndex := 47, attributes := #[] }, { accessFlags := 1, nameIndex := 363, descriptorIndex := 173, attributes := #[] }, { accessFlags := 1, nameIndex := 46, descriptorIndex := 47, attributes := #[] }, { accessFlags := 2, nameIndex := 133, descriptorIndex := 134, attributes := #[] }, { accessFlags := 1, nameIndex := 133, descriptorIndex := 96, attributes := #[] }] 33 2 #[148, 329, 331, 333] #[{ accessFlags := 26, nameIndex := 335, descriptorIndex := 336, attributes := #[] }, { accessFlags := 26, nameIndex := 340, descriptorIndex := 51, attributes := #[] }, { accessFlags := 26, nameIndex := 17, descriptorIndex := 14, attributes := #[] }, { accessFlags := 26, nameIndex := 41, descriptorIndex := 14, attributes := #[] }, { accessFlags := 128, nameIndex := 13, descriptorIndex := 14, attributes := #[] }, { accessFlags := 2, nameIndex := 50, descriptorIndex := 51, attributes := #[] }])
  fields := #[{ name := "serialVersionUID", type := .long, accessFlags := 26, slot := 0, constantValue := 0 }, { name := "DEFAULT_CAPACITY", type := .int, accessFlags := 26, slot := 1, constantValue := 0 }, { name := "EMPTY_ELEMENTDATA", type := (.array (.object "java/lang/Object")), accessFlags := 26, slot := 2, constantValue := 0 }, { name := "DEFAULTCAPACITY_EMPTY_ELEMENTDATA", type := (.array (.object "java/lang/Object")), accessFlags := 26, slot := 3, constantValue := 0 }, { name := "elementData", type := (.array (.object "java/lang/Object")), accessFlags := 128, slot := 1, constantValue := 0 }, { name := "size", type := .int, accessFlags := 2, slot := 2, constantValue := 0 }]
  methods := #[k13m0, k13m1, k13m2, k13m3, k13m4, k13m5, k13m6]
  instanceTypes := #[.int, (.array (.object "java/lang/Object")), .int]
  staticTypes := #[.long, .int, (.array (.object "java/lang/Object")), (.array (.object "java/lang/Object"))]
  resolved := Array.replicate 509 none
  statics := some 0 }

def pool14 : Array CpInfo := pool [(1, .class_ 2), (0, u "java/lang/Math"), (1, .class_ 6), (1, u "java/lang/Object"), (0, u "<init>"), (0, u "()V"), (89, .class_ 100), (1, u "java/lang/Math$RandomNumberGeneratorHolder"), (71, u "negativeZeroFloatBits"), (0, u "J"), (2, u "negativeZeroDoubleBits"), (21, u "max"), (2, u "min"), (43, u "$assertionsDisabled"), (0, u "Z"), (88, u "(II)I"), (2, u "twoToTheDoubleScaleDown"), (0, u "D"), (4, u "twoToTheDoubleScaleUp"), (9, u "E"), (3, u "PI"), (2, u "TAU"), (2, u "DEGREES_TO_RADIANS"), (0, u "RADIANS_TO_DEGREES")] 94

def k14m0 : Method := { name := "<init>", desc := "()V", sig := { parameters := [], returnType := none }, accessFlags := 2, code := none }
def k14c1 : Code := { maxStack := 2, maxLocals := 2, code := jdk_29_method_65_code, exceptionTable := #[], attributes := #[] }
def k14m1 : Method := { name := "max", desc := "(II)I", sig := { parameters := [.int, .int], returnType := some .int }, accessFlags := 9, code := some k14c1 }
def k14c2 : Code := { maxStack := 2, maxLocals := 2, code := jdk_29_method_69_code, exceptionTable := #[], attributes := #[] }
def k14m2 : Method := { name := "min", desc := "(II)I", sig := { parameters := [.int, .int], returnType := some .int }, accessFlags := 9, code := some k14c2 }
/-- java/lang/Math -/
def k14 : Class := { plain "java/lang/Math" (some 0) with
  accessFlags := 49
  interfaces := #[]
  cf := some (fileOf pool14 1 #[.nestMembers #[98]] #[{ accessFlags := 2, nameIndex := 7, descriptorIndex := 8, attributes := #[] }, { accessFlags := 9, nameIndex := 198, descriptorIndex := 335, attributes := #[] }, { accessFlags := 9, nameIndex := 201, descriptorIndex := 335, attributes := #[] }] 49 4 #[] #[{ accessFlags := 25, nameIndex := 354, descriptorIndex := 339, attributes := #[] }, { accessFlags := 25, nameIndex := 358, descriptorIndex := 339, attributes := #[] }, { accessFlags := 25, nameIndex := 361, descriptorIndex := 339, attributes := #[] }, { accessFlags := 26, nameIndex := 364, descriptorIndex := 339, attributes := #[] }, { accessFlags := 26, nameIndex := 365, descriptorIndex := 339, attributes := #[] }, { accessFlags := 26, nameIndex := 172, descriptorIndex := 173, attributes := #[] }, { accessFlags := 26, nameIndex := 176, descriptorIndex := 173, attributes := #[] }, { accessFlags := 8, nameIndex := 344, descriptorIndex := 339, attributes := #[] }, { accessFlags := 8, nameIndex := 338, descriptorIndex := 339, attributes := #[] }, { accessFlags := 4120, nameIndex := 245, descriptorIndex := 246, attributes := #[] }])
  fields := #[{ name := "E", type := .double, accessFlags := 25, slot := 0, constantValue := 0 }, { name := "PI", type := .double, accessFlags := 25, slot := 1, constantValue := 0 }, { name := "TAU", type := .double, accessFlags := 25, slot := 2, constantValue := 0 }, { name := "DEGREES_TO_RADIANS", type := .double, accessFlags := 26, slot := 3, constantValue := 0 }, { name := "RADIANS_TO_DEGREES", type := .double, accessFlags := 26, slot := 4, constantValue := 0 }, { name := "negativeZeroFloatBits", type := .long, accessFlags := 26, slot := 5, constantValue := 0 }, { name := "negativeZeroDoubleBits", type := .long, accessFlags := 26, slot := 6, constantValue := 0 }, { name := "twoToTheDoubleScaleUp", type := .double, accessFlags := 8, slot := 7, constantValue := 0 }, { name := "twoToTheDoubleScaleDown", type := .double, accessFlags := 8, slot := 8, constantValue := 0 }, { name := "$assertionsDisabled", type := .boolean, accessFlags := 4120, slot := 9, constantValue := 0 }]
  methods := #[k14m0, k14m1, k14m2]
  instanceTypes := #[]
  staticTypes := #[.double, .double, .double, .double, .double, .long, .long, .double, .double, .boolean]
  resolved := Array.replicate 460 none
  statics := none }

def pool15 : Array CpInfo := pool [(1, .methodref 2 3), (0, .class_ 4), (0, .nameAndType 5 6), (0, u "java/lang/Object"), (0, u "<init>"), (0, u "()V"), (0, .fieldref 8 9), (0, .class_ 10), (0, .nameAndType 11 12), (0, u "com/example/wattle/wattle/DayAheadPrices"), (0, u "source"), (0, u "Ljava/lang/String;"), (0, .interfaceMethodref 14 15), (0, .class_ 16), (0, .nameAndType 17 18), (0, u "java/util/List"), (0, u "copyOf"), (0, u "(Ljava/util/Collection;)Ljava/util/List;"), (0, .fieldref 8 20), (0, .nameAndType 21 22), (0, u "hours"), (0, u "Ljava/util/List;"), (0, .interfaceMethodref 14 24), (0, .nameAndType 25 26), (0, u "get"), (0, u "(I)Ljava/lang/Object;"), (0, .class_ 28), (0, u "com/example/wattle/wattle/HourlyPrice"), (6, u "first"), (0, u "()Lcom/example/wattle/wattle/HourlyPrice;"), (167, u "(Ljava/lang/String;Ljava/util/List;)V"), (0, u "SECONDS_PER_HOUR"), (0, u "J")] 68

def k15c0 : Code := { maxStack := 2, maxLocals := 3, code := prog_17_method_1_code, exceptionTable := #[], attributes := #[] }
def k15m0 : Method := { name := "<init>", desc := "(Ljava/lang/String;Ljava/util/List;)V", sig := { parameters := [(.object "java/lang/String"), (.object "java/util/List")], returnType := none }, accessFlags := 0, code := some k15c0 }
def k15c1 : Code := { maxStack := 2, maxLocals := 1, code := prog_17_method_4_code, exceptionTable := #[], attributes := #[] }
def k15m1 : Method := { name := "first", desc := "()Lcom/example/wattle/wattle/HourlyPrice;", sig := { parameters := [], returnType := some (.object "com/example/wattle/wattle/HourlyPrice") }, accessFlags := 1, code := some k15c1 }
/-- com/example/wattle/wattle/DayAheadPrices -/
def k15 : Class := { plain "com/example/wattle/wattle/DayAheadPrices" (some 0) with
  accessFlags := 33
  interfaces := #[]
  cf := some (fileOf pool15 8 #[] #[{ accessFlags := 0, nameIndex := 5, descriptorIndex := 204, attributes := #[] }, { accessFlags := 1, nameIndex := 35, descriptorIndex := 36, attributes := #[] }] 33 2 #[] #[{ accessFlags := 26, nameIndex := 205, descriptorIndex := 206, attributes := #[] }, { accessFlags := 18, nameIndex := 11, descriptorIndex := 12, attributes := #[] }, { accessFlags := 18, nameIndex := 21, descriptorIndex := 22, attributes := #[] }])
  fields := #[{ name := "SECONDS_PER_HOUR", type := .long, accessFlags := 26, slot := 0, constantValue := 0 }, { name := "source", type := (.object "java/lang/String"), accessFlags := 18, slot := 0, constantValue := 0 }, { name := "hours", type := (.object "java/util/List"), accessFlags := 18, slot := 1, constantValue := 0 }]
  methods := #[k15m0, k15m1]
  instanceTypes := #[(.object "java/lang/String"), (.object "java/util/List")]
  staticTypes := #[.long]
  resolved := Array.replicate 275 none
  statics := none }

def pool16 : Array CpInfo := pool [(1, .class_ 2), (0, u "java/lang/Comparable"), (0, .class_ 4), (0, u "java/lang/Object")] 7

/-- java/lang/Comparable -/
def k16 : Class := { plain "java/lang/Comparable" (some 0) with
  accessFlags := 1537
  interfaces := #[]
  cf := some (fileOf pool16 1 #[] #[] 1537 3 #[] #[])
  fields := #[]
  methods := #[]
  instanceTypes := #[]
  staticTypes := #[]
  resolved := Array.replicate 12 none
  statics := none }

def pool17 : Array CpInfo := pool [(2, .class_ 4), (1, u "java/lang/CharSequence"), (42, .class_ 48), (0, u "java/lang/CharSequence$1CodePointIterator"), (10, .class_ 60), (0, u "java/lang/CharSequence$1CharIterator"), (5, .class_ 67), (0, u "java/lang/Object")] 63

/-- java/lang/CharSequence -/
def k17 : Class := { plain "java/lang/CharSequence" (some 0) with
  accessFlags := 1537
  interfaces := #[]
  cf := some (fileOf pool17 2 #[.nestMembers #[47, 59]] #[] 1537 66 #[] #[])
  fields := #[]
  methods := #[]
  instanceTypes := #[]
  staticTypes := #[]
  resolved := Array.replicate 131 none
  statics := none }

def pool18 : Array CpInfo := pool [(1, .class_ 2), (0, u "java/lang/constant/Constable"), (0, .class_ 4), (0, u "java/lang/Object")] 6

/-- java/lang/constant/Constable -/
def k18 : Class := { plain "java/lang/constant/Constable" (some 0) with
  accessFlags := 1537
  interfaces := #[]
  cf := some (fileOf pool18 1 #[] #[] 1537 3 #[] #[])
  fields := #[]
  methods := #[]
  instanceTypes := #[]
  staticTypes := #[]
  resolved := Array.replicate 11 none
  statics := none }

def pool19 : Array CpInfo := pool [(1, .class_ 2), (0, u "java/lang/constant/ConstantDesc"), (0, .class_ 4), (0, u "java/lang/Object")] 32

/-- java/lang/constant/ConstantDesc -/
def k19 : Class := { plain "java/lang/constant/ConstantDesc" (some 0) with
  accessFlags := 1537
  interfaces := #[]
  cf := some (fileOf pool19 1 #[] #[] 1537 3 #[] #[])
  fields := #[]
  methods := #[]
  instanceTypes := #[]
  staticTypes := #[]
  resolved := Array.replicate 37 none
  statics := none }

def pool20 : Array CpInfo := pool [(2, .class_ 4), (1, u "java/lang/Object"), (0, u "<init>"), (0, u "()V"), (3, .class_ 12), (1, u "java/lang/String"), (0, u "value"), (0, u "[B"), (2, u "coder"), (0, u "B"), (2, u "hash"), (0, u "I"), (2, u "hashIsZero"), (0, u "Z"), (13, u "COMPACT_STRINGS"), (534, .class_ 576), (0, u "java/lang/CharSequence"), (22, u "CASE_INSENSITIVE_ORDER"), (0, u "Ljava/util/Comparator;"), (500, u "serialPersistentFields"), (0, u "[Ljava/io/ObjectStreamField;"), (0, .class_ 1104), (0, u "java/lang/String$CaseInsensitiveComparator"), (1, .class_ 1107), (0, u "java/io/Serializable"), (0, .class_ 1109), (0, u "java/lang/Comparable"), (0, .class_ 1111), (0, u "java/lang/constant/Constable"), (0, .class_ 1113), (0, u "java/lang/constant/ConstantDesc"), (2, u "serialVersionUID"), (0, u "J"), (3, u "REPL"), (0, u "C"), (2, u "LATIN1"), (1, u "UTF16")] 323

def k20m0 : Method := { name := "<init>", desc := "()V", sig := { parameters := [], returnType := none }, accessFlags := 1, code := none }
/-- java/lang/String -/
def k20 : Class := { plain "java/lang/String" (some 0) with
  accessFlags := 49
  interfaces := #[12, 16, 17, 18, 19]
  cf := some (fileOf pool20 10 #[.nestMembers #[1103]] #[{ accessFlags := 1, nameIndex := 5, descriptorIndex := 6, attributes := #[] }] 49 2 #[1106, 1108, 575, 1110, 1112] #[{ accessFlags := 18, nameIndex := 13, descriptorIndex := 14, attributes := #[] }, { accessFlags := 18, nameIndex := 17, descriptorIndex := 18, attributes := #[] }, { accessFlags := 2, nameIndex := 21, descriptorIndex := 22, attributes := #[] }, { accessFlags := 2, nameIndex := 25, descriptorIndex := 26, attributes := #[] }, { accessFlags := 26, nameIndex := 1116, descriptorIndex := 1117, attributes := #[] }, { accessFlags := 24, nameIndex := 40, descriptorIndex := 26, attributes := #[] }, { accessFlags := 26, nameIndex := 1101, descriptorIndex := 1102, attributes := #[] }, { accessFlags := 26, nameIndex := 1121, descriptorIndex := 1122, attributes := #[] }, { accessFlags := 25, nameIndex := 599, descriptorIndex := 600, attributes := #[] }, { accessFlags := 24, nameIndex := 1125, descriptorIndex := 18, attributes := #[] }, { accessFlags := 24, nameIndex := 1127, descriptorIndex := 18, attributes := #[] }])
  fields := #[{ name := "value", type := (.array .byte), accessFlags := 18, slot := 0, constantValue := 0 }, { name := "coder", type := .byte, accessFlags := 18, slot := 1, constantValue := 0 }, { name := "hash", type := .int, accessFlags := 2, slot := 2, constantValue := 0 }, { name := "hashIsZero", type := .boolean, accessFlags := 2, slot := 3, constantValue := 0 }, { name := "serialVersionUID", type := .long, accessFlags := 26, slot := 0, constantValue := 0 }, { name := "COMPACT_STRINGS", type := .boolean, accessFlags := 24, slot := 1, constantValue := 0 }, { name := "serialPersistentFields", type := (.array (.object "java/io/ObjectStreamField")), accessFlags := 26, slot := 2, constantValue := 0 }, { name := "REPL", type := .char, accessFlags := 26, slot := 3, constantValue := 0 }, { name := "CASE_INSENSITIVE_ORDER", type := (.object "java/util/Comparator"), accessFlags := 25, slot := 4, constantValue := 0 }, { name := "LATIN1", type := .byte, accessFlags := 24, slot := 5, constantValue := 0 }, { name := "UTF16", type := .byte, accessFlags := 24, slot := 6, constantValue := 0 }]
  methods := #[k20m0]
  instanceTypes := #[(.array .byte), .byte, .int, .boolean]
  staticTypes := #[.long, .boolean, (.array (.object "java/io/ObjectStreamField")), .char, (.object "java/util/Comparator"), .byte, .byte]
  resolved := Array.replicate 1451 none
  statics := none }

def pool21 : Array CpInfo := pool [(2, .class_ 4), (1, u "java/lang/Object"), (0, u "<init>"), (0, u "()V"), (3, .class_ 11), (0, u "java/util/ImmutableCollections$List12"), (0, .class_ 13), (0, u "java/util/ImmutableCollections$ListN"), (3, u "Z"), (0, .class_ 19), (0, u "java/util/List"), (0, .interfaceMethodref 21 22), (0, .class_ 23), (0, .nameAndType 24 25), (0, u "java/util/Collection"), (0, u "isEmpty"), (0, u "()Z"), (2, u "of"), (1, .interfaceMethodref 21 31), (0, .nameAndType 32 33), (0, u "toArray"), (0, u "()[Ljava/lang/Object;"), (0, .interfaceMethodref 18 35), (0, .nameAndType 28 36), (0, u "([Ljava/lang/Object;)Ljava/util/List;"), (0, .methodref 38 39), (0, .class_ 40), (0, .nameAndType 41 42), (0, u "java/util/Objects"), (0, u "requireNonNull"), (0, u "(Ljava/lang/Object;)Ljava/lang/Object;"), (0, .methodref 12 44), (0, .nameAndType 5 45), (0, u "([Ljava/lang/Object;Z)V"), (1, .class_ 49), (1, u "java/util/ImmutableCollections"), (0, u "$assertionsDisabled"), (5, u "[Ljava/lang/Object;"), (5, u "EMPTY_LIST"), (0, u "Ljava/util/ImmutableCollections$ListN;"), (8, u "EMPTY_LIST_NULLS"), (22, u "SALT32L"), (0, u "J"), (2, u "REVERSE"), (6, u "archivedObjects"), (2, u "EMPTY"), (0, u "Ljava/lang/Object;"), (0, .class_ 112), (0, u "java/util/ImmutableCollections$SetN"), (5, u "EMPTY_SET"), (0, u "Ljava/util/ImmutableCollections$SetN;"), (0, .class_ 121), (0, u "java/util/ImmutableCollections$MapN"), (3, u "EMPTY_MAP"), (0, u "Ljava/util/ImmutableCollections$MapN;"), (4, u "EXPAND_FACTOR"), (0, u "I"), (9, u "listCopy"), (0, u "(Ljava/util/Collection;)Ljava/util/List;"), (7, u "listFromArray"), (17, .class_ 170), (0, u "java/util/ImmutableCollections$MapN$MapNIterator"), (0, .class_ 172), (0, u "java/util/ImmutableCollections$MapN$1"), (0, .class_ 174), (0, u "java/util/ImmutableCollections$Map1"), (0, .class_ 176), (0, u "java/util/ImmutableCollections$AbstractImmutableMap"), (0, .class_ 178), (0, u "java/util/ImmutableCollections$SetN$SetNIterator"), (0, .class_ 180), (0, u "java/util/ImmutableCollections$Set12"), (0, .class_ 182), (0, u "java/util/ImmutableCollections$Set12$1"), (0, .class_ 184), (0, u "java/util/ImmutableCollections$AbstractImmutableSet"), (0, .class_ 186), (0, u "java/util/ImmutableCollections$SubList"), (0, .class_ 188), (0, u "java/util/ImmutableCollections$ListItr"), (0, .class_ 190), (0, u "java/util/ImmutableCollections$AbstractImmutableList"), (0, .class_ 192), (0, u "java/util/ImmutableCollections$AbstractImmutableCollection"), (0, .class_ 194), (0, u "java/util/ImmutableCollections$Access"), (0, .class_ 196), (0, u "java/util/ImmutableCollections$Access$1")] 16

def k21m0 : Method := { name := "<init>", desc := "()V", sig := { parameters := [], returnType := none }, accessFlags := 2, code := none }
def k21c1 : Code := { maxStack := 1, maxLocals := 2, code := jdk_56_method_3_code, exceptionTable := #[], attributes := #[] }
def k21m1 : Method := { name := "listCopy", desc := "(Ljava/util/Collection;)Ljava/util/List;", sig := { parameters := [(.object "java/util/Collection")], returnType := some (.object "java/util/List") }, accessFlags := 8, code := some k21c1 }
def k21c2 : Code := { maxStack := 4, maxLocals := 3, code := jdk_56_method_4_code, exceptionTable := #[], attributes := #[] }
def k21m2 : Method := { name := "listFromArray", desc := "([Ljava/lang/Object;)Ljava/util/List;", sig := { parameters := [(.array (.object "java/lang/Object"))], returnType := some (.object "java/util/List") }, accessFlags := 136, code := some k21c2 }
/-- java/util/ImmutableCollections -/
def k21 : Class := { plain "java/util/ImmutableCollections" (some 0) with
  accessFlags := 32
  interfaces := #[]
  cf := some (fileOf pool21 47 #[.nestMembers #[120, 169, 171, 173, 175, 111, 177, 179, 181, 183, 12, 10, 185, 187, 189, 191, 193, 195]] #[{ accessFlags := 2, nameIndex := 5, descriptorIndex := 6, attributes := #[] }, { accessFlags := 8, nameIndex := 142, descriptorIndex := 143, attributes := #[] }, { accessFlags := 136, nameIndex := 151, descriptorIndex := 36, attributes := #[] }] 32 2 #[] #[{ accessFlags := 26, nameIndex := 95, descriptorIndex := 96, attributes := #[] }, { accessFlags := 26, nameIndex := 99, descriptorIndex := 17, attributes := #[] }, { accessFlags := 10, nameIndex := 106, descriptorIndex := 56, attributes := #[] }, { accessFlags := 26, nameIndex := 109, descriptorIndex := 110, attributes := #[] }, { accessFlags := 24, nameIndex := 62, descriptorIndex := 63, attributes := #[] }, { accessFlags := 24, nameIndex := 72, descriptorIndex := 63, attributes := #[] }, { accessFlags := 24, nameIndex := 118, descriptorIndex := 119, attributes := #[] }, { accessFlags := 24, nameIndex := 125, descriptorIndex := 126, attributes := #[] }, { accessFlags := 24, nameIndex := 131, descriptorIndex := 132, attributes := #[] }, { accessFlags := 4120, nameIndex := 50, descriptorIndex := 17, attributes := #[] }])
  fields := #[{ name := "SALT32L", type := .long, accessFlags := 26, slot := 0, constantValue := 0 }, { name := "REVERSE", type := .boolean, accessFlags := 26, slot := 1, constantValue := 0 }, { name := "archivedObjects", type := (.array (.object "java/lang/Object")), accessFlags := 10, slot := 2, constantValue := 0 }, { name := "EMPTY", type := (.object "java/lang/Object"), accessFlags := 26, slot := 3, constantValue := 0 }, { name := "EMPTY_LIST", type := (.object "java/util/ImmutableCollections$ListN"), accessFlags := 24, slot := 4, constantValue := 0 }, { name := "EMPTY_LIST_NULLS", type := (.object "java/util/ImmutableCollections$ListN"), accessFlags := 24, slot := 5, constantValue := 0 }, { name := "EMPTY_SET", type := (.object "java/util/ImmutableCollections$SetN"), accessFlags := 24, slot := 6, constantValue := 0 }, { name := "EMPTY_MAP", type := (.object "java/util/ImmutableCollections$MapN"), accessFlags := 24, slot := 7, constantValue := 0 }, { name := "EXPAND_FACTOR", type := .int, accessFlags := 24, slot := 8, constantValue := 0 }, { name := "$assertionsDisabled", type := .boolean, accessFlags := 4120, slot := 9, constantValue := 0 }]
  methods := #[k21m0, k21m1, k21m2]
  instanceTypes := #[]
  staticTypes := #[.long, .boolean, (.array (.object "java/lang/Object")), (.object "java/lang/Object"), (.object "java/util/ImmutableCollections$ListN"), (.object "java/util/ImmutableCollections$ListN"), (.object "java/util/ImmutableCollections$SetN"), (.object "java/util/ImmutableCollections$MapN"), .int, .boolean]
  resolved := Array.replicate 213 none
  statics := some 1 }

def pool22 : Array CpInfo := pool [(1, .methodref 2 3), (0, .class_ 4), (0, .nameAndType 5 6), (0, u "java/util/AbstractCollection"), (0, u "<init>"), (0, u "()V"), (1, .class_ 10), (1, u "java/util/ImmutableCollections"), (2, .class_ 14), (0, u "java/util/ImmutableCollections$AbstractImmutableCollection")] 41

def k22c0 : Code := { maxStack := 1, maxLocals := 1, code := jdk_47_method_1_code, exceptionTable := #[], attributes := #[] }
def k22m0 : Method := { name := "<init>", desc := "()V", sig := { parameters := [], returnType := none }, accessFlags := 0, code := some k22c0 }
/-- java/util/ImmutableCollections$AbstractImmutableCollection -/
def k22 : Class := { plain "java/util/ImmutableCollections$AbstractImmutableCollection" (some 6) with
  accessFlags := 1056
  interfaces := #[]
  cf := some (fileOf pool22 13 #[.nestHost 8] #[{ accessFlags := 0, nameIndex := 5, descriptorIndex := 6, attributes := #[] }] 1056 2 #[] #[])
  fields := #[]
  methods := #[k22m0]
  instanceTypes := #[]
  staticTypes := #[]
  resolved := Array.replicate 56 none
  statics := none }

def pool23 : Array CpInfo := pool [(1, .methodref 2 3), (0, .class_ 4), (0, .nameAndType 5 6), (0, u "java/util/ImmutableCollections$AbstractImmutableCollection"), (0, u "<init>"), (0, u "()V"), (1, .class_ 10), (1, u "java/util/ImmutableCollections"), (3, .class_ 16), (1, u "java/util/ImmutableCollections$AbstractImmutableList"), (60, .class_ 78), (0, u "java/util/List"), (45, .class_ 125), (0, u "java/util/RandomAccess")] 70

def k23c0 : Code := { maxStack := 1, maxLocals := 1, code := jdk_46_method_1_code, exceptionTable := #[], attributes := #[] }
def k23m0 : Method := { name := "<init>", desc := "()V", sig := { parameters := [], returnType := none }, accessFlags := 0, code := some k23c0 }
/-- java/util/ImmutableCollections$AbstractImmutableList -/
def k23 : Class := { plain "java/util/ImmutableCollections$AbstractImmutableList" (some 22) with
  accessFlags := 1056
  interfaces := #[8, 10]
  cf := some (fileOf pool23 14 #[.nestHost 8] #[{ accessFlags := 0, nameIndex := 5, descriptorIndex := 6, attributes := #[] }] 1056 2 #[77, 124] #[])
  fields := #[]
  methods := #[k23m0]
  instanceTypes := #[]
  staticTypes := #[]
  resolved := Array.replicate 196 none
  statics := none }

def pool24 : Array CpInfo := pool [(1, .methodref 2 3), (0, .class_ 4), (0, .nameAndType 5 6), (0, u "java/util/ImmutableCollections$AbstractImmutableList"), (0, u "<init>"), (0, u "()V"), (0, .methodref 8 9), (0, .class_ 10), (0, .nameAndType 11 12), (0, u "java/util/Objects"), (0, u "requireNonNull"), (0, u "(Ljava/lang/Object;)Ljava/lang/Object;"), (0, .fieldref 14 15), (0, .class_ 16), (0, .nameAndType 17 18), (0, u "java/util/ImmutableCollections$List12"), (0, u "e0"), (0, u "Ljava/lang/Object;"), (0, .fieldref 20 21), (0, .class_ 22), (0, .nameAndType 23 18), (0, u "java/util/ImmutableCollections"), (0, u "EMPTY"), (0, .fieldref 14 25), (0, .nameAndType 26 18), (0, u "e1"), (43, .class_ 71), (0, u "java/io/Serializable"), (4, u "(Ljava/lang/Object;)V"), (8, u "(Ljava/lang/Object;Ljava/lang/Object;)V"), (4, u "get"), (0, u "(I)Ljava/lang/Object;")] 33

def k24c0 : Code := { maxStack := 2, maxLocals := 2, code := jdk_44_method_1_code, exceptionTable := #[], attributes := #[] }
def k24m0 : Method := { name := "<init>", desc := "(Ljava/lang/Object;)V", sig := { parameters := [(.object "java/lang/Object")], returnType := none }, accessFlags := 0, code := some k24c0 }
def k24c1 : Code := { maxStack := 2, maxLocals := 3, code := jdk_44_method_2_code, exceptionTable := #[], attributes := #[] }
def k24m1 : Method := { name := "<init>", desc := "(Ljava/lang/Object;Ljava/lang/Object;)V", sig := { parameters := [(.object "java/lang/Object"), (.object "java/lang/Object")], returnType := none }, accessFlags := 0, code := some k24c1 }
def k24c2 : Code := { maxStack := 2, maxLocals := 2, code := jdk_44_method_5_code, exceptionTable := #[], attributes := #[] }
def k24m2 : Method := { name := "get", desc := "(I)Ljava/lang/Object;", sig := { parameters := [.int], returnType := some (.object "java/lang/Object") }, accessFlags := 1, code := some k24c2 }
/-- java/util/ImmutableCollections$List12 -/
def k24 : Class := { plain "java/util/ImmutableCollections$List12" (some 23) with
  accessFlags := 48
  interfaces := #[12]
  cf := some (fileOf pool24 14 #[.nestHost 20] #[{ accessFlags := 0, nameIndex := 5, descriptorIndex := 76, attributes := #[] }, { accessFlags := 0, nameIndex := 5, descriptorIndex := 85, attributes := #[] }, { accessFlags := 1, nameIndex := 90, descriptorIndex := 91, attributes := #[] }] 48 2 #[70] #[{ accessFlags := 18, nameIndex := 17, descriptorIndex := 18, attributes := #[] }, { accessFlags := 18, nameIndex := 26, descriptorIndex := 18, attributes := #[] }])
  fields := #[{ name := "e0", type := (.object "java/lang/Object"), accessFlags := 18, slot := 0, constantValue := 0 }, { name := "e1", type := (.object "java/lang/Object"), accessFlags := 18, slot := 1, constantValue := 0 }]
  methods := #[k24m0, k24m1, k24m2]
  instanceTypes := #[(.object "java/lang/Object"), (.object "java/lang/Object")]
  staticTypes := #[]
  resolved := Array.replicate 125 none
  statics := none }

def pool25 : Array CpInfo := pool [(1, .methodref 2 3), (0, .class_ 4), (0, .nameAndType 5 6), (0, u "java/util/ImmutableCollections$AbstractImmutableList"), (0, u "<init>"), (0, u "()V"), (0, .fieldref 8 9), (0, .class_ 10), (0, .nameAndType 11 12), (0, u "java/util/ImmutableCollections$ListN"), (0, u "elements"), (0, u "[Ljava/lang/Object;"), (0, .fieldref 8 14), (0, .nameAndType 15 16), (0, u "allowNulls"), (0, u "Z"), (42, .class_ 60), (0, u "java/io/Serializable"), (4, u "([Ljava/lang/Object;Z)V"), (13, u "get"), (0, u "(I)Ljava/lang/Object;"), (33, .class_ 115), (0, u "java/util/ImmutableCollections")] 3

def k25c0 : Code := { maxStack := 2, maxLocals := 3, code := jdk_45_method_1_code, exceptionTable := #[], attributes := #[] }
def k25m0 : Method := { name := "<init>", desc := "([Ljava/lang/Object;Z)V", sig := { parameters := [(.array (.object "java/lang/Object")), .boolean], returnType := none }, accessFlags := 2, code := some k25c0 }
def k25c1 : Code := { maxStack := 2, maxLocals := 2, code := jdk_45_method_4_code, exceptionTable := #[], attributes := #[] }
def k25m1 : Method := { name := "get", desc := "(I)Ljava/lang/Object;", sig := { parameters := [.int], returnType := some (.object "java/lang/Object") }, accessFlags := 1, code := some k25c1 }
/-- java/util/ImmutableCollections$ListN -/
def k25 : Class := { plain "java/util/ImmutableCollections$ListN" (some 23) with
  accessFlags := 48
  interfaces := #[12]
  cf := some (fileOf pool25 8 #[.nestHost 114] #[{ accessFlags := 2, nameIndex := 5, descriptorIndex := 65, attributes := #[] }, { accessFlags := 1, nameIndex := 79, descriptorIndex := 80, attributes := #[] }] 48 2 #[59] #[{ accessFlags := 18, nameIndex := 11, descriptorIndex := 12, attributes := #[] }, { accessFlags := 18, nameIndex := 15, descriptorIndex := 16, attributes := #[] }])
  fields := #[{ name := "elements", type := (.array (.object "java/lang/Object")), accessFlags := 18, slot := 0, constantValue := 0 }, { name := "allowNulls", type := .boolean, accessFlags := 18, slot := 1, constantValue := 0 }]
  methods := #[k25m0, k25m1]
  instanceTypes := #[(.array (.object "java/lang/Object")), .boolean]
  staticTypes := #[]
  resolved := Array.replicate 119 none
  statics := none }

def pool26 : Array CpInfo := pool [(2, .class_ 4), (1, u "java/lang/Object"), (0, u "<init>"), (0, u "()V"), (7, .class_ 16), (1, u "java/util/Arrays"), (57, .class_ 76), (1, u "java/util/Arrays$NaturalOrder"), (9, .methodref 2 87), (0, .nameAndType 88 89), (0, u "getClass"), (0, u "()Ljava/lang/Class;"), (20, .class_ 111), (0, u "[Ljava/lang/Object;"), (1, .class_ 115), (1, u "java/util/Arrays$LegacyMergeSort"), (1, u "Z"), (32, .methodref 151 152), (0, .class_ 153), (0, .nameAndType 154 155), (0, u "java/lang/System"), (0, u "arraycopy"), (0, u "(Ljava/lang/Object;ILjava/lang/Object;II)V"), (144, .methodref 14 301), (0, .nameAndType 302 303), (0, u "copyOf"), (0, u "([Ljava/lang/Object;ILjava/lang/Class;)[Ljava/lang/Object;"), (0, .methodref 305 306), (0, .class_ 307), (0, .nameAndType 308 309), (0, u "java/lang/Math"), (0, u "min"), (0, u "(II)I"), (65, .class_ 376), (0, u "java/util/Arrays$ArrayList"), (68, u "$assertionsDisabled"), (269, u "MIN_ARRAY_SORT_GRAN"), (0, u "I"), (2, u "INSERTIONSORT_THRESHOLD"), (140, u "([Ljava/lang/Object;I)[Ljava/lang/Object;"), (114, .class_ 976), (0, u "java/util/Arrays$ArrayItr")] 52

def k26m0 : Method := { name := "<init>", desc := "()V", sig := { parameters := [], returnType := none }, accessFlags := 2, code := none }
def k26c1 : Code := { maxStack := 3, maxLocals := 2, code := jdk_65_method_119_code, exceptionTable := #[], attributes := #[] }
def k26m1 : Method := { name := "copyOf", desc := "([Ljava/lang/Object;I)[Ljava/lang/Object;", sig := { parameters := [(.array (.object "java/lang/Object")), .int], returnType := some (.array (.object "java/lang/Object")) }, accessFlags := 9, code := some k26c1 }
def k26c2 : Code := { maxStack := 6, maxLocals := 4, code := jdk_65_method_120_code, exceptionTable := #[], attributes := #[] }
def k26m2 : Method := { name := "copyOf", desc := "([Ljava/lang/Object;ILjava/lang/Class;)[Ljava/lang/Object;", sig := { parameters := [(.array (.object "java/lang/Object")), .int, (.object "java/lang/Class")], returnType := some (.array (.object "java/lang/Object")) }, accessFlags := 9, code := some k26c2 }
/-- java/util/Arrays -/
def k26 : Class := { plain "java/util/Arrays" (some 0) with
  accessFlags := 49
  interfaces := #[]
  cf := some (fileOf pool26 14 #[.nestMembers #[975, 375, 113, 74]] #[{ accessFlags := 2, nameIndex := 5, descriptorIndex := 6, attributes := #[] }, { accessFlags := 9, nameIndex := 302, descriptorIndex := 860, attributes := #[] }, { accessFlags := 9, nameIndex := 302, descriptorIndex := 303, attributes := #[] }] 49 2 #[] #[{ accessFlags := 26, nameIndex := 715, descriptorIndex := 716, attributes := #[] }, { accessFlags := 26, nameIndex := 719, descriptorIndex := 716, attributes := #[] }, { accessFlags := 4120, nameIndex := 445, descriptorIndex := 117, attributes := #[] }])
  fields := #[{ name := "MIN_ARRAY_SORT_GRAN", type := .int, accessFlags := 26, slot := 0, constantValue := 0 }, { name := "INSERTIONSORT_THRESHOLD", type := .int, accessFlags := 26, slot := 1, constantValue := 0 }, { name := "$assertionsDisabled", type := .boolean, accessFlags := 4120, slot := 2, constantValue := 0 }]
  methods := #[k26m0, k26m1, k26m2]
  instanceTypes := #[]
  staticTypes := #[.int, .int, .boolean]
  resolved := Array.replicate 1029 none
  statics := none }

def pool27 : Array CpInfo := pool [(2, .class_ 4), (1, u "java/lang/Object"), (0, u "<init>"), (0, u "()V"), (1, .class_ 10), (1, u "java/lang/System"), (0, u "allowSecurityManager"), (0, u "I"), (16, u "cons"), (0, u "Ljava/io/Console;"), (77, .class_ 110), (1, u "java/lang/System$CallersHolder"), (43, u "initialErrStream"), (0, u "Ljava/io/PrintStream;"), (19, u "security"), (0, u "Ljava/lang/SecurityManager;"), (31, .class_ 209), (0, u "java/lang/System$1"), (7, u "props"), (0, u "Ljava/util/Properties;"), (2, u "lineSeparator"), (0, u "Ljava/lang/String;"), (96, .class_ 321), (1, u "java/lang/System$LoggerFinder"), (5, .class_ 328), (0, u "java/lang/System$Logger"), (67, u "err"), (2, u "out"), (91, u "notSupportedJnuEncoding"), (15, u "in"), (17, u "initialIn"), (0, u "Ljava/io/InputStream;"), (35, u "bootLayer"), (0, u "Ljava/lang/ModuleLayer;"), (99, .class_ 664), (0, u "java/lang/System$2"), (9, u "NEVER"), (2, u "MAYBE"), (49, u "arraycopy"), (0, u "(Ljava/lang/Object;ILjava/lang/Object;II)V"), (72, .class_ 802), (0, u "java/lang/System$Logger$Level")] 31

def k27m0 : Method := { name := "<init>", desc := "()V", sig := { parameters := [], returnType := none }, accessFlags := 2, code := none }
def k27m1 : Method := { name := "arraycopy", desc := "(Ljava/lang/Object;ILjava/lang/Object;II)V", sig := { parameters := [(.object "java/lang/Object"), .int, (.object "java/lang/Object"), .int, .int], returnType := none }, accessFlags := 265, code := none }
/-- java/lang/System -/
def k27 : Class := { plain "java/lang/System" (some 0) with
  accessFlags := 49
  interfaces := #[]
  cf := some (fileOf pool27 8 #[.nestMembers #[319, 327, 801, 108, 663, 208]] #[{ accessFlags := 2, nameIndex := 5, descriptorIndex := 6, attributes := #[] }, { accessFlags := 265, nameIndex := 727, descriptorIndex := 728, attributes := #[] }] 49 2 #[] #[{ accessFlags := 25, nameIndex := 507, descriptorIndex := 526, attributes := #[] }, { accessFlags := 25, nameIndex := 399, descriptorIndex := 155, attributes := #[] }, { accessFlags := 25, nameIndex := 396, descriptorIndex := 155, attributes := #[] }, { accessFlags := 10, nameIndex := 525, descriptorIndex := 526, attributes := #[] }, { accessFlags := 26, nameIndex := 674, descriptorIndex := 12, attributes := #[] }, { accessFlags := 26, nameIndex := 677, descriptorIndex := 12, attributes := #[] }, { accessFlags := 10, nameIndex := 11, descriptorIndex := 12, attributes := #[] }, { accessFlags := 74, nameIndex := 175, descriptorIndex := 176, attributes := #[] }, { accessFlags := 10, nameIndex := 491, descriptorIndex := 222, attributes := #[] }, { accessFlags := 74, nameIndex := 29, descriptorIndex := 30, attributes := #[] }, { accessFlags := 74, nameIndex := 154, descriptorIndex := 155, attributes := #[] }, { accessFlags := 10, nameIndex := 217, descriptorIndex := 218, attributes := #[] }, { accessFlags := 10, nameIndex := 221, descriptorIndex := 222, attributes := #[] }, { accessFlags := 8, nameIndex := 562, descriptorIndex := 563, attributes := #[] }])
  fields := #[{ name := "in", type := (.object "java/io/InputStream"), accessFlags := 25, slot := 0, constantValue := 0 }, { name := "out", type := (.object "java/io/PrintStream"), accessFlags := 25, slot := 1, constantValue := 0 }, { name := "err", type := (.object "java/io/PrintStream"), accessFlags := 25, slot := 2, constantValue := 0 }, { name := "initialIn", type := (.object "java/io/InputStream"), accessFlags := 10, slot := 3, constantValue := 0 }, { name := "NEVER", type := .int, accessFlags := 26, slot := 4, constantValue := 0 }, { name := "MAYBE", type := .int, accessFlags := 26, slot := 5, constantValue := 0 }, { name := "allowSecurityManager", type := .int, accessFlags := 10, slot := 6, constantValue := 0 }, { name := "security", type := (.object "java/lang/SecurityManager"), accessFlags := 74, slot := 7, constantValue := 0 }, { name := "notSupportedJnuEncoding", type := (.object "java/lang/String"), accessFlags := 10, slot := 8, constantValue := 0 }, { name := "cons", type := (.object "java/io/Console"), accessFlags := 74, slot := 9, constantValue := 0 }, { name := "initialErrStream", type := (.object "java/io/PrintStream"), accessFlags := 74, slot := 10, constantValue := 0 }, { name := "props", type := (.object "java/util/Properties"), accessFlags := 10, slot := 11, constantValue := 0 }, { name := "lineSeparator", type := (.object "java/lang/String"), accessFlags := 10, slot := 12, constantValue := 0 }, { name := "bootLayer", type := (.object "java/lang/ModuleLayer"), accessFlags := 8, slot := 13, constantValue := 0 }]
  methods := #[k27m0, k27m1]
  instanceTypes := #[]
  staticTypes := #[(.object "java/io/InputStream"), (.object "java/io/PrintStream"), (.object "java/io/PrintStream"), (.object "java/io/InputStream"), .int, .int, .int, (.object "java/lang/SecurityManager"), (.object "java/lang/String"), (.object "java/io/Console"), (.object "java/io/PrintStream"), (.object "java/util/Properties"), (.object "java/lang/String"), (.object "java/lang/ModuleLayer")]
  resolved := Array.replicate 834 none
  statics := none }

def pool28 : Array CpInfo := pool [(2, .class_ 4), (1, u "java/lang/Object"), (0, u "<init>"), (0, u "()V"), (35, .class_ 44), (1, u "java/util/Objects"), (0, u "requireNonNull"), (0, u "(Ljava/lang/Object;)Ljava/lang/Object;")] 137

def k28m0 : Method := { name := "<init>", desc := "()V", sig := { parameters := [], returnType := none }, accessFlags := 2, code := none }
def k28c1 : Code := { maxStack := 2, maxLocals := 1, code := jdk_31_method_10_code, exceptionTable := #[], attributes := #[] }
def k28m1 : Method := { name := "requireNonNull", desc := "(Ljava/lang/Object;)Ljava/lang/Object;", sig := { parameters := [(.object "java/lang/Object")], returnType := some (.object "java/lang/Object") }, accessFlags := 9, code := some k28c1 }
/-- java/util/Objects -/
def k28 : Class := { plain "java/util/Objects" (some 0) with
  accessFlags := 49
  interfaces := #[]
  cf := some (fileOf pool28 42 #[] #[{ accessFlags := 2, nameIndex := 5, descriptorIndex := 6, attributes := #[] }, { accessFlags := 9, nameIndex := 45, descriptorIndex := 46, attributes := #[] }] 49 2 #[] #[])
  fields := #[]
  methods := #[k28m0, k28m1]
  instanceTypes := #[]
  staticTypes := #[]
  resolved := Array.replicate 184 none
  statics := none }

def pool29 : Array CpInfo := pool [(1, u "java/lang/Class"), (0, .class_ 1), (0, u "java/lang/Object"), (0, .class_ 3)] 3

/-- java/lang/Class -/
def k29 : Class := { plain "java/lang/Class" (some 0) with
  accessFlags := 49
  interfaces := #[]
  cf := some (fileOf pool29 2 #[] #[] 49 4 #[] #[])
  fields := #[]
  methods := #[]
  instanceTypes := #[]
  staticTypes := #[]
  resolved := Array.replicate 8 none
  statics := none }

/-- the primitive byte -/
def k30 : Class := { plain "byte" none with kind := .primitive 'B', accessFlags := 0x411 }
/-- [B -/
def k31 : Class := { plain "[B" (some 0) with kind := .array 30 .byte, interfaces := #[11, 12], accessFlags := 1041 }

/-- the primitive int -/
def k32 : Class := { plain "int" none with kind := .primitive 'I', accessFlags := 0x411 }
/-- [I -/
def k33 : Class := { plain "[I" (some 0) with kind := .array 32 .int, interfaces := #[11, 12], accessFlags := 1041 }

/-- [Lcom/example/wattle/wattle/HourlyPrice; -/
def k34 : Class := { plain "[Lcom/example/wattle/wattle/HourlyPrice;" (some 0) with kind := .array 3 (.object "com/example/wattle/wattle/HourlyPrice"), interfaces := #[11, 12], accessFlags := 1041 }

/-- [Ljava/lang/Object; -/
def k35 : Class := { plain "[Ljava/lang/Object;" (some 0) with kind := .array 0 (.object "java/lang/Object"), interfaces := #[11, 12], accessFlags := 1041, mirror := some 2 }

def heap : Heap := #[{ cls := 13, slots := #[.long 0, .int 0, .ref 3, .ref 4], vm := .statics 13 },
  { cls := 21, slots := #[.long 0, .int 0, .null, .ref 5, .ref 6, .null, .null, .null, .int 0, .int 1], vm := .statics 21 },
  { cls := 29, slots := #[], vm := .mirror 35 },
  { cls := 35, slots := #[], vm := .none },
  { cls := 35, slots := #[], vm := .none },
  { cls := 0, slots := #[], vm := .none },
  { cls := 25, slots := #[.null, .int 0], vm := .none }]
def classes : Array Class := #[k0, k1, k2, k3, k4, k5, k6, k7, k8, k9, k10, k11, k12, k13, k14, k15, k16, k17, k18, k19, k20, k21, k22, k23, k24, k25, k26, k27, k28, k29, k30, k31, k32, k33, k34, k35]
def interned : List (Array UInt16 × Addr) := []
def slotsUsed : Nat := 16
def theMethod : MethodId := ⟨1, 1⟩
def args0 : Array Value := #[.int 5, .int 5]
def aboutOver (below : List Frame) : State where
  vm := { classes := classes, interned := interned.toArray }
  heap := heap
  slotsUsed := slotsUsed
  threads := #[{ frames := .invoking theMethod args0 :: below }]
def below0 : List Frame := [.native { method := ⟨0, 0⟩, args := #[] }]
def about1 : State := aboutOver below0
def p0 : Program := .bare "" "" ""
def e0 : Env := launch0.env 0 0 0
theorem w_frames : about1.frames = Frame.invoking theMethod args0 :: below0 := rfl
set_option maxRecDepth 65536 in
theorem w_args : argsFit about1.vm theMethod args0 = true := by decide +kernel
set_option maxRecDepth 65536 in
theorem w_heap : heapFits about1 = true := by decide +kernel
set_option maxRecDepth 65536 in
theorem w_runnable : about1.curStatus? = some .runnable := by decide +kernel
set_option maxRecDepth 65536 in
theorem w_alone : about1.alone = true := by decide +kernel
set_option maxRecDepth 65536 in
theorem w_named : about1.methodNamed? x = some theMethod := by decide +kernel
set_option maxRecDepth 65536 in
theorem w_hears : about1.hears theMethod below0 = true := by decide +kernel
set_option maxRecDepth 65536 in
theorem w_ripe : about1.ripe theMethod args0 below0 = true := by decide +kernel
theorem w_running : about1.status = .running := rfl
set_option maxRecDepth 65536 in
theorem w_room : about1.hasRoom e0.platform room_1 = true :=
  launch0.hasRoom_least _ room_1 (by decide +kernel) (by decide +kernel) (by decide +kernel) (by decide +kernel) (by decide +kernel) (by decide +kernel)
theorem allAtoms_all (ts : List Jvm.Cond) (a : Array Jvm.Value) (st : Jvm.State) : (allAtoms ts).before a st = ts.all (fun c => c.before a st) := by
  induction ts with
  | nil => rfl
  | cons c t ih =>
    show (Jvm.Cond.and c (allAtoms t)).before a st = _
    rw [Jvm.Cond.before_and, ih, List.all_cons]
def words1 : List Jvm.Cond := Jvm.Cond.code x code maxLocals ret :: tables_1
/-- a 'code' word, met by the world's own term for the bytes: nothing is compared byte by byte -/
theorem code_word {y : MethodName} {bytes : ByteArray} {mx : Nat} {rt : Option FieldType} {a : Array Value} {s : State} {m : MethodId} {meth : Method} {c : Code} (h1 : s.methodNamed? y = some m) (h2 : s.vm.method? m = some meth) (h3 : meth.code = some c) (h4 : c.code = bytes)
    (h5 : (c.maxLocals == mx && c.exceptionTable.isEmpty && decide (c.maxStack ≤ mostOperands) && decide (meth.sig.returnType = rt) && !meth.locks && decide (parseMethodDescriptor y.desc = some meth.sig)) = true) : (Jvm.Cond.code y bytes mx rt).before a s = true := by
  simp only [Bool.and_eq_true, beq_iff_eq, Bool.not_eq_true', decide_eq_true_eq] at h5
  obtain ⟨⟨⟨⟨⟨g1, g2⟩, g3⟩, g4⟩, g5⟩, g6⟩ := h5
  simp [Cond.before, Cond.holds, Cond.value, h1, h2, h3, h4, g1, g2, g3, g4, g5, g6]
def isCode : Jvm.Cond → Bool
  | .code _ _ _ _ => true
  | _ => false
theorem all_split {L : List Jvm.Cond} {P : Jvm.Cond → Bool} (h1 : L.all (fun c => isCode c || P c) = true) (h2 : ∀ c ∈ L.filter isCode, P c = true) : L.all P = true := by
  refine List.all_eq_true.mpr fun c hc => ?_
  have h := List.all_eq_true.mp h1 c hc
  rcases Bool.eq_false_or_eq_true (isCode c) with hi | hi
  · exact h2 c (List.mem_filter.mpr ⟨hc, hi⟩)
  · simpa [hi] using h
set_option maxRecDepth 65536 in
theorem w_c0 : (Jvm.Cond.code x code maxLocals ret).before args0 about1 = true := code_word (m := ⟨1, 1⟩) (meth := k1m1) (c := k1c1) (by decide +kernel) rfl rfl rfl (by decide +kernel)
set_option maxRecDepth 65536 in
theorem w_c1 : (Jvm.Cond.code ({ cls := "com/example/wattle/wattle/HourlyPrice", name := "<init>", desc := "(Ljava/time/OffsetDateTime;Ljava/math/BigDecimal;)V" } : Jvm.MethodName) prog_27_method_1_code (3 : Nat) (Option.none : Option Jvm.ClassFile.FieldType)).before args0 about1 = true := code_word (m := ⟨3, 0⟩) (meth := k3m0) (c := k3c0) (by decide +kernel) rfl rfl rfl (by decide +kernel)
set_option maxRecDepth 65536 in
theorem w_c2 : (Jvm.Cond.code ({ cls := "java/lang/Record", name := "<init>", desc := "()V" } : Jvm.MethodName) jdk_30_method_1_code (1 : Nat) (Option.none : Option Jvm.ClassFile.FieldType)).before args0 about1 = true := code_word (m := ⟨2, 0⟩) (meth := k2m0) (c := k2c0) (by decide +kernel) rfl rfl rfl (by decide +kernel)
set_option maxRecDepth 65536 in
theorem w_c3 : (Jvm.Cond.code ({ cls := "java/lang/Object", name := "<init>", desc := "()V" } : Jvm.MethodName) object_method_1_code (1 : Nat) (Option.none : Option Jvm.ClassFile.FieldType)).before args0 about1 = true := code_word (m := ⟨0, 0⟩) (meth := k0m0) (c := k0c0) (by decide +kernel) rfl rfl rfl (by decide +kernel)
set_option maxRecDepth 65536 in
theorem w_c4 : (Jvm.Cond.code ({ cls := "java/util/ArrayList", name := "<init>", desc := "()V" } : Jvm.MethodName) jdk_38_method_2_code (1 : Nat) (Option.none : Option Jvm.ClassFile.FieldType)).before args0 about1 = true := code_word (m := ⟨13, 0⟩) (meth := k13m0) (c := k13c0) (by decide +kernel) rfl rfl rfl (by decide +kernel)
set_option maxRecDepth 65536 in
theorem w_c5 : (Jvm.Cond.code ({ cls := "java/util/AbstractList", name := "<init>", desc := "()V" } : Jvm.MethodName) jdk_39_method_1_code (1 : Nat) (Option.none : Option Jvm.ClassFile.FieldType)).before args0 about1 = true := code_word (m := ⟨9, 0⟩) (meth := k9m0) (c := k9c0) (by decide +kernel) rfl rfl rfl (by decide +kernel)
set_option maxRecDepth 65536 in
theorem w_c6 : (Jvm.Cond.code ({ cls := "java/util/AbstractCollection", name := "<init>", desc := "()V" } : Jvm.MethodName) jdk_22_method_1_code (1 : Nat) (Option.none : Option Jvm.ClassFile.FieldType)).before args0 about1 = true := code_word (m := ⟨6, 0⟩) (meth := k6m0) (c := k6c0) (by decide +kernel) rfl rfl rfl (by decide +kernel)
set_option maxRecDepth 65536 in
theorem w_c7 : (Jvm.Cond.code ({ cls := "java/util/ArrayList", name := "add", desc := "(Ljava/lang/Object;)Z" } : Jvm.MethodName) jdk_38_method_25_code (2 : Nat) (Option.some Jvm.ClassFile.FieldType.boolean)).before args0 about1 = true := code_word (m := ⟨13, 6⟩) (meth := k13m6) (c := k13c6) (by decide +kernel) rfl rfl rfl (by decide +kernel)
set_option maxRecDepth 65536 in
theorem w_c8 : (Jvm.Cond.code ({ cls := "java/util/ArrayList", name := "add", desc := "(Ljava/lang/Object;[Ljava/lang/Object;I)V" } : Jvm.MethodName) jdk_38_method_24_code (4 : Nat) (Option.none : Option Jvm.ClassFile.FieldType)).before args0 about1 = true := code_word (m := ⟨13, 5⟩) (meth := k13m5) (c := k13c5) (by decide +kernel) rfl rfl rfl (by decide +kernel)
set_option maxRecDepth 65536 in
theorem w_c9 : (Jvm.Cond.code ({ cls := "java/util/ArrayList", name := "grow", desc := "()[Ljava/lang/Object;" } : Jvm.MethodName) jdk_38_method_7_code (1 : Nat) (Option.some (Jvm.ClassFile.FieldType.array (Jvm.ClassFile.FieldType.object "java/lang/Object")))).before args0 about1 = true := code_word (m := ⟨13, 2⟩) (meth := k13m2) (c := k13c2) (by decide +kernel) rfl rfl rfl (by decide +kernel)
set_option maxRecDepth 65536 in
theorem w_c10 : (Jvm.Cond.code ({ cls := "java/util/ArrayList", name := "grow", desc := "(I)[Ljava/lang/Object;" } : Jvm.MethodName) jdk_38_method_6_code (4 : Nat) (Option.some (Jvm.ClassFile.FieldType.array (Jvm.ClassFile.FieldType.object "java/lang/Object")))).before args0 about1 = true := code_word (m := ⟨13, 1⟩) (meth := k13m1) (c := k13c1) (by decide +kernel) rfl rfl rfl (by decide +kernel)
set_option maxRecDepth 65536 in
theorem w_c11 : (Jvm.Cond.code ({ cls := "java/lang/Math", name := "max", desc := "(II)I" } : Jvm.MethodName) jdk_29_method_65_code (2 : Nat) (Option.some Jvm.ClassFile.FieldType.int)).before args0 about1 = true := code_word (m := ⟨14, 1⟩) (meth := k14m1) (c := k14c1) (by decide +kernel) rfl rfl rfl (by decide +kernel)
set_option maxRecDepth 65536 in
theorem w_c12 : (Jvm.Cond.code ({ cls := "com/example/wattle/wattle/DayAheadPrices", name := "<init>", desc := "(Ljava/lang/String;Ljava/util/List;)V" } : Jvm.MethodName) prog_17_method_1_code (3 : Nat) (Option.none : Option Jvm.ClassFile.FieldType)).before args0 about1 = true := code_word (m := ⟨15, 0⟩) (meth := k15m0) (c := k15c0) (by decide +kernel) rfl rfl rfl (by decide +kernel)
set_option maxRecDepth 65536 in
theorem w_c13 : (Jvm.Cond.code ({ cls := "java/util/List", name := "copyOf", desc := "(Ljava/util/Collection;)Ljava/util/List;" } : Jvm.MethodName) jdk_40_method_48_code (1 : Nat) (Option.some (Jvm.ClassFile.FieldType.object "java/util/List"))).before args0 about1 = true := code_word (m := ⟨8, 2⟩) (meth := k8m2) (c := k8c2) (by decide +kernel) rfl rfl rfl (by decide +kernel)
set_option maxRecDepth 65536 in
theorem w_c14 : (Jvm.Cond.code ({ cls := "java/util/ImmutableCollections", name := "listCopy", desc := "(Ljava/util/Collection;)Ljava/util/List;" } : Jvm.MethodName) jdk_56_method_3_code (2 : Nat) (Option.some (Jvm.ClassFile.FieldType.object "java/util/List"))).before args0 about1 = true := code_word (m := ⟨21, 1⟩) (meth := k21m1) (c := k21c1) (by decide +kernel) rfl rfl rfl (by decide +kernel)
set_option maxRecDepth 65536 in
theorem w_c15 : (Jvm.Cond.code ({ cls := "java/util/ArrayList", name := "isEmpty", desc := "()Z" } : Jvm.MethodName) jdk_38_method_9_code (1 : Nat) (Option.some Jvm.ClassFile.FieldType.boolean)).before args0 about1 = true := code_word (m := ⟨13, 3⟩) (meth := k13m3) (c := k13c3) (by decide +kernel) rfl rfl rfl (by decide +kernel)
set_option maxRecDepth 65536 in
theorem w_c16 : (Jvm.Cond.code ({ cls := "java/util/ArrayList", name := "toArray", desc := "()[Ljava/lang/Object;" } : Jvm.MethodName) jdk_38_method_16_code (1 : Nat) (Option.some (Jvm.ClassFile.FieldType.array (Jvm.ClassFile.FieldType.object "java/lang/Object")))).before args0 about1 = true := code_word (m := ⟨13, 4⟩) (meth := k13m4) (c := k13c4) (by decide +kernel) rfl rfl rfl (by decide +kernel)
set_option maxRecDepth 65536 in
theorem w_c17 : (Jvm.Cond.code ({ cls := "java/util/Arrays", name := "copyOf", desc := "([Ljava/lang/Object;I)[Ljava/lang/Object;" } : Jvm.MethodName) jdk_65_method_119_code (2 : Nat) (Option.some (Jvm.ClassFile.FieldType.array (Jvm.ClassFile.FieldType.object "java/lang/Object")))).before args0 about1 = true := code_word (m := ⟨26, 1⟩) (meth := k26m1) (c := k26c1) (by decide +kernel) rfl rfl rfl (by decide +kernel)
set_option maxRecDepth 65536 in
theorem w_c18 : (Jvm.Cond.code ({ cls := "java/util/Arrays", name := "copyOf", desc := "([Ljava/lang/Object;ILjava/lang/Class;)[Ljava/lang/Object;" } : Jvm.MethodName) jdk_65_method_120_code (4 : Nat) (Option.some (Jvm.ClassFile.FieldType.array (Jvm.ClassFile.FieldType.object "java/lang/Object")))).before args0 about1 = true := code_word (m := ⟨26, 2⟩) (meth := k26m2) (c := k26c2) (by decide +kernel) rfl rfl rfl (by decide +kernel)
set_option maxRecDepth 65536 in
theorem w_c19 : (Jvm.Cond.code ({ cls := "java/lang/Math", name := "min", desc := "(II)I" } : Jvm.MethodName) jdk_29_method_69_code (2 : Nat) (Option.some Jvm.ClassFile.FieldType.int)).before args0 about1 = true := code_word (m := ⟨14, 2⟩) (meth := k14m2) (c := k14c2) (by decide +kernel) rfl rfl rfl (by decide +kernel)
set_option maxRecDepth 65536 in
theorem w_c20 : (Jvm.Cond.code ({ cls := "java/util/List", name := "of", desc := "([Ljava/lang/Object;)Ljava/util/List;" } : Jvm.MethodName) jdk_40_method_47_code (2 : Nat) (Option.some (Jvm.ClassFile.FieldType.object "java/util/List"))).before args0 about1 = true := code_word (m := ⟨8, 1⟩) (meth := k8m1) (c := k8c1) (by decide +kernel) rfl rfl rfl (by decide +kernel)
set_option maxRecDepth 65536 in
theorem w_c21 : (Jvm.Cond.code ({ cls := "java/util/ImmutableCollections$List12", name := "<init>", desc := "(Ljava/lang/Object;)V" } : Jvm.MethodName) jdk_44_method_1_code (2 : Nat) (Option.none : Option Jvm.ClassFile.FieldType)).before args0 about1 = true := code_word (m := ⟨24, 0⟩) (meth := k24m0) (c := k24c0) (by decide +kernel) rfl rfl rfl (by decide +kernel)
set_option maxRecDepth 65536 in
theorem w_c22 : (Jvm.Cond.code ({ cls := "java/util/ImmutableCollections$AbstractImmutableList", name := "<init>", desc := "()V" } : Jvm.MethodName) jdk_46_method_1_code (1 : Nat) (Option.none : Option Jvm.ClassFile.FieldType)).before args0 about1 = true := code_word (m := ⟨23, 0⟩) (meth := k23m0) (c := k23c0) (by decide +kernel) rfl rfl rfl (by decide +kernel)
set_option maxRecDepth 65536 in
theorem w_c23 : (Jvm.Cond.code ({ cls := "java/util/ImmutableCollections$AbstractImmutableCollection", name := "<init>", desc := "()V" } : Jvm.MethodName) jdk_47_method_1_code (1 : Nat) (Option.none : Option Jvm.ClassFile.FieldType)).before args0 about1 = true := code_word (m := ⟨22, 0⟩) (meth := k22m0) (c := k22c0) (by decide +kernel) rfl rfl rfl (by decide +kernel)
set_option maxRecDepth 65536 in
theorem w_c24 : (Jvm.Cond.code ({ cls := "java/util/Objects", name := "requireNonNull", desc := "(Ljava/lang/Object;)Ljava/lang/Object;" } : Jvm.MethodName) jdk_31_method_10_code (1 : Nat) (Option.some (Jvm.ClassFile.FieldType.object "java/lang/Object"))).before args0 about1 = true := code_word (m := ⟨28, 1⟩) (meth := k28m1) (c := k28c1) (by decide +kernel) rfl rfl rfl (by decide +kernel)
set_option maxRecDepth 65536 in
theorem w_c25 : (Jvm.Cond.code ({ cls := "com/example/wattle/wattle/DayAheadPrices", name := "first", desc := "()Lcom/example/wattle/wattle/HourlyPrice;" } : Jvm.MethodName) prog_17_method_4_code (1 : Nat) (Option.some (Jvm.ClassFile.FieldType.object "com/example/wattle/wattle/HourlyPrice"))).before args0 about1 = true := code_word (m := ⟨15, 1⟩) (meth := k15m1) (c := k15c1) (by decide +kernel) rfl rfl rfl (by decide +kernel)
set_option maxRecDepth 65536 in
theorem w_c26 : (Jvm.Cond.code ({ cls := "java/util/ImmutableCollections$List12", name := "get", desc := "(I)Ljava/lang/Object;" } : Jvm.MethodName) jdk_44_method_5_code (2 : Nat) (Option.some (Jvm.ClassFile.FieldType.object "java/lang/Object"))).before args0 about1 = true := code_word (m := ⟨24, 2⟩) (meth := k24m2) (c := k24c2) (by decide +kernel) rfl rfl rfl (by decide +kernel)
set_option maxRecDepth 65536 in
theorem w_c27 : (Jvm.Cond.code ({ cls := "java/util/ImmutableCollections", name := "listFromArray", desc := "([Ljava/lang/Object;)Ljava/util/List;" } : Jvm.MethodName) jdk_56_method_4_code (3 : Nat) (Option.some (Jvm.ClassFile.FieldType.object "java/util/List"))).before args0 about1 = true := code_word (m := ⟨21, 2⟩) (meth := k21m2) (c := k21c2) (by decide +kernel) rfl rfl rfl (by decide +kernel)
set_option maxRecDepth 65536 in
theorem w_c28 : (Jvm.Cond.code ({ cls := "java/util/ImmutableCollections$ListN", name := "<init>", desc := "([Ljava/lang/Object;Z)V" } : Jvm.MethodName) jdk_45_method_1_code (3 : Nat) (Option.none : Option Jvm.ClassFile.FieldType)).before args0 about1 = true := code_word (m := ⟨25, 0⟩) (meth := k25m0) (c := k25c0) (by decide +kernel) rfl rfl rfl (by decide +kernel)
set_option maxRecDepth 65536 in
theorem w_c29 : (Jvm.Cond.code ({ cls := "java/util/ImmutableCollections$ListN", name := "get", desc := "(I)Ljava/lang/Object;" } : Jvm.MethodName) jdk_45_method_4_code (2 : Nat) (Option.some (Jvm.ClassFile.FieldType.object "java/lang/Object"))).before args0 about1 = true := code_word (m := ⟨25, 1⟩) (meth := k25m1) (c := k25c1) (by decide +kernel) rfl rfl rfl (by decide +kernel)
set_option maxRecDepth 65536 in
theorem w_c30 : (Jvm.Cond.code ({ cls := "java/util/ImmutableCollections$List12", name := "<init>", desc := "(Ljava/lang/Object;Ljava/lang/Object;)V" } : Jvm.MethodName) jdk_44_method_2_code (3 : Nat) (Option.none : Option Jvm.ClassFile.FieldType)).before args0 about1 = true := code_word (m := ⟨24, 1⟩) (meth := k24m1) (c := k24c1) (by decide +kernel) rfl rfl rfl (by decide +kernel)
def codes1 : List Jvm.Cond := [Jvm.Cond.code x code maxLocals ret, Jvm.Cond.code ({ cls := "com/example/wattle/wattle/HourlyPrice", name := "<init>", desc := "(Ljava/time/OffsetDateTime;Ljava/math/BigDecimal;)V" } : Jvm.MethodName) prog_27_method_1_code (3 : Nat) (Option.none : Option Jvm.ClassFile.FieldType), Jvm.Cond.code ({ cls := "java/lang/Record", name := "<init>", desc := "()V" } : Jvm.MethodName) jdk_30_method_1_code (1 : Nat) (Option.none : Option Jvm.ClassFile.FieldType), Jvm.Cond.code ({ cls := "java/lang/Object", name := "<init>", desc := "()V" } : Jvm.MethodName) object_method_1_code (1 : Nat) (Option.none : Option Jvm.ClassFile.FieldType), Jvm.Cond.code ({ cls := "java/util/ArrayList", name := "<init>", desc := "()V" } : Jvm.MethodName) jdk_38_method_2_code (1 : Nat) (Option.none : Option Jvm.ClassFile.FieldType), Jvm.Cond.code ({ cls := "java/util/AbstractList", name := "<init>", desc := "()V" } : Jvm.MethodName) jdk_39_method_1_code (1 : Nat) (Option.none : Option Jvm.ClassFile.FieldType), Jvm.Cond.code ({ cls := "java/util/AbstractCollection", name := "<init>", desc := "()V" } : Jvm.MethodName) jdk_22_method_1_code (1 : Nat) (Option.none : Option Jvm.ClassFile.FieldType), Jvm.Cond.code ({ cls := "java/util/ArrayList", name := "add", desc := "(Ljava/lang/Object;)Z" } : Jvm.MethodName) jdk_38_method_25_code (2 : Nat) (Option.some Jvm.ClassFile.FieldType.boolean), Jvm.Cond.code ({ cls := "java/util/ArrayList", name := "add", desc := "(Ljava/lang/Object;[Ljava/lang/Object;I)V" } : Jvm.MethodName) jdk_38_method_24_code (4 : Nat) (Option.none : Option Jvm.ClassFile.FieldType), Jvm.Cond.code ({ cls := "java/util/ArrayList", name := "grow", desc := "()[Ljava/lang/Object;" } : Jvm.MethodName) jdk_38_method_7_code (1 : Nat) (Option.some (Jvm.ClassFile.FieldType.array (Jvm.ClassFile.FieldType.object "java/lang/Object"))), Jvm.Cond.code ({ cls := "java/util/ArrayList", name := "grow", desc := "(I)[Ljava/lang/Object;" } : Jvm.MethodName) jdk_38_method_6_code (4 : Nat) (Option.some (Jvm.ClassFile.FieldType.array (Jvm.ClassFile.FieldType.object "java/lang/Object"))), Jvm.Cond.code ({ cls := "java/lang/Math", name := "max", desc := "(II)I" } : Jvm.MethodName) jdk_29_method_65_code (2 : Nat) (Option.some Jvm.ClassFile.FieldType.int), Jvm.Cond.code ({ cls := "com/example/wattle/wattle/DayAheadPrices", name := "<init>", desc := "(Ljava/lang/String;Ljava/util/List;)V" } : Jvm.MethodName) prog_17_method_1_code (3 : Nat) (Option.none : Option Jvm.ClassFile.FieldType), Jvm.Cond.code ({ cls := "java/util/List", name := "copyOf", desc := "(Ljava/util/Collection;)Ljava/util/List;" } : Jvm.MethodName) jdk_40_method_48_code (1 : Nat) (Option.some (Jvm.ClassFile.FieldType.object "java/util/List")), Jvm.Cond.code ({ cls := "java/util/ImmutableCollections", name := "listCopy", desc := "(Ljava/util/Collection;)Ljava/util/List;" } : Jvm.MethodName) jdk_56_method_3_code (2 : Nat) (Option.some (Jvm.ClassFile.FieldType.object "java/util/List")), Jvm.Cond.code ({ cls := "java/util/ArrayList", name := "isEmpty", desc := "()Z" } : Jvm.MethodName) jdk_38_method_9_code (1 : Nat) (Option.some Jvm.ClassFile.FieldType.boolean), Jvm.Cond.code ({ cls := "java/util/ArrayList", name := "toArray", desc := "()[Ljava/lang/Object;" } : Jvm.MethodName) jdk_38_method_16_code (1 : Nat) (Option.some (Jvm.ClassFile.FieldType.array (Jvm.ClassFile.FieldType.object "java/lang/Object"))), Jvm.Cond.code ({ cls := "java/util/Arrays", name := "copyOf", desc := "([Ljava/lang/Object;I)[Ljava/lang/Object;" } : Jvm.MethodName) jdk_65_method_119_code (2 : Nat) (Option.some (Jvm.ClassFile.FieldType.array (Jvm.ClassFile.FieldType.object "java/lang/Object"))), Jvm.Cond.code ({ cls := "java/util/Arrays", name := "copyOf", desc := "([Ljava/lang/Object;ILjava/lang/Class;)[Ljava/lang/Object;" } : Jvm.MethodName) jdk_65_method_120_code (4 : Nat) (Option.some (Jvm.ClassFile.FieldType.array (Jvm.ClassFile.FieldType.object "java/lang/Object"))), Jvm.Cond.code ({ cls := "java/lang/Math", name := "min", desc := "(II)I" } : Jvm.MethodName) jdk_29_method_69_code (2 : Nat) (Option.some Jvm.ClassFile.FieldType.int), Jvm.Cond.code ({ cls := "java/util/List", name := "of", desc := "([Ljava/lang/Object;)Ljava/util/List;" } : Jvm.MethodName) jdk_40_method_47_code (2 : Nat) (Option.some (Jvm.ClassFile.FieldType.object "java/util/List")), Jvm.Cond.code ({ cls := "java/util/ImmutableCollections$List12", name := "<init>", desc := "(Ljava/lang/Object;)V" } : Jvm.MethodName) jdk_44_method_1_code (2 : Nat) (Option.none : Option Jvm.ClassFile.FieldType), Jvm.Cond.code ({ cls := "java/util/ImmutableCollections$AbstractImmutableList", name := "<init>", desc := "()V" } : Jvm.MethodName) jdk_46_method_1_code (1 : Nat) (Option.none : Option Jvm.ClassFile.FieldType), Jvm.Cond.code ({ cls := "java/util/ImmutableCollections$AbstractImmutableCollection", name := "<init>", desc := "()V" } : Jvm.MethodName) jdk_47_method_1_code (1 : Nat) (Option.none : Option Jvm.ClassFile.FieldType), Jvm.Cond.code ({ cls := "java/util/Objects", name := "requireNonNull", desc := "(Ljava/lang/Object;)Ljava/lang/Object;" } : Jvm.MethodName) jdk_31_method_10_code (1 : Nat) (Option.some (Jvm.ClassFile.FieldType.object "java/lang/Object")), Jvm.Cond.code ({ cls := "com/example/wattle/wattle/DayAheadPrices", name := "first", desc := "()Lcom/example/wattle/wattle/HourlyPrice;" } : Jvm.MethodName) prog_17_method_4_code (1 : Nat) (Option.some (Jvm.ClassFile.FieldType.object "com/example/wattle/wattle/HourlyPrice")), Jvm.Cond.code ({ cls := "java/util/ImmutableCollections$List12", name := "get", desc := "(I)Ljava/lang/Object;" } : Jvm.MethodName) jdk_44_method_5_code (2 : Nat) (Option.some (Jvm.ClassFile.FieldType.object "java/lang/Object")), Jvm.Cond.code ({ cls := "java/util/ImmutableCollections", name := "listFromArray", desc := "([Ljava/lang/Object;)Ljava/util/List;" } : Jvm.MethodName) jdk_56_method_4_code (3 : Nat) (Option.some (Jvm.ClassFile.FieldType.object "java/util/List")), Jvm.Cond.code ({ cls := "java/util/ImmutableCollections$ListN", name := "<init>", desc := "([Ljava/lang/Object;Z)V" } : Jvm.MethodName) jdk_45_method_1_code (3 : Nat) (Option.none : Option Jvm.ClassFile.FieldType), Jvm.Cond.code ({ cls := "java/util/ImmutableCollections$ListN", name := "get", desc := "(I)Ljava/lang/Object;" } : Jvm.MethodName) jdk_45_method_4_code (2 : Nat) (Option.some (Jvm.ClassFile.FieldType.object "java/lang/Object")), Jvm.Cond.code ({ cls := "java/util/ImmutableCollections$List12", name := "<init>", desc := "(Ljava/lang/Object;Ljava/lang/Object;)V" } : Jvm.MethodName) jdk_44_method_2_code (3 : Nat) (Option.none : Option Jvm.ClassFile.FieldType)]
set_option maxRecDepth 65536 in
theorem codes_eq : words1.filter isCode = codes1 := rfl
theorem w_codes : ∀ c ∈ words1.filter isCode, c.before args0 about1 = true := by
  rw [codes_eq]
  intro c hc
  simp only [codes1, List.mem_cons, List.not_mem_nil, or_false] at hc
  rcases hc with rfl | rfl | rfl | rfl | rfl | rfl | rfl | rfl | rfl | rfl | rfl | rfl | rfl | rfl | rfl | rfl | rfl | rfl | rfl | rfl | rfl | rfl | rfl | rfl | rfl | rfl | rfl | rfl | rfl | rfl | rfl
  · exact w_c0
  · exact w_c1
  · exact w_c2
  · exact w_c3
  · exact w_c4
  · exact w_c5
  · exact w_c6
  · exact w_c7
  · exact w_c8
  · exact w_c9
  · exact w_c10
  · exact w_c11
  · exact w_c12
  · exact w_c13
  · exact w_c14
  · exact w_c15
  · exact w_c16
  · exact w_c17
  · exact w_c18
  · exact w_c19
  · exact w_c20
  · exact w_c21
  · exact w_c22
  · exact w_c23
  · exact w_c24
  · exact w_c25
  · exact w_c26
  · exact w_c27
  · exact w_c28
  · exact w_c29
  · exact w_c30
set_option maxRecDepth 65536 in
theorem w_t1 : (words1.take 24).all (fun c => isCode c || c.before args0 about1) = true := by decide +kernel
set_option maxRecDepth 65536 in
theorem w_t2 : ((words1.drop 24).take 24).all (fun c => isCode c || c.before args0 about1) = true := by decide +kernel
set_option maxRecDepth 65536 in
theorem w_t3 : (((words1.drop 24).drop 24).take 24).all (fun c => isCode c || c.before args0 about1) = true := by decide +kernel
set_option maxRecDepth 65536 in
theorem w_t4 : ((((words1.drop 24).drop 24).drop 24).take 24).all (fun c => isCode c || c.before args0 about1) = true := by decide +kernel
set_option maxRecDepth 65536 in
theorem w_t5 : (((((words1.drop 24).drop 24).drop 24).drop 24).take 24).all (fun c => isCode c || c.before args0 about1) = true := by decide +kernel
set_option maxRecDepth 65536 in
theorem w_t6 : ((((((words1.drop 24).drop 24).drop 24).drop 24).drop 24).take 24).all (fun c => isCode c || c.before args0 about1) = true := by decide +kernel
set_option maxRecDepth 65536 in
theorem w_t7 : (((((((words1.drop 24).drop 24).drop 24).drop 24).drop 24).drop 24).take 24).all (fun c => isCode c || c.before args0 about1) = true := by decide +kernel
set_option maxRecDepth 65536 in
theorem w_t8 : ((((((((words1.drop 24).drop 24).drop 24).drop 24).drop 24).drop 24).drop 24).take 24).all (fun c => isCode c || c.before args0 about1) = true := by decide +kernel
set_option maxRecDepth 65536 in
theorem w_t9 : (((((((((words1.drop 24).drop 24).drop 24).drop 24).drop 24).drop 24).drop 24).drop 24).take 24).all (fun c => isCode c || c.before args0 about1) = true := by decide +kernel
set_option maxRecDepth 65536 in
theorem w_t10 : (((((((((words1.drop 24).drop 24).drop 24).drop 24).drop 24).drop 24).drop 24).drop 24).drop 24).all (fun c => isCode c || c.before args0 about1) = true := by decide +kernel
theorem w_tables : (allAtoms (Jvm.Cond.code x code maxLocals ret :: tables_1)).before args0 about1 = true := by
  rw [allAtoms_all]
  show words1.all (fun c => c.before args0 about1) = true
  refine all_split ?_ w_codes
  rw [← List.take_append_drop 24 words1, List.all_append, w_t1, ← List.take_append_drop 24 (words1.drop 24), List.all_append, w_t2, ← List.take_append_drop 24 ((words1.drop 24).drop 24), List.all_append, w_t3, ← List.take_append_drop 24 (((words1.drop 24).drop 24).drop 24), List.all_append, w_t4, ← List.take_append_drop 24 ((((words1.drop 24).drop 24).drop 24).drop 24), List.all_append, w_t5, ← List.take_append_drop 24 (((((words1.drop 24).drop 24).drop 24).drop 24).drop 24), List.all_append, w_t6, ← List.take_append_drop 24 ((((((words1.drop 24).drop 24).drop 24).drop 24).drop 24).drop 24), List.all_append, w_t7, ← List.take_append_drop 24 (((((((words1.drop 24).drop 24).drop 24).drop 24).drop 24).drop 24).drop 24), List.all_append, w_t8, ← List.take_append_drop 24 ((((((((words1.drop 24).drop 24).drop 24).drop 24).drop 24).drop 24).drop 24).drop 24), List.all_append, w_t9, w_t10]
  rfl
set_option maxRecDepth 65536 in
theorem w_rest : rest_1_c.before args0 about1 = true := by decide +kernel
set_option maxRecDepth 65536 in
theorem w_case : (Jvm.Cond.and given_1 narrow_1).before args0 about1 = true := by decide +kernel
theorem w_applies : (headSpec (Jvm.Cond.code x code maxLocals ret :: tables_1) room_1).applies x e0.platform about1 = true :=
  (Spec.applies_iff w_frames).mpr ⟨w_running, w_runnable, w_alone, w_named, w_hears, w_ripe, w_room, w_tables⟩
theorem atStart : AtStart classFile x code maxLocals ret World_1 tables_1 room_1 Calls_1 rest_1 Pre_1 launch0 p0 e0 about1 theMethod args0 below0 :=
  ⟨lists_1, trivial, launch0.admits_env _ _ _, launch0.least_env, fairChoices_fair.cas, fairChoices_fair.clock, w_frames, w_args, w_heap, w_applies, ⟨⟨35, k35, 2, by decide +kernel, rfl, rfl, _, rfl, rfl⟩, trivial⟩, w_rest, w_case⟩
end start1
theorem witness_1 : WitnessClaimed_1 := ⟨start1.p0, start1.e0, start1.about1, start1.theMethod, start1.args0, start1.below0, start1.atStart⟩
end Jvm.Pilot.@@N@@
