import JvmDerived
import JvmDerived.Pilot.@@N@@Statement
import JvmDerived.Pilot.@@N@@Code
set_option linter.unusedVariables false
set_option linter.unusedSimpArgs false
namespace Jvm.RoadKit
open Sem ClassFile Op Lib Jvm.Stand Jvm.Free Jvm.LawKit
theorem own_retI {p : Program} {l : Launch} {e : Env} {R : Room} {s : State} {m : MethodId} {args : Array Value} {below : List Frame} {meth : Method} {c : Code} {T : State} {locs : List Loc} {cells slots : Nat} (X : Stand p l e R s m args below meth c T locs cells slots) (hx : p.tables.exec = Jvm.exec) {pc : Nat} {Ls : Array Slot} {z : Int32} {rest : List Value} (hret : meth.sig.returnType = some .int) (hd : decode c.code pc = .ok (.ireturn, 1)) {fs : List Frame}
    (hl : ∀ (f : JFrame) (acts : List Action), f.method = m → f.locked = none → f.entered = [] → (doReturn e (T.setTop f) acts (some (.int z))).1 = T.setFrames fs) : Steps p.tables e below (T.setTop (mkF m pc Ls (.int z :: rest))) (T.setFrames fs) :=
  retOut X hx hret rfl (Or.inl ⟨rfl, Or.inl rfl, z, rfl⟩) hd hl
theorem own_retR {p : Program} {l : Launch} {e : Env} {R : Room} {s : State} {m : MethodId} {args : Array Value} {below : List Frame} {meth : Method} {c : Code} {T : State} {locs : List Loc} {cells slots : Nat} (X : Stand p l e R s m args below meth c T locs cells slots) (hx : p.tables.exec = Jvm.exec) {pc : Nat} {Ls : Array Slot} {w : Value} {t : FieldType} {rest : List Value} (hret : meth.sig.returnType = some t) (ht : t.isReference = true) (hw : w.isRef = true) (hd : decode c.code pc = .ok (.areturn, 1)) {fs : List Frame}
    (hl : ∀ (f : JFrame) (acts : List Action), f.method = m → f.locked = none → f.entered = [] → (doReturn e (T.setTop f) acts (some w)).1 = T.setFrames fs) : Steps p.tables e below (T.setTop (mkF m pc Ls (w :: rest))) (T.setFrames fs) :=
  retOut X hx hret (by rcases ref_cases hw with rfl | ⟨a, rfl⟩ <;> cases t <;> first | rfl | (cases ht; done)) (Or.inr (Or.inr (Or.inr (Or.inr ⟨rfl, ht, hw⟩)))) hd hl
end Jvm.RoadKit
namespace Jvm.Pilot.@@N@@
open Jvm Jvm.ClassFile Sem Op Lib Jvm.Free Jvm.Stand Jvm.LawKit Jvm.RoadKit Bundle Jvm.Pilot.@@N@@.Jvm.D
theorem d1_0 : decode prog_16_method_4_code 0 = .ok (.iload_n 1, 1) := by decide +kernel
theorem d1_1 : decode prog_16_method_4_code 1 = .ok (.aload_n 0, 1) := by decide +kernel
theorem d1_2 : decode prog_16_method_4_code 2 = .ok (.getfield 32, 3) := by decide +kernel
theorem d1_5 : decode prog_16_method_4_code 5 = .ok (.if_icmp .lt 15, 3) := by decide +kernel
theorem d1_20 : decode prog_16_method_4_code 20 = .ok (.iconst 0, 1) := by decide +kernel
theorem d1_21 : decode prog_16_method_4_code 21 = .ok (.ireturn, 1) := by decide +kernel
def Q1t (Z : State) (a1 : Addr) (p2 w3 : Int32) (h0 : Heap) (n0 : Nat) (v : Option Value) (h : Heap) (L : List Loc) : Prop := v = some (.int (0 : Int32)) ∧ Fr n0 L ∧ h = h0
theorem ef_1 (m : MethodId) (x0 : Addr) (x1 : Int32) : entryFrame m #[(.ref x0), (.int x1)] 2 = mkF m 0 #[.val (.ref x0), .val (.int x1)] [] := by first | (simp [entryFrame, mkF, argsToLocals, Value.category]; done) | rfl
theorem pnc_com_example_furnish_furnish_extension_Matches : plainName "com/example/furnish/furnish/extension/Matches" = true := by first | (simp [plainName, overriddenIn]; done) | decide +kernel
set_option maxRecDepth 65536 in
set_option maxHeartbeats 40000000 in
theorem rm1t (l : Launch) (Z : State) (a0 : Array Value) (hw : ∀ d ∈ tables_1, d.before a0 Z = true) (ws : List Jvm.Cond) (a1 : Addr) (p2 w3 : Int32) (h0 : Heap) (n0 : Nat) (O0 : Old Z n0 h0) (HF_a1_least : Fld Z h0 a1 "com/example/furnish/furnish/extension/Matches" "least" "I" (.int w3)) (hc5 : p2 < w3) :
    MetFree l (⟨"com/example/furnish/furnish/extension/Matches", "allows", "(I)Z"⟩ : MethodName) (head1 (Jvm.Cond.code (⟨"com/example/furnish/furnish/extension/Matches", "allows", "(I)Z"⟩ : MethodName) prog_16_method_4_code 2 (some .boolean) :: ws) ({ frames := 0, cells := 0, slots := 0, locals := 0 } : Room)) (fun a U => a = #[(.ref a1), (.int p2)] ∧ Z.Warmed39 U.vm ∧ U.heap = h0) (fun _ _ _ _ _ => True) (fun _ U o U' => ∃ v L, o = .returned v ∧ Q1t Z a1 p2 w3 h0 n0 v U'.heap L ∧ FrameEnd U o U' L ({ frames := 0, cells := 0, slots := 0, locals := 0 } : Room).cells ({ frames := 0, cells := 0, slots := 0, locals := 0 } : Room).slots) := by
  refine MetFree.of_bodySF (plainFor_of_name pnc_com_example_furnish_furnish_extension_Matches) hisR ?_
  intro p e s m args below meth c s₁ Bd hml0 hP hK
  obtain ⟨rfl, hZ, hh⟩ := hP
  have hx := Bd.exec
  have hby := Bd.bytes
  have hml : c.maxLocals = 2 := hml0
  have hown : s.vm.findClass "com/example/furnish/furnish/extension/Matches" = some m.cls := findClass_of_methodNamed Bd.named
  have hnm := (name_of_methodNamed Bd.named Bd.method).1
  have X0 : Stand p l e ({ frames := 0, cells := 0, slots := 0, locals := 0 } : Room) s m #[(.ref a1), (.int p2)] below meth c s₁ [] 0 0 := Stand.of_body Bd
  have e0 : s₁.heap = h0 := by rw [← hh, Bd.state]; rfl
  have N0 := Fr.nil n0
  have Z0 : n0 ≤ h0.size := O0.1 ▸ O0.2.1
  have pre0 : ∀ t, Steps p.tables e below (s₁.setTop (mkF m 0 #[.val (.ref a1), .val (.int p2)] [])) t → Steps p.tables e below (s₁.setTop (entryFrame m #[(.ref a1), (.int p2)] 2)) t := fun t k => castTop (ef_1 m a1 p2) k
  obtain ⟨T4, X4, e4, st4⟩ := getF X0 hx hZ hown (host := "") (Or.inl (hw _ (List.mem_of_getElem? (i := 9) rfl))) Via.refl e0 HF_a1_least (g := (mkF m 2 #[.val (.ref a1), .val (.int p2)] [(.ref a1), (.int p2)])) rfl rfl (hb hby d1_2)
  obtain ⟨fs, hr, hrun, hended, hW, hsame⟩ := X4.leave (v := some (.int (0 : Int32))) (fun h => by rw [Bd.returns] at h; cases h)
  refine ⟨_, _, pre0 _ ?_, hrun, hended, _, _, rfl, ?_, ⟨_, rfl⟩, hW, hsame.mono (by decide) (by decide)⟩
  · show Steps p.tables e below (s₁.setTop (mkF m 0 #[.val (.ref a1), .val (.int p2)] [])) _
    refine XS.iloadN X0.here hx rfl (hb hby d1_0) rfl ?_
    show Steps p.tables e below (s₁.setTop (mkF m 1 #[.val (.ref a1), .val (.int p2)] [(.int p2)])) _
    refine XS.aloadN X0.here hx rfl (hb hby d1_1) rfl rfl ?_
    show Steps p.tables e below (s₁.setTop (mkF m 2 #[.val (.ref a1), .val (.int p2)] [(.ref a1), (.int p2)])) _
    refine st4 _ ?_
    show Steps p.tables e below (T4.setTop (mkF m 5 #[.val (.ref a1), .val (.int p2)] [(.int w3), (.int p2)])) _
    refine XS.icmpYes X4.here hx rfl (pc0 := 5) (pc' := 20) rfl (hb hby d1_5) rfl (tlt hc5).1 (by decide) (by decide) ?_
    show Steps p.tables e below (T4.setTop (mkF m 20 #[.val (.ref a1), .val (.int p2)] [])) _
    refine XS.iconst X4.here hx rfl (hb hby d1_20) ?_
    show Steps p.tables e below (T4.setTop (mkF m 21 #[.val (.ref a1), .val (.int p2)] [(.int (0 : Int32))])) _
    exact retN X4 hx (t := .boolean) Bd.returns (by simp) (hb hby d1_21) hr
  · show Q1t Z a1 p2 w3 h0 n0 _ T4.heap _
    rw [e4]
    exact ⟨rfl, N0, rfl⟩
theorem d1_8 : decode prog_16_method_4_code 8 = .ok (.iload_n 1, 1) := by decide +kernel
theorem d1_9 : decode prog_16_method_4_code 9 = .ok (.aload_n 0, 1) := by decide +kernel
theorem d1_10 : decode prog_16_method_4_code 10 = .ok (.getfield 36, 3) := by decide +kernel
theorem d1_13 : decode prog_16_method_4_code 13 = .ok (.if_icmp .gt 7, 3) := by decide +kernel
def Q1ft (Z : State) (a1 : Addr) (p2 w3 w5 : Int32) (h0 : Heap) (n0 : Nat) (v : Option Value) (h : Heap) (L : List Loc) : Prop := v = some (.int (0 : Int32)) ∧ Fr n0 L ∧ h = h0
set_option maxRecDepth 65536 in
set_option maxHeartbeats 40000000 in
theorem rm1ft (l : Launch) (Z : State) (a0 : Array Value) (hw : ∀ d ∈ tables_1, d.before a0 Z = true) (ws : List Jvm.Cond) (a1 : Addr) (p2 w3 w5 : Int32) (h0 : Heap) (n0 : Nat) (O0 : Old Z n0 h0) (HF_a1_least : Fld Z h0 a1 "com/example/furnish/furnish/extension/Matches" "least" "I" (.int w3)) (hc5 : ¬ (p2 < w3)) (HF_a1_most : Fld Z h0 a1 "com/example/furnish/furnish/extension/Matches" "most" "I" (.int w5)) (hc13 : w5 < p2) :
    MetFree l (⟨"com/example/furnish/furnish/extension/Matches", "allows", "(I)Z"⟩ : MethodName) (head1 (Jvm.Cond.code (⟨"com/example/furnish/furnish/extension/Matches", "allows", "(I)Z"⟩ : MethodName) prog_16_method_4_code 2 (some .boolean) :: ws) ({ frames := 0, cells := 0, slots := 0, locals := 0 } : Room)) (fun a U => a = #[(.ref a1), (.int p2)] ∧ Z.Warmed39 U.vm ∧ U.heap = h0) (fun _ _ _ _ _ => True) (fun _ U o U' => ∃ v L, o = .returned v ∧ Q1ft Z a1 p2 w3 w5 h0 n0 v U'.heap L ∧ FrameEnd U o U' L ({ frames := 0, cells := 0, slots := 0, locals := 0 } : Room).cells ({ frames := 0, cells := 0, slots := 0, locals := 0 } : Room).slots) := by
  refine MetFree.of_bodySF (plainFor_of_name pnc_com_example_furnish_furnish_extension_Matches) hisR ?_
  intro p e s m args below meth c s₁ Bd hml0 hP hK
  obtain ⟨rfl, hZ, hh⟩ := hP
  have hx := Bd.exec
  have hby := Bd.bytes
  have hml : c.maxLocals = 2 := hml0
  have hown : s.vm.findClass "com/example/furnish/furnish/extension/Matches" = some m.cls := findClass_of_methodNamed Bd.named
  have hnm := (name_of_methodNamed Bd.named Bd.method).1
  have X0 : Stand p l e ({ frames := 0, cells := 0, slots := 0, locals := 0 } : Room) s m #[(.ref a1), (.int p2)] below meth c s₁ [] 0 0 := Stand.of_body Bd
  have e0 : s₁.heap = h0 := by rw [← hh, Bd.state]; rfl
  have N0 := Fr.nil n0
  have Z0 : n0 ≤ h0.size := O0.1 ▸ O0.2.1
  have pre0 : ∀ t, Steps p.tables e below (s₁.setTop (mkF m 0 #[.val (.ref a1), .val (.int p2)] [])) t → Steps p.tables e below (s₁.setTop (entryFrame m #[(.ref a1), (.int p2)] 2)) t := fun t k => castTop (ef_1 m a1 p2) k
  obtain ⟨T4, X4, e4, st4⟩ := getF X0 hx hZ hown (host := "") (Or.inl (hw _ (List.mem_of_getElem? (i := 9) rfl))) Via.refl e0 HF_a1_least (g := (mkF m 2 #[.val (.ref a1), .val (.int p2)] [(.ref a1), (.int p2)])) rfl rfl (hb hby d1_2)
  obtain ⟨T6, X6, e6, st6⟩ := getF X4 hx hZ hown (host := "") (Or.inl (hw _ (List.mem_of_getElem? (i := 11) rfl))) Via.refl e4 HF_a1_most (g := (mkF m 10 #[.val (.ref a1), .val (.int p2)] [(.ref a1), (.int p2)])) rfl rfl (hb hby d1_10)
  obtain ⟨fs, hr, hrun, hended, hW, hsame⟩ := X6.leave (v := some (.int (0 : Int32))) (fun h => by rw [Bd.returns] at h; cases h)
  refine ⟨_, _, pre0 _ ?_, hrun, hended, _, _, rfl, ?_, ⟨_, rfl⟩, hW, hsame.mono (by decide) (by decide)⟩
  · show Steps p.tables e below (s₁.setTop (mkF m 0 #[.val (.ref a1), .val (.int p2)] [])) _
    refine XS.iloadN X0.here hx rfl (hb hby d1_0) rfl ?_
    show Steps p.tables e below (s₁.setTop (mkF m 1 #[.val (.ref a1), .val (.int p2)] [(.int p2)])) _
    refine XS.aloadN X0.here hx rfl (hb hby d1_1) rfl rfl ?_
    show Steps p.tables e below (s₁.setTop (mkF m 2 #[.val (.ref a1), .val (.int p2)] [(.ref a1), (.int p2)])) _
    refine st4 _ ?_
    show Steps p.tables e below (T4.setTop (mkF m 5 #[.val (.ref a1), .val (.int p2)] [(.int w3), (.int p2)])) _
    refine XS.icmpNo X4.here hx rfl (hb hby d1_5) rfl (flt hc5).1 ?_
    show Steps p.tables e below (T4.setTop (mkF m 8 #[.val (.ref a1), .val (.int p2)] [])) _
    refine XS.iloadN X4.here hx rfl (hb hby d1_8) rfl ?_
    show Steps p.tables e below (T4.setTop (mkF m 9 #[.val (.ref a1), .val (.int p2)] [(.int p2)])) _
    refine XS.aloadN X4.here hx rfl (hb hby d1_9) rfl rfl ?_
    show Steps p.tables e below (T4.setTop (mkF m 10 #[.val (.ref a1), .val (.int p2)] [(.ref a1), (.int p2)])) _
    refine st6 _ ?_
    show Steps p.tables e below (T6.setTop (mkF m 13 #[.val (.ref a1), .val (.int p2)] [(.int w5), (.int p2)])) _
    refine XS.icmpYes X6.here hx rfl (pc0 := 13) (pc' := 20) rfl (hb hby d1_13) rfl (tlt hc13).2.2.1 (by decide) (by decide) ?_
    show Steps p.tables e below (T6.setTop (mkF m 20 #[.val (.ref a1), .val (.int p2)] [])) _
    refine XS.iconst X6.here hx rfl (hb hby d1_20) ?_
    show Steps p.tables e below (T6.setTop (mkF m 21 #[.val (.ref a1), .val (.int p2)] [(.int (0 : Int32))])) _
    exact retN X6 hx (t := .boolean) Bd.returns (by simp) (hb hby d1_21) hr
  · show Q1ft Z a1 p2 w3 w5 h0 n0 _ T6.heap _
    rw [e6]
    exact ⟨rfl, N0, rfl⟩
theorem d1_16 : decode prog_16_method_4_code 16 = .ok (.iconst 1, 1) := by decide +kernel
theorem d1_17 : decode prog_16_method_4_code 17 = .ok (.goto 4, 3) := by decide +kernel
def Q1ff (Z : State) (a1 : Addr) (p2 w3 w5 : Int32) (h0 : Heap) (n0 : Nat) (v : Option Value) (h : Heap) (L : List Loc) : Prop := v = some (.int (1 : Int32)) ∧ Fr n0 L ∧ h = h0
set_option maxRecDepth 65536 in
set_option maxHeartbeats 40000000 in
theorem rm1ff (l : Launch) (Z : State) (a0 : Array Value) (hw : ∀ d ∈ tables_1, d.before a0 Z = true) (ws : List Jvm.Cond) (a1 : Addr) (p2 w3 w5 : Int32) (h0 : Heap) (n0 : Nat) (O0 : Old Z n0 h0) (HF_a1_least : Fld Z h0 a1 "com/example/furnish/furnish/extension/Matches" "least" "I" (.int w3)) (hc5 : ¬ (p2 < w3)) (HF_a1_most : Fld Z h0 a1 "com/example/furnish/furnish/extension/Matches" "most" "I" (.int w5)) (hc13 : ¬ (w5 < p2)) :
    MetFree l (⟨"com/example/furnish/furnish/extension/Matches", "allows", "(I)Z"⟩ : MethodName) (head1 (Jvm.Cond.code (⟨"com/example/furnish/furnish/extension/Matches", "allows", "(I)Z"⟩ : MethodName) prog_16_method_4_code 2 (some .boolean) :: ws) ({ frames := 0, cells := 0, slots := 0, locals := 0 } : Room)) (fun a U => a = #[(.ref a1), (.int p2)] ∧ Z.Warmed39 U.vm ∧ U.heap = h0) (fun _ _ _ _ _ => True) (fun _ U o U' => ∃ v L, o = .returned v ∧ Q1ff Z a1 p2 w3 w5 h0 n0 v U'.heap L ∧ FrameEnd U o U' L ({ frames := 0, cells := 0, slots := 0, locals := 0 } : Room).cells ({ frames := 0, cells := 0, slots := 0, locals := 0 } : Room).slots) := by
  refine MetFree.of_bodySF (plainFor_of_name pnc_com_example_furnish_furnish_extension_Matches) hisR ?_
  intro p e s m args below meth c s₁ Bd hml0 hP hK
  obtain ⟨rfl, hZ, hh⟩ := hP
  have hx := Bd.exec
  have hby := Bd.bytes
  have hml : c.maxLocals = 2 := hml0
  have hown : s.vm.findClass "com/example/furnish/furnish/extension/Matches" = some m.cls := findClass_of_methodNamed Bd.named
  have hnm := (name_of_methodNamed Bd.named Bd.method).1
  have X0 : Stand p l e ({ frames := 0, cells := 0, slots := 0, locals := 0 } : Room) s m #[(.ref a1), (.int p2)] below meth c s₁ [] 0 0 := Stand.of_body Bd
  have e0 : s₁.heap = h0 := by rw [← hh, Bd.state]; rfl
  have N0 := Fr.nil n0
  have Z0 : n0 ≤ h0.size := O0.1 ▸ O0.2.1
  have pre0 : ∀ t, Steps p.tables e below (s₁.setTop (mkF m 0 #[.val (.ref a1), .val (.int p2)] [])) t → Steps p.tables e below (s₁.setTop (entryFrame m #[(.ref a1), (.int p2)] 2)) t := fun t k => castTop (ef_1 m a1 p2) k
  obtain ⟨T4, X4, e4, st4⟩ := getF X0 hx hZ hown (host := "") (Or.inl (hw _ (List.mem_of_getElem? (i := 9) rfl))) Via.refl e0 HF_a1_least (g := (mkF m 2 #[.val (.ref a1), .val (.int p2)] [(.ref a1), (.int p2)])) rfl rfl (hb hby d1_2)
  obtain ⟨T6, X6, e6, st6⟩ := getF X4 hx hZ hown (host := "") (Or.inl (hw _ (List.mem_of_getElem? (i := 11) rfl))) Via.refl e4 HF_a1_most (g := (mkF m 10 #[.val (.ref a1), .val (.int p2)] [(.ref a1), (.int p2)])) rfl rfl (hb hby d1_10)
  obtain ⟨fs, hr, hrun, hended, hW, hsame⟩ := X6.leave (v := some (.int (1 : Int32))) (fun h => by rw [Bd.returns] at h; cases h)
  refine ⟨_, _, pre0 _ ?_, hrun, hended, _, _, rfl, ?_, ⟨_, rfl⟩, hW, hsame.mono (by decide) (by decide)⟩
  · show Steps p.tables e below (s₁.setTop (mkF m 0 #[.val (.ref a1), .val (.int p2)] [])) _
    refine XS.iloadN X0.here hx rfl (hb hby d1_0) rfl ?_
    show Steps p.tables e below (s₁.setTop (mkF m 1 #[.val (.ref a1), .val (.int p2)] [(.int p2)])) _
    refine XS.aloadN X0.here hx rfl (hb hby d1_1) rfl rfl ?_
    show Steps p.tables e below (s₁.setTop (mkF m 2 #[.val (.ref a1), .val (.int p2)] [(.ref a1), (.int p2)])) _
    refine st4 _ ?_
    show Steps p.tables e below (T4.setTop (mkF m 5 #[.val (.ref a1), .val (.int p2)] [(.int w3), (.int p2)])) _
    refine XS.icmpNo X4.here hx rfl (hb hby d1_5) rfl (flt hc5).1 ?_
    show Steps p.tables e below (T4.setTop (mkF m 8 #[.val (.ref a1), .val (.int p2)] [])) _
    refine XS.iloadN X4.here hx rfl (hb hby d1_8) rfl ?_
    show Steps p.tables e below (T4.setTop (mkF m 9 #[.val (.ref a1), .val (.int p2)] [(.int p2)])) _
    refine XS.aloadN X4.here hx rfl (hb hby d1_9) rfl rfl ?_
    show Steps p.tables e below (T4.setTop (mkF m 10 #[.val (.ref a1), .val (.int p2)] [(.ref a1), (.int p2)])) _
    refine st6 _ ?_
    show Steps p.tables e below (T6.setTop (mkF m 13 #[.val (.ref a1), .val (.int p2)] [(.int w5), (.int p2)])) _
    refine XS.icmpNo X6.here hx rfl (hb hby d1_13) rfl (flt hc13).2.2.1 ?_
    show Steps p.tables e below (T6.setTop (mkF m 16 #[.val (.ref a1), .val (.int p2)] [])) _
    refine XS.iconst X6.here hx rfl (hb hby d1_16) ?_
    show Steps p.tables e below (T6.setTop (mkF m 17 #[.val (.ref a1), .val (.int p2)] [(.int (1 : Int32))])) _
    refine XS.goto X6.here hx rfl (pc0 := 17) (pc' := 21) rfl (hb hby d1_17) (by decide) (by decide) ?_
    show Steps p.tables e below (T6.setTop (mkF m 21 #[.val (.ref a1), .val (.int p2)] [(.int (1 : Int32))])) _
    exact retN X6 hx (t := .boolean) Bd.returns (by simp) (hb hby d1_21) hr
  · show Q1ff Z a1 p2 w3 w5 h0 n0 _ T6.heap _
    rw [e6]
    exact ⟨rfl, N0, rfl⟩
def Q1 (Z : State) (a1 : Addr) (p2 w3 w5 r : Int32) (h0 : Heap) (n0 : Nat) (v : Option Value) (h : Heap) (L : List Loc) : Prop := v = some (.int r) ∧ Fr n0 L ∧ h = h0
theorem rm1 (l : Launch) (Z : State) (a0 : Array Value) (hw : ∀ d ∈ tables_1, d.before a0 Z = true) (ws : List Jvm.Cond) (a1 : Addr) (p2 w3 w5 r : Int32) (h0 : Heap) (n0 : Nat) (O0 : Old Z n0 h0) (HF_least : Fld Z h0 a1 "com/example/furnish/furnish/extension/Matches" "least" "I" (.int w3)) (HF_most : Fld Z h0 a1 "com/example/furnish/furnish/extension/Matches" "most" "I" (.int w5)) (hr : r = if p2 < w3 ∨ w5 < p2 then (0 : Int32) else (1 : Int32)) :
    MetFree l (⟨"com/example/furnish/furnish/extension/Matches", "allows", "(I)Z"⟩ : MethodName) (head1 (Jvm.Cond.code (⟨"com/example/furnish/furnish/extension/Matches", "allows", "(I)Z"⟩ : MethodName) prog_16_method_4_code 2 (some .boolean) :: ws) (⟨0, 0, 0, 0⟩ : Room)) (fun a U => a = #[(.ref a1), (.int p2)] ∧ Z.Warmed39 U.vm ∧ U.heap = h0) (fun _ _ _ _ _ => True) (fun _ U o U' => ∃ v L, o = .returned v ∧ Q1 Z a1 p2 w3 w5 r h0 n0 v U'.heap L ∧ FrameEnd U o U' L 0 0) := by
  by_cases h1 : p2 < w3
  · obtain rfl : r = (0 : Int32) := by rw [hr, if_pos (Or.inl h1)]
    exact rm1t l Z a0 hw ws a1 p2 w3 h0 n0 O0 HF_least h1
  · by_cases h2 : w5 < p2
    · obtain rfl : r = (0 : Int32) := by rw [hr, if_pos (Or.inr h2)]
      exact rm1ft l Z a0 hw ws a1 p2 w3 w5 h0 n0 O0 HF_least h1 HF_most h2
    · obtain rfl : r = (1 : Int32) := by rw [hr, if_neg (fun q => q.elim h1 h2)]
      exact rm1ff l Z a0 hw ws a1 p2 w3 w5 h0 n0 O0 HF_least h1 HF_most h2
theorem pd_0 : parseMethodDescriptor "(I)Z" = some ⟨[.int], some .boolean⟩ := by decide +kernel
def own_Met (l : Launch) (Z : State) (ws : List Jvm.Cond) (as : Array Value) (h0 : Heap) (n0 : Nat) : Prop := MetFree l x (head1 (Jvm.Cond.code x code maxLocals ret :: ws) room_1) (fun a U => a = as ∧ Z.Warmed39 U.vm ∧ U.heap = h0) (fun _ _ _ _ _ => True) (fun _ U o U' => ∃ v L, o = .returned v ∧ (v = some (.int (1 : Int32)) ∧ Fr n0 L) ∧ FrameEnd U o U' L room_1.cells room_1.slots)
theorem ef_0 (m : MethodId) (x0 : Int32) (x1 : Int32) : entryFrame m #[(.int x0), (.int x1)] maxLocals = mkF m 0 #[.val (.int x0), .val (.int x1), .unset, .unset, .unset] [] := by first | (simp [entryFrame, mkF, argsToLocals, Value.category, maxLocals]; done) | rfl
theorem pnc_com_example_furnish_furnish_extension_MatchesAllowsPinLaw : plainName "com/example/furnish/furnish/extension/MatchesAllowsPinLaw" = true := by first | (simp [plainName, overriddenIn]; done) | decide +kernel
set_option maxRecDepth 65536 in
set_option maxHeartbeats 40000000 in
theorem rm0a (l : Launch) (Z : State) (a0 : Array Value) (hw : ∀ d ∈ tables_1, d.before a0 Z = true) (ws : List Jvm.Cond) (p1 p2 : Int32) (w3 : Addr) (w5 w6 : Int32) (h0 : Heap) (n0 : Nat) (O0 : Old Z n0 h0) (hc8 : ((p1 &&& (2147483647 : Int32)) % (3 : Int32)) = (0 : Int32)) (S_EXACTLY_ONE : Sta Z Z.heap "com/example/furnish/furnish/extension/Matches" "EXACTLY_ONE" "Lcom/example/furnish/furnish/extension/Matches;" (.ref w3)) (hc17 : ¬ (p2 = (1 : Int32))) (HF_w3_least : Fld Z h0 w3 "com/example/furnish/furnish/extension/Matches" "least" "I" (.int w5)) (HF_w3_most : Fld Z h0 w3 "com/example/furnish/furnish/extension/Matches" "most" "I" (.int w6)) (h75_hr : (0 : Int32) = if p2 < w5 ∨ w6 < p2 then (0 : Int32) else (1 : Int32)) (HE_w3 : Exa Z h0 w3 "com/example/furnish/furnish/extension/Matches") :
    own_Met l Z ws #[(.int p1), (.int p2)] h0 n0 := by
  refine MetFree.of_bodySF (plainFor_of_name pnc_com_example_furnish_furnish_extension_MatchesAllowsPinLaw) hisR ?_
  intro p e s m args below meth c s₁ Bd hml0 hP hK
  obtain ⟨rfl, hZ, hh⟩ := hP
  have hx := Bd.exec
  have hby := Bd.bytes
  have hml : c.maxLocals = 5 := hml0
  have hown : s.vm.findClass "com/example/furnish/furnish/extension/MatchesAllowsPinLaw" = some m.cls := findClass_of_methodNamed Bd.named
  have hnm := (name_of_methodNamed Bd.named Bd.method).1
  have X0 : Stand p l e room_1 s m #[(.int p1), (.int p2)] below meth c s₁ [] 0 0 := Stand.of_body Bd
  have e0 : s₁.heap = h0 := by rw [← hh, Bd.state]; rfl
  have N0 := Fr.nil n0
  have Z0 : n0 ≤ h0.size := O0.1 ▸ O0.2.1
  have pre0 : ∀ t, Steps p.tables e below (s₁.setTop (mkF m 0 #[.val (.int p1), .val (.int p2), .unset, .unset, .unset] [])) t → Steps p.tables e below (s₁.setTop (entryFrame m #[(.int p1), (.int p2)] maxLocals)) t := fun t k => castTop (ef_0 m p1 p2) k
  obtain ⟨T4, X4, e4, st4⟩ := getS2 X0 hx hZ hown (host := "") (Or.inl (hw _ (List.mem_of_getElem? (i := 1) rfl))) Via.refl e0 (S_EXACTLY_ONE.ext O0.2) (g := (mkF m 11 #[.val (.int p1), .val (.int p2), .val (.int ((p1 &&& (2147483647 : Int32)) % (3 : Int32))), .unset, .unset] [])) rfl (hb hby at_11)
  obtain ⟨cq7, kq7, q7a, q7b, q7c⟩ := isOf hZ e4 HE_w3
  obtain ⟨vr7, _, ⟨T7, L7, k7, n7⟩, -, X7, ⟨Lc7, hQ7, l7, y7, z7⟩, st7⟩ := X4.virtualBack hx (y := (⟨"com/example/furnish/furnish/extension/Matches", "allows", "(I)Z"⟩ : MethodName)) (z := (⟨"com/example/furnish/furnish/extension/Matches", "allows", "(I)Z"⟩ : MethodName)) hown (mvT hZ (hw _ (List.mem_of_getElem? (i := 4) rfl))) (mvT hZ (hw _ (List.mem_of_getElem? (i := 5) rfl))) (notFace_of_selects (args := #[]) (mvT hZ (hw _ (List.mem_of_getElem? (i := 7) rfl)))) (mvT hZ (hw _ (List.mem_of_getElem? (i := 7) rfl))) (mvT hZ (hw _ (List.mem_of_getElem? (i := 6) rfl))) (by decide) (backOf (W := 0) (rm1 l Z a0 hw [] w3 p2 w5 w6 ((0 : Int32)) h0 n0 O0 HF_w3_least HF_w3_most h75_hr) hZ (hw _ (List.mem_of_getElem? (i := 8) rfl)) (hw _ (List.mem_of_getElem? (i := 2) rfl)) (by decide) (by decide)) q7a q7c (g := (mkF m 75 #[.val (.int p1), .val (.int p2), .val (.int ((p1 &&& (2147483647 : Int32)) % (3 : Int32))), .val (.ref w3), .val (.int (0 : Int32))] [(.int p2), (.ref w3)])) rfl (by rw [hml]; rfl) (Steps.refl _) (argsL := [(.int p2)]) (rest := []) (lenOf pd_0 rfl) rfl (by show 2 * 0 + _ ≤ _; exact Nat.le_of_eq rfl) (hb hby at_75) (fun _ _ => ⟨rfl, e4, (by decide : 0 + 0 ≤ _), (by decide : 0 + 0 ≤ _)⟩)
  dsimp only [Pt.U, Pt.locs, Pt.cells, Pt.slots] at X7 l7 y7 z7 st7 hQ7
  subst l7 y7 z7
  obtain ⟨rfl, N7q, e7⟩ := hQ7
  have N7 := Fr.app N0 N7q
  replace X7 := X7.more (cells' := 0) (slots' := 0) (by decide) (by decide)
  obtain ⟨fs, hr, hrun, hended, hW, hsame⟩ := X7.leave (v := some (.int (1 : Int32))) (fun h => by rw [Bd.returns] at h; cases h)
  refine ⟨_, _, pre0 _ ?_, hrun, hended, _, _, rfl, ?_, ⟨_, rfl⟩, hW, hsame.mono (by decide) (by decide)⟩
  · show Steps p.tables e below (s₁.setTop (mkF m 0 #[.val (.int p1), .val (.int p2), .unset, .unset, .unset] [])) _
    refine XS.iloadN X0.here hx rfl (hb hby at_0) rfl ?_
    show Steps p.tables e below (s₁.setTop (mkF m 1 #[.val (.int p1), .val (.int p2), .unset, .unset, .unset] [(.int p1)])) _
    refine X0.ldcInt hx hown (mvT hZ (hw _ (List.mem_of_getElem? (i := 0) rfl))) (g := (mkF m 1 #[.val (.int p1), .val (.int p2), .unset, .unset, .unset] [(.int p1)])) rfl (hb hby at_1) _ ?_
    show Steps p.tables e below (s₁.setTop (mkF m 3 #[.val (.int p1), .val (.int p2), .unset, .unset, .unset] [(.int (2147483647 : Int32)), (.int p1)])) _
    refine XS.iand X0.here hx rfl (hb hby at_3) rfl ?_
    show Steps p.tables e below (s₁.setTop (mkF m 4 #[.val (.int p1), .val (.int p2), .unset, .unset, .unset] [(.int (p1 &&& (2147483647 : Int32)))])) _
    refine XS.iconst X0.here hx rfl (hb hby at_4) ?_
    show Steps p.tables e below (s₁.setTop (mkF m 5 #[.val (.int p1), .val (.int p2), .unset, .unset, .unset] [(.int (3 : Int32)), (.int (p1 &&& (2147483647 : Int32)))])) _
    refine iremM X0 hx rfl (hb hby at_5) rfl (by decide : ¬ ((3 : Int32) = (0 : Int32))) ?_
    show Steps p.tables e below (s₁.setTop (mkF m 6 #[.val (.int p1), .val (.int p2), .unset, .unset, .unset] [(.int ((p1 &&& (2147483647 : Int32)) % (3 : Int32)))])) _
    refine XS.istoreN X0.here hx rfl (hb hby at_6) rfl (l' := #[.val (.int p1), .val (.int p2), .val (.int ((p1 &&& (2147483647 : Int32)) % (3 : Int32))), .unset, .unset]) rfl ?_
    show Steps p.tables e below (s₁.setTop (mkF m 7 #[.val (.int p1), .val (.int p2), .val (.int ((p1 &&& (2147483647 : Int32)) % (3 : Int32))), .unset, .unset] [])) _
    refine XS.iloadN X0.here hx rfl (hb hby at_7) rfl ?_
    show Steps p.tables e below (s₁.setTop (mkF m 8 #[.val (.int p1), .val (.int p2), .val (.int ((p1 &&& (2147483647 : Int32)) % (3 : Int32))), .unset, .unset] [(.int ((p1 &&& (2147483647 : Int32)) % (3 : Int32)))])) _
    refine XS.ifNo X0.here hx rfl (hb hby at_8) rfl ((if0 _ _).trans (teq hc8).2) ?_
    show Steps p.tables e below (s₁.setTop (mkF m 11 #[.val (.int p1), .val (.int p2), .val (.int ((p1 &&& (2147483647 : Int32)) % (3 : Int32))), .unset, .unset] [])) _
    refine st4 _ ?_
    show Steps p.tables e below (T4.setTop (mkF m 14 #[.val (.int p1), .val (.int p2), .val (.int ((p1 &&& (2147483647 : Int32)) % (3 : Int32))), .unset, .unset] [(.ref w3)])) _
    refine XS.astoreN X4.here hx rfl (hb hby at_14) rfl rfl (l' := #[.val (.int p1), .val (.int p2), .val (.int ((p1 &&& (2147483647 : Int32)) % (3 : Int32))), .val (.ref w3), .unset]) rfl ?_
    show Steps p.tables e below (T4.setTop (mkF m 15 #[.val (.int p1), .val (.int p2), .val (.int ((p1 &&& (2147483647 : Int32)) % (3 : Int32))), .val (.ref w3), .unset] [])) _
    refine XS.iloadN X4.here hx rfl (hb hby at_15) rfl ?_
    show Steps p.tables e below (T4.setTop (mkF m 16 #[.val (.int p1), .val (.int p2), .val (.int ((p1 &&& (2147483647 : Int32)) % (3 : Int32))), .val (.ref w3), .unset] [(.int p2)])) _
    refine XS.iconst X4.here hx rfl (hb hby at_16) ?_
    show Steps p.tables e below (T4.setTop (mkF m 17 #[.val (.int p1), .val (.int p2), .val (.int ((p1 &&& (2147483647 : Int32)) % (3 : Int32))), .val (.ref w3), .unset] [(.int (1 : Int32)), (.int p2)])) _
    refine XS.icmpYes X4.here hx rfl (pc0 := 17) (pc' := 24) rfl (hb hby at_17) rfl (feq hc17).2 (by decide) (by decide) ?_
    show Steps p.tables e below (T4.setTop (mkF m 24 #[.val (.int p1), .val (.int p2), .val (.int ((p1 &&& (2147483647 : Int32)) % (3 : Int32))), .val (.ref w3), .unset] [])) _
    refine XS.iconst X4.here hx rfl (hb hby at_24) ?_
    show Steps p.tables e below (T4.setTop (mkF m 25 #[.val (.int p1), .val (.int p2), .val (.int ((p1 &&& (2147483647 : Int32)) % (3 : Int32))), .val (.ref w3), .unset] [(.int (0 : Int32))])) _
    refine XS.istore X4.here hx rfl (hb hby at_25) rfl (l' := #[.val (.int p1), .val (.int p2), .val (.int ((p1 &&& (2147483647 : Int32)) % (3 : Int32))), .val (.ref w3), .val (.int (0 : Int32))]) rfl ?_
    show Steps p.tables e below (T4.setTop (mkF m 27 #[.val (.int p1), .val (.int p2), .val (.int ((p1 &&& (2147483647 : Int32)) % (3 : Int32))), .val (.ref w3), .val (.int (0 : Int32))] [])) _
    refine XS.goto X4.here hx rfl (pc0 := 27) (pc' := 73) rfl (hb hby at_27) (by decide) (by decide) ?_
    show Steps p.tables e below (T4.setTop (mkF m 73 #[.val (.int p1), .val (.int p2), .val (.int ((p1 &&& (2147483647 : Int32)) % (3 : Int32))), .val (.ref w3), .val (.int (0 : Int32))] [])) _
    refine XS.aloadN X4.here hx rfl (hb hby at_73) rfl rfl ?_
    show Steps p.tables e below (T4.setTop (mkF m 74 #[.val (.int p1), .val (.int p2), .val (.int ((p1 &&& (2147483647 : Int32)) % (3 : Int32))), .val (.ref w3), .val (.int (0 : Int32))] [(.ref w3)])) _
    refine XS.iloadN X4.here hx rfl (hb hby at_74) rfl ?_
    show Steps p.tables e below (T4.setTop (mkF m 75 #[.val (.int p1), .val (.int p2), .val (.int ((p1 &&& (2147483647 : Int32)) % (3 : Int32))), .val (.ref w3), .val (.int (0 : Int32))] [(.int p2), (.ref w3)])) _
    refine st7.trans ?_
    show Steps p.tables e below (T7.setTop (mkF m 78 #[.val (.int p1), .val (.int p2), .val (.int ((p1 &&& (2147483647 : Int32)) % (3 : Int32))), .val (.ref w3), .val (.int (0 : Int32))] [(.int (0 : Int32))])) _
    refine XS.iload X7.here hx rfl (hb hby at_78) rfl ?_
    show Steps p.tables e below (T7.setTop (mkF m 80 #[.val (.int p1), .val (.int p2), .val (.int ((p1 &&& (2147483647 : Int32)) % (3 : Int32))), .val (.ref w3), .val (.int (0 : Int32))] [(.int (0 : Int32)), (.int (0 : Int32))])) _
    refine XS.icmpNo X7.here hx rfl (hb hby at_80) rfl (teq (by decide : (0 : Int32) = (0 : Int32))).2 ?_
    show Steps p.tables e below (T7.setTop (mkF m 83 #[.val (.int p1), .val (.int p2), .val (.int ((p1 &&& (2147483647 : Int32)) % (3 : Int32))), .val (.ref w3), .val (.int (0 : Int32))] [])) _
    refine XS.iconst X7.here hx rfl (hb hby at_83) ?_
    show Steps p.tables e below (T7.setTop (mkF m 84 #[.val (.int p1), .val (.int p2), .val (.int ((p1 &&& (2147483647 : Int32)) % (3 : Int32))), .val (.ref w3), .val (.int (0 : Int32))] [(.int (1 : Int32))])) _
    refine XS.goto X7.here hx rfl (pc0 := 84) (pc' := 88) rfl (hb hby at_84) (by decide) (by decide) ?_
    show Steps p.tables e below (T7.setTop (mkF m 88 #[.val (.int p1), .val (.int p2), .val (.int ((p1 &&& (2147483647 : Int32)) % (3 : Int32))), .val (.ref w3), .val (.int (0 : Int32))] [(.int (1 : Int32))])) _
    exact retN X7 hx (t := .boolean) Bd.returns (by simp) (hb hby at_88) hr
  · skip
    exact ⟨rfl, N7⟩
set_option maxRecDepth 65536 in
set_option maxHeartbeats 40000000 in
theorem rm0b (l : Launch) (Z : State) (a0 : Array Value) (hw : ∀ d ∈ tables_1, d.before a0 Z = true) (ws : List Jvm.Cond) (p1 p2 : Int32) (w3 : Addr) (w5 w6 : Int32) (h0 : Heap) (n0 : Nat) (O0 : Old Z n0 h0) (hc8 : ((p1 &&& (2147483647 : Int32)) % (3 : Int32)) = (0 : Int32)) (S_EXACTLY_ONE : Sta Z Z.heap "com/example/furnish/furnish/extension/Matches" "EXACTLY_ONE" "Lcom/example/furnish/furnish/extension/Matches;" (.ref w3)) (hc17 : p2 = (1 : Int32)) (HF_w3_least : Fld Z h0 w3 "com/example/furnish/furnish/extension/Matches" "least" "I" (.int w5)) (HF_w3_most : Fld Z h0 w3 "com/example/furnish/furnish/extension/Matches" "most" "I" (.int w6)) (h75_hr : (1 : Int32) = if p2 < w5 ∨ w6 < p2 then (0 : Int32) else (1 : Int32)) (HE_w3 : Exa Z h0 w3 "com/example/furnish/furnish/extension/Matches") :
    own_Met l Z ws #[(.int p1), (.int p2)] h0 n0 := by
  refine MetFree.of_bodySF (plainFor_of_name pnc_com_example_furnish_furnish_extension_MatchesAllowsPinLaw) hisR ?_
  intro p e s m args below meth c s₁ Bd hml0 hP hK
  obtain ⟨rfl, hZ, hh⟩ := hP
  have hx := Bd.exec
  have hby := Bd.bytes
  have hml : c.maxLocals = 5 := hml0
  have hown : s.vm.findClass "com/example/furnish/furnish/extension/MatchesAllowsPinLaw" = some m.cls := findClass_of_methodNamed Bd.named
  have hnm := (name_of_methodNamed Bd.named Bd.method).1
  have X0 : Stand p l e room_1 s m #[(.int p1), (.int p2)] below meth c s₁ [] 0 0 := Stand.of_body Bd
  have e0 : s₁.heap = h0 := by rw [← hh, Bd.state]; rfl
  have N0 := Fr.nil n0
  have Z0 : n0 ≤ h0.size := O0.1 ▸ O0.2.1
  have pre0 : ∀ t, Steps p.tables e below (s₁.setTop (mkF m 0 #[.val (.int p1), .val (.int p2), .unset, .unset, .unset] [])) t → Steps p.tables e below (s₁.setTop (entryFrame m #[(.int p1), (.int p2)] maxLocals)) t := fun t k => castTop (ef_0 m p1 p2) k
  obtain ⟨T4, X4, e4, st4⟩ := getS2 X0 hx hZ hown (host := "") (Or.inl (hw _ (List.mem_of_getElem? (i := 1) rfl))) Via.refl e0 (S_EXACTLY_ONE.ext O0.2) (g := (mkF m 11 #[.val (.int p1), .val (.int p2), .val (.int ((p1 &&& (2147483647 : Int32)) % (3 : Int32))), .unset, .unset] [])) rfl (hb hby at_11)
  obtain ⟨cq7, kq7, q7a, q7b, q7c⟩ := isOf hZ e4 HE_w3
  obtain ⟨vr7, _, ⟨T7, L7, k7, n7⟩, -, X7, ⟨Lc7, hQ7, l7, y7, z7⟩, st7⟩ := X4.virtualBack hx (y := (⟨"com/example/furnish/furnish/extension/Matches", "allows", "(I)Z"⟩ : MethodName)) (z := (⟨"com/example/furnish/furnish/extension/Matches", "allows", "(I)Z"⟩ : MethodName)) hown (mvT hZ (hw _ (List.mem_of_getElem? (i := 4) rfl))) (mvT hZ (hw _ (List.mem_of_getElem? (i := 5) rfl))) (notFace_of_selects (args := #[]) (mvT hZ (hw _ (List.mem_of_getElem? (i := 7) rfl)))) (mvT hZ (hw _ (List.mem_of_getElem? (i := 7) rfl))) (mvT hZ (hw _ (List.mem_of_getElem? (i := 6) rfl))) (by decide) (backOf (W := 0) (rm1 l Z a0 hw [] w3 p2 w5 w6 ((1 : Int32)) h0 n0 O0 HF_w3_least HF_w3_most h75_hr) hZ (hw _ (List.mem_of_getElem? (i := 8) rfl)) (hw _ (List.mem_of_getElem? (i := 2) rfl)) (by decide) (by decide)) q7a q7c (g := (mkF m 75 #[.val (.int p1), .val (.int p2), .val (.int ((p1 &&& (2147483647 : Int32)) % (3 : Int32))), .val (.ref w3), .val (.int (1 : Int32))] [(.int p2), (.ref w3)])) rfl (by rw [hml]; rfl) (Steps.refl _) (argsL := [(.int p2)]) (rest := []) (lenOf pd_0 rfl) rfl (by show 2 * 0 + _ ≤ _; exact Nat.le_of_eq rfl) (hb hby at_75) (fun _ _ => ⟨rfl, e4, (by decide : 0 + 0 ≤ _), (by decide : 0 + 0 ≤ _)⟩)
  dsimp only [Pt.U, Pt.locs, Pt.cells, Pt.slots] at X7 l7 y7 z7 st7 hQ7
  subst l7 y7 z7
  obtain ⟨rfl, N7q, e7⟩ := hQ7
  have N7 := Fr.app N0 N7q
  replace X7 := X7.more (cells' := 0) (slots' := 0) (by decide) (by decide)
  obtain ⟨fs, hr, hrun, hended, hW, hsame⟩ := X7.leave (v := some (.int (1 : Int32))) (fun h => by rw [Bd.returns] at h; cases h)
  refine ⟨_, _, pre0 _ ?_, hrun, hended, _, _, rfl, ?_, ⟨_, rfl⟩, hW, hsame.mono (by decide) (by decide)⟩
  · show Steps p.tables e below (s₁.setTop (mkF m 0 #[.val (.int p1), .val (.int p2), .unset, .unset, .unset] [])) _
    refine XS.iloadN X0.here hx rfl (hb hby at_0) rfl ?_
    show Steps p.tables e below (s₁.setTop (mkF m 1 #[.val (.int p1), .val (.int p2), .unset, .unset, .unset] [(.int p1)])) _
    refine X0.ldcInt hx hown (mvT hZ (hw _ (List.mem_of_getElem? (i := 0) rfl))) (g := (mkF m 1 #[.val (.int p1), .val (.int p2), .unset, .unset, .unset] [(.int p1)])) rfl (hb hby at_1) _ ?_
    show Steps p.tables e below (s₁.setTop (mkF m 3 #[.val (.int p1), .val (.int p2), .unset, .unset, .unset] [(.int (2147483647 : Int32)), (.int p1)])) _
    refine XS.iand X0.here hx rfl (hb hby at_3) rfl ?_
    show Steps p.tables e below (s₁.setTop (mkF m 4 #[.val (.int p1), .val (.int p2), .unset, .unset, .unset] [(.int (p1 &&& (2147483647 : Int32)))])) _
    refine XS.iconst X0.here hx rfl (hb hby at_4) ?_
    show Steps p.tables e below (s₁.setTop (mkF m 5 #[.val (.int p1), .val (.int p2), .unset, .unset, .unset] [(.int (3 : Int32)), (.int (p1 &&& (2147483647 : Int32)))])) _
    refine iremM X0 hx rfl (hb hby at_5) rfl (by decide : ¬ ((3 : Int32) = (0 : Int32))) ?_
    show Steps p.tables e below (s₁.setTop (mkF m 6 #[.val (.int p1), .val (.int p2), .unset, .unset, .unset] [(.int ((p1 &&& (2147483647 : Int32)) % (3 : Int32)))])) _
    refine XS.istoreN X0.here hx rfl (hb hby at_6) rfl (l' := #[.val (.int p1), .val (.int p2), .val (.int ((p1 &&& (2147483647 : Int32)) % (3 : Int32))), .unset, .unset]) rfl ?_
    show Steps p.tables e below (s₁.setTop (mkF m 7 #[.val (.int p1), .val (.int p2), .val (.int ((p1 &&& (2147483647 : Int32)) % (3 : Int32))), .unset, .unset] [])) _
    refine XS.iloadN X0.here hx rfl (hb hby at_7) rfl ?_
    show Steps p.tables e below (s₁.setTop (mkF m 8 #[.val (.int p1), .val (.int p2), .val (.int ((p1 &&& (2147483647 : Int32)) % (3 : Int32))), .unset, .unset] [(.int ((p1 &&& (2147483647 : Int32)) % (3 : Int32)))])) _
    refine XS.ifNo X0.here hx rfl (hb hby at_8) rfl ((if0 _ _).trans (teq hc8).2) ?_
    show Steps p.tables e below (s₁.setTop (mkF m 11 #[.val (.int p1), .val (.int p2), .val (.int ((p1 &&& (2147483647 : Int32)) % (3 : Int32))), .unset, .unset] [])) _
    refine st4 _ ?_
    show Steps p.tables e below (T4.setTop (mkF m 14 #[.val (.int p1), .val (.int p2), .val (.int ((p1 &&& (2147483647 : Int32)) % (3 : Int32))), .unset, .unset] [(.ref w3)])) _
    refine XS.astoreN X4.here hx rfl (hb hby at_14) rfl rfl (l' := #[.val (.int p1), .val (.int p2), .val (.int ((p1 &&& (2147483647 : Int32)) % (3 : Int32))), .val (.ref w3), .unset]) rfl ?_
    show Steps p.tables e below (T4.setTop (mkF m 15 #[.val (.int p1), .val (.int p2), .val (.int ((p1 &&& (2147483647 : Int32)) % (3 : Int32))), .val (.ref w3), .unset] [])) _
    refine XS.iloadN X4.here hx rfl (hb hby at_15) rfl ?_
    show Steps p.tables e below (T4.setTop (mkF m 16 #[.val (.int p1), .val (.int p2), .val (.int ((p1 &&& (2147483647 : Int32)) % (3 : Int32))), .val (.ref w3), .unset] [(.int p2)])) _
    refine XS.iconst X4.here hx rfl (hb hby at_16) ?_
    show Steps p.tables e below (T4.setTop (mkF m 17 #[.val (.int p1), .val (.int p2), .val (.int ((p1 &&& (2147483647 : Int32)) % (3 : Int32))), .val (.ref w3), .unset] [(.int (1 : Int32)), (.int p2)])) _
    refine XS.icmpNo X4.here hx rfl (hb hby at_17) rfl (teq hc17).2 ?_
    show Steps p.tables e below (T4.setTop (mkF m 20 #[.val (.int p1), .val (.int p2), .val (.int ((p1 &&& (2147483647 : Int32)) % (3 : Int32))), .val (.ref w3), .unset] [])) _
    refine XS.iconst X4.here hx rfl (hb hby at_20) ?_
    show Steps p.tables e below (T4.setTop (mkF m 21 #[.val (.int p1), .val (.int p2), .val (.int ((p1 &&& (2147483647 : Int32)) % (3 : Int32))), .val (.ref w3), .unset] [(.int (1 : Int32))])) _
    refine XS.goto X4.here hx rfl (pc0 := 21) (pc' := 25) rfl (hb hby at_21) (by decide) (by decide) ?_
    show Steps p.tables e below (T4.setTop (mkF m 25 #[.val (.int p1), .val (.int p2), .val (.int ((p1 &&& (2147483647 : Int32)) % (3 : Int32))), .val (.ref w3), .unset] [(.int (1 : Int32))])) _
    refine XS.istore X4.here hx rfl (hb hby at_25) rfl (l' := #[.val (.int p1), .val (.int p2), .val (.int ((p1 &&& (2147483647 : Int32)) % (3 : Int32))), .val (.ref w3), .val (.int (1 : Int32))]) rfl ?_
    show Steps p.tables e below (T4.setTop (mkF m 27 #[.val (.int p1), .val (.int p2), .val (.int ((p1 &&& (2147483647 : Int32)) % (3 : Int32))), .val (.ref w3), .val (.int (1 : Int32))] [])) _
    refine XS.goto X4.here hx rfl (pc0 := 27) (pc' := 73) rfl (hb hby at_27) (by decide) (by decide) ?_
    show Steps p.tables e below (T4.setTop (mkF m 73 #[.val (.int p1), .val (.int p2), .val (.int ((p1 &&& (2147483647 : Int32)) % (3 : Int32))), .val (.ref w3), .val (.int (1 : Int32))] [])) _
    refine XS.aloadN X4.here hx rfl (hb hby at_73) rfl rfl ?_
    show Steps p.tables e below (T4.setTop (mkF m 74 #[.val (.int p1), .val (.int p2), .val (.int ((p1 &&& (2147483647 : Int32)) % (3 : Int32))), .val (.ref w3), .val (.int (1 : Int32))] [(.ref w3)])) _
    refine XS.iloadN X4.here hx rfl (hb hby at_74) rfl ?_
    show Steps p.tables e below (T4.setTop (mkF m 75 #[.val (.int p1), .val (.int p2), .val (.int ((p1 &&& (2147483647 : Int32)) % (3 : Int32))), .val (.ref w3), .val (.int (1 : Int32))] [(.int p2), (.ref w3)])) _
    refine st7.trans ?_
    show Steps p.tables e below (T7.setTop (mkF m 78 #[.val (.int p1), .val (.int p2), .val (.int ((p1 &&& (2147483647 : Int32)) % (3 : Int32))), .val (.ref w3), .val (.int (1 : Int32))] [(.int (1 : Int32))])) _
    refine XS.iload X7.here hx rfl (hb hby at_78) rfl ?_
    show Steps p.tables e below (T7.setTop (mkF m 80 #[.val (.int p1), .val (.int p2), .val (.int ((p1 &&& (2147483647 : Int32)) % (3 : Int32))), .val (.ref w3), .val (.int (1 : Int32))] [(.int (1 : Int32)), (.int (1 : Int32))])) _
    refine XS.icmpNo X7.here hx rfl (hb hby at_80) rfl (teq (by decide : (1 : Int32) = (1 : Int32))).2 ?_
    show Steps p.tables e below (T7.setTop (mkF m 83 #[.val (.int p1), .val (.int p2), .val (.int ((p1 &&& (2147483647 : Int32)) % (3 : Int32))), .val (.ref w3), .val (.int (1 : Int32))] [])) _
    refine XS.iconst X7.here hx rfl (hb hby at_83) ?_
    show Steps p.tables e below (T7.setTop (mkF m 84 #[.val (.int p1), .val (.int p2), .val (.int ((p1 &&& (2147483647 : Int32)) % (3 : Int32))), .val (.ref w3), .val (.int (1 : Int32))] [(.int (1 : Int32))])) _
    refine XS.goto X7.here hx rfl (pc0 := 84) (pc' := 88) rfl (hb hby at_84) (by decide) (by decide) ?_
    show Steps p.tables e below (T7.setTop (mkF m 88 #[.val (.int p1), .val (.int p2), .val (.int ((p1 &&& (2147483647 : Int32)) % (3 : Int32))), .val (.ref w3), .val (.int (1 : Int32))] [(.int (1 : Int32))])) _
    exact retN X7 hx (t := .boolean) Bd.returns (by simp) (hb hby at_88) hr
  · skip
    exact ⟨rfl, N7⟩
set_option maxRecDepth 65536 in
set_option maxHeartbeats 40000000 in
theorem rm0c (l : Launch) (Z : State) (a0 : Array Value) (hw : ∀ d ∈ tables_1, d.before a0 Z = true) (ws : List Jvm.Cond) (p1 p2 : Int32) (w3 : Addr) (w5 w6 : Int32) (h0 : Heap) (n0 : Nat) (O0 : Old Z n0 h0) (hc8 : ¬ (((p1 &&& (2147483647 : Int32)) % (3 : Int32)) = (0 : Int32))) (hc32 : ((p1 &&& (2147483647 : Int32)) % (3 : Int32)) = (1 : Int32)) (S_AT_MOST_ONE : Sta Z Z.heap "com/example/furnish/furnish/extension/Matches" "AT_MOST_ONE" "Lcom/example/furnish/furnish/extension/Matches;" (.ref w3)) (hc40 : p2 = (0 : Int32)) (HF_w3_least : Fld Z h0 w3 "com/example/furnish/furnish/extension/Matches" "least" "I" (.int w5)) (HF_w3_most : Fld Z h0 w3 "com/example/furnish/furnish/extension/Matches" "most" "I" (.int w6)) (h75_hr : (1 : Int32) = if p2 < w5 ∨ w6 < p2 then (0 : Int32) else (1 : Int32)) (HE_w3 : Exa Z h0 w3 "com/example/furnish/furnish/extension/Matches") :
    own_Met l Z ws #[(.int p1), (.int p2)] h0 n0 := by
  refine MetFree.of_bodySF (plainFor_of_name pnc_com_example_furnish_furnish_extension_MatchesAllowsPinLaw) hisR ?_
  intro p e s m args below meth c s₁ Bd hml0 hP hK
  obtain ⟨rfl, hZ, hh⟩ := hP
  have hx := Bd.exec
  have hby := Bd.bytes
  have hml : c.maxLocals = 5 := hml0
  have hown : s.vm.findClass "com/example/furnish/furnish/extension/MatchesAllowsPinLaw" = some m.cls := findClass_of_methodNamed Bd.named
  have hnm := (name_of_methodNamed Bd.named Bd.method).1
  have X0 : Stand p l e room_1 s m #[(.int p1), (.int p2)] below meth c s₁ [] 0 0 := Stand.of_body Bd
  have e0 : s₁.heap = h0 := by rw [← hh, Bd.state]; rfl
  have N0 := Fr.nil n0
  have Z0 : n0 ≤ h0.size := O0.1 ▸ O0.2.1
  have pre0 : ∀ t, Steps p.tables e below (s₁.setTop (mkF m 0 #[.val (.int p1), .val (.int p2), .unset, .unset, .unset] [])) t → Steps p.tables e below (s₁.setTop (entryFrame m #[(.int p1), (.int p2)] maxLocals)) t := fun t k => castTop (ef_0 m p1 p2) k
  obtain ⟨T4, X4, e4, st4⟩ := getS2 X0 hx hZ hown (host := "") (Or.inl (hw _ (List.mem_of_getElem? (i := 15) rfl))) Via.refl e0 (S_AT_MOST_ONE.ext O0.2) (g := (mkF m 35 #[.val (.int p1), .val (.int p2), .val (.int ((p1 &&& (2147483647 : Int32)) % (3 : Int32))), .unset, .unset] [])) rfl (hb hby at_35)
  obtain ⟨cq7, kq7, q7a, q7b, q7c⟩ := isOf hZ e4 HE_w3
  obtain ⟨vr7, _, ⟨T7, L7, k7, n7⟩, -, X7, ⟨Lc7, hQ7, l7, y7, z7⟩, st7⟩ := X4.virtualBack hx (y := (⟨"com/example/furnish/furnish/extension/Matches", "allows", "(I)Z"⟩ : MethodName)) (z := (⟨"com/example/furnish/furnish/extension/Matches", "allows", "(I)Z"⟩ : MethodName)) hown (mvT hZ (hw _ (List.mem_of_getElem? (i := 4) rfl))) (mvT hZ (hw _ (List.mem_of_getElem? (i := 5) rfl))) (notFace_of_selects (args := #[]) (mvT hZ (hw _ (List.mem_of_getElem? (i := 7) rfl)))) (mvT hZ (hw _ (List.mem_of_getElem? (i := 7) rfl))) (mvT hZ (hw _ (List.mem_of_getElem? (i := 6) rfl))) (by decide) (backOf (W := 0) (rm1 l Z a0 hw [] w3 p2 w5 w6 ((1 : Int32)) h0 n0 O0 HF_w3_least HF_w3_most h75_hr) hZ (hw _ (List.mem_of_getElem? (i := 8) rfl)) (hw _ (List.mem_of_getElem? (i := 2) rfl)) (by decide) (by decide)) q7a q7c (g := (mkF m 75 #[.val (.int p1), .val (.int p2), .val (.int ((p1 &&& (2147483647 : Int32)) % (3 : Int32))), .val (.ref w3), .val (.int (1 : Int32))] [(.int p2), (.ref w3)])) rfl (by rw [hml]; rfl) (Steps.refl _) (argsL := [(.int p2)]) (rest := []) (lenOf pd_0 rfl) rfl (by show 2 * 0 + _ ≤ _; exact Nat.le_of_eq rfl) (hb hby at_75) (fun _ _ => ⟨rfl, e4, (by decide : 0 + 0 ≤ _), (by decide : 0 + 0 ≤ _)⟩)
  dsimp only [Pt.U, Pt.locs, Pt.cells, Pt.slots] at X7 l7 y7 z7 st7 hQ7
  subst l7 y7 z7
  obtain ⟨rfl, N7q, e7⟩ := hQ7
  have N7 := Fr.app N0 N7q
  replace X7 := X7.more (cells' := 0) (slots' := 0) (by decide) (by decide)
  obtain ⟨fs, hr, hrun, hended, hW, hsame⟩ := X7.leave (v := some (.int (1 : Int32))) (fun h => by rw [Bd.returns] at h; cases h)
  refine ⟨_, _, pre0 _ ?_, hrun, hended, _, _, rfl, ?_, ⟨_, rfl⟩, hW, hsame.mono (by decide) (by decide)⟩
  · show Steps p.tables e below (s₁.setTop (mkF m 0 #[.val (.int p1), .val (.int p2), .unset, .unset, .unset] [])) _
    refine XS.iloadN X0.here hx rfl (hb hby at_0) rfl ?_
    show Steps p.tables e below (s₁.setTop (mkF m 1 #[.val (.int p1), .val (.int p2), .unset, .unset, .unset] [(.int p1)])) _
    refine X0.ldcInt hx hown (mvT hZ (hw _ (List.mem_of_getElem? (i := 0) rfl))) (g := (mkF m 1 #[.val (.int p1), .val (.int p2), .unset, .unset, .unset] [(.int p1)])) rfl (hb hby at_1) _ ?_
    show Steps p.tables e below (s₁.setTop (mkF m 3 #[.val (.int p1), .val (.int p2), .unset, .unset, .unset] [(.int (2147483647 : Int32)), (.int p1)])) _
    refine XS.iand X0.here hx rfl (hb hby at_3) rfl ?_
    show Steps p.tables e below (s₁.setTop (mkF m 4 #[.val (.int p1), .val (.int p2), .unset, .unset, .unset] [(.int (p1 &&& (2147483647 : Int32)))])) _
    refine XS.iconst X0.here hx rfl (hb hby at_4) ?_
    show Steps p.tables e below (s₁.setTop (mkF m 5 #[.val (.int p1), .val (.int p2), .unset, .unset, .unset] [(.int (3 : Int32)), (.int (p1 &&& (2147483647 : Int32)))])) _
    refine iremM X0 hx rfl (hb hby at_5) rfl (by decide : ¬ ((3 : Int32) = (0 : Int32))) ?_
    show Steps p.tables e below (s₁.setTop (mkF m 6 #[.val (.int p1), .val (.int p2), .unset, .unset, .unset] [(.int ((p1 &&& (2147483647 : Int32)) % (3 : Int32)))])) _
    refine XS.istoreN X0.here hx rfl (hb hby at_6) rfl (l' := #[.val (.int p1), .val (.int p2), .val (.int ((p1 &&& (2147483647 : Int32)) % (3 : Int32))), .unset, .unset]) rfl ?_
    show Steps p.tables e below (s₁.setTop (mkF m 7 #[.val (.int p1), .val (.int p2), .val (.int ((p1 &&& (2147483647 : Int32)) % (3 : Int32))), .unset, .unset] [])) _
    refine XS.iloadN X0.here hx rfl (hb hby at_7) rfl ?_
    show Steps p.tables e below (s₁.setTop (mkF m 8 #[.val (.int p1), .val (.int p2), .val (.int ((p1 &&& (2147483647 : Int32)) % (3 : Int32))), .unset, .unset] [(.int ((p1 &&& (2147483647 : Int32)) % (3 : Int32)))])) _
    refine XS.ifYes X0.here hx rfl (pc0 := 8) (pc' := 30) rfl (hb hby at_8) rfl ((if0 _ _).trans (feq hc8).2) (by decide) (by decide) ?_
    show Steps p.tables e below (s₁.setTop (mkF m 30 #[.val (.int p1), .val (.int p2), .val (.int ((p1 &&& (2147483647 : Int32)) % (3 : Int32))), .unset, .unset] [])) _
    refine XS.iloadN X0.here hx rfl (hb hby at_30) rfl ?_
    show Steps p.tables e below (s₁.setTop (mkF m 31 #[.val (.int p1), .val (.int p2), .val (.int ((p1 &&& (2147483647 : Int32)) % (3 : Int32))), .unset, .unset] [(.int ((p1 &&& (2147483647 : Int32)) % (3 : Int32)))])) _
    refine XS.iconst X0.here hx rfl (hb hby at_31) ?_
    show Steps p.tables e below (s₁.setTop (mkF m 32 #[.val (.int p1), .val (.int p2), .val (.int ((p1 &&& (2147483647 : Int32)) % (3 : Int32))), .unset, .unset] [(.int (1 : Int32)), (.int ((p1 &&& (2147483647 : Int32)) % (3 : Int32)))])) _
    refine XS.icmpNo X0.here hx rfl (hb hby at_32) rfl (teq hc32).2 ?_
    show Steps p.tables e below (s₁.setTop (mkF m 35 #[.val (.int p1), .val (.int p2), .val (.int ((p1 &&& (2147483647 : Int32)) % (3 : Int32))), .unset, .unset] [])) _
    refine st4 _ ?_
    show Steps p.tables e below (T4.setTop (mkF m 38 #[.val (.int p1), .val (.int p2), .val (.int ((p1 &&& (2147483647 : Int32)) % (3 : Int32))), .unset, .unset] [(.ref w3)])) _
    refine XS.astoreN X4.here hx rfl (hb hby at_38) rfl rfl (l' := #[.val (.int p1), .val (.int p2), .val (.int ((p1 &&& (2147483647 : Int32)) % (3 : Int32))), .val (.ref w3), .unset]) rfl ?_
    show Steps p.tables e below (T4.setTop (mkF m 39 #[.val (.int p1), .val (.int p2), .val (.int ((p1 &&& (2147483647 : Int32)) % (3 : Int32))), .val (.ref w3), .unset] [])) _
    refine XS.iloadN X4.here hx rfl (hb hby at_39) rfl ?_
    show Steps p.tables e below (T4.setTop (mkF m 40 #[.val (.int p1), .val (.int p2), .val (.int ((p1 &&& (2147483647 : Int32)) % (3 : Int32))), .val (.ref w3), .unset] [(.int p2)])) _
    refine XS.ifYes X4.here hx rfl (pc0 := 40) (pc' := 48) rfl (hb hby at_40) rfl ((if0 _ _).trans (teq hc40).1) (by decide) (by decide) ?_
    show Steps p.tables e below (T4.setTop (mkF m 48 #[.val (.int p1), .val (.int p2), .val (.int ((p1 &&& (2147483647 : Int32)) % (3 : Int32))), .val (.ref w3), .unset] [])) _
    refine XS.iconst X4.here hx rfl (hb hby at_48) ?_
    show Steps p.tables e below (T4.setTop (mkF m 49 #[.val (.int p1), .val (.int p2), .val (.int ((p1 &&& (2147483647 : Int32)) % (3 : Int32))), .val (.ref w3), .unset] [(.int (1 : Int32))])) _
    refine XS.goto X4.here hx rfl (pc0 := 49) (pc' := 53) rfl (hb hby at_49) (by decide) (by decide) ?_
    show Steps p.tables e below (T4.setTop (mkF m 53 #[.val (.int p1), .val (.int p2), .val (.int ((p1 &&& (2147483647 : Int32)) % (3 : Int32))), .val (.ref w3), .unset] [(.int (1 : Int32))])) _
    refine XS.istore X4.here hx rfl (hb hby at_53) rfl (l' := #[.val (.int p1), .val (.int p2), .val (.int ((p1 &&& (2147483647 : Int32)) % (3 : Int32))), .val (.ref w3), .val (.int (1 : Int32))]) rfl ?_
    show Steps p.tables e below (T4.setTop (mkF m 55 #[.val (.int p1), .val (.int p2), .val (.int ((p1 &&& (2147483647 : Int32)) % (3 : Int32))), .val (.ref w3), .val (.int (1 : Int32))] [])) _
    refine XS.goto X4.here hx rfl (pc0 := 55) (pc' := 73) rfl (hb hby at_55) (by decide) (by decide) ?_
    show Steps p.tables e below (T4.setTop (mkF m 73 #[.val (.int p1), .val (.int p2), .val (.int ((p1 &&& (2147483647 : Int32)) % (3 : Int32))), .val (.ref w3), .val (.int (1 : Int32))] [])) _
    refine XS.aloadN X4.here hx rfl (hb hby at_73) rfl rfl ?_
    show Steps p.tables e below (T4.setTop (mkF m 74 #[.val (.int p1), .val (.int p2), .val (.int ((p1 &&& (2147483647 : Int32)) % (3 : Int32))), .val (.ref w3), .val (.int (1 : Int32))] [(.ref w3)])) _
    refine XS.iloadN X4.here hx rfl (hb hby at_74) rfl ?_
    show Steps p.tables e below (T4.setTop (mkF m 75 #[.val (.int p1), .val (.int p2), .val (.int ((p1 &&& (2147483647 : Int32)) % (3 : Int32))), .val (.ref w3), .val (.int (1 : Int32))] [(.int p2), (.ref w3)])) _
    refine st7.trans ?_
    show Steps p.tables e below (T7.setTop (mkF m 78 #[.val (.int p1), .val (.int p2), .val (.int ((p1 &&& (2147483647 : Int32)) % (3 : Int32))), .val (.ref w3), .val (.int (1 : Int32))] [(.int (1 : Int32))])) _
    refine XS.iload X7.here hx rfl (hb hby at_78) rfl ?_
    show Steps p.tables e below (T7.setTop (mkF m 80 #[.val (.int p1), .val (.int p2), .val (.int ((p1 &&& (2147483647 : Int32)) % (3 : Int32))), .val (.ref w3), .val (.int (1 : Int32))] [(.int (1 : Int32)), (.int (1 : Int32))])) _
    refine XS.icmpNo X7.here hx rfl (hb hby at_80) rfl (teq (by decide : (1 : Int32) = (1 : Int32))).2 ?_
    show Steps p.tables e below (T7.setTop (mkF m 83 #[.val (.int p1), .val (.int p2), .val (.int ((p1 &&& (2147483647 : Int32)) % (3 : Int32))), .val (.ref w3), .val (.int (1 : Int32))] [])) _
    refine XS.iconst X7.here hx rfl (hb hby at_83) ?_
    show Steps p.tables e below (T7.setTop (mkF m 84 #[.val (.int p1), .val (.int p2), .val (.int ((p1 &&& (2147483647 : Int32)) % (3 : Int32))), .val (.ref w3), .val (.int (1 : Int32))] [(.int (1 : Int32))])) _
    refine XS.goto X7.here hx rfl (pc0 := 84) (pc' := 88) rfl (hb hby at_84) (by decide) (by decide) ?_
    show Steps p.tables e below (T7.setTop (mkF m 88 #[.val (.int p1), .val (.int p2), .val (.int ((p1 &&& (2147483647 : Int32)) % (3 : Int32))), .val (.ref w3), .val (.int (1 : Int32))] [(.int (1 : Int32))])) _
    exact retN X7 hx (t := .boolean) Bd.returns (by simp) (hb hby at_88) hr
  · skip
    exact ⟨rfl, N7⟩
set_option maxRecDepth 65536 in
set_option maxHeartbeats 40000000 in
theorem rm0d (l : Launch) (Z : State) (a0 : Array Value) (hw : ∀ d ∈ tables_1, d.before a0 Z = true) (ws : List Jvm.Cond) (p1 p2 : Int32) (w3 : Addr) (w5 w6 : Int32) (h0 : Heap) (n0 : Nat) (O0 : Old Z n0 h0) (hc8 : ¬ (((p1 &&& (2147483647 : Int32)) % (3 : Int32)) = (0 : Int32))) (hc32 : ((p1 &&& (2147483647 : Int32)) % (3 : Int32)) = (1 : Int32)) (S_AT_MOST_ONE : Sta Z Z.heap "com/example/furnish/furnish/extension/Matches" "AT_MOST_ONE" "Lcom/example/furnish/furnish/extension/Matches;" (.ref w3)) (hc40 : ¬ (p2 = (0 : Int32))) (hc45 : ¬ (p2 = (1 : Int32))) (HF_w3_least : Fld Z h0 w3 "com/example/furnish/furnish/extension/Matches" "least" "I" (.int w5)) (HF_w3_most : Fld Z h0 w3 "com/example/furnish/furnish/extension/Matches" "most" "I" (.int w6)) (h75_hr : (0 : Int32) = if p2 < w5 ∨ w6 < p2 then (0 : Int32) else (1 : Int32)) (HE_w3 : Exa Z h0 w3 "com/example/furnish/furnish/extension/Matches") :
    own_Met l Z ws #[(.int p1), (.int p2)] h0 n0 := by
  refine MetFree.of_bodySF (plainFor_of_name pnc_com_example_furnish_furnish_extension_MatchesAllowsPinLaw) hisR ?_
  intro p e s m args below meth c s₁ Bd hml0 hP hK
  obtain ⟨rfl, hZ, hh⟩ := hP
  have hx := Bd.exec
  have hby := Bd.bytes
  have hml : c.maxLocals = 5 := hml0
  have hown : s.vm.findClass "com/example/furnish/furnish/extension/MatchesAllowsPinLaw" = some m.cls := findClass_of_methodNamed Bd.named
  have hnm := (name_of_methodNamed Bd.named Bd.method).1
  have X0 : Stand p l e room_1 s m #[(.int p1), (.int p2)] below meth c s₁ [] 0 0 := Stand.of_body Bd
  have e0 : s₁.heap = h0 := by rw [← hh, Bd.state]; rfl
  have N0 := Fr.nil n0
  have Z0 : n0 ≤ h0.size := O0.1 ▸ O0.2.1
  have pre0 : ∀ t, Steps p.tables e below (s₁.setTop (mkF m 0 #[.val (.int p1), .val (.int p2), .unset, .unset, .unset] [])) t → Steps p.tables e below (s₁.setTop (entryFrame m #[(.int p1), (.int p2)] maxLocals)) t := fun t k => castTop (ef_0 m p1 p2) k
  obtain ⟨T4, X4, e4, st4⟩ := getS2 X0 hx hZ hown (host := "") (Or.inl (hw _ (List.mem_of_getElem? (i := 15) rfl))) Via.refl e0 (S_AT_MOST_ONE.ext O0.2) (g := (mkF m 35 #[.val (.int p1), .val (.int p2), .val (.int ((p1 &&& (2147483647 : Int32)) % (3 : Int32))), .unset, .unset] [])) rfl (hb hby at_35)
  obtain ⟨cq7, kq7, q7a, q7b, q7c⟩ := isOf hZ e4 HE_w3
  obtain ⟨vr7, _, ⟨T7, L7, k7, n7⟩, -, X7, ⟨Lc7, hQ7, l7, y7, z7⟩, st7⟩ := X4.virtualBack hx (y := (⟨"com/example/furnish/furnish/extension/Matches", "allows", "(I)Z"⟩ : MethodName)) (z := (⟨"com/example/furnish/furnish/extension/Matches", "allows", "(I)Z"⟩ : MethodName)) hown (mvT hZ (hw _ (List.mem_of_getElem? (i := 4) rfl))) (mvT hZ (hw _ (List.mem_of_getElem? (i := 5) rfl))) (notFace_of_selects (args := #[]) (mvT hZ (hw _ (List.mem_of_getElem? (i := 7) rfl)))) (mvT hZ (hw _ (List.mem_of_getElem? (i := 7) rfl))) (mvT hZ (hw _ (List.mem_of_getElem? (i := 6) rfl))) (by decide) (backOf (W := 0) (rm1 l Z a0 hw [] w3 p2 w5 w6 ((0 : Int32)) h0 n0 O0 HF_w3_least HF_w3_most h75_hr) hZ (hw _ (List.mem_of_getElem? (i := 8) rfl)) (hw _ (List.mem_of_getElem? (i := 2) rfl)) (by decide) (by decide)) q7a q7c (g := (mkF m 75 #[.val (.int p1), .val (.int p2), .val (.int ((p1 &&& (2147483647 : Int32)) % (3 : Int32))), .val (.ref w3), .val (.int (0 : Int32))] [(.int p2), (.ref w3)])) rfl (by rw [hml]; rfl) (Steps.refl _) (argsL := [(.int p2)]) (rest := []) (lenOf pd_0 rfl) rfl (by show 2 * 0 + _ ≤ _; exact Nat.le_of_eq rfl) (hb hby at_75) (fun _ _ => ⟨rfl, e4, (by decide : 0 + 0 ≤ _), (by decide : 0 + 0 ≤ _)⟩)
  dsimp only [Pt.U, Pt.locs, Pt.cells, Pt.slots] at X7 l7 y7 z7 st7 hQ7
  subst l7 y7 z7
  obtain ⟨rfl, N7q, e7⟩ := hQ7
  have N7 := Fr.app N0 N7q
  replace X7 := X7.more (cells' := 0) (slots' := 0) (by decide) (by decide)
  obtain ⟨fs, hr, hrun, hended, hW, hsame⟩ := X7.leave (v := some (.int (1 : Int32))) (fun h => by rw [Bd.returns] at h; cases h)
  refine ⟨_, _, pre0 _ ?_, hrun, hended, _, _, rfl, ?_, ⟨_, rfl⟩, hW, hsame.mono (by decide) (by decide)⟩
  · show Steps p.tables e below (s₁.setTop (mkF m 0 #[.val (.int p1), .val (.int p2), .unset, .unset, .unset] [])) _
    refine XS.iloadN X0.here hx rfl (hb hby at_0) rfl ?_
    show Steps p.tables e below (s₁.setTop (mkF m 1 #[.val (.int p1), .val (.int p2), .unset, .unset, .unset] [(.int p1)])) _
    refine X0.ldcInt hx hown (mvT hZ (hw _ (List.mem_of_getElem? (i := 0) rfl))) (g := (mkF m 1 #[.val (.int p1), .val (.int p2), .unset, .unset, .unset] [(.int p1)])) rfl (hb hby at_1) _ ?_
    show Steps p.tables e below (s₁.setTop (mkF m 3 #[.val (.int p1), .val (.int p2), .unset, .unset, .unset] [(.int (2147483647 : Int32)), (.int p1)])) _
    refine XS.iand X0.here hx rfl (hb hby at_3) rfl ?_
    show Steps p.tables e below (s₁.setTop (mkF m 4 #[.val (.int p1), .val (.int p2), .unset, .unset, .unset] [(.int (p1 &&& (2147483647 : Int32)))])) _
    refine XS.iconst X0.here hx rfl (hb hby at_4) ?_
    show Steps p.tables e below (s₁.setTop (mkF m 5 #[.val (.int p1), .val (.int p2), .unset, .unset, .unset] [(.int (3 : Int32)), (.int (p1 &&& (2147483647 : Int32)))])) _
    refine iremM X0 hx rfl (hb hby at_5) rfl (by decide : ¬ ((3 : Int32) = (0 : Int32))) ?_
    show Steps p.tables e below (s₁.setTop (mkF m 6 #[.val (.int p1), .val (.int p2), .unset, .unset, .unset] [(.int ((p1 &&& (2147483647 : Int32)) % (3 : Int32)))])) _
    refine XS.istoreN X0.here hx rfl (hb hby at_6) rfl (l' := #[.val (.int p1), .val (.int p2), .val (.int ((p1 &&& (2147483647 : Int32)) % (3 : Int32))), .unset, .unset]) rfl ?_
    show Steps p.tables e below (s₁.setTop (mkF m 7 #[.val (.int p1), .val (.int p2), .val (.int ((p1 &&& (2147483647 : Int32)) % (3 : Int32))), .unset, .unset] [])) _
    refine XS.iloadN X0.here hx rfl (hb hby at_7) rfl ?_
    show Steps p.tables e below (s₁.setTop (mkF m 8 #[.val (.int p1), .val (.int p2), .val (.int ((p1 &&& (2147483647 : Int32)) % (3 : Int32))), .unset, .unset] [(.int ((p1 &&& (2147483647 : Int32)) % (3 : Int32)))])) _
    refine XS.ifYes X0.here hx rfl (pc0 := 8) (pc' := 30) rfl (hb hby at_8) rfl ((if0 _ _).trans (feq hc8).2) (by decide) (by decide) ?_
    show Steps p.tables e below (s₁.setTop (mkF m 30 #[.val (.int p1), .val (.int p2), .val (.int ((p1 &&& (2147483647 : Int32)) % (3 : Int32))), .unset, .unset] [])) _
    refine XS.iloadN X0.here hx rfl (hb hby at_30) rfl ?_
    show Steps p.tables e below (s₁.setTop (mkF m 31 #[.val (.int p1), .val (.int p2), .val (.int ((p1 &&& (2147483647 : Int32)) % (3 : Int32))), .unset, .unset] [(.int ((p1 &&& (2147483647 : Int32)) % (3 : Int32)))])) _
    refine XS.iconst X0.here hx rfl (hb hby at_31) ?_
    show Steps p.tables e below (s₁.setTop (mkF m 32 #[.val (.int p1), .val (.int p2), .val (.int ((p1 &&& (2147483647 : Int32)) % (3 : Int32))), .unset, .unset] [(.int (1 : Int32)), (.int ((p1 &&& (2147483647 : Int32)) % (3 : Int32)))])) _
    refine XS.icmpNo X0.here hx rfl (hb hby at_32) rfl (teq hc32).2 ?_
    show Steps p.tables e below (s₁.setTop (mkF m 35 #[.val (.int p1), .val (.int p2), .val (.int ((p1 &&& (2147483647 : Int32)) % (3 : Int32))), .unset, .unset] [])) _
    refine st4 _ ?_
    show Steps p.tables e below (T4.setTop (mkF m 38 #[.val (.int p1), .val (.int p2), .val (.int ((p1 &&& (2147483647 : Int32)) % (3 : Int32))), .unset, .unset] [(.ref w3)])) _
    refine XS.astoreN X4.here hx rfl (hb hby at_38) rfl rfl (l' := #[.val (.int p1), .val (.int p2), .val (.int ((p1 &&& (2147483647 : Int32)) % (3 : Int32))), .val (.ref w3), .unset]) rfl ?_
    show Steps p.tables e below (T4.setTop (mkF m 39 #[.val (.int p1), .val (.int p2), .val (.int ((p1 &&& (2147483647 : Int32)) % (3 : Int32))), .val (.ref w3), .unset] [])) _
    refine XS.iloadN X4.here hx rfl (hb hby at_39) rfl ?_
    show Steps p.tables e below (T4.setTop (mkF m 40 #[.val (.int p1), .val (.int p2), .val (.int ((p1 &&& (2147483647 : Int32)) % (3 : Int32))), .val (.ref w3), .unset] [(.int p2)])) _
    refine XS.ifNo X4.here hx rfl (hb hby at_40) rfl ((if0 _ _).trans (feq hc40).1) ?_
    show Steps p.tables e below (T4.setTop (mkF m 43 #[.val (.int p1), .val (.int p2), .val (.int ((p1 &&& (2147483647 : Int32)) % (3 : Int32))), .val (.ref w3), .unset] [])) _
    refine XS.iloadN X4.here hx rfl (hb hby at_43) rfl ?_
    show Steps p.tables e below (T4.setTop (mkF m 44 #[.val (.int p1), .val (.int p2), .val (.int ((p1 &&& (2147483647 : Int32)) % (3 : Int32))), .val (.ref w3), .unset] [(.int p2)])) _
    refine XS.iconst X4.here hx rfl (hb hby at_44) ?_
    show Steps p.tables e below (T4.setTop (mkF m 45 #[.val (.int p1), .val (.int p2), .val (.int ((p1 &&& (2147483647 : Int32)) % (3 : Int32))), .val (.ref w3), .unset] [(.int (1 : Int32)), (.int p2)])) _
    refine XS.icmpYes X4.here hx rfl (pc0 := 45) (pc' := 52) rfl (hb hby at_45) rfl (feq hc45).2 (by decide) (by decide) ?_
    show Steps p.tables e below (T4.setTop (mkF m 52 #[.val (.int p1), .val (.int p2), .val (.int ((p1 &&& (2147483647 : Int32)) % (3 : Int32))), .val (.ref w3), .unset] [])) _
    refine XS.iconst X4.here hx rfl (hb hby at_52) ?_
    show Steps p.tables e below (T4.setTop (mkF m 53 #[.val (.int p1), .val (.int p2), .val (.int ((p1 &&& (2147483647 : Int32)) % (3 : Int32))), .val (.ref w3), .unset] [(.int (0 : Int32))])) _
    refine XS.istore X4.here hx rfl (hb hby at_53) rfl (l' := #[.val (.int p1), .val (.int p2), .val (.int ((p1 &&& (2147483647 : Int32)) % (3 : Int32))), .val (.ref w3), .val (.int (0 : Int32))]) rfl ?_
    show Steps p.tables e below (T4.setTop (mkF m 55 #[.val (.int p1), .val (.int p2), .val (.int ((p1 &&& (2147483647 : Int32)) % (3 : Int32))), .val (.ref w3), .val (.int (0 : Int32))] [])) _
    refine XS.goto X4.here hx rfl (pc0 := 55) (pc' := 73) rfl (hb hby at_55) (by decide) (by decide) ?_
    show Steps p.tables e below (T4.setTop (mkF m 73 #[.val (.int p1), .val (.int p2), .val (.int ((p1 &&& (2147483647 : Int32)) % (3 : Int32))), .val (.ref w3), .val (.int (0 : Int32))] [])) _
    refine XS.aloadN X4.here hx rfl (hb hby at_73) rfl rfl ?_
    show Steps p.tables e below (T4.setTop (mkF m 74 #[.val (.int p1), .val (.int p2), .val (.int ((p1 &&& (2147483647 : Int32)) % (3 : Int32))), .val (.ref w3), .val (.int (0 : Int32))] [(.ref w3)])) _
    refine XS.iloadN X4.here hx rfl (hb hby at_74) rfl ?_
    show Steps p.tables e below (T4.setTop (mkF m 75 #[.val (.int p1), .val (.int p2), .val (.int ((p1 &&& (2147483647 : Int32)) % (3 : Int32))), .val (.ref w3), .val (.int (0 : Int32))] [(.int p2), (.ref w3)])) _
    refine st7.trans ?_
    show Steps p.tables e below (T7.setTop (mkF m 78 #[.val (.int p1), .val (.int p2), .val (.int ((p1 &&& (2147483647 : Int32)) % (3 : Int32))), .val (.ref w3), .val (.int (0 : Int32))] [(.int (0 : Int32))])) _
    refine XS.iload X7.here hx rfl (hb hby at_78) rfl ?_
    show Steps p.tables e below (T7.setTop (mkF m 80 #[.val (.int p1), .val (.int p2), .val (.int ((p1 &&& (2147483647 : Int32)) % (3 : Int32))), .val (.ref w3), .val (.int (0 : Int32))] [(.int (0 : Int32)), (.int (0 : Int32))])) _
    refine XS.icmpNo X7.here hx rfl (hb hby at_80) rfl (teq (by decide : (0 : Int32) = (0 : Int32))).2 ?_
    show Steps p.tables e below (T7.setTop (mkF m 83 #[.val (.int p1), .val (.int p2), .val (.int ((p1 &&& (2147483647 : Int32)) % (3 : Int32))), .val (.ref w3), .val (.int (0 : Int32))] [])) _
    refine XS.iconst X7.here hx rfl (hb hby at_83) ?_
    show Steps p.tables e below (T7.setTop (mkF m 84 #[.val (.int p1), .val (.int p2), .val (.int ((p1 &&& (2147483647 : Int32)) % (3 : Int32))), .val (.ref w3), .val (.int (0 : Int32))] [(.int (1 : Int32))])) _
    refine XS.goto X7.here hx rfl (pc0 := 84) (pc' := 88) rfl (hb hby at_84) (by decide) (by decide) ?_
    show Steps p.tables e below (T7.setTop (mkF m 88 #[.val (.int p1), .val (.int p2), .val (.int ((p1 &&& (2147483647 : Int32)) % (3 : Int32))), .val (.ref w3), .val (.int (0 : Int32))] [(.int (1 : Int32))])) _
    exact retN X7 hx (t := .boolean) Bd.returns (by simp) (hb hby at_88) hr
  · skip
    exact ⟨rfl, N7⟩
set_option maxRecDepth 65536 in
set_option maxHeartbeats 40000000 in
theorem rm0e (l : Launch) (Z : State) (a0 : Array Value) (hw : ∀ d ∈ tables_1, d.before a0 Z = true) (ws : List Jvm.Cond) (p1 p2 : Int32) (w3 : Addr) (w5 w6 : Int32) (h0 : Heap) (n0 : Nat) (O0 : Old Z n0 h0) (hc8 : ¬ (((p1 &&& (2147483647 : Int32)) % (3 : Int32)) = (0 : Int32))) (hc32 : ((p1 &&& (2147483647 : Int32)) % (3 : Int32)) = (1 : Int32)) (S_AT_MOST_ONE : Sta Z Z.heap "com/example/furnish/furnish/extension/Matches" "AT_MOST_ONE" "Lcom/example/furnish/furnish/extension/Matches;" (.ref w3)) (hc40 : ¬ (p2 = (0 : Int32))) (hc45 : p2 = (1 : Int32)) (HF_w3_least : Fld Z h0 w3 "com/example/furnish/furnish/extension/Matches" "least" "I" (.int w5)) (HF_w3_most : Fld Z h0 w3 "com/example/furnish/furnish/extension/Matches" "most" "I" (.int w6)) (h75_hr : (1 : Int32) = if p2 < w5 ∨ w6 < p2 then (0 : Int32) else (1 : Int32)) (HE_w3 : Exa Z h0 w3 "com/example/furnish/furnish/extension/Matches") :
    own_Met l Z ws #[(.int p1), (.int p2)] h0 n0 := by
  refine MetFree.of_bodySF (plainFor_of_name pnc_com_example_furnish_furnish_extension_MatchesAllowsPinLaw) hisR ?_
  intro p e s m args below meth c s₁ Bd hml0 hP hK
  obtain ⟨rfl, hZ, hh⟩ := hP
  have hx := Bd.exec
  have hby := Bd.bytes
  have hml : c.maxLocals = 5 := hml0
  have hown : s.vm.findClass "com/example/furnish/furnish/extension/MatchesAllowsPinLaw" = some m.cls := findClass_of_methodNamed Bd.named
  have hnm := (name_of_methodNamed Bd.named Bd.method).1
  have X0 : Stand p l e room_1 s m #[(.int p1), (.int p2)] below meth c s₁ [] 0 0 := Stand.of_body Bd
  have e0 : s₁.heap = h0 := by rw [← hh, Bd.state]; rfl
  have N0 := Fr.nil n0
  have Z0 : n0 ≤ h0.size := O0.1 ▸ O0.2.1
  have pre0 : ∀ t, Steps p.tables e below (s₁.setTop (mkF m 0 #[.val (.int p1), .val (.int p2), .unset, .unset, .unset] [])) t → Steps p.tables e below (s₁.setTop (entryFrame m #[(.int p1), (.int p2)] maxLocals)) t := fun t k => castTop (ef_0 m p1 p2) k
  obtain ⟨T4, X4, e4, st4⟩ := getS2 X0 hx hZ hown (host := "") (Or.inl (hw _ (List.mem_of_getElem? (i := 15) rfl))) Via.refl e0 (S_AT_MOST_ONE.ext O0.2) (g := (mkF m 35 #[.val (.int p1), .val (.int p2), .val (.int ((p1 &&& (2147483647 : Int32)) % (3 : Int32))), .unset, .unset] [])) rfl (hb hby at_35)
  obtain ⟨cq7, kq7, q7a, q7b, q7c⟩ := isOf hZ e4 HE_w3
  obtain ⟨vr7, _, ⟨T7, L7, k7, n7⟩, -, X7, ⟨Lc7, hQ7, l7, y7, z7⟩, st7⟩ := X4.virtualBack hx (y := (⟨"com/example/furnish/furnish/extension/Matches", "allows", "(I)Z"⟩ : MethodName)) (z := (⟨"com/example/furnish/furnish/extension/Matches", "allows", "(I)Z"⟩ : MethodName)) hown (mvT hZ (hw _ (List.mem_of_getElem? (i := 4) rfl))) (mvT hZ (hw _ (List.mem_of_getElem? (i := 5) rfl))) (notFace_of_selects (args := #[]) (mvT hZ (hw _ (List.mem_of_getElem? (i := 7) rfl)))) (mvT hZ (hw _ (List.mem_of_getElem? (i := 7) rfl))) (mvT hZ (hw _ (List.mem_of_getElem? (i := 6) rfl))) (by decide) (backOf (W := 0) (rm1 l Z a0 hw [] w3 p2 w5 w6 ((1 : Int32)) h0 n0 O0 HF_w3_least HF_w3_most h75_hr) hZ (hw _ (List.mem_of_getElem? (i := 8) rfl)) (hw _ (List.mem_of_getElem? (i := 2) rfl)) (by decide) (by decide)) q7a q7c (g := (mkF m 75 #[.val (.int p1), .val (.int p2), .val (.int ((p1 &&& (2147483647 : Int32)) % (3 : Int32))), .val (.ref w3), .val (.int (1 : Int32))] [(.int p2), (.ref w3)])) rfl (by rw [hml]; rfl) (Steps.refl _) (argsL := [(.int p2)]) (rest := []) (lenOf pd_0 rfl) rfl (by show 2 * 0 + _ ≤ _; exact Nat.le_of_eq rfl) (hb hby at_75) (fun _ _ => ⟨rfl, e4, (by decide : 0 + 0 ≤ _), (by decide : 0 + 0 ≤ _)⟩)
  dsimp only [Pt.U, Pt.locs, Pt.cells, Pt.slots] at X7 l7 y7 z7 st7 hQ7
  subst l7 y7 z7
  obtain ⟨rfl, N7q, e7⟩ := hQ7
  have N7 := Fr.app N0 N7q
  replace X7 := X7.more (cells' := 0) (slots' := 0) (by decide) (by decide)
  obtain ⟨fs, hr, hrun, hended, hW, hsame⟩ := X7.leave (v := some (.int (1 : Int32))) (fun h => by rw [Bd.returns] at h; cases h)
  refine ⟨_, _, pre0 _ ?_, hrun, hended, _, _, rfl, ?_, ⟨_, rfl⟩, hW, hsame.mono (by decide) (by decide)⟩
  · show Steps p.tables e below (s₁.setTop (mkF m 0 #[.val (.int p1), .val (.int p2), .unset, .unset, .unset] [])) _
    refine XS.iloadN X0.here hx rfl (hb hby at_0) rfl ?_
    show Steps p.tables e below (s₁.setTop (mkF m 1 #[.val (.int p1), .val (.int p2), .unset, .unset, .unset] [(.int p1)])) _
    refine X0.ldcInt hx hown (mvT hZ (hw _ (List.mem_of_getElem? (i := 0) rfl))) (g := (mkF m 1 #[.val (.int p1), .val (.int p2), .unset, .unset, .unset] [(.int p1)])) rfl (hb hby at_1) _ ?_
    show Steps p.tables e below (s₁.setTop (mkF m 3 #[.val (.int p1), .val (.int p2), .unset, .unset, .unset] [(.int (2147483647 : Int32)), (.int p1)])) _
    refine XS.iand X0.here hx rfl (hb hby at_3) rfl ?_
    show Steps p.tables e below (s₁.setTop (mkF m 4 #[.val (.int p1), .val (.int p2), .unset, .unset, .unset] [(.int (p1 &&& (2147483647 : Int32)))])) _
    refine XS.iconst X0.here hx rfl (hb hby at_4) ?_
    show Steps p.tables e below (s₁.setTop (mkF m 5 #[.val (.int p1), .val (.int p2), .unset, .unset, .unset] [(.int (3 : Int32)), (.int (p1 &&& (2147483647 : Int32)))])) _
    refine iremM X0 hx rfl (hb hby at_5) rfl (by decide : ¬ ((3 : Int32) = (0 : Int32))) ?_
    show Steps p.tables e below (s₁.setTop (mkF m 6 #[.val (.int p1), .val (.int p2), .unset, .unset, .unset] [(.int ((p1 &&& (2147483647 : Int32)) % (3 : Int32)))])) _
    refine XS.istoreN X0.here hx rfl (hb hby at_6) rfl (l' := #[.val (.int p1), .val (.int p2), .val (.int ((p1 &&& (2147483647 : Int32)) % (3 : Int32))), .unset, .unset]) rfl ?_
    show Steps p.tables e below (s₁.setTop (mkF m 7 #[.val (.int p1), .val (.int p2), .val (.int ((p1 &&& (2147483647 : Int32)) % (3 : Int32))), .unset, .unset] [])) _
    refine XS.iloadN X0.here hx rfl (hb hby at_7) rfl ?_
    show Steps p.tables e below (s₁.setTop (mkF m 8 #[.val (.int p1), .val (.int p2), .val (.int ((p1 &&& (2147483647 : Int32)) % (3 : Int32))), .unset, .unset] [(.int ((p1 &&& (2147483647 : Int32)) % (3 : Int32)))])) _
    refine XS.ifYes X0.here hx rfl (pc0 := 8) (pc' := 30) rfl (hb hby at_8) rfl ((if0 _ _).trans (feq hc8).2) (by decide) (by decide) ?_
    show Steps p.tables e below (s₁.setTop (mkF m 30 #[.val (.int p1), .val (.int p2), .val (.int ((p1 &&& (2147483647 : Int32)) % (3 : Int32))), .unset, .unset] [])) _
    refine XS.iloadN X0.here hx rfl (hb hby at_30) rfl ?_
    show Steps p.tables e below (s₁.setTop (mkF m 31 #[.val (.int p1), .val (.int p2), .val (.int ((p1 &&& (2147483647 : Int32)) % (3 : Int32))), .unset, .unset] [(.int ((p1 &&& (2147483647 : Int32)) % (3 : Int32)))])) _
    refine XS.iconst X0.here hx rfl (hb hby at_31) ?_
    show Steps p.tables e below (s₁.setTop (mkF m 32 #[.val (.int p1), .val (.int p2), .val (.int ((p1 &&& (2147483647 : Int32)) % (3 : Int32))), .unset, .unset] [(.int (1 : Int32)), (.int ((p1 &&& (2147483647 : Int32)) % (3 : Int32)))])) _
    refine XS.icmpNo X0.here hx rfl (hb hby at_32) rfl (teq hc32).2 ?_
    show Steps p.tables e below (s₁.setTop (mkF m 35 #[.val (.int p1), .val (.int p2), .val (.int ((p1 &&& (2147483647 : Int32)) % (3 : Int32))), .unset, .unset] [])) _
    refine st4 _ ?_
    show Steps p.tables e below (T4.setTop (mkF m 38 #[.val (.int p1), .val (.int p2), .val (.int ((p1 &&& (2147483647 : Int32)) % (3 : Int32))), .unset, .unset] [(.ref w3)])) _
    refine XS.astoreN X4.here hx rfl (hb hby at_38) rfl rfl (l' := #[.val (.int p1), .val (.int p2), .val (.int ((p1 &&& (2147483647 : Int32)) % (3 : Int32))), .val (.ref w3), .unset]) rfl ?_
    show Steps p.tables e below (T4.setTop (mkF m 39 #[.val (.int p1), .val (.int p2), .val (.int ((p1 &&& (2147483647 : Int32)) % (3 : Int32))), .val (.ref w3), .unset] [])) _
    refine XS.iloadN X4.here hx rfl (hb hby at_39) rfl ?_
    show Steps p.tables e below (T4.setTop (mkF m 40 #[.val (.int p1), .val (.int p2), .val (.int ((p1 &&& (2147483647 : Int32)) % (3 : Int32))), .val (.ref w3), .unset] [(.int p2)])) _
    refine XS.ifNo X4.here hx rfl (hb hby at_40) rfl ((if0 _ _).trans (feq hc40).1) ?_
    show Steps p.tables e below (T4.setTop (mkF m 43 #[.val (.int p1), .val (.int p2), .val (.int ((p1 &&& (2147483647 : Int32)) % (3 : Int32))), .val (.ref w3), .unset] [])) _
    refine XS.iloadN X4.here hx rfl (hb hby at_43) rfl ?_
    show Steps p.tables e below (T4.setTop (mkF m 44 #[.val (.int p1), .val (.int p2), .val (.int ((p1 &&& (2147483647 : Int32)) % (3 : Int32))), .val (.ref w3), .unset] [(.int p2)])) _
    refine XS.iconst X4.here hx rfl (hb hby at_44) ?_
    show Steps p.tables e below (T4.setTop (mkF m 45 #[.val (.int p1), .val (.int p2), .val (.int ((p1 &&& (2147483647 : Int32)) % (3 : Int32))), .val (.ref w3), .unset] [(.int (1 : Int32)), (.int p2)])) _
    refine XS.icmpNo X4.here hx rfl (hb hby at_45) rfl (teq hc45).2 ?_
    show Steps p.tables e below (T4.setTop (mkF m 48 #[.val (.int p1), .val (.int p2), .val (.int ((p1 &&& (2147483647 : Int32)) % (3 : Int32))), .val (.ref w3), .unset] [])) _
    refine XS.iconst X4.here hx rfl (hb hby at_48) ?_
    show Steps p.tables e below (T4.setTop (mkF m 49 #[.val (.int p1), .val (.int p2), .val (.int ((p1 &&& (2147483647 : Int32)) % (3 : Int32))), .val (.ref w3), .unset] [(.int (1 : Int32))])) _
    refine XS.goto X4.here hx rfl (pc0 := 49) (pc' := 53) rfl (hb hby at_49) (by decide) (by decide) ?_
    show Steps p.tables e below (T4.setTop (mkF m 53 #[.val (.int p1), .val (.int p2), .val (.int ((p1 &&& (2147483647 : Int32)) % (3 : Int32))), .val (.ref w3), .unset] [(.int (1 : Int32))])) _
    refine XS.istore X4.here hx rfl (hb hby at_53) rfl (l' := #[.val (.int p1), .val (.int p2), .val (.int ((p1 &&& (2147483647 : Int32)) % (3 : Int32))), .val (.ref w3), .val (.int (1 : Int32))]) rfl ?_
    show Steps p.tables e below (T4.setTop (mkF m 55 #[.val (.int p1), .val (.int p2), .val (.int ((p1 &&& (2147483647 : Int32)) % (3 : Int32))), .val (.ref w3), .val (.int (1 : Int32))] [])) _
    refine XS.goto X4.here hx rfl (pc0 := 55) (pc' := 73) rfl (hb hby at_55) (by decide) (by decide) ?_
    show Steps p.tables e below (T4.setTop (mkF m 73 #[.val (.int p1), .val (.int p2), .val (.int ((p1 &&& (2147483647 : Int32)) % (3 : Int32))), .val (.ref w3), .val (.int (1 : Int32))] [])) _
    refine XS.aloadN X4.here hx rfl (hb hby at_73) rfl rfl ?_
    show Steps p.tables e below (T4.setTop (mkF m 74 #[.val (.int p1), .val (.int p2), .val (.int ((p1 &&& (2147483647 : Int32)) % (3 : Int32))), .val (.ref w3), .val (.int (1 : Int32))] [(.ref w3)])) _
    refine XS.iloadN X4.here hx rfl (hb hby at_74) rfl ?_
    show Steps p.tables e below (T4.setTop (mkF m 75 #[.val (.int p1), .val (.int p2), .val (.int ((p1 &&& (2147483647 : Int32)) % (3 : Int32))), .val (.ref w3), .val (.int (1 : Int32))] [(.int p2), (.ref w3)])) _
    refine st7.trans ?_
    show Steps p.tables e below (T7.setTop (mkF m 78 #[.val (.int p1), .val (.int p2), .val (.int ((p1 &&& (2147483647 : Int32)) % (3 : Int32))), .val (.ref w3), .val (.int (1 : Int32))] [(.int (1 : Int32))])) _
    refine XS.iload X7.here hx rfl (hb hby at_78) rfl ?_
    show Steps p.tables e below (T7.setTop (mkF m 80 #[.val (.int p1), .val (.int p2), .val (.int ((p1 &&& (2147483647 : Int32)) % (3 : Int32))), .val (.ref w3), .val (.int (1 : Int32))] [(.int (1 : Int32)), (.int (1 : Int32))])) _
    refine XS.icmpNo X7.here hx rfl (hb hby at_80) rfl (teq (by decide : (1 : Int32) = (1 : Int32))).2 ?_
    show Steps p.tables e below (T7.setTop (mkF m 83 #[.val (.int p1), .val (.int p2), .val (.int ((p1 &&& (2147483647 : Int32)) % (3 : Int32))), .val (.ref w3), .val (.int (1 : Int32))] [])) _
    refine XS.iconst X7.here hx rfl (hb hby at_83) ?_
    show Steps p.tables e below (T7.setTop (mkF m 84 #[.val (.int p1), .val (.int p2), .val (.int ((p1 &&& (2147483647 : Int32)) % (3 : Int32))), .val (.ref w3), .val (.int (1 : Int32))] [(.int (1 : Int32))])) _
    refine XS.goto X7.here hx rfl (pc0 := 84) (pc' := 88) rfl (hb hby at_84) (by decide) (by decide) ?_
    show Steps p.tables e below (T7.setTop (mkF m 88 #[.val (.int p1), .val (.int p2), .val (.int ((p1 &&& (2147483647 : Int32)) % (3 : Int32))), .val (.ref w3), .val (.int (1 : Int32))] [(.int (1 : Int32))])) _
    exact retN X7 hx (t := .boolean) Bd.returns (by simp) (hb hby at_88) hr
  · skip
    exact ⟨rfl, N7⟩
set_option maxRecDepth 65536 in
set_option maxHeartbeats 40000000 in
theorem rm0f (l : Launch) (Z : State) (a0 : Array Value) (hw : ∀ d ∈ tables_1, d.before a0 Z = true) (ws : List Jvm.Cond) (p1 p2 : Int32) (w3 : Addr) (w5 w6 : Int32) (h0 : Heap) (n0 : Nat) (O0 : Old Z n0 h0) (hc8 : ¬ (((p1 &&& (2147483647 : Int32)) % (3 : Int32)) = (0 : Int32))) (hc32 : ¬ (((p1 &&& (2147483647 : Int32)) % (3 : Int32)) = (1 : Int32))) (S_ANY_NUMBER : Sta Z Z.heap "com/example/furnish/furnish/extension/Matches" "ANY_NUMBER" "Lcom/example/furnish/furnish/extension/Matches;" (.ref w3)) (hc63 : p2 < (0 : Int32)) (HF_w3_least : Fld Z h0 w3 "com/example/furnish/furnish/extension/Matches" "least" "I" (.int w5)) (HF_w3_most : Fld Z h0 w3 "com/example/furnish/furnish/extension/Matches" "most" "I" (.int w6)) (h75_hr : (0 : Int32) = if p2 < w5 ∨ w6 < p2 then (0 : Int32) else (1 : Int32)) (HE_w3 : Exa Z h0 w3 "com/example/furnish/furnish/extension/Matches") :
    own_Met l Z ws #[(.int p1), (.int p2)] h0 n0 := by
  refine MetFree.of_bodySF (plainFor_of_name pnc_com_example_furnish_furnish_extension_MatchesAllowsPinLaw) hisR ?_
  intro p e s m args below meth c s₁ Bd hml0 hP hK
  obtain ⟨rfl, hZ, hh⟩ := hP
  have hx := Bd.exec
  have hby := Bd.bytes
  have hml : c.maxLocals = 5 := hml0
  have hown : s.vm.findClass "com/example/furnish/furnish/extension/MatchesAllowsPinLaw" = some m.cls := findClass_of_methodNamed Bd.named
  have hnm := (name_of_methodNamed Bd.named Bd.method).1
  have X0 : Stand p l e room_1 s m #[(.int p1), (.int p2)] below meth c s₁ [] 0 0 := Stand.of_body Bd
  have e0 : s₁.heap = h0 := by rw [← hh, Bd.state]; rfl
  have N0 := Fr.nil n0
  have Z0 : n0 ≤ h0.size := O0.1 ▸ O0.2.1
  have pre0 : ∀ t, Steps p.tables e below (s₁.setTop (mkF m 0 #[.val (.int p1), .val (.int p2), .unset, .unset, .unset] [])) t → Steps p.tables e below (s₁.setTop (entryFrame m #[(.int p1), (.int p2)] maxLocals)) t := fun t k => castTop (ef_0 m p1 p2) k
  obtain ⟨T4, X4, e4, st4⟩ := getS2 X0 hx hZ hown (host := "") (Or.inl (hw _ (List.mem_of_getElem? (i := 13) rfl))) Via.refl e0 (S_ANY_NUMBER.ext O0.2) (g := (mkF m 58 #[.val (.int p1), .val (.int p2), .val (.int ((p1 &&& (2147483647 : Int32)) % (3 : Int32))), .unset, .unset] [])) rfl (hb hby at_58)
  obtain ⟨cq7, kq7, q7a, q7b, q7c⟩ := isOf hZ e4 HE_w3
  obtain ⟨vr7, _, ⟨T7, L7, k7, n7⟩, -, X7, ⟨Lc7, hQ7, l7, y7, z7⟩, st7⟩ := X4.virtualBack hx (y := (⟨"com/example/furnish/furnish/extension/Matches", "allows", "(I)Z"⟩ : MethodName)) (z := (⟨"com/example/furnish/furnish/extension/Matches", "allows", "(I)Z"⟩ : MethodName)) hown (mvT hZ (hw _ (List.mem_of_getElem? (i := 4) rfl))) (mvT hZ (hw _ (List.mem_of_getElem? (i := 5) rfl))) (notFace_of_selects (args := #[]) (mvT hZ (hw _ (List.mem_of_getElem? (i := 7) rfl)))) (mvT hZ (hw _ (List.mem_of_getElem? (i := 7) rfl))) (mvT hZ (hw _ (List.mem_of_getElem? (i := 6) rfl))) (by decide) (backOf (W := 0) (rm1 l Z a0 hw [] w3 p2 w5 w6 ((0 : Int32)) h0 n0 O0 HF_w3_least HF_w3_most h75_hr) hZ (hw _ (List.mem_of_getElem? (i := 8) rfl)) (hw _ (List.mem_of_getElem? (i := 2) rfl)) (by decide) (by decide)) q7a q7c (g := (mkF m 75 #[.val (.int p1), .val (.int p2), .val (.int ((p1 &&& (2147483647 : Int32)) % (3 : Int32))), .val (.ref w3), .val (.int (0 : Int32))] [(.int p2), (.ref w3)])) rfl (by rw [hml]; rfl) (Steps.refl _) (argsL := [(.int p2)]) (rest := []) (lenOf pd_0 rfl) rfl (by show 2 * 0 + _ ≤ _; exact Nat.le_of_eq rfl) (hb hby at_75) (fun _ _ => ⟨rfl, e4, (by decide : 0 + 0 ≤ _), (by decide : 0 + 0 ≤ _)⟩)
  dsimp only [Pt.U, Pt.locs, Pt.cells, Pt.slots] at X7 l7 y7 z7 st7 hQ7
  subst l7 y7 z7
  obtain ⟨rfl, N7q, e7⟩ := hQ7
  have N7 := Fr.app N0 N7q
  replace X7 := X7.more (cells' := 0) (slots' := 0) (by decide) (by decide)
  obtain ⟨fs, hr, hrun, hended, hW, hsame⟩ := X7.leave (v := some (.int (1 : Int32))) (fun h => by rw [Bd.returns] at h; cases h)
  refine ⟨_, _, pre0 _ ?_, hrun, hended, _, _, rfl, ?_, ⟨_, rfl⟩, hW, hsame.mono (by decide) (by decide)⟩
  · show Steps p.tables e below (s₁.setTop (mkF m 0 #[.val (.int p1), .val (.int p2), .unset, .unset, .unset] [])) _
    refine XS.iloadN X0.here hx rfl (hb hby at_0) rfl ?_
    show Steps p.tables e below (s₁.setTop (mkF m 1 #[.val (.int p1), .val (.int p2), .unset, .unset, .unset] [(.int p1)])) _
    refine X0.ldcInt hx hown (mvT hZ (hw _ (List.mem_of_getElem? (i := 0) rfl))) (g := (mkF m 1 #[.val (.int p1), .val (.int p2), .unset, .unset, .unset] [(.int p1)])) rfl (hb hby at_1) _ ?_
    show Steps p.tables e below (s₁.setTop (mkF m 3 #[.val (.int p1), .val (.int p2), .unset, .unset, .unset] [(.int (2147483647 : Int32)), (.int p1)])) _
    refine XS.iand X0.here hx rfl (hb hby at_3) rfl ?_
    show Steps p.tables e below (s₁.setTop (mkF m 4 #[.val (.int p1), .val (.int p2), .unset, .unset, .unset] [(.int (p1 &&& (2147483647 : Int32)))])) _
    refine XS.iconst X0.here hx rfl (hb hby at_4) ?_
    show Steps p.tables e below (s₁.setTop (mkF m 5 #[.val (.int p1), .val (.int p2), .unset, .unset, .unset] [(.int (3 : Int32)), (.int (p1 &&& (2147483647 : Int32)))])) _
    refine iremM X0 hx rfl (hb hby at_5) rfl (by decide : ¬ ((3 : Int32) = (0 : Int32))) ?_
    show Steps p.tables e below (s₁.setTop (mkF m 6 #[.val (.int p1), .val (.int p2), .unset, .unset, .unset] [(.int ((p1 &&& (2147483647 : Int32)) % (3 : Int32)))])) _
    refine XS.istoreN X0.here hx rfl (hb hby at_6) rfl (l' := #[.val (.int p1), .val (.int p2), .val (.int ((p1 &&& (2147483647 : Int32)) % (3 : Int32))), .unset, .unset]) rfl ?_
    show Steps p.tables e below (s₁.setTop (mkF m 7 #[.val (.int p1), .val (.int p2), .val (.int ((p1 &&& (2147483647 : Int32)) % (3 : Int32))), .unset, .unset] [])) _
    refine XS.iloadN X0.here hx rfl (hb hby at_7) rfl ?_
    show Steps p.tables e below (s₁.setTop (mkF m 8 #[.val (.int p1), .val (.int p2), .val (.int ((p1 &&& (2147483647 : Int32)) % (3 : Int32))), .unset, .unset] [(.int ((p1 &&& (2147483647 : Int32)) % (3 : Int32)))])) _
    refine XS.ifYes X0.here hx rfl (pc0 := 8) (pc' := 30) rfl (hb hby at_8) rfl ((if0 _ _).trans (feq hc8).2) (by decide) (by decide) ?_
    show Steps p.tables e below (s₁.setTop (mkF m 30 #[.val (.int p1), .val (.int p2), .val (.int ((p1 &&& (2147483647 : Int32)) % (3 : Int32))), .unset, .unset] [])) _
    refine XS.iloadN X0.here hx rfl (hb hby at_30) rfl ?_
    show Steps p.tables e below (s₁.setTop (mkF m 31 #[.val (.int p1), .val (.int p2), .val (.int ((p1 &&& (2147483647 : Int32)) % (3 : Int32))), .unset, .unset] [(.int ((p1 &&& (2147483647 : Int32)) % (3 : Int32)))])) _
    refine XS.iconst X0.here hx rfl (hb hby at_31) ?_
    show Steps p.tables e below (s₁.setTop (mkF m 32 #[.val (.int p1), .val (.int p2), .val (.int ((p1 &&& (2147483647 : Int32)) % (3 : Int32))), .unset, .unset] [(.int (1 : Int32)), (.int ((p1 &&& (2147483647 : Int32)) % (3 : Int32)))])) _
    refine XS.icmpYes X0.here hx rfl (pc0 := 32) (pc' := 58) rfl (hb hby at_32) rfl (feq hc32).2 (by decide) (by decide) ?_
    show Steps p.tables e below (s₁.setTop (mkF m 58 #[.val (.int p1), .val (.int p2), .val (.int ((p1 &&& (2147483647 : Int32)) % (3 : Int32))), .unset, .unset] [])) _
    refine st4 _ ?_
    show Steps p.tables e below (T4.setTop (mkF m 61 #[.val (.int p1), .val (.int p2), .val (.int ((p1 &&& (2147483647 : Int32)) % (3 : Int32))), .unset, .unset] [(.ref w3)])) _
    refine XS.astoreN X4.here hx rfl (hb hby at_61) rfl rfl (l' := #[.val (.int p1), .val (.int p2), .val (.int ((p1 &&& (2147483647 : Int32)) % (3 : Int32))), .val (.ref w3), .unset]) rfl ?_
    show Steps p.tables e below (T4.setTop (mkF m 62 #[.val (.int p1), .val (.int p2), .val (.int ((p1 &&& (2147483647 : Int32)) % (3 : Int32))), .val (.ref w3), .unset] [])) _
    refine XS.iloadN X4.here hx rfl (hb hby at_62) rfl ?_
    show Steps p.tables e below (T4.setTop (mkF m 63 #[.val (.int p1), .val (.int p2), .val (.int ((p1 &&& (2147483647 : Int32)) % (3 : Int32))), .val (.ref w3), .unset] [(.int p2)])) _
    refine XS.ifYes X4.here hx rfl (pc0 := 63) (pc' := 70) rfl (hb hby at_63) rfl ((if0 _ _).trans (tlt hc63).1) (by decide) (by decide) ?_
    show Steps p.tables e below (T4.setTop (mkF m 70 #[.val (.int p1), .val (.int p2), .val (.int ((p1 &&& (2147483647 : Int32)) % (3 : Int32))), .val (.ref w3), .unset] [])) _
    refine XS.iconst X4.here hx rfl (hb hby at_70) ?_
    show Steps p.tables e below (T4.setTop (mkF m 71 #[.val (.int p1), .val (.int p2), .val (.int ((p1 &&& (2147483647 : Int32)) % (3 : Int32))), .val (.ref w3), .unset] [(.int (0 : Int32))])) _
    refine XS.istore X4.here hx rfl (hb hby at_71) rfl (l' := #[.val (.int p1), .val (.int p2), .val (.int ((p1 &&& (2147483647 : Int32)) % (3 : Int32))), .val (.ref w3), .val (.int (0 : Int32))]) rfl ?_
    show Steps p.tables e below (T4.setTop (mkF m 73 #[.val (.int p1), .val (.int p2), .val (.int ((p1 &&& (2147483647 : Int32)) % (3 : Int32))), .val (.ref w3), .val (.int (0 : Int32))] [])) _
    refine XS.aloadN X4.here hx rfl (hb hby at_73) rfl rfl ?_
    show Steps p.tables e below (T4.setTop (mkF m 74 #[.val (.int p1), .val (.int p2), .val (.int ((p1 &&& (2147483647 : Int32)) % (3 : Int32))), .val (.ref w3), .val (.int (0 : Int32))] [(.ref w3)])) _
    refine XS.iloadN X4.here hx rfl (hb hby at_74) rfl ?_
    show Steps p.tables e below (T4.setTop (mkF m 75 #[.val (.int p1), .val (.int p2), .val (.int ((p1 &&& (2147483647 : Int32)) % (3 : Int32))), .val (.ref w3), .val (.int (0 : Int32))] [(.int p2), (.ref w3)])) _
    refine st7.trans ?_
    show Steps p.tables e below (T7.setTop (mkF m 78 #[.val (.int p1), .val (.int p2), .val (.int ((p1 &&& (2147483647 : Int32)) % (3 : Int32))), .val (.ref w3), .val (.int (0 : Int32))] [(.int (0 : Int32))])) _
    refine XS.iload X7.here hx rfl (hb hby at_78) rfl ?_
    show Steps p.tables e below (T7.setTop (mkF m 80 #[.val (.int p1), .val (.int p2), .val (.int ((p1 &&& (2147483647 : Int32)) % (3 : Int32))), .val (.ref w3), .val (.int (0 : Int32))] [(.int (0 : Int32)), (.int (0 : Int32))])) _
    refine XS.icmpNo X7.here hx rfl (hb hby at_80) rfl (teq (by decide : (0 : Int32) = (0 : Int32))).2 ?_
    show Steps p.tables e below (T7.setTop (mkF m 83 #[.val (.int p1), .val (.int p2), .val (.int ((p1 &&& (2147483647 : Int32)) % (3 : Int32))), .val (.ref w3), .val (.int (0 : Int32))] [])) _
    refine XS.iconst X7.here hx rfl (hb hby at_83) ?_
    show Steps p.tables e below (T7.setTop (mkF m 84 #[.val (.int p1), .val (.int p2), .val (.int ((p1 &&& (2147483647 : Int32)) % (3 : Int32))), .val (.ref w3), .val (.int (0 : Int32))] [(.int (1 : Int32))])) _
    refine XS.goto X7.here hx rfl (pc0 := 84) (pc' := 88) rfl (hb hby at_84) (by decide) (by decide) ?_
    show Steps p.tables e below (T7.setTop (mkF m 88 #[.val (.int p1), .val (.int p2), .val (.int ((p1 &&& (2147483647 : Int32)) % (3 : Int32))), .val (.ref w3), .val (.int (0 : Int32))] [(.int (1 : Int32))])) _
    exact retN X7 hx (t := .boolean) Bd.returns (by simp) (hb hby at_88) hr
  · skip
    exact ⟨rfl, N7⟩
set_option maxRecDepth 65536 in
set_option maxHeartbeats 40000000 in
theorem rm0g (l : Launch) (Z : State) (a0 : Array Value) (hw : ∀ d ∈ tables_1, d.before a0 Z = true) (ws : List Jvm.Cond) (p1 p2 : Int32) (w3 : Addr) (w5 w6 : Int32) (h0 : Heap) (n0 : Nat) (O0 : Old Z n0 h0) (hc8 : ¬ (((p1 &&& (2147483647 : Int32)) % (3 : Int32)) = (0 : Int32))) (hc32 : ¬ (((p1 &&& (2147483647 : Int32)) % (3 : Int32)) = (1 : Int32))) (S_ANY_NUMBER : Sta Z Z.heap "com/example/furnish/furnish/extension/Matches" "ANY_NUMBER" "Lcom/example/furnish/furnish/extension/Matches;" (.ref w3)) (hc63 : ¬ (p2 < (0 : Int32))) (HF_w3_least : Fld Z h0 w3 "com/example/furnish/furnish/extension/Matches" "least" "I" (.int w5)) (HF_w3_most : Fld Z h0 w3 "com/example/furnish/furnish/extension/Matches" "most" "I" (.int w6)) (h75_hr : (1 : Int32) = if p2 < w5 ∨ w6 < p2 then (0 : Int32) else (1 : Int32)) (HE_w3 : Exa Z h0 w3 "com/example/furnish/furnish/extension/Matches") :
    own_Met l Z ws #[(.int p1), (.int p2)] h0 n0 := by
  refine MetFree.of_bodySF (plainFor_of_name pnc_com_example_furnish_furnish_extension_MatchesAllowsPinLaw) hisR ?_
  intro p e s m args below meth c s₁ Bd hml0 hP hK
  obtain ⟨rfl, hZ, hh⟩ := hP
  have hx := Bd.exec
  have hby := Bd.bytes
  have hml : c.maxLocals = 5 := hml0
  have hown : s.vm.findClass "com/example/furnish/furnish/extension/MatchesAllowsPinLaw" = some m.cls := findClass_of_methodNamed Bd.named
  have hnm := (name_of_methodNamed Bd.named Bd.method).1
  have X0 : Stand p l e room_1 s m #[(.int p1), (.int p2)] below meth c s₁ [] 0 0 := Stand.of_body Bd
  have e0 : s₁.heap = h0 := by rw [← hh, Bd.state]; rfl
  have N0 := Fr.nil n0
  have Z0 : n0 ≤ h0.size := O0.1 ▸ O0.2.1
  have pre0 : ∀ t, Steps p.tables e below (s₁.setTop (mkF m 0 #[.val (.int p1), .val (.int p2), .unset, .unset, .unset] [])) t → Steps p.tables e below (s₁.setTop (entryFrame m #[(.int p1), (.int p2)] maxLocals)) t := fun t k => castTop (ef_0 m p1 p2) k
  obtain ⟨T4, X4, e4, st4⟩ := getS2 X0 hx hZ hown (host := "") (Or.inl (hw _ (List.mem_of_getElem? (i := 13) rfl))) Via.refl e0 (S_ANY_NUMBER.ext O0.2) (g := (mkF m 58 #[.val (.int p1), .val (.int p2), .val (.int ((p1 &&& (2147483647 : Int32)) % (3 : Int32))), .unset, .unset] [])) rfl (hb hby at_58)
  obtain ⟨cq7, kq7, q7a, q7b, q7c⟩ := isOf hZ e4 HE_w3
  obtain ⟨vr7, _, ⟨T7, L7, k7, n7⟩, -, X7, ⟨Lc7, hQ7, l7, y7, z7⟩, st7⟩ := X4.virtualBack hx (y := (⟨"com/example/furnish/furnish/extension/Matches", "allows", "(I)Z"⟩ : MethodName)) (z := (⟨"com/example/furnish/furnish/extension/Matches", "allows", "(I)Z"⟩ : MethodName)) hown (mvT hZ (hw _ (List.mem_of_getElem? (i := 4) rfl))) (mvT hZ (hw _ (List.mem_of_getElem? (i := 5) rfl))) (notFace_of_selects (args := #[]) (mvT hZ (hw _ (List.mem_of_getElem? (i := 7) rfl)))) (mvT hZ (hw _ (List.mem_of_getElem? (i := 7) rfl))) (mvT hZ (hw _ (List.mem_of_getElem? (i := 6) rfl))) (by decide) (backOf (W := 0) (rm1 l Z a0 hw [] w3 p2 w5 w6 ((1 : Int32)) h0 n0 O0 HF_w3_least HF_w3_most h75_hr) hZ (hw _ (List.mem_of_getElem? (i := 8) rfl)) (hw _ (List.mem_of_getElem? (i := 2) rfl)) (by decide) (by decide)) q7a q7c (g := (mkF m 75 #[.val (.int p1), .val (.int p2), .val (.int ((p1 &&& (2147483647 : Int32)) % (3 : Int32))), .val (.ref w3), .val (.int (1 : Int32))] [(.int p2), (.ref w3)])) rfl (by rw [hml]; rfl) (Steps.refl _) (argsL := [(.int p2)]) (rest := []) (lenOf pd_0 rfl) rfl (by show 2 * 0 + _ ≤ _; exact Nat.le_of_eq rfl) (hb hby at_75) (fun _ _ => ⟨rfl, e4, (by decide : 0 + 0 ≤ _), (by decide : 0 + 0 ≤ _)⟩)
  dsimp only [Pt.U, Pt.locs, Pt.cells, Pt.slots] at X7 l7 y7 z7 st7 hQ7
  subst l7 y7 z7
  obtain ⟨rfl, N7q, e7⟩ := hQ7
  have N7 := Fr.app N0 N7q
  replace X7 := X7.more (cells' := 0) (slots' := 0) (by decide) (by decide)
  obtain ⟨fs, hr, hrun, hended, hW, hsame⟩ := X7.leave (v := some (.int (1 : Int32))) (fun h => by rw [Bd.returns] at h; cases h)
  refine ⟨_, _, pre0 _ ?_, hrun, hended, _, _, rfl, ?_, ⟨_, rfl⟩, hW, hsame.mono (by decide) (by decide)⟩
  · show Steps p.tables e below (s₁.setTop (mkF m 0 #[.val (.int p1), .val (.int p2), .unset, .unset, .unset] [])) _
    refine XS.iloadN X0.here hx rfl (hb hby at_0) rfl ?_
    show Steps p.tables e below (s₁.setTop (mkF m 1 #[.val (.int p1), .val (.int p2), .unset, .unset, .unset] [(.int p1)])) _
    refine X0.ldcInt hx hown (mvT hZ (hw _ (List.mem_of_getElem? (i := 0) rfl))) (g := (mkF m 1 #[.val (.int p1), .val (.int p2), .unset, .unset, .unset] [(.int p1)])) rfl (hb hby at_1) _ ?_
    show Steps p.tables e below (s₁.setTop (mkF m 3 #[.val (.int p1), .val (.int p2), .unset, .unset, .unset] [(.int (2147483647 : Int32)), (.int p1)])) _
    refine XS.iand X0.here hx rfl (hb hby at_3) rfl ?_
    show Steps p.tables e below (s₁.setTop (mkF m 4 #[.val (.int p1), .val (.int p2), .unset, .unset, .unset] [(.int (p1 &&& (2147483647 : Int32)))])) _
    refine XS.iconst X0.here hx rfl (hb hby at_4) ?_
    show Steps p.tables e below (s₁.setTop (mkF m 5 #[.val (.int p1), .val (.int p2), .unset, .unset, .unset] [(.int (3 : Int32)), (.int (p1 &&& (2147483647 : Int32)))])) _
    refine iremM X0 hx rfl (hb hby at_5) rfl (by decide : ¬ ((3 : Int32) = (0 : Int32))) ?_
    show Steps p.tables e below (s₁.setTop (mkF m 6 #[.val (.int p1), .val (.int p2), .unset, .unset, .unset] [(.int ((p1 &&& (2147483647 : Int32)) % (3 : Int32)))])) _
    refine XS.istoreN X0.here hx rfl (hb hby at_6) rfl (l' := #[.val (.int p1), .val (.int p2), .val (.int ((p1 &&& (2147483647 : Int32)) % (3 : Int32))), .unset, .unset]) rfl ?_
    show Steps p.tables e below (s₁.setTop (mkF m 7 #[.val (.int p1), .val (.int p2), .val (.int ((p1 &&& (2147483647 : Int32)) % (3 : Int32))), .unset, .unset] [])) _
    refine XS.iloadN X0.here hx rfl (hb hby at_7) rfl ?_
    show Steps p.tables e below (s₁.setTop (mkF m 8 #[.val (.int p1), .val (.int p2), .val (.int ((p1 &&& (2147483647 : Int32)) % (3 : Int32))), .unset, .unset] [(.int ((p1 &&& (2147483647 : Int32)) % (3 : Int32)))])) _
    refine XS.ifYes X0.here hx rfl (pc0 := 8) (pc' := 30) rfl (hb hby at_8) rfl ((if0 _ _).trans (feq hc8).2) (by decide) (by decide) ?_
    show Steps p.tables e below (s₁.setTop (mkF m 30 #[.val (.int p1), .val (.int p2), .val (.int ((p1 &&& (2147483647 : Int32)) % (3 : Int32))), .unset, .unset] [])) _
    refine XS.iloadN X0.here hx rfl (hb hby at_30) rfl ?_
    show Steps p.tables e below (s₁.setTop (mkF m 31 #[.val (.int p1), .val (.int p2), .val (.int ((p1 &&& (2147483647 : Int32)) % (3 : Int32))), .unset, .unset] [(.int ((p1 &&& (2147483647 : Int32)) % (3 : Int32)))])) _
    refine XS.iconst X0.here hx rfl (hb hby at_31) ?_
    show Steps p.tables e below (s₁.setTop (mkF m 32 #[.val (.int p1), .val (.int p2), .val (.int ((p1 &&& (2147483647 : Int32)) % (3 : Int32))), .unset, .unset] [(.int (1 : Int32)), (.int ((p1 &&& (2147483647 : Int32)) % (3 : Int32)))])) _
    refine XS.icmpYes X0.here hx rfl (pc0 := 32) (pc' := 58) rfl (hb hby at_32) rfl (feq hc32).2 (by decide) (by decide) ?_
    show Steps p.tables e below (s₁.setTop (mkF m 58 #[.val (.int p1), .val (.int p2), .val (.int ((p1 &&& (2147483647 : Int32)) % (3 : Int32))), .unset, .unset] [])) _
    refine st4 _ ?_
    show Steps p.tables e below (T4.setTop (mkF m 61 #[.val (.int p1), .val (.int p2), .val (.int ((p1 &&& (2147483647 : Int32)) % (3 : Int32))), .unset, .unset] [(.ref w3)])) _
    refine XS.astoreN X4.here hx rfl (hb hby at_61) rfl rfl (l' := #[.val (.int p1), .val (.int p2), .val (.int ((p1 &&& (2147483647 : Int32)) % (3 : Int32))), .val (.ref w3), .unset]) rfl ?_
    show Steps p.tables e below (T4.setTop (mkF m 62 #[.val (.int p1), .val (.int p2), .val (.int ((p1 &&& (2147483647 : Int32)) % (3 : Int32))), .val (.ref w3), .unset] [])) _
    refine XS.iloadN X4.here hx rfl (hb hby at_62) rfl ?_
    show Steps p.tables e below (T4.setTop (mkF m 63 #[.val (.int p1), .val (.int p2), .val (.int ((p1 &&& (2147483647 : Int32)) % (3 : Int32))), .val (.ref w3), .unset] [(.int p2)])) _
    refine XS.ifNo X4.here hx rfl (hb hby at_63) rfl ((if0 _ _).trans (flt hc63).1) ?_
    show Steps p.tables e below (T4.setTop (mkF m 66 #[.val (.int p1), .val (.int p2), .val (.int ((p1 &&& (2147483647 : Int32)) % (3 : Int32))), .val (.ref w3), .unset] [])) _
    refine XS.iconst X4.here hx rfl (hb hby at_66) ?_
    show Steps p.tables e below (T4.setTop (mkF m 67 #[.val (.int p1), .val (.int p2), .val (.int ((p1 &&& (2147483647 : Int32)) % (3 : Int32))), .val (.ref w3), .unset] [(.int (1 : Int32))])) _
    refine XS.goto X4.here hx rfl (pc0 := 67) (pc' := 71) rfl (hb hby at_67) (by decide) (by decide) ?_
    show Steps p.tables e below (T4.setTop (mkF m 71 #[.val (.int p1), .val (.int p2), .val (.int ((p1 &&& (2147483647 : Int32)) % (3 : Int32))), .val (.ref w3), .unset] [(.int (1 : Int32))])) _
    refine XS.istore X4.here hx rfl (hb hby at_71) rfl (l' := #[.val (.int p1), .val (.int p2), .val (.int ((p1 &&& (2147483647 : Int32)) % (3 : Int32))), .val (.ref w3), .val (.int (1 : Int32))]) rfl ?_
    show Steps p.tables e below (T4.setTop (mkF m 73 #[.val (.int p1), .val (.int p2), .val (.int ((p1 &&& (2147483647 : Int32)) % (3 : Int32))), .val (.ref w3), .val (.int (1 : Int32))] [])) _
    refine XS.aloadN X4.here hx rfl (hb hby at_73) rfl rfl ?_
    show Steps p.tables e below (T4.setTop (mkF m 74 #[.val (.int p1), .val (.int p2), .val (.int ((p1 &&& (2147483647 : Int32)) % (3 : Int32))), .val (.ref w3), .val (.int (1 : Int32))] [(.ref w3)])) _
    refine XS.iloadN X4.here hx rfl (hb hby at_74) rfl ?_
    show Steps p.tables e below (T4.setTop (mkF m 75 #[.val (.int p1), .val (.int p2), .val (.int ((p1 &&& (2147483647 : Int32)) % (3 : Int32))), .val (.ref w3), .val (.int (1 : Int32))] [(.int p2), (.ref w3)])) _
    refine st7.trans ?_
    show Steps p.tables e below (T7.setTop (mkF m 78 #[.val (.int p1), .val (.int p2), .val (.int ((p1 &&& (2147483647 : Int32)) % (3 : Int32))), .val (.ref w3), .val (.int (1 : Int32))] [(.int (1 : Int32))])) _
    refine XS.iload X7.here hx rfl (hb hby at_78) rfl ?_
    show Steps p.tables e below (T7.setTop (mkF m 80 #[.val (.int p1), .val (.int p2), .val (.int ((p1 &&& (2147483647 : Int32)) % (3 : Int32))), .val (.ref w3), .val (.int (1 : Int32))] [(.int (1 : Int32)), (.int (1 : Int32))])) _
    refine XS.icmpNo X7.here hx rfl (hb hby at_80) rfl (teq (by decide : (1 : Int32) = (1 : Int32))).2 ?_
    show Steps p.tables e below (T7.setTop (mkF m 83 #[.val (.int p1), .val (.int p2), .val (.int ((p1 &&& (2147483647 : Int32)) % (3 : Int32))), .val (.ref w3), .val (.int (1 : Int32))] [])) _
    refine XS.iconst X7.here hx rfl (hb hby at_83) ?_
    show Steps p.tables e below (T7.setTop (mkF m 84 #[.val (.int p1), .val (.int p2), .val (.int ((p1 &&& (2147483647 : Int32)) % (3 : Int32))), .val (.ref w3), .val (.int (1 : Int32))] [(.int (1 : Int32))])) _
    refine XS.goto X7.here hx rfl (pc0 := 84) (pc' := 88) rfl (hb hby at_84) (by decide) (by decide) ?_
    show Steps p.tables e below (T7.setTop (mkF m 88 #[.val (.int p1), .val (.int p2), .val (.int ((p1 &&& (2147483647 : Int32)) % (3 : Int32))), .val (.ref w3), .val (.int (1 : Int32))] [(.int (1 : Int32))])) _
    exact retN X7 hx (t := .boolean) Bd.returns (by simp) (hb hby at_88) hr
  · skip
    exact ⟨rfl, N7⟩
theorem own_eqv {args : Array Value} {s : State} {t : Term} {n : Int32} (h : (Jvm.Cond.eq t (.int n)).value args s none s [] = some true) : t.eval args s none [] s = some (.int n) := by
  simp only [Cond.value, Term.eval] at h; cases ht : t.eval args s none [] s with | none => simp [ht] at h | some x => cases x <;> simp [ht] at h ⊢; exact h
set_option maxRecDepth 65536 in
set_option maxHeartbeats 40000000 in
theorem comes_1 {Post : Tables → Env → Array Value → State → Outcome → State → Prop} (hpost : ∀ tb e args s v u, (limb_1_1.after args s (.returned v) u = true ∧ limb_1_2.after args s (.returned v) u = true ∧ True) → FrameEnd s (.returned v) u (Jvm.fieldLocs frame_1_writes args s ++ Jvm.arrayLocs frame_1_arrays args s ++ Jvm.staticLocs frame_1_statics s) 0 0 → Post tb e args s (.returned v) u) :
    ArmFor flags0 classFile x code maxLocals ret World_1 tables_1 room_1 Calls_1 rest_1 Pre_1 Post := by
  intro l hfl _ _ p e ha hcc hk s m args below hf hA hF happ hP
  obtain ⟨hcalls, hrest, hpre⟩ := hP
  obtain ⟨-, -, -, hnamed, -, -, -, hat⟩ := (Spec.applies_iff hf).mp happ
  obtain ⟨hg, hn⟩ := and_e (Cond.before_iff.mp (show (Jvm.Cond.and given_1 narrow_1).before args s = true from hpre))
  obtain ⟨hcount, gg0⟩ := and_e hg
  obtain ⟨ga0, gg1⟩ := and_e gg0
  obtain ⟨w0, w1, rfl⟩ : ∃ w0 w1 : Value, args = #[w0, w1] := by
    have hs : args.size = 2 := by simpa [Cond.value, given_1] using hcount
    obtain ⟨L⟩ := args
    match L, hs with
    | [w0, w1], _ => exact ⟨w0, w1, rfl⟩
  have hw := fun d (hd : d ∈ tables_1) => atoms_spec (ws := Jvm.Cond.code x code maxLocals ret :: tables_1) hat d (List.mem_cons_of_mem _ hd)
  have hfit : Fit s := fun {y c} hc i hi => by
    obtain ⟨ha, rfl⟩ := Array.getElem?_eq_some_iff.mp hc
    have q := List.all_eq_true.mp ((Array.all_eq_true_iff_forall_mem.mp hF) _ (Array.getElem_mem ha)) i (List.mem_range.mpr hi)
    simpa [Array.getElem?_eq_getElem hi] using q
  obtain ⟨i0, ei0⟩ := is_v ga0
  obtain rfl : w0 = (.int i0) := Option.some.inj ei0
  obtain ⟨i1, ei1⟩ := is_v gg1
  obtain rfl : w1 = (.int i1) := Option.some.inj ei1
  obtain ⟨k1, hn⟩ := and_e hn
  obtain ⟨k2, hn⟩ := and_e hn
  obtain ⟨k3, hn⟩ := and_e hn
  obtain ⟨k4, hn⟩ := and_e hn
  obtain ⟨k5, hn⟩ := and_e hn
  obtain ⟨k6, hn⟩ := and_e hn
  obtain ⟨k7, hn⟩ := and_e hn
  obtain ⟨k8, k9⟩ := and_e hn
  obtain ⟨x1, e1⟩ := exa_v k1
  obtain ⟨x2, e2⟩ := exa_v k4
  obtain ⟨x3, e3⟩ := exa_v k7
  have S1 : Sta s s.heap "com/example/furnish/furnish/extension/Matches" "EXACTLY_ONE" "Lcom/example/furnish/furnish/extension/Matches;" (.ref x1) := Sta.start e1 (Or.inr ⟨hw _ (List.mem_of_getElem? (i := 2) rfl), hw _ (List.mem_of_getElem? (i := 3) rfl)⟩)
  have S2 : Sta s s.heap "com/example/furnish/furnish/extension/Matches" "ANY_NUMBER" "Lcom/example/furnish/furnish/extension/Matches;" (.ref x2) := Sta.start e2 (Or.inr ⟨hw _ (List.mem_of_getElem? (i := 2) rfl), hw _ (List.mem_of_getElem? (i := 14) rfl)⟩)
  have S3 : Sta s s.heap "com/example/furnish/furnish/extension/Matches" "AT_MOST_ONE" "Lcom/example/furnish/furnish/extension/Matches;" (.ref x3) := Sta.start e3 (Or.inr ⟨hw _ (List.mem_of_getElem? (i := 2) rfl), hw _ (List.mem_of_getElem? (i := 16) rfl)⟩)
  have E1 := Exa.start e1 k1
  have E2 := Exa.start e2 k4
  have E3 := Exa.start e3 k7
  have l1 := Fld.start ((fld_at e1).symm.trans (own_eqv k2))
  have m1 := Fld.start ((fld_at e1).symm.trans (own_eqv k3))
  have l2 := Fld.start ((fld_at e2).symm.trans (own_eqv k5))
  have m2 := Fld.start ((fld_at e2).symm.trans (own_eqv k6))
  have l3 := Fld.start ((fld_at e3).symm.trans (own_eqv k8))
  have m3 := Fld.start ((fld_at e3).symm.trans (own_eqv k9))
  have key : own_Met l s tables_1 #[(.int i0), (.int i1)] s.heap s.heap.size := by
    have r := rng32 i1
    by_cases c1 : ((i0 &&& (2147483647 : Int32)) % (3 : Int32)) = (0 : Int32)
    · by_cases c2 : i1 = (1 : Int32)
      · exact rm0b l s _ hw tables_1 i0 i1 x1 1 1 s.heap s.heap.size (Old.start s) c1 S1 c2 l1 m1 (by subst c2; decide) E1
      · exact rm0a l s _ hw tables_1 i0 i1 x1 1 1 s.heap s.heap.size (Old.start s) c1 S1 c2 l1 m1 (by rw [if_pos]; rw [Int32.lt_iff_toInt_lt, Int32.lt_iff_toInt_lt, show (1 : Int32).toInt = 1 from rfl]; rw [← Int32.toInt_inj, show (1 : Int32).toInt = 1 from rfl] at c2; omega) E1
    · by_cases c2 : ((i0 &&& (2147483647 : Int32)) % (3 : Int32)) = (1 : Int32)
      · by_cases c3 : i1 = (0 : Int32)
        · exact rm0c l s _ hw tables_1 i0 i1 x3 0 1 s.heap s.heap.size (Old.start s) c1 c2 S3 c3 l3 m3 (by subst c3; decide) E3
        · by_cases c4 : i1 = (1 : Int32)
          · exact rm0e l s _ hw tables_1 i0 i1 x3 0 1 s.heap s.heap.size (Old.start s) c1 c2 S3 c3 c4 l3 m3 (by subst c4; decide) E3
          · exact rm0d l s _ hw tables_1 i0 i1 x3 0 1 s.heap s.heap.size (Old.start s) c1 c2 S3 c3 c4 l3 m3 (by rw [if_pos]; rw [Int32.lt_iff_toInt_lt, Int32.lt_iff_toInt_lt, show (1 : Int32).toInt = 1 from rfl, show (0 : Int32).toInt = 0 from rfl]; rw [← Int32.toInt_inj, show (1 : Int32).toInt = 1 from rfl] at c4; rw [← Int32.toInt_inj, show (0 : Int32).toInt = 0 from rfl] at c3; omega) E3
      · by_cases c3 : i1 < (0 : Int32)
        · exact rm0f l s _ hw tables_1 i0 i1 x2 0 2147483647 s.heap s.heap.size (Old.start s) c1 c2 S2 c3 l2 m2 (by rw [if_pos (Or.inl c3)]) E2
        · exact rm0g l s _ hw tables_1 i0 i1 x2 0 2147483647 s.heap s.heap.size (Old.start s) c1 c2 S2 c3 l2 m2 (by rw [if_neg (fun q => q.elim c3 fun q => by rw [Int32.lt_iff_toInt_lt, show (2147483647 : Int32).toInt = 2147483647 from rfl] at q; omega)]) E2
  obtain ⟨n, o, h1, h2, h3, _, L, rfl, ⟨rfl, N⟩, hq⟩ := key p e ha hcc hk s m _ below hf ((Spec.applies_iff_loose hf).mp happ).1 ⟨rfl, State.Warmed39.refl s, rfl⟩ trivial
  refine ⟨n, _, h1, h2, h3, hpost _ _ _ _ _ _ ⟨Cond.after_iff.mpr rfl, Cond.after_iff.mpr (eq_i res_at (Term.int_eval (1)) rfl), trivial⟩ ⟨hq.1, hq.2.1, (hq.2.2.sift fun y hy => Or.inr (N y hy)).mono (by decide) (by decide)⟩⟩
theorem main_1_1 : Claimed_1_1 := comes_1 fun _ _ _ _ _ _ h hF => ⟨h.1, hF⟩
theorem main_1_2 : Claimed_1_2 := comes_1 fun _ _ _ _ _ _ h hF => ⟨h.2.1, hF⟩
end Jvm.Pilot.@@N@@
namespace Jvm.Pilot.@@N@@
open Jvm Jvm.ClassFile Sem Op Lib Jvm.Free Jvm.Stand Jvm.Pilot.@@N@@.Jvm.D
/-! MADE BY PROGRAM (witnessworld.py) out of the Statement's table words and the real class files: 12 classes; the members and pool entries that the words name. The judged class is class 1, her method 1. -/
namespace start1
open Jvm.ClassFile
def u (s : String) : CpInfo := .utf8 (stringToUtf16 s)
/-- a pool by its gaps: so many unusable entries, then the entry; so many at the end -/
def gap : Nat → List CpInfo → List CpInfo
  | 0, r => r
  | n + 1, r => .unusable :: gap n r
def poolList (es : List (Nat × CpInfo)) (last : Nat) : List CpInfo := es.foldr (fun e r => gap e.1 (e.2 :: r)) (gap last [])
def pool (es : List (Nat × CpInfo)) (last : Nat) : Array CpInfo := ⟨poolList es last⟩
def fileOf (pool : Array CpInfo) (this : Nat) (attrs : Array Attribute := #[]) (ms : Array MethodInfo := #[]) (fl : Nat := 33) (sup : Nat := 0) (ifs : Array Nat := #[]) (fds : Array FieldInfo := #[]) : ClassFile where
  minorVersion := 0
  majorVersion := 65
  constantPool := pool
  accessFlags := fl
  thisClass := this
  superClass := sup
  interfaces := ifs
  fields := fds
  methods := ms
  attributes := attrs
def plain (name : String) (sup : Option ClassId) : Class where
  name := name
  kind := .ordinary
  loader := none
  accessFlags := 33
  super := sup
  interfaces := #[]
  cf := none
  fields := #[]
  methods := #[]
  instanceTypes := #[]
  staticTypes := #[]
  resolved := #[]
  callSites := []
  init := .initialized
  statics := none
  mirror := none

def pool0 : Array CpInfo := pool [(5, u "<init>"), (0, u "()V"), (1, .class_ 10), (1, u "java/lang/Object")] 113

def k0m0 : Method := { name := "<init>", desc := "()V", sig := { parameters := [], returnType := none }, accessFlags := 1, code := none }
/-- java/lang/Object -/
def k0 : Class := { plain "java/lang/Object" none with
  accessFlags := 33
  interfaces := #[]
  cf := some (fileOf pool0 8 #[] #[{ accessFlags := 1, nameIndex := 5, descriptorIndex := 6, attributes := #[] }] 33 0 #[] #[])
  fields := #[]
  methods := #[k0m0]
  instanceTypes := #[]
  staticTypes := #[]
  resolved := Array.replicate 124 none
  statics := none }

def pool1 : Array CpInfo := pool [(2, .class_ 4), (1, u "java/lang/Object"), (0, u "<init>"), (0, u "()V"), (0, .integer 2147483647), (0, .fieldref 9 10), (0, .class_ 11), (0, .nameAndType 12 13), (0, u "com/example/furnish/furnish/extension/Matches"), (0, u "EXACTLY_ONE"), (0, u "Lcom/example/furnish/furnish/extension/Matches;"), (0, .fieldref 9 15), (0, .nameAndType 16 13), (0, u "AT_MOST_ONE"), (0, .fieldref 9 18), (0, .nameAndType 19 13), (0, u "ANY_NUMBER"), (0, .methodref 9 21), (0, .nameAndType 22 23), (0, u "allows"), (0, u "(I)Z"), (0, .class_ 25), (0, u "com/example/furnish/furnish/extension/MatchesAllowsPinLaw"), (2, u "law"), (0, u "(II)Z")] 3

def k1m0 : Method := { name := "<init>", desc := "()V", sig := { parameters := [], returnType := none }, accessFlags := 1, code := none }
def k1c1 : Code := { maxStack := 2, maxLocals := 5, code := code, exceptionTable := #[], attributes := #[] }
def k1m1 : Method := { name := "law", desc := "(II)Z", sig := { parameters := [.int, .int], returnType := some .boolean }, accessFlags := 9, code := some k1c1 }
/-- com/example/furnish/furnish/extension/MatchesAllowsPinLaw -/
def k1 : Class := { plain "com/example/furnish/furnish/extension/MatchesAllowsPinLaw" (some 0) with
  accessFlags := 49
  interfaces := #[]
  cf := some (fileOf pool1 24 #[] #[{ accessFlags := 1, nameIndex := 5, descriptorIndex := 6, attributes := #[] }, { accessFlags := 9, nameIndex := 28, descriptorIndex := 29, attributes := #[] }] 49 2 #[] #[])
  fields := #[]
  methods := #[k1m0, k1m1]
  instanceTypes := #[]
  staticTypes := #[]
  resolved := Array.replicate 33 none
  statics := none }

def pool2 : Array CpInfo := pool [(1, .class_ 2), (0, u "java/lang/constant/Constable"), (0, .class_ 4), (0, u "java/lang/Object")] 6

/-- java/lang/constant/Constable -/
def k2 : Class := { plain "java/lang/constant/Constable" (some 0) with
  accessFlags := 1537
  interfaces := #[]
  cf := some (fileOf pool2 1 #[] #[] 1537 3 #[] #[])
  fields := #[]
  methods := #[]
  instanceTypes := #[]
  staticTypes := #[]
  resolved := Array.replicate 11 none
  statics := none }

def pool3 : Array CpInfo := pool [(1, .class_ 2), (0, u "java/lang/Comparable"), (0, .class_ 4), (0, u "java/lang/Object")] 7

/-- java/lang/Comparable -/
def k3 : Class := { plain "java/lang/Comparable" (some 0) with
  accessFlags := 1537
  interfaces := #[]
  cf := some (fileOf pool3 1 #[] #[] 1537 3 #[] #[])
  fields := #[]
  methods := #[]
  instanceTypes := #[]
  staticTypes := #[]
  resolved := Array.replicate 12 none
  statics := none }

def pool4 : Array CpInfo := pool [(1, .class_ 2), (0, u "java/io/Serializable"), (0, .class_ 4), (0, u "java/lang/Object")] 2

/-- java/io/Serializable -/
def k4 : Class := { plain "java/io/Serializable" (some 0) with
  accessFlags := 1537
  interfaces := #[]
  cf := some (fileOf pool4 1 #[] #[] 1537 3 #[] #[])
  fields := #[]
  methods := #[]
  instanceTypes := #[]
  staticTypes := #[]
  resolved := Array.replicate 7 none
  statics := none }

def pool5 : Array CpInfo := pool [(2, .class_ 4), (1, u "java/lang/Enum"), (0, u "name"), (0, u "Ljava/lang/String;"), (2, u "ordinal"), (0, u "I"), (1, .class_ 14), (1, u "java/lang/Object"), (4, u "hash"), (86, .class_ 108), (1, u "java/lang/Enum$EnumDesc"), (2, .class_ 112), (0, u "java/lang/constant/Constable"), (0, .class_ 114), (0, u "java/lang/Comparable"), (0, .class_ 116), (0, u "java/io/Serializable")] 87

/-- java/lang/Enum -/
def k5 : Class := { plain "java/lang/Enum" (some 0) with
  accessFlags := 1057
  interfaces := #[2, 3, 4]
  cf := some (fileOf pool5 2 #[.nestMembers #[106]] #[] 1057 12 #[111, 113, 115] #[{ accessFlags := 18, nameIndex := 5, descriptorIndex := 6, attributes := #[] }, { accessFlags := 18, nameIndex := 9, descriptorIndex := 10, attributes := #[] }, { accessFlags := 2, nameIndex := 19, descriptorIndex := 10, attributes := #[] }])
  fields := #[{ name := "name", type := (.object "java/lang/String"), accessFlags := 18, slot := 0, constantValue := 0 }, { name := "ordinal", type := .int, accessFlags := 18, slot := 1, constantValue := 0 }, { name := "hash", type := .int, accessFlags := 2, slot := 2, constantValue := 0 }]
  methods := #[]
  instanceTypes := #[(.object "java/lang/String"), .int, .int]
  staticTypes := #[]
  resolved := Array.replicate 204 none
  statics := none }

def pool6 : Array CpInfo := pool [(1, .class_ 2), (0, u "com/example/furnish/furnish/extension/Matches"), (2, u "EXACTLY_ONE"), (0, u "Lcom/example/furnish/furnish/extension/Matches;"), (2, u "AT_MOST_ONE"), (2, u "ANY_NUMBER"), (2, u "$VALUES"), (0, u "[Lcom/example/furnish/furnish/extension/Matches;"), (6, .class_ 25), (1, u "java/lang/Enum"), (6, .fieldref 1 33), (0, .nameAndType 34 35), (0, u "least"), (0, u "I"), (0, .fieldref 1 37), (0, .nameAndType 38 35), (0, u "most"), (20, u "allows"), (0, u "(I)Z")] 6

def k6c0 : Code := { maxStack := 2, maxLocals := 2, code := prog_16_method_4_code, exceptionTable := #[], attributes := #[] }
def k6m0 : Method := { name := "allows", desc := "(I)Z", sig := { parameters := [.int], returnType := some .boolean }, accessFlags := 1, code := some k6c0 }
/-- com/example/furnish/furnish/extension/Matches -/
def k6 : Class := { plain "com/example/furnish/furnish/extension/Matches" (some 5) with
  accessFlags := 16433
  interfaces := #[]
  cf := some (fileOf pool6 1 #[] #[{ accessFlags := 1, nameIndex := 59, descriptorIndex := 60, attributes := #[] }] 16433 23 #[] #[{ accessFlags := 16409, nameIndex := 5, descriptorIndex := 6, attributes := #[] }, { accessFlags := 16409, nameIndex := 9, descriptorIndex := 6, attributes := #[] }, { accessFlags := 16409, nameIndex := 12, descriptorIndex := 6, attributes := #[] }, { accessFlags := 18, nameIndex := 34, descriptorIndex := 35, attributes := #[] }, { accessFlags := 18, nameIndex := 38, descriptorIndex := 35, attributes := #[] }, { accessFlags := 4122, nameIndex := 15, descriptorIndex := 16, attributes := #[] }])
  fields := #[{ name := "EXACTLY_ONE", type := (.object "com/example/furnish/furnish/extension/Matches"), accessFlags := 16409, slot := 0, constantValue := 0 }, { name := "AT_MOST_ONE", type := (.object "com/example/furnish/furnish/extension/Matches"), accessFlags := 16409, slot := 1, constantValue := 0 }, { name := "ANY_NUMBER", type := (.object "com/example/furnish/furnish/extension/Matches"), accessFlags := 16409, slot := 2, constantValue := 0 }, { name := "least", type := .int, accessFlags := 18, slot := 3, constantValue := 0 }, { name := "most", type := .int, accessFlags := 18, slot := 4, constantValue := 0 }, { name := "$VALUES", type := (.array (.object "com/example/furnish/furnish/extension/Matches")), accessFlags := 4122, slot := 3, constantValue := 0 }]
  methods := #[k6m0]
  instanceTypes := #[(.object "java/lang/String"), .int, .int, .int, .int]
  staticTypes := #[(.object "com/example/furnish/furnish/extension/Matches"), (.object "com/example/furnish/furnish/extension/Matches"), (.object "com/example/furnish/furnish/extension/Matches"), (.array (.object "com/example/furnish/furnish/extension/Matches"))]
  resolved := Array.replicate 67 none
  statics := some 0 }

def pool7 : Array CpInfo := pool [(1, u "java/lang/Cloneable"), (0, .class_ 1), (0, u "java/lang/Object"), (0, .class_ 3)] 3

/-- java/lang/Cloneable -/
def k7 : Class := { plain "java/lang/Cloneable" (some 0) with
  accessFlags := 1537
  interfaces := #[]
  cf := some (fileOf pool7 2 #[] #[] 1537 4 #[] #[])
  fields := #[]
  methods := #[]
  instanceTypes := #[]
  staticTypes := #[]
  resolved := Array.replicate 8 none
  statics := none }

/-- the primitive byte -/
def k8 : Class := { plain "byte" none with kind := .primitive 'B', accessFlags := 0x411 }
/-- [B -/
def k9 : Class := { plain "[B" (some 0) with kind := .array 8 .byte, interfaces := #[7, 4], accessFlags := 1041 }

/-- the primitive int -/
def k10 : Class := { plain "int" none with kind := .primitive 'I', accessFlags := 0x411 }
/-- [I -/
def k11 : Class := { plain "[I" (some 0) with kind := .array 10 .int, interfaces := #[7, 4], accessFlags := 1041 }

def heap : Heap := #[{ cls := 6, slots := #[.ref 1, .ref 3, .ref 2, .null], vm := .statics 6 },
  { cls := 6, slots := #[.null, .int 0, .int 0, .int 1, .int 1], vm := .none },
  { cls := 6, slots := #[.null, .int 1, .int 0, .int 0, .int 2147483647], vm := .none },
  { cls := 6, slots := #[.null, .int 2, .int 0, .int 0, .int 1], vm := .none }]
def classes : Array Class := #[k0, k1, k2, k3, k4, k5, k6, k7, k8, k9, k10, k11]
def interned : List (Array UInt16 × Addr) := []
def slotsUsed : Nat := 19
def theMethod : MethodId := ⟨1, 1⟩
def args0 : Array Value := #[.int 5, .int 5]
def aboutOver (below : List Frame) : State where
  vm := { classes := classes, interned := interned.toArray }
  heap := heap
  slotsUsed := slotsUsed
  threads := #[{ frames := .invoking theMethod args0 :: below }]
def below0 : List Frame := [.native { method := ⟨0, 0⟩, args := #[] }]
def about1 : State := aboutOver below0
def p0 : Program := .bare "" "" ""
def e0 : Env := launch0.env 0 0 0
theorem w_frames : about1.frames = Frame.invoking theMethod args0 :: below0 := rfl
set_option maxRecDepth 65536 in
theorem w_args : argsFit about1.vm theMethod args0 = true := by decide +kernel
set_option maxRecDepth 65536 in
theorem w_heap : heapFits about1 = true := by decide +kernel
set_option maxRecDepth 65536 in
theorem w_runnable : about1.curStatus? = some .runnable := by decide +kernel
set_option maxRecDepth 65536 in
theorem w_alone : about1.alone = true := by decide +kernel
set_option maxRecDepth 65536 in
theorem w_named : about1.methodNamed? x = some theMethod := by decide +kernel
set_option maxRecDepth 65536 in
theorem w_hears : about1.hears theMethod below0 = true := by decide +kernel
set_option maxRecDepth 65536 in
theorem w_ripe : about1.ripe theMethod args0 below0 = true := by decide +kernel
theorem w_running : about1.status = .running := rfl
set_option maxRecDepth 65536 in
theorem w_room : about1.hasRoom e0.platform room_1 = true :=
  launch0.hasRoom_least _ room_1 (by decide +kernel) (by decide +kernel) (by decide +kernel) (by decide +kernel) (by decide +kernel) (by decide +kernel)
theorem allAtoms_all (ts : List Jvm.Cond) (a : Array Jvm.Value) (st : Jvm.State) : (allAtoms ts).before a st = ts.all (fun c => c.before a st) := by
  induction ts with
  | nil => rfl
  | cons c t ih =>
    show (Jvm.Cond.and c (allAtoms t)).before a st = _
    rw [Jvm.Cond.before_and, ih, List.all_cons]
def words1 : List Jvm.Cond := Jvm.Cond.code x code maxLocals ret :: tables_1
/-- a 'code' word, met by the world's own term for the bytes: nothing is compared byte by byte -/
theorem code_word {y : MethodName} {bytes : ByteArray} {mx : Nat} {rt : Option FieldType} {a : Array Value} {s : State} {m : MethodId} {meth : Method} {c : Code} (h1 : s.methodNamed? y = some m) (h2 : s.vm.method? m = some meth) (h3 : meth.code = some c) (h4 : c.code = bytes)
    (h5 : (c.maxLocals == mx && c.exceptionTable.isEmpty && decide (c.maxStack ≤ mostOperands) && decide (meth.sig.returnType = rt) && !meth.locks && decide (parseMethodDescriptor y.desc = some meth.sig)) = true) : (Jvm.Cond.code y bytes mx rt).before a s = true := by
  simp only [Bool.and_eq_true, beq_iff_eq, Bool.not_eq_true', decide_eq_true_eq] at h5
  obtain ⟨⟨⟨⟨⟨g1, g2⟩, g3⟩, g4⟩, g5⟩, g6⟩ := h5
  simp [Cond.before, Cond.holds, Cond.value, h1, h2, h3, h4, g1, g2, g3, g4, g5, g6]
def isCode : Jvm.Cond → Bool
  | .code _ _ _ _ => true
  | _ => false
theorem all_split {L : List Jvm.Cond} {P : Jvm.Cond → Bool} (h1 : L.all (fun c => isCode c || P c) = true) (h2 : ∀ c ∈ L.filter isCode, P c = true) : L.all P = true := by
  refine List.all_eq_true.mpr fun c hc => ?_
  have h := List.all_eq_true.mp h1 c hc
  rcases Bool.eq_false_or_eq_true (isCode c) with hi | hi
  · exact h2 c (List.mem_filter.mpr ⟨hc, hi⟩)
  · simpa [hi] using h
set_option maxRecDepth 65536 in
theorem w_c0 : (Jvm.Cond.code x code maxLocals ret).before args0 about1 = true := code_word (m := ⟨1, 1⟩) (meth := k1m1) (c := k1c1) (by decide +kernel) rfl rfl rfl (by decide +kernel)
set_option maxRecDepth 65536 in
theorem w_c1 : (Jvm.Cond.code ({ cls := "com/example/furnish/furnish/extension/Matches", name := "allows", desc := "(I)Z" } : Jvm.MethodName) prog_16_method_4_code (2 : Nat) (Option.some Jvm.ClassFile.FieldType.boolean)).before args0 about1 = true := code_word (m := ⟨6, 0⟩) (meth := k6m0) (c := k6c0) (by decide +kernel) rfl rfl rfl (by decide +kernel)
def codes1 : List Jvm.Cond := [Jvm.Cond.code x code maxLocals ret, Jvm.Cond.code ({ cls := "com/example/furnish/furnish/extension/Matches", name := "allows", desc := "(I)Z" } : Jvm.MethodName) prog_16_method_4_code (2 : Nat) (Option.some Jvm.ClassFile.FieldType.boolean)]
set_option maxRecDepth 65536 in
theorem codes_eq : words1.filter isCode = codes1 := rfl
theorem w_codes : ∀ c ∈ words1.filter isCode, c.before args0 about1 = true := by
  rw [codes_eq]
  intro c hc
  simp only [codes1, List.mem_cons, List.not_mem_nil, or_false] at hc
  rcases hc with rfl | rfl
  · exact w_c0
  · exact w_c1
set_option maxRecDepth 65536 in
theorem w_t1 : words1.all (fun c => isCode c || c.before args0 about1) = true := by decide +kernel
theorem w_tables : (allAtoms (Jvm.Cond.code x code maxLocals ret :: tables_1)).before args0 about1 = true := by
  rw [allAtoms_all]
  show words1.all (fun c => c.before args0 about1) = true
  refine all_split ?_ w_codes
  rw [w_t1]
set_option maxRecDepth 65536 in
theorem w_case : (Jvm.Cond.and given_1 narrow_1).before args0 about1 = true := by decide +kernel
theorem w_applies : (headSpec (Jvm.Cond.code x code maxLocals ret :: tables_1) room_1).applies x e0.platform about1 = true :=
  (Spec.applies_iff w_frames).mpr ⟨w_running, w_runnable, w_alone, w_named, w_hears, w_ripe, w_room, w_tables⟩
theorem atStart : AtStart classFile x code maxLocals ret World_1 tables_1 room_1 Calls_1 rest_1 Pre_1 launch0 p0 e0 about1 theMethod args0 below0 :=
  ⟨lists_1, trivial, launch0.admits_env _ _ _, launch0.least_env, fairChoices_fair.cas, fairChoices_fair.clock, w_frames, w_args, w_heap, w_applies, trivial, trivial, w_case⟩
end start1
theorem witness_1 : WitnessClaimed_1 := ⟨start1.p0, start1.e0, start1.about1, start1.theMethod, start1.args0, start1.below0, start1.atStart⟩
end Jvm.Pilot.@@N@@
