import JvmDerived
import JvmDerived.Pilot.@@N@@Statement
import JvmDerived.Pilot.@@N@@Code
set_option linter.unusedVariables false
set_option linter.unusedSimpArgs false
namespace Jvm.RoadKit
open Sem ClassFile Op Lib Jvm.Stand Jvm.Free Jvm.LawKit
theorem own_retI {p : Program} {l : Launch} {e : Env} {R : Room} {s : State} {m : MethodId} {args : Array Value} {below : List Frame} {meth : Method} {c : Code} {T : State} {locs : List Loc} {cells slots : Nat} (X : Stand p l e R s m args below meth c T locs cells slots) (hx : p.tables.exec = Jvm.exec) {pc : Nat} {Ls : Array Slot} {z : Int32} {rest : List Value} (hret : meth.sig.returnType = some .int) (hd : decode c.code pc = .ok (.ireturn, 1)) {fs : List Frame}
    (hl : ∀ (f : JFrame) (acts : List Action), f.method = m → f.locked = none → f.entered = [] → (doReturn e (T.setTop f) acts (some (.int z))).1 = T.setFrames fs) : Steps p.tables e below (T.setTop (mkF m pc Ls (.int z :: rest))) (T.setFrames fs) :=
  retOut X hx hret rfl (Or.inl ⟨rfl, Or.inl rfl, z, rfl⟩) hd hl
theorem own_retR {p : Program} {l : Launch} {e : Env} {R : Room} {s : State} {m : MethodId} {args : Array Value} {below : List Frame} {meth : Method} {c : Code} {T : State} {locs : List Loc} {cells slots : Nat} (X : Stand p l e R s m args below meth c T locs cells slots) (hx : p.tables.exec = Jvm.exec) {pc : Nat} {Ls : Array Slot} {w : Value} {t : FieldType} {rest : List Value} (hret : meth.sig.returnType = some t) (ht : t.isReference = true) (hw : w.isRef = true) (hd : decode c.code pc = .ok (.areturn, 1)) {fs : List Frame}
    (hl : ∀ (f : JFrame) (acts : List Action), f.method = m → f.locked = none → f.entered = [] → (doReturn e (T.setTop f) acts (some w)).1 = T.setFrames fs) : Steps p.tables e below (T.setTop (mkF m pc Ls (w :: rest))) (T.setFrames fs) :=
  retOut X hx hret (by rcases ref_cases hw with rfl | ⟨a, rfl⟩ <;> cases t <;> first | rfl | (cases ht; done)) (Or.inr (Or.inr (Or.inr (Or.inr ⟨rfl, ht, hw⟩)))) hd hl
end Jvm.RoadKit
namespace Jvm.Pilot.@@N@@
open Jvm Jvm.ClassFile Sem Op Lib Jvm.Free Jvm.Stand Jvm.LawKit Jvm.RoadKit Bundle Jvm.Pilot.@@N@@.Jvm.D
set_option maxRecDepth 65536
set_option maxHeartbeats 40000000
def own_us (cs : List Int32) : List Value := cs.map Value.int
def own_lb (c : Int32) : Int32 := (c.toInt8.toInt32).toInt8.toInt32
/-- the bytes that spell the chars cs -/
def own_by (cs : List Int32) : List Value := cs.map fun c => .int c.toInt8.toInt32
def own_n (cs : List Int32) : Int32 := Int32.ofNat cs.length
/-- the bytes of cs and zeros behind, z in all -/
def own_pad (cs : List Int32) (z : Int32) : List Value := own_by cs ++ List.replicate (z.toNatClampNeg - cs.length) (.int 0)
def own_zs (n : Int32) : List Value := List.replicate n.toNatClampNeg (.int 0)
def own_nil : List Int32 := []
theorem own_dL {b : ByteArray} {Ls : List (Nat × Instr × Nat)} (H : ∀ x ∈ Ls, decode b x.1 = .ok x.2) {c : Code} (hby : c.code = b) {i k n : Nat} {a : Instr} (h : Ls[i]? = some (k, a, n)) : decode c.code k = .ok (a, n) := by
  have q := H (k, a, n) (List.mem_of_getElem? h)
  rw [hby]
  exact q
def own_L45 : List (Nat × Instr × Nat) := [(0, .iload_n 0, 1), (1, .ifCond .lt 8, 3), (4, .iload_n 0, 1), (5, .iload_n 1, 1), (6, .if_icmp .lt 10, 3), (16, .iload_n 0, 1), (17, .ireturn, 1)]
theorem own_K45 : ∀ x ∈ own_L45, decode jdk_41_method_11_code x.1 = .ok x.2 := by decide +kernel
theorem d45 {c : Code} (hby : c.code = jdk_41_method_11_code) (i : Nat) {k n : Nat} {a : Instr} (h : own_L45[i]? = some (k, a, n)) : decode c.code k = .ok (a, n) := own_dL own_K45 hby h
def Q45n (Z : State) (p1 p2 : Int32) (h0 : Heap) (n0 : Nat) (v : Option Value) (h : Heap) (L : List Loc) : Prop := v = some (.int p1) ∧ Fr n0 L ∧ h = h0
theorem ef_45aan (m : MethodId) (x0 : Int32) (x1 : Int32) : entryFrame m #[(.int x0), (.int x1), .null] 3 = mkF m 0 #[.val (.int x0), .val (.int x1), .val .null] [] := by first | (simp [entryFrame, mkF, argsToLocals, Value.category]; done) | rfl
/-- a narrow contract: the body y, called with as at heap h0, returns what Q says -/
def own_C (l : Launch) (Z : State) (y : MethodName) (b : ByteArray) (k : Nat) (r : Option FieldType) (ws : List Jvm.Cond) (R : Room) (as : Array Value) (h0 : Heap) (Q : Option Value → Heap → List Loc → Prop) : Prop := MetFree l y (head1 (Jvm.Cond.code y b k r :: ws) R) (fun a U => a = as ∧ Z.Warmed39 U.vm ∧ U.heap = h0) (fun _ _ _ _ _ => True) (fun _ U o U' => ∃ v L, o = .returned v ∧ Q v U'.heap L ∧ FrameEnd U o U' L R.cells R.slots)
theorem pnc_jdk_internal_util_Preconditions : plainName "jdk/internal/util/Preconditions" = true := by first | (simp [plainName, overriddenIn]; done) | decide +kernel
theorem own_intro {l : Launch} {Z : State} {y : MethodName} {b : ByteArray} {k : Nat} {r : Option FieldType} {ws : List Jvm.Cond} {R : Room} {as : Array Value} {h0 : Heap} {Q : Option Value → Heap → List Loc → Prop} (hpl : plainFor y = true)
    (H : ∀ (p : Program) (e : Env) (s : State) (m : MethodId) (below : List Frame) (meth : Method) (c : Code) (s₁ : State), p.tables.exec = Jvm.exec → c.code = b → c.maxLocals = k → s.vm.findClass y.cls = some m.cls → meth.name = y.name → Z.Warmed39 s.vm → s₁.heap = h0 → meth.sig.returnType = r → Stand p l e R s m as below meth c s₁ [] 0 0 →
      ∃ (T : State) (locs : List Loc) (cells slots : Nat) (v : Option Value), Stand p l e R s m as below meth c T locs cells slots ∧ cells ≤ R.cells ∧ slots ≤ R.slots ∧ (r = none → v = none) ∧ Q v T.heap locs ∧ ∀ fs, (∀ (f : JFrame) (acts : List Action), f.method = m → f.locked = none → f.entered = [] → (doReturn e (T.setTop f) acts v).1 = T.setFrames fs) → Steps p.tables e below (s₁.setTop (entryFrame m as k)) (T.setFrames fs)) : own_C l Z y b k r ws R as h0 Q := by
  refine MetFree.of_bodySF hpl hisR ?_
  intro p e s m args below meth c s₁ Bd hml0 hP hK
  obtain ⟨rfl, hZ, hh⟩ := hP
  have e0 : s₁.heap = h0 := by rw [← hh, Bd.state]; rfl
  obtain ⟨T, locs, cells, slots, v, X, hc, hs, hv, hQ, st⟩ := H p e s m below meth c s₁ Bd.exec Bd.bytes hml0 (findClass_of_methodNamed Bd.named) (name_of_methodNamed Bd.named Bd.method).1 hZ e0 Bd.returns (Stand.of_body Bd)
  obtain ⟨fs, hr, hrun, hended, hW, hsame⟩ := X.leave (v := v) (fun h => hv (by rw [← Bd.returns]; exact h))
  exact ⟨_, _, st fs hr, hrun, hended, _, _, rfl, hQ, ⟨_, rfl⟩, hW, hsame.mono hc hs⟩
theorem rm45n (l : Launch) (Z : State) (a0 : Array Value) (hw : ∀ d ∈ tables_1, d.before a0 Z = true) (ws : List Jvm.Cond) (p1 p2 : Int32) (h0 : Heap) (n0 : Nat) (O0 : Old Z n0 h0) (hc1 : ¬ (p1 < (0 : Int32))) (hc6 : p1 < p2) :
    own_C l Z (⟨"jdk/internal/util/Preconditions", "checkIndex", "(IILjava/util/function/BiFunction;)I"⟩ : MethodName) jdk_41_method_11_code 3 (some .int) ws ({ frames := 0, cells := 0, slots := 0, locals := 0 } : Room) #[(.int p1), (.int p2), .null] h0 (Q45n Z p1 p2 h0 n0) := by
  refine own_intro (plainFor_of_name pnc_jdk_internal_util_Preconditions) fun p e s m below meth c s₁ hx hby hml hown hnm hZ e0 hret X0 => ?_
  have N0 := Fr.nil n0
  have Z0 : n0 ≤ h0.size := O0.1 ▸ O0.2.1
  refine ⟨s₁, _, _, _, some (.int p1), X0, by decide, by decide, nofun, ?_, fun fs hr => castTop (ef_45aan m p1 p2) ?_⟩
  · show Q45n Z p1 p2 h0 n0 _ s₁.heap _
    rw [e0]
    exact ⟨rfl, N0, rfl⟩
  · show Steps p.tables e below (s₁.setTop (mkF m 0 #[.val (.int p1), .val (.int p2), .val .null] [])) _
    refine XS.iloadN X0.here hx rfl (d45 hby 0 rfl) rfl ?_
    refine XS.ifNo X0.here hx rfl (d45 hby 1 rfl) rfl ((if0 _ _).trans (flt hc1).1) ?_
    refine XS.iloadN X0.here hx rfl (d45 hby 2 rfl) rfl ?_
    refine XS.iloadN X0.here hx rfl (d45 hby 3 rfl) rfl ?_
    refine XS.icmpYes X0.here hx rfl (pc0 := 6) (pc' := 16) rfl (d45 hby 4 rfl) rfl (tlt hc6).1 (by decide) (by decide) ?_
    refine XS.iloadN X0.here hx rfl (d45 hby 5 rfl) rfl ?_
    exact own_retI X0 hx hret (d45 hby 6 rfl) hr
def Q45r (Z : State) (p1 p2 : Int32) (a3 : Addr) (h0 : Heap) (n0 : Nat) (v : Option Value) (h : Heap) (L : List Loc) : Prop := v = some (.int p1) ∧ Fr n0 L ∧ h = h0
theorem ef_45 (m : MethodId) (x0 : Int32) (x1 : Int32) (x2 : Addr) : entryFrame m #[(.int x0), (.int x1), (.ref x2)] 3 = mkF m 0 #[.val (.int x0), .val (.int x1), .val (.ref x2)] [] := by first | (simp [entryFrame, mkF, argsToLocals, Value.category]; done) | rfl
theorem rm45r (l : Launch) (Z : State) (a0 : Array Value) (hw : ∀ d ∈ tables_1, d.before a0 Z = true) (ws : List Jvm.Cond) (p1 p2 : Int32) (a3 : Addr) (h0 : Heap) (n0 : Nat) (O0 : Old Z n0 h0) (hc1 : ¬ (p1 < (0 : Int32))) (hc6 : p1 < p2) :
    own_C l Z (⟨"jdk/internal/util/Preconditions", "checkIndex", "(IILjava/util/function/BiFunction;)I"⟩ : MethodName) jdk_41_method_11_code 3 (some .int) ws ({ frames := 0, cells := 0, slots := 0, locals := 0 } : Room) #[(.int p1), (.int p2), (.ref a3)] h0 (Q45r Z p1 p2 a3 h0 n0) := by
  refine own_intro (plainFor_of_name pnc_jdk_internal_util_Preconditions) fun p e s m below meth c s₁ hx hby hml hown hnm hZ e0 hret X0 => ?_
  have N0 := Fr.nil n0
  have Z0 : n0 ≤ h0.size := O0.1 ▸ O0.2.1
  refine ⟨s₁, _, _, _, some (.int p1), X0, by decide, by decide, nofun, ?_, fun fs hr => castTop (ef_45 m p1 p2 a3) ?_⟩
  · show Q45r Z p1 p2 a3 h0 n0 _ s₁.heap _
    rw [e0]
    exact ⟨rfl, N0, rfl⟩
  · show Steps p.tables e below (s₁.setTop (mkF m 0 #[.val (.int p1), .val (.int p2), .val (.ref a3)] [])) _
    refine XS.iloadN X0.here hx rfl (d45 hby 0 rfl) rfl ?_
    refine XS.ifNo X0.here hx rfl (d45 hby 1 rfl) rfl ((if0 _ _).trans (flt hc1).1) ?_
    refine XS.iloadN X0.here hx rfl (d45 hby 2 rfl) rfl ?_
    refine XS.iloadN X0.here hx rfl (d45 hby 3 rfl) rfl ?_
    refine XS.icmpYes X0.here hx rfl (pc0 := 6) (pc' := 16) rfl (d45 hby 4 rfl) rfl (tlt hc6).1 (by decide) (by decide) ?_
    refine XS.iloadN X0.here hx rfl (d45 hby 5 rfl) rfl ?_
    exact own_retI X0 hx hret (d45 hby 6 rfl) hr
def own_L44 : List (Nat × Instr × Nat) := [(0, .iload_n 0, 1), (1, .iload_n 1, 1), (2, .getstatic 1053, 3), (5, .invokestatic 1059, 3), (8, .pop, 1), (9, .return_, 1)]
theorem own_K44 : ∀ x ∈ own_L44, decode jdk_42_method_155_code x.1 = .ok x.2 := by decide +kernel
theorem d44 {c : Code} (hby : c.code = jdk_42_method_155_code) (i : Nat) {k n : Nat} {a : Instr} (h : own_L44[i]? = some (k, a, n)) : decode c.code k = .ok (a, n) := own_dL own_K44 hby h
theorem own_w {a0 : Array Value} {Z : State} {d : Jvm.Cond} (hw : ∀ d ∈ tables_1, d.before a0 Z = true) (i : Nat) (h : tables_1[i]? = some d) : d.before a0 Z = true := hw d (List.mem_of_getElem? h)
theorem pd_15 : parseMethodDescriptor "(IILjava/util/function/BiFunction;)I" = some ⟨[.int, .int, (.object "java/util/function/BiFunction")], some .int⟩ := by decide +kernel
def Q44n (Z : State) (p1 p2 : Int32) (h0 : Heap) (n0 : Nat) (v : Option Value) (h : Heap) (L : List Loc) : Prop := v = none ∧ Fr n0 L ∧ h = h0
theorem ef_44 (m : MethodId) (x0 : Int32) (x1 : Int32) : entryFrame m #[(.int x0), (.int x1)] 2 = mkF m 0 #[.val (.int x0), .val (.int x1)] [] := by first | (simp [entryFrame, mkF, argsToLocals, Value.category]; done) | rfl
theorem pnc_java_lang_String : plainName "java/lang/String" = true := by first | (simp [plainName, overriddenIn]; done) | decide +kernel
theorem rm44n (l : Launch) (Z : State) (a0 : Array Value) (hw : ∀ d ∈ tables_1, d.before a0 Z = true) (ws : List Jvm.Cond) (p1 p2 : Int32) (h0 : Heap) (n0 : Nat) (O0 : Old Z n0 h0) (S_SIOOBE_FORMATTER : Sta Z Z.heap "jdk/internal/util/Preconditions" "SIOOBE_FORMATTER" "Ljava/util/function/BiFunction;" .null) (h5_hc1 : ¬ (p1 < (0 : Int32))) (h5_hc6 : p1 < p2) :
    own_C l Z (⟨"java/lang/String", "checkIndex", "(II)V"⟩ : MethodName) jdk_42_method_155_code 2 none ws ({ frames := 2, cells := 0, slots := 0, locals := 40 } : Room) #[(.int p1), (.int p2)] h0 (Q44n Z p1 p2 h0 n0) := by
  refine own_intro (plainFor_of_name pnc_java_lang_String) fun p e s m below meth c s₁ hx hby hml hown hnm hZ e0 hret X0 => ?_
  have N0 := Fr.nil n0
  have Z0 : n0 ≤ h0.size := O0.1 ▸ O0.2.1
  obtain ⟨T3, X3, e3, st3⟩ := getS2 X0 hx hZ hown (host := "") (Or.inl (own_w hw 235 rfl)) Via.refl e0 (S_SIOOBE_FORMATTER.ext O0.2) (g := (mkF m 2 #[.val (.int p1), .val (.int p2)] [(.int p2), (.int p1)])) rfl (d44 hby 2 rfl)
  obtain ⟨vr4, _, ⟨T4, L4, k4, n4⟩, -, X4, ⟨Lc4, hQ4, l4, y4, z4⟩, st4⟩ := Jvm.LawKit.callS X3 hx (y := (⟨"jdk/internal/util/Preconditions", "checkIndex", "(IILjava/util/function/BiFunction;)I"⟩ : MethodName)) hown (mvT hZ (own_w hw 237 rfl)) (mvT hZ (own_w hw 238 rfl)) (mvT hZ (own_w hw 236 rfl)) (mvT hZ (own_w hw 239 rfl)) (by decide) (backOf (W := 0) (rm45n l Z a0 hw [] p1 p2 h0 n0 O0 h5_hc1 h5_hc6) hZ (own_w hw 239 rfl) (own_w hw 236 rfl) (by decide) (by decide)) (g := (mkF m 5 #[.val (.int p1), .val (.int p2)] [.null, (.int p2), (.int p1)])) rfl (by rw [hml]; rfl) (argsL := [(.int p1), (.int p2), .null]) (rest := []) (lenOf pd_15 rfl) rfl (by show 2 * 0 + _ ≤ _; exact Nat.le_of_eq rfl) (d44 hby 3 rfl) (fun _ _ => ⟨rfl, e3, (by decide : 0 + 0 ≤ _), (by decide : 0 + 0 ≤ _)⟩)
  dsimp only [Pt.U, Pt.locs, Pt.cells, Pt.slots] at X4 l4 y4 z4 st4 hQ4
  subst l4 y4 z4
  obtain ⟨rfl, N4q, e4⟩ := hQ4
  have N4 := Fr.app N0 N4q
  replace X4 := X4.more (cells' := 0) (slots' := 0) (by decide) (by decide)
  refine ⟨T4, _, _, _, none, X4, by decide, by decide, fun _ => rfl, ?_, fun fs hr => castTop (ef_44 m p1 p2) ?_⟩
  · show Q44n Z p1 p2 h0 n0 _ T4.heap _
    rw [e4]
    exact ⟨rfl, N4, rfl⟩
  · show Steps p.tables e below (s₁.setTop (mkF m 0 #[.val (.int p1), .val (.int p2)] [])) _
    refine XS.iloadN X0.here hx rfl (d44 hby 0 rfl) rfl ?_
    refine XS.iloadN X0.here hx rfl (d44 hby 1 rfl) rfl ?_
    refine st3 _ ?_
    refine st4 _ ?_
    refine XS.pop X4.here hx rfl (d44 hby 4 rfl) rfl rfl ?_
    exact X4.returnOut hx hret (d44 hby 5 rfl) hr
def Q44r (Z : State) (p1 p2 : Int32) (wF : Addr) (h0 : Heap) (n0 : Nat) (v : Option Value) (h : Heap) (L : List Loc) : Prop := v = none ∧ Fr n0 L ∧ h = h0
theorem rm44r (l : Launch) (Z : State) (a0 : Array Value) (hw : ∀ d ∈ tables_1, d.before a0 Z = true) (ws : List Jvm.Cond) (p1 p2 : Int32) (wF : Addr) (h0 : Heap) (n0 : Nat) (O0 : Old Z n0 h0) (S_SIOOBE_FORMATTER : Sta Z Z.heap "jdk/internal/util/Preconditions" "SIOOBE_FORMATTER" "Ljava/util/function/BiFunction;" (.ref wF)) (h5_hc1 : ¬ (p1 < (0 : Int32))) (h5_hc6 : p1 < p2) :
    own_C l Z (⟨"java/lang/String", "checkIndex", "(II)V"⟩ : MethodName) jdk_42_method_155_code 2 none ws ({ frames := 2, cells := 0, slots := 0, locals := 40 } : Room) #[(.int p1), (.int p2)] h0 (Q44r Z p1 p2 wF h0 n0) := by
  refine own_intro (plainFor_of_name pnc_java_lang_String) fun p e s m below meth c s₁ hx hby hml hown hnm hZ e0 hret X0 => ?_
  have N0 := Fr.nil n0
  have Z0 : n0 ≤ h0.size := O0.1 ▸ O0.2.1
  obtain ⟨T3, X3, e3, st3⟩ := getS2 X0 hx hZ hown (host := "") (Or.inl (own_w hw 235 rfl)) Via.refl e0 (S_SIOOBE_FORMATTER.ext O0.2) (g := (mkF m 2 #[.val (.int p1), .val (.int p2)] [(.int p2), (.int p1)])) rfl (d44 hby 2 rfl)
  obtain ⟨vr4, _, ⟨T4, L4, k4, n4⟩, -, X4, ⟨Lc4, hQ4, l4, y4, z4⟩, st4⟩ := Jvm.LawKit.callS X3 hx (y := (⟨"jdk/internal/util/Preconditions", "checkIndex", "(IILjava/util/function/BiFunction;)I"⟩ : MethodName)) hown (mvT hZ (own_w hw 237 rfl)) (mvT hZ (own_w hw 238 rfl)) (mvT hZ (own_w hw 236 rfl)) (mvT hZ (own_w hw 239 rfl)) (by decide) (backOf (W := 0) (rm45r l Z a0 hw [] p1 p2 wF h0 n0 O0 h5_hc1 h5_hc6) hZ (own_w hw 239 rfl) (own_w hw 236 rfl) (by decide) (by decide)) (g := (mkF m 5 #[.val (.int p1), .val (.int p2)] [(.ref wF), (.int p2), (.int p1)])) rfl (by rw [hml]; rfl) (argsL := [(.int p1), (.int p2), (.ref wF)]) (rest := []) (lenOf pd_15 rfl) rfl (by show 2 * 0 + _ ≤ _; exact Nat.le_of_eq rfl) (d44 hby 3 rfl) (fun _ _ => ⟨rfl, e3, (by decide : 0 + 0 ≤ _), (by decide : 0 + 0 ≤ _)⟩)
  dsimp only [Pt.U, Pt.locs, Pt.cells, Pt.slots] at X4 l4 y4 z4 st4 hQ4
  subst l4 y4 z4
  obtain ⟨rfl, N4q, e4⟩ := hQ4
  have N4 := Fr.app N0 N4q
  replace X4 := X4.more (cells' := 0) (slots' := 0) (by decide) (by decide)
  refine ⟨T4, _, _, _, none, X4, by decide, by decide, fun _ => rfl, ?_, fun fs hr => castTop (ef_44 m p1 p2) ?_⟩
  · show Q44r Z p1 p2 wF h0 n0 _ T4.heap _
    rw [e4]
    exact ⟨rfl, N4, rfl⟩
  · show Steps p.tables e below (s₁.setTop (mkF m 0 #[.val (.int p1), .val (.int p2)] [])) _
    refine XS.iloadN X0.here hx rfl (d44 hby 0 rfl) rfl ?_
    refine XS.iloadN X0.here hx rfl (d44 hby 1 rfl) rfl ?_
    refine st3 _ ?_
    refine st4 _ ?_
    refine XS.pop X4.here hx rfl (d44 hby 4 rfl) rfl rfl ?_
    exact X4.returnOut hx hret (d44 hby 5 rfl) hr
def Q44 (Z : State) (p1 p2 : Int32) (fm : Value) (h0 : Heap) (n0 : Nat) (v : Option Value) (h : Heap) (L : List Loc) : Prop := v = none ∧ Fr n0 L ∧ h = h0
theorem rm44 (l : Launch) (Z : State) (a0 : Array Value) (hw : ∀ d ∈ tables_1, d.before a0 Z = true) (ws : List Jvm.Cond) (p1 p2 : Int32) (fm : Value) (h0 : Heap) (n0 : Nat) (O0 : Old Z n0 h0) (h5_hc1 : ¬ (p1 < (0 : Int32))) (h5_hc6 : p1 < p2) (S_SIOOBE_FORMATTER : Sta Z Z.heap "jdk/internal/util/Preconditions" "SIOOBE_FORMATTER" "Ljava/util/function/BiFunction;" fm) (hrfm : fm.isRef = true) :
    own_C l Z (⟨"java/lang/String", "checkIndex", "(II)V"⟩ : MethodName) jdk_42_method_155_code 2 none ws ({ frames := 2, cells := 0, slots := 0, locals := 40 } : Room) #[(.int p1), (.int p2)] h0 (Q44 Z p1 p2 fm h0 n0) := by
  rcases ref_cases hrfm with rfl | ⟨wF, rfl⟩
  · exact rm44n l Z a0 hw ws p1 p2 h0 n0 O0 S_SIOOBE_FORMATTER h5_hc1 h5_hc6
  · exact rm44r l Z a0 hw ws p1 p2 wF h0 n0 O0 S_SIOOBE_FORMATTER h5_hc1 h5_hc6
def own_L13 : List (Nat × Instr × Nat) := [(0, .getstatic 38, 3), (3, .ifCond .eq 10, 3), (6, .aload_n 0, 1), (7, .getfield 15, 3), (10, .goto 4, 3), (14, .ireturn, 1)]
theorem own_K13 : ∀ x ∈ own_L13, decode jdk_42_method_152_code x.1 = .ok x.2 := by decide +kernel
theorem d13 {c : Code} (hby : c.code = jdk_42_method_152_code) (i : Nat) {k n : Nat} {a : Instr} (h : own_L13[i]? = some (k, a, n)) : decode c.code k = .ok (a, n) := own_dL own_K13 hby h
def Q13 (Z : State) (a1 : Addr) (zC : Int32) (h0 : Heap) (n0 : Nat) (v : Option Value) (h : Heap) (L : List Loc) : Prop := v = some (.int 0) ∧ Fr n0 L ∧ h = h0
theorem ef_13 (m : MethodId) (x0 : Addr) : entryFrame m #[(.ref x0)] 1 = mkF m 0 #[.val (.ref x0)] [] := by first | (simp [entryFrame, mkF, argsToLocals, Value.category]; done) | rfl
theorem rm13 (l : Launch) (Z : State) (a0 : Array Value) (hw : ∀ d ∈ tables_1, d.before a0 Z = true) (ws : List Jvm.Cond) (a1 : Addr) (zC : Int32) (h0 : Heap) (n0 : Nat) (O0 : Old Z n0 h0) (S_COMPACT_STRINGS : Sta Z Z.heap "java/lang/String" "COMPACT_STRINGS" "Z" (.int zC)) (hc3 : ¬ (zC = (0 : Int32))) (HF_a1_coder : Fld Z h0 a1 "java/lang/String" "coder" "B" (.int 0)) :
    own_C l Z (⟨"java/lang/String", "coder", "()B"⟩ : MethodName) jdk_42_method_152_code 1 (some .byte) ws ({ frames := 0, cells := 0, slots := 0, locals := 0 } : Room) #[(.ref a1)] h0 (Q13 Z a1 zC h0 n0) := by
  refine own_intro (plainFor_of_name pnc_java_lang_String) fun p e s m below meth c s₁ hx hby hml hown hnm hZ e0 hret X0 => ?_
  have N0 := Fr.nil n0
  have Z0 : n0 ≤ h0.size := O0.1 ▸ O0.2.1
  obtain ⟨T2, X2, e2, st2⟩ := getS2 X0 hx hZ hown (host := "") (Or.inl (own_w hw 15 rfl)) Via.refl e0 (S_COMPACT_STRINGS.ext O0.2) (g := (mkF m 0 #[.val (.ref a1)] [])) rfl (d13 hby 0 rfl)
  obtain ⟨T3, X3, e3, st3⟩ := getF X2 hx hZ hown (host := "") (Or.inl (own_w hw 27 rfl)) Via.refl e2 HF_a1_coder (g := (mkF m 7 #[.val (.ref a1)] [(.ref a1)])) rfl rfl (d13 hby 3 rfl)
  refine ⟨T3, _, _, _, some (.int 0), X3, by decide, by decide, nofun, ?_, fun fs hr => castTop (ef_13 m a1) ?_⟩
  · show Q13 Z a1 zC h0 n0 _ T3.heap _
    rw [e3]
    exact ⟨rfl, N0, rfl⟩
  · show Steps p.tables e below (s₁.setTop (mkF m 0 #[.val (.ref a1)] [])) _
    refine st2 _ ?_
    refine XS.ifNo X2.here hx rfl (d13 hby 1 rfl) rfl ((if0 _ _).trans (feq hc3).1) ?_
    refine XS.aloadN X2.here hx rfl (d13 hby 2 rfl) rfl rfl ?_
    refine st3 _ ?_
    refine XS.goto X3.here hx rfl (pc0 := 10) (pc' := 14) rfl (d13 hby 4 rfl) (by decide) (by decide) ?_
    exact retN X3 hx (t := .byte) hret (by simp) (d13 hby 5 rfl) hr
def own_L14 : List (Nat × Instr × Nat) := [(0, .getstatic 38, 3), (3, .ifCond .eq 14, 3), (6, .aload_n 0, 1), (7, .getfield 15, 3), (10, .ifCond .ne 7, 3), (13, .iconst 1, 1), (14, .goto 4, 3), (18, .ireturn, 1)]
theorem own_K14 : ∀ x ∈ own_L14, decode jdk_42_method_154_code x.1 = .ok x.2 := by decide +kernel
theorem d14 {c : Code} (hby : c.code = jdk_42_method_154_code) (i : Nat) {k n : Nat} {a : Instr} (h : own_L14[i]? = some (k, a, n)) : decode c.code k = .ok (a, n) := own_dL own_K14 hby h
def Q14 (Z : State) (a1 : Addr) (zC : Int32) (h0 : Heap) (n0 : Nat) (v : Option Value) (h : Heap) (L : List Loc) : Prop := v = some (.int 1) ∧ Fr n0 L ∧ h = h0
theorem ef_14 (m : MethodId) (x0 : Addr) : entryFrame m #[(.ref x0)] 1 = mkF m 0 #[.val (.ref x0)] [] := by first | (simp [entryFrame, mkF, argsToLocals, Value.category]; done) | rfl
theorem rm14 (l : Launch) (Z : State) (a0 : Array Value) (hw : ∀ d ∈ tables_1, d.before a0 Z = true) (ws : List Jvm.Cond) (a1 : Addr) (zC : Int32) (h0 : Heap) (n0 : Nat) (O0 : Old Z n0 h0) (S_COMPACT_STRINGS : Sta Z Z.heap "java/lang/String" "COMPACT_STRINGS" "Z" (.int zC)) (hc3 : ¬ (zC = (0 : Int32))) (HF_a1_coder : Fld Z h0 a1 "java/lang/String" "coder" "B" (.int 0)) :
    own_C l Z (⟨"java/lang/String", "isLatin1", "()Z"⟩ : MethodName) jdk_42_method_154_code 1 (some .boolean) ws ({ frames := 0, cells := 0, slots := 0, locals := 0 } : Room) #[(.ref a1)] h0 (Q14 Z a1 zC h0 n0) := by
  refine own_intro (plainFor_of_name pnc_java_lang_String) fun p e s m below meth c s₁ hx hby hml hown hnm hZ e0 hret X0 => ?_
  have N0 := Fr.nil n0
  have Z0 : n0 ≤ h0.size := O0.1 ▸ O0.2.1
  obtain ⟨T2, X2, e2, st2⟩ := getS2 X0 hx hZ hown (host := "") (Or.inl (own_w hw 15 rfl)) Via.refl e0 (S_COMPACT_STRINGS.ext O0.2) (g := (mkF m 0 #[.val (.ref a1)] [])) rfl (d14 hby 0 rfl)
  obtain ⟨T3, X3, e3, st3⟩ := getF X2 hx hZ hown (host := "") (Or.inl (own_w hw 27 rfl)) Via.refl e2 HF_a1_coder (g := (mkF m 7 #[.val (.ref a1)] [(.ref a1)])) rfl rfl (d14 hby 3 rfl)
  refine ⟨T3, _, _, _, some (.int 1), X3, by decide, by decide, nofun, ?_, fun fs hr => castTop (ef_14 m a1) ?_⟩
  · show Q14 Z a1 zC h0 n0 _ T3.heap _
    rw [e3]
    exact ⟨rfl, N0, rfl⟩
  · show Steps p.tables e below (s₁.setTop (mkF m 0 #[.val (.ref a1)] [])) _
    refine st2 _ ?_
    refine XS.ifNo X2.here hx rfl (d14 hby 1 rfl) rfl ((if0 _ _).trans (feq hc3).1) ?_
    refine XS.aloadN X2.here hx rfl (d14 hby 2 rfl) rfl rfl ?_
    refine st3 _ ?_
    refine XS.ifNo X3.here hx rfl (d14 hby 4 rfl) rfl ((if0 _ _).trans (teq (by decide : (0 : Int32) = (0 : Int32))).2) ?_
    refine XS.iconst X3.here hx rfl (d14 hby 5 rfl) ?_
    refine XS.goto X3.here hx rfl (pc0 := 14) (pc' := 18) rfl (d14 hby 6 rfl) (by decide) (by decide) ?_
    exact retN X3 hx (t := .boolean) hret (by simp) (d14 hby 7 rfl) hr
def own_L21 : List (Nat × Instr × Nat) := [(0, .aload_n 0, 1), (1, .getfield 9, 3), (4, .arraylength, 1), (5, .aload_n 0, 1), (6, .invokevirtual 335, 3), (9, .ishr, 1), (10, .ireturn, 1)]
theorem own_K21 : ∀ x ∈ own_L21, decode jdk_42_method_54_code x.1 = .ok x.2 := by decide +kernel
theorem d21 {c : Code} (hby : c.code = jdk_42_method_54_code) (i : Nat) {k n : Nat} {a : Instr} (h : own_L21[i]? = some (k, a, n)) : decode c.code k = .ok (a, n) := own_dL own_K21 hby h
theorem pd_0 : parseMethodDescriptor "()B" = some ⟨[], some .byte⟩ := by decide +kernel
def Q21v (Z : State) (a1 t0 : Addr) (k9 : ClassId) (nn : Int32) (vs : List Value) (zC : Int32) (h0 : Heap) (n0 : Nat) (v : Option Value) (h : Heap) (L : List Loc) : Prop := v = some (.int (nn >>> ((0 : Int32) &&& 31))) ∧ Fr n0 L ∧ h = h0
theorem ef_21 (m : MethodId) (x0 : Addr) : entryFrame m #[(.ref x0)] 1 = mkF m 0 #[.val (.ref x0)] [] := by first | (simp [entryFrame, mkF, argsToLocals, Value.category]; done) | rfl
theorem rm21v (l : Launch) (Z : State) (a0 : Array Value) (hw : ∀ d ∈ tables_1, d.before a0 Z = true) (ws : List Jvm.Cond) (a1 t0 : Addr) (k9 : ClassId) (nn : Int32) (vs : List Value) (zC : Int32) (h0 : Heap) (n0 : Nat) (O0 : Old Z n0 h0) (HE_a1 : Exa Z h0 a1 "java/lang/String") (HV_t0 : Arv Z h0 t0 k9 .byte nn vs (.int 0)) (HF_a1_value : Fld Z h0 a1 "java/lang/String" "value" "[B" (.ref t0)) (S_COMPACT_STRINGS : Sta Z Z.heap "java/lang/String" "COMPACT_STRINGS" "Z" (.int zC)) (HF_a1_coder : Fld Z h0 a1 "java/lang/String" "coder" "B" (.int 0)) (h6_hc3 : ¬ (zC = (0 : Int32))) :
    own_C l Z (⟨"java/lang/String", "length", "()I"⟩ : MethodName) jdk_42_method_54_code 1 (some .int) ws ({ frames := 1, cells := 0, slots := 0, locals := 13 } : Room) #[(.ref a1)] h0 (Q21v Z a1 t0 k9 nn vs zC h0 n0) := by
  refine own_intro (plainFor_of_name pnc_java_lang_String) fun p e s m below meth c s₁ hx hby hml hown hnm hZ e0 hret X0 => ?_
  have N0 := Fr.nil n0
  have Z0 : n0 ≤ h0.size := O0.1 ▸ O0.2.1
  obtain ⟨T2, X2, e2, st2⟩ := getF X0 hx hZ hown (host := "") (Or.inl (own_w hw 29 rfl)) Via.refl e0 HF_a1_value (g := (mkF m 1 #[.val (.ref a1)] [(.ref a1)])) rfl rfl (d21 hby 1 rfl)
  obtain ⟨cl3, Ar3, q3, S3, Nn3, Hh3, G3⟩ := id HV_t0
  obtain ⟨cq4, kq4, q4a, q4b, q4c⟩ := isOf hZ e2 HE_a1
  obtain ⟨vr4, _, ⟨T4, L4, k4, n4⟩, -, X4, ⟨Lc4, hQ4, l4, y4, z4⟩, st4⟩ := X2.virtualBack hx (y := (⟨"java/lang/String", "coder", "()B"⟩ : MethodName)) (z := (⟨"java/lang/String", "coder", "()B"⟩ : MethodName)) hown (mvT hZ (own_w hw 78 rfl)) (mvT hZ (own_w hw 79 rfl)) (notFace_of_selects (args := #[]) (mvT hZ (own_w hw 81 rfl))) (mvT hZ (own_w hw 81 rfl)) (mvT hZ (own_w hw 80 rfl)) (by decide) (backOf (W := 1) (rm13 l Z a0 hw [] a1 zC h0 n0 O0 S_COMPACT_STRINGS h6_hc3 HF_a1_coder) hZ (own_w hw 82 rfl) (own_w hw 3 rfl) (by decide) (by decide)) q4a q4c (g := (mkF m 6 #[.val (.ref a1)] [(.ref a1), (.int nn)])) rfl (by rw [hml]; rfl) (Steps.refl _) (argsL := []) (rest := [(.int nn)]) (lenOf pd_0 rfl) rfl (by show 2 * 0 + _ ≤ _; exact Nat.le_of_eq rfl) (d21 hby 4 rfl) (fun _ _ => ⟨rfl, e2, (by decide : 0 + 0 ≤ _), (by decide : 0 + 0 ≤ _)⟩)
  dsimp only [Pt.U, Pt.locs, Pt.cells, Pt.slots] at X4 l4 y4 z4 st4 hQ4
  subst l4 y4 z4
  obtain ⟨rfl, N4q, e4⟩ := hQ4
  have N4 := Fr.app N0 N4q
  replace X4 := X4.more (cells' := 0) (slots' := 0) (by decide) (by decide)
  refine ⟨T4, _, _, _, some (.int (nn >>> ((0 : Int32) &&& 31))), X4, by decide, by decide, nofun, ?_, fun fs hr => castTop (ef_21 m a1) ?_⟩
  · show Q21v Z a1 t0 k9 nn vs zC h0 n0 _ T4.heap _
    rw [e4]
    exact ⟨rfl, N4, rfl⟩
  · show Steps p.tables e below (s₁.setTop (mkF m 0 #[.val (.ref a1)] [])) _
    refine XS.aloadN X0.here hx rfl (d21 hby 0 rfl) rfl rfl ?_
    refine st2 _ ?_
    show Steps p.tables e below (T2.setTop (mkF m 4 #[.val (.ref a1)] [(.ref t0)])) _
    refine X2.arraylength hx (by rw [e2]; exact Ar3.1) (State.isArrayOf_alike hZ.alike Ar3.2.1) (g := (mkF m 4 #[.val (.ref a1)] [(.ref t0)])) rfl rfl (d21 hby 2 rfl) _ ?_
    rw [len_of S3 Nn3]
    refine XS.aloadN X2.here hx rfl (d21 hby 3 rfl) rfl rfl ?_
    refine st4.trans ?_
    refine XS.ishr X4.here hx rfl (d21 hby 5 rfl) rfl ?_
    exact own_retI X4 hx hret (d21 hby 6 rfl) hr
theorem own_sr0 (x : Int32) : x >>> ((0 : Int32) &&& 31) = x := by
  apply Int32.toBitVec_inj.1; simp
theorem own_sl0 (x : Int32) : x <<< ((0 : Int32) &&& 31) = x := by
  apply Int32.toBitVec_inj.1; simp
def Q21 (Z : State) (a1 t0 : Addr) (k9 : ClassId) (nn : Int32) (vs : List Value) (zC : Int32) (h0 : Heap) (n0 : Nat) (v : Option Value) (h : Heap) (L : List Loc) : Prop := v = some (.int nn) ∧ Fr n0 L ∧ h = h0
theorem rm21 (l : Launch) (Z : State) (a0 : Array Value) (hw : ∀ d ∈ tables_1, d.before a0 Z = true) (ws : List Jvm.Cond) (a1 t0 : Addr) (k9 : ClassId) (nn : Int32) (vs : List Value) (zC : Int32) (h0 : Heap) (n0 : Nat) (O0 : Old Z n0 h0) (HE_a1 : Exa Z h0 a1 "java/lang/String") (HV_t0 : Arv Z h0 t0 k9 .byte nn vs (.int 0)) (HF_a1_value : Fld Z h0 a1 "java/lang/String" "value" "[B" (.ref t0)) (S_COMPACT_STRINGS : Sta Z Z.heap "java/lang/String" "COMPACT_STRINGS" "Z" (.int zC)) (HF_a1_coder : Fld Z h0 a1 "java/lang/String" "coder" "B" (.int 0)) (h6_hc3 : ¬ (zC = (0 : Int32))) :
    own_C l Z (⟨"java/lang/String", "length", "()I"⟩ : MethodName) jdk_42_method_54_code 1 (some .int) ws ({ frames := 1, cells := 0, slots := 0, locals := 13 } : Room) #[(.ref a1)] h0 (Q21 Z a1 t0 k9 nn vs zC h0 n0) := by
  have q := rm21v l Z a0 hw ws a1 t0 k9 nn vs zC h0 n0 O0 HE_a1 HV_t0 HF_a1_value S_COMPACT_STRINGS HF_a1_coder h6_hc3
  unfold Q21v at q
  rw [own_sr0] at q
  exact q
def own_L43 : List (Nat × Instr × Nat) := [(0, .iload_n 1, 1), (1, .aload_n 0, 1), (2, .arraylength, 1), (3, .invokestatic 9, 3), (6, .aload_n 0, 1), (7, .iload_n 1, 1), (8, .baload, 1), (9, .sipush 255, 3), (12, .iand, 1), (13, .i2c, 1), (14, .ireturn, 1)]
theorem own_K43 : ∀ x ∈ own_L43, decode jdk_43_method_2_code x.1 = .ok x.2 := by decide +kernel
theorem d43 {c : Code} (hby : c.code = jdk_43_method_2_code) (i : Nat) {k n : Nat} {a : Instr} (h : own_L43[i]? = some (k, a, n)) : decode c.code k = .ok (a, n) := own_dL own_K43 hby h
theorem pd_13 : parseMethodDescriptor "(II)V" = some ⟨[.int, .int], none⟩ := by decide +kernel
def Q43 (Z : State) (a1 : Addr) (p2 : Int32) (k9 : ClassId) (nn : Int32) (vs : List Value) (fm : Value) (w6 : Int32) (h0 : Heap) (n0 : Nat) (v : Option Value) (h : Heap) (L : List Loc) : Prop := v = some (.int (nar .char ((w6 &&& (255 : Int32)).toUInt32.toUInt16.toUInt32.toInt32))) ∧ Fr n0 L ∧ h = h0
theorem ef_43 (m : MethodId) (x0 : Addr) (x1 : Int32) : entryFrame m #[(.ref x0), (.int x1)] 2 = mkF m 0 #[.val (.ref x0), .val (.int x1)] [] := by first | (simp [entryFrame, mkF, argsToLocals, Value.category]; done) | rfl
theorem pnc_java_lang_StringLatin1 : plainName "java/lang/StringLatin1" = true := by first | (simp [plainName, overriddenIn]; done) | decide +kernel
theorem rm43 (l : Launch) (Z : State) (a0 : Array Value) (hw : ∀ d ∈ tables_1, d.before a0 Z = true) (ws : List Jvm.Cond) (a1 : Addr) (p2 : Int32) (k9 : ClassId) (nn : Int32) (vs : List Value) (fm : Value) (w6 : Int32) (h0 : Heap) (n0 : Nat) (O0 : Old Z n0 h0) (HV_a1 : Arv Z h0 a1 k9 .byte nn vs (.int 0)) (S_SIOOBE_FORMATTER : Sta Z Z.heap "jdk/internal/util/Preconditions" "SIOOBE_FORMATTER" "Ljava/util/function/BiFunction;" fm) (h3_h5_hc1 : ¬ (p2 < (0 : Int32))) (h3_h5_hc6 : p2 < nn) (h3_hrfm : fm.isRef = true) (hgd8 : vs.getD (p2).toNatClampNeg (.int 0) = (.int w6)) :
    own_C l Z (⟨"java/lang/StringLatin1", "charAt", "([BI)C"⟩ : MethodName) jdk_43_method_2_code 2 (some .char) ws ({ frames := 3, cells := 0, slots := 0, locals := 53 } : Room) #[(.ref a1), (.int p2)] h0 (Q43 Z a1 p2 k9 nn vs fm w6 h0 n0) := by
  refine own_intro (plainFor_of_name pnc_java_lang_StringLatin1) fun p e s m below meth c s₁ hx hby hml hown hnm hZ e0 hret X0 => ?_
  have N0 := Fr.nil n0
  have Z0 : n0 ≤ h0.size := O0.1 ▸ O0.2.1
  obtain ⟨cl3, Ar3, q3, S3, Nn3, Hh3, G3⟩ := id HV_a1
  obtain ⟨vr4, _, ⟨T4, L4, k4, n4⟩, -, X4, ⟨Lc4, hQ4, l4, y4, z4⟩, st4⟩ := Jvm.LawKit.callS X0 hx (y := (⟨"java/lang/String", "checkIndex", "(II)V"⟩ : MethodName)) hown (mvT hZ (own_w hw 232 rfl)) (mvT hZ (own_w hw 233 rfl)) (mvT hZ (own_w hw 3 rfl)) (mvT hZ (own_w hw 234 rfl)) (by decide) (backOf (W := 0) (rm44 l Z a0 hw [] p2 nn fm h0 n0 O0 h3_h5_hc1 h3_h5_hc6 S_SIOOBE_FORMATTER h3_hrfm) hZ (own_w hw 234 rfl) (own_w hw 3 rfl) (by decide) (by decide)) (g := (mkF m 3 #[.val (.ref a1), .val (.int p2)] [(.int nn), (.int p2)])) rfl (by rw [hml]; rfl) (argsL := [(.int p2), (.int nn)]) (rest := []) (lenOf pd_13 rfl) rfl (by show 2 * 0 + _ ≤ _; exact Nat.le_of_eq rfl) (d43 hby 3 rfl) (fun _ _ => ⟨rfl, e0, (by decide : 0 + 0 ≤ _), (by decide : 0 + 0 ≤ _)⟩)
  dsimp only [Pt.U, Pt.locs, Pt.cells, Pt.slots] at X4 l4 y4 z4 st4 hQ4
  subst l4 y4 z4
  obtain ⟨rfl, N4q, e4⟩ := hQ4
  have N4 := Fr.app N0 N4q
  replace X4 := X4.more (cells' := 0) (slots' := 0) (by decide) (by decide)
  obtain ⟨cl5, Ar5, q5, S5, Nn5, Hh5, G5⟩ := id HV_a1
  have hin5 : ¬ (p2 < 0 ∨ cl5.slots.size ≤ (p2).toNatClampNeg) := inb_of S5 ⟨h3_h5_hc1, h3_h5_hc6⟩
  have hat5 : cl5.slots[(p2).toNatClampNeg]? = some (.int w6) := Has.at Hh5 hin5 hgd8
  refine ⟨T4, _, _, _, some (.int (nar .char ((w6 &&& (255 : Int32)).toUInt32.toUInt16.toUInt32.toInt32))), X4, by decide, by decide, nofun, ?_, fun fs hr => castTop (ef_43 m a1 p2) ?_⟩
  · show Q43 Z a1 p2 k9 nn vs fm w6 h0 n0 _ T4.heap _
    rw [e4]
    exact ⟨rfl, N4, rfl⟩
  · show Steps p.tables e below (s₁.setTop (mkF m 0 #[.val (.ref a1), .val (.int p2)] [])) _
    refine XS.iloadN X0.here hx rfl (d43 hby 0 rfl) rfl ?_
    refine XS.aloadN X0.here hx rfl (d43 hby 1 rfl) rfl rfl ?_
    show Steps p.tables e below (s₁.setTop (mkF m 2 #[.val (.ref a1), .val (.int p2)] [(.ref a1), (.int p2)])) _
    refine X0.arraylength hx (by rw [e0]; exact Ar3.1) (State.isArrayOf_alike hZ.alike Ar3.2.1) (g := (mkF m 2 #[.val (.ref a1), .val (.int p2)] [(.ref a1), (.int p2)])) rfl rfl (d43 hby 2 rfl) _ ?_
    rw [len_of S3 Nn3]
    refine st4 _ ?_
    refine XS.aloadN X4.here hx rfl (d43 hby 4 rfl) rfl rfl ?_
    refine XS.iloadN X4.here hx rfl (d43 hby 5 rfl) rfl ?_
    show Steps p.tables e below (T4.setTop (mkF m 8 #[.val (.ref a1), .val (.int p2)] [(.int p2), (.ref a1)])) _
    refine X4.baloadBytes hx (j := p2) (v := (.int w6)) (by rw [e4]; exact Ar5.1) (State.isArrayOf_alike hZ.alike Ar5.2.1) Ar5.2.2 hin5 hat5 (g := (mkF m 8 #[.val (.ref a1), .val (.int p2)] [(.int p2), (.ref a1)])) rfl rfl (d43 hby 6 rfl) _ ?_
    refine XS.sipush X4.here hx rfl (d43 hby 7 rfl) ?_
    refine XS.iand X4.here hx rfl (d43 hby 8 rfl) rfl ?_
    refine XS.i2c X4.here hx rfl (d43 hby 9 rfl) rfl ?_
    exact retN X4 hx (t := .char) hret (by simp) (d43 hby 10 rfl) hr
def own_L42 : List (Nat × Instr × Nat) := [(0, .aload_n 0, 1), (1, .invokevirtual 492, 3), (4, .ifCond .eq 12, 3), (7, .aload_n 0, 1), (8, .getfield 9, 3), (11, .iload_n 1, 1), (12, .invokestatic 495, 3), (15, .ireturn, 1)]
theorem own_K42 : ∀ x ∈ own_L42, decode jdk_42_method_56_code x.1 = .ok x.2 := by decide +kernel
theorem d42 {c : Code} (hby : c.code = jdk_42_method_56_code) (i : Nat) {k n : Nat} {a : Instr} (h : own_L42[i]? = some (k, a, n)) : decode c.code k = .ok (a, n) := own_dL own_K42 hby h
theorem pd_5 : parseMethodDescriptor "()Z" = some ⟨[], some .boolean⟩ := by decide +kernel
theorem pd_29 : parseMethodDescriptor "([BI)C" = some ⟨[(.array .byte), .int], some .char⟩ := by decide +kernel
def Q42 (Z : State) (a1 : Addr) (p2 : Int32) (t0 : Addr) (k9 : ClassId) (nn : Int32) (vs : List Value) (zC : Int32) (fm : Value) (w5 : Int32) (h0 : Heap) (n0 : Nat) (v : Option Value) (h : Heap) (L : List Loc) : Prop := v = some (.int (nar .char (nar .char ((w5 &&& (255 : Int32)).toUInt32.toUInt16.toUInt32.toInt32)))) ∧ Fr n0 L ∧ h = h0
theorem ef_42 (m : MethodId) (x0 : Addr) (x1 : Int32) : entryFrame m #[(.ref x0), (.int x1)] 2 = mkF m 0 #[.val (.ref x0), .val (.int x1)] [] := by first | (simp [entryFrame, mkF, argsToLocals, Value.category]; done) | rfl
theorem rm42 (l : Launch) (Z : State) (a0 : Array Value) (hw : ∀ d ∈ tables_1, d.before a0 Z = true) (ws : List Jvm.Cond) (a1 : Addr) (p2 : Int32) (t0 : Addr) (k9 : ClassId) (nn : Int32) (vs : List Value) (zC : Int32) (fm : Value) (w5 : Int32) (h0 : Heap) (n0 : Nat) (O0 : Old Z n0 h0) (HE_a1 : Exa Z h0 a1 "java/lang/String") (HV_t0 : Arv Z h0 t0 k9 .byte nn vs (.int 0)) (S_COMPACT_STRINGS : Sta Z Z.heap "java/lang/String" "COMPACT_STRINGS" "Z" (.int zC)) (HF_a1_coder : Fld Z h0 a1 "java/lang/String" "coder" "B" (.int 0)) (h1_hc3 : ¬ (zC = (0 : Int32))) (HF_a1_value : Fld Z h0 a1 "java/lang/String" "value" "[B" (.ref t0)) (S_SIOOBE_FORMATTER : Sta Z Z.heap "jdk/internal/util/Preconditions" "SIOOBE_FORMATTER" "Ljava/util/function/BiFunction;" fm) (h12_h3_h5_hc1 : ¬ (p2 < (0 : Int32))) (h12_h3_h5_hc6 : p2 < nn) (h12_h3_hrfm : fm.isRef = true) (h12_hgd8 : vs.getD (p2).toNatClampNeg (.int 0) = (.int w5)) :
    own_C l Z (⟨"java/lang/String", "charAt", "(I)C"⟩ : MethodName) jdk_42_method_56_code 2 (some .char) ws ({ frames := 4, cells := 0, slots := 0, locals := 66 } : Room) #[(.ref a1), (.int p2)] h0 (Q42 Z a1 p2 t0 k9 nn vs zC fm w5 h0 n0) := by
  refine own_intro (plainFor_of_name pnc_java_lang_String) fun p e s m below meth c s₁ hx hby hml hown hnm hZ e0 hret X0 => ?_
  have N0 := Fr.nil n0
  have Z0 : n0 ≤ h0.size := O0.1 ▸ O0.2.1
  obtain ⟨cq3, kq3, q3a, q3b, q3c⟩ := isOf hZ e0 HE_a1
  obtain ⟨vr3, _, ⟨T3, L3, k3, n3⟩, -, X3, ⟨Lc3, hQ3, l3, y3, z3⟩, st3⟩ := X0.virtualBack hx (y := (⟨"java/lang/String", "isLatin1", "()Z"⟩ : MethodName)) (z := (⟨"java/lang/String", "isLatin1", "()Z"⟩ : MethodName)) hown (mvT hZ (own_w hw 83 rfl)) (mvT hZ (own_w hw 84 rfl)) (notFace_of_selects (args := #[]) (mvT hZ (own_w hw 86 rfl))) (mvT hZ (own_w hw 86 rfl)) (mvT hZ (own_w hw 85 rfl)) (by decide) (backOf (W := 0) (rm14 l Z a0 hw [] a1 zC h0 n0 O0 S_COMPACT_STRINGS h1_hc3 HF_a1_coder) hZ (own_w hw 87 rfl) (own_w hw 3 rfl) (by decide) (by decide)) q3a q3c (g := (mkF m 1 #[.val (.ref a1), .val (.int p2)] [(.ref a1)])) rfl (by rw [hml]; rfl) (Steps.refl _) (argsL := []) (rest := []) (lenOf pd_5 rfl) rfl (by show 2 * 0 + _ ≤ _; exact Nat.le_of_eq rfl) (d42 hby 1 rfl) (fun _ _ => ⟨rfl, e0, (by decide : 0 + 0 ≤ _), (by decide : 0 + 0 ≤ _)⟩)
  dsimp only [Pt.U, Pt.locs, Pt.cells, Pt.slots] at X3 l3 y3 z3 st3 hQ3
  subst l3 y3 z3
  obtain ⟨rfl, N3q, e3⟩ := hQ3
  have N3 := Fr.app N0 N3q
  replace X3 := X3.more (cells' := 0) (slots' := 0) (by decide) (by decide)
  obtain ⟨T4, X4, e4, st4⟩ := getF X3 hx hZ hown (host := "") (Or.inl (own_w hw 29 rfl)) Via.refl e3 HF_a1_value (g := (mkF m 8 #[.val (.ref a1), .val (.int p2)] [(.ref a1)])) rfl rfl (d42 hby 4 rfl)
  obtain ⟨vr6, _, ⟨T6, L6, k6, n6⟩, -, X6, ⟨Lc6, hQ6, l6, y6, z6⟩, st6⟩ := Jvm.LawKit.callS X4 hx (y := (⟨"java/lang/StringLatin1", "charAt", "([BI)C"⟩ : MethodName)) hown (mvT hZ (own_w hw 229 rfl)) (mvT hZ (own_w hw 230 rfl)) (mvT hZ (own_w hw 90 rfl)) (mvT hZ (own_w hw 231 rfl)) (by decide) (backOf (W := 0) (rm43 l Z a0 hw [] t0 p2 k9 nn vs fm w5 h0 n0 O0 HV_t0 S_SIOOBE_FORMATTER h12_h3_h5_hc1 h12_h3_h5_hc6 h12_h3_hrfm h12_hgd8) hZ (own_w hw 231 rfl) (own_w hw 90 rfl) (by decide) (by decide)) (g := (mkF m 12 #[.val (.ref a1), .val (.int p2)] [(.int p2), (.ref t0)])) rfl (by rw [hml]; rfl) (argsL := [(.ref t0), (.int p2)]) (rest := []) (lenOf pd_29 rfl) rfl (by show 2 * 0 + _ ≤ _; exact Nat.le_of_eq rfl) (d42 hby 6 rfl) (fun _ _ => ⟨rfl, e4, (by decide : 0 + 0 ≤ _), (by decide : 0 + 0 ≤ _)⟩)
  dsimp only [Pt.U, Pt.locs, Pt.cells, Pt.slots] at X6 l6 y6 z6 st6 hQ6
  subst l6 y6 z6
  obtain ⟨rfl, N6q, e6⟩ := hQ6
  have N6 := Fr.app N3 N6q
  replace X6 := X6.more (cells' := 0) (slots' := 0) (by decide) (by decide)
  refine ⟨T6, _, _, _, some (.int (nar .char (nar .char ((w5 &&& (255 : Int32)).toUInt32.toUInt16.toUInt32.toInt32)))), X6, by decide, by decide, nofun, ?_, fun fs hr => castTop (ef_42 m a1 p2) ?_⟩
  · show Q42 Z a1 p2 t0 k9 nn vs zC fm w5 h0 n0 _ T6.heap _
    rw [e6]
    exact ⟨rfl, N6, rfl⟩
  · show Steps p.tables e below (s₁.setTop (mkF m 0 #[.val (.ref a1), .val (.int p2)] [])) _
    refine XS.aloadN X0.here hx rfl (d42 hby 0 rfl) rfl rfl ?_
    refine st3.trans ?_
    refine XS.ifNo X3.here hx rfl (d42 hby 2 rfl) rfl ((if0 _ _).trans (feq (by decide : ¬ ((1 : Int32) = (0 : Int32)))).1) ?_
    refine XS.aloadN X3.here hx rfl (d42 hby 3 rfl) rfl rfl ?_
    refine st4 _ ?_
    refine XS.iloadN X4.here hx rfl (d42 hby 5 rfl) rfl ?_
    refine st6 _ ?_
    exact retN X6 hx (t := .char) hret (by simp) (d42 hby 7 rfl) hr
def own_cpy (vd : List Value) (d : Nat) (us : List Value) (m : Nat) : List Value := vd.take d ++ us ++ vd.drop (d + m)
theorem own_nN {cs : List Int32} (h : cs.length ≤ 40) : (own_n cs).toNatClampNeg = cs.length := by
  have q : ∀ j : Fin 41, (Int32.ofNat j.1).toNatClampNeg = j.1 := by decide
  exact q ⟨cs.length, by omega⟩
theorem own_nge {cs : List Int32} (h : cs.length ≤ 40) : ¬ (own_n cs < (0 : Int32)) := by
  have q : ∀ j : Fin 41, ¬ (Int32.ofNat j.1 < (0 : Int32)) := by decide
  exact q ⟨cs.length, by omega⟩
theorem own_nadd {cs ds : List Int32} (h : cs.length + ds.length ≤ 40) : own_n cs + own_n ds = own_n (cs ++ ds) := by
  have q : ∀ j k : Fin 41, Int32.ofNat j.1 + Int32.ofNat k.1 = Int32.ofNat (j.1 + k.1) := by decide
  rw [own_n, own_n, own_n, List.length_append]
  exact q ⟨cs.length, by omega⟩ ⟨ds.length, by omega⟩
theorem own_byl (cs : List Int32) : (own_by cs).length = cs.length := List.length_map ..
theorem own_padl (cs : List Int32) (z : Int32) (h : cs.length ≤ z.toNatClampNeg) : (own_pad cs z).length = z.toNatClampNeg := by
  rw [own_pad, List.length_append, own_byl, List.length_replicate]; omega
theorem own_cpyP (cs ds : List Int32) (z : Int32) (h : cs.length + ds.length ≤ z.toNatClampNeg) : own_cpy (own_pad cs z) cs.length (own_by ds) ds.length = own_pad (cs ++ ds) z := by
  rw [own_cpy, own_pad, own_pad, List.take_left' (own_byl cs), List.drop_append, List.drop_eq_nil_of_le (by rw [own_byl]; omega), List.nil_append, own_byl, List.drop_replicate, List.length_append, show own_by (cs ++ ds) = own_by cs ++ own_by ds from List.map_append ..]
  rw [show z.toNatClampNeg - cs.length - (cs.length + ds.length - cs.length) = z.toNatClampNeg - (cs.length + ds.length) by omega]
theorem own_rng (vs : List Value) (n : Nat) (h : vs.length = n) (d : Value) : vs = (List.range n).map fun i => vs.getD (0 + i) d := by
  subst h
  apply List.ext_getElem (by simp)
  intro i h1 h2
  simp [List.getD_eq_getElem?_getD, List.getElem?_eq_getElem h1]
theorem own_rngP (cs : List Int32) (z : Int32) (h : cs.length ≤ z.toNatClampNeg) (d : Value) : own_by cs = (List.range cs.length).map fun i => (own_pad cs z).getD (0 + i) d := by
  apply List.ext_getElem (by simp [own_byl])
  intro i h1 h2
  have h3 : i < cs.length := by rw [own_byl] at h1; exact h1
  simp [List.getD_eq_getElem?_getD, own_pad, List.getElem?_append_left h1, List.getElem?_eq_getElem h1]
def own_L8 : List (Nat × Instr × Nat) := [(0, .aload_n 0, 1), (1, .invokespecial 1, 3), (4, .return_, 1)]
theorem own_K8 : ∀ x ∈ own_L8, decode jdk_30_method_1_code x.1 = .ok x.2 := by decide +kernel
theorem d8 {c : Code} (hby : c.code = jdk_30_method_1_code) (i : Nat) {k n : Nat} {a : Instr} (h : own_L8[i]? = some (k, a, n)) : decode c.code k = .ok (a, n) := own_dL own_K8 hby h
def Q8 (Z : State) (a1 : Addr) (h0 : Heap) (n0 : Nat) (v : Option Value) (h : Heap) (L : List Loc) : Prop := v = none ∧ Fr n0 L ∧ h = h0
theorem ef_8 (m : MethodId) (x0 : Addr) : entryFrame m #[(.ref x0)] 1 = mkF m 0 #[.val (.ref x0)] [] := by first | (simp [entryFrame, mkF, argsToLocals, Value.category]; done) | rfl
theorem pnc_java_lang_Record : plainName "java/lang/Record" = true := by first | (simp [plainName, overriddenIn]; done) | decide +kernel
theorem rm8 (l : Launch) (Z : State) (a0 : Array Value) (hw : ∀ d ∈ tables_1, d.before a0 Z = true) (ws : List Jvm.Cond) (a1 : Addr) (h0 : Heap) (n0 : Nat) (O0 : Old Z n0 h0) :
    own_C l Z (⟨"java/lang/Record", "<init>", "()V"⟩ : MethodName) jdk_30_method_1_code 1 none ws ({ frames := 1, cells := 0, slots := 0, locals := 12 } : Room) #[(.ref a1)] h0 (Q8 Z a1 h0 n0) := by
  refine own_intro (plainFor_of_name pnc_java_lang_Record) fun p e s m below meth c s₁ hx hby hml hown hnm hZ e0 hret X0 => ?_
  have N0 := Fr.nil n0
  have Z0 : n0 ≤ h0.size := O0.1 ▸ O0.2.1
  obtain ⟨T2, X2, e2, st2⟩ := initO X0 hx hZ hown (own_w hw 45 rfl) (own_w hw 13 rfl) (own_w hw 14 rfl) e0 (g := (mkF m 1 #[.val (.ref a1)] [(.ref a1)])) rfl (by rw [hml]; rfl) rfl (d8 hby 1 rfl) (by decide) (W := 0) (by show 2 * 0 + _ ≤ _; exact Nat.le_of_eq rfl) (by decide)
  refine ⟨T2, _, _, _, none, X2, by decide, by decide, fun _ => rfl, ?_, fun fs hr => castTop (ef_8 m a1) ?_⟩
  · show Q8 Z a1 h0 n0 _ T2.heap _
    rw [e2]
    exact ⟨rfl, N0, rfl⟩
  · show Steps p.tables e below (s₁.setTop (mkF m 0 #[.val (.ref a1)] [])) _
    refine XS.aloadN X0.here hx rfl (d8 hby 0 rfl) rfl rfl ?_
    refine st2 _ ?_
    exact X2.returnOut hx hret (d8 hby 2 rfl) hr
def own_L40 : List (Nat × Instr × Nat) := [(0, .iload_n 0, 1), (1, .iload_n 1, 1), (2, .if_icmp .gt 7, 3), (9, .iload_n 1, 1), (10, .ireturn, 1), (5, .iload_n 0, 1), (6, .goto 4, 3)]
theorem own_K40 : ∀ x ∈ own_L40, decode jdk_29_method_69_code x.1 = .ok x.2 := by decide +kernel
theorem d40 {c : Code} (hby : c.code = jdk_29_method_69_code) (i : Nat) {k n : Nat} {a : Instr} (h : own_L40[i]? = some (k, a, n)) : decode c.code k = .ok (a, n) := own_dL own_K40 hby h
def Q40 (Z : State) (p1 p2 : Int32) (h0 : Heap) (n0 : Nat) (v : Option Value) (h : Heap) (L : List Loc) : Prop := v = some (.int p2) ∧ Fr n0 L ∧ h = h0
theorem ef_40 (m : MethodId) (x0 : Int32) (x1 : Int32) : entryFrame m #[(.int x0), (.int x1)] 2 = mkF m 0 #[.val (.int x0), .val (.int x1)] [] := by first | (simp [entryFrame, mkF, argsToLocals, Value.category]; done) | rfl
theorem rm40 (l : Launch) (Z : State) (a0 : Array Value) (hw : ∀ d ∈ tables_1, d.before a0 Z = true) (ws : List Jvm.Cond) (p1 p2 : Int32) (h0 : Heap) (n0 : Nat) (O0 : Old Z n0 h0) (hc2 : p2 < p1) :
    own_C l Z (⟨"java/lang/Math", "min", "(II)I"⟩ : MethodName) jdk_29_method_69_code 2 (some .int) ws ({ frames := 0, cells := 0, slots := 0, locals := 0 } : Room) #[(.int p1), (.int p2)] h0 (Q40 Z p1 p2 h0 n0) := by
  refine own_intro (Jvm.Free.JP.mathPlain rfl (by decide +kernel)) fun p e s m below meth c s₁ hx hby hml hown hnm hZ e0 hret X0 => ?_
  have N0 := Fr.nil n0
  have Z0 : n0 ≤ h0.size := O0.1 ▸ O0.2.1
  refine ⟨s₁, _, _, _, some (.int p2), X0, by decide, by decide, nofun, ?_, fun fs hr => castTop (ef_40 m p1 p2) ?_⟩
  · show Q40 Z p1 p2 h0 n0 _ s₁.heap _
    rw [e0]
    exact ⟨rfl, N0, rfl⟩
  · show Steps p.tables e below (s₁.setTop (mkF m 0 #[.val (.int p1), .val (.int p2)] [])) _
    refine XS.iloadN X0.here hx rfl (d40 hby 0 rfl) rfl ?_
    refine XS.iloadN X0.here hx rfl (d40 hby 1 rfl) rfl ?_
    refine XS.icmpYes X0.here hx rfl (pc0 := 2) (pc' := 9) rfl (d40 hby 2 rfl) rfl (tlt hc2).2.2.1 (by decide) (by decide) ?_
    refine XS.iloadN X0.here hx rfl (d40 hby 3 rfl) rfl ?_
    exact own_retI X0 hx hret (d40 hby 4 rfl) hr
def own_L25 : List (Nat × Instr × Nat) := [(0, .aload_n 0, 1), (1, .invokevirtual 335, 3), (4, .iload_n 3, 1), (5, .if_icmp .ne 23, 3), (8, .aload_n 0, 1), (9, .getfield 9, 3), (12, .iconst 0, 1), (13, .aload_n 1, 1), (14, .iload_n 2, 1), (15, .iload_n 3, 1), (16, .ishl, 1), (17, .aload_n 0, 1), (18, .getfield 9, 3), (21, .arraylength, 1), (22, .invokestatic 212, 3), (25, .goto 18, 3), (43, .return_, 1)]
theorem own_K25 : ∀ x ∈ own_L25, decode jdk_42_method_147_code x.1 = .ok x.2 := by decide +kernel
theorem d25 {c : Code} (hby : c.code = jdk_42_method_147_code) (i : Nat) {k n : Nat} {a : Instr} (h : own_L25[i]? = some (k, a, n)) : decode c.code k = .ok (a, n) := own_dL own_K25 hby h
def Q25v (Z : State) (a1 a2 : Addr) (p3 : Int32) (t0 : Addr) (k9 : ClassId) (nn : Int32) (vs : List Value) (k8 : ClassId) (zz : Int32) (vd : List Value) (zC : Int32) (us8 : List Value) (h0 : Heap) (n0 : Nat) (v : Option Value) (h : Heap) (L : List Loc) : Prop := v = none ∧ Fr n0 L ∧ Keep h0 h [a2] ∧ Arv Z h a2 k8 .byte zz (own_cpy vd ((p3 <<< ((0 : Int32) &&& 31))).toNatClampNeg us8 (nn).toNatClampNeg) (.int 0)
theorem ef_25aaa__0___Int32__ (m : MethodId) (x0 : Addr) (x1 : Addr) (x2 : Int32) : entryFrame m #[(.ref x0), (.ref x1), (.int x2), (.int 0)] 4 = mkF m 0 #[.val (.ref x0), .val (.ref x1), .val (.int x2), .val (.int 0)] [] := by first | (simp [entryFrame, mkF, argsToLocals, Value.category]; done) | rfl
theorem rm25v (l : Launch) (Z : State) (a0 : Array Value) (hw : ∀ d ∈ tables_1, d.before a0 Z = true) (ws : List Jvm.Cond) (a1 a2 : Addr) (p3 : Int32) (t0 : Addr) (k9 : ClassId) (nn : Int32) (vs : List Value) (k8 : ClassId) (zz : Int32) (vd : List Value) (zC : Int32) (us8 : List Value) (h0 : Heap) (n0 : Nat) (O0 : Old Z n0 h0) (HE_a1 : Exa Z h0 a1 "java/lang/String") (HV_t0 : Arv Z h0 t0 k9 .byte nn vs (.int 0)) (HV_a2 : Arv Z h0 a2 k8 .byte zz vd (.int 0)) (S_COMPACT_STRINGS : Sta Z Z.heap "java/lang/String" "COMPACT_STRINGS" "Z" (.int zC)) (HF_a1_coder : Fld Z h0 a1 "java/lang/String" "coder" "B" (.int 0)) (h1_hc3 : ¬ (zC = (0 : Int32))) (HF_a1_value : Fld Z h0 a1 "java/lang/String" "value" "[B" (.ref t0)) (hdp22 : ¬ ((p3 <<< ((0 : Int32) &&& 31)) < (0 : Int32))) (hnn22 : ¬ (nn < (0 : Int32))) (hsl22 : ((0 : Int32)).toNatClampNeg + (nn).toNatClampNeg ≤ (nn).toNatClampNeg) (hdl22 : ((p3 <<< ((0 : Int32) &&& 31))).toNatClampNeg + (nn).toNatClampNeg ≤ (zz).toNatClampNeg) (hus22 : us8 = (List.range (nn).toNatClampNeg).map fun i => vs.getD (((0 : Int32)).toNatClampNeg + i) (.int 0)) (hvl22 : ((p3 <<< ((0 : Int32) &&& 31))).toNatClampNeg + (nn).toNatClampNeg ≤ vd.length) (g_a2 : n0 ≤ a2) :
    own_C l Z (⟨"java/lang/String", "getBytes", "([BIB)V"⟩ : MethodName) jdk_42_method_147_code 4 none ws ({ frames := 1, cells := 0, slots := 0, locals := 18 } : Room) #[(.ref a1), (.ref a2), (.int p3), (.int 0)] h0 (Q25v Z a1 a2 p3 t0 k9 nn vs k8 zz vd zC us8 h0 n0) := by
  refine own_intro (plainFor_of_name pnc_java_lang_String) fun p e s m below meth c s₁ hx hby hml hown hnm hZ e0 hret X0 => ?_
  have N0 := Fr.nil n0
  have Z0 : n0 ≤ h0.size := O0.1 ▸ O0.2.1
  obtain ⟨cq4, kq4, q4a, q4b, q4c⟩ := isOf hZ e0 HE_a1
  obtain ⟨vr4, _, ⟨T4, L4, k4, n4⟩, -, X4, ⟨Lc4, hQ4, l4, y4, z4⟩, st4⟩ := X0.virtualBack hx (y := (⟨"java/lang/String", "coder", "()B"⟩ : MethodName)) (z := (⟨"java/lang/String", "coder", "()B"⟩ : MethodName)) hown (mvT hZ (own_w hw 78 rfl)) (mvT hZ (own_w hw 79 rfl)) (notFace_of_selects (args := #[]) (mvT hZ (own_w hw 81 rfl))) (mvT hZ (own_w hw 81 rfl)) (mvT hZ (own_w hw 80 rfl)) (by decide) (backOf (W := 0) (rm13 l Z a0 hw [] a1 zC h0 n0 O0 S_COMPACT_STRINGS h1_hc3 HF_a1_coder) hZ (own_w hw 82 rfl) (own_w hw 3 rfl) (by decide) (by decide)) q4a q4c (g := (mkF m 1 #[.val (.ref a1), .val (.ref a2), .val (.int p3), .val (.int 0)] [(.ref a1)])) rfl (by rw [hml]; rfl) (Steps.refl _) (argsL := []) (rest := []) (lenOf pd_0 rfl) rfl (by show 2 * 0 + _ ≤ _; exact Nat.le_of_eq rfl) (d25 hby 1 rfl) (fun _ _ => ⟨rfl, e0, (by decide : 0 + 0 ≤ _), (by decide : 0 + 0 ≤ _)⟩)
  dsimp only [Pt.U, Pt.locs, Pt.cells, Pt.slots] at X4 l4 y4 z4 st4 hQ4
  subst l4 y4 z4
  obtain ⟨rfl, N4q, e4⟩ := hQ4
  have N4 := Fr.app N0 N4q
  replace X4 := X4.more (cells' := 0) (slots' := 0) (by decide) (by decide)
  obtain ⟨T5, X5, e5, st5⟩ := getF X4 hx hZ hown (host := "") (Or.inl (own_w hw 29 rfl)) Via.refl e4 HF_a1_value (g := (mkF m 9 #[.val (.ref a1), .val (.ref a2), .val (.int p3), .val (.int 0)] [(.ref a1)])) rfl rfl (d25 hby 5 rfl)
  obtain ⟨T6, X6, e6, st6⟩ := getF X5 hx hZ hown (host := "") (Or.inl (own_w hw 29 rfl)) Via.refl e5 HF_a1_value (g := (mkF m 18 #[.val (.ref a1), .val (.ref a2), .val (.int p3), .val (.int 0)] [(.ref a1), (.int (p3 <<< ((0 : Int32) &&& 31))), (.ref a2), (.int 0), (.ref t0)])) rfl rfl (d25 hby 12 rfl)
  obtain ⟨cl7, Ar7, q7, S7, Nn7, Hh7, G7⟩ := id HV_t0
  obtain ⟨T9, h9, L9, X9, e9, N9, Kc9, V9, st9⟩ := cpA X6 hx hZ hown (own_w hw 151 rfl) (own_w hw 154 rfl) (own_w hw 152 rfl) (own_w hw 153 rfl) e6 HV_t0 HV_a2 (us := us8) (Or.inl ⟨rfl, rfl⟩) (sp := (0 : Int32)) (dp := (p3 <<< ((0 : Int32) &&& 31))) (nn := nn) (by decide : ¬ ((0 : Int32) < (0 : Int32))) hdp22 hnn22 hsl22 hdl22 hus22 hvl22 N4 g_a2 (g := (mkF m 22 #[.val (.ref a1), .val (.ref a2), .val (.int p3), .val (.int 0)] [(.int nn), (.int (p3 <<< ((0 : Int32) &&& 31))), (.ref a2), (.int 0), (.ref t0)])) rfl (by rw [hml]; rfl) (rest := []) rfl (d25 hby 14 rfl) (by decide) (W := 0) (by show 2 * 0 + _ ≤ _; exact Nat.le_of_eq rfl) (by decide)
  have K10 : Keep h0 h9 [a2] := (Keep.refl h0 [a2]).trans Kc9 (allS (Or.inl (List.mem_of_getElem? (i := 0) rfl)) all0)
  have O11 : Old Z n0 h9 := O0.keep Kc9 (allS g_a2 all0)
  have Vc9 : Arv Z h9 a2 k8 .byte zz (own_cpy vd ((p3 <<< ((0 : Int32) &&& 31))).toNatClampNeg us8 (nn).toNatClampNeg) (.int 0) := V9
  refine ⟨T9, _, _, _, none, X9, by decide, by decide, fun _ => rfl, ?_, fun fs hr => castTop (ef_25aaa__0___Int32__ m a1 a2 p3) ?_⟩
  · show Q25v Z a1 a2 p3 t0 k9 nn vs k8 zz vd zC us8 h0 n0 _ T9.heap _
    rw [e9]
    exact ⟨rfl, N9, K10, Vc9⟩
  · show Steps p.tables e below (s₁.setTop (mkF m 0 #[.val (.ref a1), .val (.ref a2), .val (.int p3), .val (.int 0)] [])) _
    refine XS.aloadN X0.here hx rfl (d25 hby 0 rfl) rfl rfl ?_
    refine st4.trans ?_
    refine XS.iloadN X4.here hx rfl (d25 hby 2 rfl) rfl ?_
    refine XS.icmpNo X4.here hx rfl (d25 hby 3 rfl) rfl (teq (by decide : (0 : Int32) = (0 : Int32))).2 ?_
    refine XS.aloadN X4.here hx rfl (d25 hby 4 rfl) rfl rfl ?_
    refine st5 _ ?_
    refine XS.iconst X5.here hx rfl (d25 hby 6 rfl) ?_
    refine XS.aloadN X5.here hx rfl (d25 hby 7 rfl) rfl rfl ?_
    refine XS.iloadN X5.here hx rfl (d25 hby 8 rfl) rfl ?_
    refine XS.iloadN X5.here hx rfl (d25 hby 9 rfl) rfl ?_
    refine XS.ishl X5.here hx rfl (d25 hby 10 rfl) rfl ?_
    refine XS.aloadN X5.here hx rfl (d25 hby 11 rfl) rfl rfl ?_
    show Steps p.tables e below (T5.setTop (mkF m 18 #[.val (.ref a1), .val (.ref a2), .val (.int p3), .val (.int 0)] [(.ref a1), (.int (p3 <<< ((0 : Int32) &&& 31))), (.ref a2), (.int 0), (.ref t0)])) _
    refine st6 _ ?_
    show Steps p.tables e below (T6.setTop (mkF m 21 #[.val (.ref a1), .val (.ref a2), .val (.int p3), .val (.int 0)] [(.ref t0), (.int (p3 <<< ((0 : Int32) &&& 31))), (.ref a2), (.int 0), (.ref t0)])) _
    refine X6.arraylength hx (by rw [e6]; exact Ar7.1) (State.isArrayOf_alike hZ.alike Ar7.2.1) (g := (mkF m 21 #[.val (.ref a1), .val (.ref a2), .val (.int p3), .val (.int 0)] [(.ref t0), (.int (p3 <<< ((0 : Int32) &&& 31))), (.ref a2), (.int 0), (.ref t0)])) rfl rfl (d25 hby 13 rfl) _ ?_
    rw [len_of S7 Nn7]
    refine st9 _ ?_
    refine XS.goto X9.here hx rfl (pc0 := 25) (pc' := 43) rfl (d25 hby 15 rfl) (by decide) (by decide) ?_
    exact X9.returnOut hx hret (d25 hby 16 rfl) hr
def Q25 (Z : State) (a1 a2 : Addr) (p3 : Int32) (t0 : Addr) (k9 k8 : ClassId) (zz : Int32) (cs ds : List Int32) (zC : Int32) (h0 : Heap) (n0 : Nat) (v : Option Value) (h : Heap) (L : List Loc) : Prop := v = none ∧ Fr n0 L ∧ Keep h0 h [a2] ∧ Arv Z h a2 k8 .byte zz (own_pad (cs ++ ds) zz) (.int 0)
theorem rm25 (l : Launch) (Z : State) (a0 : Array Value) (hw : ∀ d ∈ tables_1, d.before a0 Z = true) (ws : List Jvm.Cond) (a1 a2 : Addr) (p3 : Int32) (t0 : Addr) (k9 k8 : ClassId) (zz : Int32) (cs ds : List Int32) (zC : Int32) (h0 : Heap) (n0 : Nat) (O0 : Old Z n0 h0) (HE_a1 : Exa Z h0 a1 "java/lang/String") (HV_t0 : Arv Z h0 t0 k9 .byte (own_n ds) (own_by ds) (.int 0)) (HV_a2 : Arv Z h0 a2 k8 .byte zz (own_pad cs zz) (.int 0)) (S_COMPACT_STRINGS : Sta Z Z.heap "java/lang/String" "COMPACT_STRINGS" "Z" (.int zC)) (HF_a1_coder : Fld Z h0 a1 "java/lang/String" "coder" "B" (.int 0)) (HF_a1_value : Fld Z h0 a1 "java/lang/String" "value" "[B" (.ref t0)) (g_a2 : n0 ≤ a2) (hz : ¬ (zC = (0 : Int32))) (hkc : p3 = (own_n cs)) (h40 : cs.length + ds.length ≤ 40) (hfit : cs.length + ds.length ≤ (zz).toNatClampNeg) :
    own_C l Z (⟨"java/lang/String", "getBytes", "([BIB)V"⟩ : MethodName) jdk_42_method_147_code 4 none ws ({ frames := 1, cells := 0, slots := 0, locals := 18 } : Room) #[(.ref a1), (.ref a2), (.int p3), (.int 0)] h0 (Q25 Z a1 a2 p3 t0 k9 k8 zz cs ds zC h0 n0) := by
  subst hkc
  have q := rm25v l Z a0 hw ws a1 a2 (own_n cs) t0 k9 (own_n ds) (own_by ds) k8 zz (own_pad cs zz) zC (own_by ds) h0 n0 O0 HE_a1 HV_t0 HV_a2 S_COMPACT_STRINGS HF_a1_coder hz HF_a1_value (by rw [own_sl0]; exact own_nge (by omega)) (own_nge (by omega)) (by rw [show ((0 : Int32)).toNatClampNeg = 0 from rfl]; omega) (by rw [own_sl0, own_nN (by omega), own_nN (by omega)]; exact hfit) (by rw [own_nN (by omega)]; exact own_rng _ _ (own_byl ds) _) (by rw [own_sl0, own_nN (by omega), own_nN (by omega), own_padl _ _ (by omega)]; exact hfit) g_a2
  unfold Q25v at q
  rw [show own_cpy (own_pad cs zz) (((own_n cs) <<< ((0 : Int32) &&& 31))).toNatClampNeg (own_by ds) ((own_n ds)).toNatClampNeg = own_pad (cs ++ ds) zz from (by rw [own_sl0, own_nN (by omega), own_nN (by omega)]; exact own_cpyP cs ds zz hfit)] at q
  exact q
def own_L24 : List (Nat × Instr × Nat) := [(0, .getstatic 18, 3), (3, .ifCond .eq 18, 3), (6, .aload_n 0, 1), (7, .getfield 22, 3), (10, .aload_n 1, 1), (11, .invokevirtual 40, 3), (14, .if_icmp .eq 7, 3), (21, .return_, 1)]
theorem own_K24 : ∀ x ∈ own_L24, decode jdk_68_method_71_code x.1 = .ok x.2 := by decide +kernel
theorem d24 {c : Code} (hby : c.code = jdk_68_method_71_code) (i : Nat) {k n : Nat} {a : Instr} (h : own_L24[i]? = some (k, a, n)) : decode c.code k = .ok (a, n) := own_dL own_K24 hby h
def Q24 (Z : State) (a1 a2 : Addr) (zC : Int32) (h0 : Heap) (n0 : Nat) (v : Option Value) (h : Heap) (L : List Loc) : Prop := v = none ∧ Fr n0 L ∧ h = h0
theorem ef_24 (m : MethodId) (x0 : Addr) (x1 : Addr) : entryFrame m #[(.ref x0), (.ref x1)] 2 = mkF m 0 #[.val (.ref x0), .val (.ref x1)] [] := by first | (simp [entryFrame, mkF, argsToLocals, Value.category]; done) | rfl
theorem pnc_java_lang_AbstractStringBuilder : plainName "java/lang/AbstractStringBuilder" = true := by first | (simp [plainName, overriddenIn]; done) | decide +kernel
theorem rm24 (l : Launch) (Z : State) (a0 : Array Value) (hw : ∀ d ∈ tables_1, d.before a0 Z = true) (ws : List Jvm.Cond) (a1 a2 : Addr) (zC : Int32) (h0 : Heap) (n0 : Nat) (O0 : Old Z n0 h0) (HE_a2 : Exa Z h0 a2 "java/lang/String") (S_COMPACT_STRINGS : Sta Z Z.heap "java/lang/String" "COMPACT_STRINGS" "Z" (.int zC)) (hc3 : ¬ (zC = (0 : Int32))) (HF_a1_coder : Fld Z h0 a1 "java/lang/AbstractStringBuilder" "coder" "B" (.int 0)) (HF_a2_coder : Fld Z h0 a2 "java/lang/String" "coder" "B" (.int 0)) :
    own_C l Z (⟨"java/lang/AbstractStringBuilder", "inflateIfNeededFor", "(Ljava/lang/String;)V"⟩ : MethodName) jdk_68_method_71_code 2 none ws ({ frames := 1, cells := 0, slots := 0, locals := 13 } : Room) #[(.ref a1), (.ref a2)] h0 (Q24 Z a1 a2 zC h0 n0) := by
  refine own_intro (plainFor_of_name pnc_java_lang_AbstractStringBuilder) fun p e s m below meth c s₁ hx hby hml hown hnm hZ e0 hret X0 => ?_
  have N0 := Fr.nil n0
  have Z0 : n0 ≤ h0.size := O0.1 ▸ O0.2.1
  obtain ⟨T3, X3, e3, st3⟩ := getS2 X0 hx hZ hown (host := "") (Or.inl (own_w hw 108 rfl)) Via.refl e0 (S_COMPACT_STRINGS.ext O0.2) (g := (mkF m 0 #[.val (.ref a1), .val (.ref a2)] [])) rfl (d24 hby 0 rfl)
  obtain ⟨T4, X4, e4, st4⟩ := getF X3 hx hZ hown (host := "") (Or.inl (own_w hw 111 rfl)) Via.refl e3 HF_a1_coder (g := (mkF m 7 #[.val (.ref a1), .val (.ref a2)] [(.ref a1)])) rfl rfl (d24 hby 3 rfl)
  obtain ⟨cq5, kq5, q5a, q5b, q5c⟩ := isOf hZ e4 HE_a2
  obtain ⟨vr5, _, ⟨T5, L5, k5, n5⟩, -, X5, ⟨Lc5, hQ5, l5, y5, z5⟩, st5⟩ := X4.virtualBack hx (y := (⟨"java/lang/String", "coder", "()B"⟩ : MethodName)) (z := (⟨"java/lang/String", "coder", "()B"⟩ : MethodName)) hown (mvT hZ (own_w hw 145 rfl)) (mvT hZ (own_w hw 79 rfl)) (notFace_of_selects (args := #[]) (mvT hZ (own_w hw 81 rfl))) (mvT hZ (own_w hw 81 rfl)) (mvT hZ (own_w hw 80 rfl)) (by decide) (backOf (W := 1) (rm13 l Z a0 hw [] a2 zC h0 n0 O0 S_COMPACT_STRINGS hc3 HF_a2_coder) hZ (own_w hw 82 rfl) (own_w hw 3 rfl) (by decide) (by decide)) q5a q5c (g := (mkF m 11 #[.val (.ref a1), .val (.ref a2)] [(.ref a2), (.int 0)])) rfl (by rw [hml]; rfl) (Steps.refl _) (argsL := []) (rest := [(.int 0)]) (lenOf pd_0 rfl) rfl (by show 2 * 0 + _ ≤ _; exact Nat.le_of_eq rfl) (d24 hby 5 rfl) (fun _ _ => ⟨rfl, e4, (by decide : 0 + 0 ≤ _), (by decide : 0 + 0 ≤ _)⟩)
  dsimp only [Pt.U, Pt.locs, Pt.cells, Pt.slots] at X5 l5 y5 z5 st5 hQ5
  subst l5 y5 z5
  obtain ⟨rfl, N5q, e5⟩ := hQ5
  have N5 := Fr.app N0 N5q
  replace X5 := X5.more (cells' := 0) (slots' := 0) (by decide) (by decide)
  refine ⟨T5, _, _, _, none, X5, by decide, by decide, fun _ => rfl, ?_, fun fs hr => castTop (ef_24 m a1 a2) ?_⟩
  · show Q24 Z a1 a2 zC h0 n0 _ T5.heap _
    rw [e5]
    exact ⟨rfl, N5, rfl⟩
  · show Steps p.tables e below (s₁.setTop (mkF m 0 #[.val (.ref a1), .val (.ref a2)] [])) _
    refine st3 _ ?_
    refine XS.ifNo X3.here hx rfl (d24 hby 1 rfl) rfl ((if0 _ _).trans (feq hc3).1) ?_
    refine XS.aloadN X3.here hx rfl (d24 hby 2 rfl) rfl rfl ?_
    refine st4 _ ?_
    refine XS.aloadN X4.here hx rfl (d24 hby 4 rfl) rfl rfl ?_
    refine st5.trans ?_
    refine XS.icmpYes X5.here hx rfl (pc0 := 14) (pc' := 21) rfl (d24 hby 6 rfl) rfl (teq (by decide : (0 : Int32) = (0 : Int32))).1 (by decide) (by decide) ?_
    exact X5.returnOut hx hret (d24 hby 7 rfl) hr
def own_L23 : List (Nat × Instr × Nat) := [(0, .aload_n 0, 1), (1, .aload_n 2, 1), (2, .invokevirtual 397, 3), (5, .aload_n 2, 1), (6, .aload_n 0, 1), (7, .getfield 15, 3), (10, .iload_n 1, 1), (11, .aload_n 0, 1), (12, .getfield 22, 3), (15, .invokevirtual 399, 3), (18, .return_, 1)]
theorem own_K23 : ∀ x ∈ own_L23, decode jdk_68_method_73_code x.1 = .ok x.2 := by decide +kernel
theorem d23 {c : Code} (hby : c.code = jdk_68_method_73_code) (i : Nat) {k n : Nat} {a : Instr} (h : own_L23[i]? = some (k, a, n)) : decode c.code k = .ok (a, n) := own_dL own_K23 hby h
theorem pd_24 : parseMethodDescriptor "(Ljava/lang/String;)V" = some ⟨[(.object "java/lang/String")], none⟩ := by decide +kernel
theorem own_selP {s : State} {args : Array Value} {y : MethodName} {K : String} (hinst : (Jvm.Cond.instanceMethod y).before args s = true) (hpriv : s.PrivateAt y) (hsel : (Jvm.Cond.selects K y y).before args s = true) (hy : y.cls ≠ "java/lang/invoke/MethodHandle" ∧ y.cls ≠ "java/lang/invoke/VarHandle") : (Jvm.Cond.selects y.cls y y).before args s = true := by
  obtain ⟨c2, r2, m2, -, -, q3, -, kP, hkP, hkPi⟩ := Cond.selects_spec hsel
  obtain ⟨mk, methM, hnamed, hmethM, -, -⟩ := Cond.instanceMethod_spec hinst
  cases hnamed.symm.trans q3
  exact selects_self_of_private (findClass_of_methodNamed hnamed) hkP hkPi hpriv hinst hy
theorem own_sameP {s : State} {args : Array Value} {y z : MethodName} {K : String} (hinst : (Jvm.Cond.instanceMethod y).before args s = true) (hsel : (Jvm.Cond.selects K z z).before args s = true) (hz : z.cls = y.cls) (hy : y.cls ≠ "java/lang/invoke/MethodHandle" ∧ y.cls ≠ "java/lang/invoke/VarHandle") : (Jvm.Cond.sameMethod y.cls y.cls y.name y.desc).before args s = true := by
  obtain ⟨c2, r2, m2, -, -, q3, -, kP, hkP, hkPi⟩ := Cond.selects_spec hsel
  obtain ⟨mk, methM, hnamed, hmethM, -, -⟩ := Cond.instanceMethod_spec hinst
  have h1 := findClass_of_methodNamed hnamed
  have h2 := findClass_of_methodNamed q3
  rw [hz] at h2
  have e : mk.cls = m2.cls := Option.some.inj (h1.symm.trans h2)
  have hf := State.methodFound?_of_named hnamed hy
  have hn : s.methodNamed? ⟨y.cls, y.name, y.desc⟩ = some mk := hnamed
  rw [← e] at hkP
  simp [Cond.before, Cond.holds, Cond.value, h1, hf, hn, hkP, hkPi]
theorem pd_31 : parseMethodDescriptor "([BIB)V" = some ⟨[(.array .byte), .int, .byte], none⟩ := by decide +kernel
def Q23 (Z : State) (a1 : Addr) (p2 : Int32) (a3 t t0 : Addr) (k8 k9 : ClassId) (zz zC : Int32) (cs ds : List Int32) (h0 : Heap) (n0 : Nat) (v : Option Value) (h : Heap) (L : List Loc) : Prop := v = none ∧ Fr n0 L ∧ Keep h0 h [t] ∧ Exa Z h t "[B" ∧ Arv Z h t k8 .byte zz (own_pad (cs ++ ds) zz) (.int 0)
theorem ef_23 (m : MethodId) (x0 : Addr) (x1 : Int32) (x2 : Addr) : entryFrame m #[(.ref x0), (.int x1), (.ref x2)] 3 = mkF m 0 #[.val (.ref x0), .val (.int x1), .val (.ref x2)] [] := by first | (simp [entryFrame, mkF, argsToLocals, Value.category]; done) | rfl
theorem rm23 (l : Launch) (Z : State) (a0 : Array Value) (hw : ∀ d ∈ tables_1, d.before a0 Z = true) (ws : List Jvm.Cond) (a1 : Addr) (p2 : Int32) (a3 t t0 : Addr) (k8 k9 : ClassId) (zz zC : Int32) (cs ds : List Int32) (h0 : Heap) (n0 : Nat) (O0 : Old Z n0 h0) (HE_a1 : Exa Z h0 a1 "java/lang/StringBuilder") (HE_t : Exa Z h0 t "[B") (HF_a1_value : Fld Z h0 a1 "java/lang/AbstractStringBuilder" "value" "[B" (.ref t)) (HF_a1_coder : Fld Z h0 a1 "java/lang/AbstractStringBuilder" "coder" "B" (.int 0)) (HV_t : Arv Z h0 t k8 .byte zz (own_pad cs zz) (.int 0)) (HE_a3 : Exa Z h0 a3 "java/lang/String") (HF_a3_value : Fld Z h0 a3 "java/lang/String" "value" "[B" (.ref t0)) (HF_a3_coder : Fld Z h0 a3 "java/lang/String" "coder" "B" (.int 0)) (HV_t0 : Arv Z h0 t0 k9 .byte (own_n ds) (own_by ds) (.int 0)) (S_COMPACT_STRINGS : Sta Z Z.heap "java/lang/String" "COMPACT_STRINGS" "Z" (.int zC)) (h2_hc3 : ¬ (zC = (0 : Int32))) (g_t : n0 ≤ t) (h15_hkc : p2 = (own_n cs)) (h15_h40 : cs.length + ds.length ≤ 40) (h15_hfit : cs.length + ds.length ≤ (zz).toNatClampNeg) :
    own_C l Z (⟨"java/lang/AbstractStringBuilder", "putStringAt", "(ILjava/lang/String;)V"⟩ : MethodName) jdk_68_method_73_code 3 none ws ({ frames := 2, cells := 0, slots := 0, locals := 33 } : Room) #[(.ref a1), (.int p2), (.ref a3)] h0 (Q23 Z a1 p2 a3 t t0 k8 k9 zz zC cs ds h0 n0) := by
  refine own_intro (plainFor_of_name pnc_java_lang_AbstractStringBuilder) fun p e s m below meth c s₁ hx hby hml hown hnm hZ e0 hret X0 => ?_
  have N0 := Fr.nil n0
  have Z0 : n0 ≤ h0.size := O0.1 ▸ O0.2.1
  obtain ⟨cq4, q4, q4'⟩ := HE_a1.cell
  obtain ⟨vr4, _, ⟨T4, L4, k4, n4⟩, -, X4, ⟨Lc4, hQ4, l4, y4, z4⟩, st4⟩ := X0.privateBack hx (y := (⟨"java/lang/AbstractStringBuilder", "inflateIfNeededFor", "(Ljava/lang/String;)V"⟩ : MethodName)) hown (mvT hZ (own_w hw 140 rfl)) (mvT hZ (own_w hw 141 rfl)) (own_selP (mvT hZ (own_w hw 141 rfl)) (Cond.privateMethod_at (mvP hZ (own_w hw 142 rfl) (args := #[]))) (mvT hZ (own_w hw 143 rfl)) (by decide)) (Cond.privateMethod_at (mvP hZ (own_w hw 142 rfl) (args := #[]))) (mvT hZ (own_w hw 144 rfl)) (by decide) (backOf (W := 0) (rm24 l Z a0 hw [] a1 a3 zC h0 n0 O0 HE_a3 S_COMPACT_STRINGS h2_hc3 HF_a1_coder HF_a3_coder) hZ (own_w hw 144 rfl) (own_w hw 105 rfl) (by decide) (by decide)) (g := (mkF m 2 #[.val (.ref a1), .val (.int p2), .val (.ref a3)] [(.ref a3), (.ref a1)])) rfl (by rw [hml]; rfl) (Steps.refl _) (a := a1) (by rw [e0]; exact q4) q4' (argsL := [(.ref a3)]) (rest := []) (lenOf pd_24 rfl) rfl (by show 2 * 0 + _ ≤ _; exact Nat.le_of_eq rfl) (d23 hby 2 rfl) (fun _ _ => ⟨rfl, e0, (by decide : 0 + 0 ≤ _), (by decide : 0 + 0 ≤ _)⟩)
  dsimp only [Pt.U, Pt.locs, Pt.cells, Pt.slots] at X4 l4 y4 z4 st4 hQ4
  subst l4 y4 z4
  obtain ⟨rfl, N4q, e4⟩ := hQ4
  have N4 := Fr.app N0 N4q
  replace X4 := X4.more (cells' := 0) (slots' := 0) (by decide) (by decide)
  obtain ⟨T5, X5, e5, st5⟩ := getF X4 hx hZ hown (host := "") (Or.inl (own_w hw 109 rfl)) Via.refl e4 HF_a1_value (g := (mkF m 7 #[.val (.ref a1), .val (.int p2), .val (.ref a3)] [(.ref a1), (.ref a3)])) rfl rfl (d23 hby 5 rfl)
  obtain ⟨T6, X6, e6, st6⟩ := getF X5 hx hZ hown (host := "") (Or.inl (own_w hw 111 rfl)) Via.refl e5 HF_a1_coder (g := (mkF m 12 #[.val (.ref a1), .val (.int p2), .val (.ref a3)] [(.ref a1), (.int p2), (.ref t), (.ref a3)])) rfl rfl (d23 hby 8 rfl)
  obtain ⟨cq7, kq7, q7a, q7b, q7c⟩ := isOf hZ e6 HE_a3
  obtain ⟨vr7, _, ⟨T7, L7, k7, n7⟩, -, X7, ⟨Lc7, hQ7, l7, y7, z7⟩, st7⟩ := X6.virtualBack hx (y := (⟨"java/lang/String", "getBytes", "([BIB)V"⟩ : MethodName)) (z := (⟨"java/lang/String", "getBytes", "([BIB)V"⟩ : MethodName)) hown (mvT hZ (own_w hw 146 rfl)) (mvT hZ (own_w hw 147 rfl)) (notFace_of_selects (args := #[]) (mvT hZ (own_w hw 149 rfl))) (mvT hZ (own_w hw 149 rfl)) (mvT hZ (own_w hw 148 rfl)) (by decide) (backOf (W := 0) (rm25 l Z a0 hw [] a3 t p2 t0 k9 k8 zz cs ds zC h0 n0 O0 HE_a3 HV_t0 HV_t S_COMPACT_STRINGS HF_a3_coder HF_a3_value g_t h2_hc3 h15_hkc h15_h40 h15_hfit) hZ (own_w hw 150 rfl) (own_w hw 3 rfl) (by decide) (by decide)) q7a q7c (g := (mkF m 15 #[.val (.ref a1), .val (.int p2), .val (.ref a3)] [(.int 0), (.int p2), (.ref t), (.ref a3)])) rfl (by rw [hml]; rfl) (Steps.refl _) (argsL := [(.ref t), (.int p2), (.int 0)]) (rest := []) (lenOf pd_31 rfl) rfl (by show 2 * 0 + _ ≤ _; exact Nat.le_of_eq rfl) (d23 hby 9 rfl) (fun _ _ => ⟨rfl, e6, (by decide : 0 + 0 ≤ _), (by decide : 0 + 0 ≤ _)⟩)
  dsimp only [Pt.U, Pt.locs, Pt.cells, Pt.slots] at X7 l7 y7 z7 st7 hQ7
  subst l7 y7 z7
  obtain ⟨rfl, N7q, K7, Y7_0⟩ := hQ7
  have N7 := Fr.app N4 N7q
  replace X7 := X7.more (cells' := 0) (slots' := 0) (by decide) (by decide)
  have K8 : Keep h0 T7.heap [t] := (Keep.refl h0 [t]).trans K7 (allS (Or.inl (List.mem_of_getElem? (i := 0) rfl)) all0)
  have O9 : Old Z n0 T7.heap := O0.keep K7 (allS g_t all0)
  have f10 := (HE_t.keep K7)
  refine ⟨T7, _, _, _, none, X7, by decide, by decide, fun _ => rfl, ?_, fun fs hr => castTop (ef_23 m a1 p2 a3) ?_⟩
  · show Q23 Z a1 p2 a3 t t0 k8 k9 zz zC cs ds h0 n0 _ T7.heap _
    exact ⟨rfl, N7, K8, f10, Y7_0⟩
  · show Steps p.tables e below (s₁.setTop (mkF m 0 #[.val (.ref a1), .val (.int p2), .val (.ref a3)] [])) _
    refine XS.aloadN X0.here hx rfl (d23 hby 0 rfl) rfl rfl ?_
    refine XS.aloadN X0.here hx rfl (d23 hby 1 rfl) rfl rfl ?_
    refine st4.trans ?_
    refine XS.aloadN X4.here hx rfl (d23 hby 3 rfl) rfl rfl ?_
    refine XS.aloadN X4.here hx rfl (d23 hby 4 rfl) rfl rfl ?_
    refine st5 _ ?_
    refine XS.iloadN X5.here hx rfl (d23 hby 6 rfl) rfl ?_
    refine XS.aloadN X5.here hx rfl (d23 hby 7 rfl) rfl rfl ?_
    refine st6 _ ?_
    refine st7.trans ?_
    exact X7.returnOut hx hret (d23 hby 10 rfl) hr
def own_L22 : List (Nat × Instr × Nat) := [(0, .aload_n 0, 1), (1, .getfield 15, 3), (4, .arraylength, 1), (5, .aload_n 0, 1), (6, .getfield 22, 3), (9, .ishr, 1), (10, .istore_n 2, 1), (11, .iload_n 1, 1), (12, .iload_n 2, 1), (13, .isub, 1), (14, .ifCond .le 24, 3), (38, .return_, 1), (17, .aload_n 0, 1), (18, .aload_n 0, 1), (19, .getfield 15, 3), (22, .aload_n 0, 1), (23, .iload_n 1, 1), (24, .invokevirtual 104, 3), (27, .aload_n 0, 1), (28, .getfield 22, 3), (31, .ishl, 1), (32, .invokestatic 108, 3), (35, .putfield 15, 3)]
theorem own_K22 : ∀ x ∈ own_L22, decode jdk_68_method_9_code x.1 = .ok x.2 := by decide +kernel
theorem d22 {c : Code} (hby : c.code = jdk_68_method_9_code) (i : Nat) {k n : Nat} {a : Instr} (h : own_L22[i]? = some (k, a, n)) : decode c.code k = .ok (a, n) := own_dL own_K22 hby h
def Q220 (Z : State) (a1 : Addr) (p2 : Int32) (t : Addr) (k8 : ClassId) (zz : Int32) (vs : List Value) (h0 : Heap) (n0 : Nat) (v : Option Value) (h : Heap) (L : List Loc) : Prop := v = none ∧ Fr n0 L ∧ h = h0
theorem ef_22 (m : MethodId) (x0 : Addr) (x1 : Int32) : entryFrame m #[(.ref x0), (.int x1)] 3 = mkF m 0 #[.val (.ref x0), .val (.int x1), .unset] [] := by first | (simp [entryFrame, mkF, argsToLocals, Value.category]; done) | rfl
theorem rm220 (l : Launch) (Z : State) (a0 : Array Value) (hw : ∀ d ∈ tables_1, d.before a0 Z = true) (ws : List Jvm.Cond) (a1 : Addr) (p2 : Int32) (t : Addr) (k8 : ClassId) (zz : Int32) (vs : List Value) (h0 : Heap) (n0 : Nat) (O0 : Old Z n0 h0) (HE_a1 : Exa Z h0 a1 "java/lang/StringBuilder") (HF_a1_value : Fld Z h0 a1 "java/lang/AbstractStringBuilder" "value" "[B" (.ref t)) (HF_a1_coder : Fld Z h0 a1 "java/lang/AbstractStringBuilder" "coder" "B" (.int 0)) (HV_t : Arv Z h0 t k8 .byte zz vs (.int 0)) (hc14 : ¬ ((0 : Int32) < (p2 - (zz >>> ((0 : Int32) &&& 31))))) :
    own_C l Z (⟨"java/lang/AbstractStringBuilder", "ensureCapacityInternal", "(I)V"⟩ : MethodName) jdk_68_method_9_code 3 none ws ({ frames := 0, cells := 0, slots := 0, locals := 0 } : Room) #[(.ref a1), (.int p2)] h0 (Q220 Z a1 p2 t k8 zz vs h0 n0) := by
  refine own_intro (plainFor_of_name pnc_java_lang_AbstractStringBuilder) fun p e s m below meth c s₁ hx hby hml hown hnm hZ e0 hret X0 => ?_
  have N0 := Fr.nil n0
  have Z0 : n0 ≤ h0.size := O0.1 ▸ O0.2.1
  obtain ⟨T3, X3, e3, st3⟩ := getF X0 hx hZ hown (host := "") (Or.inl (own_w hw 109 rfl)) Via.refl e0 HF_a1_value (g := (mkF m 1 #[.val (.ref a1), .val (.int p2), .unset] [(.ref a1)])) rfl rfl (d22 hby 1 rfl)
  obtain ⟨cl4, Ar4, q4, S4, Nn4, Hh4, G4⟩ := id HV_t
  obtain ⟨T5, X5, e5, st5⟩ := getF X3 hx hZ hown (host := "") (Or.inl (own_w hw 111 rfl)) Via.refl e3 HF_a1_coder (g := (mkF m 6 #[.val (.ref a1), .val (.int p2), .unset] [(.ref a1), (.int zz)])) rfl rfl (d22 hby 4 rfl)
  refine ⟨T5, _, _, _, none, X5, by decide, by decide, fun _ => rfl, ?_, fun fs hr => castTop (ef_22 m a1 p2) ?_⟩
  · show Q220 Z a1 p2 t k8 zz vs h0 n0 _ T5.heap _
    rw [e5]
    exact ⟨rfl, N0, rfl⟩
  · show Steps p.tables e below (s₁.setTop (mkF m 0 #[.val (.ref a1), .val (.int p2), .unset] [])) _
    refine XS.aloadN X0.here hx rfl (d22 hby 0 rfl) rfl rfl ?_
    refine st3 _ ?_
    show Steps p.tables e below (T3.setTop (mkF m 4 #[.val (.ref a1), .val (.int p2), .unset] [(.ref t)])) _
    refine X3.arraylength hx (by rw [e3]; exact Ar4.1) (State.isArrayOf_alike hZ.alike Ar4.2.1) (g := (mkF m 4 #[.val (.ref a1), .val (.int p2), .unset] [(.ref t)])) rfl rfl (d22 hby 2 rfl) _ ?_
    rw [len_of S4 Nn4]
    refine XS.aloadN X3.here hx rfl (d22 hby 3 rfl) rfl rfl ?_
    refine st5 _ ?_
    refine XS.ishr X5.here hx rfl (d22 hby 5 rfl) rfl ?_
    refine XS.istoreN X5.here hx rfl (d22 hby 6 rfl) rfl (l' := #[.val (.ref a1), .val (.int p2), .val (.int (zz >>> ((0 : Int32) &&& 31)))]) rfl ?_
    refine XS.iloadN X5.here hx rfl (d22 hby 7 rfl) rfl ?_
    refine XS.iloadN X5.here hx rfl (d22 hby 8 rfl) rfl ?_
    refine XS.isub X5.here hx rfl (d22 hby 9 rfl) rfl ?_
    refine XS.ifYes X5.here hx rfl (pc0 := 14) (pc' := 38) rfl (d22 hby 10 rfl) rfl ((if0 _ _).trans (flt hc14).2.2.2) (by decide) (by decide) ?_
    show Steps p.tables e below (T5.setTop (mkF m 38 #[.val (.ref a1), .val (.int p2), .val (.int (zz >>> ((0 : Int32) &&& 31)))] [])) _
    exact X5.returnOut hx hret (d22 hby 11 rfl) hr
theorem own_cap0 {cs : List Int32} {zz : Int32} (hz : zz = (16 : Int32) ∨ zz = (34 : Int32)) (h : cs.length ≤ (zz).toNatClampNeg) : ¬ ((0 : Int32) < (own_n cs - (zz >>> ((0 : Int32) &&& 31)))) := by
  rw [own_sr0]
  rcases hz with rfl | rfl
  · have q : ∀ j : Fin 17, ¬ ((0 : Int32) < (Int32.ofNat j.1 - (16 : Int32))) := by decide
    exact q ⟨cs.length, by have e : ((16 : Int32)).toNatClampNeg = 16 := rfl; omega⟩
  · have q : ∀ j : Fin 35, ¬ ((0 : Int32) < (Int32.ofNat j.1 - (34 : Int32))) := by decide
    exact q ⟨cs.length, by have e : ((34 : Int32)).toNatClampNeg = 34 := rfl; omega⟩
theorem own_cap1 {cs : List Int32} (h : 16 < cs.length) (h2 : cs.length ≤ 33) : ((0 : Int32) < (own_n cs - (16 : Int32))) ∧ (((own_n cs <<< ((0 : Int32) &&& 31)) - (16 : Int32)) < (18 : Int32)) := by
  rw [own_sl0]
  have q : ∀ j : Fin 34, 16 < j.1 → ((0 : Int32) < (Int32.ofNat j.1 - (16 : Int32))) ∧ ((Int32.ofNat j.1 - (16 : Int32)) < (18 : Int32)) := by decide
  exact q ⟨cs.length, by omega⟩ h
theorem own_grow (cs : List Int32) (h : cs.length ≤ 16) : own_cpy [.int 0, .int 0, .int 0, .int 0, .int 0, .int 0, .int 0, .int 0, .int 0, .int 0, .int 0, .int 0, .int 0, .int 0, .int 0, .int 0, .int 0, .int 0, .int 0, .int 0, .int 0, .int 0, .int 0, .int 0, .int 0, .int 0, .int 0, .int 0, .int 0, .int 0, .int 0, .int 0, .int 0, .int 0] 0 (own_pad cs 16) 16 = own_pad cs 34 := by
  have e1 : ((16 : Int32)).toNatClampNeg = 16 := rfl
  have e2 : ((34 : Int32)).toNatClampNeg = 34 := rfl
  rw [own_cpy, own_pad, own_pad, e1, e2]
  show [] ++ (own_by cs ++ List.replicate (16 - cs.length) (Value.int 0)) ++ List.replicate 18 (Value.int 0) = _
  rw [List.nil_append, List.append_assoc, List.replicate_append_replicate, show 16 - cs.length + 18 = 34 - cs.length by omega]
def own_L48 : List (Nat × Instr × Nat) := [(0, .iload_n 0, 1), (1, .iload_n 1, 1), (2, .if_icmp .lt 7, 3), (9, .iload_n 1, 1), (10, .ireturn, 1)]
theorem own_K48 : ∀ x ∈ own_L48, decode jdk_29_method_65_code x.1 = .ok x.2 := by decide +kernel
theorem d48 {c : Code} (hby : c.code = jdk_29_method_65_code) (i : Nat) {k n : Nat} {a : Instr} (h : own_L48[i]? = some (k, a, n)) : decode c.code k = .ok (a, n) := own_dL own_K48 hby h
def Q48 (Z : State) (p1 p2 : Int32) (h0 : Heap) (n0 : Nat) (v : Option Value) (h : Heap) (L : List Loc) : Prop := v = some (.int p2) ∧ Fr n0 L ∧ h = h0
theorem ef_48 (m : MethodId) (x0 : Int32) (x1 : Int32) : entryFrame m #[(.int x0), (.int x1)] 2 = mkF m 0 #[.val (.int x0), .val (.int x1)] [] := by first | (simp [entryFrame, mkF, argsToLocals, Value.category]; done) | rfl
theorem rm48 (l : Launch) (Z : State) (a0 : Array Value) (hw : ∀ d ∈ tables_1, d.before a0 Z = true) (ws : List Jvm.Cond) (p1 p2 : Int32) (h0 : Heap) (n0 : Nat) (O0 : Old Z n0 h0) (hc2 : p1 < p2) :
    own_C l Z (⟨"java/lang/Math", "max", "(II)I"⟩ : MethodName) jdk_29_method_65_code 2 (some .int) ws ({ frames := 0, cells := 0, slots := 0, locals := 0 } : Room) #[(.int p1), (.int p2)] h0 (Q48 Z p1 p2 h0 n0) := by
  refine own_intro (Jvm.Free.JP.mathPlain rfl (by decide +kernel)) fun p e s m below meth c s₁ hx hby hml hown hnm hZ e0 hret X0 => ?_
  have N0 := Fr.nil n0
  have Z0 : n0 ≤ h0.size := O0.1 ▸ O0.2.1
  refine ⟨s₁, _, _, _, some (.int p2), X0, by decide, by decide, nofun, ?_, fun fs hr => castTop (ef_48 m p1 p2) ?_⟩
  · show Q48 Z p1 p2 h0 n0 _ s₁.heap _
    rw [e0]
    exact ⟨rfl, N0, rfl⟩
  · show Steps p.tables e below (s₁.setTop (mkF m 0 #[.val (.int p1), .val (.int p2)] [])) _
    refine XS.iloadN X0.here hx rfl (d48 hby 0 rfl) rfl ?_
    refine XS.iloadN X0.here hx rfl (d48 hby 1 rfl) rfl ?_
    refine XS.icmpYes X0.here hx rfl (pc0 := 2) (pc' := 9) rfl (d48 hby 2 rfl) rfl (tlt hc2).1 (by decide) (by decide) ?_
    refine XS.iloadN X0.here hx rfl (d48 hby 3 rfl) rfl ?_
    exact own_retI X0 hx hret (d48 hby 4 rfl) hr
def own_L47 : List (Nat × Instr × Nat) := [(0, .iload_n 0, 1), (1, .iload_n 1, 1), (2, .iload_n 2, 1), (3, .invokestatic 194, 3), (6, .iadd, 1), (7, .istore_n 3, 1), (8, .iconst 0, 1), (9, .iload_n 3, 1), (10, .if_icmp .ge 11, 3), (13, .iload_n 3, 1), (14, .ldc 200, 2), (16, .if_icmp .gt 5, 3), (19, .iload_n 3, 1), (20, .ireturn, 1)]
theorem own_K47 : ∀ x ∈ own_L47, decode jdk_48_method_27_code x.1 = .ok x.2 := by decide +kernel
theorem d47 {c : Code} (hby : c.code = jdk_48_method_27_code) (i : Nat) {k n : Nat} {a : Instr} (h : own_L47[i]? = some (k, a, n)) : decode c.code k = .ok (a, n) := own_dL own_K47 hby h
theorem pd_12 : parseMethodDescriptor "(II)I" = some ⟨[.int, .int], some .int⟩ := by decide +kernel
def Q47 (Z : State) (p1 : Int32) (h0 : Heap) (n0 : Nat) (v : Option Value) (h : Heap) (L : List Loc) : Prop := v = some (.int 34) ∧ Fr n0 L ∧ h = h0
theorem ef_47__16___Int32__a__18___Int32__ (m : MethodId) (x1 : Int32) : entryFrame m #[(.int 16), (.int x1), (.int 18)] 4 = mkF m 0 #[.val (.int 16), .val (.int x1), .val (.int 18), .unset] [] := by first | (simp [entryFrame, mkF, argsToLocals, Value.category]; done) | rfl
theorem pnc_jdk_internal_util_ArraysSupport : plainName "jdk/internal/util/ArraysSupport" = true := by first | (simp [plainName, overriddenIn]; done) | decide +kernel
theorem rm47 (l : Launch) (Z : State) (a0 : Array Value) (hw : ∀ d ∈ tables_1, d.before a0 Z = true) (ws : List Jvm.Cond) (p1 : Int32) (h0 : Heap) (n0 : Nat) (O0 : Old Z n0 h0) (h3_hc2 : p1 < (18 : Int32)) :
    own_C l Z (⟨"jdk/internal/util/ArraysSupport", "newLength", "(III)I"⟩ : MethodName) jdk_48_method_27_code 4 (some .int) ws ({ frames := 1, cells := 0, slots := 0, locals := 14 } : Room) #[(.int 16), (.int p1), (.int 18)] h0 (Q47 Z p1 h0 n0) := by
  refine own_intro (plainFor_of_name pnc_jdk_internal_util_ArraysSupport) fun p e s m below meth c s₁ hx hby hml hown hnm hZ e0 hret X0 => ?_
  have N0 := Fr.nil n0
  have Z0 : n0 ≤ h0.size := O0.1 ▸ O0.2.1
  obtain ⟨vr2, _, ⟨T2, L2, k2, n2⟩, -, X2, ⟨Lc2, hQ2, l2, y2, z2⟩, st2⟩ := Jvm.LawKit.callS X0 hx (y := (⟨"java/lang/Math", "max", "(II)I"⟩ : MethodName)) hown (mvT hZ (own_w hw 252 rfl)) (mvT hZ (own_w hw 253 rfl)) (mvT hZ (own_w hw 215 rfl)) (mvT hZ (own_w hw 254 rfl)) (by decide) (backOf (W := 1) (rm48 l Z a0 hw [] p1 ((18 : Int32)) h0 n0 O0 h3_hc2) hZ (own_w hw 254 rfl) (own_w hw 215 rfl) (by decide) (by decide)) (g := (mkF m 3 #[.val (.int 16), .val (.int p1), .val (.int 18), .unset] [(.int 18), (.int p1), (.int 16)])) rfl (by rw [hml]; rfl) (argsL := [(.int p1), (.int 18)]) (rest := [(.int 16)]) (lenOf pd_12 rfl) rfl (by show 2 * 0 + _ ≤ _; exact Nat.le_of_eq rfl) (d47 hby 3 rfl) (fun _ _ => ⟨rfl, e0, (by decide : 0 + 0 ≤ _), (by decide : 0 + 0 ≤ _)⟩)
  dsimp only [Pt.U, Pt.locs, Pt.cells, Pt.slots] at X2 l2 y2 z2 st2 hQ2
  subst l2 y2 z2
  obtain ⟨rfl, N2q, e2⟩ := hQ2
  have N2 := Fr.app N0 N2q
  replace X2 := X2.more (cells' := 0) (slots' := 0) (by decide) (by decide)
  refine ⟨T2, _, _, _, some (.int 34), X2, by decide, by decide, nofun, ?_, fun fs hr => castTop (ef_47__16___Int32__a__18___Int32__ m p1) ?_⟩
  · show Q47 Z p1 h0 n0 _ T2.heap _
    rw [e2]
    exact ⟨rfl, N2, rfl⟩
  · show Steps p.tables e below (s₁.setTop (mkF m 0 #[.val (.int 16), .val (.int p1), .val (.int 18), .unset] [])) _
    refine XS.iloadN X0.here hx rfl (d47 hby 0 rfl) rfl ?_
    refine XS.iloadN X0.here hx rfl (d47 hby 1 rfl) rfl ?_
    refine XS.iloadN X0.here hx rfl (d47 hby 2 rfl) rfl ?_
    refine st2 _ ?_
    refine XS.iadd X2.here hx rfl (d47 hby 4 rfl) rfl ?_
    refine XS.istoreN X2.here hx rfl (d47 hby 5 rfl) rfl (l' := #[.val (.int 16), .val (.int p1), .val (.int 18), .val (.int 34)]) rfl ?_
    refine XS.iconst X2.here hx rfl (d47 hby 6 rfl) ?_
    refine XS.iloadN X2.here hx rfl (d47 hby 7 rfl) rfl ?_
    refine XS.icmpNo X2.here hx rfl (d47 hby 8 rfl) rfl (tlt (by decide : (0 : Int32) < (34 : Int32))).2.1 ?_
    refine XS.iloadN X2.here hx rfl (d47 hby 9 rfl) rfl ?_
    show Steps p.tables e below (T2.setTop (mkF m 14 #[.val (.int 16), .val (.int p1), .val (.int 18), .val (.int 34)] [(.int 34)])) _
    refine X2.ldcInt hx hown (mvT hZ (own_w hw 255 rfl)) (g := (mkF m 14 #[.val (.int 16), .val (.int p1), .val (.int 18), .val (.int 34)] [(.int 34)])) rfl (d47 hby 10 rfl) _ ?_
    refine XS.icmpNo X2.here hx rfl (d47 hby 11 rfl) rfl (flt (by decide : ¬ ((2147483639 : Int32) < (34 : Int32)))).2.2.1 ?_
    refine XS.iloadN X2.here hx rfl (d47 hby 12 rfl) rfl ?_
    exact own_retI X2 hx hret (d47 hby 13 rfl) hr
def own_L46 : List (Nat × Instr × Nat) := [(0, .aload_n 0, 1), (1, .getfield 15, 3), (4, .arraylength, 1), (5, .istore_n 2, 1), (6, .iload_n 1, 1), (7, .aload_n 0, 1), (8, .getfield 22, 3), (11, .ishl, 1), (12, .istore_n 3, 1), (13, .iload_n 3, 1), (14, .iload_n 2, 1), (15, .isub, 1), (16, .istore 4, 2), (18, .iload_n 2, 1), (19, .iload 4, 2), (21, .iload_n 2, 1), (22, .iconst 2, 1), (23, .aload_n 0, 1), (24, .getfield 22, 3), (27, .ishl, 1), (28, .iadd, 1), (29, .invokestatic 114, 3), (32, .istore 5, 2), (34, .iload 5, 2), (36, .ldc 39, 2), (38, .if_icmp .ne 13, 3), (51, .iload 5, 2), (53, .aload_n 0, 1), (54, .getfield 22, 3), (57, .ishr, 1), (58, .ireturn, 1)]
theorem own_K46 : ∀ x ∈ own_L46, decode jdk_68_method_10_code x.1 = .ok x.2 := by decide +kernel
theorem d46 {c : Code} (hby : c.code = jdk_68_method_10_code) (i : Nat) {k n : Nat} {a : Instr} (h : own_L46[i]? = some (k, a, n)) : decode c.code k = .ok (a, n) := own_dL own_K46 hby h
theorem pd_14 : parseMethodDescriptor "(III)I" = some ⟨[.int, .int, .int], some .int⟩ := by decide +kernel
def Q46 (Z : State) (a1 : Addr) (p2 : Int32) (t : Addr) (k8 : ClassId) (vs : List Value) (h0 : Heap) (n0 : Nat) (v : Option Value) (h : Heap) (L : List Loc) : Prop := v = some (.int 34) ∧ Fr n0 L ∧ h = h0
theorem ef_46 (m : MethodId) (x0 : Addr) (x1 : Int32) : entryFrame m #[(.ref x0), (.int x1)] 6 = mkF m 0 #[.val (.ref x0), .val (.int x1), .unset, .unset, .unset, .unset] [] := by first | (simp [entryFrame, mkF, argsToLocals, Value.category]; done) | rfl
theorem rm46 (l : Launch) (Z : State) (a0 : Array Value) (hw : ∀ d ∈ tables_1, d.before a0 Z = true) (ws : List Jvm.Cond) (a1 : Addr) (p2 : Int32) (t : Addr) (k8 : ClassId) (vs : List Value) (h0 : Heap) (n0 : Nat) (O0 : Old Z n0 h0) (HE_a1 : Exa Z h0 a1 "java/lang/StringBuilder") (HF_a1_value : Fld Z h0 a1 "java/lang/AbstractStringBuilder" "value" "[B" (.ref t)) (HF_a1_coder : Fld Z h0 a1 "java/lang/AbstractStringBuilder" "coder" "B" (.int 0)) (HV_t : Arv Z h0 t k8 .byte (16 : Int32) vs (.int 0)) (h29_h3_hc2 : ((p2 <<< ((0 : Int32) &&& 31)) - (16 : Int32)) < (18 : Int32)) :
    own_C l Z (⟨"java/lang/AbstractStringBuilder", "newCapacity", "(I)I"⟩ : MethodName) jdk_68_method_10_code 6 (some .int) ws ({ frames := 2, cells := 0, slots := 0, locals := 29 } : Room) #[(.ref a1), (.int p2)] h0 (Q46 Z a1 p2 t k8 vs h0 n0) := by
  refine own_intro (plainFor_of_name pnc_java_lang_AbstractStringBuilder) fun p e s m below meth c s₁ hx hby hml hown hnm hZ e0 hret X0 => ?_
  have N0 := Fr.nil n0
  have Z0 : n0 ≤ h0.size := O0.1 ▸ O0.2.1
  obtain ⟨T3, X3, e3, st3⟩ := getF X0 hx hZ hown (host := "") (Or.inl (own_w hw 109 rfl)) Via.refl e0 HF_a1_value (g := (mkF m 1 #[.val (.ref a1), .val (.int p2), .unset, .unset, .unset, .unset] [(.ref a1)])) rfl rfl (d46 hby 1 rfl)
  obtain ⟨cl4, Ar4, q4, S4, Nn4, Hh4, G4⟩ := id HV_t
  obtain ⟨T5, X5, e5, st5⟩ := getF X3 hx hZ hown (host := "") (Or.inl (own_w hw 111 rfl)) Via.refl e3 HF_a1_coder (g := (mkF m 8 #[.val (.ref a1), .val (.int p2), .val (.int 16), .unset, .unset, .unset] [(.ref a1), (.int p2)])) rfl rfl (d46 hby 6 rfl)
  obtain ⟨T6, X6, e6, st6⟩ := getF X5 hx hZ hown (host := "") (Or.inl (own_w hw 111 rfl)) Via.refl e5 HF_a1_coder (g := (mkF m 24 #[.val (.ref a1), .val (.int p2), .val (.int 16), .val (.int (p2 <<< ((0 : Int32) &&& 31))), .val (.int ((p2 <<< ((0 : Int32) &&& 31)) - (16 : Int32))), .unset] [(.ref a1), (.int 2), (.int 16), (.int ((p2 <<< ((0 : Int32) &&& 31)) - (16 : Int32))), (.int 16)])) rfl rfl (d46 hby 18 rfl)
  obtain ⟨vr7, _, ⟨T7, L7, k7, n7⟩, -, X7, ⟨Lc7, hQ7, l7, y7, z7⟩, st7⟩ := Jvm.LawKit.callS X6 hx (y := (⟨"jdk/internal/util/ArraysSupport", "newLength", "(III)I"⟩ : MethodName)) hown (mvT hZ (own_w hw 248 rfl)) (mvT hZ (own_w hw 249 rfl)) (mvT hZ (own_w hw 250 rfl)) (mvT hZ (own_w hw 251 rfl)) (by decide) (backOf (W := 0) (rm47 l Z a0 hw [] (((p2 <<< ((0 : Int32) &&& 31)) - (16 : Int32))) h0 n0 O0 h29_h3_hc2) hZ (own_w hw 251 rfl) (own_w hw 250 rfl) (by decide) (by decide)) (g := (mkF m 29 #[.val (.ref a1), .val (.int p2), .val (.int 16), .val (.int (p2 <<< ((0 : Int32) &&& 31))), .val (.int ((p2 <<< ((0 : Int32) &&& 31)) - (16 : Int32))), .unset] [(.int 18), (.int ((p2 <<< ((0 : Int32) &&& 31)) - (16 : Int32))), (.int 16)])) rfl (by rw [hml]; rfl) (argsL := [(.int 16), (.int ((p2 <<< ((0 : Int32) &&& 31)) - (16 : Int32))), (.int 18)]) (rest := []) (lenOf pd_14 rfl) rfl (by show 2 * 0 + _ ≤ _; exact Nat.le_of_eq rfl) (d46 hby 21 rfl) (fun _ _ => ⟨rfl, e6, (by decide : 0 + 0 ≤ _), (by decide : 0 + 0 ≤ _)⟩)
  dsimp only [Pt.U, Pt.locs, Pt.cells, Pt.slots] at X7 l7 y7 z7 st7 hQ7
  subst l7 y7 z7
  obtain ⟨rfl, N7q, e7⟩ := hQ7
  have N7 := Fr.app N0 N7q
  replace X7 := X7.more (cells' := 0) (slots' := 0) (by decide) (by decide)
  obtain ⟨T8, X8, e8, st8⟩ := getF X7 hx hZ hown (host := "") (Or.inl (own_w hw 111 rfl)) Via.refl e7 HF_a1_coder (g := (mkF m 54 #[.val (.ref a1), .val (.int p2), .val (.int 16), .val (.int (p2 <<< ((0 : Int32) &&& 31))), .val (.int ((p2 <<< ((0 : Int32) &&& 31)) - (16 : Int32))), .val (.int 34)] [(.ref a1), (.int 34)])) rfl rfl (d46 hby 28 rfl)
  refine ⟨T8, _, _, _, some (.int 34), X8, by decide, by decide, nofun, ?_, fun fs hr => castTop (ef_46 m a1 p2) ?_⟩
  · show Q46 Z a1 p2 t k8 vs h0 n0 _ T8.heap _
    rw [e8]
    exact ⟨rfl, N7, rfl⟩
  · show Steps p.tables e below (s₁.setTop (mkF m 0 #[.val (.ref a1), .val (.int p2), .unset, .unset, .unset, .unset] [])) _
    refine XS.aloadN X0.here hx rfl (d46 hby 0 rfl) rfl rfl ?_
    refine st3 _ ?_
    show Steps p.tables e below (T3.setTop (mkF m 4 #[.val (.ref a1), .val (.int p2), .unset, .unset, .unset, .unset] [(.ref t)])) _
    refine X3.arraylength hx (by rw [e3]; exact Ar4.1) (State.isArrayOf_alike hZ.alike Ar4.2.1) (g := (mkF m 4 #[.val (.ref a1), .val (.int p2), .unset, .unset, .unset, .unset] [(.ref t)])) rfl rfl (d46 hby 2 rfl) _ ?_
    rw [len_of S4 Nn4]
    refine XS.istoreN X3.here hx rfl (d46 hby 3 rfl) rfl (l' := #[.val (.ref a1), .val (.int p2), .val (.int 16), .unset, .unset, .unset]) rfl ?_
    refine XS.iloadN X3.here hx rfl (d46 hby 4 rfl) rfl ?_
    refine XS.aloadN X3.here hx rfl (d46 hby 5 rfl) rfl rfl ?_
    refine st5 _ ?_
    refine XS.ishl X5.here hx rfl (d46 hby 7 rfl) rfl ?_
    refine XS.istoreN X5.here hx rfl (d46 hby 8 rfl) rfl (l' := #[.val (.ref a1), .val (.int p2), .val (.int 16), .val (.int (p2 <<< ((0 : Int32) &&& 31))), .unset, .unset]) rfl ?_
    refine XS.iloadN X5.here hx rfl (d46 hby 9 rfl) rfl ?_
    refine XS.iloadN X5.here hx rfl (d46 hby 10 rfl) rfl ?_
    refine XS.isub X5.here hx rfl (d46 hby 11 rfl) rfl ?_
    refine XS.istore X5.here hx rfl (d46 hby 12 rfl) rfl (l' := #[.val (.ref a1), .val (.int p2), .val (.int 16), .val (.int (p2 <<< ((0 : Int32) &&& 31))), .val (.int ((p2 <<< ((0 : Int32) &&& 31)) - (16 : Int32))), .unset]) rfl ?_
    show Steps p.tables e below (T5.setTop (mkF m 18 #[.val (.ref a1), .val (.int p2), .val (.int 16), .val (.int (p2 <<< ((0 : Int32) &&& 31))), .val (.int ((p2 <<< ((0 : Int32) &&& 31)) - (16 : Int32))), .unset] [])) _
    refine XS.iloadN X5.here hx rfl (d46 hby 13 rfl) rfl ?_
    refine XS.iload X5.here hx rfl (d46 hby 14 rfl) rfl ?_
    refine XS.iloadN X5.here hx rfl (d46 hby 15 rfl) rfl ?_
    refine XS.iconst X5.here hx rfl (d46 hby 16 rfl) ?_
    refine XS.aloadN X5.here hx rfl (d46 hby 17 rfl) rfl rfl ?_
    refine st6 _ ?_
    refine XS.ishl X6.here hx rfl (d46 hby 19 rfl) rfl ?_
    refine XS.iadd X6.here hx rfl (d46 hby 20 rfl) rfl ?_
    refine st7 _ ?_
    refine XS.istore X7.here hx rfl (d46 hby 22 rfl) rfl (l' := #[.val (.ref a1), .val (.int p2), .val (.int 16), .val (.int (p2 <<< ((0 : Int32) &&& 31))), .val (.int ((p2 <<< ((0 : Int32) &&& 31)) - (16 : Int32))), .val (.int 34)]) rfl ?_
    refine XS.iload X7.here hx rfl (d46 hby 23 rfl) rfl ?_
    refine X7.ldcInt hx hown (mvT hZ (own_w hw 256 rfl)) (g := (mkF m 36 #[.val (.ref a1), .val (.int p2), .val (.int 16), .val (.int (p2 <<< ((0 : Int32) &&& 31))), .val (.int ((p2 <<< ((0 : Int32) &&& 31)) - (16 : Int32))), .val (.int 34)] [(.int 34)])) rfl (d46 hby 24 rfl) _ ?_
    refine XS.icmpYes X7.here hx rfl (pc0 := 38) (pc' := 51) rfl (d46 hby 25 rfl) rfl (feq (by decide : ¬ ((34 : Int32) = (2147483647 : Int32)))).2 (by decide) (by decide) ?_
    refine XS.iload X7.here hx rfl (d46 hby 26 rfl) rfl ?_
    refine XS.aloadN X7.here hx rfl (d46 hby 27 rfl) rfl rfl ?_
    refine st8 _ ?_
    refine XS.ishr X8.here hx rfl (d46 hby 29 rfl) rfl ?_
    exact own_retI X8 hx hret (d46 hby 30 rfl) hr
def Q40f (Z : State)  (h0 : Heap) (n0 : Nat) (v : Option Value) (h : Heap) (L : List Loc) : Prop := v = some (.int 16) ∧ Fr n0 L ∧ h = h0
theorem ef_40__16___Int32____34___Int32__ (m : MethodId)  : entryFrame m #[(.int 16), (.int 34)] 2 = mkF m 0 #[.val (.int 16), .val (.int 34)] [] := by first | (simp [entryFrame, mkF, argsToLocals, Value.category]; done) | rfl
theorem rm40f (l : Launch) (Z : State) (a0 : Array Value) (hw : ∀ d ∈ tables_1, d.before a0 Z = true) (ws : List Jvm.Cond)  (h0 : Heap) (n0 : Nat) (O0 : Old Z n0 h0) :
    own_C l Z (⟨"java/lang/Math", "min", "(II)I"⟩ : MethodName) jdk_29_method_69_code 2 (some .int) ws ({ frames := 0, cells := 0, slots := 0, locals := 0 } : Room) #[(.int 16), (.int 34)] h0 (Q40f Z  h0 n0) := by
  refine own_intro (Jvm.Free.JP.mathPlain rfl (by decide +kernel)) fun p e s m below meth c s₁ hx hby hml hown hnm hZ e0 hret X0 => ?_
  have N0 := Fr.nil n0
  have Z0 : n0 ≤ h0.size := O0.1 ▸ O0.2.1
  refine ⟨s₁, _, _, _, some (.int 16), X0, by decide, by decide, nofun, ?_, fun fs hr => castTop (ef_40__16___Int32____34___Int32__ m ) ?_⟩
  · show Q40f Z  h0 n0 _ s₁.heap _
    rw [e0]
    exact ⟨rfl, N0, rfl⟩
  · show Steps p.tables e below (s₁.setTop (mkF m 0 #[.val (.int 16), .val (.int 34)] [])) _
    refine XS.iloadN X0.here hx rfl (d40 hby 0 rfl) rfl ?_
    refine XS.iloadN X0.here hx rfl (d40 hby 1 rfl) rfl ?_
    refine XS.icmpNo X0.here hx rfl (d40 hby 2 rfl) rfl (flt (by decide : ¬ ((34 : Int32) < (16 : Int32)))).2.2.1 ?_
    refine XS.iloadN X0.here hx rfl (d40 hby 5 rfl) rfl ?_
    refine XS.goto X0.here hx rfl (pc0 := 6) (pc' := 10) rfl (d40 hby 6 rfl) (by decide) (by decide) ?_
    exact own_retI X0 hx hret (d40 hby 4 rfl) hr
def own_L49 : List (Nat × Instr × Nat) := [(0, .iload_n 1, 1), (1, .aload_n 0, 1), (2, .arraylength, 1), (3, .if_icmp .ne 11, 3), (14, .iload_n 1, 1), (15, .newarray .byte, 2), (17, .astore_n 2, 1), (18, .aload_n 0, 1), (19, .iconst 0, 1), (20, .aload_n 2, 1), (21, .iconst 0, 1), (22, .aload_n 0, 1), (23, .arraylength, 1), (24, .iload_n 1, 1), (25, .invokestatic 304, 3), (28, .invokestatic 150, 3), (31, .aload_n 2, 1), (32, .areturn, 1)]
theorem own_K49 : ∀ x ∈ own_L49, decode jdk_65_method_121_code x.1 = .ok x.2 := by decide +kernel
theorem d49 {c : Code} (hby : c.code = jdk_65_method_121_code) (i : Nat) {k n : Nat} {a : Instr} (h : own_L49[i]? = some (k, a, n)) : decode c.code k = .ok (a, n) := own_dL own_K49 hby h
def Q49 (Z : State) (a1 : Addr) (k8 : ClassId) (vs us9 : List Value) (h0 : Heap) (n0 : Nat) (v : Option Value) (h : Heap) (L : List Loc) : Prop := ∃ b3 : Addr, ∃ k3 : ClassId, v = some (.ref b3) ∧ Fr n0 L ∧ Keep h0 h [] ∧ h0.size ≤ b3 ∧ Exa Z h b3 "[B" ∧ Arv Z h b3 k3 .byte (34 : Int32) (own_cpy [(.int 0), (.int 0), (.int 0), (.int 0), (.int 0), (.int 0), (.int 0), (.int 0), (.int 0), (.int 0), (.int 0), (.int 0), (.int 0), (.int 0), (.int 0), (.int 0), (.int 0), (.int 0), (.int 0), (.int 0), (.int 0), (.int 0), (.int 0), (.int 0), (.int 0), (.int 0), (.int 0), (.int 0), (.int 0), (.int 0), (.int 0), (.int 0), (.int 0), (.int 0)] ((0 : Int32)).toNatClampNeg us9 ((16 : Int32)).toNatClampNeg) (.int 0)
theorem ef_49a__34___Int32__ (m : MethodId) (x0 : Addr) : entryFrame m #[(.ref x0), (.int 34)] 3 = mkF m 0 #[.val (.ref x0), .val (.int 34), .unset] [] := by first | (simp [entryFrame, mkF, argsToLocals, Value.category]; done) | rfl
theorem pnc_java_util_Arrays : plainName "java/util/Arrays" = true := by first | (simp [plainName, overriddenIn]; done) | decide +kernel
theorem rm49 (l : Launch) (Z : State) (a0 : Array Value) (hw : ∀ d ∈ tables_1, d.before a0 Z = true) (ws : List Jvm.Cond) (a1 : Addr) (k8 : ClassId) (vs us9 : List Value) (h0 : Heap) (n0 : Nat) (O0 : Old Z n0 h0) (HV_a1 : Arv Z h0 a1 k8 .byte (16 : Int32) vs (.int 0)) (hus28 : us9 = (List.range ((16 : Int32)).toNatClampNeg).map fun i => vs.getD (((0 : Int32)).toNatClampNeg + i) (.int 0)) :
    own_C l Z (⟨"java/util/Arrays", "copyOf", "([BI)[B"⟩ : MethodName) jdk_65_method_121_code 3 (some (.array .byte)) ws ({ frames := 1, cells := 1, slots := 34, locals := 18 } : Room) #[(.ref a1), (.int 34)] h0 (Q49 Z a1 k8 vs us9 h0 n0) := by
  refine own_intro (plainFor_of_name pnc_java_util_Arrays) fun p e s m below meth c s₁ hx hby hml hown hnm hZ e0 hret X0 => ?_
  have N0 := Fr.nil n0
  have Z0 : n0 ≤ h0.size := O0.1 ▸ O0.2.1
  obtain ⟨cl2, Ar2, q2, S2, Nn2, Hh2, G2⟩ := id HV_a1
  obtain ⟨T3, h3, k3, X3, e3, E3, A3, B3, st3⟩ := newPE X0 hx hZ (own_w hw 20 rfl) e0 (g := (mkF m 15 #[.val (.ref a1), .val (.int 34), .unset] [(.int 34)])) rfl (d49 hby 5 rfl) rfl (by decide) (cap := 34) (by decide) (by decide) (by decide) (by decide) (ad := "[B") (by decide)
  obtain ⟨b3, g3⟩ : ∃ z, z = h0.size := ⟨_, rfl⟩
  rw [← g3] at A3 B3 st3
  have g_b3 : n0 ≤ b3 := Nat.le_trans (Nat.le_trans Z0 (Keep.refl h0 []).1) (Nat.le_of_eq g3.symm)
  have sz_b3 : h0.size ≤ b3 := Nat.le_trans (Keep.refl h0 []).1 (Nat.le_of_eq g3.symm)
  have K4 : Keep h0 h3 [] := (Keep.refl h0 []).ext E3
  have O5 : Old Z n0 h3 := O0.ext E3
  have V3 : Arv Z h3 b3 k3 .byte (34 : Int32) [(.int 0), (.int 0), (.int 0), (.int 0), (.int 0), (.int 0), (.int 0), (.int 0), (.int 0), (.int 0), (.int 0), (.int 0), (.int 0), (.int 0), (.int 0), (.int 0), (.int 0), (.int 0), (.int 0), (.int 0), (.int 0), (.int 0), (.int 0), (.int 0), (.int 0), (.int 0), (.int 0), (.int 0), (.int 0), (.int 0), (.int 0), (.int 0), (.int 0), (.int 0)] (.int 0) := (Arv.new A3 (by decide)).pad (pad_rep [] (.int 0) 34)
  replace X3 := X3.more (cells' := 1) (slots' := 34) (by decide) (by decide)
  have f6 := (HV_a1.ext E3)
  obtain ⟨cl7, Ar7, q7, S7, Nn7, Hh7, G7⟩ := id f6
  obtain ⟨vr8, _, ⟨T8, L8, k8, n8⟩, -, X8, ⟨Lc8, hQ8, l8, y8, z8⟩, st8⟩ := Jvm.LawKit.callS X3 hx (y := (⟨"java/lang/Math", "min", "(II)I"⟩ : MethodName)) hown (mvT hZ (own_w hw 213 rfl)) (mvT hZ (own_w hw 214 rfl)) (mvT hZ (own_w hw 215 rfl)) (mvT hZ (own_w hw 216 rfl)) (by decide) (backOf (W := 4) (rm40f l Z a0 hw [] h3 n0 O5) hZ (own_w hw 216 rfl) (own_w hw 215 rfl) (by decide) (by decide)) (g := (mkF m 25 #[.val (.ref a1), .val (.int 34), .val (.ref b3)] [(.int 34), (.int 16), (.int 0), (.ref b3), (.int 0), (.ref a1)])) rfl (by rw [hml]; rfl) (argsL := [(.int 16), (.int 34)]) (rest := [(.int 0), (.ref b3), (.int 0), (.ref a1)]) (lenOf pd_12 rfl) rfl (by show 2 * 0 + _ ≤ _; exact Nat.le_of_eq rfl) (d49 hby 14 rfl) (fun _ _ => ⟨rfl, e3, (by decide : 1 + 0 ≤ _), (by decide : 34 + 0 ≤ _)⟩)
  dsimp only [Pt.U, Pt.locs, Pt.cells, Pt.slots] at X8 l8 y8 z8 st8 hQ8
  subst l8 y8 z8
  obtain ⟨rfl, N8q, e8⟩ := hQ8
  have N8 := Fr.app N0 N8q
  replace X8 := X8.more (cells' := 1) (slots' := 34) (by decide) (by decide)
  obtain ⟨T10, h10, L10, X10, e10, N10, Kc10, V10, st10⟩ := cpA X8 hx hZ hown (own_w hw 217 rfl) (own_w hw 154 rfl) (own_w hw 152 rfl) (own_w hw 153 rfl) e8 f6 V3 (us := us9) (Or.inl ⟨rfl, rfl⟩) (sp := (0 : Int32)) (dp := (0 : Int32)) (nn := (16 : Int32)) (by decide : ¬ ((0 : Int32) < (0 : Int32))) (by decide : ¬ ((0 : Int32) < (0 : Int32))) (by decide : ¬ ((16 : Int32) < (0 : Int32))) (by decide : ((0 : Int32)).toNatClampNeg + ((16 : Int32)).toNatClampNeg ≤ ((16 : Int32)).toNatClampNeg) (by decide : ((0 : Int32)).toNatClampNeg + ((16 : Int32)).toNatClampNeg ≤ ((34 : Int32)).toNatClampNeg) hus28 (by decide : ((0 : Int32)).toNatClampNeg + ((16 : Int32)).toNatClampNeg ≤ [(.int 0), (.int 0), (.int 0), (.int 0), (.int 0), (.int 0), (.int 0), (.int 0), (.int 0), (.int 0), (.int 0), (.int 0), (.int 0), (.int 0), (.int 0), (.int 0), (.int 0), (.int 0), (.int 0), (.int 0), (.int 0), (.int 0), (.int 0), (.int 0), (.int 0), (.int 0), (.int 0), (.int 0), (.int 0), (.int 0), (.int 0), (.int 0), (.int 0), (.int 0)].length) N8 g_b3 (g := (mkF m 28 #[.val (.ref a1), .val (.int 34), .val (.ref b3)] [(.int 16), (.int 0), (.ref b3), (.int 0), (.ref a1)])) rfl (by rw [hml]; rfl) (rest := []) rfl (d49 hby 15 rfl) (by decide) (W := 0) (by show 2 * 0 + _ ≤ _; exact Nat.le_of_eq rfl) (by decide)
  have K11 : Keep h0 h10 [] := K4.trans Kc10 (allS (Or.inr sz_b3) all0)
  have O12 : Old Z n0 h10 := O5.keep Kc10 (allS g_b3 all0)
  have Vc10 : Arv Z h10 b3 k3 .byte (34 : Int32) (own_cpy [(.int 0), (.int 0), (.int 0), (.int 0), (.int 0), (.int 0), (.int 0), (.int 0), (.int 0), (.int 0), (.int 0), (.int 0), (.int 0), (.int 0), (.int 0), (.int 0), (.int 0), (.int 0), (.int 0), (.int 0), (.int 0), (.int 0), (.int 0), (.int 0), (.int 0), (.int 0), (.int 0), (.int 0), (.int 0), (.int 0), (.int 0), (.int 0), (.int 0), (.int 0)] ((0 : Int32)).toNatClampNeg us9 ((16 : Int32)).toNatClampNeg) (.int 0) := V10
  have f13 := (B3.keep Kc10)
  refine ⟨T10, _, _, _, some (.ref b3), X10, by decide, by decide, nofun, ?_, fun fs hr => castTop (ef_49a__34___Int32__ m a1) ?_⟩
  · show Q49 Z a1 k8 vs us9 h0 n0 _ T10.heap _
    rw [e10]
    exact ⟨b3, k3, rfl, N10, K11, sz_b3, f13, Vc10⟩
  · show Steps p.tables e below (s₁.setTop (mkF m 0 #[.val (.ref a1), .val (.int 34), .unset] [])) _
    refine XS.iloadN X0.here hx rfl (d49 hby 0 rfl) rfl ?_
    refine XS.aloadN X0.here hx rfl (d49 hby 1 rfl) rfl rfl ?_
    show Steps p.tables e below (s₁.setTop (mkF m 2 #[.val (.ref a1), .val (.int 34), .unset] [(.ref a1), (.int 34)])) _
    refine X0.arraylength hx (by rw [e0]; exact Ar2.1) (State.isArrayOf_alike hZ.alike Ar2.2.1) (g := (mkF m 2 #[.val (.ref a1), .val (.int 34), .unset] [(.ref a1), (.int 34)])) rfl rfl (d49 hby 2 rfl) _ ?_
    rw [len_of S2 Nn2]
    refine XS.icmpYes X0.here hx rfl (pc0 := 3) (pc' := 14) rfl (d49 hby 3 rfl) rfl (feq (by decide : ¬ ((34 : Int32) = (16 : Int32)))).2 (by decide) (by decide) ?_
    refine XS.iloadN X0.here hx rfl (d49 hby 4 rfl) rfl ?_
    refine st3 _ ?_
    refine XS.astoreN X3.here hx rfl (d49 hby 6 rfl) rfl rfl (l' := #[.val (.ref a1), .val (.int 34), .val (.ref b3)]) rfl ?_
    refine XS.aloadN X3.here hx rfl (d49 hby 7 rfl) rfl rfl ?_
    refine XS.iconst X3.here hx rfl (d49 hby 8 rfl) ?_
    refine XS.aloadN X3.here hx rfl (d49 hby 9 rfl) rfl rfl ?_
    refine XS.iconst X3.here hx rfl (d49 hby 10 rfl) ?_
    refine XS.aloadN X3.here hx rfl (d49 hby 11 rfl) rfl rfl ?_
    show Steps p.tables e below (T3.setTop (mkF m 23 #[.val (.ref a1), .val (.int 34), .val (.ref b3)] [(.ref a1), (.int 0), (.ref b3), (.int 0), (.ref a1)])) _
    refine X3.arraylength hx (by rw [e3]; exact Ar7.1) (State.isArrayOf_alike hZ.alike Ar7.2.1) (g := (mkF m 23 #[.val (.ref a1), .val (.int 34), .val (.ref b3)] [(.ref a1), (.int 0), (.ref b3), (.int 0), (.ref a1)])) rfl rfl (d49 hby 12 rfl) _ ?_
    rw [len_of S7 Nn7]
    refine XS.iloadN X3.here hx rfl (d49 hby 13 rfl) rfl ?_
    refine st8 _ ?_
    refine st10 _ ?_
    refine XS.aloadN X10.here hx rfl (d49 hby 16 rfl) rfl rfl ?_
    exact own_retR X10 hx hret rfl rfl (d49 hby 17 rfl) hr
def Q49g (Z : State) (a1 : Addr) (k8 : ClassId) (cs : List Int32) (h0 : Heap) (n0 : Nat) (v : Option Value) (h : Heap) (L : List Loc) : Prop := ∃ b3 : Addr, ∃ k3 : ClassId, v = some (.ref b3) ∧ Fr n0 L ∧ Keep h0 h [] ∧ h0.size ≤ b3 ∧ Exa Z h b3 "[B" ∧ Arv Z h b3 k3 .byte (34 : Int32) (own_pad cs (34 : Int32)) (.int 0)
theorem rm49g (l : Launch) (Z : State) (a0 : Array Value) (hw : ∀ d ∈ tables_1, d.before a0 Z = true) (ws : List Jvm.Cond) (a1 : Addr) (k8 : ClassId) (cs : List Int32) (h0 : Heap) (n0 : Nat) (O0 : Old Z n0 h0) (HV_a1 : Arv Z h0 a1 k8 .byte (16 : Int32) (own_pad cs (16 : Int32)) (.int 0)) (h16 : cs.length ≤ 16) :
    own_C l Z (⟨"java/util/Arrays", "copyOf", "([BI)[B"⟩ : MethodName) jdk_65_method_121_code 3 (some (.array .byte)) ws ({ frames := 1, cells := 1, slots := 34, locals := 18 } : Room) #[(.ref a1), (.int 34)] h0 (Q49g Z a1 k8 cs h0 n0) := by
  have q := rm49 l Z a0 hw ws a1 k8 (own_pad cs (16 : Int32)) (own_pad cs (16 : Int32)) h0 n0 O0 HV_a1 (own_rng _ 16 (own_padl cs 16 h16) _)
  unfold Q49 at q
  rw [show own_cpy [(.int 0), (.int 0), (.int 0), (.int 0), (.int 0), (.int 0), (.int 0), (.int 0), (.int 0), (.int 0), (.int 0), (.int 0), (.int 0), (.int 0), (.int 0), (.int 0), (.int 0), (.int 0), (.int 0), (.int 0), (.int 0), (.int 0), (.int 0), (.int 0), (.int 0), (.int 0), (.int 0), (.int 0), (.int 0), (.int 0), (.int 0), (.int 0), (.int 0), (.int 0)] ((0 : Int32)).toNatClampNeg (own_pad cs (16 : Int32)) ((16 : Int32)).toNatClampNeg = own_pad cs (34 : Int32) from own_grow cs h16] at q
  exact q
theorem pd_8 : parseMethodDescriptor "(I)I" = some ⟨[.int], some .int⟩ := by decide +kernel
theorem pd_30 : parseMethodDescriptor "([BI)[B" = some ⟨[(.array .byte), .int], some (.array .byte)⟩ := by decide +kernel
def Q221 (Z : State) (a1 : Addr) (p2 : Int32) (t : Addr) (k8 : ClassId) (cs : List Int32) (kc : Int32) (h0 : Heap) (n0 : Nat) (v : Option Value) (h : Heap) (L : List Loc) : Prop := ∃ b10 : Addr, ∃ k11 : ClassId, v = none ∧ Fr n0 L ∧ Keep h0 h [a1] ∧ h0.size ≤ b10 ∧ Exa Z h a1 "java/lang/StringBuilder" ∧ Fld Z h a1 "java/lang/AbstractStringBuilder" "coder" "B" (.int 0) ∧ Fld Z h a1 "java/lang/AbstractStringBuilder" "count" "I" (.int kc) ∧ Fld Z h a1 "java/lang/AbstractStringBuilder" "value" "[B" (.ref b10) ∧ Exa Z h b10 "[B" ∧ Arv Z h b10 k11 .byte (34 : Int32) (own_pad cs (34 : Int32)) (.int 0)
theorem rm221 (l : Launch) (Z : State) (a0 : Array Value) (hw : ∀ d ∈ tables_1, d.before a0 Z = true) (ws : List Jvm.Cond) (a1 : Addr) (p2 : Int32) (t : Addr) (k8 : ClassId) (cs : List Int32) (kc : Int32) (h0 : Heap) (n0 : Nat) (O0 : Old Z n0 h0) (HE_a1 : Exa Z h0 a1 "java/lang/StringBuilder") (HF_a1_value : Fld Z h0 a1 "java/lang/AbstractStringBuilder" "value" "[B" (.ref t)) (HF_a1_coder : Fld Z h0 a1 "java/lang/AbstractStringBuilder" "coder" "B" (.int 0)) (HF_a1_count : Fld Z h0 a1 "java/lang/AbstractStringBuilder" "count" "I" (.int kc)) (HV_t : Arv Z h0 t k8 .byte (16 : Int32) (own_pad cs (16 : Int32)) (.int 0)) (hc14 : (0 : Int32) < (p2 - (16 : Int32))) (h24_h29_h3_hc2 : ((p2 <<< ((0 : Int32) &&& 31)) - (16 : Int32)) < (18 : Int32)) (h32_h16 : cs.length ≤ 16) (g_a1 : n0 ≤ a1) :
    own_C l Z (⟨"java/lang/AbstractStringBuilder", "ensureCapacityInternal", "(I)V"⟩ : MethodName) jdk_68_method_9_code 3 none ws ({ frames := 3, cells := 1, slots := 34, locals := 48 } : Room) #[(.ref a1), (.int p2)] h0 (Q221 Z a1 p2 t k8 cs kc h0 n0) := by
  refine own_intro (plainFor_of_name pnc_java_lang_AbstractStringBuilder) fun p e s m below meth c s₁ hx hby hml hown hnm hZ e0 hret X0 => ?_
  have N0 := Fr.nil n0
  have Z0 : n0 ≤ h0.size := O0.1 ▸ O0.2.1
  obtain ⟨T3, X3, e3, st3⟩ := getF X0 hx hZ hown (host := "") (Or.inl (own_w hw 109 rfl)) Via.refl e0 HF_a1_value (g := (mkF m 1 #[.val (.ref a1), .val (.int p2), .unset] [(.ref a1)])) rfl rfl (d22 hby 1 rfl)
  obtain ⟨cl4, Ar4, q4, S4, Nn4, Hh4, G4⟩ := id HV_t
  obtain ⟨T5, X5, e5, st5⟩ := getF X3 hx hZ hown (host := "") (Or.inl (own_w hw 111 rfl)) Via.refl e3 HF_a1_coder (g := (mkF m 6 #[.val (.ref a1), .val (.int p2), .unset] [(.ref a1), (.int 16)])) rfl rfl (d22 hby 4 rfl)
  obtain ⟨T6, X6, e6, st6⟩ := getF X5 hx hZ hown (host := "") (Or.inl (own_w hw 109 rfl)) Via.refl e5 HF_a1_value (g := (mkF m 19 #[.val (.ref a1), .val (.int p2), .val (.int 16)] [(.ref a1), (.ref a1)])) rfl rfl (d22 hby 14 rfl)
  obtain ⟨cq7, q7, q7'⟩ := HE_a1.cell
  obtain ⟨vr7, _, ⟨T7, L7, k7, n7⟩, -, X7, ⟨Lc7, hQ7, l7, y7, z7⟩, st7⟩ := X6.privateBack hx (y := (⟨"java/lang/AbstractStringBuilder", "newCapacity", "(I)I"⟩ : MethodName)) hown (mvT hZ (own_w hw 243 rfl)) (mvT hZ (own_w hw 244 rfl)) (own_selP (mvT hZ (own_w hw 244 rfl)) (Cond.privateMethod_at (mvP hZ (own_w hw 245 rfl) (args := #[]))) (mvT hZ (own_w hw 246 rfl)) (by decide)) (Cond.privateMethod_at (mvP hZ (own_w hw 245 rfl) (args := #[]))) (mvT hZ (own_w hw 247 rfl)) (by decide) (backOf (W := 2) (rm46 l Z a0 hw [] a1 p2 t k8 ((own_pad cs (16 : Int32))) h0 n0 O0 HE_a1 HF_a1_value HF_a1_coder HV_t h24_h29_h3_hc2) hZ (own_w hw 247 rfl) (own_w hw 105 rfl) (by decide) (by decide)) (g := (mkF m 24 #[.val (.ref a1), .val (.int p2), .val (.int 16)] [(.int p2), (.ref a1), (.ref t), (.ref a1)])) rfl (by rw [hml]; rfl) (Steps.refl _) (a := a1) (by rw [e6]; exact q7) q7' (argsL := [(.int p2)]) (rest := [(.ref t), (.ref a1)]) (lenOf pd_8 rfl) rfl (by show 2 * 0 + _ ≤ _; exact Nat.le_of_eq rfl) (d22 hby 17 rfl) (fun _ _ => ⟨rfl, e6, (by decide : 0 + 0 ≤ _), (by decide : 0 + 0 ≤ _)⟩)
  dsimp only [Pt.U, Pt.locs, Pt.cells, Pt.slots] at X7 l7 y7 z7 st7 hQ7
  subst l7 y7 z7
  obtain ⟨rfl, N7q, e7⟩ := hQ7
  have N7 := Fr.app N0 N7q
  replace X7 := X7.more (cells' := 0) (slots' := 0) (by decide) (by decide)
  obtain ⟨T8, X8, e8, st8⟩ := getF X7 hx hZ hown (host := "") (Or.inl (own_w hw 111 rfl)) Via.refl e7 HF_a1_coder (g := (mkF m 28 #[.val (.ref a1), .val (.int p2), .val (.int 16)] [(.ref a1), (.int 34), (.ref t), (.ref a1)])) rfl rfl (d22 hby 19 rfl)
  obtain ⟨vr9, _, ⟨T9, L9, k9, n9⟩, -, X9, ⟨Lc9, hQ9, l9, y9, z9⟩, st9⟩ := Jvm.LawKit.callS X8 hx (y := (⟨"java/util/Arrays", "copyOf", "([BI)[B"⟩ : MethodName)) hown (mvT hZ (own_w hw 257 rfl)) (mvT hZ (own_w hw 258 rfl)) (mvT hZ (own_w hw 205 rfl)) (mvT hZ (own_w hw 259 rfl)) (by decide) (backOf (W := 1) (rm49g l Z a0 hw [] t k8 cs h0 n0 O0 HV_t h32_h16) hZ (own_w hw 259 rfl) (own_w hw 205 rfl) (by decide) (by decide)) (g := (mkF m 32 #[.val (.ref a1), .val (.int p2), .val (.int 16)] [(.int 34), (.ref t), (.ref a1)])) rfl (by rw [hml]; rfl) (argsL := [(.ref t), (.int 34)]) (rest := [(.ref a1)]) (lenOf pd_30 rfl) rfl (by show 2 * 0 + _ ≤ _; exact Nat.le_of_eq rfl) (d22 hby 21 rfl) (fun _ _ => ⟨rfl, e8, (by decide : 0 + 1 ≤ _), (by decide : 0 + 34 ≤ _)⟩)
  dsimp only [Pt.U, Pt.locs, Pt.cells, Pt.slots] at X9 l9 y9 z9 st9 hQ9
  subst l9 y9 z9
  obtain ⟨b10, k11, rfl, N9q, K9, Y9_z0, Y9_0, Y9_1⟩ := hQ9
  have N9 := Fr.app N7 N9q
  replace X9 := X9.more (cells' := 1) (slots' := 34) (by decide) (by decide)
  have g_b10 : n0 ≤ b10 := Nat.le_trans (Nat.le_trans Z0 (Keep.refl h0 [a1]).1) Y9_z0
  have sz_b10 : h0.size ≤ b10 := Nat.le_trans (Keep.refl h0 [a1]).1 Y9_z0
  have K12 : Keep h0 T9.heap [a1] := (Keep.refl h0 [a1]).trans K9 all0
  have O13 : Old Z n0 T9.heap := O0.keep K9 all0
  have f14 := (HE_a1.keep K9)
  have f15 := (HF_a1_value.keep K9 nin0)
  obtain ⟨T16, h16, X16, e16, W16, st16⟩ := putF X9 hx hZ hown (host := "") (Or.inl (own_w hw 109 rfl)) Via.refl rfl f15 f14 (Or.inl (own_w hw 110 rfl)) (own_w hw 96 rfl) (ty := (.array .byte)) (by decide) rfl rfl (g := (mkF m 35 #[.val (.ref a1), .val (.int p2), .val (.int 16)] [(.ref b10), (.ref a1)])) rfl rfl (d22 hby 22 rfl)
  have N16 := Fr.snoc X16 N9 g_a1
  have K17 : Keep h0 h16 [a1] := K12.wr W16 (Or.inl (List.mem_of_getElem? (i := 0) rfl))
  have O18 : Old Z n0 h16 := O13.wr W16 g_a1
  have Fw16 : Fld Z h16 a1 "java/lang/AbstractStringBuilder" "value" "[B" (.ref b10) := f15.same W16
  have f19 := (f14.wr W16)
  have f20 := ((HF_a1_coder.keep K9 nin0).other W16 (Or.inr (slot_ne (Or.inl (own_w hw 112 rfl)) (Or.inl (own_w hw 110 rfl)) (by decide) (t := .byte) (t' := (.array .byte)) (by decide) (by decide))))
  have f21 := ((HF_a1_count.keep K9 nin0).other W16 (Or.inr (slot_ne (Or.inl (own_w hw 129 rfl)) (Or.inl (own_w hw 110 rfl)) (by decide) (t := .int) (t' := (.array .byte)) (by decide) (by decide))))
  have f22 := (Y9_0.wr W16)
  have f23 := (Y9_1.other W16 (Ne.symm (Nat.ne_of_lt (Nat.lt_of_lt_of_le HE_a1.lt Y9_z0))))
  refine ⟨T16, _, _, _, none, X16, by decide, by decide, fun _ => rfl, ?_, fun fs hr => castTop (ef_22 m a1 p2) ?_⟩
  · show Q221 Z a1 p2 t k8 cs kc h0 n0 _ T16.heap _
    rw [e16]
    exact ⟨b10, k11, rfl, N16, K17, sz_b10, f19, f20, f21, Fw16, f22, f23⟩
  · show Steps p.tables e below (s₁.setTop (mkF m 0 #[.val (.ref a1), .val (.int p2), .unset] [])) _
    refine XS.aloadN X0.here hx rfl (d22 hby 0 rfl) rfl rfl ?_
    refine st3 _ ?_
    show Steps p.tables e below (T3.setTop (mkF m 4 #[.val (.ref a1), .val (.int p2), .unset] [(.ref t)])) _
    refine X3.arraylength hx (by rw [e3]; exact Ar4.1) (State.isArrayOf_alike hZ.alike Ar4.2.1) (g := (mkF m 4 #[.val (.ref a1), .val (.int p2), .unset] [(.ref t)])) rfl rfl (d22 hby 2 rfl) _ ?_
    rw [len_of S4 Nn4]
    refine XS.aloadN X3.here hx rfl (d22 hby 3 rfl) rfl rfl ?_
    refine st5 _ ?_
    refine XS.ishr X5.here hx rfl (d22 hby 5 rfl) rfl ?_
    refine XS.istoreN X5.here hx rfl (d22 hby 6 rfl) rfl (l' := #[.val (.ref a1), .val (.int p2), .val (.int 16)]) rfl ?_
    refine XS.iloadN X5.here hx rfl (d22 hby 7 rfl) rfl ?_
    refine XS.iloadN X5.here hx rfl (d22 hby 8 rfl) rfl ?_
    refine XS.isub X5.here hx rfl (d22 hby 9 rfl) rfl ?_
    refine XS.ifNo X5.here hx rfl (d22 hby 10 rfl) rfl ((if0 _ _).trans (tlt hc14).2.2.2) ?_
    show Steps p.tables e below (T5.setTop (mkF m 17 #[.val (.ref a1), .val (.int p2), .val (.int 16)] [])) _
    refine XS.aloadN X5.here hx rfl (d22 hby 12 rfl) rfl rfl ?_
    refine XS.aloadN X5.here hx rfl (d22 hby 13 rfl) rfl rfl ?_
    refine st6 _ ?_
    refine XS.aloadN X6.here hx rfl (d22 hby 15 rfl) rfl rfl ?_
    refine XS.iloadN X6.here hx rfl (d22 hby 16 rfl) rfl ?_
    refine st7.trans ?_
    refine XS.aloadN X7.here hx rfl (d22 hby 18 rfl) rfl rfl ?_
    refine st8 _ ?_
    refine XS.ishl X8.here hx rfl (d22 hby 20 rfl) rfl ?_
    refine st9 _ ?_
    refine st16 _ ?_
    exact X16.returnOut hx hret (d22 hby 11 rfl) hr
def own_L20 : List (Nat × Instr × Nat) := [(0, .aload_n 1, 1), (1, .ifnonnull 8, 3), (9, .aload_n 1, 1), (10, .invokevirtual 32, 3), (13, .istore_n 2, 1), (14, .aload_n 0, 1), (15, .aload_n 0, 1), (16, .getfield 79, 3), (19, .iload_n 2, 1), (20, .iadd, 1), (21, .invokevirtual 100, 3), (24, .aload_n 0, 1), (25, .aload_n 0, 1), (26, .getfield 79, 3), (29, .aload_n 1, 1), (30, .invokevirtual 208, 3), (33, .aload_n 0, 1), (34, .dup, 1), (35, .getfield 79, 3), (38, .iload_n 2, 1), (39, .iadd, 1), (40, .putfield 79, 3), (43, .aload_n 0, 1), (44, .areturn, 1)]
theorem own_K20 : ∀ x ∈ own_L20, decode jdk_68_method_22_code x.1 = .ok x.2 := by decide +kernel
theorem d20 {c : Code} (hby : c.code = jdk_68_method_22_code) (i : Nat) {k n : Nat} {a : Instr} (h : own_L20[i]? = some (k, a, n)) : decode c.code k = .ok (a, n) := own_dL own_K20 hby h
theorem pd_1 : parseMethodDescriptor "()I" = some ⟨[], some .int⟩ := by decide +kernel
theorem pd_11 : parseMethodDescriptor "(I)V" = some ⟨[.int], none⟩ := by decide +kernel
theorem pd_17 : parseMethodDescriptor "(ILjava/lang/String;)V" = some ⟨[.int, (.object "java/lang/String")], none⟩ := by decide +kernel
def Q200 (Z : State) (a1 a2 t t0 : Addr) (k8 k9 : ClassId) (zz kc zC : Int32) (cs ds : List Int32) (h0 : Heap) (n0 : Nat) (v : Option Value) (h : Heap) (L : List Loc) : Prop := v = some (.ref a1) ∧ Fr n0 L ∧ Keep h0 h [t, a1] ∧ Exa Z h t "[B" ∧ Arv Z h t k8 .byte zz (own_pad (cs ++ ds) zz) (.int 0) ∧ Exa Z h a1 "java/lang/StringBuilder" ∧ Fld Z h a1 "java/lang/AbstractStringBuilder" "coder" "B" (.int 0) ∧ Fld Z h a1 "java/lang/AbstractStringBuilder" "count" "I" (.int (kc + (own_n ds))) ∧ Fld Z h a1 "java/lang/AbstractStringBuilder" "value" "[B" (.ref t)
theorem ef_20 (m : MethodId) (x0 : Addr) (x1 : Addr) : entryFrame m #[(.ref x0), (.ref x1)] 3 = mkF m 0 #[.val (.ref x0), .val (.ref x1), .unset] [] := by first | (simp [entryFrame, mkF, argsToLocals, Value.category]; done) | rfl
theorem rm200 (l : Launch) (Z : State) (a0 : Array Value) (hw : ∀ d ∈ tables_1, d.before a0 Z = true) (ws : List Jvm.Cond) (a1 a2 t t0 : Addr) (k8 k9 : ClassId) (zz kc zC : Int32) (cs ds : List Int32) (h0 : Heap) (n0 : Nat) (O0 : Old Z n0 h0) (HE_a1 : Exa Z h0 a1 "java/lang/StringBuilder") (HE_t : Exa Z h0 t "[B") (HF_a1_value : Fld Z h0 a1 "java/lang/AbstractStringBuilder" "value" "[B" (.ref t)) (HF_a1_coder : Fld Z h0 a1 "java/lang/AbstractStringBuilder" "coder" "B" (.int 0)) (HF_a1_count : Fld Z h0 a1 "java/lang/AbstractStringBuilder" "count" "I" (.int kc)) (HV_t : Arv Z h0 t k8 .byte zz (own_pad cs zz) (.int 0)) (HE_a2 : Exa Z h0 a2 "java/lang/String") (HF_a2_value : Fld Z h0 a2 "java/lang/String" "value" "[B" (.ref t0)) (HF_a2_coder : Fld Z h0 a2 "java/lang/String" "coder" "B" (.int 0)) (HV_t0 : Arv Z h0 t0 k9 .byte (own_n ds) (own_by ds) (.int 0)) (S_COMPACT_STRINGS : Sta Z Z.heap "java/lang/String" "COMPACT_STRINGS" "Z" (.int zC)) (h10_h6_hc3 : ¬ (zC = (0 : Int32))) (h21_hc14 : ¬ ((0 : Int32) < ((kc + (own_n ds)) - (zz >>> ((0 : Int32) &&& 31))))) (g_t : n0 ≤ t) (h30_h15_hkc : kc = (own_n cs)) (h30_h15_h40 : cs.length + ds.length ≤ 40) (h30_h15_hfit : cs.length + ds.length ≤ (zz).toNatClampNeg) (ne_a1_t : a1 ≠ t) (g_a1 : n0 ≤ a1) :
    own_C l Z (⟨"java/lang/AbstractStringBuilder", "append", "(Ljava/lang/String;)Ljava/lang/AbstractStringBuilder;"⟩ : MethodName) jdk_68_method_22_code 3 (some (.object "java/lang/AbstractStringBuilder")) ws ({ frames := 7, cells := 1, slots := 34, locals := 110 } : Room) #[(.ref a1), (.ref a2)] h0 (Q200 Z a1 a2 t t0 k8 k9 zz kc zC cs ds h0 n0) := by
  refine own_intro (plainFor_of_name pnc_java_lang_AbstractStringBuilder) fun p e s m below meth c s₁ hx hby hml hown hnm hZ e0 hret X0 => ?_
  have N0 := Fr.nil n0
  have Z0 : n0 ≤ h0.size := O0.1 ▸ O0.2.1
  obtain ⟨cq3, kq3, q3a, q3b, q3c⟩ := isOf hZ e0 HE_a2
  obtain ⟨vr3, _, ⟨T3, L3, k3, n3⟩, -, X3, ⟨Lc3, hQ3, l3, y3, z3⟩, st3⟩ := X0.virtualBack hx (y := (⟨"java/lang/String", "length", "()I"⟩ : MethodName)) (z := (⟨"java/lang/String", "length", "()I"⟩ : MethodName)) hown (mvT hZ (own_w hw 123 rfl)) (mvT hZ (own_w hw 124 rfl)) (notFace_of_selects (args := #[]) (mvT hZ (own_w hw 126 rfl))) (mvT hZ (own_w hw 126 rfl)) (mvT hZ (own_w hw 125 rfl)) (by decide) (backOf (W := 0) (rm21 l Z a0 hw [] a2 t0 k9 ((own_n ds)) ((own_by ds)) zC h0 n0 O0 HE_a2 HV_t0 HF_a2_value S_COMPACT_STRINGS HF_a2_coder h10_h6_hc3) hZ (own_w hw 127 rfl) (own_w hw 3 rfl) (by decide) (by decide)) q3a q3c (g := (mkF m 10 #[.val (.ref a1), .val (.ref a2), .unset] [(.ref a2)])) rfl (by rw [hml]; rfl) (Steps.refl _) (argsL := []) (rest := []) (lenOf pd_1 rfl) rfl (by show 2 * 0 + _ ≤ _; exact Nat.le_of_eq rfl) (d20 hby 3 rfl) (fun _ _ => ⟨rfl, e0, (by decide : 0 + 0 ≤ _), (by decide : 0 + 0 ≤ _)⟩)
  dsimp only [Pt.U, Pt.locs, Pt.cells, Pt.slots] at X3 l3 y3 z3 st3 hQ3
  subst l3 y3 z3
  obtain ⟨rfl, N3q, e3⟩ := hQ3
  have N3 := Fr.app N0 N3q
  replace X3 := X3.more (cells' := 0) (slots' := 0) (by decide) (by decide)
  obtain ⟨T4, X4, e4, st4⟩ := getF X3 hx hZ hown (host := "") (Or.inl (own_w hw 128 rfl)) Via.refl e3 HF_a1_count (g := (mkF m 16 #[.val (.ref a1), .val (.ref a2), .val (.int (own_n ds))] [(.ref a1), (.ref a1)])) rfl rfl (d20 hby 7 rfl)
  obtain ⟨cq5, q5, q5'⟩ := HE_a1.cell
  obtain ⟨vr5, _, ⟨T5, L5, k5, n5⟩, -, X5, ⟨Lc5, hQ5, l5, y5, z5⟩, st5⟩ := X4.privateBack hx (y := (⟨"java/lang/AbstractStringBuilder", "ensureCapacityInternal", "(I)V"⟩ : MethodName)) hown (mvT hZ (own_w hw 130 rfl)) (mvT hZ (own_w hw 131 rfl)) (own_selP (mvT hZ (own_w hw 131 rfl)) (Cond.privateMethod_at (mvP hZ (own_w hw 132 rfl) (args := #[]))) (mvT hZ (own_w hw 133 rfl)) (by decide)) (Cond.privateMethod_at (mvP hZ (own_w hw 132 rfl) (args := #[]))) (mvT hZ (own_w hw 134 rfl)) (by decide) (backOf (W := 0) (rm220 l Z a0 hw [] a1 ((kc + (own_n ds))) t k8 zz ((own_pad cs zz)) h0 n0 O0 HE_a1 HF_a1_value HF_a1_coder HV_t h21_hc14) hZ (own_w hw 134 rfl) (own_w hw 105 rfl) (by decide) (by decide)) (g := (mkF m 21 #[.val (.ref a1), .val (.ref a2), .val (.int (own_n ds))] [(.int (kc + (own_n ds))), (.ref a1)])) rfl (by rw [hml]; rfl) (Steps.refl _) (a := a1) (by rw [e4]; exact q5) q5' (argsL := [(.int (kc + (own_n ds)))]) (rest := []) (lenOf pd_11 rfl) rfl (by show 2 * 0 + _ ≤ _; exact Nat.le_of_eq rfl) (d20 hby 10 rfl) (fun _ _ => ⟨rfl, e4, (by decide : 0 + 0 ≤ _), (by decide : 0 + 0 ≤ _)⟩)
  dsimp only [Pt.U, Pt.locs, Pt.cells, Pt.slots] at X5 l5 y5 z5 st5 hQ5
  subst l5 y5 z5
  obtain ⟨rfl, N5q, e5⟩ := hQ5
  have N5 := Fr.app N3 N5q
  replace X5 := X5.more (cells' := 0) (slots' := 0) (by decide) (by decide)
  obtain ⟨T6, X6, e6, st6⟩ := getF X5 hx hZ hown (host := "") (Or.inl (own_w hw 128 rfl)) Via.refl e5 HF_a1_count (g := (mkF m 26 #[.val (.ref a1), .val (.ref a2), .val (.int (own_n ds))] [(.ref a1), (.ref a1)])) rfl rfl (d20 hby 13 rfl)
  obtain ⟨cq7, q7, q7'⟩ := HE_a1.cell
  obtain ⟨vr7, _, ⟨T7, L7, k7, n7⟩, -, X7, ⟨Lc7, hQ7, l7, y7, z7⟩, st7⟩ := X6.privateBack hx (y := (⟨"java/lang/AbstractStringBuilder", "putStringAt", "(ILjava/lang/String;)V"⟩ : MethodName)) hown (mvT hZ (own_w hw 135 rfl)) (mvT hZ (own_w hw 136 rfl)) (own_selP (mvT hZ (own_w hw 136 rfl)) (Cond.privateMethod_at (mvP hZ (own_w hw 137 rfl) (args := #[]))) (mvT hZ (own_w hw 138 rfl)) (by decide)) (Cond.privateMethod_at (mvP hZ (own_w hw 137 rfl) (args := #[]))) (mvT hZ (own_w hw 139 rfl)) (by decide) (backOf (W := 0) (rm23 l Z a0 hw [] a1 kc a2 t t0 k8 k9 zz zC cs ds h0 n0 O0 HE_a1 HE_t HF_a1_value HF_a1_coder HV_t HE_a2 HF_a2_value HF_a2_coder HV_t0 S_COMPACT_STRINGS h10_h6_hc3 g_t h30_h15_hkc h30_h15_h40 h30_h15_hfit) hZ (own_w hw 139 rfl) (own_w hw 105 rfl) (by decide) (by decide)) (g := (mkF m 30 #[.val (.ref a1), .val (.ref a2), .val (.int (own_n ds))] [(.ref a2), (.int kc), (.ref a1)])) rfl (by rw [hml]; rfl) (Steps.refl _) (a := a1) (by rw [e6]; exact q7) q7' (argsL := [(.int kc), (.ref a2)]) (rest := []) (lenOf pd_17 rfl) rfl (by show 2 * 0 + _ ≤ _; exact Nat.le_of_eq rfl) (d20 hby 15 rfl) (fun _ _ => ⟨rfl, e6, (by decide : 0 + 0 ≤ _), (by decide : 0 + 0 ≤ _)⟩)
  dsimp only [Pt.U, Pt.locs, Pt.cells, Pt.slots] at X7 l7 y7 z7 st7 hQ7
  subst l7 y7 z7
  obtain ⟨rfl, N7q, K7, Y7_0, Y7_1⟩ := hQ7
  have N7 := Fr.app N5 N7q
  replace X7 := X7.more (cells' := 0) (slots' := 0) (by decide) (by decide)
  have K8 : Keep h0 T7.heap [t, a1] := (Keep.refl h0 [t, a1]).trans K7 (allS (Or.inl (List.mem_of_getElem? (i := 0) rfl)) all0)
  have O9 : Old Z n0 T7.heap := O0.keep K7 (allS g_t all0)
  have f10 := (HF_a1_count.keep K7 (ninS ne_a1_t nin0))
  obtain ⟨T11, X11, e11, st11⟩ := getF X7 hx hZ hown (host := "") (Or.inl (own_w hw 128 rfl)) Via.refl rfl f10 (g := (mkF m 35 #[.val (.ref a1), .val (.ref a2), .val (.int (own_n ds))] [(.ref a1), (.ref a1)])) rfl rfl (d20 hby 18 rfl)
  have f12 := (HE_a1.keep K7)
  obtain ⟨T13, h13, X13, e13, W13, st13⟩ := putF X11 hx hZ hown (host := "") (Or.inl (own_w hw 128 rfl)) Via.refl e11 f10 f12 (Or.inl (own_w hw 129 rfl)) (own_w hw 96 rfl) (ty := .int) (by decide) rfl rfl (g := (mkF m 40 #[.val (.ref a1), .val (.ref a2), .val (.int (own_n ds))] [(.int (kc + (own_n ds))), (.ref a1)])) rfl rfl (d20 hby 21 rfl)
  have N13 := Fr.snoc X13 N7 g_a1
  have K14 : Keep h0 h13 [t, a1] := K8.wr W13 (Or.inl (List.mem_of_getElem? (i := 1) rfl))
  have O15 : Old Z n0 h13 := O9.wr W13 g_a1
  have Fw13 : Fld Z h13 a1 "java/lang/AbstractStringBuilder" "count" "I" (.int (kc + (own_n ds))) := f10.same W13
  have f16 := (Y7_0.wr W13)
  have f17 := (Y7_1.other W13 (Ne.symm ne_a1_t))
  have f18 := (f12.wr W13)
  have f19 := ((HF_a1_coder.keep K7 (ninS ne_a1_t nin0)).other W13 (Or.inr (slot_ne (Or.inl (own_w hw 112 rfl)) (Or.inl (own_w hw 129 rfl)) (by decide) (t := .byte) (t' := .int) (by decide) (by decide))))
  have f20 := ((HF_a1_value.keep K7 (ninS ne_a1_t nin0)).other W13 (Or.inr (slot_ne (Or.inl (own_w hw 110 rfl)) (Or.inl (own_w hw 129 rfl)) (by decide) (t := (.array .byte)) (t' := .int) (by decide) (by decide))))
  refine ⟨T13, _, _, _, some (.ref a1), X13, by decide, by decide, nofun, ?_, fun fs hr => castTop (ef_20 m a1 a2) ?_⟩
  · show Q200 Z a1 a2 t t0 k8 k9 zz kc zC cs ds h0 n0 _ T13.heap _
    rw [e13]
    exact ⟨rfl, N13, K14, f16, f17, f18, f19, Fw13, f20⟩
  · show Steps p.tables e below (s₁.setTop (mkF m 0 #[.val (.ref a1), .val (.ref a2), .unset] [])) _
    refine XS.aloadN X0.here hx rfl (d20 hby 0 rfl) rfl rfl ?_
    refine XS.ifnonnullYes X0.here hx rfl (pc0 := 1) (pc' := 9) rfl (d20 hby 1 rfl) rfl (by decide) (by decide) ?_
    refine XS.aloadN X0.here hx rfl (d20 hby 2 rfl) rfl rfl ?_
    refine st3.trans ?_
    refine XS.istoreN X3.here hx rfl (d20 hby 4 rfl) rfl (l' := #[.val (.ref a1), .val (.ref a2), .val (.int (own_n ds))]) rfl ?_
    refine XS.aloadN X3.here hx rfl (d20 hby 5 rfl) rfl rfl ?_
    refine XS.aloadN X3.here hx rfl (d20 hby 6 rfl) rfl rfl ?_
    refine st4 _ ?_
    refine XS.iloadN X4.here hx rfl (d20 hby 8 rfl) rfl ?_
    refine XS.iadd X4.here hx rfl (d20 hby 9 rfl) rfl ?_
    refine st5.trans ?_
    refine XS.aloadN X5.here hx rfl (d20 hby 11 rfl) rfl rfl ?_
    refine XS.aloadN X5.here hx rfl (d20 hby 12 rfl) rfl rfl ?_
    refine st6 _ ?_
    refine XS.aloadN X6.here hx rfl (d20 hby 14 rfl) rfl rfl ?_
    refine st7.trans ?_
    refine XS.aloadN X7.here hx rfl (d20 hby 16 rfl) rfl rfl ?_
    refine XS.dup X7.here hx rfl (d20 hby 17 rfl) rfl rfl ?_
    refine st11 _ ?_
    refine XS.iloadN X11.here hx rfl (d20 hby 19 rfl) rfl ?_
    refine XS.iadd X11.here hx rfl (d20 hby 20 rfl) rfl ?_
    refine st13 _ ?_
    refine XS.aloadN X13.here hx rfl (d20 hby 22 rfl) rfl rfl ?_
    exact own_retR X13 hx hret rfl rfl (d20 hby 23 rfl) hr
def Q201 (Z : State) (a1 a2 t t0 : Addr) (k8 k9 : ClassId) (kc zC : Int32) (cs ds : List Int32) (h0 : Heap) (n0 : Nat) (v : Option Value) (h : Heap) (L : List Loc) : Prop := ∃ b6 : Addr, ∃ k7 : ClassId, v = some (.ref a1) ∧ Fr n0 L ∧ Keep h0 h [a1] ∧ h0.size ≤ b6 ∧ Exa Z h a1 "java/lang/StringBuilder" ∧ Fld Z h a1 "java/lang/AbstractStringBuilder" "coder" "B" (.int 0) ∧ Fld Z h a1 "java/lang/AbstractStringBuilder" "count" "I" (.int (kc + (own_n ds))) ∧ Fld Z h a1 "java/lang/AbstractStringBuilder" "value" "[B" (.ref b6) ∧ Exa Z h b6 "[B" ∧ Arv Z h b6 k7 .byte (34 : Int32) (own_pad (cs ++ ds) (34 : Int32)) (.int 0)
theorem rm201 (l : Launch) (Z : State) (a0 : Array Value) (hw : ∀ d ∈ tables_1, d.before a0 Z = true) (ws : List Jvm.Cond) (a1 a2 t t0 : Addr) (k8 k9 : ClassId) (kc zC : Int32) (cs ds : List Int32) (h0 : Heap) (n0 : Nat) (O0 : Old Z n0 h0) (HE_a1 : Exa Z h0 a1 "java/lang/StringBuilder") (HE_t : Exa Z h0 t "[B") (HF_a1_value : Fld Z h0 a1 "java/lang/AbstractStringBuilder" "value" "[B" (.ref t)) (HF_a1_coder : Fld Z h0 a1 "java/lang/AbstractStringBuilder" "coder" "B" (.int 0)) (HF_a1_count : Fld Z h0 a1 "java/lang/AbstractStringBuilder" "count" "I" (.int kc)) (HV_t : Arv Z h0 t k8 .byte (16 : Int32) (own_pad cs (16 : Int32)) (.int 0)) (HE_a2 : Exa Z h0 a2 "java/lang/String") (HF_a2_value : Fld Z h0 a2 "java/lang/String" "value" "[B" (.ref t0)) (HF_a2_coder : Fld Z h0 a2 "java/lang/String" "coder" "B" (.int 0)) (HV_t0 : Arv Z h0 t0 k9 .byte (own_n ds) (own_by ds) (.int 0)) (S_COMPACT_STRINGS : Sta Z Z.heap "java/lang/String" "COMPACT_STRINGS" "Z" (.int zC)) (h10_h6_hc3 : ¬ (zC = (0 : Int32))) (h21_hc14 : (0 : Int32) < ((kc + (own_n ds)) - (16 : Int32))) (h21_h24_h29_h3_hc2 : (((kc + (own_n ds)) <<< ((0 : Int32) &&& 31)) - (16 : Int32)) < (18 : Int32)) (h21_h32_h16 : cs.length ≤ 16) (g_a1 : n0 ≤ a1) (ne_a2_a1 : a2 ≠ a1) (ne_t0_a1 : t0 ≠ a1) (h30_h15_hkc : kc = (own_n cs)) (h30_h15_h40 : cs.length + ds.length ≤ 40) (h30_h15_hfit : cs.length + ds.length ≤ ((34 : Int32)).toNatClampNeg) :
    own_C l Z (⟨"java/lang/AbstractStringBuilder", "append", "(Ljava/lang/String;)Ljava/lang/AbstractStringBuilder;"⟩ : MethodName) jdk_68_method_22_code 3 (some (.object "java/lang/AbstractStringBuilder")) ws ({ frames := 7, cells := 1, slots := 34, locals := 110 } : Room) #[(.ref a1), (.ref a2)] h0 (Q201 Z a1 a2 t t0 k8 k9 kc zC cs ds h0 n0) := by
  refine own_intro (plainFor_of_name pnc_java_lang_AbstractStringBuilder) fun p e s m below meth c s₁ hx hby hml hown hnm hZ e0 hret X0 => ?_
  have N0 := Fr.nil n0
  have Z0 : n0 ≤ h0.size := O0.1 ▸ O0.2.1
  obtain ⟨cq3, kq3, q3a, q3b, q3c⟩ := isOf hZ e0 HE_a2
  obtain ⟨vr3, _, ⟨T3, L3, k3, n3⟩, -, X3, ⟨Lc3, hQ3, l3, y3, z3⟩, st3⟩ := X0.virtualBack hx (y := (⟨"java/lang/String", "length", "()I"⟩ : MethodName)) (z := (⟨"java/lang/String", "length", "()I"⟩ : MethodName)) hown (mvT hZ (own_w hw 123 rfl)) (mvT hZ (own_w hw 124 rfl)) (notFace_of_selects (args := #[]) (mvT hZ (own_w hw 126 rfl))) (mvT hZ (own_w hw 126 rfl)) (mvT hZ (own_w hw 125 rfl)) (by decide) (backOf (W := 0) (rm21 l Z a0 hw [] a2 t0 k9 ((own_n ds)) ((own_by ds)) zC h0 n0 O0 HE_a2 HV_t0 HF_a2_value S_COMPACT_STRINGS HF_a2_coder h10_h6_hc3) hZ (own_w hw 127 rfl) (own_w hw 3 rfl) (by decide) (by decide)) q3a q3c (g := (mkF m 10 #[.val (.ref a1), .val (.ref a2), .unset] [(.ref a2)])) rfl (by rw [hml]; rfl) (Steps.refl _) (argsL := []) (rest := []) (lenOf pd_1 rfl) rfl (by show 2 * 0 + _ ≤ _; exact Nat.le_of_eq rfl) (d20 hby 3 rfl) (fun _ _ => ⟨rfl, e0, (by decide : 0 + 0 ≤ _), (by decide : 0 + 0 ≤ _)⟩)
  dsimp only [Pt.U, Pt.locs, Pt.cells, Pt.slots] at X3 l3 y3 z3 st3 hQ3
  subst l3 y3 z3
  obtain ⟨rfl, N3q, e3⟩ := hQ3
  have N3 := Fr.app N0 N3q
  replace X3 := X3.more (cells' := 0) (slots' := 0) (by decide) (by decide)
  obtain ⟨T4, X4, e4, st4⟩ := getF X3 hx hZ hown (host := "") (Or.inl (own_w hw 128 rfl)) Via.refl e3 HF_a1_count (g := (mkF m 16 #[.val (.ref a1), .val (.ref a2), .val (.int (own_n ds))] [(.ref a1), (.ref a1)])) rfl rfl (d20 hby 7 rfl)
  obtain ⟨cq5, q5, q5'⟩ := HE_a1.cell
  obtain ⟨vr5, _, ⟨T5, L5, k5, n5⟩, -, X5, ⟨Lc5, hQ5, l5, y5, z5⟩, st5⟩ := X4.privateBack hx (y := (⟨"java/lang/AbstractStringBuilder", "ensureCapacityInternal", "(I)V"⟩ : MethodName)) hown (mvT hZ (own_w hw 130 rfl)) (mvT hZ (own_w hw 131 rfl)) (own_selP (mvT hZ (own_w hw 131 rfl)) (Cond.privateMethod_at (mvP hZ (own_w hw 132 rfl) (args := #[]))) (mvT hZ (own_w hw 133 rfl)) (by decide)) (Cond.privateMethod_at (mvP hZ (own_w hw 132 rfl) (args := #[]))) (mvT hZ (own_w hw 134 rfl)) (by decide) (backOf (W := 0) (rm221 l Z a0 hw [] a1 ((kc + (own_n ds))) t k8 cs kc h0 n0 O0 HE_a1 HF_a1_value HF_a1_coder HF_a1_count HV_t h21_hc14 h21_h24_h29_h3_hc2 h21_h32_h16 g_a1) hZ (own_w hw 134 rfl) (own_w hw 105 rfl) (by decide) (by decide)) (g := (mkF m 21 #[.val (.ref a1), .val (.ref a2), .val (.int (own_n ds))] [(.int (kc + (own_n ds))), (.ref a1)])) rfl (by rw [hml]; rfl) (Steps.refl _) (a := a1) (by rw [e4]; exact q5) q5' (argsL := [(.int (kc + (own_n ds)))]) (rest := []) (lenOf pd_11 rfl) rfl (by show 2 * 0 + _ ≤ _; exact Nat.le_of_eq rfl) (d20 hby 10 rfl) (fun _ _ => ⟨rfl, e4, (by decide : 0 + 1 ≤ _), (by decide : 0 + 34 ≤ _)⟩)
  dsimp only [Pt.U, Pt.locs, Pt.cells, Pt.slots] at X5 l5 y5 z5 st5 hQ5
  subst l5 y5 z5
  obtain ⟨b6, k7, rfl, N5q, K5, Y5_z0, Y5_0, Y5_1, Y5_2, Y5_3, Y5_4, Y5_5⟩ := hQ5
  have N5 := Fr.app N3 N5q
  replace X5 := X5.more (cells' := 1) (slots' := 34) (by decide) (by decide)
  have g_b6 : n0 ≤ b6 := Nat.le_trans (Nat.le_trans Z0 (Keep.refl h0 [a1]).1) Y5_z0
  have sz_b6 : h0.size ≤ b6 := Nat.le_trans (Keep.refl h0 [a1]).1 Y5_z0
  have K8 : Keep h0 T5.heap [a1] := (Keep.refl h0 [a1]).trans K5 (allS (Or.inl (List.mem_of_getElem? (i := 0) rfl)) all0)
  have O9 : Old Z n0 T5.heap := O0.keep K5 (allS g_a1 all0)
  obtain ⟨T10, X10, e10, st10⟩ := getF X5 hx hZ hown (host := "") (Or.inl (own_w hw 128 rfl)) Via.refl rfl Y5_2 (g := (mkF m 26 #[.val (.ref a1), .val (.ref a2), .val (.int (own_n ds))] [(.ref a1), (.ref a1)])) rfl rfl (d20 hby 13 rfl)
  have f11 := (HE_a2.keep K5)
  have f12 := (HF_a2_value.keep K5 (ninS ne_a2_a1 nin0))
  have f13 := (HF_a2_coder.keep K5 (ninS ne_a2_a1 nin0))
  have f14 := (HV_t0.keep K5 (ninS ne_t0_a1 nin0))
  obtain ⟨cq15, q15, q15'⟩ := Y5_0.cell
  obtain ⟨vr15, _, ⟨T15, L15, k15, n15⟩, -, X15, ⟨Lc15, hQ15, l15, y15, z15⟩, st15⟩ := X10.privateBack hx (y := (⟨"java/lang/AbstractStringBuilder", "putStringAt", "(ILjava/lang/String;)V"⟩ : MethodName)) hown (mvT hZ (own_w hw 135 rfl)) (mvT hZ (own_w hw 136 rfl)) (own_selP (mvT hZ (own_w hw 136 rfl)) (Cond.privateMethod_at (mvP hZ (own_w hw 137 rfl) (args := #[]))) (mvT hZ (own_w hw 138 rfl)) (by decide)) (Cond.privateMethod_at (mvP hZ (own_w hw 137 rfl) (args := #[]))) (mvT hZ (own_w hw 139 rfl)) (by decide) (backOf (W := 0) (rm23 l Z a0 hw [] a1 kc a2 b6 t0 k7 k9 ((34 : Int32)) zC cs ds T5.heap n0 O9 Y5_0 Y5_4 Y5_3 Y5_1 Y5_5 f11 f12 f13 f14 S_COMPACT_STRINGS h10_h6_hc3 g_b6 h30_h15_hkc h30_h15_h40 h30_h15_hfit) hZ (own_w hw 139 rfl) (own_w hw 105 rfl) (by decide) (by decide)) (g := (mkF m 30 #[.val (.ref a1), .val (.ref a2), .val (.int (own_n ds))] [(.ref a2), (.int kc), (.ref a1)])) rfl (by rw [hml]; rfl) (Steps.refl _) (a := a1) (by rw [e10]; exact q15) q15' (argsL := [(.int kc), (.ref a2)]) (rest := []) (lenOf pd_17 rfl) rfl (by show 2 * 0 + _ ≤ _; exact Nat.le_of_eq rfl) (d20 hby 15 rfl) (fun _ _ => ⟨rfl, e10, (by decide : 1 + 0 ≤ _), (by decide : 34 + 0 ≤ _)⟩)
  dsimp only [Pt.U, Pt.locs, Pt.cells, Pt.slots] at X15 l15 y15 z15 st15 hQ15
  subst l15 y15 z15
  obtain ⟨rfl, N15q, K15, Y15_0, Y15_1⟩ := hQ15
  have N15 := Fr.app N5 N15q
  replace X15 := X15.more (cells' := 1) (slots' := 34) (by decide) (by decide)
  have K16 : Keep h0 T15.heap [a1] := K8.trans K15 (allS (Or.inr sz_b6) all0)
  have O17 : Old Z n0 T15.heap := O9.keep K15 (allS g_b6 all0)
  have ne19 : a1 ≠ b6 := Nat.ne_of_lt (Nat.lt_of_lt_of_le HE_a1.lt Y5_z0)
  have f18 := (Y5_2.keep K15 (ninS ne19 nin0))
  obtain ⟨T20, X20, e20, st20⟩ := getF X15 hx hZ hown (host := "") (Or.inl (own_w hw 128 rfl)) Via.refl rfl f18 (g := (mkF m 35 #[.val (.ref a1), .val (.ref a2), .val (.int (own_n ds))] [(.ref a1), (.ref a1)])) rfl rfl (d20 hby 18 rfl)
  have f21 := (Y5_0.keep K15)
  obtain ⟨T22, h22, X22, e22, W22, st22⟩ := putF X20 hx hZ hown (host := "") (Or.inl (own_w hw 128 rfl)) Via.refl e20 f18 f21 (Or.inl (own_w hw 129 rfl)) (own_w hw 96 rfl) (ty := .int) (by decide) rfl rfl (g := (mkF m 40 #[.val (.ref a1), .val (.ref a2), .val (.int (own_n ds))] [(.int (kc + (own_n ds))), (.ref a1)])) rfl rfl (d20 hby 21 rfl)
  have N22 := Fr.snoc X22 N15 g_a1
  have K23 : Keep h0 h22 [a1] := K16.wr W22 (Or.inl (List.mem_of_getElem? (i := 0) rfl))
  have O24 : Old Z n0 h22 := O17.wr W22 g_a1
  have Fw22 : Fld Z h22 a1 "java/lang/AbstractStringBuilder" "count" "I" (.int (kc + (own_n ds))) := f18.same W22
  have f25 := (f21.wr W22)
  have f26 := ((Y5_1.keep K15 (ninS ne19 nin0)).other W22 (Or.inr (slot_ne (Or.inl (own_w hw 112 rfl)) (Or.inl (own_w hw 129 rfl)) (by decide) (t := .byte) (t' := .int) (by decide) (by decide))))
  have f27 := ((Y5_3.keep K15 (ninS ne19 nin0)).other W22 (Or.inr (slot_ne (Or.inl (own_w hw 110 rfl)) (Or.inl (own_w hw 129 rfl)) (by decide) (t := (.array .byte)) (t' := .int) (by decide) (by decide))))
  have f28 := (Y15_0.wr W22)
  have f29 := (Y15_1.other W22 (Ne.symm ne19))
  refine ⟨T22, _, _, _, some (.ref a1), X22, by decide, by decide, nofun, ?_, fun fs hr => castTop (ef_20 m a1 a2) ?_⟩
  · show Q201 Z a1 a2 t t0 k8 k9 kc zC cs ds h0 n0 _ T22.heap _
    rw [e22]
    exact ⟨b6, k7, rfl, N22, K23, sz_b6, f25, f26, Fw22, f27, f28, f29⟩
  · show Steps p.tables e below (s₁.setTop (mkF m 0 #[.val (.ref a1), .val (.ref a2), .unset] [])) _
    refine XS.aloadN X0.here hx rfl (d20 hby 0 rfl) rfl rfl ?_
    refine XS.ifnonnullYes X0.here hx rfl (pc0 := 1) (pc' := 9) rfl (d20 hby 1 rfl) rfl (by decide) (by decide) ?_
    refine XS.aloadN X0.here hx rfl (d20 hby 2 rfl) rfl rfl ?_
    refine st3.trans ?_
    refine XS.istoreN X3.here hx rfl (d20 hby 4 rfl) rfl (l' := #[.val (.ref a1), .val (.ref a2), .val (.int (own_n ds))]) rfl ?_
    refine XS.aloadN X3.here hx rfl (d20 hby 5 rfl) rfl rfl ?_
    refine XS.aloadN X3.here hx rfl (d20 hby 6 rfl) rfl rfl ?_
    refine st4 _ ?_
    refine XS.iloadN X4.here hx rfl (d20 hby 8 rfl) rfl ?_
    refine XS.iadd X4.here hx rfl (d20 hby 9 rfl) rfl ?_
    refine st5.trans ?_
    refine XS.aloadN X5.here hx rfl (d20 hby 11 rfl) rfl rfl ?_
    refine XS.aloadN X5.here hx rfl (d20 hby 12 rfl) rfl rfl ?_
    refine st10 _ ?_
    refine XS.aloadN X10.here hx rfl (d20 hby 14 rfl) rfl rfl ?_
    refine st15.trans ?_
    refine XS.aloadN X15.here hx rfl (d20 hby 16 rfl) rfl rfl ?_
    refine XS.dup X15.here hx rfl (d20 hby 17 rfl) rfl rfl ?_
    refine st20 _ ?_
    refine XS.iloadN X20.here hx rfl (d20 hby 19 rfl) rfl ?_
    refine XS.iadd X20.here hx rfl (d20 hby 20 rfl) rfl ?_
    refine st22 _ ?_
    refine XS.aloadN X22.here hx rfl (d20 hby 22 rfl) rfl rfl ?_
    exact own_retR X22 hx hret rfl rfl (d20 hby 23 rfl) hr
/-- the builder's array: z places, the text fits -/
def own_cap (z : Int32) (cs : List Int32) : Prop := (z = (16 : Int32) ∧ cs.length ≤ 16) ∨ (z = (34 : Int32) ∧ 16 < cs.length ∧ cs.length ≤ 34)
theorem own_cap.z {z : Int32} {cs : List Int32} (h : own_cap z cs) : z = (16 : Int32) ∨ z = (34 : Int32) := h.elim (fun q => Or.inl q.1) (fun q => Or.inr q.1)
theorem own_cap.le {z : Int32} {cs : List Int32} (h : own_cap z cs) : cs.length ≤ (z).toNatClampNeg := by
  rcases h with ⟨rfl, h⟩ | ⟨rfl, -, h⟩
  · exact h
  · exact h
theorem own_cap.app {z : Int32} {cs ds : List Int32} (h : own_cap z cs) (hb : cs.length + ds.length ≤ (z).toNatClampNeg) : own_cap z (cs ++ ds) := by
  rcases h with ⟨rfl, h⟩ | ⟨rfl, h, h2⟩
  · exact Or.inl ⟨rfl, by rw [List.length_append]; exact hb⟩
  · exact Or.inr ⟨rfl, by rw [List.length_append]; omega, by rw [List.length_append]; exact hb⟩
theorem own_capN {z : Int32} (h : z = (16 : Int32) ∨ z = (34 : Int32)) : (z = (16 : Int32) ∧ (z).toNatClampNeg = 16) ∨ (z = (34 : Int32) ∧ (z).toNatClampNeg = 34) := by
  rcases h with rfl | rfl
  · exact Or.inl ⟨rfl, rfl⟩
  · exact Or.inr ⟨rfl, rfl⟩
def Q20 (Z : State) (a1 a2 t t0 : Addr) (k8 k9 : ClassId) (zz kc zC : Int32) (cs ds : List Int32) (n1 : Nat) (h0 : Heap) (n0 : Nat) (v : Option Value) (h : Heap) (L : List Loc) : Prop := ∃ t1 : Addr, ∃ k1 : ClassId, ∃ z1 : Int32, v = some (.ref a1) ∧ Fr n0 L ∧ Keep h0 h [t, a1] ∧ Exa Z h t1 "[B" ∧ Arv Z h t1 k1 .byte z1 (own_pad (cs ++ ds) z1) (.int 0) ∧ Exa Z h a1 "java/lang/StringBuilder" ∧ Fld Z h a1 "java/lang/AbstractStringBuilder" "coder" "B" (.int 0) ∧ Fld Z h a1 "java/lang/AbstractStringBuilder" "count" "I" (.int (own_n (cs ++ ds))) ∧ Fld Z h a1 "java/lang/AbstractStringBuilder" "value" "[B" (.ref t1) ∧ n1 ≤ t1 ∧ own_cap z1 (cs ++ ds) ∧ (t1 = t ∨ h0.size ≤ t1) ∧ a1 ≠ t1
theorem rm20 (l : Launch) (Z : State) (a0 : Array Value) (hw : ∀ d ∈ tables_1, d.before a0 Z = true) (ws : List Jvm.Cond) (a1 a2 t t0 : Addr) (k8 k9 : ClassId) (zz kc zC : Int32) (cs ds : List Int32) (n1 : Nat) (h0 : Heap) (n0 : Nat) (O0 : Old Z n0 h0) (HE_a1 : Exa Z h0 a1 "java/lang/StringBuilder") (HE_t : Exa Z h0 t "[B") (HF_a1_value : Fld Z h0 a1 "java/lang/AbstractStringBuilder" "value" "[B" (.ref t)) (HF_a1_coder : Fld Z h0 a1 "java/lang/AbstractStringBuilder" "coder" "B" (.int 0)) (HF_a1_count : Fld Z h0 a1 "java/lang/AbstractStringBuilder" "count" "I" (.int kc)) (HV_t : Arv Z h0 t k8 .byte zz (own_pad cs zz) (.int 0)) (HE_a2 : Exa Z h0 a2 "java/lang/String") (HF_a2_value : Fld Z h0 a2 "java/lang/String" "value" "[B" (.ref t0)) (HF_a2_coder : Fld Z h0 a2 "java/lang/String" "coder" "B" (.int 0)) (HV_t0 : Arv Z h0 t0 k9 .byte (own_n ds) (own_by ds) (.int 0)) (S_COMPACT_STRINGS : Sta Z Z.heap "java/lang/String" "COMPACT_STRINGS" "Z" (.int zC)) (g_t : n0 ≤ t) (ne_a1_t : a1 ≠ t) (g_a1 : n0 ≤ a1) (ne_a2_a1 : a2 ≠ a1) (ne_t0_a1 : t0 ≠ a1) (hz : ¬ (zC = (0 : Int32))) (hkc : kc = (own_n cs)) (h33 : cs.length + ds.length ≤ 33) (hcap : own_cap zz cs) (hn1 : n1 ≤ t) (hn1h : n1 ≤ h0.size) :
    own_C l Z (⟨"java/lang/AbstractStringBuilder", "append", "(Ljava/lang/String;)Ljava/lang/AbstractStringBuilder;"⟩ : MethodName) jdk_68_method_22_code 3 (some (.object "java/lang/AbstractStringBuilder")) ws ({ frames := 7, cells := 1, slots := 34, locals := 110 } : Room) #[(.ref a1), (.ref a2)] h0 (Q20 Z a1 a2 t t0 k8 k9 zz kc zC cs ds n1 h0 n0) := by
  intro p e ha hc hk s m args below hf_ happ hP hK
  by_cases hb : cs.length + ds.length ≤ (zz).toNatClampNeg
  · obtain ⟨q1, q2, q3, q4, q5, v, L, rfl, ⟨rfl, N, K, Et, Vt, Ea1, Fa1coder, Fa1count, Fa1value⟩, hF⟩ := rm200 l Z a0 hw ws a1 a2 t t0 k8 k9 zz kc zC cs ds h0 n0 O0 HE_a1 HE_t HF_a1_value HF_a1_coder HF_a1_count HV_t HE_a2 HF_a2_value HF_a2_coder HV_t0 S_COMPACT_STRINGS hz (by rw [hkc, own_nadd (by omega)]; exact own_cap0 hcap.z (by rw [List.length_append]; exact hb)) g_t hkc (by omega) hb ne_a1_t g_a1 p e ha hc hk s m args below hf_ happ hP hK
    exact ⟨q1, _, q3, q4, q5, _, L, rfl, ⟨t, k8, zz, rfl, N, K, Et, Vt, Ea1, Fa1coder, by rw [hkc, own_nadd (by omega)] at Fa1count; exact Fa1count, Fa1value, hn1, hcap.app hb, Or.inl rfl, ne_a1_t⟩, hF⟩
  · rcases own_capN hcap.z with ⟨rfl, e16⟩ | ⟨rfl, e34⟩
    · have hc16 : cs.length ≤ 16 := by have := hcap.le; omega
      obtain ⟨q1, q2, q3, q4, q5, v, L, rfl, ⟨b6, k7, rfl, N, K, z0, Ea1, Fa1coder, Fa1count, Fa1value, Eb6, Vb6⟩, hF⟩ := rm201 l Z a0 hw ws a1 a2 t t0 k8 k9 kc zC cs ds h0 n0 O0 HE_a1 HE_t HF_a1_value HF_a1_coder HF_a1_count HV_t HE_a2 HF_a2_value HF_a2_coder HV_t0 S_COMPACT_STRINGS hz (by rw [hkc, own_nadd (by omega)]; exact (own_cap1 (by rw [List.length_append]; omega) (by rw [List.length_append]; omega)).1) (by rw [hkc, own_nadd (by omega)]; exact (own_cap1 (by rw [List.length_append]; omega) (by rw [List.length_append]; omega)).2) hc16 g_a1 ne_a2_a1 ne_t0_a1 hkc (by omega) (by rw [show ((34 : Int32)).toNatClampNeg = 34 from rfl]; omega) p e ha hc hk s m args below hf_ happ hP hK
      exact ⟨q1, _, q3, q4, q5, _, L, rfl, ⟨b6, k7, (34 : Int32), rfl, N, ⟨K.1, fun a c q n => K.2.1 a c q (fun m => n (List.mem_cons_of_mem _ m)), K.2.2⟩, Eb6, Vb6, Ea1, Fa1coder, by rw [hkc, own_nadd (by omega)] at Fa1count; exact Fa1count, Fa1value, Nat.le_trans hn1h z0, Or.inr ⟨rfl, by rw [List.length_append]; omega, by rw [List.length_append]; omega⟩, Or.inr z0, Nat.ne_of_lt (Nat.lt_of_lt_of_le HE_a1.lt z0)⟩, hF⟩
    · omega
def own_L19 : List (Nat × Instr × Nat) := [(0, .aload_n 0, 1), (1, .aload_n 1, 1), (2, .invokespecial 29, 3), (5, .pop, 1), (6, .aload_n 0, 1), (7, .areturn, 1)]
theorem own_K19 : ∀ x ∈ own_L19, decode jdk_67_method_7_code x.1 = .ok x.2 := by decide +kernel
theorem d19 {c : Code} (hby : c.code = jdk_67_method_7_code) (i : Nat) {k n : Nat} {a : Instr} (h : own_L19[i]? = some (k, a, n)) : decode c.code k = .ok (a, n) := own_dL own_K19 hby h
theorem pd_22 : parseMethodDescriptor "(Ljava/lang/String;)Ljava/lang/AbstractStringBuilder;" = some ⟨[(.object "java/lang/String")], some (.object "java/lang/AbstractStringBuilder")⟩ := by decide +kernel
def Q19 (Z : State) (a1 a2 t t0 : Addr) (k8 k9 : ClassId) (zz kc zC : Int32) (cs ds : List Int32) (n1 : Nat) (h0 : Heap) (n0 : Nat) (v : Option Value) (h : Heap) (L : List Loc) : Prop := ∃ y4 : Addr, ∃ y5 : ClassId, ∃ y6 : Int32, v = some (.ref a1) ∧ Fr n0 L ∧ Keep h0 h [a1, t] ∧ Exa Z h a1 "java/lang/StringBuilder" ∧ Fld Z h a1 "java/lang/AbstractStringBuilder" "coder" "B" (.int 0) ∧ Fld Z h a1 "java/lang/AbstractStringBuilder" "count" "I" (.int (own_n (cs ++ ds))) ∧ Fld Z h a1 "java/lang/AbstractStringBuilder" "value" "[B" (.ref y4) ∧ Exa Z h t "[B" ∧ Exa Z h y4 "[B" ∧ Arv Z h y4 y5 .byte y6 (own_pad (cs ++ ds) y6) (.int 0) ∧ n1 ≤ y4 ∧ own_cap y6 (cs ++ ds) ∧ (y4 = t ∨ h0.size ≤ y4) ∧ a1 ≠ y4
theorem ef_19 (m : MethodId) (x0 : Addr) (x1 : Addr) : entryFrame m #[(.ref x0), (.ref x1)] 2 = mkF m 0 #[.val (.ref x0), .val (.ref x1)] [] := by first | (simp [entryFrame, mkF, argsToLocals, Value.category]; done) | rfl
theorem pnc_java_lang_StringBuilder : plainName "java/lang/StringBuilder" = true := by first | (simp [plainName, overriddenIn]; done) | decide +kernel
theorem rm19 (l : Launch) (Z : State) (a0 : Array Value) (hw : ∀ d ∈ tables_1, d.before a0 Z = true) (ws : List Jvm.Cond) (a1 a2 t t0 : Addr) (k8 k9 : ClassId) (zz kc zC : Int32) (cs ds : List Int32) (n1 : Nat) (h0 : Heap) (n0 : Nat) (O0 : Old Z n0 h0) (HE_a1 : Exa Z h0 a1 "java/lang/StringBuilder") (HE_t : Exa Z h0 t "[B") (HF_a1_value : Fld Z h0 a1 "java/lang/AbstractStringBuilder" "value" "[B" (.ref t)) (HF_a1_coder : Fld Z h0 a1 "java/lang/AbstractStringBuilder" "coder" "B" (.int 0)) (HF_a1_count : Fld Z h0 a1 "java/lang/AbstractStringBuilder" "count" "I" (.int kc)) (HV_t : Arv Z h0 t k8 .byte zz (own_pad cs zz) (.int 0)) (HE_a2 : Exa Z h0 a2 "java/lang/String") (HF_a2_value : Fld Z h0 a2 "java/lang/String" "value" "[B" (.ref t0)) (HF_a2_coder : Fld Z h0 a2 "java/lang/String" "coder" "B" (.int 0)) (HV_t0 : Arv Z h0 t0 k9 .byte (own_n ds) (own_by ds) (.int 0)) (S_COMPACT_STRINGS : Sta Z Z.heap "java/lang/String" "COMPACT_STRINGS" "Z" (.int zC)) (g_t : n0 ≤ t) (ne_a1_t : a1 ≠ t) (g_a1 : n0 ≤ a1) (ne_a2_a1 : a2 ≠ a1) (ne_t0_a1 : t0 ≠ a1) (h2_hz : ¬ (zC = (0 : Int32))) (h2_hkc : kc = (own_n cs)) (h2_h33 : cs.length + ds.length ≤ 33) (h2_hcap : own_cap zz cs) (h2_hn1 : n1 ≤ t) (h2_hn1h : n1 ≤ h0.size) :
    own_C l Z (⟨"java/lang/StringBuilder", "append", "(Ljava/lang/String;)Ljava/lang/StringBuilder;"⟩ : MethodName) jdk_67_method_7_code 2 (some (.object "java/lang/StringBuilder")) ws ({ frames := 8, cells := 1, slots := 34, locals := 124 } : Room) #[(.ref a1), (.ref a2)] h0 (Q19 Z a1 a2 t t0 k8 k9 zz kc zC cs ds n1 h0 n0) := by
  refine own_intro (plainFor_of_name pnc_java_lang_StringBuilder) fun p e s m below meth c s₁ hx hby hml hown hnm hZ e0 hret X0 => ?_
  have N0 := Fr.nil n0
  have Z0 : n0 ≤ h0.size := O0.1 ▸ O0.2.1
  obtain ⟨vr3, _, ⟨T3, L3, k3, n3⟩, -, X3, ⟨Lc3, hQ3, l3, y3, z3⟩, st3⟩ := superBack X0 hx hZ (y := (⟨"java/lang/AbstractStringBuilder", "append", "(Ljava/lang/String;)Ljava/lang/AbstractStringBuilder;"⟩ : MethodName)) hown (own_w hw 118 rfl) (own_sameP (own_w hw 119 rfl) (own_w hw 133 rfl) rfl (by decide)) (own_w hw 119 rfl) (own_w hw 120 rfl) (by decide) (backOf (W := 0) (rm20 l Z a0 hw [] a1 a2 t t0 k8 k9 zz kc zC cs ds n1 h0 n0 O0 HE_a1 HE_t HF_a1_value HF_a1_coder HF_a1_count HV_t HE_a2 HF_a2_value HF_a2_coder HV_t0 S_COMPACT_STRINGS g_t ne_a1_t g_a1 ne_a2_a1 ne_t0_a1 h2_hz h2_hkc h2_h33 h2_hcap h2_hn1 h2_hn1h) hZ (own_w hw 122 rfl) (own_w hw 105 rfl) (by decide) (by decide)) e0 (Ins.self HE_a1) (g := (mkF m 2 #[.val (.ref a1), .val (.ref a2)] [(.ref a2), (.ref a1)])) rfl (by rw [hml]; rfl) (own_w hw 122 rfl) (argsL := [(.ref a2)]) (rest := []) (lenOf pd_22 rfl) rfl (by show 2 * 0 + _ ≤ _; exact Nat.le_of_eq rfl) (d19 hby 2 rfl) (fun _ _ => ⟨rfl, e0, (by decide : 0 + 1 ≤ _), (by decide : 0 + 34 ≤ _)⟩)
  dsimp only [Pt.U, Pt.locs, Pt.cells, Pt.slots] at X3 l3 y3 z3 st3 hQ3
  subst l3 y3 z3
  obtain ⟨y4, y5, y6, rfl, N3q, K3, Y3_0, Y3_1, Y3_2, Y3_3, Y3_4, Y3_5, Y3_6, Y3_7, Y3_8, Y3_9⟩ := hQ3
  have N3 := Fr.app N0 N3q
  replace X3 := X3.more (cells' := 1) (slots' := 34) (by decide) (by decide)
  have K7 : Keep h0 T3.heap [a1, t] := (Keep.refl h0 [a1, t]).trans K3 (allS (Or.inl (List.mem_of_getElem? (i := 1) rfl)) (allS (Or.inl (List.mem_of_getElem? (i := 0) rfl)) all0))
  have O8 : Old Z n0 T3.heap := O0.keep K3 (allS g_t (allS g_a1 all0))
  have f9 := (HE_t.keep K3)
  refine ⟨T3, _, _, _, some (.ref a1), X3, by decide, by decide, nofun, ?_, fun fs hr => castTop (ef_19 m a1 a2) ?_⟩
  · show Q19 Z a1 a2 t t0 k8 k9 zz kc zC cs ds n1 h0 n0 _ T3.heap _
    exact ⟨y4, y5, y6, rfl, N3, K7, Y3_2, Y3_3, Y3_4, Y3_5, f9, Y3_0, Y3_1, Y3_6, Y3_7, Y3_8, Y3_9⟩
  · show Steps p.tables e below (s₁.setTop (mkF m 0 #[.val (.ref a1), .val (.ref a2)] [])) _
    refine XS.aloadN X0.here hx rfl (d19 hby 0 rfl) rfl rfl ?_
    refine XS.aloadN X0.here hx rfl (d19 hby 1 rfl) rfl rfl ?_
    refine st3.trans ?_
    refine XS.pop X3.here hx rfl (d19 hby 3 rfl) rfl rfl ?_
    refine XS.aloadN X3.here hx rfl (d19 hby 4 rfl) rfl rfl ?_
    exact own_retR X3 hx hret rfl rfl (d19 hby 5 rfl) hr
def own_L18 : List (Nat × Instr × Nat) := [(0, .aload_n 0, 1), (1, .invokespecial 3, 3), (4, .getstatic 18, 3), (7, .ifCond .eq 18, 3), (10, .aload_n 0, 1), (11, .iload_n 1, 1), (12, .newarray .byte, 2), (14, .putfield 15, 3), (17, .aload_n 0, 1), (18, .iconst 0, 1), (19, .putfield 22, 3), (22, .goto 16, 3), (38, .return_, 1)]
theorem own_K18 : ∀ x ∈ own_L18, decode jdk_68_method_2_code x.1 = .ok x.2 := by decide +kernel
theorem d18 {c : Code} (hby : c.code = jdk_68_method_2_code) (i : Nat) {k n : Nat} {a : Instr} (h : own_L18[i]? = some (k, a, n)) : decode c.code k = .ok (a, n) := own_dL own_K18 hby h
def Q18 (Z : State) (a1 : Addr) (zC kc : Int32) (u8 u14 : Value) (h0 : Heap) (n0 : Nat) (v : Option Value) (h : Heap) (L : List Loc) : Prop := ∃ b4 : Addr, ∃ k4 : ClassId, v = none ∧ Fr n0 L ∧ Keep h0 h [a1] ∧ h0.size ≤ b4 ∧ Exa Z h a1 "java/lang/StringBuilder" ∧ Fld Z h a1 "java/lang/AbstractStringBuilder" "coder" "B" (.int 0) ∧ Fld Z h a1 "java/lang/AbstractStringBuilder" "count" "I" (.int kc) ∧ Fld Z h a1 "java/lang/AbstractStringBuilder" "value" "[B" (.ref b4) ∧ Exa Z h b4 "[B" ∧ Arv Z h b4 k4 .byte (16 : Int32) (own_pad own_nil (16 : Int32)) (.int 0)
theorem ef_18a__16___Int32__ (m : MethodId) (x0 : Addr) : entryFrame m #[(.ref x0), (.int 16)] 2 = mkF m 0 #[.val (.ref x0), .val (.int 16)] [] := by first | (simp [entryFrame, mkF, argsToLocals, Value.category]; done) | rfl
theorem rm18 (l : Launch) (Z : State) (a0 : Array Value) (hw : ∀ d ∈ tables_1, d.before a0 Z = true) (ws : List Jvm.Cond) (a1 : Addr) (zC kc : Int32) (u8 u14 : Value) (h0 : Heap) (n0 : Nat) (O0 : Old Z n0 h0) (HE_a1 : Exa Z h0 a1 "java/lang/StringBuilder") (HF_a1_count : Fld Z h0 a1 "java/lang/AbstractStringBuilder" "count" "I" (.int kc)) (S_COMPACT_STRINGS : Sta Z Z.heap "java/lang/String" "COMPACT_STRINGS" "Z" (.int zC)) (hc7 : ¬ (zC = (0 : Int32))) (HF_a1_value : Fld Z h0 a1 "java/lang/AbstractStringBuilder" "value" "[B" u8) (g_a1 : n0 ≤ a1) (HF_a1_coder : Fld Z h0 a1 "java/lang/AbstractStringBuilder" "coder" "B" u14) :
    own_C l Z (⟨"java/lang/AbstractStringBuilder", "<init>", "(I)V"⟩ : MethodName) jdk_68_method_2_code 2 none ws ({ frames := 1, cells := 1, slots := 16, locals := 12 } : Room) #[(.ref a1), (.int 16)] h0 (Q18 Z a1 zC kc u8 u14 h0 n0) := by
  refine own_intro (plainFor_of_name pnc_java_lang_AbstractStringBuilder) fun p e s m below meth c s₁ hx hby hml hown hnm hZ e0 hret X0 => ?_
  have N0 := Fr.nil n0
  have Z0 : n0 ≤ h0.size := O0.1 ▸ O0.2.1
  obtain ⟨T2, X2, e2, st2⟩ := initO X0 hx hZ hown (own_w hw 107 rfl) (own_w hw 13 rfl) (own_w hw 14 rfl) e0 (g := (mkF m 1 #[.val (.ref a1), .val (.int 16)] [(.ref a1)])) rfl (by rw [hml]; rfl) rfl (d18 hby 1 rfl) (by decide) (W := 0) (by show 2 * 0 + _ ≤ _; exact Nat.le_of_eq rfl) (by decide)
  obtain ⟨T3, X3, e3, st3⟩ := getS2 X2 hx hZ hown (host := "") (Or.inl (own_w hw 108 rfl)) Via.refl e2 (S_COMPACT_STRINGS.ext O0.2) (g := (mkF m 4 #[.val (.ref a1), .val (.int 16)] [])) rfl (d18 hby 2 rfl)
  obtain ⟨T4, h4, k4, X4, e4, E4, A4, B4, st4⟩ := newPE X3 hx hZ (own_w hw 20 rfl) e3 (g := (mkF m 12 #[.val (.ref a1), .val (.int 16)] [(.int 16), (.ref a1)])) rfl (d18 hby 6 rfl) rfl (by decide) (cap := 16) (by decide) (by decide) (by decide) (by decide) (ad := "[B") (by decide)
  obtain ⟨b4, g4⟩ : ∃ z, z = h0.size := ⟨_, rfl⟩
  rw [← g4] at A4 B4 st4
  have g_b4 : n0 ≤ b4 := Nat.le_trans (Nat.le_trans Z0 (Keep.refl h0 [a1]).1) (Nat.le_of_eq g4.symm)
  have sz_b4 : h0.size ≤ b4 := Nat.le_trans (Keep.refl h0 [a1]).1 (Nat.le_of_eq g4.symm)
  have K5 : Keep h0 h4 [a1] := (Keep.refl h0 [a1]).ext E4
  have O6 : Old Z n0 h4 := O0.ext E4
  have V4 : Arv Z h4 b4 k4 .byte (16 : Int32) [(.int 0), (.int 0), (.int 0), (.int 0), (.int 0), (.int 0), (.int 0), (.int 0), (.int 0), (.int 0), (.int 0), (.int 0), (.int 0), (.int 0), (.int 0), (.int 0)] (.int 0) := (Arv.new A4 (by decide)).pad (pad_rep [] (.int 0) 16)
  replace X4 := X4.more (cells' := 1) (slots' := 16) (by decide) (by decide)
  have f7 := (HE_a1.ext E4)
  have f9 := (HF_a1_value.ext E4)
  obtain ⟨T10, h10, X10, e10, W10, st10⟩ := putF X4 hx hZ hown (host := "") (Or.inl (own_w hw 109 rfl)) Via.refl e4 f9 f7 (Or.inl (own_w hw 110 rfl)) (own_w hw 96 rfl) (ty := (.array .byte)) (by decide) rfl rfl (g := (mkF m 14 #[.val (.ref a1), .val (.int 16)] [(.ref b4), (.ref a1)])) rfl rfl (d18 hby 7 rfl)
  have N10 := Fr.snoc X10 N0 g_a1
  have K11 : Keep h0 h10 [a1] := K5.wr W10 (Or.inl (List.mem_of_getElem? (i := 0) rfl))
  have O12 : Old Z n0 h10 := O6.wr W10 g_a1
  have Fw10 : Fld Z h10 a1 "java/lang/AbstractStringBuilder" "value" "[B" (.ref b4) := f9.same W10
  have f13 := (f7.wr W10)
  have f15 := ((HF_a1_coder.ext E4).other W10 (Or.inr (slot_ne (Or.inl (own_w hw 112 rfl)) (Or.inl (own_w hw 110 rfl)) (by decide) (t := .byte) (t' := (.array .byte)) (by decide) (by decide))))
  obtain ⟨T16, h16, X16, e16, W16, st16⟩ := putFN X10 hx hZ hown (own_w hw 111 rfl) Via.refl e10 f15 f13 (Or.inl (own_w hw 112 rfl)) (own_w hw 96 rfl) (ty := .byte) (v' := (.int 0)) (by decide) rfl rfl (g := (mkF m 19 #[.val (.ref a1), .val (.int 16)] [(.int 0), (.ref a1)])) rfl rfl (d18 hby 10 rfl)
  have N16 := Fr.snoc X16 N10 g_a1
  have K17 : Keep h0 h16 [a1] := K11.wr W16 (Or.inl (List.mem_of_getElem? (i := 0) rfl))
  have O18 : Old Z n0 h16 := O12.wr W16 g_a1
  have Fw16 : Fld Z h16 a1 "java/lang/AbstractStringBuilder" "coder" "B" (.int 0) := f15.same W16
  have ne21 : a1 ≠ b4 := Nat.ne_of_lt (Nat.lt_of_lt_of_le HE_a1.lt (Nat.le_of_eq g4.symm))
  have f20 := ((V4.other W10 (Ne.symm ne21)).other W16 (Ne.symm ne21))
  have V19 : Arv Z h16 b4 k4 .byte (16 : Int32) (own_pad own_nil (16 : Int32)) (.int 0) := f20
  have f22 := (f13.wr W16)
  have f23 := (((HF_a1_count.ext E4).other W10 (Or.inr (slot_ne (Or.inl (own_w hw 129 rfl)) (Or.inl (own_w hw 110 rfl)) (by decide) (t := .int) (t' := (.array .byte)) (by decide) (by decide)))).other W16 (Or.inr (slot_ne (Or.inl (own_w hw 129 rfl)) (Or.inl (own_w hw 112 rfl)) (by decide) (t := .int) (t' := .byte) (by decide) (by decide))))
  have f24 := (Fw10.other W16 (Or.inr (slot_ne (Or.inl (own_w hw 110 rfl)) (Or.inl (own_w hw 112 rfl)) (by decide) (t := (.array .byte)) (t' := .byte) (by decide) (by decide))))
  have f25 := ((B4.wr W10).wr W16)
  refine ⟨T16, _, _, _, none, X16, by decide, by decide, fun _ => rfl, ?_, fun fs hr => castTop (ef_18a__16___Int32__ m a1) ?_⟩
  · show Q18 Z a1 zC kc u8 u14 h0 n0 _ T16.heap _
    rw [e16]
    exact ⟨b4, k4, rfl, N16, K17, sz_b4, f22, Fw16, f23, f24, f25, V19⟩
  · show Steps p.tables e below (s₁.setTop (mkF m 0 #[.val (.ref a1), .val (.int 16)] [])) _
    refine XS.aloadN X0.here hx rfl (d18 hby 0 rfl) rfl rfl ?_
    refine st2 _ ?_
    refine st3 _ ?_
    refine XS.ifNo X3.here hx rfl (d18 hby 3 rfl) rfl ((if0 _ _).trans (feq hc7).1) ?_
    refine XS.aloadN X3.here hx rfl (d18 hby 4 rfl) rfl rfl ?_
    refine XS.iloadN X3.here hx rfl (d18 hby 5 rfl) rfl ?_
    refine st4 _ ?_
    refine st10 _ ?_
    refine XS.aloadN X10.here hx rfl (d18 hby 8 rfl) rfl rfl ?_
    refine XS.iconst X10.here hx rfl (d18 hby 9 rfl) ?_
    refine st16 _ ?_
    refine XS.goto X16.here hx rfl (pc0 := 22) (pc' := 38) rfl (d18 hby 11 rfl) (by decide) (by decide) ?_
    exact X16.returnOut hx hret (d18 hby 12 rfl) hr
def own_L17 : List (Nat × Instr × Nat) := [(0, .aload_n 0, 1), (1, .bipush 16, 2), (3, .invokespecial 1, 3), (6, .return_, 1)]
theorem own_K17 : ∀ x ∈ own_L17, decode jdk_67_method_1_code x.1 = .ok x.2 := by decide +kernel
theorem d17 {c : Code} (hby : c.code = jdk_67_method_1_code) (i : Nat) {k n : Nat} {a : Instr} (h : own_L17[i]? = some (k, a, n)) : decode c.code k = .ok (a, n) := own_dL own_K17 hby h
def Q17 (Z : State) (a1 : Addr) (zC kc : Int32) (u2 u3 : Value) (h0 : Heap) (n0 : Nat) (v : Option Value) (h : Heap) (L : List Loc) : Prop := ∃ b5 : Addr, ∃ k6 : ClassId, v = none ∧ Fr n0 L ∧ Keep h0 h [a1] ∧ h0.size ≤ b5 ∧ Exa Z h a1 "java/lang/StringBuilder" ∧ Fld Z h a1 "java/lang/AbstractStringBuilder" "coder" "B" (.int 0) ∧ Fld Z h a1 "java/lang/AbstractStringBuilder" "count" "I" (.int kc) ∧ Fld Z h a1 "java/lang/AbstractStringBuilder" "value" "[B" (.ref b5) ∧ Exa Z h b5 "[B" ∧ Arv Z h b5 k6 .byte (16 : Int32) (own_pad own_nil (16 : Int32)) (.int 0)
theorem ef_17 (m : MethodId) (x0 : Addr) : entryFrame m #[(.ref x0)] 1 = mkF m 0 #[.val (.ref x0)] [] := by first | (simp [entryFrame, mkF, argsToLocals, Value.category]; done) | rfl
theorem rm17 (l : Launch) (Z : State) (a0 : Array Value) (hw : ∀ d ∈ tables_1, d.before a0 Z = true) (ws : List Jvm.Cond) (a1 : Addr) (zC kc : Int32) (u2 u3 : Value) (h0 : Heap) (n0 : Nat) (O0 : Old Z n0 h0) (HE_a1 : Exa Z h0 a1 "java/lang/StringBuilder") (HF_a1_count : Fld Z h0 a1 "java/lang/AbstractStringBuilder" "count" "I" (.int kc)) (S_COMPACT_STRINGS : Sta Z Z.heap "java/lang/String" "COMPACT_STRINGS" "Z" (.int zC)) (HF_a1_value : Fld Z h0 a1 "java/lang/AbstractStringBuilder" "value" "[B" u2) (HF_a1_coder : Fld Z h0 a1 "java/lang/AbstractStringBuilder" "coder" "B" u3) (h3_hc7 : ¬ (zC = (0 : Int32))) (g_a1 : n0 ≤ a1) :
    own_C l Z (⟨"java/lang/StringBuilder", "<init>", "()V"⟩ : MethodName) jdk_67_method_1_code 1 none ws ({ frames := 2, cells := 1, slots := 16, locals := 25 } : Room) #[(.ref a1)] h0 (Q17 Z a1 zC kc u2 u3 h0 n0) := by
  refine own_intro (plainFor_of_name pnc_java_lang_StringBuilder) fun p e s m below meth c s₁ hx hby hml hown hnm hZ e0 hret X0 => ?_
  have N0 := Fr.nil n0
  have Z0 : n0 ≤ h0.size := O0.1 ▸ O0.2.1
  obtain ⟨vr4, _, ⟨T4, L4, k4, n4⟩, -, X4, ⟨Lc4, hQ4, l4, y4, z4⟩, st4⟩ := X0.specialBack hx (y := (⟨"java/lang/AbstractStringBuilder", "<init>", "(I)V"⟩ : MethodName)) rfl hown (mvT hZ (own_w hw 101 rfl)) (mvT hZ (own_w hw 102 rfl)) (mvT hZ (own_w hw 106 rfl)) (by decide) (backOf (W := 0) (rm18 l Z a0 hw [] a1 zC kc u2 u3 h0 n0 O0 HE_a1 HF_a1_count S_COMPACT_STRINGS h3_hc7 HF_a1_value g_a1 HF_a1_coder) hZ (own_w hw 106 rfl) (own_w hw 105 rfl) (by decide) (by decide)) (g := (mkF m 3 #[.val (.ref a1)] [(.int 16), (.ref a1)])) rfl (by rw [hml]; rfl) (Steps.refl _) (a := a1) (argsL := [(.int 16)]) (rest := []) (lenOf pd_11 rfl) rfl (by show 2 * 0 + _ ≤ _; exact Nat.le_of_eq rfl) (d17 hby 2 rfl) (fun _ _ => ⟨rfl, e0, (by decide : 0 + 1 ≤ _), (by decide : 0 + 16 ≤ _)⟩)
  dsimp only [Pt.U, Pt.locs, Pt.cells, Pt.slots] at X4 l4 y4 z4 st4 hQ4
  subst l4 y4 z4
  obtain ⟨b5, k6, rfl, N4q, K4, Y4_z0, Y4_0, Y4_1, Y4_2, Y4_3, Y4_4, Y4_5⟩ := hQ4
  have N4 := Fr.app N0 N4q
  replace X4 := X4.more (cells' := 1) (slots' := 16) (by decide) (by decide)
  have g_b5 : n0 ≤ b5 := Nat.le_trans (Nat.le_trans Z0 (Keep.refl h0 [a1]).1) Y4_z0
  have sz_b5 : h0.size ≤ b5 := Nat.le_trans (Keep.refl h0 [a1]).1 Y4_z0
  have K7 : Keep h0 T4.heap [a1] := (Keep.refl h0 [a1]).trans K4 (allS (Or.inl (List.mem_of_getElem? (i := 0) rfl)) all0)
  have O8 : Old Z n0 T4.heap := O0.keep K4 (allS g_a1 all0)
  refine ⟨T4, _, _, _, none, X4, by decide, by decide, fun _ => rfl, ?_, fun fs hr => castTop (ef_17 m a1) ?_⟩
  · show Q17 Z a1 zC kc u2 u3 h0 n0 _ T4.heap _
    exact ⟨b5, k6, rfl, N4, K7, sz_b5, Y4_0, Y4_1, Y4_2, Y4_3, Y4_4, Y4_5⟩
  · show Steps p.tables e below (s₁.setTop (mkF m 0 #[.val (.ref a1)] [])) _
    refine XS.aloadN X0.here hx rfl (d17 hby 0 rfl) rfl rfl ?_
    refine XS.bipush X0.here hx rfl (d17 hby 1 rfl) ?_
    refine st4.trans ?_
    exact X4.returnOut hx hret (d17 hby 3 rfl) hr
def own_L29 : List (Nat × Instr × Nat) := [(0, .getstatic 18, 3), (3, .ifCond .eq 14, 3), (6, .aload_n 0, 1), (7, .getfield 22, 3), (10, .ifCond .ne 7, 3), (13, .iconst 1, 1), (14, .goto 4, 3), (18, .ireturn, 1)]
theorem own_K29 : ∀ x ∈ own_L29, decode jdk_68_method_68_code x.1 = .ok x.2 := by decide +kernel
theorem d29 {c : Code} (hby : c.code = jdk_68_method_68_code) (i : Nat) {k n : Nat} {a : Instr} (h : own_L29[i]? = some (k, a, n)) : decode c.code k = .ok (a, n) := own_dL own_K29 hby h
def Q29 (Z : State) (a1 : Addr) (zC : Int32) (h0 : Heap) (n0 : Nat) (v : Option Value) (h : Heap) (L : List Loc) : Prop := v = some (.int 1) ∧ Fr n0 L ∧ h = h0
theorem ef_29 (m : MethodId) (x0 : Addr) : entryFrame m #[(.ref x0)] 1 = mkF m 0 #[.val (.ref x0)] [] := by first | (simp [entryFrame, mkF, argsToLocals, Value.category]; done) | rfl
theorem rm29 (l : Launch) (Z : State) (a0 : Array Value) (hw : ∀ d ∈ tables_1, d.before a0 Z = true) (ws : List Jvm.Cond) (a1 : Addr) (zC : Int32) (h0 : Heap) (n0 : Nat) (O0 : Old Z n0 h0) (S_COMPACT_STRINGS : Sta Z Z.heap "java/lang/String" "COMPACT_STRINGS" "Z" (.int zC)) (hc3 : ¬ (zC = (0 : Int32))) (HF_a1_coder : Fld Z h0 a1 "java/lang/AbstractStringBuilder" "coder" "B" (.int 0)) :
    own_C l Z (⟨"java/lang/AbstractStringBuilder", "isLatin1", "()Z"⟩ : MethodName) jdk_68_method_68_code 1 (some .boolean) ws ({ frames := 0, cells := 0, slots := 0, locals := 0 } : Room) #[(.ref a1)] h0 (Q29 Z a1 zC h0 n0) := by
  refine own_intro (plainFor_of_name pnc_java_lang_AbstractStringBuilder) fun p e s m below meth c s₁ hx hby hml hown hnm hZ e0 hret X0 => ?_
  have N0 := Fr.nil n0
  have Z0 : n0 ≤ h0.size := O0.1 ▸ O0.2.1
  obtain ⟨T2, X2, e2, st2⟩ := getS2 X0 hx hZ hown (host := "") (Or.inl (own_w hw 108 rfl)) Via.refl e0 (S_COMPACT_STRINGS.ext O0.2) (g := (mkF m 0 #[.val (.ref a1)] [])) rfl (d29 hby 0 rfl)
  obtain ⟨T3, X3, e3, st3⟩ := getF X2 hx hZ hown (host := "") (Or.inl (own_w hw 111 rfl)) Via.refl e2 HF_a1_coder (g := (mkF m 7 #[.val (.ref a1)] [(.ref a1)])) rfl rfl (d29 hby 3 rfl)
  refine ⟨T3, _, _, _, some (.int 1), X3, by decide, by decide, nofun, ?_, fun fs hr => castTop (ef_29 m a1) ?_⟩
  · show Q29 Z a1 zC h0 n0 _ T3.heap _
    rw [e3]
    exact ⟨rfl, N0, rfl⟩
  · show Steps p.tables e below (s₁.setTop (mkF m 0 #[.val (.ref a1)] [])) _
    refine st2 _ ?_
    refine XS.ifNo X2.here hx rfl (d29 hby 1 rfl) rfl ((if0 _ _).trans (feq hc3).1) ?_
    refine XS.aloadN X2.here hx rfl (d29 hby 2 rfl) rfl rfl ?_
    refine st3 _ ?_
    refine XS.ifNo X3.here hx rfl (d29 hby 4 rfl) rfl ((if0 _ _).trans (teq (by decide : (0 : Int32) = (0 : Int32))).2) ?_
    refine XS.iconst X3.here hx rfl (d29 hby 5 rfl) ?_
    refine XS.goto X3.here hx rfl (pc0 := 14) (pc' := 18) rfl (d29 hby 6 rfl) (by decide) (by decide) ?_
    exact retN X3 hx (t := .boolean) hret (by simp) (d29 hby 7 rfl) hr
def own_L28 : List (Nat × Instr × Nat) := [(16, .iload_n 3, 1), (17, .bipush 10, 2), (19, .if_icmp .ge 23, 3), (22, .iload_n 0, 1), (23, .iload_n 2, 1), (24, .if_icmp .le 7, 3), (31, .bipush 10, 2), (33, .iload_n 2, 1), (34, .imul, 1), (35, .istore_n 2, 1), (36, .iinc 3 1, 3), (39, .goto (-23), 3), (27, .iload_n 3, 1), (28, .iload_n 1, 1), (29, .iadd, 1), (0, .iconst 1, 1), (1, .istore_n 1, 1), (2, .iload_n 0, 1), (3, .ifCond .lt 8, 3), (6, .iconst 0, 1), (7, .istore_n 1, 1), (8, .iload_n 0, 1), (9, .ineg, 1), (10, .istore_n 0, 1), (11, .bipush (-10), 2), (13, .istore_n 2, 1), (14, .iconst 1, 1), (15, .istore_n 3, 1), (30, .ireturn, 1)]
theorem own_K28 : ∀ x ∈ own_L28, decode jdk_33_method_13_code x.1 = .ok x.2 := by decide +kernel
theorem d28 {c : Code} (hby : c.code = jdk_33_method_13_code) (i : Nat) {k n : Nat} {a : Instr} (h : own_L28[i]? = some (k, a, n)) : decode c.code k = .ok (a, n) := own_dL own_K28 hby h
theorem tss {p : Program} {l : Launch} {e : Env} {s : State} {m : MethodId} {args : Array Value} {below : List Frame} {meth : Method} {c : Code} {T0 : State} {locs : List Loc} {Z : State} {a0 : Array Value} (hw : ∀ d ∈ tables_1, d.before a0 Z = true) (px pp pd : Int32) (h0 : Heap) (n0 : Nat) (X0 : Stand p l e ({ frames := 0, cells := 0, slots := 0, locals := 0 } : Room) s m args below meth c T0 locs 0 0) (N0 : Fr n0 locs) (hx : p.tables.exec = Jvm.exec) (hZ : Z.Warmed39 s.vm) (hby : c.code = jdk_33_method_13_code) (hml : c.maxLocals = 4) (hown : s.vm.findClass "java/lang/Integer" = some m.cls) (e0 : T0.heap = h0) (O0 : Old Z n0 h0) (hc19 : pd < (10 : Int32)) (hc24 : ¬ (pp < px)) :
    ∃ (T' : State) (locs' : List Loc), Stand p l e ({ frames := 0, cells := 0, slots := 0, locals := 0 } : Room) s m args below meth c T' locs' 0 0 ∧ Fr n0 locs' ∧ T'.heap = h0 ∧
      ∀ target, Steps p.tables e below (T'.setTop (mkF m 16 #[.val (.int px), .val (.int 0), .val (.int ((10 : Int32) * pp)), .val (.int (pd + (1 : Int32)))] [])) target → Steps p.tables e below (T0.setTop (mkF m 16 #[.val (.int px), .val (.int 0), .val (.int pp), .val (.int pd)] [])) target := by
  have Z0 : n0 ≤ h0.size := O0.1 ▸ O0.2.1
  refine ⟨T0, _, X0, N0, e0, fun target kt => ?_⟩
  show Steps p.tables e below (T0.setTop (mkF m 16 #[.val (.int px), .val (.int 0), .val (.int pp), .val (.int pd)] [])) _
  refine XS.iloadN X0.here hx rfl (d28 hby 0 rfl) rfl ?_
  refine XS.bipush X0.here hx rfl (d28 hby 1 rfl) ?_
  refine XS.icmpNo X0.here hx rfl (d28 hby 2 rfl) rfl (tlt hc19).2.1 ?_
  refine XS.iloadN X0.here hx rfl (d28 hby 3 rfl) rfl ?_
  refine XS.iloadN X0.here hx rfl (d28 hby 4 rfl) rfl ?_
  refine XS.icmpYes X0.here hx rfl (pc0 := 24) (pc' := 31) rfl (d28 hby 5 rfl) rfl (flt hc24).2.2.2 (by decide) (by decide) ?_
  refine XS.bipush X0.here hx rfl (d28 hby 6 rfl) ?_
  show Steps p.tables e below (T0.setTop (mkF m 33 #[.val (.int px), .val (.int 0), .val (.int pp), .val (.int pd)] [(.int 10)])) _
  refine XS.iloadN X0.here hx rfl (d28 hby 7 rfl) rfl ?_
  refine XS.imul X0.here hx rfl (d28 hby 8 rfl) rfl ?_
  refine XS.istoreN X0.here hx rfl (d28 hby 9 rfl) rfl (l' := #[.val (.int px), .val (.int 0), .val (.int ((10 : Int32) * pp)), .val (.int pd)]) rfl ?_
  refine XS.iinc X0.here hx rfl (d28 hby 10 rfl) rfl (l' := #[.val (.int px), .val (.int 0), .val (.int ((10 : Int32) * pp)), .val (.int (pd + (1 : Int32)))]) rfl ?_
  refine XS.goto X0.here hx rfl (pc0 := 39) (pc' := 16) rfl (d28 hby 11 rfl) (by decide) (by decide) ?_
  exact kt
theorem tse {p : Program} {l : Launch} {e : Env} {s : State} {m : MethodId} {args : Array Value} {below : List Frame} {meth : Method} {c : Code} {T0 : State} {locs : List Loc} {Z : State} {a0 : Array Value} (hw : ∀ d ∈ tables_1, d.before a0 Z = true) (px pp pd : Int32) (h0 : Heap) (n0 : Nat) (X0 : Stand p l e ({ frames := 0, cells := 0, slots := 0, locals := 0 } : Room) s m args below meth c T0 locs 0 0) (N0 : Fr n0 locs) (hx : p.tables.exec = Jvm.exec) (hZ : Z.Warmed39 s.vm) (hby : c.code = jdk_33_method_13_code) (hml : c.maxLocals = 4) (hown : s.vm.findClass "java/lang/Integer" = some m.cls) (e0 : T0.heap = h0) (O0 : Old Z n0 h0) (hc19 : pd < (10 : Int32)) (hc24 : pp < px) :
    ∃ (T' : State) (locs' : List Loc), Stand p l e ({ frames := 0, cells := 0, slots := 0, locals := 0 } : Room) s m args below meth c T' locs' 0 0 ∧ Fr n0 locs' ∧ T'.heap = h0 ∧
      ∀ target, Steps p.tables e below (T'.setTop (mkF m 30 #[.val (.int px), .val (.int 0), .val (.int pp), .val (.int pd)] [(.int (pd + (0 : Int32)))])) target → Steps p.tables e below (T0.setTop (mkF m 16 #[.val (.int px), .val (.int 0), .val (.int pp), .val (.int pd)] [])) target := by
  have Z0 : n0 ≤ h0.size := O0.1 ▸ O0.2.1
  refine ⟨T0, _, X0, N0, e0, fun target kt => ?_⟩
  show Steps p.tables e below (T0.setTop (mkF m 16 #[.val (.int px), .val (.int 0), .val (.int pp), .val (.int pd)] [])) _
  refine XS.iloadN X0.here hx rfl (d28 hby 0 rfl) rfl ?_
  refine XS.bipush X0.here hx rfl (d28 hby 1 rfl) ?_
  refine XS.icmpNo X0.here hx rfl (d28 hby 2 rfl) rfl (tlt hc19).2.1 ?_
  refine XS.iloadN X0.here hx rfl (d28 hby 3 rfl) rfl ?_
  refine XS.iloadN X0.here hx rfl (d28 hby 4 rfl) rfl ?_
  refine XS.icmpNo X0.here hx rfl (d28 hby 5 rfl) rfl (tlt hc24).2.2.2 ?_
  refine XS.iloadN X0.here hx rfl (d28 hby 12 rfl) rfl ?_
  show Steps p.tables e below (T0.setTop (mkF m 28 #[.val (.int px), .val (.int 0), .val (.int pp), .val (.int pd)] [(.int pd)])) _
  refine XS.iloadN X0.here hx rfl (d28 hby 13 rfl) rfl ?_
  refine XS.iadd X0.here hx rfl (d28 hby 14 rfl) rfl ?_
  exact kt
def own_L30 : List (Nat × Instr × Nat) := [(22, .iload_n 0, 1), (23, .bipush (-100), 2), (25, .if_icmp .gt 47, 3), (28, .iload_n 0, 1), (29, .bipush 100, 2), (31, .idiv, 1), (32, .istore_n 3, 1), (33, .iload_n 3, 1), (34, .bipush 100, 2), (36, .imul, 1), (37, .iload_n 0, 1), (38, .isub, 1), (39, .istore 4, 2), (41, .iload_n 3, 1), (42, .istore_n 0, 1), (43, .aload_n 2, 1), (44, .iinc 5 (-1), 3), (47, .iload 5, 2), (49, .getstatic 83, 3), (52, .iload 4, 2), (54, .baload, 1), (55, .bastore, 1), (56, .aload_n 2, 1), (57, .iinc 5 (-1), 3), (60, .iload 5, 2), (62, .getstatic 87, 3), (65, .iload 4, 2), (67, .baload, 1), (68, .bastore, 1), (69, .goto (-47), 3), (72, .aload_n 2, 1), (73, .iinc 5 (-1), 3), (76, .iload 5, 2), (78, .getstatic 83, 3), (81, .iload_n 0, 1), (82, .ineg, 1), (83, .baload, 1), (84, .bastore, 1), (85, .iload_n 0, 1), (86, .bipush (-9), 2), (88, .if_icmp .ge 16, 3), (104, .iload 6, 2), (106, .ifCond .eq 12, 3), (91, .aload_n 2, 1), (92, .iinc 5 (-1), 3), (95, .iload 5, 2), (97, .getstatic 87, 3), (100, .iload_n 0, 1), (101, .ineg, 1), (102, .baload, 1), (103, .bastore, 1), (0, .iload_n 1, 1), (1, .istore 5, 2), (3, .iload_n 0, 1), (4, .ifCond .ge 7, 3), (11, .iconst 0, 1), (12, .istore 6, 2), (14, .iload 6, 2), (16, .ifCond .ne 6, 3), (19, .iload_n 0, 1), (20, .ineg, 1), (21, .istore_n 0, 1), (118, .iload 5, 2), (120, .ireturn, 1)]
theorem own_K30 : ∀ x ∈ own_L30, decode jdk_33_method_12_code x.1 = .ok x.2 := by decide +kernel
theorem d30 {c : Code} (hby : c.code = jdk_33_method_12_code) (i : Nat) {k n : Nat} {a : Instr} (h : own_L30[i]? = some (k, a, n)) : decode c.code k = .ok (a, n) := own_dL own_K30 hby h
/-- a local that is unset or holds an int -/
def own_one (x : Slot) : Prop := x = .unset ∨ ∃ v : Int32, x = .val (.int v)
theorem own_arrkeep {Z : State} {h h' : Heap} {a : Addr} {c : Cell} {ty : FieldType} {ws : List Addr} (A : Arr Z h a c ty) (K : Keep h h' ws) (q : a ∉ ws) : Arr Z h' a c ty := ⟨K.2.1 _ _ A.1 q, A.2⟩
theorem tgt {p : Program} {l : Launch} {e : Env} {s : State} {m : MethodId} {args : Array Value} {below : List Frame} {meth : Method} {c : Code} {T0 : State} {locs : List Loc} {Z : State} {a0 : Array Value} (hw : ∀ d ∈ tables_1, d.before a0 Z = true) (px cp : Int32) (a3 : Addr) (s1 s3 s4 : Slot) (k9 : ClassId) (nn : Int32) (vs : List Value) (w1 : Addr) (cl3 : Cell) (w4 : Int32) (w9 : Addr) (cl11 : Cell) (w13 : Int32) (h0 : Heap) (n0 : Nat) (X0 : Stand p l e ({ frames := 0, cells := 0, slots := 0, locals := 0 } : Room) s m args below meth c T0 locs 0 0) (N0 : Fr n0 locs) (hx : p.tables.exec = Jvm.exec) (hZ : Z.Warmed39 s.vm) (hby : c.code = jdk_33_method_12_code) (hml : c.maxLocals = 7) (hown : s.vm.findClass "java/lang/Integer" = some m.cls) (e0 : T0.heap = h0) (O0 : Old Z n0 h0) (HV_a3 : Arv Z h0 a3 k9 .byte nn vs (.int 0)) (hc25 : ¬ ((-100 : Int32) < px)) (hsl32 : own_one s3) (hsl39 : own_one s4) (S_DigitOnes : Sta Z Z.heap "java/lang/Integer" "DigitOnes" "[B" (.ref w1)) (HA_w1 : Arr Z h0 w1 cl3 .byte) (hin54 : ¬ ((((px / (100 : Int32)) * (100 : Int32)) - px) < 0 ∨ cl3.slots.size ≤ ((((px / (100 : Int32)) * (100 : Int32)) - px)).toNatClampNeg)) (hat54 : cl3.slots[((((px / (100 : Int32)) * (100 : Int32)) - px)).toNatClampNeg]? = some (.int w4)) (hge55 : ¬ ((cp + (-1 : Int32)) < (0 : Int32))) (hlt55 : (cp + (-1 : Int32)) < nn) (g_a3 : n0 ≤ a3) (hln55 : ((cp + (-1 : Int32))).toNatClampNeg < vs.length) (S_DigitTens : Sta Z Z.heap "java/lang/Integer" "DigitTens" "[B" (.ref w9)) (HA_w9 : Arr Z h0 w9 cl11 .byte) (ne_w9_a3 : w9 ≠ a3) (hin67 : ¬ ((((px / (100 : Int32)) * (100 : Int32)) - px) < 0 ∨ cl11.slots.size ≤ ((((px / (100 : Int32)) * (100 : Int32)) - px)).toNatClampNeg)) (hat67 : cl11.slots[((((px / (100 : Int32)) * (100 : Int32)) - px)).toNatClampNeg]? = some (.int w13)) (hge68 : ¬ (((cp + (-1 : Int32)) + (-1 : Int32)) < (0 : Int32))) (hlt68 : ((cp + (-1 : Int32)) + (-1 : Int32)) < nn) (hln68 : (((cp + (-1 : Int32)) + (-1 : Int32))).toNatClampNeg < vs.length) :
    ∃ (T' : State) (locs' : List Loc) (h' : Heap), Stand p l e ({ frames := 0, cells := 0, slots := 0, locals := 0 } : Room) s m args below meth c T' locs' 0 0 ∧ Fr n0 locs' ∧ T'.heap = h' ∧ Keep h0 h' [a3] ∧ Arv Z h' a3 k9 .byte nn ((vs.set ((cp + (-1 : Int32))).toNatClampNeg (.int w4.toInt8.toInt32)).set (((cp + (-1 : Int32)) + (-1 : Int32))).toNatClampNeg (.int w13.toInt8.toInt32)) (.int 0) ∧
      ∀ target, Steps p.tables e below (T'.setTop (mkF m 22 #[.val (.int (px / (100 : Int32))), s1, .val (.ref a3), .val (.int (px / (100 : Int32))), .val (.int (((px / (100 : Int32)) * (100 : Int32)) - px)), .val (.int ((cp + (-1 : Int32)) + (-1 : Int32))), .val (.int 0)] [])) target → Steps p.tables e below (T0.setTop (mkF m 22 #[.val (.int px), s1, .val (.ref a3), s3, s4, .val (.int cp), .val (.int 0)] [])) target := by
  have Z0 : n0 ≤ h0.size := O0.1 ▸ O0.2.1
  obtain ⟨T2, X2, e2, st2⟩ := getS2 X0 hx hZ hown (host := "") (Or.inl (own_w hw 176 rfl)) Via.refl e0 (S_DigitOnes.ext O0.2) (g := (mkF m 49 #[.val (.int (px / (100 : Int32))), s1, .val (.ref a3), .val (.int (px / (100 : Int32))), .val (.int (((px / (100 : Int32)) * (100 : Int32)) - px)), .val (.int (cp + (-1 : Int32))), .val (.int 0)] [(.int (cp + (-1 : Int32))), (.ref a3)])) rfl (d30 hby 18 rfl)
  obtain ⟨cl5, Ar5, q5, S5, Nn5, Hh5, G5⟩ := id HV_a3
  have hin5 : ¬ ((cp + (-1 : Int32)) < 0 ∨ cl5.slots.size ≤ ((cp + (-1 : Int32))).toNatClampNeg) := inb_of S5 ⟨hge55, hlt55⟩
  obtain ⟨T6, h6, X6, e6, W6, st6⟩ := stB X2 hx hZ e2 Ar5 (j := (cp + (-1 : Int32))) hin5 (g := (mkF m 55 #[.val (.int (px / (100 : Int32))), s1, .val (.ref a3), .val (.int (px / (100 : Int32))), .val (.int (((px / (100 : Int32)) * (100 : Int32)) - px)), .val (.int (cp + (-1 : Int32))), .val (.int 0)] [(.int w4), (.int (cp + (-1 : Int32))), (.ref a3)])) rfl rfl (d30 hby 21 rfl)
  have N6 := Fr.snoc X6 N0 g_a3
  have K7 : Keep h0 h6 [a3] := (Keep.refl h0 [a3]).wr W6 (Or.inl (List.mem_of_getElem? (i := 0) rfl))
  have O8 : Old Z n0 h6 := O0.wr W6 g_a3
  have V6 : Arv Z h6 a3 k9 .byte nn (vs.set ((cp + (-1 : Int32))).toNatClampNeg (.int w4.toInt8.toInt32)) (.int 0) := Arv.set Ar5 q5 S5 Nn5 Hh5 G5 (fits_nar_byte _) W6 ((cp + (-1 : Int32))).toNatClampNeg rfl hln55
  obtain ⟨T10, X10, e10, st10⟩ := getS2 X6 hx hZ hown (host := "") (Or.inl (own_w hw 242 rfl)) Via.refl e6 (S_DigitTens.ext O8.2) (g := (mkF m 62 #[.val (.int (px / (100 : Int32))), s1, .val (.ref a3), .val (.int (px / (100 : Int32))), .val (.int (((px / (100 : Int32)) * (100 : Int32)) - px)), .val (.int ((cp + (-1 : Int32)) + (-1 : Int32))), .val (.int 0)] [(.int ((cp + (-1 : Int32)) + (-1 : Int32))), (.ref a3)])) rfl (d30 hby 25 rfl)
  have f12 := (HA_w9.other W6 ne_w9_a3)
  obtain ⟨cl14, Ar14, q14, S14, Nn14, Hh14, G14⟩ := id V6
  have hin14 : ¬ (((cp + (-1 : Int32)) + (-1 : Int32)) < 0 ∨ cl14.slots.size ≤ (((cp + (-1 : Int32)) + (-1 : Int32))).toNatClampNeg) := inb_of S14 ⟨hge68, hlt68⟩
  obtain ⟨T15, h15, X15, e15, W15, st15⟩ := stB X10 hx hZ e10 Ar14 (j := ((cp + (-1 : Int32)) + (-1 : Int32))) hin14 (g := (mkF m 68 #[.val (.int (px / (100 : Int32))), s1, .val (.ref a3), .val (.int (px / (100 : Int32))), .val (.int (((px / (100 : Int32)) * (100 : Int32)) - px)), .val (.int ((cp + (-1 : Int32)) + (-1 : Int32))), .val (.int 0)] [(.int w13), (.int ((cp + (-1 : Int32)) + (-1 : Int32))), (.ref a3)])) rfl rfl (d30 hby 28 rfl)
  have N15 := Fr.snoc X15 N6 g_a3
  have K16 : Keep h0 h15 [a3] := K7.wr W15 (Or.inl (List.mem_of_getElem? (i := 0) rfl))
  have O17 : Old Z n0 h15 := O8.wr W15 g_a3
  have V15 : Arv Z h15 a3 k9 .byte nn ((vs.set ((cp + (-1 : Int32))).toNatClampNeg (.int w4.toInt8.toInt32)).set (((cp + (-1 : Int32)) + (-1 : Int32))).toNatClampNeg (.int w13.toInt8.toInt32)) (.int 0) := Arv.set Ar14 q14 S14 Nn14 Hh14 G14 (fits_nar_byte _) W15 (((cp + (-1 : Int32)) + (-1 : Int32))).toNatClampNeg rfl (by simpa using hln68)
  refine ⟨T15, _, _, X15, N15, e15, K16, V15, fun target kt => ?_⟩
  show Steps p.tables e below (T0.setTop (mkF m 22 #[.val (.int px), s1, .val (.ref a3), s3, s4, .val (.int cp), .val (.int 0)] [])) _
  refine XS.iloadN X0.here hx rfl (d30 hby 0 rfl) rfl ?_
  refine XS.bipush X0.here hx rfl (d30 hby 1 rfl) ?_
  refine XS.icmpNo X0.here hx rfl (d30 hby 2 rfl) rfl (flt hc25).2.2.1 ?_
  refine XS.iloadN X0.here hx rfl (d30 hby 3 rfl) rfl ?_
  refine XS.bipush X0.here hx rfl (d30 hby 4 rfl) ?_
  show Steps p.tables e below (T0.setTop (mkF m 31 #[.val (.int px), s1, .val (.ref a3), s3, s4, .val (.int cp), .val (.int 0)] [(.int 100), (.int px)])) _
  refine XS.idiv X0.here hx rfl (d30 hby 5 rfl) rfl (by decide : ¬ ((100 : Int32) = (0 : Int32))) ?_
  refine XS.istoreN X0.here hx rfl (d30 hby 6 rfl) rfl (l' := #[.val (.int px), s1, .val (.ref a3), .val (.int (px / (100 : Int32))), s4, .val (.int cp), .val (.int 0)]) (by rcases hsl32 with rfl | ⟨_, rfl⟩ <;> rfl) ?_
  refine XS.iloadN X0.here hx rfl (d30 hby 7 rfl) rfl ?_
  refine XS.bipush X0.here hx rfl (d30 hby 8 rfl) ?_
  refine XS.imul X0.here hx rfl (d30 hby 9 rfl) rfl ?_
  refine XS.iloadN X0.here hx rfl (d30 hby 10 rfl) rfl ?_
  refine XS.isub X0.here hx rfl (d30 hby 11 rfl) rfl ?_
  show Steps p.tables e below (T0.setTop (mkF m 39 #[.val (.int px), s1, .val (.ref a3), .val (.int (px / (100 : Int32))), s4, .val (.int cp), .val (.int 0)] [(.int (((px / (100 : Int32)) * (100 : Int32)) - px))])) _
  refine XS.istore X0.here hx rfl (d30 hby 12 rfl) rfl (l' := #[.val (.int px), s1, .val (.ref a3), .val (.int (px / (100 : Int32))), .val (.int (((px / (100 : Int32)) * (100 : Int32)) - px)), .val (.int cp), .val (.int 0)]) (by rcases hsl39 with rfl | ⟨_, rfl⟩ <;> rfl) ?_
  refine XS.iloadN X0.here hx rfl (d30 hby 13 rfl) rfl ?_
  refine XS.istoreN X0.here hx rfl (d30 hby 14 rfl) rfl (l' := #[.val (.int (px / (100 : Int32))), s1, .val (.ref a3), .val (.int (px / (100 : Int32))), .val (.int (((px / (100 : Int32)) * (100 : Int32)) - px)), .val (.int cp), .val (.int 0)]) rfl ?_
  refine XS.aloadN X0.here hx rfl (d30 hby 15 rfl) rfl rfl ?_
  refine XS.iinc X0.here hx rfl (d30 hby 16 rfl) rfl (l' := #[.val (.int (px / (100 : Int32))), s1, .val (.ref a3), .val (.int (px / (100 : Int32))), .val (.int (((px / (100 : Int32)) * (100 : Int32)) - px)), .val (.int (cp + (-1 : Int32))), .val (.int 0)]) rfl ?_
  refine XS.iload X0.here hx rfl (d30 hby 17 rfl) rfl ?_
  refine st2 _ ?_
  refine XS.iload X2.here hx rfl (d30 hby 19 rfl) rfl ?_
  show Steps p.tables e below (T2.setTop (mkF m 54 #[.val (.int (px / (100 : Int32))), s1, .val (.ref a3), .val (.int (px / (100 : Int32))), .val (.int (((px / (100 : Int32)) * (100 : Int32)) - px)), .val (.int (cp + (-1 : Int32))), .val (.int 0)] [(.int (((px / (100 : Int32)) * (100 : Int32)) - px)), (.ref w1), (.int (cp + (-1 : Int32))), (.ref a3)])) _
  refine X2.baloadBytes hx (j := (((px / (100 : Int32)) * (100 : Int32)) - px)) (v := (.int w4)) (by rw [e2]; exact HA_w1.1) (State.isArrayOf_alike hZ.alike HA_w1.2.1) HA_w1.2.2 hin54 hat54 (g := (mkF m 54 #[.val (.int (px / (100 : Int32))), s1, .val (.ref a3), .val (.int (px / (100 : Int32))), .val (.int (((px / (100 : Int32)) * (100 : Int32)) - px)), .val (.int (cp + (-1 : Int32))), .val (.int 0)] [(.int (((px / (100 : Int32)) * (100 : Int32)) - px)), (.ref w1), (.int (cp + (-1 : Int32))), (.ref a3)])) rfl rfl (d30 hby 20 rfl) _ ?_
  refine st6 _ ?_
  refine XS.aloadN X6.here hx rfl (d30 hby 22 rfl) rfl rfl ?_
  refine XS.iinc X6.here hx rfl (d30 hby 23 rfl) rfl (l' := #[.val (.int (px / (100 : Int32))), s1, .val (.ref a3), .val (.int (px / (100 : Int32))), .val (.int (((px / (100 : Int32)) * (100 : Int32)) - px)), .val (.int ((cp + (-1 : Int32)) + (-1 : Int32))), .val (.int 0)]) rfl ?_
  refine XS.iload X6.here hx rfl (d30 hby 24 rfl) rfl ?_
  refine st10 _ ?_
  refine XS.iload X10.here hx rfl (d30 hby 26 rfl) rfl ?_
  show Steps p.tables e below (T10.setTop (mkF m 67 #[.val (.int (px / (100 : Int32))), s1, .val (.ref a3), .val (.int (px / (100 : Int32))), .val (.int (((px / (100 : Int32)) * (100 : Int32)) - px)), .val (.int ((cp + (-1 : Int32)) + (-1 : Int32))), .val (.int 0)] [(.int (((px / (100 : Int32)) * (100 : Int32)) - px)), (.ref w9), (.int ((cp + (-1 : Int32)) + (-1 : Int32))), (.ref a3)])) _
  refine X10.baloadBytes hx (j := (((px / (100 : Int32)) * (100 : Int32)) - px)) (v := (.int w13)) (by rw [e10]; exact f12.1) (State.isArrayOf_alike hZ.alike f12.2.1) f12.2.2 hin67 hat67 (g := (mkF m 67 #[.val (.int (px / (100 : Int32))), s1, .val (.ref a3), .val (.int (px / (100 : Int32))), .val (.int (((px / (100 : Int32)) * (100 : Int32)) - px)), .val (.int ((cp + (-1 : Int32)) + (-1 : Int32))), .val (.int 0)] [(.int (((px / (100 : Int32)) * (100 : Int32)) - px)), (.ref w9), (.int ((cp + (-1 : Int32)) + (-1 : Int32))), (.ref a3)])) rfl rfl (d30 hby 27 rfl) _ ?_
  refine st15 _ ?_
  refine XS.goto X15.here hx rfl (pc0 := 69) (pc' := 22) rfl (d30 hby 29 rfl) (by decide) (by decide) ?_
  exact kt
theorem tge1 {p : Program} {l : Launch} {e : Env} {s : State} {m : MethodId} {args : Array Value} {below : List Frame} {meth : Method} {c : Code} {T0 : State} {locs : List Loc} {Z : State} {a0 : Array Value} (hw : ∀ d ∈ tables_1, d.before a0 Z = true) (px cp : Int32) (a3 : Addr) (s1 s3 s4 : Slot) (k9 : ClassId) (nn : Int32) (vs : List Value) (w1 : Addr) (cl3 : Cell) (w4 : Int32) (h0 : Heap) (n0 : Nat) (X0 : Stand p l e ({ frames := 0, cells := 0, slots := 0, locals := 0 } : Room) s m args below meth c T0 locs 0 0) (N0 : Fr n0 locs) (hx : p.tables.exec = Jvm.exec) (hZ : Z.Warmed39 s.vm) (hby : c.code = jdk_33_method_12_code) (hml : c.maxLocals = 7) (hown : s.vm.findClass "java/lang/Integer" = some m.cls) (e0 : T0.heap = h0) (O0 : Old Z n0 h0) (HV_a3 : Arv Z h0 a3 k9 .byte nn vs (.int 0)) (hc25 : (-100 : Int32) < px) (S_DigitOnes : Sta Z Z.heap "java/lang/Integer" "DigitOnes" "[B" (.ref w1)) (HA_w1 : Arr Z h0 w1 cl3 .byte) (hin83 : ¬ ((-px) < 0 ∨ cl3.slots.size ≤ ((-px)).toNatClampNeg)) (hat83 : cl3.slots[((-px)).toNatClampNeg]? = some (.int w4)) (hge84 : ¬ ((cp + (-1 : Int32)) < (0 : Int32))) (hlt84 : (cp + (-1 : Int32)) < nn) (g_a3 : n0 ≤ a3) (hln84 : ((cp + (-1 : Int32))).toNatClampNeg < vs.length) (hc88 : ¬ (px < (-9 : Int32))) :
    ∃ (T' : State) (locs' : List Loc) (h' : Heap), Stand p l e ({ frames := 0, cells := 0, slots := 0, locals := 0 } : Room) s m args below meth c T' locs' 0 0 ∧ Fr n0 locs' ∧ T'.heap = h' ∧ Keep h0 h' [a3] ∧ Arv Z h' a3 k9 .byte nn (vs.set ((cp + (-1 : Int32))).toNatClampNeg (.int w4.toInt8.toInt32)) (.int 0) ∧
      ∀ target, Steps p.tables e below (T'.setTop (mkF m 118 #[.val (.int px), s1, .val (.ref a3), s3, s4, .val (.int (cp + (-1 : Int32))), .val (.int 0)] [])) target → Steps p.tables e below (T0.setTop (mkF m 22 #[.val (.int px), s1, .val (.ref a3), s3, s4, .val (.int cp), .val (.int 0)] [])) target := by
  have Z0 : n0 ≤ h0.size := O0.1 ▸ O0.2.1
  obtain ⟨T2, X2, e2, st2⟩ := getS2 X0 hx hZ hown (host := "") (Or.inl (own_w hw 176 rfl)) Via.refl e0 (S_DigitOnes.ext O0.2) (g := (mkF m 78 #[.val (.int px), s1, .val (.ref a3), s3, s4, .val (.int (cp + (-1 : Int32))), .val (.int 0)] [(.int (cp + (-1 : Int32))), (.ref a3)])) rfl (d30 hby 33 rfl)
  obtain ⟨cl5, Ar5, q5, S5, Nn5, Hh5, G5⟩ := id HV_a3
  have hin5 : ¬ ((cp + (-1 : Int32)) < 0 ∨ cl5.slots.size ≤ ((cp + (-1 : Int32))).toNatClampNeg) := inb_of S5 ⟨hge84, hlt84⟩
  obtain ⟨T6, h6, X6, e6, W6, st6⟩ := stB X2 hx hZ e2 Ar5 (j := (cp + (-1 : Int32))) hin5 (g := (mkF m 84 #[.val (.int px), s1, .val (.ref a3), s3, s4, .val (.int (cp + (-1 : Int32))), .val (.int 0)] [(.int w4), (.int (cp + (-1 : Int32))), (.ref a3)])) rfl rfl (d30 hby 37 rfl)
  have N6 := Fr.snoc X6 N0 g_a3
  have K7 : Keep h0 h6 [a3] := (Keep.refl h0 [a3]).wr W6 (Or.inl (List.mem_of_getElem? (i := 0) rfl))
  have O8 : Old Z n0 h6 := O0.wr W6 g_a3
  have V6 : Arv Z h6 a3 k9 .byte nn (vs.set ((cp + (-1 : Int32))).toNatClampNeg (.int w4.toInt8.toInt32)) (.int 0) := Arv.set Ar5 q5 S5 Nn5 Hh5 G5 (fits_nar_byte _) W6 ((cp + (-1 : Int32))).toNatClampNeg rfl hln84
  refine ⟨T6, _, _, X6, N6, e6, K7, V6, fun target kt => ?_⟩
  show Steps p.tables e below (T0.setTop (mkF m 22 #[.val (.int px), s1, .val (.ref a3), s3, s4, .val (.int cp), .val (.int 0)] [])) _
  refine XS.iloadN X0.here hx rfl (d30 hby 0 rfl) rfl ?_
  refine XS.bipush X0.here hx rfl (d30 hby 1 rfl) ?_
  refine XS.icmpYes X0.here hx rfl (pc0 := 25) (pc' := 72) rfl (d30 hby 2 rfl) rfl (tlt hc25).2.2.1 (by decide) (by decide) ?_
  refine XS.aloadN X0.here hx rfl (d30 hby 30 rfl) rfl rfl ?_
  refine XS.iinc X0.here hx rfl (d30 hby 31 rfl) rfl (l' := #[.val (.int px), s1, .val (.ref a3), s3, s4, .val (.int (cp + (-1 : Int32))), .val (.int 0)]) rfl ?_
  refine XS.iload X0.here hx rfl (d30 hby 32 rfl) rfl ?_
  refine st2 _ ?_
  refine XS.iloadN X2.here hx rfl (d30 hby 34 rfl) rfl ?_
  refine XS.ineg X2.here hx rfl (d30 hby 35 rfl) rfl ?_
  show Steps p.tables e below (T2.setTop (mkF m 83 #[.val (.int px), s1, .val (.ref a3), s3, s4, .val (.int (cp + (-1 : Int32))), .val (.int 0)] [(.int (-px)), (.ref w1), (.int (cp + (-1 : Int32))), (.ref a3)])) _
  refine X2.baloadBytes hx (j := (-px)) (v := (.int w4)) (by rw [e2]; exact HA_w1.1) (State.isArrayOf_alike hZ.alike HA_w1.2.1) HA_w1.2.2 hin83 hat83 (g := (mkF m 83 #[.val (.int px), s1, .val (.ref a3), s3, s4, .val (.int (cp + (-1 : Int32))), .val (.int 0)] [(.int (-px)), (.ref w1), (.int (cp + (-1 : Int32))), (.ref a3)])) rfl rfl (d30 hby 36 rfl) _ ?_
  refine st6 _ ?_
  refine XS.iloadN X6.here hx rfl (d30 hby 38 rfl) rfl ?_
  refine XS.bipush X6.here hx rfl (d30 hby 39 rfl) ?_
  refine XS.icmpYes X6.here hx rfl (pc0 := 88) (pc' := 104) rfl (d30 hby 40 rfl) rfl (flt hc88).2.1 (by decide) (by decide) ?_
  refine XS.iload X6.here hx rfl (d30 hby 41 rfl) rfl ?_
  refine XS.ifYes X6.here hx rfl (pc0 := 106) (pc' := 118) rfl (d30 hby 42 rfl) rfl ((if0 _ _).trans (teq (by decide : (0 : Int32) = (0 : Int32))).1) (by decide) (by decide) ?_
  exact kt
theorem tge2 {p : Program} {l : Launch} {e : Env} {s : State} {m : MethodId} {args : Array Value} {below : List Frame} {meth : Method} {c : Code} {T0 : State} {locs : List Loc} {Z : State} {a0 : Array Value} (hw : ∀ d ∈ tables_1, d.before a0 Z = true) (px cp : Int32) (a3 : Addr) (s1 s3 s4 : Slot) (k9 : ClassId) (nn : Int32) (vs : List Value) (w1 : Addr) (cl3 : Cell) (w4 : Int32) (w9 : Addr) (cl11 : Cell) (w13 : Int32) (h0 : Heap) (n0 : Nat) (X0 : Stand p l e ({ frames := 0, cells := 0, slots := 0, locals := 0 } : Room) s m args below meth c T0 locs 0 0) (N0 : Fr n0 locs) (hx : p.tables.exec = Jvm.exec) (hZ : Z.Warmed39 s.vm) (hby : c.code = jdk_33_method_12_code) (hml : c.maxLocals = 7) (hown : s.vm.findClass "java/lang/Integer" = some m.cls) (e0 : T0.heap = h0) (O0 : Old Z n0 h0) (HV_a3 : Arv Z h0 a3 k9 .byte nn vs (.int 0)) (hc25 : (-100 : Int32) < px) (S_DigitOnes : Sta Z Z.heap "java/lang/Integer" "DigitOnes" "[B" (.ref w1)) (HA_w1 : Arr Z h0 w1 cl3 .byte) (hin83 : ¬ ((-px) < 0 ∨ cl3.slots.size ≤ ((-px)).toNatClampNeg)) (hat83 : cl3.slots[((-px)).toNatClampNeg]? = some (.int w4)) (hge84 : ¬ ((cp + (-1 : Int32)) < (0 : Int32))) (hlt84 : (cp + (-1 : Int32)) < nn) (g_a3 : n0 ≤ a3) (hln84 : ((cp + (-1 : Int32))).toNatClampNeg < vs.length) (hc88 : px < (-9 : Int32)) (S_DigitTens : Sta Z Z.heap "java/lang/Integer" "DigitTens" "[B" (.ref w9)) (HA_w9 : Arr Z h0 w9 cl11 .byte) (ne_w9_a3 : w9 ≠ a3) (hin102 : ¬ ((-px) < 0 ∨ cl11.slots.size ≤ ((-px)).toNatClampNeg)) (hat102 : cl11.slots[((-px)).toNatClampNeg]? = some (.int w13)) (hge103 : ¬ (((cp + (-1 : Int32)) + (-1 : Int32)) < (0 : Int32))) (hlt103 : ((cp + (-1 : Int32)) + (-1 : Int32)) < nn) (hln103 : (((cp + (-1 : Int32)) + (-1 : Int32))).toNatClampNeg < vs.length) :
    ∃ (T' : State) (locs' : List Loc) (h' : Heap), Stand p l e ({ frames := 0, cells := 0, slots := 0, locals := 0 } : Room) s m args below meth c T' locs' 0 0 ∧ Fr n0 locs' ∧ T'.heap = h' ∧ Keep h0 h' [a3] ∧ Arv Z h' a3 k9 .byte nn ((vs.set ((cp + (-1 : Int32))).toNatClampNeg (.int w4.toInt8.toInt32)).set (((cp + (-1 : Int32)) + (-1 : Int32))).toNatClampNeg (.int w13.toInt8.toInt32)) (.int 0) ∧
      ∀ target, Steps p.tables e below (T'.setTop (mkF m 118 #[.val (.int px), s1, .val (.ref a3), s3, s4, .val (.int ((cp + (-1 : Int32)) + (-1 : Int32))), .val (.int 0)] [])) target → Steps p.tables e below (T0.setTop (mkF m 22 #[.val (.int px), s1, .val (.ref a3), s3, s4, .val (.int cp), .val (.int 0)] [])) target := by
  have Z0 : n0 ≤ h0.size := O0.1 ▸ O0.2.1
  obtain ⟨T2, X2, e2, st2⟩ := getS2 X0 hx hZ hown (host := "") (Or.inl (own_w hw 176 rfl)) Via.refl e0 (S_DigitOnes.ext O0.2) (g := (mkF m 78 #[.val (.int px), s1, .val (.ref a3), s3, s4, .val (.int (cp + (-1 : Int32))), .val (.int 0)] [(.int (cp + (-1 : Int32))), (.ref a3)])) rfl (d30 hby 33 rfl)
  obtain ⟨cl5, Ar5, q5, S5, Nn5, Hh5, G5⟩ := id HV_a3
  have hin5 : ¬ ((cp + (-1 : Int32)) < 0 ∨ cl5.slots.size ≤ ((cp + (-1 : Int32))).toNatClampNeg) := inb_of S5 ⟨hge84, hlt84⟩
  obtain ⟨T6, h6, X6, e6, W6, st6⟩ := stB X2 hx hZ e2 Ar5 (j := (cp + (-1 : Int32))) hin5 (g := (mkF m 84 #[.val (.int px), s1, .val (.ref a3), s3, s4, .val (.int (cp + (-1 : Int32))), .val (.int 0)] [(.int w4), (.int (cp + (-1 : Int32))), (.ref a3)])) rfl rfl (d30 hby 37 rfl)
  have N6 := Fr.snoc X6 N0 g_a3
  have K7 : Keep h0 h6 [a3] := (Keep.refl h0 [a3]).wr W6 (Or.inl (List.mem_of_getElem? (i := 0) rfl))
  have O8 : Old Z n0 h6 := O0.wr W6 g_a3
  have V6 : Arv Z h6 a3 k9 .byte nn (vs.set ((cp + (-1 : Int32))).toNatClampNeg (.int w4.toInt8.toInt32)) (.int 0) := Arv.set Ar5 q5 S5 Nn5 Hh5 G5 (fits_nar_byte _) W6 ((cp + (-1 : Int32))).toNatClampNeg rfl hln84
  obtain ⟨T10, X10, e10, st10⟩ := getS2 X6 hx hZ hown (host := "") (Or.inl (own_w hw 242 rfl)) Via.refl e6 (S_DigitTens.ext O8.2) (g := (mkF m 97 #[.val (.int px), s1, .val (.ref a3), s3, s4, .val (.int ((cp + (-1 : Int32)) + (-1 : Int32))), .val (.int 0)] [(.int ((cp + (-1 : Int32)) + (-1 : Int32))), (.ref a3)])) rfl (d30 hby 46 rfl)
  have f12 := (HA_w9.other W6 ne_w9_a3)
  obtain ⟨cl14, Ar14, q14, S14, Nn14, Hh14, G14⟩ := id V6
  have hin14 : ¬ (((cp + (-1 : Int32)) + (-1 : Int32)) < 0 ∨ cl14.slots.size ≤ (((cp + (-1 : Int32)) + (-1 : Int32))).toNatClampNeg) := inb_of S14 ⟨hge103, hlt103⟩
  obtain ⟨T15, h15, X15, e15, W15, st15⟩ := stB X10 hx hZ e10 Ar14 (j := ((cp + (-1 : Int32)) + (-1 : Int32))) hin14 (g := (mkF m 103 #[.val (.int px), s1, .val (.ref a3), s3, s4, .val (.int ((cp + (-1 : Int32)) + (-1 : Int32))), .val (.int 0)] [(.int w13), (.int ((cp + (-1 : Int32)) + (-1 : Int32))), (.ref a3)])) rfl rfl (d30 hby 50 rfl)
  have N15 := Fr.snoc X15 N6 g_a3
  have K16 : Keep h0 h15 [a3] := K7.wr W15 (Or.inl (List.mem_of_getElem? (i := 0) rfl))
  have O17 : Old Z n0 h15 := O8.wr W15 g_a3
  have V15 : Arv Z h15 a3 k9 .byte nn ((vs.set ((cp + (-1 : Int32))).toNatClampNeg (.int w4.toInt8.toInt32)).set (((cp + (-1 : Int32)) + (-1 : Int32))).toNatClampNeg (.int w13.toInt8.toInt32)) (.int 0) := Arv.set Ar14 q14 S14 Nn14 Hh14 G14 (fits_nar_byte _) W15 (((cp + (-1 : Int32)) + (-1 : Int32))).toNatClampNeg rfl (by simpa using hln103)
  refine ⟨T15, _, _, X15, N15, e15, K16, V15, fun target kt => ?_⟩
  show Steps p.tables e below (T0.setTop (mkF m 22 #[.val (.int px), s1, .val (.ref a3), s3, s4, .val (.int cp), .val (.int 0)] [])) _
  refine XS.iloadN X0.here hx rfl (d30 hby 0 rfl) rfl ?_
  refine XS.bipush X0.here hx rfl (d30 hby 1 rfl) ?_
  refine XS.icmpYes X0.here hx rfl (pc0 := 25) (pc' := 72) rfl (d30 hby 2 rfl) rfl (tlt hc25).2.2.1 (by decide) (by decide) ?_
  refine XS.aloadN X0.here hx rfl (d30 hby 30 rfl) rfl rfl ?_
  refine XS.iinc X0.here hx rfl (d30 hby 31 rfl) rfl (l' := #[.val (.int px), s1, .val (.ref a3), s3, s4, .val (.int (cp + (-1 : Int32))), .val (.int 0)]) rfl ?_
  refine XS.iload X0.here hx rfl (d30 hby 32 rfl) rfl ?_
  refine st2 _ ?_
  refine XS.iloadN X2.here hx rfl (d30 hby 34 rfl) rfl ?_
  refine XS.ineg X2.here hx rfl (d30 hby 35 rfl) rfl ?_
  show Steps p.tables e below (T2.setTop (mkF m 83 #[.val (.int px), s1, .val (.ref a3), s3, s4, .val (.int (cp + (-1 : Int32))), .val (.int 0)] [(.int (-px)), (.ref w1), (.int (cp + (-1 : Int32))), (.ref a3)])) _
  refine X2.baloadBytes hx (j := (-px)) (v := (.int w4)) (by rw [e2]; exact HA_w1.1) (State.isArrayOf_alike hZ.alike HA_w1.2.1) HA_w1.2.2 hin83 hat83 (g := (mkF m 83 #[.val (.int px), s1, .val (.ref a3), s3, s4, .val (.int (cp + (-1 : Int32))), .val (.int 0)] [(.int (-px)), (.ref w1), (.int (cp + (-1 : Int32))), (.ref a3)])) rfl rfl (d30 hby 36 rfl) _ ?_
  refine st6 _ ?_
  refine XS.iloadN X6.here hx rfl (d30 hby 38 rfl) rfl ?_
  refine XS.bipush X6.here hx rfl (d30 hby 39 rfl) ?_
  refine XS.icmpNo X6.here hx rfl (d30 hby 40 rfl) rfl (tlt hc88).2.1 ?_
  refine XS.aloadN X6.here hx rfl (d30 hby 43 rfl) rfl rfl ?_
  refine XS.iinc X6.here hx rfl (d30 hby 44 rfl) rfl (l' := #[.val (.int px), s1, .val (.ref a3), s3, s4, .val (.int ((cp + (-1 : Int32)) + (-1 : Int32))), .val (.int 0)]) rfl ?_
  refine XS.iload X6.here hx rfl (d30 hby 45 rfl) rfl ?_
  show Steps p.tables e below (T6.setTop (mkF m 97 #[.val (.int px), s1, .val (.ref a3), s3, s4, .val (.int ((cp + (-1 : Int32)) + (-1 : Int32))), .val (.int 0)] [(.int ((cp + (-1 : Int32)) + (-1 : Int32))), (.ref a3)])) _
  refine st10 _ ?_
  refine XS.iloadN X10.here hx rfl (d30 hby 47 rfl) rfl ?_
  refine XS.ineg X10.here hx rfl (d30 hby 48 rfl) rfl ?_
  show Steps p.tables e below (T10.setTop (mkF m 102 #[.val (.int px), s1, .val (.ref a3), s3, s4, .val (.int ((cp + (-1 : Int32)) + (-1 : Int32))), .val (.int 0)] [(.int (-px)), (.ref w9), (.int ((cp + (-1 : Int32)) + (-1 : Int32))), (.ref a3)])) _
  refine X10.baloadBytes hx (j := (-px)) (v := (.int w13)) (by rw [e10]; exact f12.1) (State.isArrayOf_alike hZ.alike f12.2.1) f12.2.2 hin102 hat102 (g := (mkF m 102 #[.val (.int px), s1, .val (.ref a3), s3, s4, .val (.int ((cp + (-1 : Int32)) + (-1 : Int32))), .val (.int 0)] [(.int (-px)), (.ref w9), (.int ((cp + (-1 : Int32)) + (-1 : Int32))), (.ref a3)])) rfl rfl (d30 hby 49 rfl) _ ?_
  refine st15 _ ?_
  refine XS.iload X15.here hx rfl (d30 hby 41 rfl) rfl ?_
  refine XS.ifYes X15.here hx rfl (pc0 := 106) (pc' := 118) rfl (d30 hby 42 rfl) rfl ((if0 _ _).trans (teq (by decide : (0 : Int32) = (0 : Int32))).1) (by decide) (by decide) ?_
  exact kt
def Q28d1 (Z : State) (p1 : Int32) (h0 : Heap) (n0 : Nat) (v : Option Value) (h : Heap) (L : List Loc) : Prop := v = some (.int ((1 : Int32) + (0 : Int32))) ∧ Fr n0 L ∧ h = h0
theorem ef_28 (m : MethodId) (x0 : Int32) : entryFrame m #[(.int x0)] 4 = mkF m 0 #[.val (.int x0), .unset, .unset, .unset] [] := by first | (simp [entryFrame, mkF, argsToLocals, Value.category]; done) | rfl
theorem pnc_java_lang_Integer : plainName "java/lang/Integer" = true := by first | (simp [plainName, overriddenIn]; done) | decide +kernel
theorem rm28d1 (l : Launch) (Z : State) (a0 : Array Value) (hw : ∀ d ∈ tables_1, d.before a0 Z = true) (ws : List Jvm.Cond) (p1 : Int32) (h0 : Heap) (n0 : Nat) (O0 : Old Z n0 h0) (hc3 : ¬ (p1 < (0 : Int32))) (h16_hc24 : (-10 : Int32) < (-p1)) :
    own_C l Z (⟨"java/lang/Integer", "stringSize", "(I)I"⟩ : MethodName) jdk_33_method_13_code 4 (some .int) ws ({ frames := 0, cells := 0, slots := 0, locals := 0 } : Room) #[(.int p1)] h0 (Q28d1 Z p1 h0 n0) := by
  refine own_intro (plainFor_of_name pnc_java_lang_Integer) fun p e s m below meth c s₁ hx hby hml hown hnm hZ e0 hret X0 => ?_
  have N0 := Fr.nil n0
  have Z0 : n0 ≤ h0.size := O0.1 ▸ O0.2.1
  obtain ⟨T2, L2, X2, N2, e2, st2⟩ := tse hw ((-p1)) ((-10 : Int32)) ((1 : Int32)) h0 n0 X0 N0 hx hZ hby hml hown e0 O0 (by decide : (1 : Int32) < (10 : Int32)) h16_hc24
  refine ⟨T2, _, _, _, some (.int ((1 : Int32) + (0 : Int32))), X2, by decide, by decide, nofun, ?_, fun fs hr => castTop (ef_28 m p1) ?_⟩
  · show Q28d1 Z p1 h0 n0 _ T2.heap _
    rw [e2]
    exact ⟨rfl, N2, rfl⟩
  · show Steps p.tables e below (s₁.setTop (mkF m 0 #[.val (.int p1), .unset, .unset, .unset] [])) _
    refine XS.iconst X0.here hx rfl (d28 hby 15 rfl) ?_
    refine XS.istoreN X0.here hx rfl (d28 hby 16 rfl) rfl (l' := #[.val (.int p1), .val (.int 1), .unset, .unset]) rfl ?_
    refine XS.iloadN X0.here hx rfl (d28 hby 17 rfl) rfl ?_
    refine XS.ifNo X0.here hx rfl (d28 hby 18 rfl) rfl ((if0 _ _).trans (flt hc3).1) ?_
    refine XS.iconst X0.here hx rfl (d28 hby 19 rfl) ?_
    refine XS.istoreN X0.here hx rfl (d28 hby 20 rfl) rfl (l' := #[.val (.int p1), .val (.int 0), .unset, .unset]) rfl ?_
    refine XS.iloadN X0.here hx rfl (d28 hby 21 rfl) rfl ?_
    show Steps p.tables e below (s₁.setTop (mkF m 9 #[.val (.int p1), .val (.int 0), .unset, .unset] [(.int p1)])) _
    refine XS.ineg X0.here hx rfl (d28 hby 22 rfl) rfl ?_
    refine XS.istoreN X0.here hx rfl (d28 hby 23 rfl) rfl (l' := #[.val (.int (-p1)), .val (.int 0), .unset, .unset]) rfl ?_
    refine XS.bipush X0.here hx rfl (d28 hby 24 rfl) ?_
    refine XS.istoreN X0.here hx rfl (d28 hby 25 rfl) rfl (l' := #[.val (.int (-p1)), .val (.int 0), .val (.int (-10 : Int32)), .unset]) rfl ?_
    refine XS.iconst X0.here hx rfl (d28 hby 26 rfl) ?_
    refine XS.istoreN X0.here hx rfl (d28 hby 27 rfl) rfl (l' := #[.val (.int (-p1)), .val (.int 0), .val (.int (-10 : Int32)), .val (.int 1)]) rfl ?_
    show Steps p.tables e below (s₁.setTop (mkF m 16 #[.val (.int (-p1)), .val (.int 0), .val (.int (-10 : Int32)), .val (.int 1)] [])) _
    refine st2 _ ?_
    exact own_retI X2 hx hret (d28 hby 28 rfl) hr
def Q30d1 (Z : State) (p1 p2 : Int32) (a3 : Addr) (k9 : ClassId) (nn : Int32) (vs : List Value) (w4 : Addr) (v5 : Cell) (w6 : Int32) (h0 : Heap) (n0 : Nat) (v : Option Value) (h : Heap) (L : List Loc) : Prop := v = some (.int (p2 + (-1 : Int32))) ∧ Fr n0 L ∧ Keep h0 h [a3] ∧ Arv Z h a3 k9 .byte nn (vs.set ((p2 + (-1 : Int32))).toNatClampNeg (.int w6.toInt8.toInt32)) (.int 0)
theorem ef_30 (m : MethodId) (x0 : Int32) (x1 : Int32) (x2 : Addr) : entryFrame m #[(.int x0), (.int x1), (.ref x2)] 7 = mkF m 0 #[.val (.int x0), .val (.int x1), .val (.ref x2), .unset, .unset, .unset, .unset] [] := by first | (simp [entryFrame, mkF, argsToLocals, Value.category]; done) | rfl
theorem rm30d1 (l : Launch) (Z : State) (a0 : Array Value) (hw : ∀ d ∈ tables_1, d.before a0 Z = true) (ws : List Jvm.Cond) (p1 p2 : Int32) (a3 : Addr) (k9 : ClassId) (nn : Int32) (vs : List Value) (w4 : Addr) (v5 : Cell) (w6 : Int32) (h0 : Heap) (n0 : Nat) (O0 : Old Z n0 h0) (HV_a3 : Arv Z h0 a3 k9 .byte nn vs (.int 0)) (hc4 : ¬ (p1 < (0 : Int32))) (S_DigitOnes : Sta Z Z.heap "java/lang/Integer" "DigitOnes" "[B" (.ref w4)) (HA_w4 : Arr Z h0 w4 v5 .byte) (h22_hc25 : (-100 : Int32) < (-p1)) (h22_hin83 : ¬ ((-(-p1)) < 0 ∨ v5.slots.size ≤ ((-(-p1))).toNatClampNeg)) (h22_hat83 : v5.slots[((-(-p1))).toNatClampNeg]? = some (.int w6)) (h22_hge84 : ¬ ((p2 + (-1 : Int32)) < (0 : Int32))) (h22_hlt84 : (p2 + (-1 : Int32)) < nn) (g_a3 : n0 ≤ a3) (h22_hln84 : ((p2 + (-1 : Int32))).toNatClampNeg < vs.length) (h22_hc88 : ¬ ((-p1) < (-9 : Int32))) :
    own_C l Z (⟨"java/lang/Integer", "getChars", "(II[B)I"⟩ : MethodName) jdk_33_method_12_code 7 (some .int) ws ({ frames := 0, cells := 0, slots := 0, locals := 0 } : Room) #[(.int p1), (.int p2), (.ref a3)] h0 (Q30d1 Z p1 p2 a3 k9 nn vs w4 v5 w6 h0 n0) := by
  refine own_intro (plainFor_of_name pnc_java_lang_Integer) fun p e s m below meth c s₁ hx hby hml hown hnm hZ e0 hret X0 => ?_
  have N0 := Fr.nil n0
  have Z0 : n0 ≤ h0.size := O0.1 ▸ O0.2.1
  obtain ⟨T7, L7, h7, X7, N7, e7, K7, Y7_0, st7⟩ := tge1 hw ((-p1)) p2 a3 ((.val (.int p2))) ((.unset)) ((.unset)) k9 nn vs w4 v5 w6 h0 n0 X0 N0 hx hZ hby hml hown e0 O0 HV_a3 h22_hc25 S_DigitOnes HA_w4 h22_hin83 h22_hat83 h22_hge84 h22_hlt84 g_a3 h22_hln84 h22_hc88
  have K8 : Keep h0 h7 [a3] := (Keep.refl h0 [a3]).trans K7 (allS (Or.inl (List.mem_of_getElem? (i := 0) rfl)) all0)
  have O9 : Old Z n0 h7 := O0.keep K7 (allS g_a3 all0)
  refine ⟨T7, _, _, _, some (.int (p2 + (-1 : Int32))), X7, by decide, by decide, nofun, ?_, fun fs hr => castTop (ef_30 m p1 p2 a3) ?_⟩
  · show Q30d1 Z p1 p2 a3 k9 nn vs w4 v5 w6 h0 n0 _ T7.heap _
    rw [e7]
    exact ⟨rfl, N7, K8, Y7_0⟩
  · show Steps p.tables e below (s₁.setTop (mkF m 0 #[.val (.int p1), .val (.int p2), .val (.ref a3), .unset, .unset, .unset, .unset] [])) _
    refine XS.iloadN X0.here hx rfl (d30 hby 51 rfl) rfl ?_
    refine XS.istore X0.here hx rfl (d30 hby 52 rfl) rfl (l' := #[.val (.int p1), .val (.int p2), .val (.ref a3), .unset, .unset, .val (.int p2), .unset]) rfl ?_
    refine XS.iloadN X0.here hx rfl (d30 hby 53 rfl) rfl ?_
    refine XS.ifYes X0.here hx rfl (pc0 := 4) (pc' := 11) rfl (d30 hby 54 rfl) rfl ((if0 _ _).trans (flt hc4).2.1) (by decide) (by decide) ?_
    refine XS.iconst X0.here hx rfl (d30 hby 55 rfl) ?_
    refine XS.istore X0.here hx rfl (d30 hby 56 rfl) rfl (l' := #[.val (.int p1), .val (.int p2), .val (.ref a3), .unset, .unset, .val (.int p2), .val (.int 0)]) rfl ?_
    refine XS.iload X0.here hx rfl (d30 hby 57 rfl) rfl ?_
    show Steps p.tables e below (s₁.setTop (mkF m 16 #[.val (.int p1), .val (.int p2), .val (.ref a3), .unset, .unset, .val (.int p2), .val (.int 0)] [(.int 0)])) _
    refine XS.ifNo X0.here hx rfl (d30 hby 58 rfl) rfl ((if0 _ _).trans (teq (by decide : (0 : Int32) = (0 : Int32))).2) ?_
    refine XS.iloadN X0.here hx rfl (d30 hby 59 rfl) rfl ?_
    refine XS.ineg X0.here hx rfl (d30 hby 60 rfl) rfl ?_
    refine XS.istoreN X0.here hx rfl (d30 hby 61 rfl) rfl (l' := #[.val (.int (-p1)), .val (.int p2), .val (.ref a3), .unset, .unset, .val (.int p2), .val (.int 0)]) rfl ?_
    show Steps p.tables e below (s₁.setTop (mkF m 22 #[.val (.int (-p1)), .val (.int p2), .val (.ref a3), .unset, .unset, .val (.int p2), .val (.int 0)] [])) _
    refine st7 _ ?_
    refine XS.iload X7.here hx rfl (d30 hby 62 rfl) rfl ?_
    exact own_retI X7 hx hret (d30 hby 63 rfl) hr
def Q28d2 (Z : State) (p1 : Int32) (h0 : Heap) (n0 : Nat) (v : Option Value) (h : Heap) (L : List Loc) : Prop := v = some (.int ((2 : Int32) + (0 : Int32))) ∧ Fr n0 L ∧ h = h0
theorem rm28d2 (l : Launch) (Z : State) (a0 : Array Value) (hw : ∀ d ∈ tables_1, d.before a0 Z = true) (ws : List Jvm.Cond) (p1 : Int32) (h0 : Heap) (n0 : Nat) (O0 : Old Z n0 h0) (hc3 : ¬ (p1 < (0 : Int32))) (h16_hc24 : ¬ ((-10 : Int32) < (-p1))) (h16_hc24_1 : (-100 : Int32) < (-p1)) :
    own_C l Z (⟨"java/lang/Integer", "stringSize", "(I)I"⟩ : MethodName) jdk_33_method_13_code 4 (some .int) ws ({ frames := 0, cells := 0, slots := 0, locals := 0 } : Room) #[(.int p1)] h0 (Q28d2 Z p1 h0 n0) := by
  refine own_intro (plainFor_of_name pnc_java_lang_Integer) fun p e s m below meth c s₁ hx hby hml hown hnm hZ e0 hret X0 => ?_
  have N0 := Fr.nil n0
  have Z0 : n0 ≤ h0.size := O0.1 ▸ O0.2.1
  obtain ⟨T2, L2, X2, N2, e2, st2⟩ := tss hw ((-p1)) ((-10 : Int32)) ((1 : Int32)) h0 n0 X0 N0 hx hZ hby hml hown e0 O0 (by decide : (1 : Int32) < (10 : Int32)) h16_hc24
  obtain ⟨T3, L3, X3, N3, e3, st3⟩ := tse hw ((-p1)) ((-100 : Int32)) ((2 : Int32)) h0 n0 X2 N2 hx hZ hby hml hown e2 O0 (by decide : (2 : Int32) < (10 : Int32)) h16_hc24_1
  refine ⟨T3, _, _, _, some (.int ((2 : Int32) + (0 : Int32))), X3, by decide, by decide, nofun, ?_, fun fs hr => castTop (ef_28 m p1) ?_⟩
  · show Q28d2 Z p1 h0 n0 _ T3.heap _
    rw [e3]
    exact ⟨rfl, N3, rfl⟩
  · show Steps p.tables e below (s₁.setTop (mkF m 0 #[.val (.int p1), .unset, .unset, .unset] [])) _
    refine XS.iconst X0.here hx rfl (d28 hby 15 rfl) ?_
    refine XS.istoreN X0.here hx rfl (d28 hby 16 rfl) rfl (l' := #[.val (.int p1), .val (.int 1), .unset, .unset]) rfl ?_
    refine XS.iloadN X0.here hx rfl (d28 hby 17 rfl) rfl ?_
    refine XS.ifNo X0.here hx rfl (d28 hby 18 rfl) rfl ((if0 _ _).trans (flt hc3).1) ?_
    refine XS.iconst X0.here hx rfl (d28 hby 19 rfl) ?_
    refine XS.istoreN X0.here hx rfl (d28 hby 20 rfl) rfl (l' := #[.val (.int p1), .val (.int 0), .unset, .unset]) rfl ?_
    refine XS.iloadN X0.here hx rfl (d28 hby 21 rfl) rfl ?_
    show Steps p.tables e below (s₁.setTop (mkF m 9 #[.val (.int p1), .val (.int 0), .unset, .unset] [(.int p1)])) _
    refine XS.ineg X0.here hx rfl (d28 hby 22 rfl) rfl ?_
    refine XS.istoreN X0.here hx rfl (d28 hby 23 rfl) rfl (l' := #[.val (.int (-p1)), .val (.int 0), .unset, .unset]) rfl ?_
    refine XS.bipush X0.here hx rfl (d28 hby 24 rfl) ?_
    refine XS.istoreN X0.here hx rfl (d28 hby 25 rfl) rfl (l' := #[.val (.int (-p1)), .val (.int 0), .val (.int (-10 : Int32)), .unset]) rfl ?_
    refine XS.iconst X0.here hx rfl (d28 hby 26 rfl) ?_
    refine XS.istoreN X0.here hx rfl (d28 hby 27 rfl) rfl (l' := #[.val (.int (-p1)), .val (.int 0), .val (.int (-10 : Int32)), .val (.int 1)]) rfl ?_
    show Steps p.tables e below (s₁.setTop (mkF m 16 #[.val (.int (-p1)), .val (.int 0), .val (.int (-10 : Int32)), .val (.int 1)] [])) _
    refine st2 _ ?_
    show Steps p.tables e below (T2.setTop (mkF m 16 #[.val (.int (-p1)), .val (.int 0), .val (.int (-100 : Int32)), .val (.int 2)] [])) _
    refine st3 _ ?_
    exact own_retI X3 hx hret (d28 hby 28 rfl) hr
def Q30d2 (Z : State) (p1 p2 : Int32) (a3 : Addr) (k9 : ClassId) (nn : Int32) (vs : List Value) (w4 : Addr) (v5 : Cell) (w6 : Addr) (v7 : Cell) (w8 w9 : Int32) (h0 : Heap) (n0 : Nat) (v : Option Value) (h : Heap) (L : List Loc) : Prop := v = some (.int ((p2 + (-1 : Int32)) + (-1 : Int32))) ∧ Fr n0 L ∧ Keep h0 h [a3] ∧ Arv Z h a3 k9 .byte nn ((vs.set ((p2 + (-1 : Int32))).toNatClampNeg (.int w8.toInt8.toInt32)).set (((p2 + (-1 : Int32)) + (-1 : Int32))).toNatClampNeg (.int w9.toInt8.toInt32)) (.int 0)
theorem rm30d2 (l : Launch) (Z : State) (a0 : Array Value) (hw : ∀ d ∈ tables_1, d.before a0 Z = true) (ws : List Jvm.Cond) (p1 p2 : Int32) (a3 : Addr) (k9 : ClassId) (nn : Int32) (vs : List Value) (w4 : Addr) (v5 : Cell) (w6 : Addr) (v7 : Cell) (w8 w9 : Int32) (h0 : Heap) (n0 : Nat) (O0 : Old Z n0 h0) (HV_a3 : Arv Z h0 a3 k9 .byte nn vs (.int 0)) (hc4 : ¬ (p1 < (0 : Int32))) (S_DigitOnes : Sta Z Z.heap "java/lang/Integer" "DigitOnes" "[B" (.ref w4)) (HA_w4 : Arr Z h0 w4 v5 .byte) (S_DigitTens : Sta Z Z.heap "java/lang/Integer" "DigitTens" "[B" (.ref w6)) (HA_w6 : Arr Z h0 w6 v7 .byte) (h22_hc25 : (-100 : Int32) < (-p1)) (h22_hin83 : ¬ ((-(-p1)) < 0 ∨ v5.slots.size ≤ ((-(-p1))).toNatClampNeg)) (h22_hat83 : v5.slots[((-(-p1))).toNatClampNeg]? = some (.int w8)) (h22_hge84 : ¬ ((p2 + (-1 : Int32)) < (0 : Int32))) (h22_hlt84 : (p2 + (-1 : Int32)) < nn) (g_a3 : n0 ≤ a3) (h22_hln84 : ((p2 + (-1 : Int32))).toNatClampNeg < vs.length) (h22_hc88 : (-p1) < (-9 : Int32)) (ne_w6_a3 : w6 ≠ a3) (h22_hin102 : ¬ ((-(-p1)) < 0 ∨ v7.slots.size ≤ ((-(-p1))).toNatClampNeg)) (h22_hat102 : v7.slots[((-(-p1))).toNatClampNeg]? = some (.int w9)) (h22_hge103 : ¬ (((p2 + (-1 : Int32)) + (-1 : Int32)) < (0 : Int32))) (h22_hlt103 : ((p2 + (-1 : Int32)) + (-1 : Int32)) < nn) (h22_hln103 : (((p2 + (-1 : Int32)) + (-1 : Int32))).toNatClampNeg < vs.length) :
    own_C l Z (⟨"java/lang/Integer", "getChars", "(II[B)I"⟩ : MethodName) jdk_33_method_12_code 7 (some .int) ws ({ frames := 0, cells := 0, slots := 0, locals := 0 } : Room) #[(.int p1), (.int p2), (.ref a3)] h0 (Q30d2 Z p1 p2 a3 k9 nn vs w4 v5 w6 v7 w8 w9 h0 n0) := by
  refine own_intro (plainFor_of_name pnc_java_lang_Integer) fun p e s m below meth c s₁ hx hby hml hown hnm hZ e0 hret X0 => ?_
  have N0 := Fr.nil n0
  have Z0 : n0 ≤ h0.size := O0.1 ▸ O0.2.1
  obtain ⟨T10, L10, h10, X10, N10, e10, K10, Y10_0, st10⟩ := tge2 hw ((-p1)) p2 a3 ((.val (.int p2))) ((.unset)) ((.unset)) k9 nn vs w4 v5 w8 w6 v7 w9 h0 n0 X0 N0 hx hZ hby hml hown e0 O0 HV_a3 h22_hc25 S_DigitOnes HA_w4 h22_hin83 h22_hat83 h22_hge84 h22_hlt84 g_a3 h22_hln84 h22_hc88 S_DigitTens HA_w6 ne_w6_a3 h22_hin102 h22_hat102 h22_hge103 h22_hlt103 h22_hln103
  have K11 : Keep h0 h10 [a3] := (Keep.refl h0 [a3]).trans K10 (allS (Or.inl (List.mem_of_getElem? (i := 0) rfl)) all0)
  have O12 : Old Z n0 h10 := O0.keep K10 (allS g_a3 all0)
  refine ⟨T10, _, _, _, some (.int ((p2 + (-1 : Int32)) + (-1 : Int32))), X10, by decide, by decide, nofun, ?_, fun fs hr => castTop (ef_30 m p1 p2 a3) ?_⟩
  · show Q30d2 Z p1 p2 a3 k9 nn vs w4 v5 w6 v7 w8 w9 h0 n0 _ T10.heap _
    rw [e10]
    exact ⟨rfl, N10, K11, Y10_0⟩
  · show Steps p.tables e below (s₁.setTop (mkF m 0 #[.val (.int p1), .val (.int p2), .val (.ref a3), .unset, .unset, .unset, .unset] [])) _
    refine XS.iloadN X0.here hx rfl (d30 hby 51 rfl) rfl ?_
    refine XS.istore X0.here hx rfl (d30 hby 52 rfl) rfl (l' := #[.val (.int p1), .val (.int p2), .val (.ref a3), .unset, .unset, .val (.int p2), .unset]) rfl ?_
    refine XS.iloadN X0.here hx rfl (d30 hby 53 rfl) rfl ?_
    refine XS.ifYes X0.here hx rfl (pc0 := 4) (pc' := 11) rfl (d30 hby 54 rfl) rfl ((if0 _ _).trans (flt hc4).2.1) (by decide) (by decide) ?_
    refine XS.iconst X0.here hx rfl (d30 hby 55 rfl) ?_
    refine XS.istore X0.here hx rfl (d30 hby 56 rfl) rfl (l' := #[.val (.int p1), .val (.int p2), .val (.ref a3), .unset, .unset, .val (.int p2), .val (.int 0)]) rfl ?_
    refine XS.iload X0.here hx rfl (d30 hby 57 rfl) rfl ?_
    show Steps p.tables e below (s₁.setTop (mkF m 16 #[.val (.int p1), .val (.int p2), .val (.ref a3), .unset, .unset, .val (.int p2), .val (.int 0)] [(.int 0)])) _
    refine XS.ifNo X0.here hx rfl (d30 hby 58 rfl) rfl ((if0 _ _).trans (teq (by decide : (0 : Int32) = (0 : Int32))).2) ?_
    refine XS.iloadN X0.here hx rfl (d30 hby 59 rfl) rfl ?_
    refine XS.ineg X0.here hx rfl (d30 hby 60 rfl) rfl ?_
    refine XS.istoreN X0.here hx rfl (d30 hby 61 rfl) rfl (l' := #[.val (.int (-p1)), .val (.int p2), .val (.ref a3), .unset, .unset, .val (.int p2), .val (.int 0)]) rfl ?_
    show Steps p.tables e below (s₁.setTop (mkF m 22 #[.val (.int (-p1)), .val (.int p2), .val (.ref a3), .unset, .unset, .val (.int p2), .val (.int 0)] [])) _
    refine st10 _ ?_
    refine XS.iload X10.here hx rfl (d30 hby 62 rfl) rfl ?_
    exact own_retI X10 hx hret (d30 hby 63 rfl) hr
def Q28d3 (Z : State) (p1 : Int32) (h0 : Heap) (n0 : Nat) (v : Option Value) (h : Heap) (L : List Loc) : Prop := v = some (.int ((3 : Int32) + (0 : Int32))) ∧ Fr n0 L ∧ h = h0
theorem rm28d3 (l : Launch) (Z : State) (a0 : Array Value) (hw : ∀ d ∈ tables_1, d.before a0 Z = true) (ws : List Jvm.Cond) (p1 : Int32) (h0 : Heap) (n0 : Nat) (O0 : Old Z n0 h0) (hc3 : ¬ (p1 < (0 : Int32))) (h16_hc24 : ¬ ((-10 : Int32) < (-p1))) (h16_hc24_1 : ¬ ((-100 : Int32) < (-p1))) (h16_hc24_2 : (-1000 : Int32) < (-p1)) :
    own_C l Z (⟨"java/lang/Integer", "stringSize", "(I)I"⟩ : MethodName) jdk_33_method_13_code 4 (some .int) ws ({ frames := 0, cells := 0, slots := 0, locals := 0 } : Room) #[(.int p1)] h0 (Q28d3 Z p1 h0 n0) := by
  refine own_intro (plainFor_of_name pnc_java_lang_Integer) fun p e s m below meth c s₁ hx hby hml hown hnm hZ e0 hret X0 => ?_
  have N0 := Fr.nil n0
  have Z0 : n0 ≤ h0.size := O0.1 ▸ O0.2.1
  obtain ⟨T2, L2, X2, N2, e2, st2⟩ := tss hw ((-p1)) ((-10 : Int32)) ((1 : Int32)) h0 n0 X0 N0 hx hZ hby hml hown e0 O0 (by decide : (1 : Int32) < (10 : Int32)) h16_hc24
  obtain ⟨T3, L3, X3, N3, e3, st3⟩ := tss hw ((-p1)) ((-100 : Int32)) ((2 : Int32)) h0 n0 X2 N2 hx hZ hby hml hown e2 O0 (by decide : (2 : Int32) < (10 : Int32)) h16_hc24_1
  obtain ⟨T4, L4, X4, N4, e4, st4⟩ := tse hw ((-p1)) ((-1000 : Int32)) ((3 : Int32)) h0 n0 X3 N3 hx hZ hby hml hown e3 O0 (by decide : (3 : Int32) < (10 : Int32)) h16_hc24_2
  refine ⟨T4, _, _, _, some (.int ((3 : Int32) + (0 : Int32))), X4, by decide, by decide, nofun, ?_, fun fs hr => castTop (ef_28 m p1) ?_⟩
  · show Q28d3 Z p1 h0 n0 _ T4.heap _
    rw [e4]
    exact ⟨rfl, N4, rfl⟩
  · show Steps p.tables e below (s₁.setTop (mkF m 0 #[.val (.int p1), .unset, .unset, .unset] [])) _
    refine XS.iconst X0.here hx rfl (d28 hby 15 rfl) ?_
    refine XS.istoreN X0.here hx rfl (d28 hby 16 rfl) rfl (l' := #[.val (.int p1), .val (.int 1), .unset, .unset]) rfl ?_
    refine XS.iloadN X0.here hx rfl (d28 hby 17 rfl) rfl ?_
    refine XS.ifNo X0.here hx rfl (d28 hby 18 rfl) rfl ((if0 _ _).trans (flt hc3).1) ?_
    refine XS.iconst X0.here hx rfl (d28 hby 19 rfl) ?_
    refine XS.istoreN X0.here hx rfl (d28 hby 20 rfl) rfl (l' := #[.val (.int p1), .val (.int 0), .unset, .unset]) rfl ?_
    refine XS.iloadN X0.here hx rfl (d28 hby 21 rfl) rfl ?_
    show Steps p.tables e below (s₁.setTop (mkF m 9 #[.val (.int p1), .val (.int 0), .unset, .unset] [(.int p1)])) _
    refine XS.ineg X0.here hx rfl (d28 hby 22 rfl) rfl ?_
    refine XS.istoreN X0.here hx rfl (d28 hby 23 rfl) rfl (l' := #[.val (.int (-p1)), .val (.int 0), .unset, .unset]) rfl ?_
    refine XS.bipush X0.here hx rfl (d28 hby 24 rfl) ?_
    refine XS.istoreN X0.here hx rfl (d28 hby 25 rfl) rfl (l' := #[.val (.int (-p1)), .val (.int 0), .val (.int (-10 : Int32)), .unset]) rfl ?_
    refine XS.iconst X0.here hx rfl (d28 hby 26 rfl) ?_
    refine XS.istoreN X0.here hx rfl (d28 hby 27 rfl) rfl (l' := #[.val (.int (-p1)), .val (.int 0), .val (.int (-10 : Int32)), .val (.int 1)]) rfl ?_
    show Steps p.tables e below (s₁.setTop (mkF m 16 #[.val (.int (-p1)), .val (.int 0), .val (.int (-10 : Int32)), .val (.int 1)] [])) _
    refine st2 _ ?_
    show Steps p.tables e below (T2.setTop (mkF m 16 #[.val (.int (-p1)), .val (.int 0), .val (.int (-100 : Int32)), .val (.int 2)] [])) _
    refine st3 _ ?_
    show Steps p.tables e below (T3.setTop (mkF m 16 #[.val (.int (-p1)), .val (.int 0), .val (.int (-1000 : Int32)), .val (.int 3)] [])) _
    refine st4 _ ?_
    exact own_retI X4 hx hret (d28 hby 28 rfl) hr
def Q30d3 (Z : State) (p1 p2 : Int32) (a3 : Addr) (k9 : ClassId) (nn : Int32) (vs : List Value) (w4 : Addr) (v5 : Cell) (w6 : Addr) (v7 : Cell) (w8 w9 w14 : Int32) (h0 : Heap) (n0 : Nat) (v : Option Value) (h : Heap) (L : List Loc) : Prop := v = some (.int (((p2 + (-1 : Int32)) + (-1 : Int32)) + (-1 : Int32))) ∧ Fr n0 L ∧ Keep h0 h [a3] ∧ Arv Z h a3 k9 .byte nn (((vs.set ((p2 + (-1 : Int32))).toNatClampNeg (.int w8.toInt8.toInt32)).set (((p2 + (-1 : Int32)) + (-1 : Int32))).toNatClampNeg (.int w9.toInt8.toInt32)).set ((((p2 + (-1 : Int32)) + (-1 : Int32)) + (-1 : Int32))).toNatClampNeg (.int w14.toInt8.toInt32)) (.int 0)
theorem rm30d3 (l : Launch) (Z : State) (a0 : Array Value) (hw : ∀ d ∈ tables_1, d.before a0 Z = true) (ws : List Jvm.Cond) (p1 p2 : Int32) (a3 : Addr) (k9 : ClassId) (nn : Int32) (vs : List Value) (w4 : Addr) (v5 : Cell) (w6 : Addr) (v7 : Cell) (w8 w9 w14 : Int32) (h0 : Heap) (n0 : Nat) (O0 : Old Z n0 h0) (HV_a3 : Arv Z h0 a3 k9 .byte nn vs (.int 0)) (hc4 : ¬ (p1 < (0 : Int32))) (S_DigitOnes : Sta Z Z.heap "java/lang/Integer" "DigitOnes" "[B" (.ref w4)) (HA_w4 : Arr Z h0 w4 v5 .byte) (S_DigitTens : Sta Z Z.heap "java/lang/Integer" "DigitTens" "[B" (.ref w6)) (HA_w6 : Arr Z h0 w6 v7 .byte) (h22_hc25 : ¬ ((-100 : Int32) < (-p1))) (h22_hin54 : ¬ (((((-p1) / (100 : Int32)) * (100 : Int32)) - (-p1)) < 0 ∨ v5.slots.size ≤ (((((-p1) / (100 : Int32)) * (100 : Int32)) - (-p1))).toNatClampNeg)) (h22_hat54 : v5.slots[(((((-p1) / (100 : Int32)) * (100 : Int32)) - (-p1))).toNatClampNeg]? = some (.int w8)) (h22_hge55 : ¬ ((p2 + (-1 : Int32)) < (0 : Int32))) (h22_hlt55 : (p2 + (-1 : Int32)) < nn) (g_a3 : n0 ≤ a3) (h22_hln55 : ((p2 + (-1 : Int32))).toNatClampNeg < vs.length) (ne_w6_a3 : w6 ≠ a3) (h22_hin67 : ¬ (((((-p1) / (100 : Int32)) * (100 : Int32)) - (-p1)) < 0 ∨ v7.slots.size ≤ (((((-p1) / (100 : Int32)) * (100 : Int32)) - (-p1))).toNatClampNeg)) (h22_hat67 : v7.slots[(((((-p1) / (100 : Int32)) * (100 : Int32)) - (-p1))).toNatClampNeg]? = some (.int w9)) (h22_hge68 : ¬ (((p2 + (-1 : Int32)) + (-1 : Int32)) < (0 : Int32))) (h22_hlt68 : ((p2 + (-1 : Int32)) + (-1 : Int32)) < nn) (h22_hln68 : (((p2 + (-1 : Int32)) + (-1 : Int32))).toNatClampNeg < vs.length) (ne_w4_a3 : w4 ≠ a3) (h22_hc25_1 : (-100 : Int32) < ((-p1) / (100 : Int32))) (h22_hin83 : ¬ ((-((-p1) / (100 : Int32))) < 0 ∨ v5.slots.size ≤ ((-((-p1) / (100 : Int32)))).toNatClampNeg)) (h22_hat83 : v5.slots[((-((-p1) / (100 : Int32)))).toNatClampNeg]? = some (.int w14)) (h22_hge84 : ¬ ((((p2 + (-1 : Int32)) + (-1 : Int32)) + (-1 : Int32)) < (0 : Int32))) (h22_hlt84 : (((p2 + (-1 : Int32)) + (-1 : Int32)) + (-1 : Int32)) < nn) (h22_hln84 : ((((p2 + (-1 : Int32)) + (-1 : Int32)) + (-1 : Int32))).toNatClampNeg < ((vs.set ((p2 + (-1 : Int32))).toNatClampNeg (.int w8.toInt8.toInt32)).set (((p2 + (-1 : Int32)) + (-1 : Int32))).toNatClampNeg (.int w9.toInt8.toInt32)).length) (h22_hc88 : ¬ (((-p1) / (100 : Int32)) < (-9 : Int32))) :
    own_C l Z (⟨"java/lang/Integer", "getChars", "(II[B)I"⟩ : MethodName) jdk_33_method_12_code 7 (some .int) ws ({ frames := 0, cells := 0, slots := 0, locals := 0 } : Room) #[(.int p1), (.int p2), (.ref a3)] h0 (Q30d3 Z p1 p2 a3 k9 nn vs w4 v5 w6 v7 w8 w9 w14 h0 n0) := by
  refine own_intro (plainFor_of_name pnc_java_lang_Integer) fun p e s m below meth c s₁ hx hby hml hown hnm hZ e0 hret X0 => ?_
  have N0 := Fr.nil n0
  have Z0 : n0 ≤ h0.size := O0.1 ▸ O0.2.1
  obtain ⟨T10, L10, h10, X10, N10, e10, K10, Y10_0, st10⟩ := tgt hw ((-p1)) p2 a3 ((.val (.int p2))) ((.unset)) ((.unset)) k9 nn vs w4 v5 w8 w6 v7 w9 h0 n0 X0 N0 hx hZ hby hml hown e0 O0 HV_a3 h22_hc25 (Or.inl rfl) (Or.inl rfl) S_DigitOnes HA_w4 h22_hin54 h22_hat54 h22_hge55 h22_hlt55 g_a3 h22_hln55 S_DigitTens HA_w6 ne_w6_a3 h22_hin67 h22_hat67 h22_hge68 h22_hlt68 h22_hln68
  have K11 : Keep h0 h10 [a3] := (Keep.refl h0 [a3]).trans K10 (allS (Or.inl (List.mem_of_getElem? (i := 0) rfl)) all0)
  have O12 : Old Z n0 h10 := O0.keep K10 (allS g_a3 all0)
  have f13 := (own_arrkeep HA_w4 K10 (ninS ne_w4_a3 nin0))
  obtain ⟨T15, L15, h15, X15, N15, e15, K15, Y15_0, st15⟩ := tge1 hw (((-p1) / (100 : Int32))) (((p2 + (-1 : Int32)) + (-1 : Int32))) a3 ((.val (.int p2))) ((.val (.int ((-p1) / (100 : Int32))))) ((.val (.int ((((-p1) / (100 : Int32)) * (100 : Int32)) - (-p1))))) k9 nn (((vs.set ((p2 + (-1 : Int32))).toNatClampNeg (.int w8.toInt8.toInt32)).set (((p2 + (-1 : Int32)) + (-1 : Int32))).toNatClampNeg (.int w9.toInt8.toInt32))) w4 v5 w14 h10 n0 X10 N10 hx hZ hby hml hown e10 O12 Y10_0 h22_hc25_1 S_DigitOnes f13 h22_hin83 h22_hat83 h22_hge84 h22_hlt84 g_a3 h22_hln84 h22_hc88
  have K16 : Keep h0 h15 [a3] := K11.trans K15 (allS (Or.inl (List.mem_of_getElem? (i := 0) rfl)) all0)
  have O17 : Old Z n0 h15 := O12.keep K15 (allS g_a3 all0)
  refine ⟨T15, _, _, _, some (.int (((p2 + (-1 : Int32)) + (-1 : Int32)) + (-1 : Int32))), X15, by decide, by decide, nofun, ?_, fun fs hr => castTop (ef_30 m p1 p2 a3) ?_⟩
  · show Q30d3 Z p1 p2 a3 k9 nn vs w4 v5 w6 v7 w8 w9 w14 h0 n0 _ T15.heap _
    rw [e15]
    exact ⟨rfl, N15, K16, Y15_0⟩
  · show Steps p.tables e below (s₁.setTop (mkF m 0 #[.val (.int p1), .val (.int p2), .val (.ref a3), .unset, .unset, .unset, .unset] [])) _
    refine XS.iloadN X0.here hx rfl (d30 hby 51 rfl) rfl ?_
    refine XS.istore X0.here hx rfl (d30 hby 52 rfl) rfl (l' := #[.val (.int p1), .val (.int p2), .val (.ref a3), .unset, .unset, .val (.int p2), .unset]) rfl ?_
    refine XS.iloadN X0.here hx rfl (d30 hby 53 rfl) rfl ?_
    refine XS.ifYes X0.here hx rfl (pc0 := 4) (pc' := 11) rfl (d30 hby 54 rfl) rfl ((if0 _ _).trans (flt hc4).2.1) (by decide) (by decide) ?_
    refine XS.iconst X0.here hx rfl (d30 hby 55 rfl) ?_
    refine XS.istore X0.here hx rfl (d30 hby 56 rfl) rfl (l' := #[.val (.int p1), .val (.int p2), .val (.ref a3), .unset, .unset, .val (.int p2), .val (.int 0)]) rfl ?_
    refine XS.iload X0.here hx rfl (d30 hby 57 rfl) rfl ?_
    show Steps p.tables e below (s₁.setTop (mkF m 16 #[.val (.int p1), .val (.int p2), .val (.ref a3), .unset, .unset, .val (.int p2), .val (.int 0)] [(.int 0)])) _
    refine XS.ifNo X0.here hx rfl (d30 hby 58 rfl) rfl ((if0 _ _).trans (teq (by decide : (0 : Int32) = (0 : Int32))).2) ?_
    refine XS.iloadN X0.here hx rfl (d30 hby 59 rfl) rfl ?_
    refine XS.ineg X0.here hx rfl (d30 hby 60 rfl) rfl ?_
    refine XS.istoreN X0.here hx rfl (d30 hby 61 rfl) rfl (l' := #[.val (.int (-p1)), .val (.int p2), .val (.ref a3), .unset, .unset, .val (.int p2), .val (.int 0)]) rfl ?_
    show Steps p.tables e below (s₁.setTop (mkF m 22 #[.val (.int (-p1)), .val (.int p2), .val (.ref a3), .unset, .unset, .val (.int p2), .val (.int 0)] [])) _
    refine st10 _ ?_
    show Steps p.tables e below (T10.setTop (mkF m 22 #[.val (.int ((-p1) / (100 : Int32))), .val (.int p2), .val (.ref a3), .val (.int ((-p1) / (100 : Int32))), .val (.int ((((-p1) / (100 : Int32)) * (100 : Int32)) - (-p1))), .val (.int ((p2 + (-1 : Int32)) + (-1 : Int32))), .val (.int 0)] [])) _
    refine st15 _ ?_
    refine XS.iload X15.here hx rfl (d30 hby 62 rfl) rfl ?_
    exact own_retI X15 hx hret (d30 hby 63 rfl) hr
def Q28d4 (Z : State) (p1 : Int32) (h0 : Heap) (n0 : Nat) (v : Option Value) (h : Heap) (L : List Loc) : Prop := v = some (.int ((4 : Int32) + (0 : Int32))) ∧ Fr n0 L ∧ h = h0
theorem rm28d4 (l : Launch) (Z : State) (a0 : Array Value) (hw : ∀ d ∈ tables_1, d.before a0 Z = true) (ws : List Jvm.Cond) (p1 : Int32) (h0 : Heap) (n0 : Nat) (O0 : Old Z n0 h0) (hc3 : ¬ (p1 < (0 : Int32))) (h16_hc24 : ¬ ((-10 : Int32) < (-p1))) (h16_hc24_1 : ¬ ((-100 : Int32) < (-p1))) (h16_hc24_2 : ¬ ((-1000 : Int32) < (-p1))) (h16_hc24_3 : (-10000 : Int32) < (-p1)) :
    own_C l Z (⟨"java/lang/Integer", "stringSize", "(I)I"⟩ : MethodName) jdk_33_method_13_code 4 (some .int) ws ({ frames := 0, cells := 0, slots := 0, locals := 0 } : Room) #[(.int p1)] h0 (Q28d4 Z p1 h0 n0) := by
  refine own_intro (plainFor_of_name pnc_java_lang_Integer) fun p e s m below meth c s₁ hx hby hml hown hnm hZ e0 hret X0 => ?_
  have N0 := Fr.nil n0
  have Z0 : n0 ≤ h0.size := O0.1 ▸ O0.2.1
  obtain ⟨T2, L2, X2, N2, e2, st2⟩ := tss hw ((-p1)) ((-10 : Int32)) ((1 : Int32)) h0 n0 X0 N0 hx hZ hby hml hown e0 O0 (by decide : (1 : Int32) < (10 : Int32)) h16_hc24
  obtain ⟨T3, L3, X3, N3, e3, st3⟩ := tss hw ((-p1)) ((-100 : Int32)) ((2 : Int32)) h0 n0 X2 N2 hx hZ hby hml hown e2 O0 (by decide : (2 : Int32) < (10 : Int32)) h16_hc24_1
  obtain ⟨T4, L4, X4, N4, e4, st4⟩ := tss hw ((-p1)) ((-1000 : Int32)) ((3 : Int32)) h0 n0 X3 N3 hx hZ hby hml hown e3 O0 (by decide : (3 : Int32) < (10 : Int32)) h16_hc24_2
  obtain ⟨T5, L5, X5, N5, e5, st5⟩ := tse hw ((-p1)) ((-10000 : Int32)) ((4 : Int32)) h0 n0 X4 N4 hx hZ hby hml hown e4 O0 (by decide : (4 : Int32) < (10 : Int32)) h16_hc24_3
  refine ⟨T5, _, _, _, some (.int ((4 : Int32) + (0 : Int32))), X5, by decide, by decide, nofun, ?_, fun fs hr => castTop (ef_28 m p1) ?_⟩
  · show Q28d4 Z p1 h0 n0 _ T5.heap _
    rw [e5]
    exact ⟨rfl, N5, rfl⟩
  · show Steps p.tables e below (s₁.setTop (mkF m 0 #[.val (.int p1), .unset, .unset, .unset] [])) _
    refine XS.iconst X0.here hx rfl (d28 hby 15 rfl) ?_
    refine XS.istoreN X0.here hx rfl (d28 hby 16 rfl) rfl (l' := #[.val (.int p1), .val (.int 1), .unset, .unset]) rfl ?_
    refine XS.iloadN X0.here hx rfl (d28 hby 17 rfl) rfl ?_
    refine XS.ifNo X0.here hx rfl (d28 hby 18 rfl) rfl ((if0 _ _).trans (flt hc3).1) ?_
    refine XS.iconst X0.here hx rfl (d28 hby 19 rfl) ?_
    refine XS.istoreN X0.here hx rfl (d28 hby 20 rfl) rfl (l' := #[.val (.int p1), .val (.int 0), .unset, .unset]) rfl ?_
    refine XS.iloadN X0.here hx rfl (d28 hby 21 rfl) rfl ?_
    show Steps p.tables e below (s₁.setTop (mkF m 9 #[.val (.int p1), .val (.int 0), .unset, .unset] [(.int p1)])) _
    refine XS.ineg X0.here hx rfl (d28 hby 22 rfl) rfl ?_
    refine XS.istoreN X0.here hx rfl (d28 hby 23 rfl) rfl (l' := #[.val (.int (-p1)), .val (.int 0), .unset, .unset]) rfl ?_
    refine XS.bipush X0.here hx rfl (d28 hby 24 rfl) ?_
    refine XS.istoreN X0.here hx rfl (d28 hby 25 rfl) rfl (l' := #[.val (.int (-p1)), .val (.int 0), .val (.int (-10 : Int32)), .unset]) rfl ?_
    refine XS.iconst X0.here hx rfl (d28 hby 26 rfl) ?_
    refine XS.istoreN X0.here hx rfl (d28 hby 27 rfl) rfl (l' := #[.val (.int (-p1)), .val (.int 0), .val (.int (-10 : Int32)), .val (.int 1)]) rfl ?_
    show Steps p.tables e below (s₁.setTop (mkF m 16 #[.val (.int (-p1)), .val (.int 0), .val (.int (-10 : Int32)), .val (.int 1)] [])) _
    refine st2 _ ?_
    show Steps p.tables e below (T2.setTop (mkF m 16 #[.val (.int (-p1)), .val (.int 0), .val (.int (-100 : Int32)), .val (.int 2)] [])) _
    refine st3 _ ?_
    show Steps p.tables e below (T3.setTop (mkF m 16 #[.val (.int (-p1)), .val (.int 0), .val (.int (-1000 : Int32)), .val (.int 3)] [])) _
    refine st4 _ ?_
    show Steps p.tables e below (T4.setTop (mkF m 16 #[.val (.int (-p1)), .val (.int 0), .val (.int (-10000 : Int32)), .val (.int 4)] [])) _
    refine st5 _ ?_
    exact own_retI X5 hx hret (d28 hby 28 rfl) hr
def Q30d4 (Z : State) (p1 p2 : Int32) (a3 : Addr) (k9 : ClassId) (nn : Int32) (vs : List Value) (w4 : Addr) (v5 : Cell) (w6 : Addr) (v7 : Cell) (w8 w9 w15 w16 : Int32) (h0 : Heap) (n0 : Nat) (v : Option Value) (h : Heap) (L : List Loc) : Prop := v = some (.int ((((p2 + (-1 : Int32)) + (-1 : Int32)) + (-1 : Int32)) + (-1 : Int32))) ∧ Fr n0 L ∧ Keep h0 h [a3] ∧ Arv Z h a3 k9 .byte nn ((((vs.set ((p2 + (-1 : Int32))).toNatClampNeg (.int w8.toInt8.toInt32)).set (((p2 + (-1 : Int32)) + (-1 : Int32))).toNatClampNeg (.int w9.toInt8.toInt32)).set ((((p2 + (-1 : Int32)) + (-1 : Int32)) + (-1 : Int32))).toNatClampNeg (.int w15.toInt8.toInt32)).set (((((p2 + (-1 : Int32)) + (-1 : Int32)) + (-1 : Int32)) + (-1 : Int32))).toNatClampNeg (.int w16.toInt8.toInt32)) (.int 0)
theorem rm30d4 (l : Launch) (Z : State) (a0 : Array Value) (hw : ∀ d ∈ tables_1, d.before a0 Z = true) (ws : List Jvm.Cond) (p1 p2 : Int32) (a3 : Addr) (k9 : ClassId) (nn : Int32) (vs : List Value) (w4 : Addr) (v5 : Cell) (w6 : Addr) (v7 : Cell) (w8 w9 w15 w16 : Int32) (h0 : Heap) (n0 : Nat) (O0 : Old Z n0 h0) (HV_a3 : Arv Z h0 a3 k9 .byte nn vs (.int 0)) (hc4 : ¬ (p1 < (0 : Int32))) (S_DigitOnes : Sta Z Z.heap "java/lang/Integer" "DigitOnes" "[B" (.ref w4)) (HA_w4 : Arr Z h0 w4 v5 .byte) (S_DigitTens : Sta Z Z.heap "java/lang/Integer" "DigitTens" "[B" (.ref w6)) (HA_w6 : Arr Z h0 w6 v7 .byte) (h22_hc25 : ¬ ((-100 : Int32) < (-p1))) (h22_hin54 : ¬ (((((-p1) / (100 : Int32)) * (100 : Int32)) - (-p1)) < 0 ∨ v5.slots.size ≤ (((((-p1) / (100 : Int32)) * (100 : Int32)) - (-p1))).toNatClampNeg)) (h22_hat54 : v5.slots[(((((-p1) / (100 : Int32)) * (100 : Int32)) - (-p1))).toNatClampNeg]? = some (.int w8)) (h22_hge55 : ¬ ((p2 + (-1 : Int32)) < (0 : Int32))) (h22_hlt55 : (p2 + (-1 : Int32)) < nn) (g_a3 : n0 ≤ a3) (h22_hln55 : ((p2 + (-1 : Int32))).toNatClampNeg < vs.length) (ne_w6_a3 : w6 ≠ a3) (h22_hin67 : ¬ (((((-p1) / (100 : Int32)) * (100 : Int32)) - (-p1)) < 0 ∨ v7.slots.size ≤ (((((-p1) / (100 : Int32)) * (100 : Int32)) - (-p1))).toNatClampNeg)) (h22_hat67 : v7.slots[(((((-p1) / (100 : Int32)) * (100 : Int32)) - (-p1))).toNatClampNeg]? = some (.int w9)) (h22_hge68 : ¬ (((p2 + (-1 : Int32)) + (-1 : Int32)) < (0 : Int32))) (h22_hlt68 : ((p2 + (-1 : Int32)) + (-1 : Int32)) < nn) (h22_hln68 : (((p2 + (-1 : Int32)) + (-1 : Int32))).toNatClampNeg < vs.length) (ne_w4_a3 : w4 ≠ a3) (h22_hc25_1 : (-100 : Int32) < ((-p1) / (100 : Int32))) (h22_hin83 : ¬ ((-((-p1) / (100 : Int32))) < 0 ∨ v5.slots.size ≤ ((-((-p1) / (100 : Int32)))).toNatClampNeg)) (h22_hat83 : v5.slots[((-((-p1) / (100 : Int32)))).toNatClampNeg]? = some (.int w15)) (h22_hge84 : ¬ ((((p2 + (-1 : Int32)) + (-1 : Int32)) + (-1 : Int32)) < (0 : Int32))) (h22_hlt84 : (((p2 + (-1 : Int32)) + (-1 : Int32)) + (-1 : Int32)) < nn) (h22_hln84 : ((((p2 + (-1 : Int32)) + (-1 : Int32)) + (-1 : Int32))).toNatClampNeg < ((vs.set ((p2 + (-1 : Int32))).toNatClampNeg (.int w8.toInt8.toInt32)).set (((p2 + (-1 : Int32)) + (-1 : Int32))).toNatClampNeg (.int w9.toInt8.toInt32)).length) (h22_hc88 : ((-p1) / (100 : Int32)) < (-9 : Int32)) (h22_hin102 : ¬ ((-((-p1) / (100 : Int32))) < 0 ∨ v7.slots.size ≤ ((-((-p1) / (100 : Int32)))).toNatClampNeg)) (h22_hat102 : v7.slots[((-((-p1) / (100 : Int32)))).toNatClampNeg]? = some (.int w16)) (h22_hge103 : ¬ (((((p2 + (-1 : Int32)) + (-1 : Int32)) + (-1 : Int32)) + (-1 : Int32)) < (0 : Int32))) (h22_hlt103 : ((((p2 + (-1 : Int32)) + (-1 : Int32)) + (-1 : Int32)) + (-1 : Int32)) < nn) (h22_hln103 : (((((p2 + (-1 : Int32)) + (-1 : Int32)) + (-1 : Int32)) + (-1 : Int32))).toNatClampNeg < ((vs.set ((p2 + (-1 : Int32))).toNatClampNeg (.int w8.toInt8.toInt32)).set (((p2 + (-1 : Int32)) + (-1 : Int32))).toNatClampNeg (.int w9.toInt8.toInt32)).length) :
    own_C l Z (⟨"java/lang/Integer", "getChars", "(II[B)I"⟩ : MethodName) jdk_33_method_12_code 7 (some .int) ws ({ frames := 0, cells := 0, slots := 0, locals := 0 } : Room) #[(.int p1), (.int p2), (.ref a3)] h0 (Q30d4 Z p1 p2 a3 k9 nn vs w4 v5 w6 v7 w8 w9 w15 w16 h0 n0) := by
  refine own_intro (plainFor_of_name pnc_java_lang_Integer) fun p e s m below meth c s₁ hx hby hml hown hnm hZ e0 hret X0 => ?_
  have N0 := Fr.nil n0
  have Z0 : n0 ≤ h0.size := O0.1 ▸ O0.2.1
  obtain ⟨T10, L10, h10, X10, N10, e10, K10, Y10_0, st10⟩ := tgt hw ((-p1)) p2 a3 ((.val (.int p2))) ((.unset)) ((.unset)) k9 nn vs w4 v5 w8 w6 v7 w9 h0 n0 X0 N0 hx hZ hby hml hown e0 O0 HV_a3 h22_hc25 (Or.inl rfl) (Or.inl rfl) S_DigitOnes HA_w4 h22_hin54 h22_hat54 h22_hge55 h22_hlt55 g_a3 h22_hln55 S_DigitTens HA_w6 ne_w6_a3 h22_hin67 h22_hat67 h22_hge68 h22_hlt68 h22_hln68
  have K11 : Keep h0 h10 [a3] := (Keep.refl h0 [a3]).trans K10 (allS (Or.inl (List.mem_of_getElem? (i := 0) rfl)) all0)
  have O12 : Old Z n0 h10 := O0.keep K10 (allS g_a3 all0)
  have f13 := (own_arrkeep HA_w4 K10 (ninS ne_w4_a3 nin0))
  have f14 := (own_arrkeep HA_w6 K10 (ninS ne_w6_a3 nin0))
  obtain ⟨T17, L17, h17, X17, N17, e17, K17, Y17_0, st17⟩ := tge2 hw (((-p1) / (100 : Int32))) (((p2 + (-1 : Int32)) + (-1 : Int32))) a3 ((.val (.int p2))) ((.val (.int ((-p1) / (100 : Int32))))) ((.val (.int ((((-p1) / (100 : Int32)) * (100 : Int32)) - (-p1))))) k9 nn (((vs.set ((p2 + (-1 : Int32))).toNatClampNeg (.int w8.toInt8.toInt32)).set (((p2 + (-1 : Int32)) + (-1 : Int32))).toNatClampNeg (.int w9.toInt8.toInt32))) w4 v5 w15 w6 v7 w16 h10 n0 X10 N10 hx hZ hby hml hown e10 O12 Y10_0 h22_hc25_1 S_DigitOnes f13 h22_hin83 h22_hat83 h22_hge84 h22_hlt84 g_a3 h22_hln84 h22_hc88 S_DigitTens f14 ne_w6_a3 h22_hin102 h22_hat102 h22_hge103 h22_hlt103 h22_hln103
  have K18 : Keep h0 h17 [a3] := K11.trans K17 (allS (Or.inl (List.mem_of_getElem? (i := 0) rfl)) all0)
  have O19 : Old Z n0 h17 := O12.keep K17 (allS g_a3 all0)
  refine ⟨T17, _, _, _, some (.int ((((p2 + (-1 : Int32)) + (-1 : Int32)) + (-1 : Int32)) + (-1 : Int32))), X17, by decide, by decide, nofun, ?_, fun fs hr => castTop (ef_30 m p1 p2 a3) ?_⟩
  · show Q30d4 Z p1 p2 a3 k9 nn vs w4 v5 w6 v7 w8 w9 w15 w16 h0 n0 _ T17.heap _
    rw [e17]
    exact ⟨rfl, N17, K18, Y17_0⟩
  · show Steps p.tables e below (s₁.setTop (mkF m 0 #[.val (.int p1), .val (.int p2), .val (.ref a3), .unset, .unset, .unset, .unset] [])) _
    refine XS.iloadN X0.here hx rfl (d30 hby 51 rfl) rfl ?_
    refine XS.istore X0.here hx rfl (d30 hby 52 rfl) rfl (l' := #[.val (.int p1), .val (.int p2), .val (.ref a3), .unset, .unset, .val (.int p2), .unset]) rfl ?_
    refine XS.iloadN X0.here hx rfl (d30 hby 53 rfl) rfl ?_
    refine XS.ifYes X0.here hx rfl (pc0 := 4) (pc' := 11) rfl (d30 hby 54 rfl) rfl ((if0 _ _).trans (flt hc4).2.1) (by decide) (by decide) ?_
    refine XS.iconst X0.here hx rfl (d30 hby 55 rfl) ?_
    refine XS.istore X0.here hx rfl (d30 hby 56 rfl) rfl (l' := #[.val (.int p1), .val (.int p2), .val (.ref a3), .unset, .unset, .val (.int p2), .val (.int 0)]) rfl ?_
    refine XS.iload X0.here hx rfl (d30 hby 57 rfl) rfl ?_
    show Steps p.tables e below (s₁.setTop (mkF m 16 #[.val (.int p1), .val (.int p2), .val (.ref a3), .unset, .unset, .val (.int p2), .val (.int 0)] [(.int 0)])) _
    refine XS.ifNo X0.here hx rfl (d30 hby 58 rfl) rfl ((if0 _ _).trans (teq (by decide : (0 : Int32) = (0 : Int32))).2) ?_
    refine XS.iloadN X0.here hx rfl (d30 hby 59 rfl) rfl ?_
    refine XS.ineg X0.here hx rfl (d30 hby 60 rfl) rfl ?_
    refine XS.istoreN X0.here hx rfl (d30 hby 61 rfl) rfl (l' := #[.val (.int (-p1)), .val (.int p2), .val (.ref a3), .unset, .unset, .val (.int p2), .val (.int 0)]) rfl ?_
    show Steps p.tables e below (s₁.setTop (mkF m 22 #[.val (.int (-p1)), .val (.int p2), .val (.ref a3), .unset, .unset, .val (.int p2), .val (.int 0)] [])) _
    refine st10 _ ?_
    show Steps p.tables e below (T10.setTop (mkF m 22 #[.val (.int ((-p1) / (100 : Int32))), .val (.int p2), .val (.ref a3), .val (.int ((-p1) / (100 : Int32))), .val (.int ((((-p1) / (100 : Int32)) * (100 : Int32)) - (-p1))), .val (.int ((p2 + (-1 : Int32)) + (-1 : Int32))), .val (.int 0)] [])) _
    refine st17 _ ?_
    refine XS.iload X17.here hx rfl (d30 hby 62 rfl) rfl ?_
    exact own_retI X17 hx hret (d30 hby 63 rfl) hr
def Q28d5 (Z : State) (p1 : Int32) (h0 : Heap) (n0 : Nat) (v : Option Value) (h : Heap) (L : List Loc) : Prop := v = some (.int ((5 : Int32) + (0 : Int32))) ∧ Fr n0 L ∧ h = h0
theorem rm28d5 (l : Launch) (Z : State) (a0 : Array Value) (hw : ∀ d ∈ tables_1, d.before a0 Z = true) (ws : List Jvm.Cond) (p1 : Int32) (h0 : Heap) (n0 : Nat) (O0 : Old Z n0 h0) (hc3 : ¬ (p1 < (0 : Int32))) (h16_hc24 : ¬ ((-10 : Int32) < (-p1))) (h16_hc24_1 : ¬ ((-100 : Int32) < (-p1))) (h16_hc24_2 : ¬ ((-1000 : Int32) < (-p1))) (h16_hc24_3 : ¬ ((-10000 : Int32) < (-p1))) (h16_hc24_4 : (-100000 : Int32) < (-p1)) :
    own_C l Z (⟨"java/lang/Integer", "stringSize", "(I)I"⟩ : MethodName) jdk_33_method_13_code 4 (some .int) ws ({ frames := 0, cells := 0, slots := 0, locals := 0 } : Room) #[(.int p1)] h0 (Q28d5 Z p1 h0 n0) := by
  refine own_intro (plainFor_of_name pnc_java_lang_Integer) fun p e s m below meth c s₁ hx hby hml hown hnm hZ e0 hret X0 => ?_
  have N0 := Fr.nil n0
  have Z0 : n0 ≤ h0.size := O0.1 ▸ O0.2.1
  obtain ⟨T2, L2, X2, N2, e2, st2⟩ := tss hw ((-p1)) ((-10 : Int32)) ((1 : Int32)) h0 n0 X0 N0 hx hZ hby hml hown e0 O0 (by decide : (1 : Int32) < (10 : Int32)) h16_hc24
  obtain ⟨T3, L3, X3, N3, e3, st3⟩ := tss hw ((-p1)) ((-100 : Int32)) ((2 : Int32)) h0 n0 X2 N2 hx hZ hby hml hown e2 O0 (by decide : (2 : Int32) < (10 : Int32)) h16_hc24_1
  obtain ⟨T4, L4, X4, N4, e4, st4⟩ := tss hw ((-p1)) ((-1000 : Int32)) ((3 : Int32)) h0 n0 X3 N3 hx hZ hby hml hown e3 O0 (by decide : (3 : Int32) < (10 : Int32)) h16_hc24_2
  obtain ⟨T5, L5, X5, N5, e5, st5⟩ := tss hw ((-p1)) ((-10000 : Int32)) ((4 : Int32)) h0 n0 X4 N4 hx hZ hby hml hown e4 O0 (by decide : (4 : Int32) < (10 : Int32)) h16_hc24_3
  obtain ⟨T6, L6, X6, N6, e6, st6⟩ := tse hw ((-p1)) ((-100000 : Int32)) ((5 : Int32)) h0 n0 X5 N5 hx hZ hby hml hown e5 O0 (by decide : (5 : Int32) < (10 : Int32)) h16_hc24_4
  refine ⟨T6, _, _, _, some (.int ((5 : Int32) + (0 : Int32))), X6, by decide, by decide, nofun, ?_, fun fs hr => castTop (ef_28 m p1) ?_⟩
  · show Q28d5 Z p1 h0 n0 _ T6.heap _
    rw [e6]
    exact ⟨rfl, N6, rfl⟩
  · show Steps p.tables e below (s₁.setTop (mkF m 0 #[.val (.int p1), .unset, .unset, .unset] [])) _
    refine XS.iconst X0.here hx rfl (d28 hby 15 rfl) ?_
    refine XS.istoreN X0.here hx rfl (d28 hby 16 rfl) rfl (l' := #[.val (.int p1), .val (.int 1), .unset, .unset]) rfl ?_
    refine XS.iloadN X0.here hx rfl (d28 hby 17 rfl) rfl ?_
    refine XS.ifNo X0.here hx rfl (d28 hby 18 rfl) rfl ((if0 _ _).trans (flt hc3).1) ?_
    refine XS.iconst X0.here hx rfl (d28 hby 19 rfl) ?_
    refine XS.istoreN X0.here hx rfl (d28 hby 20 rfl) rfl (l' := #[.val (.int p1), .val (.int 0), .unset, .unset]) rfl ?_
    refine XS.iloadN X0.here hx rfl (d28 hby 21 rfl) rfl ?_
    show Steps p.tables e below (s₁.setTop (mkF m 9 #[.val (.int p1), .val (.int 0), .unset, .unset] [(.int p1)])) _
    refine XS.ineg X0.here hx rfl (d28 hby 22 rfl) rfl ?_
    refine XS.istoreN X0.here hx rfl (d28 hby 23 rfl) rfl (l' := #[.val (.int (-p1)), .val (.int 0), .unset, .unset]) rfl ?_
    refine XS.bipush X0.here hx rfl (d28 hby 24 rfl) ?_
    refine XS.istoreN X0.here hx rfl (d28 hby 25 rfl) rfl (l' := #[.val (.int (-p1)), .val (.int 0), .val (.int (-10 : Int32)), .unset]) rfl ?_
    refine XS.iconst X0.here hx rfl (d28 hby 26 rfl) ?_
    refine XS.istoreN X0.here hx rfl (d28 hby 27 rfl) rfl (l' := #[.val (.int (-p1)), .val (.int 0), .val (.int (-10 : Int32)), .val (.int 1)]) rfl ?_
    show Steps p.tables e below (s₁.setTop (mkF m 16 #[.val (.int (-p1)), .val (.int 0), .val (.int (-10 : Int32)), .val (.int 1)] [])) _
    refine st2 _ ?_
    show Steps p.tables e below (T2.setTop (mkF m 16 #[.val (.int (-p1)), .val (.int 0), .val (.int (-100 : Int32)), .val (.int 2)] [])) _
    refine st3 _ ?_
    show Steps p.tables e below (T3.setTop (mkF m 16 #[.val (.int (-p1)), .val (.int 0), .val (.int (-1000 : Int32)), .val (.int 3)] [])) _
    refine st4 _ ?_
    show Steps p.tables e below (T4.setTop (mkF m 16 #[.val (.int (-p1)), .val (.int 0), .val (.int (-10000 : Int32)), .val (.int 4)] [])) _
    refine st5 _ ?_
    show Steps p.tables e below (T5.setTop (mkF m 16 #[.val (.int (-p1)), .val (.int 0), .val (.int (-100000 : Int32)), .val (.int 5)] [])) _
    refine st6 _ ?_
    exact own_retI X6 hx hret (d28 hby 28 rfl) hr
def Q30d5 (Z : State) (p1 p2 : Int32) (a3 : Addr) (k9 : ClassId) (nn : Int32) (vs : List Value) (w4 : Addr) (v5 : Cell) (w6 : Addr) (v7 : Cell) (w8 w9 w15 w16 w21 : Int32) (h0 : Heap) (n0 : Nat) (v : Option Value) (h : Heap) (L : List Loc) : Prop := v = some (.int (((((p2 + (-1 : Int32)) + (-1 : Int32)) + (-1 : Int32)) + (-1 : Int32)) + (-1 : Int32))) ∧ Fr n0 L ∧ Keep h0 h [a3] ∧ Arv Z h a3 k9 .byte nn (((((vs.set ((p2 + (-1 : Int32))).toNatClampNeg (.int w8.toInt8.toInt32)).set (((p2 + (-1 : Int32)) + (-1 : Int32))).toNatClampNeg (.int w9.toInt8.toInt32)).set ((((p2 + (-1 : Int32)) + (-1 : Int32)) + (-1 : Int32))).toNatClampNeg (.int w15.toInt8.toInt32)).set (((((p2 + (-1 : Int32)) + (-1 : Int32)) + (-1 : Int32)) + (-1 : Int32))).toNatClampNeg (.int w16.toInt8.toInt32)).set ((((((p2 + (-1 : Int32)) + (-1 : Int32)) + (-1 : Int32)) + (-1 : Int32)) + (-1 : Int32))).toNatClampNeg (.int w21.toInt8.toInt32)) (.int 0)
theorem rm30d5 (l : Launch) (Z : State) (a0 : Array Value) (hw : ∀ d ∈ tables_1, d.before a0 Z = true) (ws : List Jvm.Cond) (p1 p2 : Int32) (a3 : Addr) (k9 : ClassId) (nn : Int32) (vs : List Value) (w4 : Addr) (v5 : Cell) (w6 : Addr) (v7 : Cell) (w8 w9 w15 w16 w21 : Int32) (h0 : Heap) (n0 : Nat) (O0 : Old Z n0 h0) (HV_a3 : Arv Z h0 a3 k9 .byte nn vs (.int 0)) (hc4 : ¬ (p1 < (0 : Int32))) (S_DigitOnes : Sta Z Z.heap "java/lang/Integer" "DigitOnes" "[B" (.ref w4)) (HA_w4 : Arr Z h0 w4 v5 .byte) (S_DigitTens : Sta Z Z.heap "java/lang/Integer" "DigitTens" "[B" (.ref w6)) (HA_w6 : Arr Z h0 w6 v7 .byte) (h22_hc25 : ¬ ((-100 : Int32) < (-p1))) (h22_hin54 : ¬ (((((-p1) / (100 : Int32)) * (100 : Int32)) - (-p1)) < 0 ∨ v5.slots.size ≤ (((((-p1) / (100 : Int32)) * (100 : Int32)) - (-p1))).toNatClampNeg)) (h22_hat54 : v5.slots[(((((-p1) / (100 : Int32)) * (100 : Int32)) - (-p1))).toNatClampNeg]? = some (.int w8)) (h22_hge55 : ¬ ((p2 + (-1 : Int32)) < (0 : Int32))) (h22_hlt55 : (p2 + (-1 : Int32)) < nn) (g_a3 : n0 ≤ a3) (h22_hln55 : ((p2 + (-1 : Int32))).toNatClampNeg < vs.length) (ne_w6_a3 : w6 ≠ a3) (h22_hin67 : ¬ (((((-p1) / (100 : Int32)) * (100 : Int32)) - (-p1)) < 0 ∨ v7.slots.size ≤ (((((-p1) / (100 : Int32)) * (100 : Int32)) - (-p1))).toNatClampNeg)) (h22_hat67 : v7.slots[(((((-p1) / (100 : Int32)) * (100 : Int32)) - (-p1))).toNatClampNeg]? = some (.int w9)) (h22_hge68 : ¬ (((p2 + (-1 : Int32)) + (-1 : Int32)) < (0 : Int32))) (h22_hlt68 : ((p2 + (-1 : Int32)) + (-1 : Int32)) < nn) (h22_hln68 : (((p2 + (-1 : Int32)) + (-1 : Int32))).toNatClampNeg < vs.length) (ne_w4_a3 : w4 ≠ a3) (h22_hc25_1 : ¬ ((-100 : Int32) < ((-p1) / (100 : Int32)))) (h22_hin54_1 : ¬ ((((((-p1) / (100 : Int32)) / (100 : Int32)) * (100 : Int32)) - ((-p1) / (100 : Int32))) < 0 ∨ v5.slots.size ≤ ((((((-p1) / (100 : Int32)) / (100 : Int32)) * (100 : Int32)) - ((-p1) / (100 : Int32)))).toNatClampNeg)) (h22_hat54_1 : v5.slots[((((((-p1) / (100 : Int32)) / (100 : Int32)) * (100 : Int32)) - ((-p1) / (100 : Int32)))).toNatClampNeg]? = some (.int w15)) (h22_hge55_1 : ¬ ((((p2 + (-1 : Int32)) + (-1 : Int32)) + (-1 : Int32)) < (0 : Int32))) (h22_hlt55_1 : (((p2 + (-1 : Int32)) + (-1 : Int32)) + (-1 : Int32)) < nn) (h22_hln55_1 : ((((p2 + (-1 : Int32)) + (-1 : Int32)) + (-1 : Int32))).toNatClampNeg < ((vs.set ((p2 + (-1 : Int32))).toNatClampNeg (.int w8.toInt8.toInt32)).set (((p2 + (-1 : Int32)) + (-1 : Int32))).toNatClampNeg (.int w9.toInt8.toInt32)).length) (h22_hin67_1 : ¬ ((((((-p1) / (100 : Int32)) / (100 : Int32)) * (100 : Int32)) - ((-p1) / (100 : Int32))) < 0 ∨ v7.slots.size ≤ ((((((-p1) / (100 : Int32)) / (100 : Int32)) * (100 : Int32)) - ((-p1) / (100 : Int32)))).toNatClampNeg)) (h22_hat67_1 : v7.slots[((((((-p1) / (100 : Int32)) / (100 : Int32)) * (100 : Int32)) - ((-p1) / (100 : Int32)))).toNatClampNeg]? = some (.int w16)) (h22_hge68_1 : ¬ (((((p2 + (-1 : Int32)) + (-1 : Int32)) + (-1 : Int32)) + (-1 : Int32)) < (0 : Int32))) (h22_hlt68_1 : ((((p2 + (-1 : Int32)) + (-1 : Int32)) + (-1 : Int32)) + (-1 : Int32)) < nn) (h22_hln68_1 : (((((p2 + (-1 : Int32)) + (-1 : Int32)) + (-1 : Int32)) + (-1 : Int32))).toNatClampNeg < ((vs.set ((p2 + (-1 : Int32))).toNatClampNeg (.int w8.toInt8.toInt32)).set (((p2 + (-1 : Int32)) + (-1 : Int32))).toNatClampNeg (.int w9.toInt8.toInt32)).length) (h22_hc25_2 : (-100 : Int32) < (((-p1) / (100 : Int32)) / (100 : Int32))) (h22_hin83 : ¬ ((-(((-p1) / (100 : Int32)) / (100 : Int32))) < 0 ∨ v5.slots.size ≤ ((-(((-p1) / (100 : Int32)) / (100 : Int32)))).toNatClampNeg)) (h22_hat83 : v5.slots[((-(((-p1) / (100 : Int32)) / (100 : Int32)))).toNatClampNeg]? = some (.int w21)) (h22_hge84 : ¬ ((((((p2 + (-1 : Int32)) + (-1 : Int32)) + (-1 : Int32)) + (-1 : Int32)) + (-1 : Int32)) < (0 : Int32))) (h22_hlt84 : (((((p2 + (-1 : Int32)) + (-1 : Int32)) + (-1 : Int32)) + (-1 : Int32)) + (-1 : Int32)) < nn) (h22_hln84 : ((((((p2 + (-1 : Int32)) + (-1 : Int32)) + (-1 : Int32)) + (-1 : Int32)) + (-1 : Int32))).toNatClampNeg < ((((vs.set ((p2 + (-1 : Int32))).toNatClampNeg (.int w8.toInt8.toInt32)).set (((p2 + (-1 : Int32)) + (-1 : Int32))).toNatClampNeg (.int w9.toInt8.toInt32)).set ((((p2 + (-1 : Int32)) + (-1 : Int32)) + (-1 : Int32))).toNatClampNeg (.int w15.toInt8.toInt32)).set (((((p2 + (-1 : Int32)) + (-1 : Int32)) + (-1 : Int32)) + (-1 : Int32))).toNatClampNeg (.int w16.toInt8.toInt32)).length) (h22_hc88 : ¬ ((((-p1) / (100 : Int32)) / (100 : Int32)) < (-9 : Int32))) :
    own_C l Z (⟨"java/lang/Integer", "getChars", "(II[B)I"⟩ : MethodName) jdk_33_method_12_code 7 (some .int) ws ({ frames := 0, cells := 0, slots := 0, locals := 0 } : Room) #[(.int p1), (.int p2), (.ref a3)] h0 (Q30d5 Z p1 p2 a3 k9 nn vs w4 v5 w6 v7 w8 w9 w15 w16 w21 h0 n0) := by
  refine own_intro (plainFor_of_name pnc_java_lang_Integer) fun p e s m below meth c s₁ hx hby hml hown hnm hZ e0 hret X0 => ?_
  have N0 := Fr.nil n0
  have Z0 : n0 ≤ h0.size := O0.1 ▸ O0.2.1
  obtain ⟨T10, L10, h10, X10, N10, e10, K10, Y10_0, st10⟩ := tgt hw ((-p1)) p2 a3 ((.val (.int p2))) ((.unset)) ((.unset)) k9 nn vs w4 v5 w8 w6 v7 w9 h0 n0 X0 N0 hx hZ hby hml hown e0 O0 HV_a3 h22_hc25 (Or.inl rfl) (Or.inl rfl) S_DigitOnes HA_w4 h22_hin54 h22_hat54 h22_hge55 h22_hlt55 g_a3 h22_hln55 S_DigitTens HA_w6 ne_w6_a3 h22_hin67 h22_hat67 h22_hge68 h22_hlt68 h22_hln68
  have K11 : Keep h0 h10 [a3] := (Keep.refl h0 [a3]).trans K10 (allS (Or.inl (List.mem_of_getElem? (i := 0) rfl)) all0)
  have O12 : Old Z n0 h10 := O0.keep K10 (allS g_a3 all0)
  have f13 := (own_arrkeep HA_w4 K10 (ninS ne_w4_a3 nin0))
  have f14 := (own_arrkeep HA_w6 K10 (ninS ne_w6_a3 nin0))
  obtain ⟨T17, L17, h17, X17, N17, e17, K17, Y17_0, st17⟩ := tgt hw (((-p1) / (100 : Int32))) (((p2 + (-1 : Int32)) + (-1 : Int32))) a3 ((.val (.int p2))) ((.val (.int ((-p1) / (100 : Int32))))) ((.val (.int ((((-p1) / (100 : Int32)) * (100 : Int32)) - (-p1))))) k9 nn (((vs.set ((p2 + (-1 : Int32))).toNatClampNeg (.int w8.toInt8.toInt32)).set (((p2 + (-1 : Int32)) + (-1 : Int32))).toNatClampNeg (.int w9.toInt8.toInt32))) w4 v5 w15 w6 v7 w16 h10 n0 X10 N10 hx hZ hby hml hown e10 O12 Y10_0 h22_hc25_1 (Or.inr ⟨_, rfl⟩) (Or.inr ⟨_, rfl⟩) S_DigitOnes f13 h22_hin54_1 h22_hat54_1 h22_hge55_1 h22_hlt55_1 g_a3 h22_hln55_1 S_DigitTens f14 ne_w6_a3 h22_hin67_1 h22_hat67_1 h22_hge68_1 h22_hlt68_1 h22_hln68_1
  have K18 : Keep h0 h17 [a3] := K11.trans K17 (allS (Or.inl (List.mem_of_getElem? (i := 0) rfl)) all0)
  have O19 : Old Z n0 h17 := O12.keep K17 (allS g_a3 all0)
  have f20 := (own_arrkeep f13 K17 (ninS ne_w4_a3 nin0))
  obtain ⟨T22, L22, h22, X22, N22, e22, K22, Y22_0, st22⟩ := tge1 hw ((((-p1) / (100 : Int32)) / (100 : Int32))) (((((p2 + (-1 : Int32)) + (-1 : Int32)) + (-1 : Int32)) + (-1 : Int32))) a3 ((.val (.int p2))) ((.val (.int (((-p1) / (100 : Int32)) / (100 : Int32))))) ((.val (.int (((((-p1) / (100 : Int32)) / (100 : Int32)) * (100 : Int32)) - ((-p1) / (100 : Int32)))))) k9 nn (((((vs.set ((p2 + (-1 : Int32))).toNatClampNeg (.int w8.toInt8.toInt32)).set (((p2 + (-1 : Int32)) + (-1 : Int32))).toNatClampNeg (.int w9.toInt8.toInt32)).set ((((p2 + (-1 : Int32)) + (-1 : Int32)) + (-1 : Int32))).toNatClampNeg (.int w15.toInt8.toInt32)).set (((((p2 + (-1 : Int32)) + (-1 : Int32)) + (-1 : Int32)) + (-1 : Int32))).toNatClampNeg (.int w16.toInt8.toInt32))) w4 v5 w21 h17 n0 X17 N17 hx hZ hby hml hown e17 O19 Y17_0 h22_hc25_2 S_DigitOnes f20 h22_hin83 h22_hat83 h22_hge84 h22_hlt84 g_a3 h22_hln84 h22_hc88
  have K23 : Keep h0 h22 [a3] := K18.trans K22 (allS (Or.inl (List.mem_of_getElem? (i := 0) rfl)) all0)
  have O24 : Old Z n0 h22 := O19.keep K22 (allS g_a3 all0)
  refine ⟨T22, _, _, _, some (.int (((((p2 + (-1 : Int32)) + (-1 : Int32)) + (-1 : Int32)) + (-1 : Int32)) + (-1 : Int32))), X22, by decide, by decide, nofun, ?_, fun fs hr => castTop (ef_30 m p1 p2 a3) ?_⟩
  · show Q30d5 Z p1 p2 a3 k9 nn vs w4 v5 w6 v7 w8 w9 w15 w16 w21 h0 n0 _ T22.heap _
    rw [e22]
    exact ⟨rfl, N22, K23, Y22_0⟩
  · show Steps p.tables e below (s₁.setTop (mkF m 0 #[.val (.int p1), .val (.int p2), .val (.ref a3), .unset, .unset, .unset, .unset] [])) _
    refine XS.iloadN X0.here hx rfl (d30 hby 51 rfl) rfl ?_
    refine XS.istore X0.here hx rfl (d30 hby 52 rfl) rfl (l' := #[.val (.int p1), .val (.int p2), .val (.ref a3), .unset, .unset, .val (.int p2), .unset]) rfl ?_
    refine XS.iloadN X0.here hx rfl (d30 hby 53 rfl) rfl ?_
    refine XS.ifYes X0.here hx rfl (pc0 := 4) (pc' := 11) rfl (d30 hby 54 rfl) rfl ((if0 _ _).trans (flt hc4).2.1) (by decide) (by decide) ?_
    refine XS.iconst X0.here hx rfl (d30 hby 55 rfl) ?_
    refine XS.istore X0.here hx rfl (d30 hby 56 rfl) rfl (l' := #[.val (.int p1), .val (.int p2), .val (.ref a3), .unset, .unset, .val (.int p2), .val (.int 0)]) rfl ?_
    refine XS.iload X0.here hx rfl (d30 hby 57 rfl) rfl ?_
    show Steps p.tables e below (s₁.setTop (mkF m 16 #[.val (.int p1), .val (.int p2), .val (.ref a3), .unset, .unset, .val (.int p2), .val (.int 0)] [(.int 0)])) _
    refine XS.ifNo X0.here hx rfl (d30 hby 58 rfl) rfl ((if0 _ _).trans (teq (by decide : (0 : Int32) = (0 : Int32))).2) ?_
    refine XS.iloadN X0.here hx rfl (d30 hby 59 rfl) rfl ?_
    refine XS.ineg X0.here hx rfl (d30 hby 60 rfl) rfl ?_
    refine XS.istoreN X0.here hx rfl (d30 hby 61 rfl) rfl (l' := #[.val (.int (-p1)), .val (.int p2), .val (.ref a3), .unset, .unset, .val (.int p2), .val (.int 0)]) rfl ?_
    show Steps p.tables e below (s₁.setTop (mkF m 22 #[.val (.int (-p1)), .val (.int p2), .val (.ref a3), .unset, .unset, .val (.int p2), .val (.int 0)] [])) _
    refine st10 _ ?_
    show Steps p.tables e below (T10.setTop (mkF m 22 #[.val (.int ((-p1) / (100 : Int32))), .val (.int p2), .val (.ref a3), .val (.int ((-p1) / (100 : Int32))), .val (.int ((((-p1) / (100 : Int32)) * (100 : Int32)) - (-p1))), .val (.int ((p2 + (-1 : Int32)) + (-1 : Int32))), .val (.int 0)] [])) _
    refine st17 _ ?_
    show Steps p.tables e below (T17.setTop (mkF m 22 #[.val (.int (((-p1) / (100 : Int32)) / (100 : Int32))), .val (.int p2), .val (.ref a3), .val (.int (((-p1) / (100 : Int32)) / (100 : Int32))), .val (.int (((((-p1) / (100 : Int32)) / (100 : Int32)) * (100 : Int32)) - ((-p1) / (100 : Int32)))), .val (.int ((((p2 + (-1 : Int32)) + (-1 : Int32)) + (-1 : Int32)) + (-1 : Int32))), .val (.int 0)] [])) _
    refine st22 _ ?_
    refine XS.iload X22.here hx rfl (d30 hby 62 rfl) rfl ?_
    exact own_retI X22 hx hret (d30 hby 63 rfl) hr
theorem own_tI {n : Nat} (h : n < 2147483648) : (Int32.ofNat n).toInt = n := Int32.toInt_ofNat_of_lt h
theorem own_negI {n : Nat} (h : n < 2147483648) : (-(Int32.ofNat n)).toInt = -(n : Int) := by
  rw [Int32.toInt_neg, own_tI h, Int.bmod_def]
  omega
theorem own_divN {n k : Nat} (h : n < 2147483648) (hk : k < 2147483648) (h0 : 0 < k) : (Int32.ofNat n) / (Int32.ofNat k) = Int32.ofNat (n / k) := by
  have q : n / k ≤ n := Nat.div_le_self n k
  rw [← Int32.toInt_inj, Int32.toInt_div, own_tI h, own_tI hk, own_tI (by omega), Int.tdiv_eq_ediv_of_nonneg (by omega), Int.bmod_def]
  have e : ((n : Int) / (k : Int)) = ((n / k : Nat) : Int) := by simp
  rw [e]
  generalize n / k = m at *
  split <;> omega
theorem own_remN {n k : Nat} (h : n < 2147483648) (hk : k < 2147483648) (h0 : 0 < k) : (Int32.ofNat n) % (Int32.ofNat k) = Int32.ofNat (n % k) := by
  have q := Nat.mod_le n k
  rw [← Int32.toInt_inj, Int32.toInt_mod, own_tI h, own_tI hk, own_tI (by omega), Int.tmod_eq_emod_of_nonneg (by omega)]
  simp
theorem own_nn (n : Nat) : -(-(Int32.ofNat n)) = Int32.ofNat n := Int32.neg_neg
theorem own_ndiv {n : Nat} (h : n < 65536) : (-(Int32.ofNat n)) / (100 : Int32) = -(Int32.ofNat (n / 100)) := by
  rw [← Int32.toInt_inj, Int32.toInt_div, own_negI (by omega), own_negI (by omega), show (100 : Int32).toInt = 100 from rfl, Int.neg_tdiv, Int.tdiv_eq_ediv_of_nonneg (by omega), Int.bmod_def]
  omega
theorem own_nr {n : Nat} (h : n < 65536) : ((-(Int32.ofNat n)) / (100 : Int32)) * (100 : Int32) - (-(Int32.ofNat n)) = Int32.ofNat (n % 100) := by
  rw [own_ndiv h, ← Int32.toInt_inj, Int32.toInt_sub, Int32.toInt_mul, own_negI (by omega), own_negI (by omega), show (100 : Int32).toInt = 100 from rfl, own_tI (by omega), Int.bmod_def, Int.bmod_def]
  omega
theorem own_add {a b : Nat} (h : a + b < 2147483648) : Int32.ofNat a + Int32.ofNat b = Int32.ofNat (a + b) := by
  rw [← Int32.toInt_inj, Int32.toInt_add, own_tI (by omega), own_tI (by omega), own_tI h, Int.bmod_def]
  omega
theorem own_pre {a : Nat} (h : a + 1 < 2147483648) : Int32.ofNat (a + 1) + (-1 : Int32) = Int32.ofNat a := by
  rw [← Int32.toInt_inj, Int32.toInt_add, own_tI (by omega), own_tI (by omega), show (-1 : Int32).toInt = -1 from rfl, Int.bmod_def]
  omega
theorem own_ltN {a b : Nat} (ha : a < 2147483648) (hb : b < 2147483648) : Int32.ofNat a < Int32.ofNat b ↔ a < b := by
  rw [Int32.lt_iff_toInt_lt, own_tI ha, own_tI hb]; omega
theorem own_tnc {k : Nat} (h : k < 2147483648) : (Int32.ofNat k).toNatClampNeg = k := by
  rw [Int32.toNatClampNeg, own_tI h]; rfl
theorem own_nge0 {k : Nat} (h : k < 2147483648) : ¬ (Int32.ofNat k < (0 : Int32)) := by
  rw [Int32.lt_iff_toInt_lt, own_tI h, show (0 : Int32).toInt = 0 from rfl]; omega
theorem own_hin {k : Nat} {cl : Cell} (hs : 100 ≤ cl.slots.size) (h : k < 100) : ¬ (Int32.ofNat k < 0 ∨ cl.slots.size ≤ (Int32.ofNat k).toNatClampNeg) := by
  rw [own_tnc (by omega)]
  exact fun q => q.elim (own_nge0 (by omega)) (by omega)
theorem own_lt16 {k : Nat} (h : k < 16) : Int32.ofNat k < (16 : Int32) := (own_ltN (b := 16) (by omega) (by omega)).mpr h
theorem own_setR (cs : List Int32) (r : List Value) (i : Nat) (a : Value) : (own_by cs ++ r).set (cs.length + i) a = own_by cs ++ r.set i a := by
  rw [List.set_append_right _ _ (by rw [own_byl]; omega), own_byl, Nat.add_sub_cancel_left]
def own_D (k : Nat) : Int32 := Int32.ofNat (48 + k)
/-- a number in plain decimal -/
def own_dec (n : Nat) : List Int32 := (if 10000 ≤ n then [own_D (n / 10000)] else []) ++ (if 1000 ≤ n then [own_D (n / 1000 % 10)] else []) ++ (if 100 ≤ n then [own_D (n / 100 % 10)] else []) ++ (if 10 ≤ n then [own_D (n / 10 % 10)] else []) ++ [own_D (n % 10)]
/-- the tables of digits -/
def own_tab (c1 c2 : Cell) : Prop := (100 ≤ c1.slots.size ∧ ∀ k, k < 100 → c1.slots[k]? = some (.int (own_D (k % 10)))) ∧ (100 ≤ c2.slots.size ∧ ∀ k, k < 100 → c2.slots[k]? = some (.int (own_D (k / 10))))
theorem own_sets1 (cs : List Int32) (w1 : Int32) (h : cs.length + 1 ≤ 16) : (own_pad cs 16).set (cs.length + 0) (.int w1.toInt8.toInt32) = own_pad (cs ++ [w1]) 16 := by
  obtain ⟨m, hm⟩ : ∃ m, 16 - cs.length = m + 1 := ⟨16 - cs.length - 1, by omega⟩
  have e16 : ((16 : Int32)).toNatClampNeg = 16 := rfl
  have e2 : 16 - (cs ++ [w1]).length = m := by rw [List.length_append]; show 16 - (cs.length + 1) = m; omega
  rw [own_pad, own_pad, e16, hm, e2, show own_by (cs ++ [w1]) = own_by cs ++ own_by [w1] from List.map_append .., List.append_assoc]
  rw [own_setR]
  rfl
theorem own_dec1 {n : Nat} (h : n < 10) : own_dec n = [own_D (n % 10)] := by
  rw [own_dec, if_neg (by omega), if_neg (by omega), if_neg (by omega), if_neg (by omega)]
  rfl
theorem own_sets2 (cs : List Int32) (w1 w2 : Int32) (h : cs.length + 2 ≤ 16) : ((own_pad cs 16).set (cs.length + 1) (.int w1.toInt8.toInt32)).set (cs.length + 0) (.int w2.toInt8.toInt32) = own_pad (cs ++ [w2, w1]) 16 := by
  obtain ⟨m, hm⟩ : ∃ m, 16 - cs.length = m + 2 := ⟨16 - cs.length - 2, by omega⟩
  have e16 : ((16 : Int32)).toNatClampNeg = 16 := rfl
  have e2 : 16 - (cs ++ [w2, w1]).length = m := by rw [List.length_append]; show 16 - (cs.length + 2) = m; omega
  rw [own_pad, own_pad, e16, hm, e2, show own_by (cs ++ [w2, w1]) = own_by cs ++ own_by [w2, w1] from List.map_append .., List.append_assoc]
  rw [own_setR, own_setR]
  rfl
theorem own_dec2 {n : Nat} (h : 10 ≤ n ∧ n < 100) : own_dec n = [own_D (n / 10), own_D (n % 10)] := by
  rw [own_dec, if_neg (by omega), if_neg (by omega), if_neg (by omega), if_pos (by omega)]
  show [own_D (n / 10 % 10), own_D (n % 10)] = _
  rw [show n / 10 % 10 = n / 10 by omega]
theorem own_sets3 (cs : List Int32) (w1 w2 w3 : Int32) (h : cs.length + 3 ≤ 16) : (((own_pad cs 16).set (cs.length + 2) (.int w1.toInt8.toInt32)).set (cs.length + 1) (.int w2.toInt8.toInt32)).set (cs.length + 0) (.int w3.toInt8.toInt32) = own_pad (cs ++ [w3, w2, w1]) 16 := by
  obtain ⟨m, hm⟩ : ∃ m, 16 - cs.length = m + 3 := ⟨16 - cs.length - 3, by omega⟩
  have e16 : ((16 : Int32)).toNatClampNeg = 16 := rfl
  have e2 : 16 - (cs ++ [w3, w2, w1]).length = m := by rw [List.length_append]; show 16 - (cs.length + 3) = m; omega
  rw [own_pad, own_pad, e16, hm, e2, show own_by (cs ++ [w3, w2, w1]) = own_by cs ++ own_by [w3, w2, w1] from List.map_append .., List.append_assoc]
  rw [own_setR, own_setR, own_setR]
  rfl
theorem own_dec3 {n : Nat} (h : 100 ≤ n ∧ n < 1000) : own_dec n = [own_D (n / 100 % 10), own_D (n % 100 / 10), own_D (n % 100 % 10)] := by
  rw [own_dec, if_neg (by omega), if_neg (by omega), if_pos (by omega), if_pos (by omega)]
  show [own_D (n / 100 % 10), own_D (n / 10 % 10), own_D (n % 10)] = _
  rw [show n % 10 = n % 100 % 10 by omega, show n / 10 % 10 = n % 100 / 10 by omega]
theorem own_sets4 (cs : List Int32) (w1 w2 w3 w4 : Int32) (h : cs.length + 4 ≤ 16) : ((((own_pad cs 16).set (cs.length + 3) (.int w1.toInt8.toInt32)).set (cs.length + 2) (.int w2.toInt8.toInt32)).set (cs.length + 1) (.int w3.toInt8.toInt32)).set (cs.length + 0) (.int w4.toInt8.toInt32) = own_pad (cs ++ [w4, w3, w2, w1]) 16 := by
  obtain ⟨m, hm⟩ : ∃ m, 16 - cs.length = m + 4 := ⟨16 - cs.length - 4, by omega⟩
  have e16 : ((16 : Int32)).toNatClampNeg = 16 := rfl
  have e2 : 16 - (cs ++ [w4, w3, w2, w1]).length = m := by rw [List.length_append]; show 16 - (cs.length + 4) = m; omega
  rw [own_pad, own_pad, e16, hm, e2, show own_by (cs ++ [w4, w3, w2, w1]) = own_by cs ++ own_by [w4, w3, w2, w1] from List.map_append .., List.append_assoc]
  rw [own_setR, own_setR, own_setR, own_setR]
  rfl
theorem own_dec4 {n : Nat} (h : 1000 ≤ n ∧ n < 10000) : own_dec n = [own_D (n / 100 / 10), own_D (n / 100 % 10), own_D (n % 100 / 10), own_D (n % 100 % 10)] := by
  rw [own_dec, if_neg (by omega), if_pos (by omega), if_pos (by omega), if_pos (by omega)]
  show [own_D (n / 1000 % 10), own_D (n / 100 % 10), own_D (n / 10 % 10), own_D (n % 10)] = _
  rw [show n % 10 = n % 100 % 10 by omega, show n / 10 % 10 = n % 100 / 10 by omega, show n / 1000 % 10 = n / 100 / 10 by omega]
theorem own_sets5 (cs : List Int32) (w1 w2 w3 w4 w5 : Int32) (h : cs.length + 5 ≤ 16) : (((((own_pad cs 16).set (cs.length + 4) (.int w1.toInt8.toInt32)).set (cs.length + 3) (.int w2.toInt8.toInt32)).set (cs.length + 2) (.int w3.toInt8.toInt32)).set (cs.length + 1) (.int w4.toInt8.toInt32)).set (cs.length + 0) (.int w5.toInt8.toInt32) = own_pad (cs ++ [w5, w4, w3, w2, w1]) 16 := by
  obtain ⟨m, hm⟩ : ∃ m, 16 - cs.length = m + 5 := ⟨16 - cs.length - 5, by omega⟩
  have e16 : ((16 : Int32)).toNatClampNeg = 16 := rfl
  have e2 : 16 - (cs ++ [w5, w4, w3, w2, w1]).length = m := by rw [List.length_append]; show 16 - (cs.length + 5) = m; omega
  rw [own_pad, own_pad, e16, hm, e2, show own_by (cs ++ [w5, w4, w3, w2, w1]) = own_by cs ++ own_by [w5, w4, w3, w2, w1] from List.map_append .., List.append_assoc]
  rw [own_setR, own_setR, own_setR, own_setR, own_setR]
  rfl
theorem own_dec5 {n : Nat} (h : 10000 ≤ n ∧ n < 65536) : own_dec n = [own_D (n / 100 / 100 % 10), own_D (n / 100 % 100 / 10), own_D (n / 100 % 100 % 10), own_D (n % 100 / 10), own_D (n % 100 % 10)] := by
  rw [own_dec, if_pos (by omega), if_pos (by omega), if_pos (by omega), if_pos (by omega)]
  show [own_D (n / 10000), own_D (n / 1000 % 10), own_D (n / 100 % 10), own_D (n / 10 % 10), own_D (n % 10)] = _
  rw [show n % 10 = n % 100 % 10 by omega, show n / 10 % 10 = n % 100 / 10 by omega, show n / 100 % 10 = n / 100 % 100 % 10 by omega, show n / 1000 % 10 = n / 100 % 100 / 10 by omega, show n / 10000 = n / 100 / 100 % 10 by omega]
def Q30g1 (Z : State) (p1 p2 : Int32) (a3 : Addr) (k9 : ClassId) (w4 : Addr) (v5 cT : Cell) (n : Nat) (cs : List Int32) (h0 : Heap) (n0 : Nat) (v : Option Value) (h : Heap) (L : List Loc) : Prop := v = some (.int (p2 + (-1 : Int32))) ∧ Fr n0 L ∧ Keep h0 h [a3] ∧ Arv Z h a3 k9 .byte (16 : Int32) (own_pad (cs ++ own_dec n) (16 : Int32)) (.int 0)
theorem rm30g1 (l : Launch) (Z : State) (a0 : Array Value) (hw : ∀ d ∈ tables_1, d.before a0 Z = true) (ws : List Jvm.Cond) (p1 p2 : Int32) (a3 : Addr) (k9 : ClassId) (w4 : Addr) (v5 cT : Cell) (n : Nat) (cs : List Int32) (h0 : Heap) (n0 : Nat) (O0 : Old Z n0 h0) (HV_a3 : Arv Z h0 a3 k9 .byte (16 : Int32) (own_pad cs (16 : Int32)) (.int 0)) (S_DigitOnes : Sta Z Z.heap "java/lang/Integer" "DigitOnes" "[B" (.ref w4)) (HA_w4 : Arr Z h0 w4 v5 .byte) (g_a3 : n0 ≤ a3) (hp1 : p1 = (Int32.ofNat n)) (hp2 : p2 = (Int32.ofNat (cs.length + 1))) (hbn : n < 10) (hl16 : cs.length + 1 ≤ 16) (htab : own_tab v5 cT) :
    own_C l Z (⟨"java/lang/Integer", "getChars", "(II[B)I"⟩ : MethodName) jdk_33_method_12_code 7 (some .int) ws ({ frames := 0, cells := 0, slots := 0, locals := 0 } : Room) #[(.int p1), (.int p2), (.ref a3)] h0 (Q30g1 Z p1 p2 a3 k9 w4 v5 cT n cs h0 n0) := by
  subst hp1 hp2
  have e16 : ((16 : Int32)).toNatClampNeg = 16 := rfl
  have s0 : ((Int32.ofNat (cs.length + 1)) + (-1 : Int32)) = Int32.ofNat (cs.length + 0) := by exact own_pre (a := cs.length + 0) (by omega)
  have q := rm30d1 l Z a0 hw ws (Int32.ofNat n) (Int32.ofNat (cs.length + 1)) a3 k9 (16 : Int32) (own_pad cs 16) w4 v5 (own_D (n % 10)) h0 n0 O0 HV_a3 (own_nge0 (by omega)) S_DigitOnes HA_w4 (by rw [Int32.lt_iff_toInt_lt, own_negI (by omega), show (-100 : Int32).toInt = -100 from rfl]; omega) (by rw [own_nn]; exact own_hin htab.1.1 (by omega)) (by rw [own_nn, own_tnc (by omega)]; exact htab.1.2 _ (by omega)) (by rw [s0]; exact own_nge0 (by omega)) (by rw [s0]; exact own_lt16 (by omega)) g_a3 (by rw [s0, own_tnc (by omega)]; (try simp only [List.length_set]); rw [own_padl _ _ (by rw [e16]; omega), e16]; omega) (by rw [Int32.lt_iff_toInt_lt, own_negI (by omega), show (-9 : Int32).toInt = -9 from rfl]; omega)
  unfold Q30d1 at q
  rw [congrArg Int32.toNatClampNeg s0, own_tnc (k := cs.length + 0) (by omega)] at q
  rw [own_sets1 cs (own_D (n % 10)) hl16] at q
  rw [← own_dec1 hbn] at q
  exact q
def Q30g2 (Z : State) (p1 p2 : Int32) (a3 : Addr) (k9 : ClassId) (w4 : Addr) (v5 : Cell) (w6 : Addr) (v7 : Cell) (n : Nat) (cs : List Int32) (h0 : Heap) (n0 : Nat) (v : Option Value) (h : Heap) (L : List Loc) : Prop := v = some (.int ((p2 + (-1 : Int32)) + (-1 : Int32))) ∧ Fr n0 L ∧ Keep h0 h [a3] ∧ Arv Z h a3 k9 .byte (16 : Int32) (own_pad (cs ++ own_dec n) (16 : Int32)) (.int 0)
theorem rm30g2 (l : Launch) (Z : State) (a0 : Array Value) (hw : ∀ d ∈ tables_1, d.before a0 Z = true) (ws : List Jvm.Cond) (p1 p2 : Int32) (a3 : Addr) (k9 : ClassId) (w4 : Addr) (v5 : Cell) (w6 : Addr) (v7 : Cell) (n : Nat) (cs : List Int32) (h0 : Heap) (n0 : Nat) (O0 : Old Z n0 h0) (HV_a3 : Arv Z h0 a3 k9 .byte (16 : Int32) (own_pad cs (16 : Int32)) (.int 0)) (S_DigitOnes : Sta Z Z.heap "java/lang/Integer" "DigitOnes" "[B" (.ref w4)) (HA_w4 : Arr Z h0 w4 v5 .byte) (S_DigitTens : Sta Z Z.heap "java/lang/Integer" "DigitTens" "[B" (.ref w6)) (HA_w6 : Arr Z h0 w6 v7 .byte) (g_a3 : n0 ≤ a3) (ne_w6_a3 : w6 ≠ a3) (hp1 : p1 = (Int32.ofNat n)) (hp2 : p2 = (Int32.ofNat (cs.length + 2))) (hbn : 10 ≤ n ∧ n < 100) (hl16 : cs.length + 2 ≤ 16) (htab : own_tab v5 v7) :
    own_C l Z (⟨"java/lang/Integer", "getChars", "(II[B)I"⟩ : MethodName) jdk_33_method_12_code 7 (some .int) ws ({ frames := 0, cells := 0, slots := 0, locals := 0 } : Room) #[(.int p1), (.int p2), (.ref a3)] h0 (Q30g2 Z p1 p2 a3 k9 w4 v5 w6 v7 n cs h0 n0) := by
  subst hp1 hp2
  have e16 : ((16 : Int32)).toNatClampNeg = 16 := rfl
  have s0 : ((Int32.ofNat (cs.length + 2)) + (-1 : Int32)) = Int32.ofNat (cs.length + 1) := by exact own_pre (a := cs.length + 1) (by omega)
  have s1 : (((Int32.ofNat (cs.length + 2)) + (-1 : Int32)) + (-1 : Int32)) = Int32.ofNat (cs.length + 0) := by rw [s0]; exact own_pre (a := cs.length + 0) (by omega)
  have q := rm30d2 l Z a0 hw ws (Int32.ofNat n) (Int32.ofNat (cs.length + 2)) a3 k9 (16 : Int32) (own_pad cs 16) w4 v5 w6 v7 (own_D (n % 10)) (own_D (n / 10)) h0 n0 O0 HV_a3 (own_nge0 (by omega)) S_DigitOnes HA_w4 S_DigitTens HA_w6 (by rw [Int32.lt_iff_toInt_lt, own_negI (by omega), show (-100 : Int32).toInt = -100 from rfl]; omega) (by rw [own_nn]; exact own_hin htab.1.1 (by omega)) (by rw [own_nn, own_tnc (by omega)]; exact htab.1.2 _ (by omega)) (by rw [s0]; exact own_nge0 (by omega)) (by rw [s0]; exact own_lt16 (by omega)) g_a3 (by rw [s0, own_tnc (by omega)]; (try simp only [List.length_set]); rw [own_padl _ _ (by rw [e16]; omega), e16]; omega) (by rw [Int32.lt_iff_toInt_lt, own_negI (by omega), show (-9 : Int32).toInt = -9 from rfl]; omega) ne_w6_a3 (by rw [own_nn]; exact own_hin htab.2.1 (by omega)) (by rw [own_nn, own_tnc (by omega)]; exact htab.2.2 _ (by omega)) (by rw [s1]; exact own_nge0 (by omega)) (by rw [s1]; exact own_lt16 (by omega)) (by rw [s1, own_tnc (by omega)]; (try simp only [List.length_set]); rw [own_padl _ _ (by rw [e16]; omega), e16]; omega)
  unfold Q30d2 at q
  rw [congrArg Int32.toNatClampNeg s1, congrArg Int32.toNatClampNeg s0, own_tnc (k := cs.length + 1) (by omega), own_tnc (k := cs.length + 0) (by omega)] at q
  rw [own_sets2 cs (own_D (n % 10)) (own_D (n / 10)) hl16] at q
  rw [← own_dec2 hbn] at q
  exact q
def Q30g3 (Z : State) (p1 p2 : Int32) (a3 : Addr) (k9 : ClassId) (w4 : Addr) (v5 : Cell) (w6 : Addr) (v7 : Cell) (n : Nat) (cs : List Int32) (h0 : Heap) (n0 : Nat) (v : Option Value) (h : Heap) (L : List Loc) : Prop := v = some (.int (((p2 + (-1 : Int32)) + (-1 : Int32)) + (-1 : Int32))) ∧ Fr n0 L ∧ Keep h0 h [a3] ∧ Arv Z h a3 k9 .byte (16 : Int32) (own_pad (cs ++ own_dec n) (16 : Int32)) (.int 0)
theorem rm30g3 (l : Launch) (Z : State) (a0 : Array Value) (hw : ∀ d ∈ tables_1, d.before a0 Z = true) (ws : List Jvm.Cond) (p1 p2 : Int32) (a3 : Addr) (k9 : ClassId) (w4 : Addr) (v5 : Cell) (w6 : Addr) (v7 : Cell) (n : Nat) (cs : List Int32) (h0 : Heap) (n0 : Nat) (O0 : Old Z n0 h0) (HV_a3 : Arv Z h0 a3 k9 .byte (16 : Int32) (own_pad cs (16 : Int32)) (.int 0)) (S_DigitOnes : Sta Z Z.heap "java/lang/Integer" "DigitOnes" "[B" (.ref w4)) (HA_w4 : Arr Z h0 w4 v5 .byte) (S_DigitTens : Sta Z Z.heap "java/lang/Integer" "DigitTens" "[B" (.ref w6)) (HA_w6 : Arr Z h0 w6 v7 .byte) (g_a3 : n0 ≤ a3) (ne_w6_a3 : w6 ≠ a3) (ne_w4_a3 : w4 ≠ a3) (hp1 : p1 = (Int32.ofNat n)) (hp2 : p2 = (Int32.ofNat (cs.length + 3))) (hbn : 100 ≤ n ∧ n < 1000) (hl16 : cs.length + 3 ≤ 16) (htab : own_tab v5 v7) :
    own_C l Z (⟨"java/lang/Integer", "getChars", "(II[B)I"⟩ : MethodName) jdk_33_method_12_code 7 (some .int) ws ({ frames := 0, cells := 0, slots := 0, locals := 0 } : Room) #[(.int p1), (.int p2), (.ref a3)] h0 (Q30g3 Z p1 p2 a3 k9 w4 v5 w6 v7 n cs h0 n0) := by
  subst hp1 hp2
  have e16 : ((16 : Int32)).toNatClampNeg = 16 := rfl
  have s0 : ((Int32.ofNat (cs.length + 3)) + (-1 : Int32)) = Int32.ofNat (cs.length + 2) := by exact own_pre (a := cs.length + 2) (by omega)
  have s1 : (((Int32.ofNat (cs.length + 3)) + (-1 : Int32)) + (-1 : Int32)) = Int32.ofNat (cs.length + 1) := by rw [s0]; exact own_pre (a := cs.length + 1) (by omega)
  have s2 : ((((Int32.ofNat (cs.length + 3)) + (-1 : Int32)) + (-1 : Int32)) + (-1 : Int32)) = Int32.ofNat (cs.length + 0) := by rw [s1]; exact own_pre (a := cs.length + 0) (by omega)
  have q := rm30d3 l Z a0 hw ws (Int32.ofNat n) (Int32.ofNat (cs.length + 3)) a3 k9 (16 : Int32) (own_pad cs 16) w4 v5 w6 v7 (own_D (n % 100 % 10)) (own_D (n % 100 / 10)) (own_D (n / 100 % 10)) h0 n0 O0 HV_a3 (own_nge0 (by omega)) S_DigitOnes HA_w4 S_DigitTens HA_w6 (by rw [Int32.lt_iff_toInt_lt, own_negI (by omega), show (-100 : Int32).toInt = -100 from rfl]; omega) (by rw [own_nr (n := n) (by omega)]; exact own_hin htab.1.1 (by omega)) (by rw [own_nr (n := n) (by omega), own_tnc (by omega)]; exact htab.1.2 _ (by omega)) (by rw [s0]; exact own_nge0 (by omega)) (by rw [s0]; exact own_lt16 (by omega)) g_a3 (by rw [s0, own_tnc (by omega)]; (try simp only [List.length_set]); rw [own_padl _ _ (by rw [e16]; omega), e16]; omega) ne_w6_a3 (by rw [own_nr (n := n) (by omega)]; exact own_hin htab.2.1 (by omega)) (by rw [own_nr (n := n) (by omega), own_tnc (by omega)]; exact htab.2.2 _ (by omega)) (by rw [s1]; exact own_nge0 (by omega)) (by rw [s1]; exact own_lt16 (by omega)) (by rw [s1, own_tnc (by omega)]; (try simp only [List.length_set]); rw [own_padl _ _ (by rw [e16]; omega), e16]; omega) ne_w4_a3 (by rw [own_ndiv (n := n) (by omega), Int32.lt_iff_toInt_lt, own_negI (by omega), show (-100 : Int32).toInt = -100 from rfl]; omega) (by rw [own_ndiv (n := n) (by omega), own_nn]; exact own_hin htab.1.1 (by omega)) (by rw [own_ndiv (n := n) (by omega), own_nn, own_tnc (by omega)]; exact htab.1.2 _ (by omega)) (by rw [s2]; exact own_nge0 (by omega)) (by rw [s2]; exact own_lt16 (by omega)) (by rw [s2, own_tnc (by omega)]; (try simp only [List.length_set]); rw [own_padl _ _ (by rw [e16]; omega), e16]; omega) (by rw [own_ndiv (n := n) (by omega), Int32.lt_iff_toInt_lt, own_negI (by omega), show (-9 : Int32).toInt = -9 from rfl]; omega)
  unfold Q30d3 at q
  rw [congrArg Int32.toNatClampNeg s2, congrArg Int32.toNatClampNeg s1, congrArg Int32.toNatClampNeg s0, own_tnc (k := cs.length + 2) (by omega), own_tnc (k := cs.length + 1) (by omega), own_tnc (k := cs.length + 0) (by omega)] at q
  rw [own_sets3 cs (own_D (n % 100 % 10)) (own_D (n % 100 / 10)) (own_D (n / 100 % 10)) hl16] at q
  rw [← own_dec3 hbn] at q
  exact q
def Q30g4 (Z : State) (p1 p2 : Int32) (a3 : Addr) (k9 : ClassId) (w4 : Addr) (v5 : Cell) (w6 : Addr) (v7 : Cell) (n : Nat) (cs : List Int32) (h0 : Heap) (n0 : Nat) (v : Option Value) (h : Heap) (L : List Loc) : Prop := v = some (.int ((((p2 + (-1 : Int32)) + (-1 : Int32)) + (-1 : Int32)) + (-1 : Int32))) ∧ Fr n0 L ∧ Keep h0 h [a3] ∧ Arv Z h a3 k9 .byte (16 : Int32) (own_pad (cs ++ own_dec n) (16 : Int32)) (.int 0)
theorem rm30g4 (l : Launch) (Z : State) (a0 : Array Value) (hw : ∀ d ∈ tables_1, d.before a0 Z = true) (ws : List Jvm.Cond) (p1 p2 : Int32) (a3 : Addr) (k9 : ClassId) (w4 : Addr) (v5 : Cell) (w6 : Addr) (v7 : Cell) (n : Nat) (cs : List Int32) (h0 : Heap) (n0 : Nat) (O0 : Old Z n0 h0) (HV_a3 : Arv Z h0 a3 k9 .byte (16 : Int32) (own_pad cs (16 : Int32)) (.int 0)) (S_DigitOnes : Sta Z Z.heap "java/lang/Integer" "DigitOnes" "[B" (.ref w4)) (HA_w4 : Arr Z h0 w4 v5 .byte) (S_DigitTens : Sta Z Z.heap "java/lang/Integer" "DigitTens" "[B" (.ref w6)) (HA_w6 : Arr Z h0 w6 v7 .byte) (g_a3 : n0 ≤ a3) (ne_w6_a3 : w6 ≠ a3) (ne_w4_a3 : w4 ≠ a3) (hp1 : p1 = (Int32.ofNat n)) (hp2 : p2 = (Int32.ofNat (cs.length + 4))) (hbn : 1000 ≤ n ∧ n < 10000) (hl16 : cs.length + 4 ≤ 16) (htab : own_tab v5 v7) :
    own_C l Z (⟨"java/lang/Integer", "getChars", "(II[B)I"⟩ : MethodName) jdk_33_method_12_code 7 (some .int) ws ({ frames := 0, cells := 0, slots := 0, locals := 0 } : Room) #[(.int p1), (.int p2), (.ref a3)] h0 (Q30g4 Z p1 p2 a3 k9 w4 v5 w6 v7 n cs h0 n0) := by
  subst hp1 hp2
  have e16 : ((16 : Int32)).toNatClampNeg = 16 := rfl
  have s0 : ((Int32.ofNat (cs.length + 4)) + (-1 : Int32)) = Int32.ofNat (cs.length + 3) := by exact own_pre (a := cs.length + 3) (by omega)
  have s1 : (((Int32.ofNat (cs.length + 4)) + (-1 : Int32)) + (-1 : Int32)) = Int32.ofNat (cs.length + 2) := by rw [s0]; exact own_pre (a := cs.length + 2) (by omega)
  have s2 : ((((Int32.ofNat (cs.length + 4)) + (-1 : Int32)) + (-1 : Int32)) + (-1 : Int32)) = Int32.ofNat (cs.length + 1) := by rw [s1]; exact own_pre (a := cs.length + 1) (by omega)
  have s3 : (((((Int32.ofNat (cs.length + 4)) + (-1 : Int32)) + (-1 : Int32)) + (-1 : Int32)) + (-1 : Int32)) = Int32.ofNat (cs.length + 0) := by rw [s2]; exact own_pre (a := cs.length + 0) (by omega)
  have q := rm30d4 l Z a0 hw ws (Int32.ofNat n) (Int32.ofNat (cs.length + 4)) a3 k9 (16 : Int32) (own_pad cs 16) w4 v5 w6 v7 (own_D (n % 100 % 10)) (own_D (n % 100 / 10)) (own_D (n / 100 % 10)) (own_D (n / 100 / 10)) h0 n0 O0 HV_a3 (own_nge0 (by omega)) S_DigitOnes HA_w4 S_DigitTens HA_w6 (by rw [Int32.lt_iff_toInt_lt, own_negI (by omega), show (-100 : Int32).toInt = -100 from rfl]; omega) (by rw [own_nr (n := n) (by omega)]; exact own_hin htab.1.1 (by omega)) (by rw [own_nr (n := n) (by omega), own_tnc (by omega)]; exact htab.1.2 _ (by omega)) (by rw [s0]; exact own_nge0 (by omega)) (by rw [s0]; exact own_lt16 (by omega)) g_a3 (by rw [s0, own_tnc (by omega)]; (try simp only [List.length_set]); rw [own_padl _ _ (by rw [e16]; omega), e16]; omega) ne_w6_a3 (by rw [own_nr (n := n) (by omega)]; exact own_hin htab.2.1 (by omega)) (by rw [own_nr (n := n) (by omega), own_tnc (by omega)]; exact htab.2.2 _ (by omega)) (by rw [s1]; exact own_nge0 (by omega)) (by rw [s1]; exact own_lt16 (by omega)) (by rw [s1, own_tnc (by omega)]; (try simp only [List.length_set]); rw [own_padl _ _ (by rw [e16]; omega), e16]; omega) ne_w4_a3 (by rw [own_ndiv (n := n) (by omega), Int32.lt_iff_toInt_lt, own_negI (by omega), show (-100 : Int32).toInt = -100 from rfl]; omega) (by rw [own_ndiv (n := n) (by omega), own_nn]; exact own_hin htab.1.1 (by omega)) (by rw [own_ndiv (n := n) (by omega), own_nn, own_tnc (by omega)]; exact htab.1.2 _ (by omega)) (by rw [s2]; exact own_nge0 (by omega)) (by rw [s2]; exact own_lt16 (by omega)) (by rw [s2, own_tnc (by omega)]; (try simp only [List.length_set]); rw [own_padl _ _ (by rw [e16]; omega), e16]; omega) (by rw [own_ndiv (n := n) (by omega), Int32.lt_iff_toInt_lt, own_negI (by omega), show (-9 : Int32).toInt = -9 from rfl]; omega) (by rw [own_ndiv (n := n) (by omega), own_nn]; exact own_hin htab.2.1 (by omega)) (by rw [own_ndiv (n := n) (by omega), own_nn, own_tnc (by omega)]; exact htab.2.2 _ (by omega)) (by rw [s3]; exact own_nge0 (by omega)) (by rw [s3]; exact own_lt16 (by omega)) (by rw [s3, own_tnc (by omega)]; (try simp only [List.length_set]); rw [own_padl _ _ (by rw [e16]; omega), e16]; omega)
  unfold Q30d4 at q
  rw [congrArg Int32.toNatClampNeg s3, congrArg Int32.toNatClampNeg s2, congrArg Int32.toNatClampNeg s1, congrArg Int32.toNatClampNeg s0, own_tnc (k := cs.length + 3) (by omega), own_tnc (k := cs.length + 2) (by omega), own_tnc (k := cs.length + 1) (by omega), own_tnc (k := cs.length + 0) (by omega)] at q
  rw [own_sets4 cs (own_D (n % 100 % 10)) (own_D (n % 100 / 10)) (own_D (n / 100 % 10)) (own_D (n / 100 / 10)) hl16] at q
  rw [← own_dec4 hbn] at q
  exact q
def Q30g5 (Z : State) (p1 p2 : Int32) (a3 : Addr) (k9 : ClassId) (w4 : Addr) (v5 : Cell) (w6 : Addr) (v7 : Cell) (n : Nat) (cs : List Int32) (h0 : Heap) (n0 : Nat) (v : Option Value) (h : Heap) (L : List Loc) : Prop := v = some (.int (((((p2 + (-1 : Int32)) + (-1 : Int32)) + (-1 : Int32)) + (-1 : Int32)) + (-1 : Int32))) ∧ Fr n0 L ∧ Keep h0 h [a3] ∧ Arv Z h a3 k9 .byte (16 : Int32) (own_pad (cs ++ own_dec n) (16 : Int32)) (.int 0)
theorem rm30g5 (l : Launch) (Z : State) (a0 : Array Value) (hw : ∀ d ∈ tables_1, d.before a0 Z = true) (ws : List Jvm.Cond) (p1 p2 : Int32) (a3 : Addr) (k9 : ClassId) (w4 : Addr) (v5 : Cell) (w6 : Addr) (v7 : Cell) (n : Nat) (cs : List Int32) (h0 : Heap) (n0 : Nat) (O0 : Old Z n0 h0) (HV_a3 : Arv Z h0 a3 k9 .byte (16 : Int32) (own_pad cs (16 : Int32)) (.int 0)) (S_DigitOnes : Sta Z Z.heap "java/lang/Integer" "DigitOnes" "[B" (.ref w4)) (HA_w4 : Arr Z h0 w4 v5 .byte) (S_DigitTens : Sta Z Z.heap "java/lang/Integer" "DigitTens" "[B" (.ref w6)) (HA_w6 : Arr Z h0 w6 v7 .byte) (g_a3 : n0 ≤ a3) (ne_w6_a3 : w6 ≠ a3) (ne_w4_a3 : w4 ≠ a3) (hp1 : p1 = (Int32.ofNat n)) (hp2 : p2 = (Int32.ofNat (cs.length + 5))) (hbn : 10000 ≤ n ∧ n < 65536) (hl16 : cs.length + 5 ≤ 16) (htab : own_tab v5 v7) :
    own_C l Z (⟨"java/lang/Integer", "getChars", "(II[B)I"⟩ : MethodName) jdk_33_method_12_code 7 (some .int) ws ({ frames := 0, cells := 0, slots := 0, locals := 0 } : Room) #[(.int p1), (.int p2), (.ref a3)] h0 (Q30g5 Z p1 p2 a3 k9 w4 v5 w6 v7 n cs h0 n0) := by
  subst hp1 hp2
  have e16 : ((16 : Int32)).toNatClampNeg = 16 := rfl
  have s0 : ((Int32.ofNat (cs.length + 5)) + (-1 : Int32)) = Int32.ofNat (cs.length + 4) := by exact own_pre (a := cs.length + 4) (by omega)
  have s1 : (((Int32.ofNat (cs.length + 5)) + (-1 : Int32)) + (-1 : Int32)) = Int32.ofNat (cs.length + 3) := by rw [s0]; exact own_pre (a := cs.length + 3) (by omega)
  have s2 : ((((Int32.ofNat (cs.length + 5)) + (-1 : Int32)) + (-1 : Int32)) + (-1 : Int32)) = Int32.ofNat (cs.length + 2) := by rw [s1]; exact own_pre (a := cs.length + 2) (by omega)
  have s3 : (((((Int32.ofNat (cs.length + 5)) + (-1 : Int32)) + (-1 : Int32)) + (-1 : Int32)) + (-1 : Int32)) = Int32.ofNat (cs.length + 1) := by rw [s2]; exact own_pre (a := cs.length + 1) (by omega)
  have s4 : ((((((Int32.ofNat (cs.length + 5)) + (-1 : Int32)) + (-1 : Int32)) + (-1 : Int32)) + (-1 : Int32)) + (-1 : Int32)) = Int32.ofNat (cs.length + 0) := by rw [s3]; exact own_pre (a := cs.length + 0) (by omega)
  have q := rm30d5 l Z a0 hw ws (Int32.ofNat n) (Int32.ofNat (cs.length + 5)) a3 k9 (16 : Int32) (own_pad cs 16) w4 v5 w6 v7 (own_D (n % 100 % 10)) (own_D (n % 100 / 10)) (own_D (n / 100 % 100 % 10)) (own_D (n / 100 % 100 / 10)) (own_D (n / 100 / 100 % 10)) h0 n0 O0 HV_a3 (own_nge0 (by omega)) S_DigitOnes HA_w4 S_DigitTens HA_w6 (by rw [Int32.lt_iff_toInt_lt, own_negI (by omega), show (-100 : Int32).toInt = -100 from rfl]; omega) (by rw [own_nr (n := n) (by omega)]; exact own_hin htab.1.1 (by omega)) (by rw [own_nr (n := n) (by omega), own_tnc (by omega)]; exact htab.1.2 _ (by omega)) (by rw [s0]; exact own_nge0 (by omega)) (by rw [s0]; exact own_lt16 (by omega)) g_a3 (by rw [s0, own_tnc (by omega)]; (try simp only [List.length_set]); rw [own_padl _ _ (by rw [e16]; omega), e16]; omega) ne_w6_a3 (by rw [own_nr (n := n) (by omega)]; exact own_hin htab.2.1 (by omega)) (by rw [own_nr (n := n) (by omega), own_tnc (by omega)]; exact htab.2.2 _ (by omega)) (by rw [s1]; exact own_nge0 (by omega)) (by rw [s1]; exact own_lt16 (by omega)) (by rw [s1, own_tnc (by omega)]; (try simp only [List.length_set]); rw [own_padl _ _ (by rw [e16]; omega), e16]; omega) ne_w4_a3 (by rw [own_ndiv (n := n) (by omega), Int32.lt_iff_toInt_lt, own_negI (by omega), show (-100 : Int32).toInt = -100 from rfl]; omega) (by rw [own_ndiv (n := n) (by omega), own_nr (n := n / 100) (by omega)]; exact own_hin htab.1.1 (by omega)) (by rw [own_ndiv (n := n) (by omega), own_nr (n := n / 100) (by omega), own_tnc (by omega)]; exact htab.1.2 _ (by omega)) (by rw [s2]; exact own_nge0 (by omega)) (by rw [s2]; exact own_lt16 (by omega)) (by rw [s2, own_tnc (by omega)]; (try simp only [List.length_set]); rw [own_padl _ _ (by rw [e16]; omega), e16]; omega) (by rw [own_ndiv (n := n) (by omega), own_nr (n := n / 100) (by omega)]; exact own_hin htab.2.1 (by omega)) (by rw [own_ndiv (n := n) (by omega), own_nr (n := n / 100) (by omega), own_tnc (by omega)]; exact htab.2.2 _ (by omega)) (by rw [s3]; exact own_nge0 (by omega)) (by rw [s3]; exact own_lt16 (by omega)) (by rw [s3, own_tnc (by omega)]; (try simp only [List.length_set]); rw [own_padl _ _ (by rw [e16]; omega), e16]; omega) (by rw [own_ndiv (n := n) (by omega), own_ndiv (n := n / 100) (by omega), Int32.lt_iff_toInt_lt, own_negI (by omega), show (-100 : Int32).toInt = -100 from rfl]; omega) (by rw [own_ndiv (n := n) (by omega), own_ndiv (n := n / 100) (by omega), own_nn]; exact own_hin htab.1.1 (by omega)) (by rw [own_ndiv (n := n) (by omega), own_ndiv (n := n / 100) (by omega), own_nn, own_tnc (by omega)]; exact htab.1.2 _ (by omega)) (by rw [s4]; exact own_nge0 (by omega)) (by rw [s4]; exact own_lt16 (by omega)) (by rw [s4, own_tnc (by omega)]; (try simp only [List.length_set]); rw [own_padl _ _ (by rw [e16]; omega), e16]; omega) (by rw [own_ndiv (n := n) (by omega), own_ndiv (n := n / 100) (by omega), Int32.lt_iff_toInt_lt, own_negI (by omega), show (-9 : Int32).toInt = -9 from rfl]; omega)
  unfold Q30d5 at q
  rw [congrArg Int32.toNatClampNeg s4, congrArg Int32.toNatClampNeg s3, congrArg Int32.toNatClampNeg s2, congrArg Int32.toNatClampNeg s1, congrArg Int32.toNatClampNeg s0, own_tnc (k := cs.length + 4) (by omega), own_tnc (k := cs.length + 3) (by omega), own_tnc (k := cs.length + 2) (by omega), own_tnc (k := cs.length + 1) (by omega), own_tnc (k := cs.length + 0) (by omega)] at q
  rw [own_sets5 cs (own_D (n % 100 % 10)) (own_D (n % 100 / 10)) (own_D (n / 100 % 100 % 10)) (own_D (n / 100 % 100 / 10)) (own_D (n / 100 / 100 % 10)) hl16] at q
  rw [← own_dec5 hbn] at q
  exact q
def Q28 (Z : State) (p1 : Int32) (n : Nat) (h0 : Heap) (n0 : Nat) (v : Option Value) (h : Heap) (L : List Loc) : Prop := v = some (.int (own_n (own_dec n))) ∧ Fr n0 L ∧ h = h0
theorem rm28 (l : Launch) (Z : State) (a0 : Array Value) (hw : ∀ d ∈ tables_1, d.before a0 Z = true) (ws : List Jvm.Cond) (p1 : Int32) (n : Nat) (h0 : Heap) (n0 : Nat) (O0 : Old Z n0 h0) (hv : p1 = (Int32.ofNat n)) (hn : n < 65536) :
    own_C l Z (⟨"java/lang/Integer", "stringSize", "(I)I"⟩ : MethodName) jdk_33_method_13_code 4 (some .int) ws ({ frames := 0, cells := 0, slots := 0, locals := 0 } : Room) #[(.int p1)] h0 (Q28 Z p1 n h0 n0) := by
  by_cases hd1 : n < 10
  · have q := rm28d1 l Z a0 hw ws p1 h0 n0 O0 (by rw [hv]; exact own_nge0 (by omega)) (by rw [hv, Int32.lt_iff_toInt_lt, own_negI (by omega), show (-10 : Int32).toInt = -10 from rfl]; omega)
    unfold Q28d1 at q
    unfold Q28
    rw [show own_n (own_dec n) = (1 : Int32) from by rw [own_dec1 (by omega)]; rfl]
    exact q
  by_cases hd2 : n < 100
  · have q := rm28d2 l Z a0 hw ws p1 h0 n0 O0 (by rw [hv]; exact own_nge0 (by omega)) (by rw [hv, Int32.lt_iff_toInt_lt, own_negI (by omega), show (-10 : Int32).toInt = -10 from rfl]; omega) (by rw [hv, Int32.lt_iff_toInt_lt, own_negI (by omega), show (-100 : Int32).toInt = -100 from rfl]; omega)
    unfold Q28d2 at q
    unfold Q28
    rw [show own_n (own_dec n) = (2 : Int32) from by rw [own_dec2 (by omega)]; rfl]
    exact q
  by_cases hd3 : n < 1000
  · have q := rm28d3 l Z a0 hw ws p1 h0 n0 O0 (by rw [hv]; exact own_nge0 (by omega)) (by rw [hv, Int32.lt_iff_toInt_lt, own_negI (by omega), show (-10 : Int32).toInt = -10 from rfl]; omega) (by rw [hv, Int32.lt_iff_toInt_lt, own_negI (by omega), show (-100 : Int32).toInt = -100 from rfl]; omega) (by rw [hv, Int32.lt_iff_toInt_lt, own_negI (by omega), show (-1000 : Int32).toInt = -1000 from rfl]; omega)
    unfold Q28d3 at q
    unfold Q28
    rw [show own_n (own_dec n) = (3 : Int32) from by rw [own_dec3 (by omega)]; rfl]
    exact q
  by_cases hd4 : n < 10000
  · have q := rm28d4 l Z a0 hw ws p1 h0 n0 O0 (by rw [hv]; exact own_nge0 (by omega)) (by rw [hv, Int32.lt_iff_toInt_lt, own_negI (by omega), show (-10 : Int32).toInt = -10 from rfl]; omega) (by rw [hv, Int32.lt_iff_toInt_lt, own_negI (by omega), show (-100 : Int32).toInt = -100 from rfl]; omega) (by rw [hv, Int32.lt_iff_toInt_lt, own_negI (by omega), show (-1000 : Int32).toInt = -1000 from rfl]; omega) (by rw [hv, Int32.lt_iff_toInt_lt, own_negI (by omega), show (-10000 : Int32).toInt = -10000 from rfl]; omega)
    unfold Q28d4 at q
    unfold Q28
    rw [show own_n (own_dec n) = (4 : Int32) from by rw [own_dec4 (by omega)]; rfl]
    exact q
  have q := rm28d5 l Z a0 hw ws p1 h0 n0 O0 (by rw [hv]; exact own_nge0 (by omega)) (by rw [hv, Int32.lt_iff_toInt_lt, own_negI (by omega), show (-10 : Int32).toInt = -10 from rfl]; omega) (by rw [hv, Int32.lt_iff_toInt_lt, own_negI (by omega), show (-100 : Int32).toInt = -100 from rfl]; omega) (by rw [hv, Int32.lt_iff_toInt_lt, own_negI (by omega), show (-1000 : Int32).toInt = -1000 from rfl]; omega) (by rw [hv, Int32.lt_iff_toInt_lt, own_negI (by omega), show (-10000 : Int32).toInt = -10000 from rfl]; omega) (by rw [hv, Int32.lt_iff_toInt_lt, own_negI (by omega), show (-100000 : Int32).toInt = -100000 from rfl]; omega)
  unfold Q28d5 at q
  unfold Q28
  rw [show own_n (own_dec n) = (5 : Int32) from by rw [own_dec5 (by omega)]; rfl]
  exact q
def Q30 (Z : State) (p1 p2 : Int32) (a3 : Addr) (k9 : ClassId) (wO wT : Addr) (cO cT : Cell) (n : Nat) (cs : List Int32) (h0 : Heap) (n0 : Nat) (v : Option Value) (h : Heap) (L : List Loc) : Prop := ∃ rr : Int32, v = some (.int rr) ∧ Fr n0 L ∧ Keep h0 h [a3] ∧ Arv Z h a3 k9 .byte (16 : Int32) (own_pad (cs ++ own_dec n) (16 : Int32)) (.int 0)
theorem rm30 (l : Launch) (Z : State) (a0 : Array Value) (hw : ∀ d ∈ tables_1, d.before a0 Z = true) (ws : List Jvm.Cond) (p1 p2 : Int32) (a3 : Addr) (k9 : ClassId) (wO wT : Addr) (cO cT : Cell) (n : Nat) (cs : List Int32) (h0 : Heap) (n0 : Nat) (O0 : Old Z n0 h0) (HV_a3 : Arv Z h0 a3 k9 .byte (16 : Int32) (own_pad cs (16 : Int32)) (.int 0)) (S_DigitOnes : Sta Z Z.heap "java/lang/Integer" "DigitOnes" "[B" (.ref wO)) (S_DigitTens : Sta Z Z.heap "java/lang/Integer" "DigitTens" "[B" (.ref wT)) (HA_wO : Arr Z h0 wO cO .byte) (HA_wT : Arr Z h0 wT cT .byte) (g_a3 : n0 ≤ a3) (ne_wO_a3 : wO ≠ a3) (ne_wT_a3 : wT ≠ a3) (hv : p1 = (Int32.ofNat n)) (hp2 : p2 = (own_n (cs ++ own_dec n))) (hn : n < 65536) (hl : cs.length + 5 ≤ 16) (htab : own_tab cO cT) :
    own_C l Z (⟨"java/lang/Integer", "getChars", "(II[B)I"⟩ : MethodName) jdk_33_method_12_code 7 (some .int) ws ({ frames := 0, cells := 0, slots := 0, locals := 0 } : Room) #[(.int p1), (.int p2), (.ref a3)] h0 (Q30 Z p1 p2 a3 k9 wO wT cO cT n cs h0 n0) := by
  intro p e ha hc hk s m args below hf_ happ hP hK
  by_cases hd1 : n < 10
  · have el : (own_dec n).length = 1 := by rw [own_dec1 (by omega)]; rfl
    obtain ⟨q1, q2, q3, q4, q5, v, L, rfl, ⟨rfl, N, K, V_⟩, hF⟩ := rm30g1 l Z a0 hw ws p1 p2 a3 k9 wO cO cT n cs h0 n0 O0 HV_a3 S_DigitOnes HA_wO g_a3 hv (by rw [hp2, own_n, List.length_append, el]) (by omega) (by omega) htab p e ha hc hk s m args below hf_ happ hP hK
    exact ⟨q1, _, q3, q4, q5, _, L, rfl, ⟨_, rfl, N, K, V_⟩, hF⟩
  by_cases hd2 : n < 100
  · have el : (own_dec n).length = 2 := by rw [own_dec2 (by omega)]; rfl
    obtain ⟨q1, q2, q3, q4, q5, v, L, rfl, ⟨rfl, N, K, V_⟩, hF⟩ := rm30g2 l Z a0 hw ws p1 p2 a3 k9 wO cO wT cT n cs h0 n0 O0 HV_a3 S_DigitOnes HA_wO S_DigitTens HA_wT g_a3 ne_wT_a3 hv (by rw [hp2, own_n, List.length_append, el]) (by omega) (by omega) htab p e ha hc hk s m args below hf_ happ hP hK
    exact ⟨q1, _, q3, q4, q5, _, L, rfl, ⟨_, rfl, N, K, V_⟩, hF⟩
  by_cases hd3 : n < 1000
  · have el : (own_dec n).length = 3 := by rw [own_dec3 (by omega)]; rfl
    obtain ⟨q1, q2, q3, q4, q5, v, L, rfl, ⟨rfl, N, K, V_⟩, hF⟩ := rm30g3 l Z a0 hw ws p1 p2 a3 k9 wO cO wT cT n cs h0 n0 O0 HV_a3 S_DigitOnes HA_wO S_DigitTens HA_wT g_a3 ne_wT_a3 ne_wO_a3 hv (by rw [hp2, own_n, List.length_append, el]) (by omega) (by omega) htab p e ha hc hk s m args below hf_ happ hP hK
    exact ⟨q1, _, q3, q4, q5, _, L, rfl, ⟨_, rfl, N, K, V_⟩, hF⟩
  by_cases hd4 : n < 10000
  · have el : (own_dec n).length = 4 := by rw [own_dec4 (by omega)]; rfl
    obtain ⟨q1, q2, q3, q4, q5, v, L, rfl, ⟨rfl, N, K, V_⟩, hF⟩ := rm30g4 l Z a0 hw ws p1 p2 a3 k9 wO cO wT cT n cs h0 n0 O0 HV_a3 S_DigitOnes HA_wO S_DigitTens HA_wT g_a3 ne_wT_a3 ne_wO_a3 hv (by rw [hp2, own_n, List.length_append, el]) (by omega) (by omega) htab p e ha hc hk s m args below hf_ happ hP hK
    exact ⟨q1, _, q3, q4, q5, _, L, rfl, ⟨_, rfl, N, K, V_⟩, hF⟩
  have el : (own_dec n).length = 5 := by rw [own_dec5 (by omega)]; rfl
  obtain ⟨q1, q2, q3, q4, q5, v, L, rfl, ⟨rfl, N, K, V_⟩, hF⟩ := rm30g5 l Z a0 hw ws p1 p2 a3 k9 wO cO wT cT n cs h0 n0 O0 HV_a3 S_DigitOnes HA_wO S_DigitTens HA_wT g_a3 ne_wT_a3 ne_wO_a3 hv (by rw [hp2, own_n, List.length_append, el]) (by omega) (by omega) htab p e ha hc hk s m args below hf_ happ hP hK
  exact ⟨q1, _, q3, q4, q5, _, L, rfl, ⟨_, rfl, N, K, V_⟩, hF⟩
def own_L27 : List (Nat × Instr × Nat) := [(0, .aload_n 0, 1), (1, .getfield 79, 3), (4, .istore_n 2, 1), (5, .iload_n 2, 1), (6, .iload_n 1, 1), (7, .invokestatic 245, 3), (10, .iadd, 1), (11, .istore_n 3, 1), (12, .aload_n 0, 1), (13, .iload_n 3, 1), (14, .invokevirtual 100, 3), (17, .aload_n 0, 1), (18, .invokevirtual 83, 3), (21, .ifCond .eq 16, 3), (24, .iload_n 1, 1), (25, .iload_n 3, 1), (26, .aload_n 0, 1), (27, .getfield 15, 3), (30, .invokestatic 248, 3), (33, .pop, 1), (34, .goto 14, 3), (48, .aload_n 0, 1), (49, .iload_n 3, 1), (50, .putfield 79, 3), (53, .aload_n 0, 1), (54, .areturn, 1)]
theorem own_K27 : ∀ x ∈ own_L27, decode jdk_68_method_32_code x.1 = .ok x.2 := by decide +kernel
theorem d27 {c : Code} (hby : c.code = jdk_68_method_32_code) (i : Nat) {k n : Nat} {a : Instr} (h : own_L27[i]? = some (k, a, n)) : decode c.code k = .ok (a, n) := own_dL own_K27 hby h
theorem pd_16 : parseMethodDescriptor "(II[B)I" = some ⟨[.int, .int, (.array .byte)], some .int⟩ := by decide +kernel
def Q27w (Z : State) (a1 : Addr) (p2 : Int32) (k8 : ClassId) (t : Addr) (kc zC : Int32) (cs : List Int32) (n : Nat) (wO wT : Addr) (cO cT : Cell) (h0 : Heap) (n0 : Nat) (v : Option Value) (h : Heap) (L : List Loc) : Prop := v = some (.ref a1) ∧ Fr n0 L ∧ Keep h0 h [t, a1] ∧ Exa Z h t "[B" ∧ Arv Z h t k8 .byte (16 : Int32) (own_pad (cs ++ own_dec n) (16 : Int32)) (.int 0) ∧ Exa Z h a1 "java/lang/StringBuilder" ∧ Fld Z h a1 "java/lang/AbstractStringBuilder" "coder" "B" (.int 0) ∧ Fld Z h a1 "java/lang/AbstractStringBuilder" "count" "I" (.int (kc + (own_n (own_dec n)))) ∧ Fld Z h a1 "java/lang/AbstractStringBuilder" "value" "[B" (.ref t)
theorem ef_27 (m : MethodId) (x0 : Addr) (x1 : Int32) : entryFrame m #[(.ref x0), (.int x1)] 4 = mkF m 0 #[.val (.ref x0), .val (.int x1), .unset, .unset] [] := by first | (simp [entryFrame, mkF, argsToLocals, Value.category]; done) | rfl
theorem rm27w (l : Launch) (Z : State) (a0 : Array Value) (hw : ∀ d ∈ tables_1, d.before a0 Z = true) (ws : List Jvm.Cond) (a1 : Addr) (p2 : Int32) (k8 : ClassId) (t : Addr) (kc zC : Int32) (cs : List Int32) (n : Nat) (wO wT : Addr) (cO cT : Cell) (h0 : Heap) (n0 : Nat) (O0 : Old Z n0 h0) (HE_a1 : Exa Z h0 a1 "java/lang/StringBuilder") (HE_t : Exa Z h0 t "[B") (HF_a1_value : Fld Z h0 a1 "java/lang/AbstractStringBuilder" "value" "[B" (.ref t)) (HF_a1_coder : Fld Z h0 a1 "java/lang/AbstractStringBuilder" "coder" "B" (.int 0)) (HF_a1_count : Fld Z h0 a1 "java/lang/AbstractStringBuilder" "count" "I" (.int kc)) (HV_t : Arv Z h0 t k8 .byte (16 : Int32) (own_pad cs (16 : Int32)) (.int 0)) (HA_wO : Arr Z h0 wO cO .byte) (HA_wT : Arr Z h0 wT cT .byte) (h7_hv : p2 = (Int32.ofNat n)) (h7_hn : n < 65536) (h14_hc14 : ¬ ((0 : Int32) < ((kc + (own_n (own_dec n))) - ((16 : Int32) >>> ((0 : Int32) &&& 31))))) (S_COMPACT_STRINGS : Sta Z Z.heap "java/lang/String" "COMPACT_STRINGS" "Z" (.int zC)) (h18_hc3 : ¬ (zC = (0 : Int32))) (S_DigitOnes : Sta Z Z.heap "java/lang/Integer" "DigitOnes" "[B" (.ref wO)) (S_DigitTens : Sta Z Z.heap "java/lang/Integer" "DigitTens" "[B" (.ref wT)) (g_t : n0 ≤ t) (ne_wO_t : wO ≠ t) (ne_wT_t : wT ≠ t) (h30_hp2 : (kc + (own_n (own_dec n))) = (own_n (cs ++ own_dec n))) (h30_hl : cs.length + 5 ≤ 16) (h30_htab : own_tab cO cT) (ne_a1_t : a1 ≠ t) (g_a1 : n0 ≤ a1) :
    own_C l Z (⟨"java/lang/AbstractStringBuilder", "append", "(I)Ljava/lang/AbstractStringBuilder;"⟩ : MethodName) jdk_68_method_32_code 4 (some (.object "java/lang/AbstractStringBuilder")) ws ({ frames := 4, cells := 0, slots := 0, locals := 90 } : Room) #[(.ref a1), (.int p2)] h0 (Q27w Z a1 p2 k8 t kc zC cs n wO wT cO cT h0 n0) := by
  refine own_intro (plainFor_of_name pnc_java_lang_AbstractStringBuilder) fun p e s m below meth c s₁ hx hby hml hown hnm hZ e0 hret X0 => ?_
  have N0 := Fr.nil n0
  have Z0 : n0 ≤ h0.size := O0.1 ▸ O0.2.1
  obtain ⟨T3, X3, e3, st3⟩ := getF X0 hx hZ hown (host := "") (Or.inl (own_w hw 128 rfl)) Via.refl e0 HF_a1_count (g := (mkF m 1 #[.val (.ref a1), .val (.int p2), .unset, .unset] [(.ref a1)])) rfl rfl (d27 hby 1 rfl)
  obtain ⟨vr4, _, ⟨T4, L4, k4, n4⟩, -, X4, ⟨Lc4, hQ4, l4, y4, z4⟩, st4⟩ := Jvm.LawKit.callS X3 hx (y := (⟨"java/lang/Integer", "stringSize", "(I)I"⟩ : MethodName)) hown (mvT hZ (own_w hw 164 rfl)) (mvT hZ (own_w hw 165 rfl)) (mvT hZ (own_w hw 166 rfl)) (mvT hZ (own_w hw 167 rfl)) (by decide) (backOf (W := 1) (rm28 l Z a0 hw [] p2 n h0 n0 O0 h7_hv h7_hn) hZ (own_w hw 167 rfl) (own_w hw 166 rfl) (by decide) (by decide)) (g := (mkF m 7 #[.val (.ref a1), .val (.int p2), .val (.int kc), .unset] [(.int p2), (.int kc)])) rfl (by rw [hml]; rfl) (argsL := [(.int p2)]) (rest := [(.int kc)]) (lenOf pd_8 rfl) rfl (by show 2 * 0 + _ ≤ _; exact Nat.le_of_eq rfl) (d27 hby 5 rfl) (fun _ _ => ⟨rfl, e3, (by decide : 0 + 0 ≤ _), (by decide : 0 + 0 ≤ _)⟩)
  dsimp only [Pt.U, Pt.locs, Pt.cells, Pt.slots] at X4 l4 y4 z4 st4 hQ4
  subst l4 y4 z4
  obtain ⟨rfl, N4q, e4⟩ := hQ4
  have N4 := Fr.app N0 N4q
  replace X4 := X4.more (cells' := 0) (slots' := 0) (by decide) (by decide)
  obtain ⟨cq5, q5, q5'⟩ := HE_a1.cell
  obtain ⟨vr5, _, ⟨T5, L5, k5, n5⟩, -, X5, ⟨Lc5, hQ5, l5, y5, z5⟩, st5⟩ := X4.privateBack hx (y := (⟨"java/lang/AbstractStringBuilder", "ensureCapacityInternal", "(I)V"⟩ : MethodName)) hown (mvT hZ (own_w hw 130 rfl)) (mvT hZ (own_w hw 131 rfl)) (own_selP (mvT hZ (own_w hw 131 rfl)) (Cond.privateMethod_at (mvP hZ (own_w hw 132 rfl) (args := #[]))) (mvT hZ (own_w hw 133 rfl)) (by decide)) (Cond.privateMethod_at (mvP hZ (own_w hw 132 rfl) (args := #[]))) (mvT hZ (own_w hw 134 rfl)) (by decide) (backOf (W := 0) (rm220 l Z a0 hw [] a1 ((kc + (own_n (own_dec n)))) t k8 ((16 : Int32)) ((own_pad cs (16 : Int32))) h0 n0 O0 HE_a1 HF_a1_value HF_a1_coder HV_t h14_hc14) hZ (own_w hw 134 rfl) (own_w hw 105 rfl) (by decide) (by decide)) (g := (mkF m 14 #[.val (.ref a1), .val (.int p2), .val (.int kc), .val (.int (kc + (own_n (own_dec n))))] [(.int (kc + (own_n (own_dec n)))), (.ref a1)])) rfl (by rw [hml]; rfl) (Steps.refl _) (a := a1) (by rw [e4]; exact q5) q5' (argsL := [(.int (kc + (own_n (own_dec n))))]) (rest := []) (lenOf pd_11 rfl) rfl (by show 2 * 0 + _ ≤ _; exact Nat.le_of_eq rfl) (d27 hby 10 rfl) (fun _ _ => ⟨rfl, e4, (by decide : 0 + 0 ≤ _), (by decide : 0 + 0 ≤ _)⟩)
  dsimp only [Pt.U, Pt.locs, Pt.cells, Pt.slots] at X5 l5 y5 z5 st5 hQ5
  subst l5 y5 z5
  obtain ⟨rfl, N5q, e5⟩ := hQ5
  have N5 := Fr.app N4 N5q
  replace X5 := X5.more (cells' := 0) (slots' := 0) (by decide) (by decide)
  obtain ⟨cq6, kq6, q6a, q6b, q6c⟩ := isOf hZ e5 HE_a1
  obtain ⟨vr6, _, ⟨T6, L6, k6, n6⟩, -, X6, ⟨Lc6, hQ6, l6, y6, z6⟩, st6⟩ := X5.virtualBack hx (y := (⟨"java/lang/AbstractStringBuilder", "isLatin1", "()Z"⟩ : MethodName)) (z := (⟨"java/lang/AbstractStringBuilder", "isLatin1", "()Z"⟩ : MethodName)) hown (mvT hZ (own_w hw 168 rfl)) (mvT hZ (own_w hw 169 rfl)) (notFace_of_selects (args := #[]) (mvT hZ (own_w hw 171 rfl))) (mvT hZ (own_w hw 171 rfl)) (mvT hZ (own_w hw 170 rfl)) (by decide) (backOf (W := 0) (rm29 l Z a0 hw [] a1 zC h0 n0 O0 S_COMPACT_STRINGS h18_hc3 HF_a1_coder) hZ (own_w hw 172 rfl) (own_w hw 105 rfl) (by decide) (by decide)) q6a q6c (g := (mkF m 18 #[.val (.ref a1), .val (.int p2), .val (.int kc), .val (.int (kc + (own_n (own_dec n))))] [(.ref a1)])) rfl (by rw [hml]; rfl) (Steps.refl _) (argsL := []) (rest := []) (lenOf pd_5 rfl) rfl (by show 2 * 0 + _ ≤ _; exact Nat.le_of_eq rfl) (d27 hby 12 rfl) (fun _ _ => ⟨rfl, e5, (by decide : 0 + 0 ≤ _), (by decide : 0 + 0 ≤ _)⟩)
  dsimp only [Pt.U, Pt.locs, Pt.cells, Pt.slots] at X6 l6 y6 z6 st6 hQ6
  subst l6 y6 z6
  obtain ⟨rfl, N6q, e6⟩ := hQ6
  have N6 := Fr.app N5 N6q
  replace X6 := X6.more (cells' := 0) (slots' := 0) (by decide) (by decide)
  obtain ⟨T7, X7, e7, st7⟩ := getF X6 hx hZ hown (host := "") (Or.inl (own_w hw 109 rfl)) Via.refl e6 HF_a1_value (g := (mkF m 27 #[.val (.ref a1), .val (.int p2), .val (.int kc), .val (.int (kc + (own_n (own_dec n))))] [(.ref a1), (.int (kc + (own_n (own_dec n)))), (.int p2)])) rfl rfl (d27 hby 17 rfl)
  obtain ⟨vr8, _, ⟨T8, L8, k8, n8⟩, -, X8, ⟨Lc8, hQ8, l8, y8, z8⟩, st8⟩ := Jvm.LawKit.callS X7 hx (y := (⟨"java/lang/Integer", "getChars", "(II[B)I"⟩ : MethodName)) hown (mvT hZ (own_w hw 173 rfl)) (mvT hZ (own_w hw 174 rfl)) (mvT hZ (own_w hw 166 rfl)) (mvT hZ (own_w hw 175 rfl)) (by decide) (backOf (W := 0) (rm30 l Z a0 hw [] p2 ((kc + (own_n (own_dec n)))) t k8 wO wT cO cT n cs h0 n0 O0 HV_t S_DigitOnes S_DigitTens HA_wO HA_wT g_t ne_wO_t ne_wT_t h7_hv h30_hp2 h7_hn h30_hl h30_htab) hZ (own_w hw 175 rfl) (own_w hw 166 rfl) (by decide) (by decide)) (g := (mkF m 30 #[.val (.ref a1), .val (.int p2), .val (.int kc), .val (.int (kc + (own_n (own_dec n))))] [(.ref t), (.int (kc + (own_n (own_dec n)))), (.int p2)])) rfl (by rw [hml]; rfl) (argsL := [(.int p2), (.int (kc + (own_n (own_dec n)))), (.ref t)]) (rest := []) (lenOf pd_16 rfl) rfl (by show 2 * 0 + _ ≤ _; exact Nat.le_of_eq rfl) (d27 hby 18 rfl) (fun _ _ => ⟨rfl, e7, (by decide : 0 + 0 ≤ _), (by decide : 0 + 0 ≤ _)⟩)
  dsimp only [Pt.U, Pt.locs, Pt.cells, Pt.slots] at X8 l8 y8 z8 st8 hQ8
  subst l8 y8 z8
  obtain ⟨y9, rfl, N8q, K8, Y8_0⟩ := hQ8
  have N8 := Fr.app N6 N8q
  replace X8 := X8.more (cells' := 0) (slots' := 0) (by decide) (by decide)
  have K10 : Keep h0 T8.heap [t, a1] := (Keep.refl h0 [t, a1]).trans K8 (allS (Or.inl (List.mem_of_getElem? (i := 0) rfl)) all0)
  have O11 : Old Z n0 T8.heap := O0.keep K8 (allS g_t all0)
  have f12 := (HE_a1.keep K8)
  have f13 := (HF_a1_count.keep K8 (ninS ne_a1_t nin0))
  obtain ⟨T14, h14, X14, e14, W14, st14⟩ := putF X8 hx hZ hown (host := "") (Or.inl (own_w hw 128 rfl)) Via.refl rfl f13 f12 (Or.inl (own_w hw 129 rfl)) (own_w hw 96 rfl) (ty := .int) (by decide) rfl rfl (g := (mkF m 50 #[.val (.ref a1), .val (.int p2), .val (.int kc), .val (.int (kc + (own_n (own_dec n))))] [(.int (kc + (own_n (own_dec n)))), (.ref a1)])) rfl rfl (d27 hby 23 rfl)
  have N14 := Fr.snoc X14 N8 g_a1
  have K15 : Keep h0 h14 [t, a1] := K10.wr W14 (Or.inl (List.mem_of_getElem? (i := 1) rfl))
  have O16 : Old Z n0 h14 := O11.wr W14 g_a1
  have Fw14 : Fld Z h14 a1 "java/lang/AbstractStringBuilder" "count" "I" (.int (kc + (own_n (own_dec n)))) := f13.same W14
  have f17 := ((HE_t.keep K8).wr W14)
  have f18 := (Y8_0.other W14 (Ne.symm ne_a1_t))
  have f19 := (f12.wr W14)
  have f20 := ((HF_a1_coder.keep K8 (ninS ne_a1_t nin0)).other W14 (Or.inr (slot_ne (Or.inl (own_w hw 112 rfl)) (Or.inl (own_w hw 129 rfl)) (by decide) (t := .byte) (t' := .int) (by decide) (by decide))))
  have f21 := ((HF_a1_value.keep K8 (ninS ne_a1_t nin0)).other W14 (Or.inr (slot_ne (Or.inl (own_w hw 110 rfl)) (Or.inl (own_w hw 129 rfl)) (by decide) (t := (.array .byte)) (t' := .int) (by decide) (by decide))))
  refine ⟨T14, _, _, _, some (.ref a1), X14, by decide, by decide, nofun, ?_, fun fs hr => castTop (ef_27 m a1 p2) ?_⟩
  · show Q27w Z a1 p2 k8 t kc zC cs n wO wT cO cT h0 n0 _ T14.heap _
    rw [e14]
    exact ⟨rfl, N14, K15, f17, f18, f19, f20, Fw14, f21⟩
  · show Steps p.tables e below (s₁.setTop (mkF m 0 #[.val (.ref a1), .val (.int p2), .unset, .unset] [])) _
    refine XS.aloadN X0.here hx rfl (d27 hby 0 rfl) rfl rfl ?_
    refine st3 _ ?_
    refine XS.istoreN X3.here hx rfl (d27 hby 2 rfl) rfl (l' := #[.val (.ref a1), .val (.int p2), .val (.int kc), .unset]) rfl ?_
    refine XS.iloadN X3.here hx rfl (d27 hby 3 rfl) rfl ?_
    refine XS.iloadN X3.here hx rfl (d27 hby 4 rfl) rfl ?_
    refine st4 _ ?_
    refine XS.iadd X4.here hx rfl (d27 hby 6 rfl) rfl ?_
    refine XS.istoreN X4.here hx rfl (d27 hby 7 rfl) rfl (l' := #[.val (.ref a1), .val (.int p2), .val (.int kc), .val (.int (kc + (own_n (own_dec n))))]) rfl ?_
    refine XS.aloadN X4.here hx rfl (d27 hby 8 rfl) rfl rfl ?_
    refine XS.iloadN X4.here hx rfl (d27 hby 9 rfl) rfl ?_
    refine st5.trans ?_
    refine XS.aloadN X5.here hx rfl (d27 hby 11 rfl) rfl rfl ?_
    refine st6.trans ?_
    refine XS.ifNo X6.here hx rfl (d27 hby 13 rfl) rfl ((if0 _ _).trans (feq (by decide : ¬ ((1 : Int32) = (0 : Int32)))).1) ?_
    refine XS.iloadN X6.here hx rfl (d27 hby 14 rfl) rfl ?_
    refine XS.iloadN X6.here hx rfl (d27 hby 15 rfl) rfl ?_
    refine XS.aloadN X6.here hx rfl (d27 hby 16 rfl) rfl rfl ?_
    refine st7 _ ?_
    refine st8 _ ?_
    refine XS.pop X8.here hx rfl (d27 hby 19 rfl) rfl rfl ?_
    refine XS.goto X8.here hx rfl (pc0 := 34) (pc' := 48) rfl (d27 hby 20 rfl) (by decide) (by decide) ?_
    refine XS.aloadN X8.here hx rfl (d27 hby 21 rfl) rfl rfl ?_
    refine XS.iloadN X8.here hx rfl (d27 hby 22 rfl) rfl ?_
    refine st14 _ ?_
    refine XS.aloadN X14.here hx rfl (d27 hby 24 rfl) rfl rfl ?_
    exact own_retR X14 hx hret rfl rfl (d27 hby 25 rfl) hr
theorem own_c16 {k : Nat} (h : k ≤ 16) : ¬ ((0 : Int32) < (Int32.ofNat k - ((16 : Int32) >>> ((0 : Int32) &&& 31)))) := by
  rw [own_sr0]
  have q : ∀ j : Fin 17, ¬ ((0 : Int32) < (Int32.ofNat j.1 - (16 : Int32))) := by decide
  exact q ⟨k, by omega⟩
theorem own_dl {n : Nat} (hn : n < 65536) : (own_dec n).length ≤ 5 := by
  rw [own_dec, List.length_append, List.length_append, List.length_append, List.length_append]
  have a : (if 10000 ≤ n then [own_D (n / 10000)] else []).length ≤ 1 := by split <;> simp
  have b : (if 1000 ≤ n then [own_D (n / 1000 % 10)] else []).length ≤ 1 := by split <;> simp
  have c : (if 100 ≤ n then [own_D (n / 100 % 10)] else []).length ≤ 1 := by split <;> simp
  have d : (if 10 ≤ n then [own_D (n / 10 % 10)] else []).length ≤ 1 := by split <;> simp
  have e : [own_D (n % 10)].length = 1 := rfl
  omega
def Q27 (Z : State) (a1 : Addr) (p2 : Int32) (k8 : ClassId) (t : Addr) (kc zC : Int32) (cs : List Int32) (n : Nat) (wO wT : Addr) (cO cT : Cell) (zz : Int32) (h0 : Heap) (n0 : Nat) (v : Option Value) (h : Heap) (L : List Loc) : Prop := v = some (.ref a1) ∧ Fr n0 L ∧ Keep h0 h [t, a1] ∧ Exa Z h t "[B" ∧ Arv Z h t k8 .byte zz (own_pad (cs ++ own_dec n) zz) (.int 0) ∧ Exa Z h a1 "java/lang/StringBuilder" ∧ Fld Z h a1 "java/lang/AbstractStringBuilder" "coder" "B" (.int 0) ∧ Fld Z h a1 "java/lang/AbstractStringBuilder" "count" "I" (.int (own_n (cs ++ own_dec n))) ∧ Fld Z h a1 "java/lang/AbstractStringBuilder" "value" "[B" (.ref t) ∧ own_cap zz (cs ++ own_dec n)
theorem rm27 (l : Launch) (Z : State) (a0 : Array Value) (hw : ∀ d ∈ tables_1, d.before a0 Z = true) (ws : List Jvm.Cond) (a1 : Addr) (p2 : Int32) (k8 : ClassId) (t : Addr) (kc zC : Int32) (cs : List Int32) (n : Nat) (wO wT : Addr) (cO cT : Cell) (zz : Int32) (h0 : Heap) (n0 : Nat) (O0 : Old Z n0 h0) (HE_a1 : Exa Z h0 a1 "java/lang/StringBuilder") (HE_t : Exa Z h0 t "[B") (HF_a1_value : Fld Z h0 a1 "java/lang/AbstractStringBuilder" "value" "[B" (.ref t)) (HF_a1_coder : Fld Z h0 a1 "java/lang/AbstractStringBuilder" "coder" "B" (.int 0)) (HF_a1_count : Fld Z h0 a1 "java/lang/AbstractStringBuilder" "count" "I" (.int kc)) (HV_t : Arv Z h0 t k8 .byte zz (own_pad cs zz) (.int 0)) (HA_wO : Arr Z h0 wO cO .byte) (HA_wT : Arr Z h0 wT cT .byte) (S_COMPACT_STRINGS : Sta Z Z.heap "java/lang/String" "COMPACT_STRINGS" "Z" (.int zC)) (S_DigitOnes : Sta Z Z.heap "java/lang/Integer" "DigitOnes" "[B" (.ref wO)) (S_DigitTens : Sta Z Z.heap "java/lang/Integer" "DigitTens" "[B" (.ref wT)) (g_t : n0 ≤ t) (ne_wO_t : wO ≠ t) (ne_wT_t : wT ≠ t) (ne_a1_t : a1 ≠ t) (g_a1 : n0 ≤ a1) (hz : ¬ (zC = (0 : Int32))) (hkc : kc = (own_n cs)) (hv : p2 = (Int32.ofNat n)) (hn : n < 65536) (hl : cs.length + 5 ≤ 16) (hcap : own_cap zz cs) (htab : own_tab cO cT) :
    own_C l Z (⟨"java/lang/AbstractStringBuilder", "append", "(I)Ljava/lang/AbstractStringBuilder;"⟩ : MethodName) jdk_68_method_32_code 4 (some (.object "java/lang/AbstractStringBuilder")) ws ({ frames := 4, cells := 0, slots := 0, locals := 90 } : Room) #[(.ref a1), (.int p2)] h0 (Q27 Z a1 p2 k8 t kc zC cs n wO wT cO cT zz h0 n0) := by
  intro p e ha hc hk s m args below hf_ happ hP hK
  have hdl := own_dl hn
  obtain rfl : zz = (16 : Int32) := hcap.elim (fun q => q.1) (fun q => absurd q.2.1 (by omega))
  obtain ⟨q1, q2, q3, q4, q5, v, L, rfl, ⟨rfl, N, K, Et, Vt, Ea1, Fa1coder, Fa1count, Fa1value⟩, hF⟩ := rm27w l Z a0 hw ws a1 p2 k8 t kc zC cs n wO wT cO cT h0 n0 O0 HE_a1 HE_t HF_a1_value HF_a1_coder HF_a1_count HV_t HA_wO HA_wT hv hn (by rw [hkc, own_nadd (by omega)]; exact own_c16 (by rw [List.length_append]; omega)) S_COMPACT_STRINGS hz S_DigitOnes S_DigitTens g_t ne_wO_t ne_wT_t (by rw [hkc, own_nadd (by omega)]) hl htab ne_a1_t g_a1 p e ha hc hk s m args below hf_ happ hP hK
  rw [hkc, own_nadd (by omega)] at Fa1count
  exact ⟨q1, _, q3, q4, q5, _, L, rfl, ⟨rfl, N, K, Et, Vt, Ea1, Fa1coder, Fa1count, Fa1value, Or.inl ⟨rfl, by rw [List.length_append]; omega⟩⟩, hF⟩
def own_L26 : List (Nat × Instr × Nat) := [(0, .aload_n 0, 1), (1, .iload_n 1, 1), (2, .invokespecial 53, 3), (5, .pop, 1), (6, .aload_n 0, 1), (7, .areturn, 1)]
theorem own_K26 : ∀ x ∈ own_L26, decode jdk_67_method_15_code x.1 = .ok x.2 := by decide +kernel
theorem d26 {c : Code} (hby : c.code = jdk_67_method_15_code) (i : Nat) {k n : Nat} {a : Instr} (h : own_L26[i]? = some (k, a, n)) : decode c.code k = .ok (a, n) := own_dL own_K26 hby h
theorem pd_9 : parseMethodDescriptor "(I)Ljava/lang/AbstractStringBuilder;" = some ⟨[.int], some (.object "java/lang/AbstractStringBuilder")⟩ := by decide +kernel
def Q26 (Z : State) (a1 : Addr) (p2 : Int32) (k8 : ClassId) (t : Addr) (kc zC : Int32) (cs : List Int32) (n : Nat) (wO wT : Addr) (cO cT : Cell) (zz : Int32) (h0 : Heap) (n0 : Nat) (v : Option Value) (h : Heap) (L : List Loc) : Prop := v = some (.ref a1) ∧ Fr n0 L ∧ Keep h0 h [a1, t] ∧ Exa Z h a1 "java/lang/StringBuilder" ∧ Fld Z h a1 "java/lang/AbstractStringBuilder" "coder" "B" (.int 0) ∧ Fld Z h a1 "java/lang/AbstractStringBuilder" "count" "I" (.int (own_n (cs ++ own_dec n))) ∧ Fld Z h a1 "java/lang/AbstractStringBuilder" "value" "[B" (.ref t) ∧ Exa Z h t "[B" ∧ Arv Z h t k8 .byte zz (own_pad (cs ++ own_dec n) zz) (.int 0) ∧ own_cap zz (cs ++ own_dec n)
theorem ef_26 (m : MethodId) (x0 : Addr) (x1 : Int32) : entryFrame m #[(.ref x0), (.int x1)] 2 = mkF m 0 #[.val (.ref x0), .val (.int x1)] [] := by first | (simp [entryFrame, mkF, argsToLocals, Value.category]; done) | rfl
theorem rm26 (l : Launch) (Z : State) (a0 : Array Value) (hw : ∀ d ∈ tables_1, d.before a0 Z = true) (ws : List Jvm.Cond) (a1 : Addr) (p2 : Int32) (k8 : ClassId) (t : Addr) (kc zC : Int32) (cs : List Int32) (n : Nat) (wO wT : Addr) (cO cT : Cell) (zz : Int32) (h0 : Heap) (n0 : Nat) (O0 : Old Z n0 h0) (HE_a1 : Exa Z h0 a1 "java/lang/StringBuilder") (HE_t : Exa Z h0 t "[B") (HF_a1_value : Fld Z h0 a1 "java/lang/AbstractStringBuilder" "value" "[B" (.ref t)) (HF_a1_coder : Fld Z h0 a1 "java/lang/AbstractStringBuilder" "coder" "B" (.int 0)) (HF_a1_count : Fld Z h0 a1 "java/lang/AbstractStringBuilder" "count" "I" (.int kc)) (HV_t : Arv Z h0 t k8 .byte zz (own_pad cs zz) (.int 0)) (HA_wO : Arr Z h0 wO cO .byte) (HA_wT : Arr Z h0 wT cT .byte) (S_COMPACT_STRINGS : Sta Z Z.heap "java/lang/String" "COMPACT_STRINGS" "Z" (.int zC)) (S_DigitOnes : Sta Z Z.heap "java/lang/Integer" "DigitOnes" "[B" (.ref wO)) (S_DigitTens : Sta Z Z.heap "java/lang/Integer" "DigitTens" "[B" (.ref wT)) (g_t : n0 ≤ t) (ne_wO_t : wO ≠ t) (ne_wT_t : wT ≠ t) (ne_a1_t : a1 ≠ t) (g_a1 : n0 ≤ a1) (h2_hz : ¬ (zC = (0 : Int32))) (h2_hkc : kc = (own_n cs)) (h2_hv : p2 = (Int32.ofNat n)) (h2_hn : n < 65536) (h2_hl : cs.length + 5 ≤ 16) (h2_hcap : own_cap zz cs) (h2_htab : own_tab cO cT) :
    own_C l Z (⟨"java/lang/StringBuilder", "append", "(I)Ljava/lang/StringBuilder;"⟩ : MethodName) jdk_67_method_15_code 2 (some (.object "java/lang/StringBuilder")) ws ({ frames := 5, cells := 0, slots := 0, locals := 105 } : Room) #[(.ref a1), (.int p2)] h0 (Q26 Z a1 p2 k8 t kc zC cs n wO wT cO cT zz h0 n0) := by
  refine own_intro (plainFor_of_name pnc_java_lang_StringBuilder) fun p e s m below meth c s₁ hx hby hml hown hnm hZ e0 hret X0 => ?_
  have N0 := Fr.nil n0
  have Z0 : n0 ≤ h0.size := O0.1 ▸ O0.2.1
  obtain ⟨vr3, _, ⟨T3, L3, k3, n3⟩, -, X3, ⟨Lc3, hQ3, l3, y3, z3⟩, st3⟩ := superBack X0 hx hZ (y := (⟨"java/lang/AbstractStringBuilder", "append", "(I)Ljava/lang/AbstractStringBuilder;"⟩ : MethodName)) hown (own_w hw 160 rfl) (own_sameP (own_w hw 161 rfl) (own_w hw 133 rfl) rfl (by decide)) (own_w hw 161 rfl) (own_w hw 120 rfl) (by decide) (backOf (W := 0) (rm27 l Z a0 hw [] a1 p2 k8 t kc zC cs n wO wT cO cT zz h0 n0 O0 HE_a1 HE_t HF_a1_value HF_a1_coder HF_a1_count HV_t HA_wO HA_wT S_COMPACT_STRINGS S_DigitOnes S_DigitTens g_t ne_wO_t ne_wT_t ne_a1_t g_a1 h2_hz h2_hkc h2_hv h2_hn h2_hl h2_hcap h2_htab) hZ (own_w hw 163 rfl) (own_w hw 105 rfl) (by decide) (by decide)) e0 (Ins.self HE_a1) (g := (mkF m 2 #[.val (.ref a1), .val (.int p2)] [(.int p2), (.ref a1)])) rfl (by rw [hml]; rfl) (own_w hw 163 rfl) (argsL := [(.int p2)]) (rest := []) (lenOf pd_9 rfl) rfl (by show 2 * 0 + _ ≤ _; exact Nat.le_of_eq rfl) (d26 hby 2 rfl) (fun _ _ => ⟨rfl, e0, (by decide : 0 + 0 ≤ _), (by decide : 0 + 0 ≤ _)⟩)
  dsimp only [Pt.U, Pt.locs, Pt.cells, Pt.slots] at X3 l3 y3 z3 st3 hQ3
  subst l3 y3 z3
  obtain ⟨rfl, N3q, K3, Y3_0, Y3_1, Y3_2, Y3_3, Y3_4, Y3_5, Y3_6⟩ := hQ3
  have N3 := Fr.app N0 N3q
  replace X3 := X3.more (cells' := 0) (slots' := 0) (by decide) (by decide)
  have K4 : Keep h0 T3.heap [a1, t] := (Keep.refl h0 [a1, t]).trans K3 (allS (Or.inl (List.mem_of_getElem? (i := 1) rfl)) (allS (Or.inl (List.mem_of_getElem? (i := 0) rfl)) all0))
  have O5 : Old Z n0 T3.heap := O0.keep K3 (allS g_t (allS g_a1 all0))
  refine ⟨T3, _, _, _, some (.ref a1), X3, by decide, by decide, nofun, ?_, fun fs hr => castTop (ef_26 m a1 p2) ?_⟩
  · show Q26 Z a1 p2 k8 t kc zC cs n wO wT cO cT zz h0 n0 _ T3.heap _
    exact ⟨rfl, N3, K4, Y3_2, Y3_3, Y3_4, Y3_5, Y3_0, Y3_1, Y3_6⟩
  · show Steps p.tables e below (s₁.setTop (mkF m 0 #[.val (.ref a1), .val (.int p2)] [])) _
    refine XS.aloadN X0.here hx rfl (d26 hby 0 rfl) rfl rfl ?_
    refine XS.iloadN X0.here hx rfl (d26 hby 1 rfl) rfl ?_
    refine st3.trans ?_
    refine XS.pop X3.here hx rfl (d26 hby 3 rfl) rfl rfl ?_
    refine XS.aloadN X3.here hx rfl (d26 hby 4 rfl) rfl rfl ?_
    exact own_retR X3 hx hret rfl rfl (d26 hby 5 rfl) hr
def own_L39 : List (Nat × Instr × Nat) := [(0, .iload_n 1, 1), (1, .iload_n 0, 1), (2, .if_icmp .ge 35, 3), (37, .return_, 1)]
theorem own_K39 : ∀ x ∈ own_L39, decode jdk_65_method_131_code x.1 = .ok x.2 := by decide +kernel
theorem d39 {c : Code} (hby : c.code = jdk_65_method_131_code) (i : Nat) {k n : Nat} {a : Instr} (h : own_L39[i]? = some (k, a, n)) : decode c.code k = .ok (a, n) := own_dL own_K39 hby h
def Q39 (Z : State) (p1 p2 : Int32) (h0 : Heap) (n0 : Nat) (v : Option Value) (h : Heap) (L : List Loc) : Prop := v = none ∧ Fr n0 L ∧ h = h0
theorem ef_39 (m : MethodId) (x0 : Int32) (x1 : Int32) : entryFrame m #[(.int x0), (.int x1)] 2 = mkF m 0 #[.val (.int x0), .val (.int x1)] [] := by first | (simp [entryFrame, mkF, argsToLocals, Value.category]; done) | rfl
theorem rm39 (l : Launch) (Z : State) (a0 : Array Value) (hw : ∀ d ∈ tables_1, d.before a0 Z = true) (ws : List Jvm.Cond) (p1 p2 : Int32) (h0 : Heap) (n0 : Nat) (O0 : Old Z n0 h0) (hc2 : ¬ (p2 < p1)) :
    own_C l Z (⟨"java/util/Arrays", "checkLength", "(II)V"⟩ : MethodName) jdk_65_method_131_code 2 none ws ({ frames := 0, cells := 0, slots := 0, locals := 0 } : Room) #[(.int p1), (.int p2)] h0 (Q39 Z p1 p2 h0 n0) := by
  refine own_intro (plainFor_of_name pnc_java_util_Arrays) fun p e s m below meth c s₁ hx hby hml hown hnm hZ e0 hret X0 => ?_
  have N0 := Fr.nil n0
  have Z0 : n0 ≤ h0.size := O0.1 ▸ O0.2.1
  refine ⟨s₁, _, _, _, none, X0, by decide, by decide, fun _ => rfl, ?_, fun fs hr => castTop (ef_39 m p1 p2) ?_⟩
  · show Q39 Z p1 p2 h0 n0 _ s₁.heap _
    rw [e0]
    exact ⟨rfl, N0, rfl⟩
  · show Steps p.tables e below (s₁.setTop (mkF m 0 #[.val (.int p1), .val (.int p2)] [])) _
    refine XS.iloadN X0.here hx rfl (d39 hby 0 rfl) rfl ?_
    refine XS.iloadN X0.here hx rfl (d39 hby 1 rfl) rfl ?_
    refine XS.icmpYes X0.here hx rfl (pc0 := 2) (pc' := 37) rfl (d39 hby 2 rfl) rfl (flt hc2).2.1 (by decide) (by decide) ?_
    exact X0.returnOut hx hret (d39 hby 3 rfl) hr
def own_L38 : List (Nat × Instr × Nat) := [(0, .iload_n 1, 1), (1, .iload_n 2, 1), (2, .invokestatic 343, 3), (5, .iload_n 2, 1), (6, .iload_n 1, 1), (7, .isub, 1), (8, .istore_n 3, 1), (9, .iload_n 3, 1), (10, .newarray .byte, 2), (12, .astore 4, 2), (14, .aload_n 0, 1), (15, .iload_n 1, 1), (16, .aload 4, 2), (18, .iconst 0, 1), (19, .aload_n 0, 1), (20, .arraylength, 1), (21, .iload_n 1, 1), (22, .isub, 1), (23, .iload_n 3, 1), (24, .invokestatic 304, 3), (27, .invokestatic 150, 3), (30, .aload 4, 2), (32, .areturn, 1)]
theorem own_K38 : ∀ x ∈ own_L38, decode jdk_65_method_133_code x.1 = .ok x.2 := by decide +kernel
theorem d38 {c : Code} (hby : c.code = jdk_65_method_133_code) (i : Nat) {k n : Nat} {a : Instr} (h : own_L38[i]? = some (k, a, n)) : decode c.code k = .ok (a, n) := own_dL own_K38 hby h
def Q38 (Z : State) (a1 : Addr) (p2 : Int32) (k8 : ClassId) (zz : Int32) (cs : List Int32) (us10 : List Value) (h0 : Heap) (n0 : Nat) (v : Option Value) (h : Heap) (L : List Loc) : Prop := ∃ b4 : Addr, ∃ k4 : ClassId, v = some (.ref b4) ∧ Fr n0 L ∧ Keep h0 h [] ∧ h0.size ≤ b4 ∧ Arv Z h b4 k4 .byte (p2 - (0 : Int32)) (own_cpy (own_zs (p2 - (0 : Int32))) ((0 : Int32)).toNatClampNeg us10 ((p2 - (0 : Int32))).toNatClampNeg) (.int 0)
theorem ef_38a__0___Int32__a (m : MethodId) (x0 : Addr) (x2 : Int32) : entryFrame m #[(.ref x0), (.int 0), (.int x2)] 5 = mkF m 0 #[.val (.ref x0), .val (.int 0), .val (.int x2), .unset, .unset] [] := by first | (simp [entryFrame, mkF, argsToLocals, Value.category]; done) | rfl
theorem rm38 (l : Launch) (Z : State) (a0 : Array Value) (hw : ∀ d ∈ tables_1, d.before a0 Z = true) (ws : List Jvm.Cond) (a1 : Addr) (p2 : Int32) (k8 : ClassId) (zz : Int32) (cs : List Int32) (us10 : List Value) (h0 : Heap) (n0 : Nat) (O0 : Old Z n0 h0) (HV_a1 : Arv Z h0 a1 k8 .byte zz (own_pad cs zz) (.int 0)) (h2_hc2 : ¬ (p2 < (0 : Int32))) (hng10 : ¬ ((p2 - (0 : Int32)) < (0 : Int32))) (hcap10 : ((p2 - (0 : Int32))).toNatClampNeg ≤ 34) (h24_hc2 : (p2 - (0 : Int32)) < (zz - (0 : Int32))) (hsl27 : ((0 : Int32)).toNatClampNeg + ((p2 - (0 : Int32))).toNatClampNeg ≤ (zz).toNatClampNeg) (hdl27 : ((0 : Int32)).toNatClampNeg + ((p2 - (0 : Int32))).toNatClampNeg ≤ ((p2 - (0 : Int32))).toNatClampNeg) (hus27 : us10 = (List.range ((p2 - (0 : Int32))).toNatClampNeg).map fun i => (own_pad cs zz).getD (((0 : Int32)).toNatClampNeg + i) (.int 0)) (hvl27 : ((0 : Int32)).toNatClampNeg + ((p2 - (0 : Int32))).toNatClampNeg ≤ (own_zs (p2 - (0 : Int32))).length) :
    own_C l Z (⟨"java/util/Arrays", "copyOfRangeByte", "([BII)[B"⟩ : MethodName) jdk_65_method_133_code 5 (some (.array .byte)) ws ({ frames := 1, cells := 1, slots := 34, locals := 18 } : Room) #[(.ref a1), (.int 0), (.int p2)] h0 (Q38 Z a1 p2 k8 zz cs us10 h0 n0) := by
  refine own_intro (plainFor_of_name pnc_java_util_Arrays) fun p e s m below meth c s₁ hx hby hml hown hnm hZ e0 hret X0 => ?_
  have N0 := Fr.nil n0
  have Z0 : n0 ≤ h0.size := O0.1 ▸ O0.2.1
  obtain ⟨vr3, _, ⟨T3, L3, k3, n3⟩, -, X3, ⟨Lc3, hQ3, l3, y3, z3⟩, st3⟩ := Jvm.LawKit.callS X0 hx (y := (⟨"java/util/Arrays", "checkLength", "(II)V"⟩ : MethodName)) hown (mvT hZ (own_w hw 210 rfl)) (mvT hZ (own_w hw 211 rfl)) (mvT hZ (own_w hw 205 rfl)) (mvT hZ (own_w hw 212 rfl)) (by decide) (backOf (W := 0) (rm39 l Z a0 hw [] ((0 : Int32)) p2 h0 n0 O0 h2_hc2) hZ (own_w hw 212 rfl) (own_w hw 205 rfl) (by decide) (by decide)) (g := (mkF m 2 #[.val (.ref a1), .val (.int 0), .val (.int p2), .unset, .unset] [(.int p2), (.int 0)])) rfl (by rw [hml]; rfl) (argsL := [(.int 0), (.int p2)]) (rest := []) (lenOf pd_13 rfl) rfl (by show 2 * 0 + _ ≤ _; exact Nat.le_of_eq rfl) (d38 hby 2 rfl) (fun _ _ => ⟨rfl, e0, (by decide : 0 + 0 ≤ _), (by decide : 0 + 0 ≤ _)⟩)
  dsimp only [Pt.U, Pt.locs, Pt.cells, Pt.slots] at X3 l3 y3 z3 st3 hQ3
  subst l3 y3 z3
  obtain ⟨rfl, N3q, e3⟩ := hQ3
  have N3 := Fr.app N0 N3q
  replace X3 := X3.more (cells' := 0) (slots' := 0) (by decide) (by decide)
  obtain ⟨T4, h4, k4, X4, e4, E4, A4, st4⟩ := newP X3 hx hZ (own_w hw 20 rfl) e3 (g := (mkF m 10 #[.val (.ref a1), .val (.int 0), .val (.int p2), .val (.int (p2 - (0 : Int32))), .unset] [(.int (p2 - (0 : Int32)))])) rfl (d38 hby 8 rfl) rfl hng10 (cap := 34) hcap10 (by decide) (by decide) (by decide)
  obtain ⟨b4, g4⟩ : ∃ z, z = h0.size := ⟨_, rfl⟩
  rw [← g4] at A4 st4
  have g_b4 : n0 ≤ b4 := Nat.le_trans (Nat.le_trans Z0 (Keep.refl h0 []).1) (Nat.le_of_eq g4.symm)
  have sz_b4 : h0.size ≤ b4 := Nat.le_trans (Keep.refl h0 []).1 (Nat.le_of_eq g4.symm)
  have K5 : Keep h0 h4 [] := (Keep.refl h0 []).ext E4
  have O6 : Old Z n0 h4 := O0.ext E4
  have V4 : Arv Z h4 b4 k4 .byte (p2 - (0 : Int32)) (own_zs (p2 - (0 : Int32))) (.int 0) := (Arv.new A4 hng10).pad (pad_rep [] (.int 0) _)
  replace X4 := X4.more (cells' := 1) (slots' := 34) (by decide) (by decide)
  have f7 := (HV_a1.ext E4)
  obtain ⟨cl8, Ar8, q8, S8, Nn8, Hh8, G8⟩ := id f7
  obtain ⟨vr9, _, ⟨T9, L9, k9, n9⟩, -, X9, ⟨Lc9, hQ9, l9, y9, z9⟩, st9⟩ := Jvm.LawKit.callS X4 hx (y := (⟨"java/lang/Math", "min", "(II)I"⟩ : MethodName)) hown (mvT hZ (own_w hw 213 rfl)) (mvT hZ (own_w hw 214 rfl)) (mvT hZ (own_w hw 215 rfl)) (mvT hZ (own_w hw 216 rfl)) (by decide) (backOf (W := 4) (rm40 l Z a0 hw [] ((zz - (0 : Int32))) ((p2 - (0 : Int32))) h4 n0 O6 h24_hc2) hZ (own_w hw 216 rfl) (own_w hw 215 rfl) (by decide) (by decide)) (g := (mkF m 24 #[.val (.ref a1), .val (.int 0), .val (.int p2), .val (.int (p2 - (0 : Int32))), .val (.ref b4)] [(.int (p2 - (0 : Int32))), (.int (zz - (0 : Int32))), (.int 0), (.ref b4), (.int 0), (.ref a1)])) rfl (by rw [hml]; rfl) (argsL := [(.int (zz - (0 : Int32))), (.int (p2 - (0 : Int32)))]) (rest := [(.int 0), (.ref b4), (.int 0), (.ref a1)]) (lenOf pd_12 rfl) rfl (by show 2 * 0 + _ ≤ _; exact Nat.le_of_eq rfl) (d38 hby 19 rfl) (fun _ _ => ⟨rfl, e4, (by decide : 1 + 0 ≤ _), (by decide : 34 + 0 ≤ _)⟩)
  dsimp only [Pt.U, Pt.locs, Pt.cells, Pt.slots] at X9 l9 y9 z9 st9 hQ9
  subst l9 y9 z9
  obtain ⟨rfl, N9q, e9⟩ := hQ9
  have N9 := Fr.app N3 N9q
  replace X9 := X9.more (cells' := 1) (slots' := 34) (by decide) (by decide)
  obtain ⟨T11, h11, L11, X11, e11, N11, Kc11, V11, st11⟩ := cpA X9 hx hZ hown (own_w hw 217 rfl) (own_w hw 154 rfl) (own_w hw 152 rfl) (own_w hw 153 rfl) e9 f7 V4 (us := us10) (Or.inl ⟨rfl, rfl⟩) (sp := (0 : Int32)) (dp := (0 : Int32)) (nn := (p2 - (0 : Int32))) (by decide : ¬ ((0 : Int32) < (0 : Int32))) (by decide : ¬ ((0 : Int32) < (0 : Int32))) hng10 hsl27 hdl27 hus27 hvl27 N9 g_b4 (g := (mkF m 27 #[.val (.ref a1), .val (.int 0), .val (.int p2), .val (.int (p2 - (0 : Int32))), .val (.ref b4)] [(.int (p2 - (0 : Int32))), (.int 0), (.ref b4), (.int 0), (.ref a1)])) rfl (by rw [hml]; rfl) (rest := []) rfl (d38 hby 20 rfl) (by decide) (W := 0) (by show 2 * 0 + _ ≤ _; exact Nat.le_of_eq rfl) (by decide)
  have K12 : Keep h0 h11 [] := K5.trans Kc11 (allS (Or.inr sz_b4) all0)
  have O13 : Old Z n0 h11 := O6.keep Kc11 (allS g_b4 all0)
  have Vc11 : Arv Z h11 b4 k4 .byte (p2 - (0 : Int32)) (own_cpy (own_zs (p2 - (0 : Int32))) ((0 : Int32)).toNatClampNeg us10 ((p2 - (0 : Int32))).toNatClampNeg) (.int 0) := V11
  refine ⟨T11, _, _, _, some (.ref b4), X11, by decide, by decide, nofun, ?_, fun fs hr => castTop (ef_38a__0___Int32__a m a1 p2) ?_⟩
  · show Q38 Z a1 p2 k8 zz cs us10 h0 n0 _ T11.heap _
    rw [e11]
    exact ⟨b4, k4, rfl, N11, K12, sz_b4, Vc11⟩
  · show Steps p.tables e below (s₁.setTop (mkF m 0 #[.val (.ref a1), .val (.int 0), .val (.int p2), .unset, .unset] [])) _
    refine XS.iloadN X0.here hx rfl (d38 hby 0 rfl) rfl ?_
    refine XS.iloadN X0.here hx rfl (d38 hby 1 rfl) rfl ?_
    refine st3 _ ?_
    refine XS.iloadN X3.here hx rfl (d38 hby 3 rfl) rfl ?_
    refine XS.iloadN X3.here hx rfl (d38 hby 4 rfl) rfl ?_
    refine XS.isub X3.here hx rfl (d38 hby 5 rfl) rfl ?_
    refine XS.istoreN X3.here hx rfl (d38 hby 6 rfl) rfl (l' := #[.val (.ref a1), .val (.int 0), .val (.int p2), .val (.int (p2 - (0 : Int32))), .unset]) rfl ?_
    refine XS.iloadN X3.here hx rfl (d38 hby 7 rfl) rfl ?_
    refine st4 _ ?_
    refine XS.astore X4.here hx rfl (d38 hby 9 rfl) rfl rfl (l' := #[.val (.ref a1), .val (.int 0), .val (.int p2), .val (.int (p2 - (0 : Int32))), .val (.ref b4)]) rfl ?_
    refine XS.aloadN X4.here hx rfl (d38 hby 10 rfl) rfl rfl ?_
    refine XS.iloadN X4.here hx rfl (d38 hby 11 rfl) rfl ?_
    refine XS.aload X4.here hx rfl (d38 hby 12 rfl) rfl rfl ?_
    refine XS.iconst X4.here hx rfl (d38 hby 13 rfl) ?_
    refine XS.aloadN X4.here hx rfl (d38 hby 14 rfl) rfl rfl ?_
    show Steps p.tables e below (T4.setTop (mkF m 20 #[.val (.ref a1), .val (.int 0), .val (.int p2), .val (.int (p2 - (0 : Int32))), .val (.ref b4)] [(.ref a1), (.int 0), (.ref b4), (.int 0), (.ref a1)])) _
    refine X4.arraylength hx (by rw [e4]; exact Ar8.1) (State.isArrayOf_alike hZ.alike Ar8.2.1) (g := (mkF m 20 #[.val (.ref a1), .val (.int 0), .val (.int p2), .val (.int (p2 - (0 : Int32))), .val (.ref b4)] [(.ref a1), (.int 0), (.ref b4), (.int 0), (.ref a1)])) rfl rfl (d38 hby 15 rfl) _ ?_
    rw [len_of S8 Nn8]
    refine XS.iloadN X4.here hx rfl (d38 hby 16 rfl) rfl ?_
    refine XS.isub X4.here hx rfl (d38 hby 17 rfl) rfl ?_
    refine XS.iloadN X4.here hx rfl (d38 hby 18 rfl) rfl ?_
    refine st9 _ ?_
    refine st11 _ ?_
    refine XS.aload X11.here hx rfl (d38 hby 21 rfl) rfl rfl ?_
    exact own_retR X11 hx hret rfl rfl (d38 hby 22 rfl) hr
def own_L37 : List (Nat × Instr × Nat) := [(0, .iload_n 1, 1), (1, .ifCond .ne 9, 3), (4, .iload_n 2, 1), (5, .aload_n 0, 1), (6, .arraylength, 1), (7, .if_icmp .eq 10, 3), (10, .aload_n 0, 1), (11, .iload_n 1, 1), (12, .iload_n 2, 1), (13, .invokestatic 339, 3), (16, .areturn, 1), (17, .aload_n 0, 1), (18, .invokevirtual 310, 3), (21, .checkcast 311, 3), (24, .areturn, 1)]
theorem own_K37 : ∀ x ∈ own_L37, decode jdk_65_method_132_code x.1 = .ok x.2 := by decide +kernel
theorem d37 {c : Code} (hby : c.code = jdk_65_method_132_code) (i : Nat) {k n : Nat} {a : Instr} (h : own_L37[i]? = some (k, a, n)) : decode c.code k = .ok (a, n) := own_dL own_K37 hby h
theorem pd_32 : parseMethodDescriptor "([BII)[B" = some ⟨[(.array .byte), .int, .int], some (.array .byte)⟩ := by decide +kernel
def Q37n (Z : State) (a1 : Addr) (p2 : Int32) (k8 : ClassId) (zz : Int32) (cs : List Int32) (w4 : List Value) (h0 : Heap) (n0 : Nat) (v : Option Value) (h : Heap) (L : List Loc) : Prop := ∃ b6 : Addr, ∃ k7 : ClassId, v = some (.ref b6) ∧ Fr n0 L ∧ Keep h0 h [] ∧ h0.size ≤ b6 ∧ Arv Z h b6 k7 .byte (p2 - (0 : Int32)) (own_cpy (own_zs (p2 - (0 : Int32))) ((0 : Int32)).toNatClampNeg w4 ((p2 - (0 : Int32))).toNatClampNeg) (.int 0)
theorem ef_37a__0___Int32__a (m : MethodId) (x0 : Addr) (x2 : Int32) : entryFrame m #[(.ref x0), (.int 0), (.int x2)] 3 = mkF m 0 #[.val (.ref x0), .val (.int 0), .val (.int x2)] [] := by first | (simp [entryFrame, mkF, argsToLocals, Value.category]; done) | rfl
theorem rm37n (l : Launch) (Z : State) (a0 : Array Value) (hw : ∀ d ∈ tables_1, d.before a0 Z = true) (ws : List Jvm.Cond) (a1 : Addr) (p2 : Int32) (k8 : ClassId) (zz : Int32) (cs : List Int32) (w4 : List Value) (h0 : Heap) (n0 : Nat) (O0 : Old Z n0 h0) (HV_a1 : Arv Z h0 a1 k8 .byte zz (own_pad cs zz) (.int 0)) (hc7 : ¬ (p2 = zz)) (h13_h2_hc2 : ¬ (p2 < (0 : Int32))) (h13_hng10 : ¬ ((p2 - (0 : Int32)) < (0 : Int32))) (h13_hcap10 : ((p2 - (0 : Int32))).toNatClampNeg ≤ 34) (h13_h24_hc2 : (p2 - (0 : Int32)) < (zz - (0 : Int32))) (h13_hsl27 : ((0 : Int32)).toNatClampNeg + ((p2 - (0 : Int32))).toNatClampNeg ≤ (zz).toNatClampNeg) (h13_hdl27 : ((0 : Int32)).toNatClampNeg + ((p2 - (0 : Int32))).toNatClampNeg ≤ ((p2 - (0 : Int32))).toNatClampNeg) (h13_hus27 : w4 = (List.range ((p2 - (0 : Int32))).toNatClampNeg).map fun i => (own_pad cs zz).getD (((0 : Int32)).toNatClampNeg + i) (.int 0)) (h13_hvl27 : ((0 : Int32)).toNatClampNeg + ((p2 - (0 : Int32))).toNatClampNeg ≤ (own_zs (p2 - (0 : Int32))).length) :
    own_C l Z (⟨"java/util/Arrays", "copyOfRange", "([BII)[B"⟩ : MethodName) jdk_65_method_132_code 3 (some (.array .byte)) ws ({ frames := 4, cells := 1, slots := 34, locals := 80 } : Room) #[(.ref a1), (.int 0), (.int p2)] h0 (Q37n Z a1 p2 k8 zz cs w4 h0 n0) := by
  refine own_intro (plainFor_of_name pnc_java_util_Arrays) fun p e s m below meth c s₁ hx hby hml hown hnm hZ e0 hret X0 => ?_
  have N0 := Fr.nil n0
  have Z0 : n0 ≤ h0.size := O0.1 ▸ O0.2.1
  obtain ⟨cl3, Ar3, q3, S3, Nn3, Hh3, G3⟩ := id HV_a1
  obtain ⟨vr5, _, ⟨T5, L5, k5, n5⟩, -, X5, ⟨Lc5, hQ5, l5, y5, z5⟩, st5⟩ := Jvm.LawKit.callS X0 hx (y := (⟨"java/util/Arrays", "copyOfRangeByte", "([BII)[B"⟩ : MethodName)) hown (mvT hZ (own_w hw 207 rfl)) (mvT hZ (own_w hw 208 rfl)) (mvT hZ (own_w hw 205 rfl)) (mvT hZ (own_w hw 209 rfl)) (by decide) (backOf (W := 0) (rm38 l Z a0 hw [] a1 p2 k8 zz cs w4 h0 n0 O0 HV_a1 h13_h2_hc2 h13_hng10 h13_hcap10 h13_h24_hc2 h13_hsl27 h13_hdl27 h13_hus27 h13_hvl27) hZ (own_w hw 209 rfl) (own_w hw 205 rfl) (by decide) (by decide)) (g := (mkF m 13 #[.val (.ref a1), .val (.int 0), .val (.int p2)] [(.int p2), (.int 0), (.ref a1)])) rfl (by rw [hml]; rfl) (argsL := [(.ref a1), (.int 0), (.int p2)]) (rest := []) (lenOf pd_32 rfl) rfl (by show 2 * 0 + _ ≤ _; exact Nat.le_of_eq rfl) (d37 hby 9 rfl) (fun _ _ => ⟨rfl, e0, (by decide : 0 + 1 ≤ _), (by decide : 0 + 34 ≤ _)⟩)
  dsimp only [Pt.U, Pt.locs, Pt.cells, Pt.slots] at X5 l5 y5 z5 st5 hQ5
  subst l5 y5 z5
  obtain ⟨b6, k7, rfl, N5q, K5, Y5_z0, Y5_0⟩ := hQ5
  have N5 := Fr.app N0 N5q
  replace X5 := X5.more (cells' := 1) (slots' := 34) (by decide) (by decide)
  have g_b6 : n0 ≤ b6 := Nat.le_trans (Nat.le_trans Z0 (Keep.refl h0 []).1) Y5_z0
  have sz_b6 : h0.size ≤ b6 := Nat.le_trans (Keep.refl h0 []).1 Y5_z0
  have K8 : Keep h0 T5.heap [] := (Keep.refl h0 []).trans K5 all0
  have O9 : Old Z n0 T5.heap := O0.keep K5 all0
  refine ⟨T5, _, _, _, some (.ref b6), X5, by decide, by decide, nofun, ?_, fun fs hr => castTop (ef_37a__0___Int32__a m a1 p2) ?_⟩
  · show Q37n Z a1 p2 k8 zz cs w4 h0 n0 _ T5.heap _
    exact ⟨b6, k7, rfl, N5, K8, sz_b6, Y5_0⟩
  · show Steps p.tables e below (s₁.setTop (mkF m 0 #[.val (.ref a1), .val (.int 0), .val (.int p2)] [])) _
    refine XS.iloadN X0.here hx rfl (d37 hby 0 rfl) rfl ?_
    refine XS.ifNo X0.here hx rfl (d37 hby 1 rfl) rfl ((if0 _ _).trans (teq (by decide : (0 : Int32) = (0 : Int32))).2) ?_
    refine XS.iloadN X0.here hx rfl (d37 hby 2 rfl) rfl ?_
    refine XS.aloadN X0.here hx rfl (d37 hby 3 rfl) rfl rfl ?_
    show Steps p.tables e below (s₁.setTop (mkF m 6 #[.val (.ref a1), .val (.int 0), .val (.int p2)] [(.ref a1), (.int p2)])) _
    refine X0.arraylength hx (by rw [e0]; exact Ar3.1) (State.isArrayOf_alike hZ.alike Ar3.2.1) (g := (mkF m 6 #[.val (.ref a1), .val (.int 0), .val (.int p2)] [(.ref a1), (.int p2)])) rfl rfl (d37 hby 4 rfl) _ ?_
    rw [len_of S3 Nn3]
    refine XS.icmpNo X0.here hx rfl (d37 hby 5 rfl) rfl (feq hc7).1 ?_
    refine XS.aloadN X0.here hx rfl (d37 hby 6 rfl) rfl rfl ?_
    refine XS.iloadN X0.here hx rfl (d37 hby 7 rfl) rfl ?_
    refine XS.iloadN X0.here hx rfl (d37 hby 8 rfl) rfl ?_
    refine st5 _ ?_
    exact own_retR X5 hx hret rfl rfl (d37 hby 10 rfl) hr
theorem own_cloneV {p : Program} {l : Launch} {e : Env} {R : Room} {s : State} {m : MethodId} {args : Array Value} {below : List Frame} {meth : Method} {c : Code} {T : State} {locs : List Loc} {cells slots : Nat} {Z : State} {h : Heap} {a : Addr} {ty : FieldType} (X : Stand p l e R s m args below meth c T locs cells slots) (hx : p.tables.exec = Jvm.exec) (hZ : Z.Warmed39 s.vm) {a0 : Array Value} {own ad : String} {index : Nat} (hown : s.vm.findClass own = some m.cls)
    (w1 : (Jvm.Cond.methodLink own index ⟨ad, "clone", "()Ljava/lang/Object;"⟩).before a0 Z = true) (w2 : (Jvm.Cond.sameMethod ad "java/lang/Object" "clone" "()Ljava/lang/Object;").before a0 Z = true) (w3 : (Jvm.Cond.native ⟨"java/lang/Object", "clone", "()Ljava/lang/Object;"⟩).before a0 Z = true)
    (w4 : (Jvm.Cond.instanceMethod ⟨"java/lang/Object", "clone", "()Ljava/lang/Object;"⟩).before a0 Z = true) (w5 : (Jvm.Cond.selects ad ⟨ad, "clone", "()Ljava/lang/Object;"⟩ ⟨"java/lang/Object", "clone", "()Ljava/lang/Object;"⟩).before a0 Z = true) (w6 : (Jvm.Cond.castable ad "java/lang/Cloneable").before a0 Z = true)
    (eT : T.heap = h) {k : ClassId} {z : Int32} {vs : List Value} {dv : Value} (F : Arv Z h a k ty z vs dv) (E : Exa Z h a ad) {g : JFrame} (hg : g.method = m) (hsize : g.locals.size = c.maxLocals) {rest : List Value} (hst : g.stack = .ref a :: rest) (hd : decode c.code g.pc = .ok (.invokevirtual index, 3))
    (hf : 1 ≤ R.frames) {W cap : Nat} (hW : 2 * g.monitorRoom + (rest.map fun v => v.category).sum ≤ W) (hl : W + 14 ≤ R.locals) (hcap : z.toNatClampNeg ≤ cap) (hc : cells + 1 ≤ R.cells) (hsl : slots + cap ≤ R.slots) :
    ∃ T' h', Stand p l e R s m args below meth c T' locs (cells + 1) (slots + cap) ∧ T'.heap = h' ∧ Ext h h' ∧ Arv Z h' h.size k ty z vs dv ∧ Exa Z h' h.size ad ∧
      ∀ target, Steps p.tables e below (T'.setTop { g with pc := g.pc + 3, stack := .ref h.size :: rest }) target → Steps p.tables e below (T.setTop g) target := by
  obtain ⟨cl, A, q1, S, q3, H, G⟩ := F
  obtain ⟨T', h', X', e', ex, A', E', st⟩ := cloneA X hx hZ hown w1 w2 w3 w4 w5 w6 eT A E (fitC_of A fun i hi v hv => by rw [H i hi] at hv; cases hv; exact G i hi) hg hsize hst hd hf hW hl (by rw [S]; exact hcap) hc hsl
  exact ⟨T', h', X', e', ex, ⟨cloneOf cl, A', q1, S, q3, H, G⟩, E', st⟩
def Q37c (Z : State) (a1 : Addr) (p2 : Int32) (k8 : ClassId) (zz : Int32) (cs : List Int32) (h0 : Heap) (n0 : Nat) (v : Option Value) (h : Heap) (L : List Loc) : Prop := ∃ b4 : Addr, v = some (.ref b4) ∧ Fr n0 L ∧ Keep h0 h [] ∧ h0.size ≤ b4 ∧ Exa Z h b4 "[B" ∧ Arv Z h b4 k8 .byte zz (own_pad cs zz) (.int 0)
theorem rm37c (l : Launch) (Z : State) (a0 : Array Value) (hw : ∀ d ∈ tables_1, d.before a0 Z = true) (ws : List Jvm.Cond) (a1 : Addr) (p2 : Int32) (k8 : ClassId) (zz : Int32) (cs : List Int32) (h0 : Heap) (n0 : Nat) (O0 : Old Z n0 h0) (HV_a1 : Arv Z h0 a1 k8 .byte zz (own_pad cs zz) (.int 0)) (HE_a1 : Exa Z h0 a1 "[B") (hc7 : p2 = zz) (hcap18 : (zz).toNatClampNeg ≤ 34) :
    own_C l Z (⟨"java/util/Arrays", "copyOfRange", "([BII)[B"⟩ : MethodName) jdk_65_method_132_code 3 (some (.array .byte)) ws ({ frames := 4, cells := 1, slots := 34, locals := 80 } : Room) #[(.ref a1), (.int 0), (.int p2)] h0 (Q37c Z a1 p2 k8 zz cs h0 n0) := by
  refine own_intro (plainFor_of_name pnc_java_util_Arrays) fun p e s m below meth c s₁ hx hby hml hown hnm hZ e0 hret X0 => ?_
  have N0 := Fr.nil n0
  have Z0 : n0 ≤ h0.size := O0.1 ▸ O0.2.1
  obtain ⟨cl3, Ar3, q3, S3, Nn3, Hh3, G3⟩ := id HV_a1
  obtain ⟨T4, h4, X4, e4, E4, V4, B4, st4⟩ := own_cloneV X0 hx hZ hown (own_w hw 260 rfl) (own_w hw 261 rfl) (own_w hw 265 rfl) (own_w hw 263 rfl) (own_w hw 264 rfl) (own_w hw 266 rfl) e0 HV_a1 HE_a1 (g := (mkF m 18 #[.val (.ref a1), .val (.int 0), .val (.int p2)] [(.ref a1)])) rfl (by rw [hml]; rfl) rfl (d37 hby 12 rfl) (by decide) (W := 0) (cap := 34) (by show 2 * 0 + _ ≤ _; exact Nat.le_of_eq rfl) (by decide) hcap18 (by decide) (by decide)
  obtain ⟨b4, g4⟩ : ∃ z, z = h0.size := ⟨_, rfl⟩
  rw [← g4] at V4 B4 st4
  have g_b4 : n0 ≤ b4 := Nat.le_trans (Nat.le_trans Z0 (Keep.refl h0 []).1) (Nat.le_of_eq g4.symm)
  have sz_b4 : h0.size ≤ b4 := Nat.le_trans (Keep.refl h0 []).1 (Nat.le_of_eq g4.symm)
  have K5 : Keep h0 h4 [] := (Keep.refl h0 []).ext E4
  have O6 : Old Z n0 h4 := O0.ext E4
  replace X4 := X4.more (cells' := 1) (slots' := 34) (by decide) (by decide)
  obtain ⟨T7, X7, e7, st7⟩ := castY X4 hx hZ hown (own_w hw 267 rfl) e4 (Ins.self B4) (g := (mkF m 21 #[.val (.ref a1), .val (.int 0), .val (.int p2)] [(.ref b4)])) rfl rfl (d37 hby 13 rfl)
  refine ⟨T7, _, _, _, some (.ref b4), X7, by decide, by decide, nofun, ?_, fun fs hr => castTop (ef_37a__0___Int32__a m a1 p2) ?_⟩
  · show Q37c Z a1 p2 k8 zz cs h0 n0 _ T7.heap _
    rw [e7]
    exact ⟨b4, rfl, N0, K5, sz_b4, B4, V4⟩
  · show Steps p.tables e below (s₁.setTop (mkF m 0 #[.val (.ref a1), .val (.int 0), .val (.int p2)] [])) _
    refine XS.iloadN X0.here hx rfl (d37 hby 0 rfl) rfl ?_
    refine XS.ifNo X0.here hx rfl (d37 hby 1 rfl) rfl ((if0 _ _).trans (teq (by decide : (0 : Int32) = (0 : Int32))).2) ?_
    refine XS.iloadN X0.here hx rfl (d37 hby 2 rfl) rfl ?_
    refine XS.aloadN X0.here hx rfl (d37 hby 3 rfl) rfl rfl ?_
    show Steps p.tables e below (s₁.setTop (mkF m 6 #[.val (.ref a1), .val (.int 0), .val (.int p2)] [(.ref a1), (.int p2)])) _
    refine X0.arraylength hx (by rw [e0]; exact Ar3.1) (State.isArrayOf_alike hZ.alike Ar3.2.1) (g := (mkF m 6 #[.val (.ref a1), .val (.int 0), .val (.int p2)] [(.ref a1), (.int p2)])) rfl rfl (d37 hby 4 rfl) _ ?_
    rw [len_of S3 Nn3]
    refine XS.icmpYes X0.here hx rfl (pc0 := 7) (pc' := 17) rfl (d37 hby 5 rfl) rfl (teq hc7).1 (by decide) (by decide) ?_
    refine XS.aloadN X0.here hx rfl (d37 hby 11 rfl) rfl rfl ?_
    refine st4 _ ?_
    refine st7 _ ?_
    exact own_retR X7 hx hret rfl rfl (d37 hby 14 rfl) hr
theorem own_sub0 (x : Int32) : x - (0 : Int32) = x := Int32.sub_zero x
theorem own_padE {cs : List Int32} (h : cs.length ≤ 40) : own_pad cs (own_n cs) = own_by cs := by
  rw [own_pad, own_nN h, Nat.sub_self]; exact List.append_nil _
theorem own_capL {z : Int32} {cs : List Int32} (h : own_cap z cs) (hn : ¬ (own_n cs = z)) : own_n cs < z := by
  rcases h with ⟨rfl, h⟩ | ⟨rfl, h, h2⟩
  · have q : ∀ j : Fin 17, ¬ (Int32.ofNat j.1 = (16 : Int32)) → Int32.ofNat j.1 < (16 : Int32) := by decide
    exact q ⟨cs.length, by omega⟩ hn
  · have q : ∀ j : Fin 35, ¬ (Int32.ofNat j.1 = (34 : Int32)) → Int32.ofNat j.1 < (34 : Int32) := by decide
    exact q ⟨cs.length, by omega⟩ hn
theorem own_cap34 {z : Int32} {cs : List Int32} (h : own_cap z cs) : (z).toNatClampNeg ≤ 34 := by
  rcases own_capN h.z with ⟨-, e⟩ | ⟨-, e⟩ <;> omega
theorem own_cpyZ (cs : List Int32) (h : cs.length ≤ 40) : own_cpy (own_zs (own_n cs)) 0 (own_by cs) cs.length = own_by cs := by
  rw [own_cpy, own_zs, own_nN h, List.take_zero, List.nil_append, Nat.zero_add, List.drop_replicate, Nat.sub_self]; exact List.append_nil _
def Q37 (Z : State) (a1 : Addr) (p2 : Int32) (k8 : ClassId) (zz : Int32) (cs : List Int32) (h0 : Heap) (n0 : Nat) (v : Option Value) (h : Heap) (L : List Loc) : Prop := ∃ b1 : Addr, ∃ k1 : ClassId, v = some (.ref b1) ∧ Fr n0 L ∧ Keep h0 h [] ∧ h0.size ≤ b1 ∧ Arv Z h b1 k1 .byte (own_n cs) (own_by cs) (.int 0)
theorem rm37 (l : Launch) (Z : State) (a0 : Array Value) (hw : ∀ d ∈ tables_1, d.before a0 Z = true) (ws : List Jvm.Cond) (a1 : Addr) (p2 : Int32) (k8 : ClassId) (zz : Int32) (cs : List Int32) (h0 : Heap) (n0 : Nat) (O0 : Old Z n0 h0) (HV_a1 : Arv Z h0 a1 k8 .byte zz (own_pad cs zz) (.int 0)) (HE_a1 : Exa Z h0 a1 "[B") (hkc : p2 = (own_n cs)) (hcap : own_cap zz cs) (h33 : cs.length ≤ 33) :
    own_C l Z (⟨"java/util/Arrays", "copyOfRange", "([BII)[B"⟩ : MethodName) jdk_65_method_132_code 3 (some (.array .byte)) ws ({ frames := 4, cells := 1, slots := 34, locals := 80 } : Room) #[(.ref a1), (.int 0), (.int p2)] h0 (Q37 Z a1 p2 k8 zz cs h0 n0) := by
  intro p e ha hc hk s m args below hf_ happ hP hK
  by_cases hq : p2 = zz
  · obtain ⟨q1, q2, q3, q4, q5, v, L, rfl, ⟨b4, rfl, N, K, z0, Eb4, Vb4⟩, hF⟩ := rm37c l Z a0 hw ws a1 p2 k8 zz cs h0 n0 O0 HV_a1 HE_a1 hq (own_cap34 hcap) p e ha hc hk s m args below hf_ happ hP hK
    rw [← hq, hkc, own_padE (by omega)] at Vb4
    exact ⟨q1, _, q3, q4, q5, _, L, rfl, ⟨b4, k8, rfl, N, K, z0, Vb4⟩, hF⟩
  · obtain ⟨q1, q2, q3, q4, q5, v, L, rfl, ⟨b6, k7, rfl, N, K, z0, Vb6⟩, hF⟩ := rm37n l Z a0 hw ws a1 p2 k8 zz cs (own_by cs) h0 n0 O0 HV_a1 hq (by rw [hkc]; exact own_nge (by omega)) (by rw [own_sub0, hkc]; exact own_nge (by omega)) (by rw [own_sub0, hkc, own_nN (by omega)]; omega) (by rw [own_sub0, own_sub0, hkc]; exact own_capL hcap (fun q => hq (hkc.trans q))) (by rw [own_sub0, hkc, own_nN (by omega), show ((0 : Int32)).toNatClampNeg = 0 from rfl, Nat.zero_add]; exact hcap.le) (by rw [show ((0 : Int32)).toNatClampNeg = 0 from rfl]; omega) (by rw [own_sub0, hkc, own_nN (by omega)]; exact own_rngP cs zz hcap.le _) (by rw [own_sub0, own_zs, List.length_replicate, show ((0 : Int32)).toNatClampNeg = 0 from rfl]; omega) p e ha hc hk s m args below hf_ happ hP hK
    rw [own_sub0, hkc, own_nN (by omega), show ((0 : Int32)).toNatClampNeg = 0 from rfl, own_cpyZ cs (by omega)] at Vb6
    exact ⟨q1, _, q3, q4, q5, _, L, rfl, ⟨b6, k7, rfl, N, K, z0, Vb6⟩, hF⟩
def own_L34 : List (Nat × Instr × Nat) := [(0, .aload_n 0, 1), (1, .getfield 15, 3), (4, .areturn, 1)]
theorem own_K34 : ∀ x ∈ own_L34, decode jdk_68_method_64_code x.1 = .ok x.2 := by decide +kernel
theorem d34 {c : Code} (hby : c.code = jdk_68_method_64_code) (i : Nat) {k n : Nat} {a : Instr} (h : own_L34[i]? = some (k, a, n)) : decode c.code k = .ok (a, n) := own_dL own_K34 hby h
def Q34 (Z : State) (a1 w2 : Addr) (h0 : Heap) (n0 : Nat) (v : Option Value) (h : Heap) (L : List Loc) : Prop := v = some (.ref w2) ∧ Fr n0 L ∧ h = h0
theorem ef_34 (m : MethodId) (x0 : Addr) : entryFrame m #[(.ref x0)] 1 = mkF m 0 #[.val (.ref x0)] [] := by first | (simp [entryFrame, mkF, argsToLocals, Value.category]; done) | rfl
theorem rm34 (l : Launch) (Z : State) (a0 : Array Value) (hw : ∀ d ∈ tables_1, d.before a0 Z = true) (ws : List Jvm.Cond) (a1 w2 : Addr) (h0 : Heap) (n0 : Nat) (O0 : Old Z n0 h0) (HF_a1_value : Fld Z h0 a1 "java/lang/AbstractStringBuilder" "value" "[B" (.ref w2)) :
    own_C l Z (⟨"java/lang/AbstractStringBuilder", "getValue", "()[B"⟩ : MethodName) jdk_68_method_64_code 1 (some (.array .byte)) ws ({ frames := 0, cells := 0, slots := 0, locals := 0 } : Room) #[(.ref a1)] h0 (Q34 Z a1 w2 h0 n0) := by
  refine own_intro (plainFor_of_name pnc_java_lang_AbstractStringBuilder) fun p e s m below meth c s₁ hx hby hml hown hnm hZ e0 hret X0 => ?_
  have N0 := Fr.nil n0
  have Z0 : n0 ≤ h0.size := O0.1 ▸ O0.2.1
  obtain ⟨T3, X3, e3, st3⟩ := getF X0 hx hZ hown (host := "") (Or.inl (own_w hw 109 rfl)) Via.refl e0 HF_a1_value (g := (mkF m 1 #[.val (.ref a1)] [(.ref a1)])) rfl rfl (d34 hby 1 rfl)
  refine ⟨T3, _, _, _, some (.ref w2), X3, by decide, by decide, nofun, ?_, fun fs hr => castTop (ef_34 m a1) ?_⟩
  · show Q34 Z a1 w2 h0 n0 _ T3.heap _
    rw [e3]
    exact ⟨rfl, N0, rfl⟩
  · show Steps p.tables e below (s₁.setTop (mkF m 0 #[.val (.ref a1)] [])) _
    refine XS.aloadN X0.here hx rfl (d34 hby 0 rfl) rfl rfl ?_
    refine st3 _ ?_
    exact own_retR X3 hx hret rfl rfl (d34 hby 2 rfl) hr
def own_L36 : List (Nat × Instr × Nat) := [(0, .aload_n 0, 1), (1, .getfield 79, 3), (4, .ireturn, 1)]
theorem own_K36 : ∀ x ∈ own_L36, decode jdk_68_method_6_code x.1 = .ok x.2 := by decide +kernel
theorem d36 {c : Code} (hby : c.code = jdk_68_method_6_code) (i : Nat) {k n : Nat} {a : Instr} (h : own_L36[i]? = some (k, a, n)) : decode c.code k = .ok (a, n) := own_dL own_K36 hby h
def Q36 (Z : State) (a1 : Addr) (w2 : Int32) (h0 : Heap) (n0 : Nat) (v : Option Value) (h : Heap) (L : List Loc) : Prop := v = some (.int w2) ∧ Fr n0 L ∧ h = h0
theorem ef_36 (m : MethodId) (x0 : Addr) : entryFrame m #[(.ref x0)] 1 = mkF m 0 #[.val (.ref x0)] [] := by first | (simp [entryFrame, mkF, argsToLocals, Value.category]; done) | rfl
theorem rm36 (l : Launch) (Z : State) (a0 : Array Value) (hw : ∀ d ∈ tables_1, d.before a0 Z = true) (ws : List Jvm.Cond) (a1 : Addr) (w2 : Int32) (h0 : Heap) (n0 : Nat) (O0 : Old Z n0 h0) (HF_a1_count : Fld Z h0 a1 "java/lang/AbstractStringBuilder" "count" "I" (.int w2)) :
    own_C l Z (⟨"java/lang/AbstractStringBuilder", "length", "()I"⟩ : MethodName) jdk_68_method_6_code 1 (some .int) ws ({ frames := 0, cells := 0, slots := 0, locals := 0 } : Room) #[(.ref a1)] h0 (Q36 Z a1 w2 h0 n0) := by
  refine own_intro (plainFor_of_name pnc_java_lang_AbstractStringBuilder) fun p e s m below meth c s₁ hx hby hml hown hnm hZ e0 hret X0 => ?_
  have N0 := Fr.nil n0
  have Z0 : n0 ≤ h0.size := O0.1 ▸ O0.2.1
  obtain ⟨T3, X3, e3, st3⟩ := getF X0 hx hZ hown (host := "") (Or.inl (own_w hw 128 rfl)) Via.refl e0 HF_a1_count (g := (mkF m 1 #[.val (.ref a1)] [(.ref a1)])) rfl rfl (d36 hby 1 rfl)
  refine ⟨T3, _, _, _, some (.int w2), X3, by decide, by decide, nofun, ?_, fun fs hr => castTop (ef_36 m a1) ?_⟩
  · show Q36 Z a1 w2 h0 n0 _ T3.heap _
    rw [e3]
    exact ⟨rfl, N0, rfl⟩
  · show Steps p.tables e below (s₁.setTop (mkF m 0 #[.val (.ref a1)] [])) _
    refine XS.aloadN X0.here hx rfl (d36 hby 0 rfl) rfl rfl ?_
    refine st3 _ ?_
    exact own_retI X3 hx hret (d36 hby 2 rfl) hr
def own_L35 : List (Nat × Instr × Nat) := [(0, .aload_n 0, 1), (1, .invokespecial 343, 3), (4, .ireturn, 1)]
theorem own_K35 : ∀ x ∈ own_L35, decode jdk_67_method_93_code x.1 = .ok x.2 := by decide +kernel
theorem d35 {c : Code} (hby : c.code = jdk_67_method_93_code) (i : Nat) {k n : Nat} {a : Instr} (h : own_L35[i]? = some (k, a, n)) : decode c.code k = .ok (a, n) := own_dL own_K35 hby h
def Q35 (Z : State) (a1 : Addr) (w2 : Int32) (h0 : Heap) (n0 : Nat) (v : Option Value) (h : Heap) (L : List Loc) : Prop := v = some (.int w2) ∧ Fr n0 L ∧ h = h0
theorem ef_35 (m : MethodId) (x0 : Addr) : entryFrame m #[(.ref x0)] 1 = mkF m 0 #[.val (.ref x0)] [] := by first | (simp [entryFrame, mkF, argsToLocals, Value.category]; done) | rfl
theorem rm35 (l : Launch) (Z : State) (a0 : Array Value) (hw : ∀ d ∈ tables_1, d.before a0 Z = true) (ws : List Jvm.Cond) (a1 : Addr) (w2 : Int32) (h0 : Heap) (n0 : Nat) (O0 : Old Z n0 h0) (HE_a1 : Exa Z h0 a1 "java/lang/StringBuilder") (HF_a1_count : Fld Z h0 a1 "java/lang/AbstractStringBuilder" "count" "I" (.int w2)) :
    own_C l Z (⟨"java/lang/StringBuilder", "length", "()I"⟩ : MethodName) jdk_67_method_93_code 1 (some .int) ws ({ frames := 1, cells := 0, slots := 0, locals := 12 } : Room) #[(.ref a1)] h0 (Q35 Z a1 w2 h0 n0) := by
  refine own_intro (plainFor_of_name pnc_java_lang_StringBuilder) fun p e s m below meth c s₁ hx hby hml hown hnm hZ e0 hret X0 => ?_
  have N0 := Fr.nil n0
  have Z0 : n0 ≤ h0.size := O0.1 ▸ O0.2.1
  obtain ⟨vr3, _, ⟨T3, L3, k3, n3⟩, -, X3, ⟨Lc3, hQ3, l3, y3, z3⟩, st3⟩ := superBack X0 hx hZ (y := (⟨"java/lang/AbstractStringBuilder", "length", "()I"⟩ : MethodName)) hown (own_w hw 200 rfl) (own_sameP (own_w hw 196 rfl) (own_w hw 133 rfl) rfl (by decide)) (own_w hw 196 rfl) (own_w hw 120 rfl) (by decide) (backOf (W := 0) (rm36 l Z a0 hw [] a1 w2 h0 n0 O0 HF_a1_count) hZ (own_w hw 201 rfl) (own_w hw 105 rfl) (by decide) (by decide)) e0 (Ins.self HE_a1) (g := (mkF m 1 #[.val (.ref a1)] [(.ref a1)])) rfl (by rw [hml]; rfl) (own_w hw 201 rfl) (argsL := []) (rest := []) (lenOf pd_1 rfl) rfl (by show 2 * 0 + _ ≤ _; exact Nat.le_of_eq rfl) (d35 hby 1 rfl) (fun _ _ => ⟨rfl, e0, (by decide : 0 + 0 ≤ _), (by decide : 0 + 0 ≤ _)⟩)
  dsimp only [Pt.U, Pt.locs, Pt.cells, Pt.slots] at X3 l3 y3 z3 st3 hQ3
  subst l3 y3 z3
  obtain ⟨rfl, N3q, e3⟩ := hQ3
  have N3 := Fr.app N0 N3q
  replace X3 := X3.more (cells' := 0) (slots' := 0) (by decide) (by decide)
  refine ⟨T3, _, _, _, some (.int w2), X3, by decide, by decide, nofun, ?_, fun fs hr => castTop (ef_35 m a1) ?_⟩
  · show Q35 Z a1 w2 h0 n0 _ T3.heap _
    rw [e3]
    exact ⟨rfl, N3, rfl⟩
  · show Steps p.tables e below (s₁.setTop (mkF m 0 #[.val (.ref a1)] [])) _
    refine XS.aloadN X0.here hx rfl (d35 hby 0 rfl) rfl rfl ?_
    refine st3.trans ?_
    exact own_retI X3 hx hret (d35 hby 2 rfl) hr
def own_L33 : List (Nat × Instr × Nat) := [(0, .aload_n 0, 1), (1, .invokespecial 1, 3), (4, .aload_n 1, 1), (5, .invokevirtual 552, 3), (8, .astore_n 3, 1), (9, .aload_n 1, 1), (10, .invokevirtual 549, 3), (13, .istore 4, 2), (15, .aload_n 1, 1), (16, .invokevirtual 1047, 3), (19, .ifCond .eq 22, 3), (22, .aload_n 0, 1), (23, .iconst 0, 1), (24, .putfield 15, 3), (27, .aload_n 0, 1), (28, .aload_n 3, 1), (29, .iconst 0, 1), (30, .iload 4, 2), (32, .invokestatic 54, 3), (35, .putfield 9, 3), (38, .goto 59, 3), (97, .return_, 1)]
theorem own_K33 : ∀ x ∈ own_L33, decode jdk_42_method_150_code x.1 = .ok x.2 := by decide +kernel
theorem d33 {c : Code} (hby : c.code = jdk_42_method_150_code) (i : Nat) {k n : Nat} {a : Instr} (h : own_L33[i]? = some (k, a, n)) : decode c.code k = .ok (a, n) := own_dL own_K33 hby h
theorem pd_6 : parseMethodDescriptor "()[B" = some ⟨[], some (.array .byte)⟩ := by decide +kernel
theorem own_nfP {s : State} {args : Array Value} {y z : MethodName} {K : String} (hsel : (Jvm.Cond.selects K z z).before args s = true) (hz : z.cls = y.cls) : NotFace s y := fun r0 h0 => by
  obtain ⟨c2, r2, m2, -, -, q3, -, kP, hkP, hkPi⟩ := Cond.selects_spec hsel
  have h1 := findClass_of_methodNamed h0
  have h2 := findClass_of_methodNamed q3
  rw [hz] at h2
  have e : r0.cls = m2.cls := Option.some.inj (h1.symm.trans h2)
  exact ⟨kP, by rw [e]; exact hkP, hkPi⟩
def Q33 (Z : State) (a1 a2 : Addr) (k8 : ClassId) (t : Addr) (zz kc zC : Int32) (cs : List Int32) (h0 : Heap) (n0 : Nat) (v : Option Value) (h : Heap) (L : List Loc) : Prop := ∃ b13 : Addr, ∃ k14 : ClassId, v = none ∧ Fr n0 L ∧ Keep h0 h [a1] ∧ h0.size ≤ b13 ∧ Exa Z h a1 "java/lang/String" ∧ Fld Z h a1 "java/lang/String" "coder" "B" (.int 0) ∧ Fld Z h a1 "java/lang/String" "value" "[B" (.ref b13) ∧ Arv Z h b13 k14 .byte (own_n cs) (own_by cs) (.int 0)
theorem ef_33aan (m : MethodId) (x0 : Addr) (x1 : Addr) : entryFrame m #[(.ref x0), (.ref x1), .null] 5 = mkF m 0 #[.val (.ref x0), .val (.ref x1), .val .null, .unset, .unset] [] := by first | (simp [entryFrame, mkF, argsToLocals, Value.category]; done) | rfl
theorem rm33 (l : Launch) (Z : State) (a0 : Array Value) (hw : ∀ d ∈ tables_1, d.before a0 Z = true) (ws : List Jvm.Cond) (a1 a2 : Addr) (k8 : ClassId) (t : Addr) (zz kc zC : Int32) (cs : List Int32) (h0 : Heap) (n0 : Nat) (O0 : Old Z n0 h0) (HE_a1 : Exa Z h0 a1 "java/lang/String") (HF_a1_value : Fld Z h0 a1 "java/lang/String" "value" "[B" .null) (HF_a1_coder : Fld Z h0 a1 "java/lang/String" "coder" "B" (.int 0)) (HE_a2 : Exa Z h0 a2 "java/lang/StringBuilder") (HE_t : Exa Z h0 t "[B") (HF_a2_value : Fld Z h0 a2 "java/lang/AbstractStringBuilder" "value" "[B" (.ref t)) (HF_a2_coder : Fld Z h0 a2 "java/lang/AbstractStringBuilder" "coder" "B" (.int 0)) (HF_a2_count : Fld Z h0 a2 "java/lang/AbstractStringBuilder" "count" "I" (.int kc)) (HV_t : Arv Z h0 t k8 .byte zz (own_pad cs zz) (.int 0)) (S_COMPACT_STRINGS : Sta Z Z.heap "java/lang/String" "COMPACT_STRINGS" "Z" (.int zC)) (h16_hc3 : ¬ (zC = (0 : Int32))) (g_a1 : n0 ≤ a1) (ne_t_a1 : t ≠ a1) (h32_hkc : kc = (own_n cs)) (h32_hcap : own_cap zz cs) (h32_h33 : cs.length ≤ 33) :
    own_C l Z (⟨"java/lang/String", "<init>", "(Ljava/lang/AbstractStringBuilder;Ljava/lang/Void;)V"⟩ : MethodName) jdk_42_method_150_code 5 none ws ({ frames := 5, cells := 1, slots := 34, locals := 95 } : Room) #[(.ref a1), (.ref a2), .null] h0 (Q33 Z a1 a2 k8 t zz kc zC cs h0 n0) := by
  refine own_intro (plainFor_of_name pnc_java_lang_String) fun p e s m below meth c s₁ hx hby hml hown hnm hZ e0 hret X0 => ?_
  have N0 := Fr.nil n0
  have Z0 : n0 ≤ h0.size := O0.1 ▸ O0.2.1
  obtain ⟨T3, X3, e3, st3⟩ := initO X0 hx hZ hown (own_w hw 12 rfl) (own_w hw 13 rfl) (own_w hw 14 rfl) e0 (g := (mkF m 1 #[.val (.ref a1), .val (.ref a2), .val .null, .unset, .unset] [(.ref a1)])) rfl (by rw [hml]; rfl) rfl (d33 hby 1 rfl) (by decide) (W := 0) (by show 2 * 0 + _ ≤ _; exact Nat.le_of_eq rfl) (by decide)
  obtain ⟨cq4, kq4, q4a, q4b, q4c⟩ := isOf hZ e3 HE_a2
  obtain ⟨vr4, _, ⟨T4, L4, k4, n4⟩, -, X4, ⟨Lc4, hQ4, l4, y4, z4⟩, st4⟩ := X3.virtualBack hx (y := (⟨"java/lang/AbstractStringBuilder", "getValue", "()[B"⟩ : MethodName)) (z := (⟨"java/lang/AbstractStringBuilder", "getValue", "()[B"⟩ : MethodName)) hown (mvT hZ (own_w hw 189 rfl)) (mvT hZ (own_w hw 190 rfl)) (notFace_of_selects (args := #[]) (mvT hZ (own_w hw 192 rfl))) (mvT hZ (own_w hw 192 rfl)) (mvT hZ (own_w hw 191 rfl)) (by decide) (backOf (W := 0) (rm34 l Z a0 hw [] a2 t h0 n0 O0 HF_a2_value) hZ (own_w hw 193 rfl) (own_w hw 105 rfl) (by decide) (by decide)) q4a q4c (g := (mkF m 5 #[.val (.ref a1), .val (.ref a2), .val .null, .unset, .unset] [(.ref a2)])) rfl (by rw [hml]; rfl) (Steps.refl _) (argsL := []) (rest := []) (lenOf pd_6 rfl) rfl (by show 2 * 0 + _ ≤ _; exact Nat.le_of_eq rfl) (d33 hby 3 rfl) (fun _ _ => ⟨rfl, e3, (by decide : 0 + 0 ≤ _), (by decide : 0 + 0 ≤ _)⟩)
  dsimp only [Pt.U, Pt.locs, Pt.cells, Pt.slots] at X4 l4 y4 z4 st4 hQ4
  subst l4 y4 z4
  obtain ⟨rfl, N4q, e4⟩ := hQ4
  have N4 := Fr.app N0 N4q
  replace X4 := X4.more (cells' := 0) (slots' := 0) (by decide) (by decide)
  obtain ⟨cq5, kq5, q5a, q5b, q5c⟩ := isOf hZ e4 HE_a2
  obtain ⟨vr5, _, ⟨T5, L5, k5, n5⟩, -, X5, ⟨Lc5, hQ5, l5, y5, z5⟩, st5⟩ := X4.virtualBack hx (y := (⟨"java/lang/AbstractStringBuilder", "length", "()I"⟩ : MethodName)) (z := (⟨"java/lang/StringBuilder", "length", "()I"⟩ : MethodName)) hown (mvT hZ (own_w hw 194 rfl)) (mvT hZ (own_w hw 195 rfl)) (own_nfP (args := #[]) (mvT hZ (own_w hw 133 rfl)) rfl) (mvT hZ (own_w hw 197 rfl)) (mvT hZ (own_w hw 198 rfl)) (by decide) (backOf (W := 0) (rm35 l Z a0 hw [] a2 kc h0 n0 O0 HE_a2 HF_a2_count) hZ (own_w hw 199 rfl) (own_w hw 97 rfl) (by decide) (by decide)) q5a q5c (g := (mkF m 10 #[.val (.ref a1), .val (.ref a2), .val .null, .val (.ref t), .unset] [(.ref a2)])) rfl (by rw [hml]; rfl) (Steps.refl _) (argsL := []) (rest := []) (lenOf pd_1 rfl) rfl (by show 2 * 0 + _ ≤ _; exact Nat.le_of_eq rfl) (d33 hby 6 rfl) (fun _ _ => ⟨rfl, e4, (by decide : 0 + 0 ≤ _), (by decide : 0 + 0 ≤ _)⟩)
  dsimp only [Pt.U, Pt.locs, Pt.cells, Pt.slots] at X5 l5 y5 z5 st5 hQ5
  subst l5 y5 z5
  obtain ⟨rfl, N5q, e5⟩ := hQ5
  have N5 := Fr.app N4 N5q
  replace X5 := X5.more (cells' := 0) (slots' := 0) (by decide) (by decide)
  obtain ⟨cq6, kq6, q6a, q6b, q6c⟩ := isOf hZ e5 HE_a2
  obtain ⟨vr6, _, ⟨T6, L6, k6, n6⟩, -, X6, ⟨Lc6, hQ6, l6, y6, z6⟩, st6⟩ := X5.virtualBack hx (y := (⟨"java/lang/AbstractStringBuilder", "isLatin1", "()Z"⟩ : MethodName)) (z := (⟨"java/lang/AbstractStringBuilder", "isLatin1", "()Z"⟩ : MethodName)) hown (mvT hZ (own_w hw 202 rfl)) (mvT hZ (own_w hw 169 rfl)) (notFace_of_selects (args := #[]) (mvT hZ (own_w hw 171 rfl))) (mvT hZ (own_w hw 171 rfl)) (mvT hZ (own_w hw 170 rfl)) (by decide) (backOf (W := 0) (rm29 l Z a0 hw [] a2 zC h0 n0 O0 S_COMPACT_STRINGS h16_hc3 HF_a2_coder) hZ (own_w hw 172 rfl) (own_w hw 105 rfl) (by decide) (by decide)) q6a q6c (g := (mkF m 16 #[.val (.ref a1), .val (.ref a2), .val .null, .val (.ref t), .val (.int kc)] [(.ref a2)])) rfl (by rw [hml]; rfl) (Steps.refl _) (argsL := []) (rest := []) (lenOf pd_5 rfl) rfl (by show 2 * 0 + _ ≤ _; exact Nat.le_of_eq rfl) (d33 hby 9 rfl) (fun _ _ => ⟨rfl, e5, (by decide : 0 + 0 ≤ _), (by decide : 0 + 0 ≤ _)⟩)
  dsimp only [Pt.U, Pt.locs, Pt.cells, Pt.slots] at X6 l6 y6 z6 st6 hQ6
  subst l6 y6 z6
  obtain ⟨rfl, N6q, e6⟩ := hQ6
  have N6 := Fr.app N5 N6q
  replace X6 := X6.more (cells' := 0) (slots' := 0) (by decide) (by decide)
  obtain ⟨T7, h7, X7, e7, W7, st7⟩ := putFN X6 hx hZ hown (own_w hw 27 rfl) Via.refl e6 HF_a1_coder HE_a1 (Or.inr ⟨(own_w hw 28 rfl), rfl, hnm⟩) (own_w hw 2 rfl) (ty := .byte) (v' := (.int 0)) (by decide) rfl rfl (g := (mkF m 24 #[.val (.ref a1), .val (.ref a2), .val .null, .val (.ref t), .val (.int kc)] [(.int 0), (.ref a1)])) rfl rfl (d33 hby 13 rfl)
  have N7 := Fr.snoc X7 N6 g_a1
  have K8 : Keep h0 h7 [a1] := (Keep.refl h0 [a1]).wr W7 (Or.inl (List.mem_of_getElem? (i := 0) rfl))
  have O9 : Old Z n0 h7 := O0.wr W7 g_a1
  have Fw7 : Fld Z h7 a1 "java/lang/String" "coder" "B" (.int 0) := HF_a1_coder.same W7
  have f10 := (HV_t.other W7 ne_t_a1)
  have f11 := (HE_t.wr W7)
  obtain ⟨vr12, _, ⟨T12, L12, k12, n12⟩, -, X12, ⟨Lc12, hQ12, l12, y12, z12⟩, st12⟩ := Jvm.LawKit.callS X7 hx (y := (⟨"java/util/Arrays", "copyOfRange", "([BII)[B"⟩ : MethodName)) hown (mvT hZ (own_w hw 203 rfl)) (mvT hZ (own_w hw 204 rfl)) (mvT hZ (own_w hw 205 rfl)) (mvT hZ (own_w hw 206 rfl)) (by decide) (backOf (W := 1) (rm37 l Z a0 hw [] t kc k8 zz cs h7 n0 O9 f10 f11 h32_hkc h32_hcap h32_h33) hZ (own_w hw 206 rfl) (own_w hw 205 rfl) (by decide) (by decide)) (g := (mkF m 32 #[.val (.ref a1), .val (.ref a2), .val .null, .val (.ref t), .val (.int kc)] [(.int kc), (.int 0), (.ref t), (.ref a1)])) rfl (by rw [hml]; rfl) (argsL := [(.ref t), (.int 0), (.int kc)]) (rest := [(.ref a1)]) (lenOf pd_32 rfl) rfl (by show 2 * 0 + _ ≤ _; exact Nat.le_of_eq rfl) (d33 hby 18 rfl) (fun _ _ => ⟨rfl, e7, (by decide : 0 + 1 ≤ _), (by decide : 0 + 34 ≤ _)⟩)
  dsimp only [Pt.U, Pt.locs, Pt.cells, Pt.slots] at X12 l12 y12 z12 st12 hQ12
  subst l12 y12 z12
  obtain ⟨b13, k14, rfl, N12q, K12, Y12_z0, Y12_0⟩ := hQ12
  have N12 := Fr.app N7 N12q
  replace X12 := X12.more (cells' := 1) (slots' := 34) (by decide) (by decide)
  have g_b13 : n0 ≤ b13 := Nat.le_trans (Nat.le_trans Z0 K8.1) Y12_z0
  have sz_b13 : h0.size ≤ b13 := Nat.le_trans K8.1 Y12_z0
  have K15 : Keep h0 T12.heap [a1] := K8.trans K12 all0
  have O16 : Old Z n0 T12.heap := O9.keep K12 all0
  have f17 := ((HE_a1.wr W7).keep K12)
  have f18 := ((HF_a1_value.other W7 (Or.inr (slot_ne (Or.inr (own_w hw 30 rfl)) (Or.inr (own_w hw 28 rfl)) (by decide) (t := (.array .byte)) (t' := .byte) (by decide) (by decide)))).keep K12 nin0)
  obtain ⟨T19, h19, X19, e19, W19, st19⟩ := putF X12 hx hZ hown (host := "") (Or.inl (own_w hw 29 rfl)) Via.refl rfl f18 f17 (Or.inr ⟨(own_w hw 30 rfl), rfl, hnm⟩) (own_w hw 2 rfl) (ty := (.array .byte)) (by decide) rfl rfl (g := (mkF m 35 #[.val (.ref a1), .val (.ref a2), .val .null, .val (.ref t), .val (.int kc)] [(.ref b13), (.ref a1)])) rfl rfl (d33 hby 19 rfl)
  have N19 := Fr.snoc X19 N12 g_a1
  have K20 : Keep h0 h19 [a1] := K15.wr W19 (Or.inl (List.mem_of_getElem? (i := 0) rfl))
  have O21 : Old Z n0 h19 := O16.wr W19 g_a1
  have Fw19 : Fld Z h19 a1 "java/lang/String" "value" "[B" (.ref b13) := f18.same W19
  have f22 := (f17.wr W19)
  have f23 := ((Fw7.keep K12 nin0).other W19 (Or.inr (slot_ne (Or.inr (own_w hw 28 rfl)) (Or.inr (own_w hw 30 rfl)) (by decide) (t := .byte) (t' := (.array .byte)) (by decide) (by decide))))
  have f24 := (Y12_0.other W19 (Ne.symm (Nat.ne_of_lt (Nat.lt_of_lt_of_le (Nat.lt_of_lt_of_le HE_a1.lt (Keep.of_wr W7).1) Y12_z0))))
  refine ⟨T19, _, _, _, none, X19, by decide, by decide, fun _ => rfl, ?_, fun fs hr => castTop (ef_33aan m a1 a2) ?_⟩
  · show Q33 Z a1 a2 k8 t zz kc zC cs h0 n0 _ T19.heap _
    rw [e19]
    exact ⟨b13, k14, rfl, N19, K20, sz_b13, f22, f23, Fw19, f24⟩
  · show Steps p.tables e below (s₁.setTop (mkF m 0 #[.val (.ref a1), .val (.ref a2), .val .null, .unset, .unset] [])) _
    refine XS.aloadN X0.here hx rfl (d33 hby 0 rfl) rfl rfl ?_
    refine st3 _ ?_
    refine XS.aloadN X3.here hx rfl (d33 hby 2 rfl) rfl rfl ?_
    refine st4.trans ?_
    refine XS.astoreN X4.here hx rfl (d33 hby 4 rfl) rfl rfl (l' := #[.val (.ref a1), .val (.ref a2), .val .null, .val (.ref t), .unset]) rfl ?_
    refine XS.aloadN X4.here hx rfl (d33 hby 5 rfl) rfl rfl ?_
    refine st5.trans ?_
    refine XS.istore X5.here hx rfl (d33 hby 7 rfl) rfl (l' := #[.val (.ref a1), .val (.ref a2), .val .null, .val (.ref t), .val (.int kc)]) rfl ?_
    refine XS.aloadN X5.here hx rfl (d33 hby 8 rfl) rfl rfl ?_
    refine st6.trans ?_
    refine XS.ifNo X6.here hx rfl (d33 hby 10 rfl) rfl ((if0 _ _).trans (feq (by decide : ¬ ((1 : Int32) = (0 : Int32)))).1) ?_
    refine XS.aloadN X6.here hx rfl (d33 hby 11 rfl) rfl rfl ?_
    refine XS.iconst X6.here hx rfl (d33 hby 12 rfl) ?_
    refine st7 _ ?_
    refine XS.aloadN X7.here hx rfl (d33 hby 14 rfl) rfl rfl ?_
    refine XS.aloadN X7.here hx rfl (d33 hby 15 rfl) rfl rfl ?_
    refine XS.iconst X7.here hx rfl (d33 hby 16 rfl) ?_
    refine XS.iload X7.here hx rfl (d33 hby 17 rfl) rfl ?_
    refine st12 _ ?_
    refine st19 _ ?_
    refine XS.goto X19.here hx rfl (pc0 := 38) (pc' := 97) rfl (d33 hby 20 rfl) (by decide) (by decide) ?_
    exact X19.returnOut hx hret (d33 hby 21 rfl) hr
def own_L32 : List (Nat × Instr × Nat) := [(0, .aload_n 0, 1), (1, .aload_n 1, 1), (2, .aconst_null, 1), (3, .invokespecial 489, 3), (6, .return_, 1)]
theorem own_K32 : ∀ x ∈ own_L32, decode jdk_42_method_53_code x.1 = .ok x.2 := by decide +kernel
theorem d32 {c : Code} (hby : c.code = jdk_42_method_53_code) (i : Nat) {k n : Nat} {a : Instr} (h : own_L32[i]? = some (k, a, n)) : decode c.code k = .ok (a, n) := own_dL own_K32 hby h
theorem pd_18 : parseMethodDescriptor "(Ljava/lang/AbstractStringBuilder;Ljava/lang/Void;)V" = some ⟨[(.object "java/lang/AbstractStringBuilder"), (.object "java/lang/Void")], none⟩ := by decide +kernel
def Q32 (Z : State) (a1 a2 : Addr) (k8 : ClassId) (t : Addr) (zz kc zC : Int32) (cs : List Int32) (h0 : Heap) (n0 : Nat) (v : Option Value) (h : Heap) (L : List Loc) : Prop := ∃ b4 : Addr, ∃ k5 : ClassId, v = none ∧ Fr n0 L ∧ Keep h0 h [a1] ∧ h0.size ≤ b4 ∧ Exa Z h a1 "java/lang/String" ∧ Fld Z h a1 "java/lang/String" "coder" "B" (.int 0) ∧ Fld Z h a1 "java/lang/String" "value" "[B" (.ref b4) ∧ Arv Z h b4 k5 .byte (own_n cs) (own_by cs) (.int 0)
theorem ef_32 (m : MethodId) (x0 : Addr) (x1 : Addr) : entryFrame m #[(.ref x0), (.ref x1)] 2 = mkF m 0 #[.val (.ref x0), .val (.ref x1)] [] := by first | (simp [entryFrame, mkF, argsToLocals, Value.category]; done) | rfl
theorem rm32 (l : Launch) (Z : State) (a0 : Array Value) (hw : ∀ d ∈ tables_1, d.before a0 Z = true) (ws : List Jvm.Cond) (a1 a2 : Addr) (k8 : ClassId) (t : Addr) (zz kc zC : Int32) (cs : List Int32) (h0 : Heap) (n0 : Nat) (O0 : Old Z n0 h0) (HE_a1 : Exa Z h0 a1 "java/lang/String") (HF_a1_value : Fld Z h0 a1 "java/lang/String" "value" "[B" .null) (HF_a1_coder : Fld Z h0 a1 "java/lang/String" "coder" "B" (.int 0)) (HE_a2 : Exa Z h0 a2 "java/lang/StringBuilder") (HE_t : Exa Z h0 t "[B") (HF_a2_value : Fld Z h0 a2 "java/lang/AbstractStringBuilder" "value" "[B" (.ref t)) (HF_a2_coder : Fld Z h0 a2 "java/lang/AbstractStringBuilder" "coder" "B" (.int 0)) (HF_a2_count : Fld Z h0 a2 "java/lang/AbstractStringBuilder" "count" "I" (.int kc)) (HV_t : Arv Z h0 t k8 .byte zz (own_pad cs zz) (.int 0)) (S_COMPACT_STRINGS : Sta Z Z.heap "java/lang/String" "COMPACT_STRINGS" "Z" (.int zC)) (h3_h16_hc3 : ¬ (zC = (0 : Int32))) (g_a1 : n0 ≤ a1) (ne_t_a1 : t ≠ a1) (h3_h32_hkc : kc = (own_n cs)) (h3_h32_hcap : own_cap zz cs) (h3_h32_h33 : cs.length ≤ 33) :
    own_C l Z (⟨"java/lang/String", "<init>", "(Ljava/lang/StringBuilder;)V"⟩ : MethodName) jdk_42_method_53_code 2 none ws ({ frames := 6, cells := 1, slots := 34, locals := 111 } : Room) #[(.ref a1), (.ref a2)] h0 (Q32 Z a1 a2 k8 t zz kc zC cs h0 n0) := by
  refine own_intro (plainFor_of_name pnc_java_lang_String) fun p e s m below meth c s₁ hx hby hml hown hnm hZ e0 hret X0 => ?_
  have N0 := Fr.nil n0
  have Z0 : n0 ≤ h0.size := O0.1 ▸ O0.2.1
  obtain ⟨vr3, _, ⟨T3, L3, k3, n3⟩, -, X3, ⟨Lc3, hQ3, l3, y3, z3⟩, st3⟩ := X0.specialBack hx (y := (⟨"java/lang/String", "<init>", "(Ljava/lang/AbstractStringBuilder;Ljava/lang/Void;)V"⟩ : MethodName)) rfl hown (mvT hZ (own_w hw 186 rfl)) (mvT hZ (own_w hw 187 rfl)) (mvT hZ (own_w hw 188 rfl)) (by decide) (backOf (W := 0) (rm33 l Z a0 hw [] a1 a2 k8 t zz kc zC cs h0 n0 O0 HE_a1 HF_a1_value HF_a1_coder HE_a2 HE_t HF_a2_value HF_a2_coder HF_a2_count HV_t S_COMPACT_STRINGS h3_h16_hc3 g_a1 ne_t_a1 h3_h32_hkc h3_h32_hcap h3_h32_h33) hZ (own_w hw 188 rfl) (own_w hw 3 rfl) (by decide) (by decide)) (g := (mkF m 3 #[.val (.ref a1), .val (.ref a2)] [.null, (.ref a2), (.ref a1)])) rfl (by rw [hml]; rfl) (Steps.refl _) (a := a1) (argsL := [(.ref a2), .null]) (rest := []) (lenOf pd_18 rfl) rfl (by show 2 * 0 + _ ≤ _; exact Nat.le_of_eq rfl) (d32 hby 3 rfl) (fun _ _ => ⟨rfl, e0, (by decide : 0 + 1 ≤ _), (by decide : 0 + 34 ≤ _)⟩)
  dsimp only [Pt.U, Pt.locs, Pt.cells, Pt.slots] at X3 l3 y3 z3 st3 hQ3
  subst l3 y3 z3
  obtain ⟨b4, k5, rfl, N3q, K3, Y3_z0, Y3_0, Y3_1, Y3_2, Y3_3⟩ := hQ3
  have N3 := Fr.app N0 N3q
  replace X3 := X3.more (cells' := 1) (slots' := 34) (by decide) (by decide)
  have g_b4 : n0 ≤ b4 := Nat.le_trans (Nat.le_trans Z0 (Keep.refl h0 [a1]).1) Y3_z0
  have sz_b4 : h0.size ≤ b4 := Nat.le_trans (Keep.refl h0 [a1]).1 Y3_z0
  have K6 : Keep h0 T3.heap [a1] := (Keep.refl h0 [a1]).trans K3 (allS (Or.inl (List.mem_of_getElem? (i := 0) rfl)) all0)
  have O7 : Old Z n0 T3.heap := O0.keep K3 (allS g_a1 all0)
  refine ⟨T3, _, _, _, none, X3, by decide, by decide, fun _ => rfl, ?_, fun fs hr => castTop (ef_32 m a1 a2) ?_⟩
  · show Q32 Z a1 a2 k8 t zz kc zC cs h0 n0 _ T3.heap _
    exact ⟨b4, k5, rfl, N3, K6, sz_b4, Y3_0, Y3_1, Y3_2, Y3_3⟩
  · show Steps p.tables e below (s₁.setTop (mkF m 0 #[.val (.ref a1), .val (.ref a2)] [])) _
    refine XS.aloadN X0.here hx rfl (d32 hby 0 rfl) rfl rfl ?_
    refine XS.aloadN X0.here hx rfl (d32 hby 1 rfl) rfl rfl ?_
    refine XS.aconstNull X0.here hx rfl (d32 hby 2 rfl) ?_
    refine st3.trans ?_
    exact X3.returnOut hx hret (d32 hby 4 rfl) hr
def own_L31 : List (Nat × Instr × Nat) := [(0, .new 18, 3), (3, .dup, 1), (4, .aload_n 0, 1), (5, .invokespecial 137, 3), (8, .areturn, 1)]
theorem own_K31 : ∀ x ∈ own_L31, decode jdk_67_method_42_code x.1 = .ok x.2 := by decide +kernel
theorem d31 {c : Code} (hby : c.code = jdk_67_method_42_code) (i : Nat) {k n : Nat} {a : Instr} (h : own_L31[i]? = some (k, a, n)) : decode c.code k = .ok (a, n) := own_dL own_K31 hby h
theorem pd_27 : parseMethodDescriptor "(Ljava/lang/StringBuilder;)V" = some ⟨[(.object "java/lang/StringBuilder")], none⟩ := by decide +kernel
def Q31 (Z : State) (a1 : Addr) (k8 : ClassId) (t : Addr) (zz kc zC : Int32) (cs : List Int32) (h0 : Heap) (n0 : Nat) (v : Option Value) (h : Heap) (L : List Loc) : Prop := ∃ b2 b13 : Addr, ∃ k14 : ClassId, v = some (.ref b2) ∧ Fr n0 L ∧ Keep h0 h [] ∧ h0.size ≤ b2 ∧ h0.size ≤ b13 ∧ b2 ≠ b13 ∧ Exa Z h b2 "java/lang/String" ∧ Fld Z h b2 "java/lang/String" "coder" "B" (.int 0) ∧ Fld Z h b2 "java/lang/String" "value" "[B" (.ref b13) ∧ Arv Z h b13 k14 .byte (own_n cs) (own_by cs) (.int 0)
theorem ef_31 (m : MethodId) (x0 : Addr) : entryFrame m #[(.ref x0)] 1 = mkF m 0 #[.val (.ref x0)] [] := by first | (simp [entryFrame, mkF, argsToLocals, Value.category]; done) | rfl
theorem rm31 (l : Launch) (Z : State) (a0 : Array Value) (hw : ∀ d ∈ tables_1, d.before a0 Z = true) (ws : List Jvm.Cond) (a1 : Addr) (k8 : ClassId) (t : Addr) (zz kc zC : Int32) (cs : List Int32) (h0 : Heap) (n0 : Nat) (O0 : Old Z n0 h0) (HE_a1 : Exa Z h0 a1 "java/lang/StringBuilder") (HE_t : Exa Z h0 t "[B") (HF_a1_value : Fld Z h0 a1 "java/lang/AbstractStringBuilder" "value" "[B" (.ref t)) (HF_a1_coder : Fld Z h0 a1 "java/lang/AbstractStringBuilder" "coder" "B" (.int 0)) (HF_a1_count : Fld Z h0 a1 "java/lang/AbstractStringBuilder" "count" "I" (.int kc)) (HV_t : Arv Z h0 t k8 .byte zz (own_pad cs zz) (.int 0)) (S_COMPACT_STRINGS : Sta Z Z.heap "java/lang/String" "COMPACT_STRINGS" "Z" (.int zC)) (h5_h3_h16_hc3 : ¬ (zC = (0 : Int32))) (h5_h3_h32_hkc : kc = (own_n cs)) (h5_h3_h32_hcap : own_cap zz cs) (h5_h3_h32_h33 : cs.length ≤ 33) :
    own_C l Z (⟨"java/lang/StringBuilder", "toString", "()Ljava/lang/String;"⟩ : MethodName) jdk_67_method_42_code 1 (some (.object "java/lang/String")) ws ({ frames := 7, cells := 2, slots := 38, locals := 125 } : Room) #[(.ref a1)] h0 (Q31 Z a1 k8 t zz kc zC cs h0 n0) := by
  refine own_intro (plainFor_of_name pnc_java_lang_StringBuilder) fun p e s m below meth c s₁ hx hby hml hown hnm hZ e0 hret X0 => ?_
  have N0 := Fr.nil n0
  have Z0 : n0 ≤ h0.size := O0.1 ▸ O0.2.1
  obtain ⟨T2, h2, X2, e2, E2, A2, D2, -, st2⟩ := newO X0 hx hZ hown (own_w hw 182 rfl) (own_w hw 2 rfl) (own_w hw 3 rfl) e0 (g := (mkF m 0 #[.val (.ref a1)] [])) rfl (d31 hby 0 rfl) (by decide) (by decide)
  obtain ⟨b2, g2⟩ : ∃ z, z = h0.size := ⟨_, rfl⟩
  rw [← g2] at A2 D2 st2
  have g_b2 : n0 ≤ b2 := Nat.le_trans (Nat.le_trans Z0 (Keep.refl h0 []).1) (Nat.le_of_eq g2.symm)
  have sz_b2 : h0.size ≤ b2 := Nat.le_trans (Keep.refl h0 []).1 (Nat.le_of_eq g2.symm)
  have K3 : Keep h0 h2 [] := (Keep.refl h0 []).ext E2
  have O4 : Old Z n0 h2 := O0.ext E2
  have F_coder_b2 : Fld Z h2 b2 "java/lang/String" "coder" "B" (.int 0) := D2 (Or.inr (own_w hw 28 rfl)) (ty := .byte) (by decide)
  have F_value_b2 : Fld Z h2 b2 "java/lang/String" "value" "[B" .null := D2 (Or.inr (own_w hw 30 rfl)) (ty := (.array .byte)) (by decide)
  replace X2 := X2.more (cells' := 1) (slots' := 4) (by decide) (by decide)
  have f5 := (HE_a1.ext E2)
  have f6 := (HF_a1_value.ext E2)
  have f7 := (HE_t.ext E2)
  have f8 := (HF_a1_coder.ext E2)
  have f9 := (HF_a1_count.ext E2)
  have f10 := (HV_t.ext E2)
  have ne11 : t ≠ b2 := Nat.ne_of_lt (Nat.lt_of_lt_of_le HE_t.lt (Nat.le_of_eq g2.symm))
  obtain ⟨vr12, _, ⟨T12, L12, k12, n12⟩, -, X12, ⟨Lc12, hQ12, l12, y12, z12⟩, st12⟩ := X2.specialBack hx (y := (⟨"java/lang/String", "<init>", "(Ljava/lang/StringBuilder;)V"⟩ : MethodName)) rfl hown (mvT hZ (own_w hw 183 rfl)) (mvT hZ (own_w hw 184 rfl)) (mvT hZ (own_w hw 185 rfl)) (by decide) (backOf (W := 1) (rm32 l Z a0 hw [] b2 a1 k8 t zz kc zC cs h2 n0 O4 A2 F_value_b2 F_coder_b2 f5 f7 f6 f8 f9 f10 S_COMPACT_STRINGS h5_h3_h16_hc3 g_b2 ne11 h5_h3_h32_hkc h5_h3_h32_hcap h5_h3_h32_h33) hZ (own_w hw 185 rfl) (own_w hw 3 rfl) (by decide) (by decide)) (g := (mkF m 5 #[.val (.ref a1)] [(.ref a1), (.ref b2), (.ref b2)])) rfl (by rw [hml]; rfl) (Steps.refl _) (a := b2) (argsL := [(.ref a1)]) (rest := [(.ref b2)]) (lenOf pd_27 rfl) rfl (by show 2 * 0 + _ ≤ _; exact Nat.le_of_eq rfl) (d31 hby 3 rfl) (fun _ _ => ⟨rfl, e2, (by decide : 1 + 1 ≤ _), (by decide : 4 + 34 ≤ _)⟩)
  dsimp only [Pt.U, Pt.locs, Pt.cells, Pt.slots] at X12 l12 y12 z12 st12 hQ12
  subst l12 y12 z12
  obtain ⟨b13, k14, rfl, N12q, K12, Y12_z0, Y12_0, Y12_1, Y12_2, Y12_3⟩ := hQ12
  have N12 := Fr.app N0 N12q
  replace X12 := X12.more (cells' := 2) (slots' := 38) (by decide) (by decide)
  have g_b13 : n0 ≤ b13 := Nat.le_trans (Nat.le_trans Z0 K3.1) Y12_z0
  have sz_b13 : h0.size ≤ b13 := Nat.le_trans K3.1 Y12_z0
  have K15 : Keep h0 T12.heap [] := K3.trans K12 (allS (Or.inr sz_b2) all0)
  have O16 : Old Z n0 T12.heap := O4.keep K12 (allS g_b2 all0)
  refine ⟨T12, _, _, _, some (.ref b2), X12, by decide, by decide, nofun, ?_, fun fs hr => castTop (ef_31 m a1) ?_⟩
  · show Q31 Z a1 k8 t zz kc zC cs h0 n0 _ T12.heap _
    exact ⟨b2, b13, k14, rfl, N12, K15, sz_b2, sz_b13, (Nat.ne_of_lt (Nat.lt_of_lt_of_le A2.lt Y12_z0)), Y12_0, Y12_1, Y12_2, Y12_3⟩
  · show Steps p.tables e below (s₁.setTop (mkF m 0 #[.val (.ref a1)] [])) _
    refine st2 _ ?_
    refine XS.dup X2.here hx rfl (d31 hby 1 rfl) rfl rfl ?_
    refine XS.aloadN X2.here hx rfl (d31 hby 2 rfl) rfl rfl ?_
    refine st12.trans ?_
    exact own_retR X12 hx hret rfl rfl (d31 hby 4 rfl) hr
def own_L11 : List (Nat × Instr × Nat) := [(0, .aload_n 0, 1), (1, .areturn, 1)]
theorem own_K11 : ∀ x ∈ own_L11, decode jdk_42_method_126_code x.1 = .ok x.2 := by decide +kernel
theorem d11 {c : Code} (hby : c.code = jdk_42_method_126_code) (i : Nat) {k n : Nat} {a : Instr} (h : own_L11[i]? = some (k, a, n)) : decode c.code k = .ok (a, n) := own_dL own_K11 hby h
def Q11 (Z : State) (a1 : Addr) (h0 : Heap) (n0 : Nat) (v : Option Value) (h : Heap) (L : List Loc) : Prop := v = some (.ref a1) ∧ Fr n0 L ∧ h = h0
theorem ef_11 (m : MethodId) (x0 : Addr) : entryFrame m #[(.ref x0)] 1 = mkF m 0 #[.val (.ref x0)] [] := by first | (simp [entryFrame, mkF, argsToLocals, Value.category]; done) | rfl
theorem rm11 (l : Launch) (Z : State) (a0 : Array Value) (hw : ∀ d ∈ tables_1, d.before a0 Z = true) (ws : List Jvm.Cond) (a1 : Addr) (h0 : Heap) (n0 : Nat) (O0 : Old Z n0 h0) :
    own_C l Z (⟨"java/lang/String", "toString", "()Ljava/lang/String;"⟩ : MethodName) jdk_42_method_126_code 1 (some (.object "java/lang/String")) ws ({ frames := 0, cells := 0, slots := 0, locals := 0 } : Room) #[(.ref a1)] h0 (Q11 Z a1 h0 n0) := by
  refine own_intro (plainFor_of_name pnc_java_lang_String) fun p e s m below meth c s₁ hx hby hml hown hnm hZ e0 hret X0 => ?_
  have N0 := Fr.nil n0
  have Z0 : n0 ≤ h0.size := O0.1 ▸ O0.2.1
  refine ⟨s₁, _, _, _, some (.ref a1), X0, by decide, by decide, nofun, ?_, fun fs hr => castTop (ef_11 m a1) ?_⟩
  · show Q11 Z a1 h0 n0 _ s₁.heap _
    rw [e0]
    exact ⟨rfl, N0, rfl⟩
  · show Steps p.tables e below (s₁.setTop (mkF m 0 #[.val (.ref a1)] [])) _
    refine XS.aloadN X0.here hx rfl (d11 hby 0 rfl) rfl rfl ?_
    exact own_retR X0 hx hret rfl rfl (d11 hby 1 rfl) hr
theorem own_58 {h : Int32} (hr : ¬ h < 0 ∧ ¬ (255 : Int32) < h) : h.toInt8.toInt32 = (58 : Int32) ↔ h = (58 : Int32) := by
  obtain ⟨h1, h2⟩ := hr
  have q := nat_of h1
  rw [Int32.lt_iff_toInt_lt, show (255 : Int32).toInt = 255 from rfl] at h2
  have e : h = Int32.ofNat h.toNatClampNeg := (back32 h1).1.symm
  have k : ∀ j : Fin 256, (Int32.ofNat j.1).toInt8.toInt32 = (58 : Int32) ↔ Int32.ofNat j.1 = (58 : Int32) := by decide +kernel
  have k2 := k ⟨h.toNatClampNeg, by omega⟩
  rw [← e] at k2
  exact k2
def own_L15 : List (Nat × Instr × Nat) := [(0, .aload_n 1, 1), (1, .arraylength, 1), (2, .ifCond .ne 5, 3), (7, .aload_n 0, 1), (8, .arraylength, 1), (9, .ifCond .ne 5, 3), (12, .iconst (-1), 1), (13, .ireturn, 1), (14, .aload_n 0, 1), (15, .aload_n 0, 1), (16, .arraylength, 1), (17, .aload_n 1, 1), (18, .aload_n 1, 1), (19, .arraylength, 1), (20, .iconst 0, 1), (21, .invokestatic 99, 3), (24, .ireturn, 1)]
theorem own_K15 : ∀ x ∈ own_L15, decode jdk_43_method_24_code x.1 = .ok x.2 := by decide +kernel
theorem d15 {c : Code} (hby : c.code = jdk_43_method_24_code) (i : Nat) {k n : Nat} {a : Instr} (h : own_L15[i]? = some (k, a, n)) : decode c.code k = .ok (a, n) := own_dL own_K15 hby h
def Q15r0 (Z : State) (a1 a2 : Addr) (k9 k8 : ClassId) (h0 : Heap) (n0 : Nat) (v : Option Value) (h : Heap) (L : List Loc) : Prop := v = some (.int (-1 : Int32)) ∧ Fr n0 L ∧ h = h0
theorem ef_15 (m : MethodId) (x0 : Addr) (x1 : Addr) : entryFrame m #[(.ref x0), (.ref x1)] 2 = mkF m 0 #[.val (.ref x0), .val (.ref x1)] [] := by first | (simp [entryFrame, mkF, argsToLocals, Value.category]; done) | rfl
theorem rm15r0 (l : Launch) (Z : State) (a0 : Array Value) (hw : ∀ d ∈ tables_1, d.before a0 Z = true) (ws : List Jvm.Cond) (a1 a2 : Addr) (k9 k8 : ClassId) (h0 : Heap) (n0 : Nat) (O0 : Old Z n0 h0) (HV_a1 : Arv Z h0 a1 k9 .byte (0 : Int32) [] (.int 0)) (HV_a2 : Arv Z h0 a2 k8 .byte (1 : Int32) [(.int 58)] (.int 0)) :
    own_C l Z (⟨"java/lang/StringLatin1", "indexOf", "([B[B)I"⟩ : MethodName) jdk_43_method_24_code 2 (some .int) ws ({ frames := 2, cells := 0, slots := 0, locals := 50 } : Room) #[(.ref a1), (.ref a2)] h0 (Q15r0 Z a1 a2 k9 k8 h0 n0) := by
  refine own_intro (plainFor_of_name pnc_java_lang_StringLatin1) fun p e s m below meth c s₁ hx hby hml hown hnm hZ e0 hret X0 => ?_
  have N0 := Fr.nil n0
  have Z0 : n0 ≤ h0.size := O0.1 ▸ O0.2.1
  obtain ⟨cl3, Ar3, q3, S3, Nn3, Hh3, G3⟩ := id HV_a2
  obtain ⟨cl4, Ar4, q4, S4, Nn4, Hh4, G4⟩ := id HV_a1
  refine ⟨s₁, _, _, _, some (.int (-1 : Int32)), X0, by decide, by decide, nofun, ?_, fun fs hr => castTop (ef_15 m a1 a2) ?_⟩
  · show Q15r0 Z a1 a2 k9 k8 h0 n0 _ s₁.heap _
    rw [e0]
    exact ⟨rfl, N0, rfl⟩
  · show Steps p.tables e below (s₁.setTop (mkF m 0 #[.val (.ref a1), .val (.ref a2)] [])) _
    refine XS.aloadN X0.here hx rfl (d15 hby 0 rfl) rfl rfl ?_
    show Steps p.tables e below (s₁.setTop (mkF m 1 #[.val (.ref a1), .val (.ref a2)] [(.ref a2)])) _
    refine X0.arraylength hx (by rw [e0]; exact Ar3.1) (State.isArrayOf_alike hZ.alike Ar3.2.1) (g := (mkF m 1 #[.val (.ref a1), .val (.ref a2)] [(.ref a2)])) rfl rfl (d15 hby 1 rfl) _ ?_
    rw [len_of S3 Nn3]
    refine XS.ifYes X0.here hx rfl (pc0 := 2) (pc' := 7) rfl (d15 hby 2 rfl) rfl ((if0 _ _).trans (feq (by decide : ¬ ((1 : Int32) = (0 : Int32)))).2) (by decide) (by decide) ?_
    refine XS.aloadN X0.here hx rfl (d15 hby 3 rfl) rfl rfl ?_
    show Steps p.tables e below (s₁.setTop (mkF m 8 #[.val (.ref a1), .val (.ref a2)] [(.ref a1)])) _
    refine X0.arraylength hx (by rw [e0]; exact Ar4.1) (State.isArrayOf_alike hZ.alike Ar4.2.1) (g := (mkF m 8 #[.val (.ref a1), .val (.ref a2)] [(.ref a1)])) rfl rfl (d15 hby 4 rfl) _ ?_
    rw [len_of S4 Nn4]
    refine XS.ifNo X0.here hx rfl (d15 hby 5 rfl) rfl ((if0 _ _).trans (teq (by decide : (0 : Int32) = (0 : Int32))).2) ?_
    refine XS.iconst X0.here hx rfl (d15 hby 6 rfl) ?_
    exact own_retI X0 hx hret (d15 hby 7 rfl) hr
def own_L16 : List (Nat × Instr × Nat) := [(0, .aload_n 2, 1), (1, .iconst 0, 1), (2, .baload, 1), (3, .istore 5, 2), (5, .iload_n 1, 1), (6, .iload_n 3, 1), (7, .isub, 1), (8, .istore 6, 2), (10, .iload 4, 2), (12, .istore 7, 2), (14, .iload 7, 2), (16, .iload 6, 2), (18, .if_icmp .gt 101, 3), (21, .aload_n 0, 1), (22, .iload 7, 2), (24, .baload, 1), (25, .iload 5, 2), (27, .if_icmp .eq 25, 3), (52, .iload 7, 2), (54, .iload 6, 2), (56, .if_icmp .gt 57, 3), (59, .iload 7, 2), (61, .iconst 1, 1), (62, .iadd, 1), (63, .istore 8, 2), (65, .iload 8, 2), (67, .iload_n 3, 1), (68, .iadd, 1), (69, .iconst 1, 1), (70, .isub, 1), (71, .istore 9, 2), (73, .iconst 1, 1), (74, .istore 10, 2), (76, .iload 8, 2), (78, .iload 9, 2), (80, .if_icmp .ge 23, 3), (103, .iload 8, 2), (105, .iload 9, 2), (107, .if_icmp .ne 6, 3), (110, .iload 7, 2), (112, .ireturn, 1), (30, .iinc 7 1, 3), (33, .iload 7, 2), (35, .iload 6, 2), (37, .if_icmp .gt 15, 3), (113, .iinc 7 1, 3), (116, .goto (-102), 3), (119, .iconst (-1), 1), (120, .ireturn, 1), (40, .aload_n 0, 1), (41, .iload 7, 2), (43, .baload, 1), (44, .iload 5, 2), (46, .if_icmp .eq 6, 3), (49, .goto (-19), 3)]
theorem own_K16 : ∀ x ∈ own_L16, decode jdk_43_method_25_code x.1 = .ok x.2 := by decide +kernel
theorem d16 {c : Code} (hby : c.code = jdk_43_method_25_code) (i : Nat) {k n : Nat} {a : Instr} (h : own_L16[i]? = some (k, a, n)) : decode c.code k = .ok (a, n) := own_dL own_K16 hby h
def Q16r1y (Z : State) (a1 a2 : Addr) (k9 k8 : ClassId) (x0 : Int32) (h0 : Heap) (n0 : Nat) (v : Option Value) (h : Heap) (L : List Loc) : Prop := v = some (.int 0) ∧ Fr n0 L ∧ h = h0
theorem ef_16a__1___Int32__a__1___Int32____0___Int32__ (m : MethodId) (x0 : Addr) (x2 : Addr) : entryFrame m #[(.ref x0), (.int 1), (.ref x2), (.int 1), (.int 0)] 11 = mkF m 0 #[.val (.ref x0), .val (.int 1), .val (.ref x2), .val (.int 1), .val (.int 0), .unset, .unset, .unset, .unset, .unset, .unset] [] := by first | (simp [entryFrame, mkF, argsToLocals, Value.category]; done) | rfl
theorem rm16r1y (l : Launch) (Z : State) (a0 : Array Value) (hw : ∀ d ∈ tables_1, d.before a0 Z = true) (ws : List Jvm.Cond) (a1 a2 : Addr) (k9 k8 : ClassId) (x0 : Int32) (h0 : Heap) (n0 : Nat) (O0 : Old Z n0 h0) (HV_a1 : Arv Z h0 a1 k9 .byte (1 : Int32) [(.int x0)] (.int 0)) (HV_a2 : Arv Z h0 a2 k8 .byte (1 : Int32) [(.int 58)] (.int 0)) (hc27 : x0 = (58 : Int32)) :
    own_C l Z (⟨"java/lang/StringLatin1", "indexOf", "([BI[BII)I"⟩ : MethodName) jdk_43_method_25_code 11 (some .int) ws ({ frames := 0, cells := 0, slots := 0, locals := 0 } : Room) #[(.ref a1), (.int 1), (.ref a2), (.int 1), (.int 0)] h0 (Q16r1y Z a1 a2 k9 k8 x0 h0 n0) := by
  refine own_intro (plainFor_of_name pnc_java_lang_StringLatin1) fun p e s m below meth c s₁ hx hby hml hown hnm hZ e0 hret X0 => ?_
  have N0 := Fr.nil n0
  have Z0 : n0 ≤ h0.size := O0.1 ▸ O0.2.1
  obtain ⟨cl3, Ar3, q3, S3, Nn3, Hh3, G3⟩ := id HV_a2
  have hin3 : ¬ ((0 : Int32) < 0 ∨ cl3.slots.size ≤ ((0 : Int32)).toNatClampNeg) := inb_of S3 ⟨by decide, by decide⟩
  have hat3 : cl3.slots[((0 : Int32)).toNatClampNeg]? = some (.int 58) := Has.at Hh3 hin3 rfl
  obtain ⟨cl4, Ar4, q4, S4, Nn4, Hh4, G4⟩ := id HV_a1
  have hin4 : ¬ ((0 : Int32) < 0 ∨ cl4.slots.size ≤ ((0 : Int32)).toNatClampNeg) := inb_of S4 ⟨by decide, by decide⟩
  have hat4 : cl4.slots[((0 : Int32)).toNatClampNeg]? = some (.int x0) := Has.at Hh4 hin4 rfl
  refine ⟨s₁, _, _, _, some (.int 0), X0, by decide, by decide, nofun, ?_, fun fs hr => castTop (ef_16a__1___Int32__a__1___Int32____0___Int32__ m a1 a2) ?_⟩
  · show Q16r1y Z a1 a2 k9 k8 x0 h0 n0 _ s₁.heap _
    rw [e0]
    exact ⟨rfl, N0, rfl⟩
  · show Steps p.tables e below (s₁.setTop (mkF m 0 #[.val (.ref a1), .val (.int 1), .val (.ref a2), .val (.int 1), .val (.int 0), .unset, .unset, .unset, .unset, .unset, .unset] [])) _
    refine XS.aloadN X0.here hx rfl (d16 hby 0 rfl) rfl rfl ?_
    refine XS.iconst X0.here hx rfl (d16 hby 1 rfl) ?_
    show Steps p.tables e below (s₁.setTop (mkF m 2 #[.val (.ref a1), .val (.int 1), .val (.ref a2), .val (.int 1), .val (.int 0), .unset, .unset, .unset, .unset, .unset, .unset] [(.int 0), (.ref a2)])) _
    refine X0.baloadBytes hx (j := (0 : Int32)) (v := (.int 58)) (by rw [e0]; exact Ar3.1) (State.isArrayOf_alike hZ.alike Ar3.2.1) Ar3.2.2 hin3 hat3 (g := (mkF m 2 #[.val (.ref a1), .val (.int 1), .val (.ref a2), .val (.int 1), .val (.int 0), .unset, .unset, .unset, .unset, .unset, .unset] [(.int 0), (.ref a2)])) rfl rfl (d16 hby 2 rfl) _ ?_
    refine XS.istore X0.here hx rfl (d16 hby 3 rfl) rfl (l' := #[.val (.ref a1), .val (.int 1), .val (.ref a2), .val (.int 1), .val (.int 0), .val (.int 58), .unset, .unset, .unset, .unset, .unset]) rfl ?_
    refine XS.iloadN X0.here hx rfl (d16 hby 4 rfl) rfl ?_
    refine XS.iloadN X0.here hx rfl (d16 hby 5 rfl) rfl ?_
    refine XS.isub X0.here hx rfl (d16 hby 6 rfl) rfl ?_
    refine XS.istore X0.here hx rfl (d16 hby 7 rfl) rfl (l' := #[.val (.ref a1), .val (.int 1), .val (.ref a2), .val (.int 1), .val (.int 0), .val (.int 58), .val (.int 0), .unset, .unset, .unset, .unset]) rfl ?_
    refine XS.iload X0.here hx rfl (d16 hby 8 rfl) rfl ?_
    show Steps p.tables e below (s₁.setTop (mkF m 12 #[.val (.ref a1), .val (.int 1), .val (.ref a2), .val (.int 1), .val (.int 0), .val (.int 58), .val (.int 0), .unset, .unset, .unset, .unset] [(.int 0)])) _
    refine XS.istore X0.here hx rfl (d16 hby 9 rfl) rfl (l' := #[.val (.ref a1), .val (.int 1), .val (.ref a2), .val (.int 1), .val (.int 0), .val (.int 58), .val (.int 0), .val (.int 0), .unset, .unset, .unset]) rfl ?_
    refine XS.iload X0.here hx rfl (d16 hby 10 rfl) rfl ?_
    refine XS.iload X0.here hx rfl (d16 hby 11 rfl) rfl ?_
    refine XS.icmpNo X0.here hx rfl (d16 hby 12 rfl) rfl (flt (by decide : ¬ ((0 : Int32) < (0 : Int32)))).2.2.1 ?_
    refine XS.aloadN X0.here hx rfl (d16 hby 13 rfl) rfl rfl ?_
    refine XS.iload X0.here hx rfl (d16 hby 14 rfl) rfl ?_
    show Steps p.tables e below (s₁.setTop (mkF m 24 #[.val (.ref a1), .val (.int 1), .val (.ref a2), .val (.int 1), .val (.int 0), .val (.int 58), .val (.int 0), .val (.int 0), .unset, .unset, .unset] [(.int 0), (.ref a1)])) _
    refine X0.baloadBytes hx (j := (0 : Int32)) (v := (.int x0)) (by rw [e0]; exact Ar4.1) (State.isArrayOf_alike hZ.alike Ar4.2.1) Ar4.2.2 hin4 hat4 (g := (mkF m 24 #[.val (.ref a1), .val (.int 1), .val (.ref a2), .val (.int 1), .val (.int 0), .val (.int 58), .val (.int 0), .val (.int 0), .unset, .unset, .unset] [(.int 0), (.ref a1)])) rfl rfl (d16 hby 15 rfl) _ ?_
    refine XS.iload X0.here hx rfl (d16 hby 16 rfl) rfl ?_
    refine XS.icmpYes X0.here hx rfl (pc0 := 27) (pc' := 52) rfl (d16 hby 17 rfl) rfl (teq hc27).1 (by decide) (by decide) ?_
    refine XS.iload X0.here hx rfl (d16 hby 18 rfl) rfl ?_
    refine XS.iload X0.here hx rfl (d16 hby 19 rfl) rfl ?_
    refine XS.icmpNo X0.here hx rfl (d16 hby 20 rfl) rfl (flt (by decide : ¬ ((0 : Int32) < (0 : Int32)))).2.2.1 ?_
    refine XS.iload X0.here hx rfl (d16 hby 21 rfl) rfl ?_
    show Steps p.tables e below (s₁.setTop (mkF m 61 #[.val (.ref a1), .val (.int 1), .val (.ref a2), .val (.int 1), .val (.int 0), .val (.int 58), .val (.int 0), .val (.int 0), .unset, .unset, .unset] [(.int 0)])) _
    refine XS.iconst X0.here hx rfl (d16 hby 22 rfl) ?_
    refine XS.iadd X0.here hx rfl (d16 hby 23 rfl) rfl ?_
    refine XS.istore X0.here hx rfl (d16 hby 24 rfl) rfl (l' := #[.val (.ref a1), .val (.int 1), .val (.ref a2), .val (.int 1), .val (.int 0), .val (.int 58), .val (.int 0), .val (.int 0), .val (.int 1), .unset, .unset]) rfl ?_
    refine XS.iload X0.here hx rfl (d16 hby 25 rfl) rfl ?_
    refine XS.iloadN X0.here hx rfl (d16 hby 26 rfl) rfl ?_
    refine XS.iadd X0.here hx rfl (d16 hby 27 rfl) rfl ?_
    refine XS.iconst X0.here hx rfl (d16 hby 28 rfl) ?_
    show Steps p.tables e below (s₁.setTop (mkF m 70 #[.val (.ref a1), .val (.int 1), .val (.ref a2), .val (.int 1), .val (.int 0), .val (.int 58), .val (.int 0), .val (.int 0), .val (.int 1), .unset, .unset] [(.int 1), (.int 2)])) _
    refine XS.isub X0.here hx rfl (d16 hby 29 rfl) rfl ?_
    refine XS.istore X0.here hx rfl (d16 hby 30 rfl) rfl (l' := #[.val (.ref a1), .val (.int 1), .val (.ref a2), .val (.int 1), .val (.int 0), .val (.int 58), .val (.int 0), .val (.int 0), .val (.int 1), .val (.int 1), .unset]) rfl ?_
    refine XS.iconst X0.here hx rfl (d16 hby 31 rfl) ?_
    refine XS.istore X0.here hx rfl (d16 hby 32 rfl) rfl (l' := #[.val (.ref a1), .val (.int 1), .val (.ref a2), .val (.int 1), .val (.int 0), .val (.int 58), .val (.int 0), .val (.int 0), .val (.int 1), .val (.int 1), .val (.int 1)]) rfl ?_
    refine XS.iload X0.here hx rfl (d16 hby 33 rfl) rfl ?_
    refine XS.iload X0.here hx rfl (d16 hby 34 rfl) rfl ?_
    refine XS.icmpYes X0.here hx rfl (pc0 := 80) (pc' := 103) rfl (d16 hby 35 rfl) rfl (flt (by decide : ¬ ((1 : Int32) < (1 : Int32)))).2.1 (by decide) (by decide) ?_
    show Steps p.tables e below (s₁.setTop (mkF m 103 #[.val (.ref a1), .val (.int 1), .val (.ref a2), .val (.int 1), .val (.int 0), .val (.int 58), .val (.int 0), .val (.int 0), .val (.int 1), .val (.int 1), .val (.int 1)] [])) _
    refine XS.iload X0.here hx rfl (d16 hby 36 rfl) rfl ?_
    refine XS.iload X0.here hx rfl (d16 hby 37 rfl) rfl ?_
    refine XS.icmpNo X0.here hx rfl (d16 hby 38 rfl) rfl (teq (by decide : (1 : Int32) = (1 : Int32))).2 ?_
    refine XS.iload X0.here hx rfl (d16 hby 39 rfl) rfl ?_
    exact own_retI X0 hx hret (d16 hby 40 rfl) hr
theorem pd_33 : parseMethodDescriptor "([BI[BII)I" = some ⟨[(.array .byte), .int, (.array .byte), .int, .int], some .int⟩ := by decide +kernel
def Q15r1y (Z : State) (a1 a2 : Addr) (k9 k8 : ClassId) (x0 : Int32) (h0 : Heap) (n0 : Nat) (v : Option Value) (h : Heap) (L : List Loc) : Prop := v = some (.int 0) ∧ Fr n0 L ∧ h = h0
theorem rm15r1y (l : Launch) (Z : State) (a0 : Array Value) (hw : ∀ d ∈ tables_1, d.before a0 Z = true) (ws : List Jvm.Cond) (a1 a2 : Addr) (k9 k8 : ClassId) (x0 : Int32) (h0 : Heap) (n0 : Nat) (O0 : Old Z n0 h0) (HV_a1 : Arv Z h0 a1 k9 .byte (1 : Int32) [(.int x0)] (.int 0)) (HV_a2 : Arv Z h0 a2 k8 .byte (1 : Int32) [(.int 58)] (.int 0)) (h21_hc27 : x0 = (58 : Int32)) :
    own_C l Z (⟨"java/lang/StringLatin1", "indexOf", "([B[B)I"⟩ : MethodName) jdk_43_method_24_code 2 (some .int) ws ({ frames := 2, cells := 0, slots := 0, locals := 50 } : Room) #[(.ref a1), (.ref a2)] h0 (Q15r1y Z a1 a2 k9 k8 x0 h0 n0) := by
  refine own_intro (plainFor_of_name pnc_java_lang_StringLatin1) fun p e s m below meth c s₁ hx hby hml hown hnm hZ e0 hret X0 => ?_
  have N0 := Fr.nil n0
  have Z0 : n0 ≤ h0.size := O0.1 ▸ O0.2.1
  obtain ⟨cl3, Ar3, q3, S3, Nn3, Hh3, G3⟩ := id HV_a2
  obtain ⟨cl4, Ar4, q4, S4, Nn4, Hh4, G4⟩ := id HV_a1
  obtain ⟨cl5, Ar5, q5, S5, Nn5, Hh5, G5⟩ := id HV_a1
  obtain ⟨cl6, Ar6, q6, S6, Nn6, Hh6, G6⟩ := id HV_a2
  obtain ⟨vr7, _, ⟨T7, L7, k7, n7⟩, -, X7, ⟨Lc7, hQ7, l7, y7, z7⟩, st7⟩ := Jvm.LawKit.callS X0 hx (y := (⟨"java/lang/StringLatin1", "indexOf", "([BI[BII)I"⟩ : MethodName)) hown (mvT hZ (own_w hw 92 rfl)) (mvT hZ (own_w hw 93 rfl)) (mvT hZ (own_w hw 90 rfl)) (mvT hZ (own_w hw 94 rfl)) (by decide) (backOf (W := 0) (rm16r1y l Z a0 hw [] a1 a2 k9 k8 x0 h0 n0 O0 HV_a1 HV_a2 h21_hc27) hZ (own_w hw 94 rfl) (own_w hw 90 rfl) (by decide) (by decide)) (g := (mkF m 21 #[.val (.ref a1), .val (.ref a2)] [(.int 0), (.int 1), (.ref a2), (.int 1), (.ref a1)])) rfl (by rw [hml]; rfl) (argsL := [(.ref a1), (.int 1), (.ref a2), (.int 1), (.int 0)]) (rest := []) (lenOf pd_33 rfl) rfl (by show 2 * 0 + _ ≤ _; exact Nat.le_of_eq rfl) (d15 hby 15 rfl) (fun _ _ => ⟨rfl, e0, (by decide : 0 + 0 ≤ _), (by decide : 0 + 0 ≤ _)⟩)
  dsimp only [Pt.U, Pt.locs, Pt.cells, Pt.slots] at X7 l7 y7 z7 st7 hQ7
  subst l7 y7 z7
  obtain ⟨rfl, N7q, e7⟩ := hQ7
  have N7 := Fr.app N0 N7q
  replace X7 := X7.more (cells' := 0) (slots' := 0) (by decide) (by decide)
  refine ⟨T7, _, _, _, some (.int 0), X7, by decide, by decide, nofun, ?_, fun fs hr => castTop (ef_15 m a1 a2) ?_⟩
  · show Q15r1y Z a1 a2 k9 k8 x0 h0 n0 _ T7.heap _
    rw [e7]
    exact ⟨rfl, N7, rfl⟩
  · show Steps p.tables e below (s₁.setTop (mkF m 0 #[.val (.ref a1), .val (.ref a2)] [])) _
    refine XS.aloadN X0.here hx rfl (d15 hby 0 rfl) rfl rfl ?_
    show Steps p.tables e below (s₁.setTop (mkF m 1 #[.val (.ref a1), .val (.ref a2)] [(.ref a2)])) _
    refine X0.arraylength hx (by rw [e0]; exact Ar3.1) (State.isArrayOf_alike hZ.alike Ar3.2.1) (g := (mkF m 1 #[.val (.ref a1), .val (.ref a2)] [(.ref a2)])) rfl rfl (d15 hby 1 rfl) _ ?_
    rw [len_of S3 Nn3]
    refine XS.ifYes X0.here hx rfl (pc0 := 2) (pc' := 7) rfl (d15 hby 2 rfl) rfl ((if0 _ _).trans (feq (by decide : ¬ ((1 : Int32) = (0 : Int32)))).2) (by decide) (by decide) ?_
    refine XS.aloadN X0.here hx rfl (d15 hby 3 rfl) rfl rfl ?_
    show Steps p.tables e below (s₁.setTop (mkF m 8 #[.val (.ref a1), .val (.ref a2)] [(.ref a1)])) _
    refine X0.arraylength hx (by rw [e0]; exact Ar4.1) (State.isArrayOf_alike hZ.alike Ar4.2.1) (g := (mkF m 8 #[.val (.ref a1), .val (.ref a2)] [(.ref a1)])) rfl rfl (d15 hby 4 rfl) _ ?_
    rw [len_of S4 Nn4]
    refine XS.ifYes X0.here hx rfl (pc0 := 9) (pc' := 14) rfl (d15 hby 5 rfl) rfl ((if0 _ _).trans (feq (by decide : ¬ ((1 : Int32) = (0 : Int32)))).2) (by decide) (by decide) ?_
    refine XS.aloadN X0.here hx rfl (d15 hby 8 rfl) rfl rfl ?_
    refine XS.aloadN X0.here hx rfl (d15 hby 9 rfl) rfl rfl ?_
    show Steps p.tables e below (s₁.setTop (mkF m 16 #[.val (.ref a1), .val (.ref a2)] [(.ref a1), (.ref a1)])) _
    refine X0.arraylength hx (by rw [e0]; exact Ar5.1) (State.isArrayOf_alike hZ.alike Ar5.2.1) (g := (mkF m 16 #[.val (.ref a1), .val (.ref a2)] [(.ref a1), (.ref a1)])) rfl rfl (d15 hby 10 rfl) _ ?_
    rw [len_of S5 Nn5]
    refine XS.aloadN X0.here hx rfl (d15 hby 11 rfl) rfl rfl ?_
    refine XS.aloadN X0.here hx rfl (d15 hby 12 rfl) rfl rfl ?_
    show Steps p.tables e below (s₁.setTop (mkF m 19 #[.val (.ref a1), .val (.ref a2)] [(.ref a2), (.ref a2), (.int 1), (.ref a1)])) _
    refine X0.arraylength hx (by rw [e0]; exact Ar6.1) (State.isArrayOf_alike hZ.alike Ar6.2.1) (g := (mkF m 19 #[.val (.ref a1), .val (.ref a2)] [(.ref a2), (.ref a2), (.int 1), (.ref a1)])) rfl rfl (d15 hby 13 rfl) _ ?_
    rw [len_of S6 Nn6]
    refine XS.iconst X0.here hx rfl (d15 hby 14 rfl) ?_
    refine st7 _ ?_
    exact own_retI X7 hx hret (d15 hby 16 rfl) hr
def Q16r1n (Z : State) (a1 a2 : Addr) (k9 k8 : ClassId) (x0 : Int32) (h0 : Heap) (n0 : Nat) (v : Option Value) (h : Heap) (L : List Loc) : Prop := v = some (.int (-1 : Int32)) ∧ Fr n0 L ∧ h = h0
theorem rm16r1n (l : Launch) (Z : State) (a0 : Array Value) (hw : ∀ d ∈ tables_1, d.before a0 Z = true) (ws : List Jvm.Cond) (a1 a2 : Addr) (k9 k8 : ClassId) (x0 : Int32) (h0 : Heap) (n0 : Nat) (O0 : Old Z n0 h0) (HV_a1 : Arv Z h0 a1 k9 .byte (1 : Int32) [(.int x0)] (.int 0)) (HV_a2 : Arv Z h0 a2 k8 .byte (1 : Int32) [(.int 58)] (.int 0)) (hc27 : ¬ (x0 = (58 : Int32))) :
    own_C l Z (⟨"java/lang/StringLatin1", "indexOf", "([BI[BII)I"⟩ : MethodName) jdk_43_method_25_code 11 (some .int) ws ({ frames := 0, cells := 0, slots := 0, locals := 0 } : Room) #[(.ref a1), (.int 1), (.ref a2), (.int 1), (.int 0)] h0 (Q16r1n Z a1 a2 k9 k8 x0 h0 n0) := by
  refine own_intro (plainFor_of_name pnc_java_lang_StringLatin1) fun p e s m below meth c s₁ hx hby hml hown hnm hZ e0 hret X0 => ?_
  have N0 := Fr.nil n0
  have Z0 : n0 ≤ h0.size := O0.1 ▸ O0.2.1
  obtain ⟨cl3, Ar3, q3, S3, Nn3, Hh3, G3⟩ := id HV_a2
  have hin3 : ¬ ((0 : Int32) < 0 ∨ cl3.slots.size ≤ ((0 : Int32)).toNatClampNeg) := inb_of S3 ⟨by decide, by decide⟩
  have hat3 : cl3.slots[((0 : Int32)).toNatClampNeg]? = some (.int 58) := Has.at Hh3 hin3 rfl
  obtain ⟨cl4, Ar4, q4, S4, Nn4, Hh4, G4⟩ := id HV_a1
  have hin4 : ¬ ((0 : Int32) < 0 ∨ cl4.slots.size ≤ ((0 : Int32)).toNatClampNeg) := inb_of S4 ⟨by decide, by decide⟩
  have hat4 : cl4.slots[((0 : Int32)).toNatClampNeg]? = some (.int x0) := Has.at Hh4 hin4 rfl
  refine ⟨s₁, _, _, _, some (.int (-1 : Int32)), X0, by decide, by decide, nofun, ?_, fun fs hr => castTop (ef_16a__1___Int32__a__1___Int32____0___Int32__ m a1 a2) ?_⟩
  · show Q16r1n Z a1 a2 k9 k8 x0 h0 n0 _ s₁.heap _
    rw [e0]
    exact ⟨rfl, N0, rfl⟩
  · show Steps p.tables e below (s₁.setTop (mkF m 0 #[.val (.ref a1), .val (.int 1), .val (.ref a2), .val (.int 1), .val (.int 0), .unset, .unset, .unset, .unset, .unset, .unset] [])) _
    refine XS.aloadN X0.here hx rfl (d16 hby 0 rfl) rfl rfl ?_
    refine XS.iconst X0.here hx rfl (d16 hby 1 rfl) ?_
    show Steps p.tables e below (s₁.setTop (mkF m 2 #[.val (.ref a1), .val (.int 1), .val (.ref a2), .val (.int 1), .val (.int 0), .unset, .unset, .unset, .unset, .unset, .unset] [(.int 0), (.ref a2)])) _
    refine X0.baloadBytes hx (j := (0 : Int32)) (v := (.int 58)) (by rw [e0]; exact Ar3.1) (State.isArrayOf_alike hZ.alike Ar3.2.1) Ar3.2.2 hin3 hat3 (g := (mkF m 2 #[.val (.ref a1), .val (.int 1), .val (.ref a2), .val (.int 1), .val (.int 0), .unset, .unset, .unset, .unset, .unset, .unset] [(.int 0), (.ref a2)])) rfl rfl (d16 hby 2 rfl) _ ?_
    refine XS.istore X0.here hx rfl (d16 hby 3 rfl) rfl (l' := #[.val (.ref a1), .val (.int 1), .val (.ref a2), .val (.int 1), .val (.int 0), .val (.int 58), .unset, .unset, .unset, .unset, .unset]) rfl ?_
    refine XS.iloadN X0.here hx rfl (d16 hby 4 rfl) rfl ?_
    refine XS.iloadN X0.here hx rfl (d16 hby 5 rfl) rfl ?_
    refine XS.isub X0.here hx rfl (d16 hby 6 rfl) rfl ?_
    refine XS.istore X0.here hx rfl (d16 hby 7 rfl) rfl (l' := #[.val (.ref a1), .val (.int 1), .val (.ref a2), .val (.int 1), .val (.int 0), .val (.int 58), .val (.int 0), .unset, .unset, .unset, .unset]) rfl ?_
    refine XS.iload X0.here hx rfl (d16 hby 8 rfl) rfl ?_
    show Steps p.tables e below (s₁.setTop (mkF m 12 #[.val (.ref a1), .val (.int 1), .val (.ref a2), .val (.int 1), .val (.int 0), .val (.int 58), .val (.int 0), .unset, .unset, .unset, .unset] [(.int 0)])) _
    refine XS.istore X0.here hx rfl (d16 hby 9 rfl) rfl (l' := #[.val (.ref a1), .val (.int 1), .val (.ref a2), .val (.int 1), .val (.int 0), .val (.int 58), .val (.int 0), .val (.int 0), .unset, .unset, .unset]) rfl ?_
    refine XS.iload X0.here hx rfl (d16 hby 10 rfl) rfl ?_
    refine XS.iload X0.here hx rfl (d16 hby 11 rfl) rfl ?_
    refine XS.icmpNo X0.here hx rfl (d16 hby 12 rfl) rfl (flt (by decide : ¬ ((0 : Int32) < (0 : Int32)))).2.2.1 ?_
    refine XS.aloadN X0.here hx rfl (d16 hby 13 rfl) rfl rfl ?_
    refine XS.iload X0.here hx rfl (d16 hby 14 rfl) rfl ?_
    show Steps p.tables e below (s₁.setTop (mkF m 24 #[.val (.ref a1), .val (.int 1), .val (.ref a2), .val (.int 1), .val (.int 0), .val (.int 58), .val (.int 0), .val (.int 0), .unset, .unset, .unset] [(.int 0), (.ref a1)])) _
    refine X0.baloadBytes hx (j := (0 : Int32)) (v := (.int x0)) (by rw [e0]; exact Ar4.1) (State.isArrayOf_alike hZ.alike Ar4.2.1) Ar4.2.2 hin4 hat4 (g := (mkF m 24 #[.val (.ref a1), .val (.int 1), .val (.ref a2), .val (.int 1), .val (.int 0), .val (.int 58), .val (.int 0), .val (.int 0), .unset, .unset, .unset] [(.int 0), (.ref a1)])) rfl rfl (d16 hby 15 rfl) _ ?_
    refine XS.iload X0.here hx rfl (d16 hby 16 rfl) rfl ?_
    refine XS.icmpNo X0.here hx rfl (d16 hby 17 rfl) rfl (feq hc27).1 ?_
    refine XS.iinc X0.here hx rfl (d16 hby 41 rfl) rfl (l' := #[.val (.ref a1), .val (.int 1), .val (.ref a2), .val (.int 1), .val (.int 0), .val (.int 58), .val (.int 0), .val (.int 1), .unset, .unset, .unset]) rfl ?_
    refine XS.iload X0.here hx rfl (d16 hby 42 rfl) rfl ?_
    refine XS.iload X0.here hx rfl (d16 hby 43 rfl) rfl ?_
    refine XS.icmpYes X0.here hx rfl (pc0 := 37) (pc' := 52) rfl (d16 hby 44 rfl) rfl (tlt (by decide : (0 : Int32) < (1 : Int32))).2.2.1 (by decide) (by decide) ?_
    show Steps p.tables e below (s₁.setTop (mkF m 52 #[.val (.ref a1), .val (.int 1), .val (.ref a2), .val (.int 1), .val (.int 0), .val (.int 58), .val (.int 0), .val (.int 1), .unset, .unset, .unset] [])) _
    refine XS.iload X0.here hx rfl (d16 hby 18 rfl) rfl ?_
    refine XS.iload X0.here hx rfl (d16 hby 19 rfl) rfl ?_
    refine XS.icmpYes X0.here hx rfl (pc0 := 56) (pc' := 113) rfl (d16 hby 20 rfl) rfl (tlt (by decide : (0 : Int32) < (1 : Int32))).2.2.1 (by decide) (by decide) ?_
    refine XS.iinc X0.here hx rfl (d16 hby 45 rfl) rfl (l' := #[.val (.ref a1), .val (.int 1), .val (.ref a2), .val (.int 1), .val (.int 0), .val (.int 58), .val (.int 0), .val (.int 2), .unset, .unset, .unset]) rfl ?_
    refine XS.goto X0.here hx rfl (pc0 := 116) (pc' := 14) rfl (d16 hby 46 rfl) (by decide) (by decide) ?_
    refine XS.iload X0.here hx rfl (d16 hby 10 rfl) rfl ?_
    refine XS.iload X0.here hx rfl (d16 hby 11 rfl) rfl ?_
    show Steps p.tables e below (s₁.setTop (mkF m 18 #[.val (.ref a1), .val (.int 1), .val (.ref a2), .val (.int 1), .val (.int 0), .val (.int 58), .val (.int 0), .val (.int 2), .unset, .unset, .unset] [(.int 0), (.int 2)])) _
    refine XS.icmpYes X0.here hx rfl (pc0 := 18) (pc' := 119) rfl (d16 hby 12 rfl) rfl (tlt (by decide : (0 : Int32) < (2 : Int32))).2.2.1 (by decide) (by decide) ?_
    refine XS.iconst X0.here hx rfl (d16 hby 47 rfl) ?_
    exact own_retI X0 hx hret (d16 hby 48 rfl) hr
def Q15r1n (Z : State) (a1 a2 : Addr) (k9 k8 : ClassId) (x0 : Int32) (h0 : Heap) (n0 : Nat) (v : Option Value) (h : Heap) (L : List Loc) : Prop := v = some (.int (-1 : Int32)) ∧ Fr n0 L ∧ h = h0
theorem rm15r1n (l : Launch) (Z : State) (a0 : Array Value) (hw : ∀ d ∈ tables_1, d.before a0 Z = true) (ws : List Jvm.Cond) (a1 a2 : Addr) (k9 k8 : ClassId) (x0 : Int32) (h0 : Heap) (n0 : Nat) (O0 : Old Z n0 h0) (HV_a1 : Arv Z h0 a1 k9 .byte (1 : Int32) [(.int x0)] (.int 0)) (HV_a2 : Arv Z h0 a2 k8 .byte (1 : Int32) [(.int 58)] (.int 0)) (h21_hc27 : ¬ (x0 = (58 : Int32))) :
    own_C l Z (⟨"java/lang/StringLatin1", "indexOf", "([B[B)I"⟩ : MethodName) jdk_43_method_24_code 2 (some .int) ws ({ frames := 2, cells := 0, slots := 0, locals := 50 } : Room) #[(.ref a1), (.ref a2)] h0 (Q15r1n Z a1 a2 k9 k8 x0 h0 n0) := by
  refine own_intro (plainFor_of_name pnc_java_lang_StringLatin1) fun p e s m below meth c s₁ hx hby hml hown hnm hZ e0 hret X0 => ?_
  have N0 := Fr.nil n0
  have Z0 : n0 ≤ h0.size := O0.1 ▸ O0.2.1
  obtain ⟨cl3, Ar3, q3, S3, Nn3, Hh3, G3⟩ := id HV_a2
  obtain ⟨cl4, Ar4, q4, S4, Nn4, Hh4, G4⟩ := id HV_a1
  obtain ⟨cl5, Ar5, q5, S5, Nn5, Hh5, G5⟩ := id HV_a1
  obtain ⟨cl6, Ar6, q6, S6, Nn6, Hh6, G6⟩ := id HV_a2
  obtain ⟨vr7, _, ⟨T7, L7, k7, n7⟩, -, X7, ⟨Lc7, hQ7, l7, y7, z7⟩, st7⟩ := Jvm.LawKit.callS X0 hx (y := (⟨"java/lang/StringLatin1", "indexOf", "([BI[BII)I"⟩ : MethodName)) hown (mvT hZ (own_w hw 92 rfl)) (mvT hZ (own_w hw 93 rfl)) (mvT hZ (own_w hw 90 rfl)) (mvT hZ (own_w hw 94 rfl)) (by decide) (backOf (W := 0) (rm16r1n l Z a0 hw [] a1 a2 k9 k8 x0 h0 n0 O0 HV_a1 HV_a2 h21_hc27) hZ (own_w hw 94 rfl) (own_w hw 90 rfl) (by decide) (by decide)) (g := (mkF m 21 #[.val (.ref a1), .val (.ref a2)] [(.int 0), (.int 1), (.ref a2), (.int 1), (.ref a1)])) rfl (by rw [hml]; rfl) (argsL := [(.ref a1), (.int 1), (.ref a2), (.int 1), (.int 0)]) (rest := []) (lenOf pd_33 rfl) rfl (by show 2 * 0 + _ ≤ _; exact Nat.le_of_eq rfl) (d15 hby 15 rfl) (fun _ _ => ⟨rfl, e0, (by decide : 0 + 0 ≤ _), (by decide : 0 + 0 ≤ _)⟩)
  dsimp only [Pt.U, Pt.locs, Pt.cells, Pt.slots] at X7 l7 y7 z7 st7 hQ7
  subst l7 y7 z7
  obtain ⟨rfl, N7q, e7⟩ := hQ7
  have N7 := Fr.app N0 N7q
  replace X7 := X7.more (cells' := 0) (slots' := 0) (by decide) (by decide)
  refine ⟨T7, _, _, _, some (.int (-1 : Int32)), X7, by decide, by decide, nofun, ?_, fun fs hr => castTop (ef_15 m a1 a2) ?_⟩
  · show Q15r1n Z a1 a2 k9 k8 x0 h0 n0 _ T7.heap _
    rw [e7]
    exact ⟨rfl, N7, rfl⟩
  · show Steps p.tables e below (s₁.setTop (mkF m 0 #[.val (.ref a1), .val (.ref a2)] [])) _
    refine XS.aloadN X0.here hx rfl (d15 hby 0 rfl) rfl rfl ?_
    show Steps p.tables e below (s₁.setTop (mkF m 1 #[.val (.ref a1), .val (.ref a2)] [(.ref a2)])) _
    refine X0.arraylength hx (by rw [e0]; exact Ar3.1) (State.isArrayOf_alike hZ.alike Ar3.2.1) (g := (mkF m 1 #[.val (.ref a1), .val (.ref a2)] [(.ref a2)])) rfl rfl (d15 hby 1 rfl) _ ?_
    rw [len_of S3 Nn3]
    refine XS.ifYes X0.here hx rfl (pc0 := 2) (pc' := 7) rfl (d15 hby 2 rfl) rfl ((if0 _ _).trans (feq (by decide : ¬ ((1 : Int32) = (0 : Int32)))).2) (by decide) (by decide) ?_
    refine XS.aloadN X0.here hx rfl (d15 hby 3 rfl) rfl rfl ?_
    show Steps p.tables e below (s₁.setTop (mkF m 8 #[.val (.ref a1), .val (.ref a2)] [(.ref a1)])) _
    refine X0.arraylength hx (by rw [e0]; exact Ar4.1) (State.isArrayOf_alike hZ.alike Ar4.2.1) (g := (mkF m 8 #[.val (.ref a1), .val (.ref a2)] [(.ref a1)])) rfl rfl (d15 hby 4 rfl) _ ?_
    rw [len_of S4 Nn4]
    refine XS.ifYes X0.here hx rfl (pc0 := 9) (pc' := 14) rfl (d15 hby 5 rfl) rfl ((if0 _ _).trans (feq (by decide : ¬ ((1 : Int32) = (0 : Int32)))).2) (by decide) (by decide) ?_
    refine XS.aloadN X0.here hx rfl (d15 hby 8 rfl) rfl rfl ?_
    refine XS.aloadN X0.here hx rfl (d15 hby 9 rfl) rfl rfl ?_
    show Steps p.tables e below (s₁.setTop (mkF m 16 #[.val (.ref a1), .val (.ref a2)] [(.ref a1), (.ref a1)])) _
    refine X0.arraylength hx (by rw [e0]; exact Ar5.1) (State.isArrayOf_alike hZ.alike Ar5.2.1) (g := (mkF m 16 #[.val (.ref a1), .val (.ref a2)] [(.ref a1), (.ref a1)])) rfl rfl (d15 hby 10 rfl) _ ?_
    rw [len_of S5 Nn5]
    refine XS.aloadN X0.here hx rfl (d15 hby 11 rfl) rfl rfl ?_
    refine XS.aloadN X0.here hx rfl (d15 hby 12 rfl) rfl rfl ?_
    show Steps p.tables e below (s₁.setTop (mkF m 19 #[.val (.ref a1), .val (.ref a2)] [(.ref a2), (.ref a2), (.int 1), (.ref a1)])) _
    refine X0.arraylength hx (by rw [e0]; exact Ar6.1) (State.isArrayOf_alike hZ.alike Ar6.2.1) (g := (mkF m 19 #[.val (.ref a1), .val (.ref a2)] [(.ref a2), (.ref a2), (.int 1), (.ref a1)])) rfl rfl (d15 hby 13 rfl) _ ?_
    rw [len_of S6 Nn6]
    refine XS.iconst X0.here hx rfl (d15 hby 14 rfl) ?_
    refine st7 _ ?_
    exact own_retI X7 hx hret (d15 hby 16 rfl) hr
def Q16r2a (Z : State) (a1 a2 : Addr) (k9 k8 : ClassId) (x0 x1 : Int32) (h0 : Heap) (n0 : Nat) (v : Option Value) (h : Heap) (L : List Loc) : Prop := v = some (.int 0) ∧ Fr n0 L ∧ h = h0
theorem ef_16a__2___Int32__a__1___Int32____0___Int32__ (m : MethodId) (x0 : Addr) (x2 : Addr) : entryFrame m #[(.ref x0), (.int 2), (.ref x2), (.int 1), (.int 0)] 11 = mkF m 0 #[.val (.ref x0), .val (.int 2), .val (.ref x2), .val (.int 1), .val (.int 0), .unset, .unset, .unset, .unset, .unset, .unset] [] := by first | (simp [entryFrame, mkF, argsToLocals, Value.category]; done) | rfl
theorem rm16r2a (l : Launch) (Z : State) (a0 : Array Value) (hw : ∀ d ∈ tables_1, d.before a0 Z = true) (ws : List Jvm.Cond) (a1 a2 : Addr) (k9 k8 : ClassId) (x0 x1 : Int32) (h0 : Heap) (n0 : Nat) (O0 : Old Z n0 h0) (HV_a1 : Arv Z h0 a1 k9 .byte (2 : Int32) [(.int x0), (.int x1)] (.int 0)) (HV_a2 : Arv Z h0 a2 k8 .byte (1 : Int32) [(.int 58)] (.int 0)) (hc27 : x0 = (58 : Int32)) :
    own_C l Z (⟨"java/lang/StringLatin1", "indexOf", "([BI[BII)I"⟩ : MethodName) jdk_43_method_25_code 11 (some .int) ws ({ frames := 0, cells := 0, slots := 0, locals := 0 } : Room) #[(.ref a1), (.int 2), (.ref a2), (.int 1), (.int 0)] h0 (Q16r2a Z a1 a2 k9 k8 x0 x1 h0 n0) := by
  refine own_intro (plainFor_of_name pnc_java_lang_StringLatin1) fun p e s m below meth c s₁ hx hby hml hown hnm hZ e0 hret X0 => ?_
  have N0 := Fr.nil n0
  have Z0 : n0 ≤ h0.size := O0.1 ▸ O0.2.1
  obtain ⟨cl3, Ar3, q3, S3, Nn3, Hh3, G3⟩ := id HV_a2
  have hin3 : ¬ ((0 : Int32) < 0 ∨ cl3.slots.size ≤ ((0 : Int32)).toNatClampNeg) := inb_of S3 ⟨by decide, by decide⟩
  have hat3 : cl3.slots[((0 : Int32)).toNatClampNeg]? = some (.int 58) := Has.at Hh3 hin3 rfl
  obtain ⟨cl4, Ar4, q4, S4, Nn4, Hh4, G4⟩ := id HV_a1
  have hin4 : ¬ ((0 : Int32) < 0 ∨ cl4.slots.size ≤ ((0 : Int32)).toNatClampNeg) := inb_of S4 ⟨by decide, by decide⟩
  have hat4 : cl4.slots[((0 : Int32)).toNatClampNeg]? = some (.int x0) := Has.at Hh4 hin4 rfl
  refine ⟨s₁, _, _, _, some (.int 0), X0, by decide, by decide, nofun, ?_, fun fs hr => castTop (ef_16a__2___Int32__a__1___Int32____0___Int32__ m a1 a2) ?_⟩
  · show Q16r2a Z a1 a2 k9 k8 x0 x1 h0 n0 _ s₁.heap _
    rw [e0]
    exact ⟨rfl, N0, rfl⟩
  · show Steps p.tables e below (s₁.setTop (mkF m 0 #[.val (.ref a1), .val (.int 2), .val (.ref a2), .val (.int 1), .val (.int 0), .unset, .unset, .unset, .unset, .unset, .unset] [])) _
    refine XS.aloadN X0.here hx rfl (d16 hby 0 rfl) rfl rfl ?_
    refine XS.iconst X0.here hx rfl (d16 hby 1 rfl) ?_
    show Steps p.tables e below (s₁.setTop (mkF m 2 #[.val (.ref a1), .val (.int 2), .val (.ref a2), .val (.int 1), .val (.int 0), .unset, .unset, .unset, .unset, .unset, .unset] [(.int 0), (.ref a2)])) _
    refine X0.baloadBytes hx (j := (0 : Int32)) (v := (.int 58)) (by rw [e0]; exact Ar3.1) (State.isArrayOf_alike hZ.alike Ar3.2.1) Ar3.2.2 hin3 hat3 (g := (mkF m 2 #[.val (.ref a1), .val (.int 2), .val (.ref a2), .val (.int 1), .val (.int 0), .unset, .unset, .unset, .unset, .unset, .unset] [(.int 0), (.ref a2)])) rfl rfl (d16 hby 2 rfl) _ ?_
    refine XS.istore X0.here hx rfl (d16 hby 3 rfl) rfl (l' := #[.val (.ref a1), .val (.int 2), .val (.ref a2), .val (.int 1), .val (.int 0), .val (.int 58), .unset, .unset, .unset, .unset, .unset]) rfl ?_
    refine XS.iloadN X0.here hx rfl (d16 hby 4 rfl) rfl ?_
    refine XS.iloadN X0.here hx rfl (d16 hby 5 rfl) rfl ?_
    refine XS.isub X0.here hx rfl (d16 hby 6 rfl) rfl ?_
    refine XS.istore X0.here hx rfl (d16 hby 7 rfl) rfl (l' := #[.val (.ref a1), .val (.int 2), .val (.ref a2), .val (.int 1), .val (.int 0), .val (.int 58), .val (.int 1), .unset, .unset, .unset, .unset]) rfl ?_
    refine XS.iload X0.here hx rfl (d16 hby 8 rfl) rfl ?_
    show Steps p.tables e below (s₁.setTop (mkF m 12 #[.val (.ref a1), .val (.int 2), .val (.ref a2), .val (.int 1), .val (.int 0), .val (.int 58), .val (.int 1), .unset, .unset, .unset, .unset] [(.int 0)])) _
    refine XS.istore X0.here hx rfl (d16 hby 9 rfl) rfl (l' := #[.val (.ref a1), .val (.int 2), .val (.ref a2), .val (.int 1), .val (.int 0), .val (.int 58), .val (.int 1), .val (.int 0), .unset, .unset, .unset]) rfl ?_
    refine XS.iload X0.here hx rfl (d16 hby 10 rfl) rfl ?_
    refine XS.iload X0.here hx rfl (d16 hby 11 rfl) rfl ?_
    refine XS.icmpNo X0.here hx rfl (d16 hby 12 rfl) rfl (flt (by decide : ¬ ((1 : Int32) < (0 : Int32)))).2.2.1 ?_
    refine XS.aloadN X0.here hx rfl (d16 hby 13 rfl) rfl rfl ?_
    refine XS.iload X0.here hx rfl (d16 hby 14 rfl) rfl ?_
    show Steps p.tables e below (s₁.setTop (mkF m 24 #[.val (.ref a1), .val (.int 2), .val (.ref a2), .val (.int 1), .val (.int 0), .val (.int 58), .val (.int 1), .val (.int 0), .unset, .unset, .unset] [(.int 0), (.ref a1)])) _
    refine X0.baloadBytes hx (j := (0 : Int32)) (v := (.int x0)) (by rw [e0]; exact Ar4.1) (State.isArrayOf_alike hZ.alike Ar4.2.1) Ar4.2.2 hin4 hat4 (g := (mkF m 24 #[.val (.ref a1), .val (.int 2), .val (.ref a2), .val (.int 1), .val (.int 0), .val (.int 58), .val (.int 1), .val (.int 0), .unset, .unset, .unset] [(.int 0), (.ref a1)])) rfl rfl (d16 hby 15 rfl) _ ?_
    refine XS.iload X0.here hx rfl (d16 hby 16 rfl) rfl ?_
    refine XS.icmpYes X0.here hx rfl (pc0 := 27) (pc' := 52) rfl (d16 hby 17 rfl) rfl (teq hc27).1 (by decide) (by decide) ?_
    refine XS.iload X0.here hx rfl (d16 hby 18 rfl) rfl ?_
    refine XS.iload X0.here hx rfl (d16 hby 19 rfl) rfl ?_
    refine XS.icmpNo X0.here hx rfl (d16 hby 20 rfl) rfl (flt (by decide : ¬ ((1 : Int32) < (0 : Int32)))).2.2.1 ?_
    refine XS.iload X0.here hx rfl (d16 hby 21 rfl) rfl ?_
    show Steps p.tables e below (s₁.setTop (mkF m 61 #[.val (.ref a1), .val (.int 2), .val (.ref a2), .val (.int 1), .val (.int 0), .val (.int 58), .val (.int 1), .val (.int 0), .unset, .unset, .unset] [(.int 0)])) _
    refine XS.iconst X0.here hx rfl (d16 hby 22 rfl) ?_
    refine XS.iadd X0.here hx rfl (d16 hby 23 rfl) rfl ?_
    refine XS.istore X0.here hx rfl (d16 hby 24 rfl) rfl (l' := #[.val (.ref a1), .val (.int 2), .val (.ref a2), .val (.int 1), .val (.int 0), .val (.int 58), .val (.int 1), .val (.int 0), .val (.int 1), .unset, .unset]) rfl ?_
    refine XS.iload X0.here hx rfl (d16 hby 25 rfl) rfl ?_
    refine XS.iloadN X0.here hx rfl (d16 hby 26 rfl) rfl ?_
    refine XS.iadd X0.here hx rfl (d16 hby 27 rfl) rfl ?_
    refine XS.iconst X0.here hx rfl (d16 hby 28 rfl) ?_
    show Steps p.tables e below (s₁.setTop (mkF m 70 #[.val (.ref a1), .val (.int 2), .val (.ref a2), .val (.int 1), .val (.int 0), .val (.int 58), .val (.int 1), .val (.int 0), .val (.int 1), .unset, .unset] [(.int 1), (.int 2)])) _
    refine XS.isub X0.here hx rfl (d16 hby 29 rfl) rfl ?_
    refine XS.istore X0.here hx rfl (d16 hby 30 rfl) rfl (l' := #[.val (.ref a1), .val (.int 2), .val (.ref a2), .val (.int 1), .val (.int 0), .val (.int 58), .val (.int 1), .val (.int 0), .val (.int 1), .val (.int 1), .unset]) rfl ?_
    refine XS.iconst X0.here hx rfl (d16 hby 31 rfl) ?_
    refine XS.istore X0.here hx rfl (d16 hby 32 rfl) rfl (l' := #[.val (.ref a1), .val (.int 2), .val (.ref a2), .val (.int 1), .val (.int 0), .val (.int 58), .val (.int 1), .val (.int 0), .val (.int 1), .val (.int 1), .val (.int 1)]) rfl ?_
    refine XS.iload X0.here hx rfl (d16 hby 33 rfl) rfl ?_
    refine XS.iload X0.here hx rfl (d16 hby 34 rfl) rfl ?_
    refine XS.icmpYes X0.here hx rfl (pc0 := 80) (pc' := 103) rfl (d16 hby 35 rfl) rfl (flt (by decide : ¬ ((1 : Int32) < (1 : Int32)))).2.1 (by decide) (by decide) ?_
    show Steps p.tables e below (s₁.setTop (mkF m 103 #[.val (.ref a1), .val (.int 2), .val (.ref a2), .val (.int 1), .val (.int 0), .val (.int 58), .val (.int 1), .val (.int 0), .val (.int 1), .val (.int 1), .val (.int 1)] [])) _
    refine XS.iload X0.here hx rfl (d16 hby 36 rfl) rfl ?_
    refine XS.iload X0.here hx rfl (d16 hby 37 rfl) rfl ?_
    refine XS.icmpNo X0.here hx rfl (d16 hby 38 rfl) rfl (teq (by decide : (1 : Int32) = (1 : Int32))).2 ?_
    refine XS.iload X0.here hx rfl (d16 hby 39 rfl) rfl ?_
    exact own_retI X0 hx hret (d16 hby 40 rfl) hr
def Q15r2a (Z : State) (a1 a2 : Addr) (k9 k8 : ClassId) (x0 x1 : Int32) (h0 : Heap) (n0 : Nat) (v : Option Value) (h : Heap) (L : List Loc) : Prop := v = some (.int 0) ∧ Fr n0 L ∧ h = h0
theorem rm15r2a (l : Launch) (Z : State) (a0 : Array Value) (hw : ∀ d ∈ tables_1, d.before a0 Z = true) (ws : List Jvm.Cond) (a1 a2 : Addr) (k9 k8 : ClassId) (x0 x1 : Int32) (h0 : Heap) (n0 : Nat) (O0 : Old Z n0 h0) (HV_a1 : Arv Z h0 a1 k9 .byte (2 : Int32) [(.int x0), (.int x1)] (.int 0)) (HV_a2 : Arv Z h0 a2 k8 .byte (1 : Int32) [(.int 58)] (.int 0)) (h21_hc27 : x0 = (58 : Int32)) :
    own_C l Z (⟨"java/lang/StringLatin1", "indexOf", "([B[B)I"⟩ : MethodName) jdk_43_method_24_code 2 (some .int) ws ({ frames := 2, cells := 0, slots := 0, locals := 50 } : Room) #[(.ref a1), (.ref a2)] h0 (Q15r2a Z a1 a2 k9 k8 x0 x1 h0 n0) := by
  refine own_intro (plainFor_of_name pnc_java_lang_StringLatin1) fun p e s m below meth c s₁ hx hby hml hown hnm hZ e0 hret X0 => ?_
  have N0 := Fr.nil n0
  have Z0 : n0 ≤ h0.size := O0.1 ▸ O0.2.1
  obtain ⟨cl3, Ar3, q3, S3, Nn3, Hh3, G3⟩ := id HV_a2
  obtain ⟨cl4, Ar4, q4, S4, Nn4, Hh4, G4⟩ := id HV_a1
  obtain ⟨cl5, Ar5, q5, S5, Nn5, Hh5, G5⟩ := id HV_a1
  obtain ⟨cl6, Ar6, q6, S6, Nn6, Hh6, G6⟩ := id HV_a2
  obtain ⟨vr7, _, ⟨T7, L7, k7, n7⟩, -, X7, ⟨Lc7, hQ7, l7, y7, z7⟩, st7⟩ := Jvm.LawKit.callS X0 hx (y := (⟨"java/lang/StringLatin1", "indexOf", "([BI[BII)I"⟩ : MethodName)) hown (mvT hZ (own_w hw 92 rfl)) (mvT hZ (own_w hw 93 rfl)) (mvT hZ (own_w hw 90 rfl)) (mvT hZ (own_w hw 94 rfl)) (by decide) (backOf (W := 0) (rm16r2a l Z a0 hw [] a1 a2 k9 k8 x0 x1 h0 n0 O0 HV_a1 HV_a2 h21_hc27) hZ (own_w hw 94 rfl) (own_w hw 90 rfl) (by decide) (by decide)) (g := (mkF m 21 #[.val (.ref a1), .val (.ref a2)] [(.int 0), (.int 1), (.ref a2), (.int 2), (.ref a1)])) rfl (by rw [hml]; rfl) (argsL := [(.ref a1), (.int 2), (.ref a2), (.int 1), (.int 0)]) (rest := []) (lenOf pd_33 rfl) rfl (by show 2 * 0 + _ ≤ _; exact Nat.le_of_eq rfl) (d15 hby 15 rfl) (fun _ _ => ⟨rfl, e0, (by decide : 0 + 0 ≤ _), (by decide : 0 + 0 ≤ _)⟩)
  dsimp only [Pt.U, Pt.locs, Pt.cells, Pt.slots] at X7 l7 y7 z7 st7 hQ7
  subst l7 y7 z7
  obtain ⟨rfl, N7q, e7⟩ := hQ7
  have N7 := Fr.app N0 N7q
  replace X7 := X7.more (cells' := 0) (slots' := 0) (by decide) (by decide)
  refine ⟨T7, _, _, _, some (.int 0), X7, by decide, by decide, nofun, ?_, fun fs hr => castTop (ef_15 m a1 a2) ?_⟩
  · show Q15r2a Z a1 a2 k9 k8 x0 x1 h0 n0 _ T7.heap _
    rw [e7]
    exact ⟨rfl, N7, rfl⟩
  · show Steps p.tables e below (s₁.setTop (mkF m 0 #[.val (.ref a1), .val (.ref a2)] [])) _
    refine XS.aloadN X0.here hx rfl (d15 hby 0 rfl) rfl rfl ?_
    show Steps p.tables e below (s₁.setTop (mkF m 1 #[.val (.ref a1), .val (.ref a2)] [(.ref a2)])) _
    refine X0.arraylength hx (by rw [e0]; exact Ar3.1) (State.isArrayOf_alike hZ.alike Ar3.2.1) (g := (mkF m 1 #[.val (.ref a1), .val (.ref a2)] [(.ref a2)])) rfl rfl (d15 hby 1 rfl) _ ?_
    rw [len_of S3 Nn3]
    refine XS.ifYes X0.here hx rfl (pc0 := 2) (pc' := 7) rfl (d15 hby 2 rfl) rfl ((if0 _ _).trans (feq (by decide : ¬ ((1 : Int32) = (0 : Int32)))).2) (by decide) (by decide) ?_
    refine XS.aloadN X0.here hx rfl (d15 hby 3 rfl) rfl rfl ?_
    show Steps p.tables e below (s₁.setTop (mkF m 8 #[.val (.ref a1), .val (.ref a2)] [(.ref a1)])) _
    refine X0.arraylength hx (by rw [e0]; exact Ar4.1) (State.isArrayOf_alike hZ.alike Ar4.2.1) (g := (mkF m 8 #[.val (.ref a1), .val (.ref a2)] [(.ref a1)])) rfl rfl (d15 hby 4 rfl) _ ?_
    rw [len_of S4 Nn4]
    refine XS.ifYes X0.here hx rfl (pc0 := 9) (pc' := 14) rfl (d15 hby 5 rfl) rfl ((if0 _ _).trans (feq (by decide : ¬ ((2 : Int32) = (0 : Int32)))).2) (by decide) (by decide) ?_
    refine XS.aloadN X0.here hx rfl (d15 hby 8 rfl) rfl rfl ?_
    refine XS.aloadN X0.here hx rfl (d15 hby 9 rfl) rfl rfl ?_
    show Steps p.tables e below (s₁.setTop (mkF m 16 #[.val (.ref a1), .val (.ref a2)] [(.ref a1), (.ref a1)])) _
    refine X0.arraylength hx (by rw [e0]; exact Ar5.1) (State.isArrayOf_alike hZ.alike Ar5.2.1) (g := (mkF m 16 #[.val (.ref a1), .val (.ref a2)] [(.ref a1), (.ref a1)])) rfl rfl (d15 hby 10 rfl) _ ?_
    rw [len_of S5 Nn5]
    refine XS.aloadN X0.here hx rfl (d15 hby 11 rfl) rfl rfl ?_
    refine XS.aloadN X0.here hx rfl (d15 hby 12 rfl) rfl rfl ?_
    show Steps p.tables e below (s₁.setTop (mkF m 19 #[.val (.ref a1), .val (.ref a2)] [(.ref a2), (.ref a2), (.int 2), (.ref a1)])) _
    refine X0.arraylength hx (by rw [e0]; exact Ar6.1) (State.isArrayOf_alike hZ.alike Ar6.2.1) (g := (mkF m 19 #[.val (.ref a1), .val (.ref a2)] [(.ref a2), (.ref a2), (.int 2), (.ref a1)])) rfl rfl (d15 hby 13 rfl) _ ?_
    rw [len_of S6 Nn6]
    refine XS.iconst X0.here hx rfl (d15 hby 14 rfl) ?_
    refine st7 _ ?_
    exact own_retI X7 hx hret (d15 hby 16 rfl) hr
def Q16r2b (Z : State) (a1 a2 : Addr) (k9 k8 : ClassId) (x0 x1 : Int32) (h0 : Heap) (n0 : Nat) (v : Option Value) (h : Heap) (L : List Loc) : Prop := v = some (.int 1) ∧ Fr n0 L ∧ h = h0
theorem rm16r2b (l : Launch) (Z : State) (a0 : Array Value) (hw : ∀ d ∈ tables_1, d.before a0 Z = true) (ws : List Jvm.Cond) (a1 a2 : Addr) (k9 k8 : ClassId) (x0 x1 : Int32) (h0 : Heap) (n0 : Nat) (O0 : Old Z n0 h0) (HV_a1 : Arv Z h0 a1 k9 .byte (2 : Int32) [(.int x0), (.int x1)] (.int 0)) (HV_a2 : Arv Z h0 a2 k8 .byte (1 : Int32) [(.int 58)] (.int 0)) (hc27 : ¬ (x0 = (58 : Int32))) (hc46 : x1 = (58 : Int32)) :
    own_C l Z (⟨"java/lang/StringLatin1", "indexOf", "([BI[BII)I"⟩ : MethodName) jdk_43_method_25_code 11 (some .int) ws ({ frames := 0, cells := 0, slots := 0, locals := 0 } : Room) #[(.ref a1), (.int 2), (.ref a2), (.int 1), (.int 0)] h0 (Q16r2b Z a1 a2 k9 k8 x0 x1 h0 n0) := by
  refine own_intro (plainFor_of_name pnc_java_lang_StringLatin1) fun p e s m below meth c s₁ hx hby hml hown hnm hZ e0 hret X0 => ?_
  have N0 := Fr.nil n0
  have Z0 : n0 ≤ h0.size := O0.1 ▸ O0.2.1
  obtain ⟨cl3, Ar3, q3, S3, Nn3, Hh3, G3⟩ := id HV_a2
  have hin3 : ¬ ((0 : Int32) < 0 ∨ cl3.slots.size ≤ ((0 : Int32)).toNatClampNeg) := inb_of S3 ⟨by decide, by decide⟩
  have hat3 : cl3.slots[((0 : Int32)).toNatClampNeg]? = some (.int 58) := Has.at Hh3 hin3 rfl
  obtain ⟨cl4, Ar4, q4, S4, Nn4, Hh4, G4⟩ := id HV_a1
  have hin4 : ¬ ((0 : Int32) < 0 ∨ cl4.slots.size ≤ ((0 : Int32)).toNatClampNeg) := inb_of S4 ⟨by decide, by decide⟩
  have hat4 : cl4.slots[((0 : Int32)).toNatClampNeg]? = some (.int x0) := Has.at Hh4 hin4 rfl
  obtain ⟨cl5, Ar5, q5, S5, Nn5, Hh5, G5⟩ := id HV_a1
  have hin5 : ¬ ((1 : Int32) < 0 ∨ cl5.slots.size ≤ ((1 : Int32)).toNatClampNeg) := inb_of S5 ⟨by decide, by decide⟩
  have hat5 : cl5.slots[((1 : Int32)).toNatClampNeg]? = some (.int x1) := Has.at Hh5 hin5 rfl
  refine ⟨s₁, _, _, _, some (.int 1), X0, by decide, by decide, nofun, ?_, fun fs hr => castTop (ef_16a__2___Int32__a__1___Int32____0___Int32__ m a1 a2) ?_⟩
  · show Q16r2b Z a1 a2 k9 k8 x0 x1 h0 n0 _ s₁.heap _
    rw [e0]
    exact ⟨rfl, N0, rfl⟩
  · show Steps p.tables e below (s₁.setTop (mkF m 0 #[.val (.ref a1), .val (.int 2), .val (.ref a2), .val (.int 1), .val (.int 0), .unset, .unset, .unset, .unset, .unset, .unset] [])) _
    refine XS.aloadN X0.here hx rfl (d16 hby 0 rfl) rfl rfl ?_
    refine XS.iconst X0.here hx rfl (d16 hby 1 rfl) ?_
    show Steps p.tables e below (s₁.setTop (mkF m 2 #[.val (.ref a1), .val (.int 2), .val (.ref a2), .val (.int 1), .val (.int 0), .unset, .unset, .unset, .unset, .unset, .unset] [(.int 0), (.ref a2)])) _
    refine X0.baloadBytes hx (j := (0 : Int32)) (v := (.int 58)) (by rw [e0]; exact Ar3.1) (State.isArrayOf_alike hZ.alike Ar3.2.1) Ar3.2.2 hin3 hat3 (g := (mkF m 2 #[.val (.ref a1), .val (.int 2), .val (.ref a2), .val (.int 1), .val (.int 0), .unset, .unset, .unset, .unset, .unset, .unset] [(.int 0), (.ref a2)])) rfl rfl (d16 hby 2 rfl) _ ?_
    refine XS.istore X0.here hx rfl (d16 hby 3 rfl) rfl (l' := #[.val (.ref a1), .val (.int 2), .val (.ref a2), .val (.int 1), .val (.int 0), .val (.int 58), .unset, .unset, .unset, .unset, .unset]) rfl ?_
    refine XS.iloadN X0.here hx rfl (d16 hby 4 rfl) rfl ?_
    refine XS.iloadN X0.here hx rfl (d16 hby 5 rfl) rfl ?_
    refine XS.isub X0.here hx rfl (d16 hby 6 rfl) rfl ?_
    refine XS.istore X0.here hx rfl (d16 hby 7 rfl) rfl (l' := #[.val (.ref a1), .val (.int 2), .val (.ref a2), .val (.int 1), .val (.int 0), .val (.int 58), .val (.int 1), .unset, .unset, .unset, .unset]) rfl ?_
    refine XS.iload X0.here hx rfl (d16 hby 8 rfl) rfl ?_
    show Steps p.tables e below (s₁.setTop (mkF m 12 #[.val (.ref a1), .val (.int 2), .val (.ref a2), .val (.int 1), .val (.int 0), .val (.int 58), .val (.int 1), .unset, .unset, .unset, .unset] [(.int 0)])) _
    refine XS.istore X0.here hx rfl (d16 hby 9 rfl) rfl (l' := #[.val (.ref a1), .val (.int 2), .val (.ref a2), .val (.int 1), .val (.int 0), .val (.int 58), .val (.int 1), .val (.int 0), .unset, .unset, .unset]) rfl ?_
    refine XS.iload X0.here hx rfl (d16 hby 10 rfl) rfl ?_
    refine XS.iload X0.here hx rfl (d16 hby 11 rfl) rfl ?_
    refine XS.icmpNo X0.here hx rfl (d16 hby 12 rfl) rfl (flt (by decide : ¬ ((1 : Int32) < (0 : Int32)))).2.2.1 ?_
    refine XS.aloadN X0.here hx rfl (d16 hby 13 rfl) rfl rfl ?_
    refine XS.iload X0.here hx rfl (d16 hby 14 rfl) rfl ?_
    show Steps p.tables e below (s₁.setTop (mkF m 24 #[.val (.ref a1), .val (.int 2), .val (.ref a2), .val (.int 1), .val (.int 0), .val (.int 58), .val (.int 1), .val (.int 0), .unset, .unset, .unset] [(.int 0), (.ref a1)])) _
    refine X0.baloadBytes hx (j := (0 : Int32)) (v := (.int x0)) (by rw [e0]; exact Ar4.1) (State.isArrayOf_alike hZ.alike Ar4.2.1) Ar4.2.2 hin4 hat4 (g := (mkF m 24 #[.val (.ref a1), .val (.int 2), .val (.ref a2), .val (.int 1), .val (.int 0), .val (.int 58), .val (.int 1), .val (.int 0), .unset, .unset, .unset] [(.int 0), (.ref a1)])) rfl rfl (d16 hby 15 rfl) _ ?_
    refine XS.iload X0.here hx rfl (d16 hby 16 rfl) rfl ?_
    refine XS.icmpNo X0.here hx rfl (d16 hby 17 rfl) rfl (feq hc27).1 ?_
    refine XS.iinc X0.here hx rfl (d16 hby 41 rfl) rfl (l' := #[.val (.ref a1), .val (.int 2), .val (.ref a2), .val (.int 1), .val (.int 0), .val (.int 58), .val (.int 1), .val (.int 1), .unset, .unset, .unset]) rfl ?_
    refine XS.iload X0.here hx rfl (d16 hby 42 rfl) rfl ?_
    refine XS.iload X0.here hx rfl (d16 hby 43 rfl) rfl ?_
    refine XS.icmpNo X0.here hx rfl (d16 hby 44 rfl) rfl (flt (by decide : ¬ ((1 : Int32) < (1 : Int32)))).2.2.1 ?_
    show Steps p.tables e below (s₁.setTop (mkF m 40 #[.val (.ref a1), .val (.int 2), .val (.ref a2), .val (.int 1), .val (.int 0), .val (.int 58), .val (.int 1), .val (.int 1), .unset, .unset, .unset] [])) _
    refine XS.aloadN X0.here hx rfl (d16 hby 49 rfl) rfl rfl ?_
    refine XS.iload X0.here hx rfl (d16 hby 50 rfl) rfl ?_
    show Steps p.tables e below (s₁.setTop (mkF m 43 #[.val (.ref a1), .val (.int 2), .val (.ref a2), .val (.int 1), .val (.int 0), .val (.int 58), .val (.int 1), .val (.int 1), .unset, .unset, .unset] [(.int 1), (.ref a1)])) _
    refine X0.baloadBytes hx (j := (1 : Int32)) (v := (.int x1)) (by rw [e0]; exact Ar5.1) (State.isArrayOf_alike hZ.alike Ar5.2.1) Ar5.2.2 hin5 hat5 (g := (mkF m 43 #[.val (.ref a1), .val (.int 2), .val (.ref a2), .val (.int 1), .val (.int 0), .val (.int 58), .val (.int 1), .val (.int 1), .unset, .unset, .unset] [(.int 1), (.ref a1)])) rfl rfl (d16 hby 51 rfl) _ ?_
    refine XS.iload X0.here hx rfl (d16 hby 52 rfl) rfl ?_
    refine XS.icmpYes X0.here hx rfl (pc0 := 46) (pc' := 52) rfl (d16 hby 53 rfl) rfl (teq hc46).1 (by decide) (by decide) ?_
    refine XS.iload X0.here hx rfl (d16 hby 18 rfl) rfl ?_
    refine XS.iload X0.here hx rfl (d16 hby 19 rfl) rfl ?_
    refine XS.icmpNo X0.here hx rfl (d16 hby 20 rfl) rfl (flt (by decide : ¬ ((1 : Int32) < (1 : Int32)))).2.2.1 ?_
    refine XS.iload X0.here hx rfl (d16 hby 21 rfl) rfl ?_
    show Steps p.tables e below (s₁.setTop (mkF m 61 #[.val (.ref a1), .val (.int 2), .val (.ref a2), .val (.int 1), .val (.int 0), .val (.int 58), .val (.int 1), .val (.int 1), .unset, .unset, .unset] [(.int 1)])) _
    refine XS.iconst X0.here hx rfl (d16 hby 22 rfl) ?_
    refine XS.iadd X0.here hx rfl (d16 hby 23 rfl) rfl ?_
    refine XS.istore X0.here hx rfl (d16 hby 24 rfl) rfl (l' := #[.val (.ref a1), .val (.int 2), .val (.ref a2), .val (.int 1), .val (.int 0), .val (.int 58), .val (.int 1), .val (.int 1), .val (.int 2), .unset, .unset]) rfl ?_
    refine XS.iload X0.here hx rfl (d16 hby 25 rfl) rfl ?_
    refine XS.iloadN X0.here hx rfl (d16 hby 26 rfl) rfl ?_
    refine XS.iadd X0.here hx rfl (d16 hby 27 rfl) rfl ?_
    refine XS.iconst X0.here hx rfl (d16 hby 28 rfl) ?_
    show Steps p.tables e below (s₁.setTop (mkF m 70 #[.val (.ref a1), .val (.int 2), .val (.ref a2), .val (.int 1), .val (.int 0), .val (.int 58), .val (.int 1), .val (.int 1), .val (.int 2), .unset, .unset] [(.int 1), (.int 3)])) _
    refine XS.isub X0.here hx rfl (d16 hby 29 rfl) rfl ?_
    refine XS.istore X0.here hx rfl (d16 hby 30 rfl) rfl (l' := #[.val (.ref a1), .val (.int 2), .val (.ref a2), .val (.int 1), .val (.int 0), .val (.int 58), .val (.int 1), .val (.int 1), .val (.int 2), .val (.int 2), .unset]) rfl ?_
    refine XS.iconst X0.here hx rfl (d16 hby 31 rfl) ?_
    refine XS.istore X0.here hx rfl (d16 hby 32 rfl) rfl (l' := #[.val (.ref a1), .val (.int 2), .val (.ref a2), .val (.int 1), .val (.int 0), .val (.int 58), .val (.int 1), .val (.int 1), .val (.int 2), .val (.int 2), .val (.int 1)]) rfl ?_
    refine XS.iload X0.here hx rfl (d16 hby 33 rfl) rfl ?_
    refine XS.iload X0.here hx rfl (d16 hby 34 rfl) rfl ?_
    refine XS.icmpYes X0.here hx rfl (pc0 := 80) (pc' := 103) rfl (d16 hby 35 rfl) rfl (flt (by decide : ¬ ((2 : Int32) < (2 : Int32)))).2.1 (by decide) (by decide) ?_
    show Steps p.tables e below (s₁.setTop (mkF m 103 #[.val (.ref a1), .val (.int 2), .val (.ref a2), .val (.int 1), .val (.int 0), .val (.int 58), .val (.int 1), .val (.int 1), .val (.int 2), .val (.int 2), .val (.int 1)] [])) _
    refine XS.iload X0.here hx rfl (d16 hby 36 rfl) rfl ?_
    refine XS.iload X0.here hx rfl (d16 hby 37 rfl) rfl ?_
    refine XS.icmpNo X0.here hx rfl (d16 hby 38 rfl) rfl (teq (by decide : (2 : Int32) = (2 : Int32))).2 ?_
    refine XS.iload X0.here hx rfl (d16 hby 39 rfl) rfl ?_
    exact own_retI X0 hx hret (d16 hby 40 rfl) hr
def Q15r2b (Z : State) (a1 a2 : Addr) (k9 k8 : ClassId) (x0 x1 : Int32) (h0 : Heap) (n0 : Nat) (v : Option Value) (h : Heap) (L : List Loc) : Prop := v = some (.int 1) ∧ Fr n0 L ∧ h = h0
theorem rm15r2b (l : Launch) (Z : State) (a0 : Array Value) (hw : ∀ d ∈ tables_1, d.before a0 Z = true) (ws : List Jvm.Cond) (a1 a2 : Addr) (k9 k8 : ClassId) (x0 x1 : Int32) (h0 : Heap) (n0 : Nat) (O0 : Old Z n0 h0) (HV_a1 : Arv Z h0 a1 k9 .byte (2 : Int32) [(.int x0), (.int x1)] (.int 0)) (HV_a2 : Arv Z h0 a2 k8 .byte (1 : Int32) [(.int 58)] (.int 0)) (h21_hc27 : ¬ (x0 = (58 : Int32))) (h21_hc46 : x1 = (58 : Int32)) :
    own_C l Z (⟨"java/lang/StringLatin1", "indexOf", "([B[B)I"⟩ : MethodName) jdk_43_method_24_code 2 (some .int) ws ({ frames := 2, cells := 0, slots := 0, locals := 50 } : Room) #[(.ref a1), (.ref a2)] h0 (Q15r2b Z a1 a2 k9 k8 x0 x1 h0 n0) := by
  refine own_intro (plainFor_of_name pnc_java_lang_StringLatin1) fun p e s m below meth c s₁ hx hby hml hown hnm hZ e0 hret X0 => ?_
  have N0 := Fr.nil n0
  have Z0 : n0 ≤ h0.size := O0.1 ▸ O0.2.1
  obtain ⟨cl3, Ar3, q3, S3, Nn3, Hh3, G3⟩ := id HV_a2
  obtain ⟨cl4, Ar4, q4, S4, Nn4, Hh4, G4⟩ := id HV_a1
  obtain ⟨cl5, Ar5, q5, S5, Nn5, Hh5, G5⟩ := id HV_a1
  obtain ⟨cl6, Ar6, q6, S6, Nn6, Hh6, G6⟩ := id HV_a2
  obtain ⟨vr7, _, ⟨T7, L7, k7, n7⟩, -, X7, ⟨Lc7, hQ7, l7, y7, z7⟩, st7⟩ := Jvm.LawKit.callS X0 hx (y := (⟨"java/lang/StringLatin1", "indexOf", "([BI[BII)I"⟩ : MethodName)) hown (mvT hZ (own_w hw 92 rfl)) (mvT hZ (own_w hw 93 rfl)) (mvT hZ (own_w hw 90 rfl)) (mvT hZ (own_w hw 94 rfl)) (by decide) (backOf (W := 0) (rm16r2b l Z a0 hw [] a1 a2 k9 k8 x0 x1 h0 n0 O0 HV_a1 HV_a2 h21_hc27 h21_hc46) hZ (own_w hw 94 rfl) (own_w hw 90 rfl) (by decide) (by decide)) (g := (mkF m 21 #[.val (.ref a1), .val (.ref a2)] [(.int 0), (.int 1), (.ref a2), (.int 2), (.ref a1)])) rfl (by rw [hml]; rfl) (argsL := [(.ref a1), (.int 2), (.ref a2), (.int 1), (.int 0)]) (rest := []) (lenOf pd_33 rfl) rfl (by show 2 * 0 + _ ≤ _; exact Nat.le_of_eq rfl) (d15 hby 15 rfl) (fun _ _ => ⟨rfl, e0, (by decide : 0 + 0 ≤ _), (by decide : 0 + 0 ≤ _)⟩)
  dsimp only [Pt.U, Pt.locs, Pt.cells, Pt.slots] at X7 l7 y7 z7 st7 hQ7
  subst l7 y7 z7
  obtain ⟨rfl, N7q, e7⟩ := hQ7
  have N7 := Fr.app N0 N7q
  replace X7 := X7.more (cells' := 0) (slots' := 0) (by decide) (by decide)
  refine ⟨T7, _, _, _, some (.int 1), X7, by decide, by decide, nofun, ?_, fun fs hr => castTop (ef_15 m a1 a2) ?_⟩
  · show Q15r2b Z a1 a2 k9 k8 x0 x1 h0 n0 _ T7.heap _
    rw [e7]
    exact ⟨rfl, N7, rfl⟩
  · show Steps p.tables e below (s₁.setTop (mkF m 0 #[.val (.ref a1), .val (.ref a2)] [])) _
    refine XS.aloadN X0.here hx rfl (d15 hby 0 rfl) rfl rfl ?_
    show Steps p.tables e below (s₁.setTop (mkF m 1 #[.val (.ref a1), .val (.ref a2)] [(.ref a2)])) _
    refine X0.arraylength hx (by rw [e0]; exact Ar3.1) (State.isArrayOf_alike hZ.alike Ar3.2.1) (g := (mkF m 1 #[.val (.ref a1), .val (.ref a2)] [(.ref a2)])) rfl rfl (d15 hby 1 rfl) _ ?_
    rw [len_of S3 Nn3]
    refine XS.ifYes X0.here hx rfl (pc0 := 2) (pc' := 7) rfl (d15 hby 2 rfl) rfl ((if0 _ _).trans (feq (by decide : ¬ ((1 : Int32) = (0 : Int32)))).2) (by decide) (by decide) ?_
    refine XS.aloadN X0.here hx rfl (d15 hby 3 rfl) rfl rfl ?_
    show Steps p.tables e below (s₁.setTop (mkF m 8 #[.val (.ref a1), .val (.ref a2)] [(.ref a1)])) _
    refine X0.arraylength hx (by rw [e0]; exact Ar4.1) (State.isArrayOf_alike hZ.alike Ar4.2.1) (g := (mkF m 8 #[.val (.ref a1), .val (.ref a2)] [(.ref a1)])) rfl rfl (d15 hby 4 rfl) _ ?_
    rw [len_of S4 Nn4]
    refine XS.ifYes X0.here hx rfl (pc0 := 9) (pc' := 14) rfl (d15 hby 5 rfl) rfl ((if0 _ _).trans (feq (by decide : ¬ ((2 : Int32) = (0 : Int32)))).2) (by decide) (by decide) ?_
    refine XS.aloadN X0.here hx rfl (d15 hby 8 rfl) rfl rfl ?_
    refine XS.aloadN X0.here hx rfl (d15 hby 9 rfl) rfl rfl ?_
    show Steps p.tables e below (s₁.setTop (mkF m 16 #[.val (.ref a1), .val (.ref a2)] [(.ref a1), (.ref a1)])) _
    refine X0.arraylength hx (by rw [e0]; exact Ar5.1) (State.isArrayOf_alike hZ.alike Ar5.2.1) (g := (mkF m 16 #[.val (.ref a1), .val (.ref a2)] [(.ref a1), (.ref a1)])) rfl rfl (d15 hby 10 rfl) _ ?_
    rw [len_of S5 Nn5]
    refine XS.aloadN X0.here hx rfl (d15 hby 11 rfl) rfl rfl ?_
    refine XS.aloadN X0.here hx rfl (d15 hby 12 rfl) rfl rfl ?_
    show Steps p.tables e below (s₁.setTop (mkF m 19 #[.val (.ref a1), .val (.ref a2)] [(.ref a2), (.ref a2), (.int 2), (.ref a1)])) _
    refine X0.arraylength hx (by rw [e0]; exact Ar6.1) (State.isArrayOf_alike hZ.alike Ar6.2.1) (g := (mkF m 19 #[.val (.ref a1), .val (.ref a2)] [(.ref a2), (.ref a2), (.int 2), (.ref a1)])) rfl rfl (d15 hby 13 rfl) _ ?_
    rw [len_of S6 Nn6]
    refine XS.iconst X0.here hx rfl (d15 hby 14 rfl) ?_
    refine st7 _ ?_
    exact own_retI X7 hx hret (d15 hby 16 rfl) hr
def Q16r2n (Z : State) (a1 a2 : Addr) (k9 k8 : ClassId) (x0 x1 : Int32) (h0 : Heap) (n0 : Nat) (v : Option Value) (h : Heap) (L : List Loc) : Prop := v = some (.int (-1 : Int32)) ∧ Fr n0 L ∧ h = h0
theorem rm16r2n (l : Launch) (Z : State) (a0 : Array Value) (hw : ∀ d ∈ tables_1, d.before a0 Z = true) (ws : List Jvm.Cond) (a1 a2 : Addr) (k9 k8 : ClassId) (x0 x1 : Int32) (h0 : Heap) (n0 : Nat) (O0 : Old Z n0 h0) (HV_a1 : Arv Z h0 a1 k9 .byte (2 : Int32) [(.int x0), (.int x1)] (.int 0)) (HV_a2 : Arv Z h0 a2 k8 .byte (1 : Int32) [(.int 58)] (.int 0)) (hc27 : ¬ (x0 = (58 : Int32))) (hc46 : ¬ (x1 = (58 : Int32))) :
    own_C l Z (⟨"java/lang/StringLatin1", "indexOf", "([BI[BII)I"⟩ : MethodName) jdk_43_method_25_code 11 (some .int) ws ({ frames := 0, cells := 0, slots := 0, locals := 0 } : Room) #[(.ref a1), (.int 2), (.ref a2), (.int 1), (.int 0)] h0 (Q16r2n Z a1 a2 k9 k8 x0 x1 h0 n0) := by
  refine own_intro (plainFor_of_name pnc_java_lang_StringLatin1) fun p e s m below meth c s₁ hx hby hml hown hnm hZ e0 hret X0 => ?_
  have N0 := Fr.nil n0
  have Z0 : n0 ≤ h0.size := O0.1 ▸ O0.2.1
  obtain ⟨cl3, Ar3, q3, S3, Nn3, Hh3, G3⟩ := id HV_a2
  have hin3 : ¬ ((0 : Int32) < 0 ∨ cl3.slots.size ≤ ((0 : Int32)).toNatClampNeg) := inb_of S3 ⟨by decide, by decide⟩
  have hat3 : cl3.slots[((0 : Int32)).toNatClampNeg]? = some (.int 58) := Has.at Hh3 hin3 rfl
  obtain ⟨cl4, Ar4, q4, S4, Nn4, Hh4, G4⟩ := id HV_a1
  have hin4 : ¬ ((0 : Int32) < 0 ∨ cl4.slots.size ≤ ((0 : Int32)).toNatClampNeg) := inb_of S4 ⟨by decide, by decide⟩
  have hat4 : cl4.slots[((0 : Int32)).toNatClampNeg]? = some (.int x0) := Has.at Hh4 hin4 rfl
  obtain ⟨cl5, Ar5, q5, S5, Nn5, Hh5, G5⟩ := id HV_a1
  have hin5 : ¬ ((1 : Int32) < 0 ∨ cl5.slots.size ≤ ((1 : Int32)).toNatClampNeg) := inb_of S5 ⟨by decide, by decide⟩
  have hat5 : cl5.slots[((1 : Int32)).toNatClampNeg]? = some (.int x1) := Has.at Hh5 hin5 rfl
  refine ⟨s₁, _, _, _, some (.int (-1 : Int32)), X0, by decide, by decide, nofun, ?_, fun fs hr => castTop (ef_16a__2___Int32__a__1___Int32____0___Int32__ m a1 a2) ?_⟩
  · show Q16r2n Z a1 a2 k9 k8 x0 x1 h0 n0 _ s₁.heap _
    rw [e0]
    exact ⟨rfl, N0, rfl⟩
  · show Steps p.tables e below (s₁.setTop (mkF m 0 #[.val (.ref a1), .val (.int 2), .val (.ref a2), .val (.int 1), .val (.int 0), .unset, .unset, .unset, .unset, .unset, .unset] [])) _
    refine XS.aloadN X0.here hx rfl (d16 hby 0 rfl) rfl rfl ?_
    refine XS.iconst X0.here hx rfl (d16 hby 1 rfl) ?_
    show Steps p.tables e below (s₁.setTop (mkF m 2 #[.val (.ref a1), .val (.int 2), .val (.ref a2), .val (.int 1), .val (.int 0), .unset, .unset, .unset, .unset, .unset, .unset] [(.int 0), (.ref a2)])) _
    refine X0.baloadBytes hx (j := (0 : Int32)) (v := (.int 58)) (by rw [e0]; exact Ar3.1) (State.isArrayOf_alike hZ.alike Ar3.2.1) Ar3.2.2 hin3 hat3 (g := (mkF m 2 #[.val (.ref a1), .val (.int 2), .val (.ref a2), .val (.int 1), .val (.int 0), .unset, .unset, .unset, .unset, .unset, .unset] [(.int 0), (.ref a2)])) rfl rfl (d16 hby 2 rfl) _ ?_
    refine XS.istore X0.here hx rfl (d16 hby 3 rfl) rfl (l' := #[.val (.ref a1), .val (.int 2), .val (.ref a2), .val (.int 1), .val (.int 0), .val (.int 58), .unset, .unset, .unset, .unset, .unset]) rfl ?_
    refine XS.iloadN X0.here hx rfl (d16 hby 4 rfl) rfl ?_
    refine XS.iloadN X0.here hx rfl (d16 hby 5 rfl) rfl ?_
    refine XS.isub X0.here hx rfl (d16 hby 6 rfl) rfl ?_
    refine XS.istore X0.here hx rfl (d16 hby 7 rfl) rfl (l' := #[.val (.ref a1), .val (.int 2), .val (.ref a2), .val (.int 1), .val (.int 0), .val (.int 58), .val (.int 1), .unset, .unset, .unset, .unset]) rfl ?_
    refine XS.iload X0.here hx rfl (d16 hby 8 rfl) rfl ?_
    show Steps p.tables e below (s₁.setTop (mkF m 12 #[.val (.ref a1), .val (.int 2), .val (.ref a2), .val (.int 1), .val (.int 0), .val (.int 58), .val (.int 1), .unset, .unset, .unset, .unset] [(.int 0)])) _
    refine XS.istore X0.here hx rfl (d16 hby 9 rfl) rfl (l' := #[.val (.ref a1), .val (.int 2), .val (.ref a2), .val (.int 1), .val (.int 0), .val (.int 58), .val (.int 1), .val (.int 0), .unset, .unset, .unset]) rfl ?_
    refine XS.iload X0.here hx rfl (d16 hby 10 rfl) rfl ?_
    refine XS.iload X0.here hx rfl (d16 hby 11 rfl) rfl ?_
    refine XS.icmpNo X0.here hx rfl (d16 hby 12 rfl) rfl (flt (by decide : ¬ ((1 : Int32) < (0 : Int32)))).2.2.1 ?_
    refine XS.aloadN X0.here hx rfl (d16 hby 13 rfl) rfl rfl ?_
    refine XS.iload X0.here hx rfl (d16 hby 14 rfl) rfl ?_
    show Steps p.tables e below (s₁.setTop (mkF m 24 #[.val (.ref a1), .val (.int 2), .val (.ref a2), .val (.int 1), .val (.int 0), .val (.int 58), .val (.int 1), .val (.int 0), .unset, .unset, .unset] [(.int 0), (.ref a1)])) _
    refine X0.baloadBytes hx (j := (0 : Int32)) (v := (.int x0)) (by rw [e0]; exact Ar4.1) (State.isArrayOf_alike hZ.alike Ar4.2.1) Ar4.2.2 hin4 hat4 (g := (mkF m 24 #[.val (.ref a1), .val (.int 2), .val (.ref a2), .val (.int 1), .val (.int 0), .val (.int 58), .val (.int 1), .val (.int 0), .unset, .unset, .unset] [(.int 0), (.ref a1)])) rfl rfl (d16 hby 15 rfl) _ ?_
    refine XS.iload X0.here hx rfl (d16 hby 16 rfl) rfl ?_
    refine XS.icmpNo X0.here hx rfl (d16 hby 17 rfl) rfl (feq hc27).1 ?_
    refine XS.iinc X0.here hx rfl (d16 hby 41 rfl) rfl (l' := #[.val (.ref a1), .val (.int 2), .val (.ref a2), .val (.int 1), .val (.int 0), .val (.int 58), .val (.int 1), .val (.int 1), .unset, .unset, .unset]) rfl ?_
    refine XS.iload X0.here hx rfl (d16 hby 42 rfl) rfl ?_
    refine XS.iload X0.here hx rfl (d16 hby 43 rfl) rfl ?_
    refine XS.icmpNo X0.here hx rfl (d16 hby 44 rfl) rfl (flt (by decide : ¬ ((1 : Int32) < (1 : Int32)))).2.2.1 ?_
    show Steps p.tables e below (s₁.setTop (mkF m 40 #[.val (.ref a1), .val (.int 2), .val (.ref a2), .val (.int 1), .val (.int 0), .val (.int 58), .val (.int 1), .val (.int 1), .unset, .unset, .unset] [])) _
    refine XS.aloadN X0.here hx rfl (d16 hby 49 rfl) rfl rfl ?_
    refine XS.iload X0.here hx rfl (d16 hby 50 rfl) rfl ?_
    show Steps p.tables e below (s₁.setTop (mkF m 43 #[.val (.ref a1), .val (.int 2), .val (.ref a2), .val (.int 1), .val (.int 0), .val (.int 58), .val (.int 1), .val (.int 1), .unset, .unset, .unset] [(.int 1), (.ref a1)])) _
    refine X0.baloadBytes hx (j := (1 : Int32)) (v := (.int x1)) (by rw [e0]; exact Ar5.1) (State.isArrayOf_alike hZ.alike Ar5.2.1) Ar5.2.2 hin5 hat5 (g := (mkF m 43 #[.val (.ref a1), .val (.int 2), .val (.ref a2), .val (.int 1), .val (.int 0), .val (.int 58), .val (.int 1), .val (.int 1), .unset, .unset, .unset] [(.int 1), (.ref a1)])) rfl rfl (d16 hby 51 rfl) _ ?_
    refine XS.iload X0.here hx rfl (d16 hby 52 rfl) rfl ?_
    refine XS.icmpNo X0.here hx rfl (d16 hby 53 rfl) rfl (feq hc46).1 ?_
    refine XS.goto X0.here hx rfl (pc0 := 49) (pc' := 30) rfl (d16 hby 54 rfl) (by decide) (by decide) ?_
    refine XS.iinc X0.here hx rfl (d16 hby 41 rfl) rfl (l' := #[.val (.ref a1), .val (.int 2), .val (.ref a2), .val (.int 1), .val (.int 0), .val (.int 58), .val (.int 1), .val (.int 2), .unset, .unset, .unset]) rfl ?_
    refine XS.iload X0.here hx rfl (d16 hby 42 rfl) rfl ?_
    refine XS.iload X0.here hx rfl (d16 hby 43 rfl) rfl ?_
    show Steps p.tables e below (s₁.setTop (mkF m 37 #[.val (.ref a1), .val (.int 2), .val (.ref a2), .val (.int 1), .val (.int 0), .val (.int 58), .val (.int 1), .val (.int 2), .unset, .unset, .unset] [(.int 1), (.int 2)])) _
    refine XS.icmpYes X0.here hx rfl (pc0 := 37) (pc' := 52) rfl (d16 hby 44 rfl) rfl (tlt (by decide : (1 : Int32) < (2 : Int32))).2.2.1 (by decide) (by decide) ?_
    refine XS.iload X0.here hx rfl (d16 hby 18 rfl) rfl ?_
    refine XS.iload X0.here hx rfl (d16 hby 19 rfl) rfl ?_
    refine XS.icmpYes X0.here hx rfl (pc0 := 56) (pc' := 113) rfl (d16 hby 20 rfl) rfl (tlt (by decide : (1 : Int32) < (2 : Int32))).2.2.1 (by decide) (by decide) ?_
    refine XS.iinc X0.here hx rfl (d16 hby 45 rfl) rfl (l' := #[.val (.ref a1), .val (.int 2), .val (.ref a2), .val (.int 1), .val (.int 0), .val (.int 58), .val (.int 1), .val (.int 3), .unset, .unset, .unset]) rfl ?_
    refine XS.goto X0.here hx rfl (pc0 := 116) (pc' := 14) rfl (d16 hby 46 rfl) (by decide) (by decide) ?_
    refine XS.iload X0.here hx rfl (d16 hby 10 rfl) rfl ?_
    show Steps p.tables e below (s₁.setTop (mkF m 16 #[.val (.ref a1), .val (.int 2), .val (.ref a2), .val (.int 1), .val (.int 0), .val (.int 58), .val (.int 1), .val (.int 3), .unset, .unset, .unset] [(.int 3)])) _
    refine XS.iload X0.here hx rfl (d16 hby 11 rfl) rfl ?_
    refine XS.icmpYes X0.here hx rfl (pc0 := 18) (pc' := 119) rfl (d16 hby 12 rfl) rfl (tlt (by decide : (1 : Int32) < (3 : Int32))).2.2.1 (by decide) (by decide) ?_
    refine XS.iconst X0.here hx rfl (d16 hby 47 rfl) ?_
    exact own_retI X0 hx hret (d16 hby 48 rfl) hr
def Q15r2n (Z : State) (a1 a2 : Addr) (k9 k8 : ClassId) (x0 x1 : Int32) (h0 : Heap) (n0 : Nat) (v : Option Value) (h : Heap) (L : List Loc) : Prop := v = some (.int (-1 : Int32)) ∧ Fr n0 L ∧ h = h0
theorem rm15r2n (l : Launch) (Z : State) (a0 : Array Value) (hw : ∀ d ∈ tables_1, d.before a0 Z = true) (ws : List Jvm.Cond) (a1 a2 : Addr) (k9 k8 : ClassId) (x0 x1 : Int32) (h0 : Heap) (n0 : Nat) (O0 : Old Z n0 h0) (HV_a1 : Arv Z h0 a1 k9 .byte (2 : Int32) [(.int x0), (.int x1)] (.int 0)) (HV_a2 : Arv Z h0 a2 k8 .byte (1 : Int32) [(.int 58)] (.int 0)) (h21_hc27 : ¬ (x0 = (58 : Int32))) (h21_hc46 : ¬ (x1 = (58 : Int32))) :
    own_C l Z (⟨"java/lang/StringLatin1", "indexOf", "([B[B)I"⟩ : MethodName) jdk_43_method_24_code 2 (some .int) ws ({ frames := 2, cells := 0, slots := 0, locals := 50 } : Room) #[(.ref a1), (.ref a2)] h0 (Q15r2n Z a1 a2 k9 k8 x0 x1 h0 n0) := by
  refine own_intro (plainFor_of_name pnc_java_lang_StringLatin1) fun p e s m below meth c s₁ hx hby hml hown hnm hZ e0 hret X0 => ?_
  have N0 := Fr.nil n0
  have Z0 : n0 ≤ h0.size := O0.1 ▸ O0.2.1
  obtain ⟨cl3, Ar3, q3, S3, Nn3, Hh3, G3⟩ := id HV_a2
  obtain ⟨cl4, Ar4, q4, S4, Nn4, Hh4, G4⟩ := id HV_a1
  obtain ⟨cl5, Ar5, q5, S5, Nn5, Hh5, G5⟩ := id HV_a1
  obtain ⟨cl6, Ar6, q6, S6, Nn6, Hh6, G6⟩ := id HV_a2
  obtain ⟨vr7, _, ⟨T7, L7, k7, n7⟩, -, X7, ⟨Lc7, hQ7, l7, y7, z7⟩, st7⟩ := Jvm.LawKit.callS X0 hx (y := (⟨"java/lang/StringLatin1", "indexOf", "([BI[BII)I"⟩ : MethodName)) hown (mvT hZ (own_w hw 92 rfl)) (mvT hZ (own_w hw 93 rfl)) (mvT hZ (own_w hw 90 rfl)) (mvT hZ (own_w hw 94 rfl)) (by decide) (backOf (W := 0) (rm16r2n l Z a0 hw [] a1 a2 k9 k8 x0 x1 h0 n0 O0 HV_a1 HV_a2 h21_hc27 h21_hc46) hZ (own_w hw 94 rfl) (own_w hw 90 rfl) (by decide) (by decide)) (g := (mkF m 21 #[.val (.ref a1), .val (.ref a2)] [(.int 0), (.int 1), (.ref a2), (.int 2), (.ref a1)])) rfl (by rw [hml]; rfl) (argsL := [(.ref a1), (.int 2), (.ref a2), (.int 1), (.int 0)]) (rest := []) (lenOf pd_33 rfl) rfl (by show 2 * 0 + _ ≤ _; exact Nat.le_of_eq rfl) (d15 hby 15 rfl) (fun _ _ => ⟨rfl, e0, (by decide : 0 + 0 ≤ _), (by decide : 0 + 0 ≤ _)⟩)
  dsimp only [Pt.U, Pt.locs, Pt.cells, Pt.slots] at X7 l7 y7 z7 st7 hQ7
  subst l7 y7 z7
  obtain ⟨rfl, N7q, e7⟩ := hQ7
  have N7 := Fr.app N0 N7q
  replace X7 := X7.more (cells' := 0) (slots' := 0) (by decide) (by decide)
  refine ⟨T7, _, _, _, some (.int (-1 : Int32)), X7, by decide, by decide, nofun, ?_, fun fs hr => castTop (ef_15 m a1 a2) ?_⟩
  · show Q15r2n Z a1 a2 k9 k8 x0 x1 h0 n0 _ T7.heap _
    rw [e7]
    exact ⟨rfl, N7, rfl⟩
  · show Steps p.tables e below (s₁.setTop (mkF m 0 #[.val (.ref a1), .val (.ref a2)] [])) _
    refine XS.aloadN X0.here hx rfl (d15 hby 0 rfl) rfl rfl ?_
    show Steps p.tables e below (s₁.setTop (mkF m 1 #[.val (.ref a1), .val (.ref a2)] [(.ref a2)])) _
    refine X0.arraylength hx (by rw [e0]; exact Ar3.1) (State.isArrayOf_alike hZ.alike Ar3.2.1) (g := (mkF m 1 #[.val (.ref a1), .val (.ref a2)] [(.ref a2)])) rfl rfl (d15 hby 1 rfl) _ ?_
    rw [len_of S3 Nn3]
    refine XS.ifYes X0.here hx rfl (pc0 := 2) (pc' := 7) rfl (d15 hby 2 rfl) rfl ((if0 _ _).trans (feq (by decide : ¬ ((1 : Int32) = (0 : Int32)))).2) (by decide) (by decide) ?_
    refine XS.aloadN X0.here hx rfl (d15 hby 3 rfl) rfl rfl ?_
    show Steps p.tables e below (s₁.setTop (mkF m 8 #[.val (.ref a1), .val (.ref a2)] [(.ref a1)])) _
    refine X0.arraylength hx (by rw [e0]; exact Ar4.1) (State.isArrayOf_alike hZ.alike Ar4.2.1) (g := (mkF m 8 #[.val (.ref a1), .val (.ref a2)] [(.ref a1)])) rfl rfl (d15 hby 4 rfl) _ ?_
    rw [len_of S4 Nn4]
    refine XS.ifYes X0.here hx rfl (pc0 := 9) (pc' := 14) rfl (d15 hby 5 rfl) rfl ((if0 _ _).trans (feq (by decide : ¬ ((2 : Int32) = (0 : Int32)))).2) (by decide) (by decide) ?_
    refine XS.aloadN X0.here hx rfl (d15 hby 8 rfl) rfl rfl ?_
    refine XS.aloadN X0.here hx rfl (d15 hby 9 rfl) rfl rfl ?_
    show Steps p.tables e below (s₁.setTop (mkF m 16 #[.val (.ref a1), .val (.ref a2)] [(.ref a1), (.ref a1)])) _
    refine X0.arraylength hx (by rw [e0]; exact Ar5.1) (State.isArrayOf_alike hZ.alike Ar5.2.1) (g := (mkF m 16 #[.val (.ref a1), .val (.ref a2)] [(.ref a1), (.ref a1)])) rfl rfl (d15 hby 10 rfl) _ ?_
    rw [len_of S5 Nn5]
    refine XS.aloadN X0.here hx rfl (d15 hby 11 rfl) rfl rfl ?_
    refine XS.aloadN X0.here hx rfl (d15 hby 12 rfl) rfl rfl ?_
    show Steps p.tables e below (s₁.setTop (mkF m 19 #[.val (.ref a1), .val (.ref a2)] [(.ref a2), (.ref a2), (.int 2), (.ref a1)])) _
    refine X0.arraylength hx (by rw [e0]; exact Ar6.1) (State.isArrayOf_alike hZ.alike Ar6.2.1) (g := (mkF m 19 #[.val (.ref a1), .val (.ref a2)] [(.ref a2), (.ref a2), (.int 2), (.ref a1)])) rfl rfl (d15 hby 13 rfl) _ ?_
    rw [len_of S6 Nn6]
    refine XS.iconst X0.here hx rfl (d15 hby 14 rfl) ?_
    refine st7 _ ?_
    exact own_retI X7 hx hret (d15 hby 16 rfl) hr
def Q15N (Z : State) (a1 a2 : Addr) (k9 k8 : ClassId) (hs : List Int32) (h0 : Heap) (n0 : Nat) (v : Option Value) (h : Heap) (L : List Loc) : Prop := v = some (.int (-1 : Int32)) ∧ Fr n0 L ∧ h = h0
theorem rm15N (l : Launch) (Z : State) (a0 : Array Value) (hw : ∀ d ∈ tables_1, d.before a0 Z = true) (ws : List Jvm.Cond) (a1 a2 : Addr) (k9 k8 : ClassId) (hs : List Int32) (h0 : Heap) (n0 : Nat) (O0 : Old Z n0 h0) (HV_a1 : Arv Z h0 a1 k9 .byte (own_n hs) (own_by hs) (.int 0)) (HV_a2 : Arv Z h0 a2 k8 .byte (1 : Int32) [(.int 58)] (.int 0)) (hrg : ∀ c ∈ hs, ¬ c < 0 ∧ ¬ (255 : Int32) < c) (hl2 : hs.length ≤ 2) (hin : ¬ ((58 : Int32) ∈ hs)) :
    own_C l Z (⟨"java/lang/StringLatin1", "indexOf", "([B[B)I"⟩ : MethodName) jdk_43_method_24_code 2 (some .int) ws ({ frames := 2, cells := 0, slots := 0, locals := 50 } : Room) #[(.ref a1), (.ref a2)] h0 (Q15N Z a1 a2 k9 k8 hs h0 n0) := by
  match hs, hl2 with
  | [], _ => exact rm15r0 l Z a0 hw ws a1 a2 k9 k8 h0 n0 O0 HV_a1 HV_a2
  | [h0_], _ => exact rm15r1n l Z a0 hw ws a1 a2 k9 k8 (h0_.toInt8.toInt32) h0 n0 O0 HV_a1 HV_a2 (fun q => hin (by rw [(own_58 (hrg _ (List.mem_of_getElem? (i := 0) rfl))).mp q]; exact List.mem_cons_self ..))
  | [h0_, h1_], _ => exact rm15r2n l Z a0 hw ws a1 a2 k9 k8 (h0_.toInt8.toInt32) (h1_.toInt8.toInt32) h0 n0 O0 HV_a1 HV_a2 (fun q => hin (by rw [(own_58 (hrg _ (List.mem_of_getElem? (i := 0) rfl))).mp q]; exact List.mem_cons_self ..)) (fun q => hin (by rw [(own_58 (hrg _ (List.mem_of_getElem? (i := 1) rfl))).mp q]; exact List.mem_cons_of_mem _ (List.mem_cons_self ..)))
  | _ :: _ :: _ :: _, h => exact absurd h (by simp)
def Q15Y (Z : State) (a1 a2 : Addr) (k9 k8 : ClassId) (hs : List Int32) (h0 : Heap) (n0 : Nat) (v : Option Value) (h : Heap) (L : List Loc) : Prop := ∃ rr : Int32, v = some (.int rr) ∧ Fr n0 L ∧ h = h0 ∧ ¬ (rr < (0 : Int32))
theorem rm15Y (l : Launch) (Z : State) (a0 : Array Value) (hw : ∀ d ∈ tables_1, d.before a0 Z = true) (ws : List Jvm.Cond) (a1 a2 : Addr) (k9 k8 : ClassId) (hs : List Int32) (h0 : Heap) (n0 : Nat) (O0 : Old Z n0 h0) (HV_a1 : Arv Z h0 a1 k9 .byte (own_n hs) (own_by hs) (.int 0)) (HV_a2 : Arv Z h0 a2 k8 .byte (1 : Int32) [(.int 58)] (.int 0)) (hrg : ∀ c ∈ hs, ¬ c < 0 ∧ ¬ (255 : Int32) < c) (hl2 : hs.length ≤ 2) (hin : (58 : Int32) ∈ hs) :
    own_C l Z (⟨"java/lang/StringLatin1", "indexOf", "([B[B)I"⟩ : MethodName) jdk_43_method_24_code 2 (some .int) ws ({ frames := 2, cells := 0, slots := 0, locals := 50 } : Room) #[(.ref a1), (.ref a2)] h0 (Q15Y Z a1 a2 k9 k8 hs h0 n0) := by
  intro p e ha hc hk s m args below hf_ happ hP hK
  match hs, hl2 with
  | [], _ => cases hin
  | [h0_], _ => 
    have e1 : h0_ = (58 : Int32) := by simpa [eq_comm] using hin
    obtain ⟨q1, q2, q3, q4, q5, v, L, rfl, ⟨rfl, N, K⟩, hF⟩ := rm15r1y l Z a0 hw ws a1 a2 k9 k8 (h0_.toInt8.toInt32) h0 n0 O0 HV_a1 HV_a2 ((own_58 (hrg _ (List.mem_of_getElem? (i := 0) rfl))).mpr e1) p e ha hc hk s m args below hf_ happ hP hK
    exact ⟨q1, _, q3, q4, q5, _, L, rfl, ⟨_, rfl, N, K, by decide⟩, hF⟩
  | [h0_, h1_], _ => 
    by_cases e1 : h0_ = (58 : Int32)
    · obtain ⟨q1, q2, q3, q4, q5, v, L, rfl, ⟨rfl, N, K⟩, hF⟩ := rm15r2a l Z a0 hw ws a1 a2 k9 k8 (h0_.toInt8.toInt32) (h1_.toInt8.toInt32) h0 n0 O0 HV_a1 HV_a2 ((own_58 (hrg _ (List.mem_of_getElem? (i := 0) rfl))).mpr e1) p e ha hc hk s m args below hf_ happ hP hK
      exact ⟨q1, _, q3, q4, q5, _, L, rfl, ⟨_, rfl, N, K, by decide⟩, hF⟩
    · have e2 : h1_ = (58 : Int32) := by
        rcases List.mem_cons.mp hin with q | q
        · exact absurd q.symm e1
        · exact (List.mem_singleton.mp q).symm
      obtain ⟨q1, q2, q3, q4, q5, v, L, rfl, ⟨rfl, N, K⟩, hF⟩ := rm15r2b l Z a0 hw ws a1 a2 k9 k8 (h0_.toInt8.toInt32) (h1_.toInt8.toInt32) h0 n0 O0 HV_a1 HV_a2 (fun q => e1 ((own_58 (hrg _ (List.mem_of_getElem? (i := 0) rfl))).mp q)) ((own_58 (hrg _ (List.mem_of_getElem? (i := 1) rfl))).mpr e2) p e ha hc hk s m args below hf_ happ hP hK
      exact ⟨q1, _, q3, q4, q5, _, L, rfl, ⟨_, rfl, N, K, by decide⟩, hF⟩
  | _ :: _ :: _ :: _, h => exact absurd h (by simp)
def own_L12 : List (Nat × Instr × Nat) := [(0, .aload_n 0, 1), (1, .invokevirtual 335, 3), (4, .istore_n 2, 1), (5, .iload_n 2, 1), (6, .aload_n 1, 1), (7, .invokevirtual 335, 3), (10, .if_icmp .ne 36, 3), (13, .aload_n 0, 1), (14, .invokevirtual 492, 3), (17, .ifCond .eq 17, 3), (20, .aload_n 0, 1), (21, .getfield 9, 3), (24, .aload_n 1, 1), (25, .getfield 9, 3), (28, .invokestatic 647, 3), (31, .goto 14, 3), (45, .ireturn, 1)]
theorem own_K12 : ∀ x ∈ own_L12, decode jdk_42_method_84_code x.1 = .ok x.2 := by decide +kernel
theorem d12 {c : Code} (hby : c.code = jdk_42_method_84_code) (i : Nat) {k n : Nat} {a : Instr} (h : own_L12[i]? = some (k, a, n)) : decode c.code k = .ok (a, n) := own_dL own_K12 hby h
theorem pd_34 : parseMethodDescriptor "([B[B)I" = some ⟨[(.array .byte), (.array .byte)], some .int⟩ := by decide +kernel
def Q12N (Z : State) (a1 a2 t1 t2 : Addr) (k9 k8 : ClassId) (zC : Int32) (hs : List Int32) (h0 : Heap) (n0 : Nat) (v : Option Value) (h : Heap) (L : List Loc) : Prop := v = some (.int (-1 : Int32)) ∧ Fr n0 L ∧ h = h0
theorem ef_12 (m : MethodId) (x0 : Addr) (x1 : Addr) : entryFrame m #[(.ref x0), (.ref x1)] 3 = mkF m 0 #[.val (.ref x0), .val (.ref x1), .unset] [] := by first | (simp [entryFrame, mkF, argsToLocals, Value.category]; done) | rfl
theorem rm12N (l : Launch) (Z : State) (a0 : Array Value) (hw : ∀ d ∈ tables_1, d.before a0 Z = true) (ws : List Jvm.Cond) (a1 a2 t1 t2 : Addr) (k9 k8 : ClassId) (zC : Int32) (hs : List Int32) (h0 : Heap) (n0 : Nat) (O0 : Old Z n0 h0) (HE_a1 : Exa Z h0 a1 "java/lang/String") (HF_a1_value : Fld Z h0 a1 "java/lang/String" "value" "[B" (.ref t1)) (HF_a1_coder : Fld Z h0 a1 "java/lang/String" "coder" "B" (.int 0)) (HV_t1 : Arv Z h0 t1 k9 .byte (own_n hs) (own_by hs) (.int 0)) (HE_a2 : Exa Z h0 a2 "java/lang/String") (HF_a2_value : Fld Z h0 a2 "java/lang/String" "value" "[B" (.ref t2)) (HF_a2_coder : Fld Z h0 a2 "java/lang/String" "coder" "B" (.int 0)) (HV_t2 : Arv Z h0 t2 k8 .byte (1 : Int32) [(.int 58)] (.int 0)) (S_COMPACT_STRINGS : Sta Z Z.heap "java/lang/String" "COMPACT_STRINGS" "Z" (.int zC)) (h1_hc3 : ¬ (zC = (0 : Int32))) (h28_hrg : ∀ c ∈ hs, ¬ c < 0 ∧ ¬ (255 : Int32) < c) (h28_hl2 : hs.length ≤ 2) (h28_hin : ¬ ((58 : Int32) ∈ hs)) :
    own_C l Z (⟨"java/lang/String", "indexOf", "(Ljava/lang/String;)I"⟩ : MethodName) jdk_42_method_84_code 3 (some .int) ws ({ frames := 3, cells := 0, slots := 0, locals := 63 } : Room) #[(.ref a1), (.ref a2)] h0 (Q12N Z a1 a2 t1 t2 k9 k8 zC hs h0 n0) := by
  refine own_intro (plainFor_of_name pnc_java_lang_String) fun p e s m below meth c s₁ hx hby hml hown hnm hZ e0 hret X0 => ?_
  have N0 := Fr.nil n0
  have Z0 : n0 ≤ h0.size := O0.1 ▸ O0.2.1
  obtain ⟨cq3, kq3, q3a, q3b, q3c⟩ := isOf hZ e0 HE_a1
  obtain ⟨vr3, _, ⟨T3, L3, k3, n3⟩, -, X3, ⟨Lc3, hQ3, l3, y3, z3⟩, st3⟩ := X0.virtualBack hx (y := (⟨"java/lang/String", "coder", "()B"⟩ : MethodName)) (z := (⟨"java/lang/String", "coder", "()B"⟩ : MethodName)) hown (mvT hZ (own_w hw 78 rfl)) (mvT hZ (own_w hw 79 rfl)) (notFace_of_selects (args := #[]) (mvT hZ (own_w hw 81 rfl))) (mvT hZ (own_w hw 81 rfl)) (mvT hZ (own_w hw 80 rfl)) (by decide) (backOf (W := 0) (rm13 l Z a0 hw [] a1 zC h0 n0 O0 S_COMPACT_STRINGS h1_hc3 HF_a1_coder) hZ (own_w hw 82 rfl) (own_w hw 3 rfl) (by decide) (by decide)) q3a q3c (g := (mkF m 1 #[.val (.ref a1), .val (.ref a2), .unset] [(.ref a1)])) rfl (by rw [hml]; rfl) (Steps.refl _) (argsL := []) (rest := []) (lenOf pd_0 rfl) rfl (by show 2 * 0 + _ ≤ _; exact Nat.le_of_eq rfl) (d12 hby 1 rfl) (fun _ _ => ⟨rfl, e0, (by decide : 0 + 0 ≤ _), (by decide : 0 + 0 ≤ _)⟩)
  dsimp only [Pt.U, Pt.locs, Pt.cells, Pt.slots] at X3 l3 y3 z3 st3 hQ3
  subst l3 y3 z3
  obtain ⟨rfl, N3q, e3⟩ := hQ3
  have N3 := Fr.app N0 N3q
  replace X3 := X3.more (cells' := 0) (slots' := 0) (by decide) (by decide)
  obtain ⟨cq4, kq4, q4a, q4b, q4c⟩ := isOf hZ e3 HE_a2
  obtain ⟨vr4, _, ⟨T4, L4, k4, n4⟩, -, X4, ⟨Lc4, hQ4, l4, y4, z4⟩, st4⟩ := X3.virtualBack hx (y := (⟨"java/lang/String", "coder", "()B"⟩ : MethodName)) (z := (⟨"java/lang/String", "coder", "()B"⟩ : MethodName)) hown (mvT hZ (own_w hw 78 rfl)) (mvT hZ (own_w hw 79 rfl)) (notFace_of_selects (args := #[]) (mvT hZ (own_w hw 81 rfl))) (mvT hZ (own_w hw 81 rfl)) (mvT hZ (own_w hw 80 rfl)) (by decide) (backOf (W := 1) (rm13 l Z a0 hw [] a2 zC h0 n0 O0 S_COMPACT_STRINGS h1_hc3 HF_a2_coder) hZ (own_w hw 82 rfl) (own_w hw 3 rfl) (by decide) (by decide)) q4a q4c (g := (mkF m 7 #[.val (.ref a1), .val (.ref a2), .val (.int 0)] [(.ref a2), (.int 0)])) rfl (by rw [hml]; rfl) (Steps.refl _) (argsL := []) (rest := [(.int 0)]) (lenOf pd_0 rfl) rfl (by show 2 * 0 + _ ≤ _; exact Nat.le_of_eq rfl) (d12 hby 5 rfl) (fun _ _ => ⟨rfl, e3, (by decide : 0 + 0 ≤ _), (by decide : 0 + 0 ≤ _)⟩)
  dsimp only [Pt.U, Pt.locs, Pt.cells, Pt.slots] at X4 l4 y4 z4 st4 hQ4
  subst l4 y4 z4
  obtain ⟨rfl, N4q, e4⟩ := hQ4
  have N4 := Fr.app N3 N4q
  replace X4 := X4.more (cells' := 0) (slots' := 0) (by decide) (by decide)
  obtain ⟨cq5, kq5, q5a, q5b, q5c⟩ := isOf hZ e4 HE_a1
  obtain ⟨vr5, _, ⟨T5, L5, k5, n5⟩, -, X5, ⟨Lc5, hQ5, l5, y5, z5⟩, st5⟩ := X4.virtualBack hx (y := (⟨"java/lang/String", "isLatin1", "()Z"⟩ : MethodName)) (z := (⟨"java/lang/String", "isLatin1", "()Z"⟩ : MethodName)) hown (mvT hZ (own_w hw 83 rfl)) (mvT hZ (own_w hw 84 rfl)) (notFace_of_selects (args := #[]) (mvT hZ (own_w hw 86 rfl))) (mvT hZ (own_w hw 86 rfl)) (mvT hZ (own_w hw 85 rfl)) (by decide) (backOf (W := 0) (rm14 l Z a0 hw [] a1 zC h0 n0 O0 S_COMPACT_STRINGS h1_hc3 HF_a1_coder) hZ (own_w hw 87 rfl) (own_w hw 3 rfl) (by decide) (by decide)) q5a q5c (g := (mkF m 14 #[.val (.ref a1), .val (.ref a2), .val (.int 0)] [(.ref a1)])) rfl (by rw [hml]; rfl) (Steps.refl _) (argsL := []) (rest := []) (lenOf pd_5 rfl) rfl (by show 2 * 0 + _ ≤ _; exact Nat.le_of_eq rfl) (d12 hby 8 rfl) (fun _ _ => ⟨rfl, e4, (by decide : 0 + 0 ≤ _), (by decide : 0 + 0 ≤ _)⟩)
  dsimp only [Pt.U, Pt.locs, Pt.cells, Pt.slots] at X5 l5 y5 z5 st5 hQ5
  subst l5 y5 z5
  obtain ⟨rfl, N5q, e5⟩ := hQ5
  have N5 := Fr.app N4 N5q
  replace X5 := X5.more (cells' := 0) (slots' := 0) (by decide) (by decide)
  obtain ⟨T6, X6, e6, st6⟩ := getF X5 hx hZ hown (host := "") (Or.inl (own_w hw 29 rfl)) Via.refl e5 HF_a1_value (g := (mkF m 21 #[.val (.ref a1), .val (.ref a2), .val (.int 0)] [(.ref a1)])) rfl rfl (d12 hby 11 rfl)
  obtain ⟨T7, X7, e7, st7⟩ := getF X6 hx hZ hown (host := "") (Or.inl (own_w hw 29 rfl)) Via.refl e6 HF_a2_value (g := (mkF m 25 #[.val (.ref a1), .val (.ref a2), .val (.int 0)] [(.ref a2), (.ref t1)])) rfl rfl (d12 hby 13 rfl)
  obtain ⟨vr8, _, ⟨T8, L8, k8, n8⟩, -, X8, ⟨Lc8, hQ8, l8, y8, z8⟩, st8⟩ := Jvm.LawKit.callS X7 hx (y := (⟨"java/lang/StringLatin1", "indexOf", "([B[B)I"⟩ : MethodName)) hown (mvT hZ (own_w hw 88 rfl)) (mvT hZ (own_w hw 89 rfl)) (mvT hZ (own_w hw 90 rfl)) (mvT hZ (own_w hw 91 rfl)) (by decide) (backOf (W := 0) (rm15N l Z a0 hw [] t1 t2 k9 k8 hs h0 n0 O0 HV_t1 HV_t2 h28_hrg h28_hl2 h28_hin) hZ (own_w hw 91 rfl) (own_w hw 90 rfl) (by decide) (by decide)) (g := (mkF m 28 #[.val (.ref a1), .val (.ref a2), .val (.int 0)] [(.ref t2), (.ref t1)])) rfl (by rw [hml]; rfl) (argsL := [(.ref t1), (.ref t2)]) (rest := []) (lenOf pd_34 rfl) rfl (by show 2 * 0 + _ ≤ _; exact Nat.le_of_eq rfl) (d12 hby 14 rfl) (fun _ _ => ⟨rfl, e7, (by decide : 0 + 0 ≤ _), (by decide : 0 + 0 ≤ _)⟩)
  dsimp only [Pt.U, Pt.locs, Pt.cells, Pt.slots] at X8 l8 y8 z8 st8 hQ8
  subst l8 y8 z8
  obtain ⟨rfl, N8q, e8⟩ := hQ8
  have N8 := Fr.app N5 N8q
  replace X8 := X8.more (cells' := 0) (slots' := 0) (by decide) (by decide)
  refine ⟨T8, _, _, _, some (.int (-1 : Int32)), X8, by decide, by decide, nofun, ?_, fun fs hr => castTop (ef_12 m a1 a2) ?_⟩
  · show Q12N Z a1 a2 t1 t2 k9 k8 zC hs h0 n0 _ T8.heap _
    rw [e8]
    exact ⟨rfl, N8, rfl⟩
  · show Steps p.tables e below (s₁.setTop (mkF m 0 #[.val (.ref a1), .val (.ref a2), .unset] [])) _
    refine XS.aloadN X0.here hx rfl (d12 hby 0 rfl) rfl rfl ?_
    refine st3.trans ?_
    refine XS.istoreN X3.here hx rfl (d12 hby 2 rfl) rfl (l' := #[.val (.ref a1), .val (.ref a2), .val (.int 0)]) rfl ?_
    refine XS.iloadN X3.here hx rfl (d12 hby 3 rfl) rfl ?_
    refine XS.aloadN X3.here hx rfl (d12 hby 4 rfl) rfl rfl ?_
    refine st4.trans ?_
    refine XS.icmpNo X4.here hx rfl (d12 hby 6 rfl) rfl (teq (by decide : (0 : Int32) = (0 : Int32))).2 ?_
    refine XS.aloadN X4.here hx rfl (d12 hby 7 rfl) rfl rfl ?_
    refine st5.trans ?_
    refine XS.ifNo X5.here hx rfl (d12 hby 9 rfl) rfl ((if0 _ _).trans (feq (by decide : ¬ ((1 : Int32) = (0 : Int32)))).1) ?_
    refine XS.aloadN X5.here hx rfl (d12 hby 10 rfl) rfl rfl ?_
    refine st6 _ ?_
    refine XS.aloadN X6.here hx rfl (d12 hby 12 rfl) rfl rfl ?_
    refine st7 _ ?_
    refine st8 _ ?_
    refine XS.goto X8.here hx rfl (pc0 := 31) (pc' := 45) rfl (d12 hby 15 rfl) (by decide) (by decide) ?_
    exact own_retI X8 hx hret (d12 hby 16 rfl) hr
def Q12Y (Z : State) (a1 a2 t1 t2 : Addr) (k9 k8 : ClassId) (zC : Int32) (hs : List Int32) (h0 : Heap) (n0 : Nat) (v : Option Value) (h : Heap) (L : List Loc) : Prop := ∃ y9 : Int32, v = some (.int y9) ∧ Fr n0 L ∧ h = h0 ∧ ¬ (y9 < (0 : Int32))
theorem rm12Y (l : Launch) (Z : State) (a0 : Array Value) (hw : ∀ d ∈ tables_1, d.before a0 Z = true) (ws : List Jvm.Cond) (a1 a2 t1 t2 : Addr) (k9 k8 : ClassId) (zC : Int32) (hs : List Int32) (h0 : Heap) (n0 : Nat) (O0 : Old Z n0 h0) (HE_a1 : Exa Z h0 a1 "java/lang/String") (HF_a1_value : Fld Z h0 a1 "java/lang/String" "value" "[B" (.ref t1)) (HF_a1_coder : Fld Z h0 a1 "java/lang/String" "coder" "B" (.int 0)) (HV_t1 : Arv Z h0 t1 k9 .byte (own_n hs) (own_by hs) (.int 0)) (HE_a2 : Exa Z h0 a2 "java/lang/String") (HF_a2_value : Fld Z h0 a2 "java/lang/String" "value" "[B" (.ref t2)) (HF_a2_coder : Fld Z h0 a2 "java/lang/String" "coder" "B" (.int 0)) (HV_t2 : Arv Z h0 t2 k8 .byte (1 : Int32) [(.int 58)] (.int 0)) (S_COMPACT_STRINGS : Sta Z Z.heap "java/lang/String" "COMPACT_STRINGS" "Z" (.int zC)) (h1_hc3 : ¬ (zC = (0 : Int32))) (h28_hrg : ∀ c ∈ hs, ¬ c < 0 ∧ ¬ (255 : Int32) < c) (h28_hl2 : hs.length ≤ 2) (h28_hin : (58 : Int32) ∈ hs) :
    own_C l Z (⟨"java/lang/String", "indexOf", "(Ljava/lang/String;)I"⟩ : MethodName) jdk_42_method_84_code 3 (some .int) ws ({ frames := 3, cells := 0, slots := 0, locals := 63 } : Room) #[(.ref a1), (.ref a2)] h0 (Q12Y Z a1 a2 t1 t2 k9 k8 zC hs h0 n0) := by
  refine own_intro (plainFor_of_name pnc_java_lang_String) fun p e s m below meth c s₁ hx hby hml hown hnm hZ e0 hret X0 => ?_
  have N0 := Fr.nil n0
  have Z0 : n0 ≤ h0.size := O0.1 ▸ O0.2.1
  obtain ⟨cq3, kq3, q3a, q3b, q3c⟩ := isOf hZ e0 HE_a1
  obtain ⟨vr3, _, ⟨T3, L3, k3, n3⟩, -, X3, ⟨Lc3, hQ3, l3, y3, z3⟩, st3⟩ := X0.virtualBack hx (y := (⟨"java/lang/String", "coder", "()B"⟩ : MethodName)) (z := (⟨"java/lang/String", "coder", "()B"⟩ : MethodName)) hown (mvT hZ (own_w hw 78 rfl)) (mvT hZ (own_w hw 79 rfl)) (notFace_of_selects (args := #[]) (mvT hZ (own_w hw 81 rfl))) (mvT hZ (own_w hw 81 rfl)) (mvT hZ (own_w hw 80 rfl)) (by decide) (backOf (W := 0) (rm13 l Z a0 hw [] a1 zC h0 n0 O0 S_COMPACT_STRINGS h1_hc3 HF_a1_coder) hZ (own_w hw 82 rfl) (own_w hw 3 rfl) (by decide) (by decide)) q3a q3c (g := (mkF m 1 #[.val (.ref a1), .val (.ref a2), .unset] [(.ref a1)])) rfl (by rw [hml]; rfl) (Steps.refl _) (argsL := []) (rest := []) (lenOf pd_0 rfl) rfl (by show 2 * 0 + _ ≤ _; exact Nat.le_of_eq rfl) (d12 hby 1 rfl) (fun _ _ => ⟨rfl, e0, (by decide : 0 + 0 ≤ _), (by decide : 0 + 0 ≤ _)⟩)
  dsimp only [Pt.U, Pt.locs, Pt.cells, Pt.slots] at X3 l3 y3 z3 st3 hQ3
  subst l3 y3 z3
  obtain ⟨rfl, N3q, e3⟩ := hQ3
  have N3 := Fr.app N0 N3q
  replace X3 := X3.more (cells' := 0) (slots' := 0) (by decide) (by decide)
  obtain ⟨cq4, kq4, q4a, q4b, q4c⟩ := isOf hZ e3 HE_a2
  obtain ⟨vr4, _, ⟨T4, L4, k4, n4⟩, -, X4, ⟨Lc4, hQ4, l4, y4, z4⟩, st4⟩ := X3.virtualBack hx (y := (⟨"java/lang/String", "coder", "()B"⟩ : MethodName)) (z := (⟨"java/lang/String", "coder", "()B"⟩ : MethodName)) hown (mvT hZ (own_w hw 78 rfl)) (mvT hZ (own_w hw 79 rfl)) (notFace_of_selects (args := #[]) (mvT hZ (own_w hw 81 rfl))) (mvT hZ (own_w hw 81 rfl)) (mvT hZ (own_w hw 80 rfl)) (by decide) (backOf (W := 1) (rm13 l Z a0 hw [] a2 zC h0 n0 O0 S_COMPACT_STRINGS h1_hc3 HF_a2_coder) hZ (own_w hw 82 rfl) (own_w hw 3 rfl) (by decide) (by decide)) q4a q4c (g := (mkF m 7 #[.val (.ref a1), .val (.ref a2), .val (.int 0)] [(.ref a2), (.int 0)])) rfl (by rw [hml]; rfl) (Steps.refl _) (argsL := []) (rest := [(.int 0)]) (lenOf pd_0 rfl) rfl (by show 2 * 0 + _ ≤ _; exact Nat.le_of_eq rfl) (d12 hby 5 rfl) (fun _ _ => ⟨rfl, e3, (by decide : 0 + 0 ≤ _), (by decide : 0 + 0 ≤ _)⟩)
  dsimp only [Pt.U, Pt.locs, Pt.cells, Pt.slots] at X4 l4 y4 z4 st4 hQ4
  subst l4 y4 z4
  obtain ⟨rfl, N4q, e4⟩ := hQ4
  have N4 := Fr.app N3 N4q
  replace X4 := X4.more (cells' := 0) (slots' := 0) (by decide) (by decide)
  obtain ⟨cq5, kq5, q5a, q5b, q5c⟩ := isOf hZ e4 HE_a1
  obtain ⟨vr5, _, ⟨T5, L5, k5, n5⟩, -, X5, ⟨Lc5, hQ5, l5, y5, z5⟩, st5⟩ := X4.virtualBack hx (y := (⟨"java/lang/String", "isLatin1", "()Z"⟩ : MethodName)) (z := (⟨"java/lang/String", "isLatin1", "()Z"⟩ : MethodName)) hown (mvT hZ (own_w hw 83 rfl)) (mvT hZ (own_w hw 84 rfl)) (notFace_of_selects (args := #[]) (mvT hZ (own_w hw 86 rfl))) (mvT hZ (own_w hw 86 rfl)) (mvT hZ (own_w hw 85 rfl)) (by decide) (backOf (W := 0) (rm14 l Z a0 hw [] a1 zC h0 n0 O0 S_COMPACT_STRINGS h1_hc3 HF_a1_coder) hZ (own_w hw 87 rfl) (own_w hw 3 rfl) (by decide) (by decide)) q5a q5c (g := (mkF m 14 #[.val (.ref a1), .val (.ref a2), .val (.int 0)] [(.ref a1)])) rfl (by rw [hml]; rfl) (Steps.refl _) (argsL := []) (rest := []) (lenOf pd_5 rfl) rfl (by show 2 * 0 + _ ≤ _; exact Nat.le_of_eq rfl) (d12 hby 8 rfl) (fun _ _ => ⟨rfl, e4, (by decide : 0 + 0 ≤ _), (by decide : 0 + 0 ≤ _)⟩)
  dsimp only [Pt.U, Pt.locs, Pt.cells, Pt.slots] at X5 l5 y5 z5 st5 hQ5
  subst l5 y5 z5
  obtain ⟨rfl, N5q, e5⟩ := hQ5
  have N5 := Fr.app N4 N5q
  replace X5 := X5.more (cells' := 0) (slots' := 0) (by decide) (by decide)
  obtain ⟨T6, X6, e6, st6⟩ := getF X5 hx hZ hown (host := "") (Or.inl (own_w hw 29 rfl)) Via.refl e5 HF_a1_value (g := (mkF m 21 #[.val (.ref a1), .val (.ref a2), .val (.int 0)] [(.ref a1)])) rfl rfl (d12 hby 11 rfl)
  obtain ⟨T7, X7, e7, st7⟩ := getF X6 hx hZ hown (host := "") (Or.inl (own_w hw 29 rfl)) Via.refl e6 HF_a2_value (g := (mkF m 25 #[.val (.ref a1), .val (.ref a2), .val (.int 0)] [(.ref a2), (.ref t1)])) rfl rfl (d12 hby 13 rfl)
  obtain ⟨vr8, _, ⟨T8, L8, k8, n8⟩, -, X8, ⟨Lc8, hQ8, l8, y8, z8⟩, st8⟩ := Jvm.LawKit.callS X7 hx (y := (⟨"java/lang/StringLatin1", "indexOf", "([B[B)I"⟩ : MethodName)) hown (mvT hZ (own_w hw 88 rfl)) (mvT hZ (own_w hw 89 rfl)) (mvT hZ (own_w hw 90 rfl)) (mvT hZ (own_w hw 91 rfl)) (by decide) (backOf (W := 0) (rm15Y l Z a0 hw [] t1 t2 k9 k8 hs h0 n0 O0 HV_t1 HV_t2 h28_hrg h28_hl2 h28_hin) hZ (own_w hw 91 rfl) (own_w hw 90 rfl) (by decide) (by decide)) (g := (mkF m 28 #[.val (.ref a1), .val (.ref a2), .val (.int 0)] [(.ref t2), (.ref t1)])) rfl (by rw [hml]; rfl) (argsL := [(.ref t1), (.ref t2)]) (rest := []) (lenOf pd_34 rfl) rfl (by show 2 * 0 + _ ≤ _; exact Nat.le_of_eq rfl) (d12 hby 14 rfl) (fun _ _ => ⟨rfl, e7, (by decide : 0 + 0 ≤ _), (by decide : 0 + 0 ≤ _)⟩)
  dsimp only [Pt.U, Pt.locs, Pt.cells, Pt.slots] at X8 l8 y8 z8 st8 hQ8
  subst l8 y8 z8
  obtain ⟨y9, rfl, N8q, e8, Y8_0⟩ := hQ8
  have N8 := Fr.app N5 N8q
  replace X8 := X8.more (cells' := 0) (slots' := 0) (by decide) (by decide)
  refine ⟨T8, _, _, _, some (.int y9), X8, by decide, by decide, nofun, ?_, fun fs hr => castTop (ef_12 m a1 a2) ?_⟩
  · show Q12Y Z a1 a2 t1 t2 k9 k8 zC hs h0 n0 _ T8.heap _
    rw [e8]
    exact ⟨y9, rfl, N8, rfl, Y8_0⟩
  · show Steps p.tables e below (s₁.setTop (mkF m 0 #[.val (.ref a1), .val (.ref a2), .unset] [])) _
    refine XS.aloadN X0.here hx rfl (d12 hby 0 rfl) rfl rfl ?_
    refine st3.trans ?_
    refine XS.istoreN X3.here hx rfl (d12 hby 2 rfl) rfl (l' := #[.val (.ref a1), .val (.ref a2), .val (.int 0)]) rfl ?_
    refine XS.iloadN X3.here hx rfl (d12 hby 3 rfl) rfl ?_
    refine XS.aloadN X3.here hx rfl (d12 hby 4 rfl) rfl rfl ?_
    refine st4.trans ?_
    refine XS.icmpNo X4.here hx rfl (d12 hby 6 rfl) rfl (teq (by decide : (0 : Int32) = (0 : Int32))).2 ?_
    refine XS.aloadN X4.here hx rfl (d12 hby 7 rfl) rfl rfl ?_
    refine st5.trans ?_
    refine XS.ifNo X5.here hx rfl (d12 hby 9 rfl) rfl ((if0 _ _).trans (feq (by decide : ¬ ((1 : Int32) = (0 : Int32)))).1) ?_
    refine XS.aloadN X5.here hx rfl (d12 hby 10 rfl) rfl rfl ?_
    refine st6 _ ?_
    refine XS.aloadN X6.here hx rfl (d12 hby 12 rfl) rfl rfl ?_
    refine st7 _ ?_
    refine st8 _ ?_
    refine XS.goto X8.here hx rfl (pc0 := 31) (pc' := 45) rfl (d12 hby 15 rfl) (by decide) (by decide) ?_
    exact own_retI X8 hx hret (d12 hby 16 rfl) hr
def own_L10 : List (Nat × Instr × Nat) := [(0, .aload_n 0, 1), (1, .aload_n 1, 1), (2, .invokeinterface 710 1, 5), (7, .invokevirtual 711, 3), (10, .ifCond .lt 7, 3), (17, .iconst 0, 1), (18, .ireturn, 1), (13, .iconst 1, 1), (14, .goto 4, 3)]
theorem own_K10 : ∀ x ∈ own_L10, decode jdk_42_method_97_code x.1 = .ok x.2 := by decide +kernel
theorem d10 {c : Code} (hby : c.code = jdk_42_method_97_code) (i : Nat) {k n : Nat} {a : Instr} (h : own_L10[i]? = some (k, a, n)) : decode c.code k = .ok (a, n) := own_dL own_K10 hby h
theorem pd_3 : parseMethodDescriptor "()Ljava/lang/String;" = some ⟨[], some (.object "java/lang/String")⟩ := by decide +kernel
theorem pd_21 : parseMethodDescriptor "(Ljava/lang/String;)I" = some ⟨[(.object "java/lang/String")], some .int⟩ := by decide +kernel
def Q10N (Z : State) (a1 a2 t1 t2 : Addr) (k9 k8 : ClassId) (zC : Int32) (hs : List Int32) (h0 : Heap) (n0 : Nat) (v : Option Value) (h : Heap) (L : List Loc) : Prop := v = some (.int 0) ∧ Fr n0 L ∧ h = h0
theorem ef_10 (m : MethodId) (x0 : Addr) (x1 : Addr) : entryFrame m #[(.ref x0), (.ref x1)] 2 = mkF m 0 #[.val (.ref x0), .val (.ref x1)] [] := by first | (simp [entryFrame, mkF, argsToLocals, Value.category]; done) | rfl
theorem rm10N (l : Launch) (Z : State) (a0 : Array Value) (hw : ∀ d ∈ tables_1, d.before a0 Z = true) (ws : List Jvm.Cond) (a1 a2 t1 t2 : Addr) (k9 k8 : ClassId) (zC : Int32) (hs : List Int32) (h0 : Heap) (n0 : Nat) (O0 : Old Z n0 h0) (HE_a1 : Exa Z h0 a1 "java/lang/String") (HF_a1_value : Fld Z h0 a1 "java/lang/String" "value" "[B" (.ref t1)) (HF_a1_coder : Fld Z h0 a1 "java/lang/String" "coder" "B" (.int 0)) (HV_t1 : Arv Z h0 t1 k9 .byte (own_n hs) (own_by hs) (.int 0)) (HE_a2 : Exa Z h0 a2 "java/lang/String") (HF_a2_value : Fld Z h0 a2 "java/lang/String" "value" "[B" (.ref t2)) (HF_a2_coder : Fld Z h0 a2 "java/lang/String" "coder" "B" (.int 0)) (HV_t2 : Arv Z h0 t2 k8 .byte (1 : Int32) [(.int 58)] (.int 0)) (S_COMPACT_STRINGS : Sta Z Z.heap "java/lang/String" "COMPACT_STRINGS" "Z" (.int zC)) (h7_h1_hc3 : ¬ (zC = (0 : Int32))) (h7_h28_hrg : ∀ c ∈ hs, ¬ c < 0 ∧ ¬ (255 : Int32) < c) (h7_h28_hl2 : hs.length ≤ 2) (h7_h28_hin : ¬ ((58 : Int32) ∈ hs)) :
    own_C l Z (⟨"java/lang/String", "contains", "(Ljava/lang/CharSequence;)Z"⟩ : MethodName) jdk_42_method_97_code 2 (some .boolean) ws ({ frames := 4, cells := 0, slots := 0, locals := 77 } : Room) #[(.ref a1), (.ref a2)] h0 (Q10N Z a1 a2 t1 t2 k9 k8 zC hs h0 n0) := by
  refine own_intro (plainFor_of_name pnc_java_lang_String) fun p e s m below meth c s₁ hx hby hml hown hnm hZ e0 hret X0 => ?_
  have N0 := Fr.nil n0
  have Z0 : n0 ≤ h0.size := O0.1 ▸ O0.2.1
  obtain ⟨cq3, kq3, q3a, q3b, q3c⟩ := isOf hZ e0 HE_a2
  obtain ⟨vr3, _, ⟨T3, L3, k3, n3⟩, -, X3, ⟨Lc3, hQ3, l3, y3, z3⟩, st3⟩ := X0.interfaceBack hx (xi := (⟨"java/lang/CharSequence", "toString", "()Ljava/lang/String;"⟩ : MethodName)) (y := (⟨"java/lang/String", "toString", "()Ljava/lang/String;"⟩ : MethodName)) hown (mvT hZ (own_w hw 64 rfl)) (mvT hZ (own_w hw 65 rfl)) (mvT hZ (own_w hw 66 rfl)) (mvT hZ (own_w hw 67 rfl)) (mvT hZ (own_w hw 68 rfl)) (mvT hZ (own_w hw 69 rfl)) (mvT hZ (own_w hw 70 rfl)) (mvT hZ (own_w hw 71 rfl)) (by decide) (backOf (W := 1) (rm11 l Z a0 hw [] a2 h0 n0 O0) hZ (own_w hw 72 rfl) (own_w hw 3 rfl) (by decide) (by decide)) q3a q3b q3c (g := (mkF m 2 #[.val (.ref a1), .val (.ref a2)] [(.ref a2), (.ref a1)])) rfl (by rw [hml]; rfl) (Steps.refl _) (argsL := []) (rest := [(.ref a1)]) (lenOf pd_3 rfl) rfl (by show 2 * 0 + _ ≤ _; exact Nat.le_of_eq rfl) (d10 hby 2 rfl) (fun _ _ => ⟨rfl, e0, (by decide : 0 + 0 ≤ _), (by decide : 0 + 0 ≤ _)⟩)
  dsimp only [Pt.U, Pt.locs, Pt.cells, Pt.slots] at X3 l3 y3 z3 st3 hQ3
  subst l3 y3 z3
  obtain ⟨rfl, N3q, e3⟩ := hQ3
  have N3 := Fr.app N0 N3q
  replace X3 := X3.more (cells' := 0) (slots' := 0) (by decide) (by decide)
  obtain ⟨cq4, kq4, q4a, q4b, q4c⟩ := isOf hZ e3 HE_a1
  obtain ⟨vr4, _, ⟨T4, L4, k4, n4⟩, -, X4, ⟨Lc4, hQ4, l4, y4, z4⟩, st4⟩ := X3.virtualBack hx (y := (⟨"java/lang/String", "indexOf", "(Ljava/lang/String;)I"⟩ : MethodName)) (z := (⟨"java/lang/String", "indexOf", "(Ljava/lang/String;)I"⟩ : MethodName)) hown (mvT hZ (own_w hw 73 rfl)) (mvT hZ (own_w hw 74 rfl)) (notFace_of_selects (args := #[]) (mvT hZ (own_w hw 76 rfl))) (mvT hZ (own_w hw 76 rfl)) (mvT hZ (own_w hw 75 rfl)) (by decide) (backOf (W := 0) (rm12N l Z a0 hw [] a1 a2 t1 t2 k9 k8 zC hs h0 n0 O0 HE_a1 HF_a1_value HF_a1_coder HV_t1 HE_a2 HF_a2_value HF_a2_coder HV_t2 S_COMPACT_STRINGS h7_h1_hc3 h7_h28_hrg h7_h28_hl2 h7_h28_hin) hZ (own_w hw 77 rfl) (own_w hw 3 rfl) (by decide) (by decide)) q4a q4c (g := (mkF m 7 #[.val (.ref a1), .val (.ref a2)] [(.ref a2), (.ref a1)])) rfl (by rw [hml]; rfl) (Steps.refl _) (argsL := [(.ref a2)]) (rest := []) (lenOf pd_21 rfl) rfl (by show 2 * 0 + _ ≤ _; exact Nat.le_of_eq rfl) (d10 hby 3 rfl) (fun _ _ => ⟨rfl, e3, (by decide : 0 + 0 ≤ _), (by decide : 0 + 0 ≤ _)⟩)
  dsimp only [Pt.U, Pt.locs, Pt.cells, Pt.slots] at X4 l4 y4 z4 st4 hQ4
  subst l4 y4 z4
  obtain ⟨rfl, N4q, e4⟩ := hQ4
  have N4 := Fr.app N3 N4q
  replace X4 := X4.more (cells' := 0) (slots' := 0) (by decide) (by decide)
  refine ⟨T4, _, _, _, some (.int 0), X4, by decide, by decide, nofun, ?_, fun fs hr => castTop (ef_10 m a1 a2) ?_⟩
  · show Q10N Z a1 a2 t1 t2 k9 k8 zC hs h0 n0 _ T4.heap _
    rw [e4]
    exact ⟨rfl, N4, rfl⟩
  · show Steps p.tables e below (s₁.setTop (mkF m 0 #[.val (.ref a1), .val (.ref a2)] [])) _
    refine XS.aloadN X0.here hx rfl (d10 hby 0 rfl) rfl rfl ?_
    refine XS.aloadN X0.here hx rfl (d10 hby 1 rfl) rfl rfl ?_
    refine st3.trans ?_
    refine st4.trans ?_
    refine XS.ifYes X4.here hx rfl (pc0 := 10) (pc' := 17) rfl (d10 hby 4 rfl) rfl ((if0 _ _).trans (tlt (by decide : (-1 : Int32) < (0 : Int32))).1) (by decide) (by decide) ?_
    refine XS.iconst X4.here hx rfl (d10 hby 5 rfl) ?_
    exact retN X4 hx (t := .boolean) hret (by simp) (d10 hby 6 rfl) hr
def Q10Y (Z : State) (a1 a2 t1 t2 : Addr) (k9 k8 : ClassId) (zC : Int32) (hs : List Int32) (h0 : Heap) (n0 : Nat) (v : Option Value) (h : Heap) (L : List Loc) : Prop := v = some (.int 1) ∧ Fr n0 L ∧ h = h0
theorem rm10Y (l : Launch) (Z : State) (a0 : Array Value) (hw : ∀ d ∈ tables_1, d.before a0 Z = true) (ws : List Jvm.Cond) (a1 a2 t1 t2 : Addr) (k9 k8 : ClassId) (zC : Int32) (hs : List Int32) (h0 : Heap) (n0 : Nat) (O0 : Old Z n0 h0) (HE_a1 : Exa Z h0 a1 "java/lang/String") (HF_a1_value : Fld Z h0 a1 "java/lang/String" "value" "[B" (.ref t1)) (HF_a1_coder : Fld Z h0 a1 "java/lang/String" "coder" "B" (.int 0)) (HV_t1 : Arv Z h0 t1 k9 .byte (own_n hs) (own_by hs) (.int 0)) (HE_a2 : Exa Z h0 a2 "java/lang/String") (HF_a2_value : Fld Z h0 a2 "java/lang/String" "value" "[B" (.ref t2)) (HF_a2_coder : Fld Z h0 a2 "java/lang/String" "coder" "B" (.int 0)) (HV_t2 : Arv Z h0 t2 k8 .byte (1 : Int32) [(.int 58)] (.int 0)) (S_COMPACT_STRINGS : Sta Z Z.heap "java/lang/String" "COMPACT_STRINGS" "Z" (.int zC)) (h7_h1_hc3 : ¬ (zC = (0 : Int32))) (h7_h28_hrg : ∀ c ∈ hs, ¬ c < 0 ∧ ¬ (255 : Int32) < c) (h7_h28_hl2 : hs.length ≤ 2) (h7_h28_hin : (58 : Int32) ∈ hs) :
    own_C l Z (⟨"java/lang/String", "contains", "(Ljava/lang/CharSequence;)Z"⟩ : MethodName) jdk_42_method_97_code 2 (some .boolean) ws ({ frames := 4, cells := 0, slots := 0, locals := 77 } : Room) #[(.ref a1), (.ref a2)] h0 (Q10Y Z a1 a2 t1 t2 k9 k8 zC hs h0 n0) := by
  refine own_intro (plainFor_of_name pnc_java_lang_String) fun p e s m below meth c s₁ hx hby hml hown hnm hZ e0 hret X0 => ?_
  have N0 := Fr.nil n0
  have Z0 : n0 ≤ h0.size := O0.1 ▸ O0.2.1
  obtain ⟨cq3, kq3, q3a, q3b, q3c⟩ := isOf hZ e0 HE_a2
  obtain ⟨vr3, _, ⟨T3, L3, k3, n3⟩, -, X3, ⟨Lc3, hQ3, l3, y3, z3⟩, st3⟩ := X0.interfaceBack hx (xi := (⟨"java/lang/CharSequence", "toString", "()Ljava/lang/String;"⟩ : MethodName)) (y := (⟨"java/lang/String", "toString", "()Ljava/lang/String;"⟩ : MethodName)) hown (mvT hZ (own_w hw 64 rfl)) (mvT hZ (own_w hw 65 rfl)) (mvT hZ (own_w hw 66 rfl)) (mvT hZ (own_w hw 67 rfl)) (mvT hZ (own_w hw 68 rfl)) (mvT hZ (own_w hw 69 rfl)) (mvT hZ (own_w hw 70 rfl)) (mvT hZ (own_w hw 71 rfl)) (by decide) (backOf (W := 1) (rm11 l Z a0 hw [] a2 h0 n0 O0) hZ (own_w hw 72 rfl) (own_w hw 3 rfl) (by decide) (by decide)) q3a q3b q3c (g := (mkF m 2 #[.val (.ref a1), .val (.ref a2)] [(.ref a2), (.ref a1)])) rfl (by rw [hml]; rfl) (Steps.refl _) (argsL := []) (rest := [(.ref a1)]) (lenOf pd_3 rfl) rfl (by show 2 * 0 + _ ≤ _; exact Nat.le_of_eq rfl) (d10 hby 2 rfl) (fun _ _ => ⟨rfl, e0, (by decide : 0 + 0 ≤ _), (by decide : 0 + 0 ≤ _)⟩)
  dsimp only [Pt.U, Pt.locs, Pt.cells, Pt.slots] at X3 l3 y3 z3 st3 hQ3
  subst l3 y3 z3
  obtain ⟨rfl, N3q, e3⟩ := hQ3
  have N3 := Fr.app N0 N3q
  replace X3 := X3.more (cells' := 0) (slots' := 0) (by decide) (by decide)
  obtain ⟨cq4, kq4, q4a, q4b, q4c⟩ := isOf hZ e3 HE_a1
  obtain ⟨vr4, _, ⟨T4, L4, k4, n4⟩, -, X4, ⟨Lc4, hQ4, l4, y4, z4⟩, st4⟩ := X3.virtualBack hx (y := (⟨"java/lang/String", "indexOf", "(Ljava/lang/String;)I"⟩ : MethodName)) (z := (⟨"java/lang/String", "indexOf", "(Ljava/lang/String;)I"⟩ : MethodName)) hown (mvT hZ (own_w hw 73 rfl)) (mvT hZ (own_w hw 74 rfl)) (notFace_of_selects (args := #[]) (mvT hZ (own_w hw 76 rfl))) (mvT hZ (own_w hw 76 rfl)) (mvT hZ (own_w hw 75 rfl)) (by decide) (backOf (W := 0) (rm12Y l Z a0 hw [] a1 a2 t1 t2 k9 k8 zC hs h0 n0 O0 HE_a1 HF_a1_value HF_a1_coder HV_t1 HE_a2 HF_a2_value HF_a2_coder HV_t2 S_COMPACT_STRINGS h7_h1_hc3 h7_h28_hrg h7_h28_hl2 h7_h28_hin) hZ (own_w hw 77 rfl) (own_w hw 3 rfl) (by decide) (by decide)) q4a q4c (g := (mkF m 7 #[.val (.ref a1), .val (.ref a2)] [(.ref a2), (.ref a1)])) rfl (by rw [hml]; rfl) (Steps.refl _) (argsL := [(.ref a2)]) (rest := []) (lenOf pd_21 rfl) rfl (by show 2 * 0 + _ ≤ _; exact Nat.le_of_eq rfl) (d10 hby 3 rfl) (fun _ _ => ⟨rfl, e3, (by decide : 0 + 0 ≤ _), (by decide : 0 + 0 ≤ _)⟩)
  dsimp only [Pt.U, Pt.locs, Pt.cells, Pt.slots] at X4 l4 y4 z4 st4 hQ4
  subst l4 y4 z4
  obtain ⟨y5, rfl, N4q, e4, Y4_0⟩ := hQ4
  have N4 := Fr.app N3 N4q
  replace X4 := X4.more (cells' := 0) (slots' := 0) (by decide) (by decide)
  refine ⟨T4, _, _, _, some (.int 1), X4, by decide, by decide, nofun, ?_, fun fs hr => castTop (ef_10 m a1 a2) ?_⟩
  · show Q10Y Z a1 a2 t1 t2 k9 k8 zC hs h0 n0 _ T4.heap _
    rw [e4]
    exact ⟨rfl, N4, rfl⟩
  · show Steps p.tables e below (s₁.setTop (mkF m 0 #[.val (.ref a1), .val (.ref a2)] [])) _
    refine XS.aloadN X0.here hx rfl (d10 hby 0 rfl) rfl rfl ?_
    refine XS.aloadN X0.here hx rfl (d10 hby 1 rfl) rfl rfl ?_
    refine st3.trans ?_
    refine st4.trans ?_
    refine XS.ifNo X4.here hx rfl (d10 hby 4 rfl) rfl ((if0 _ _).trans (flt Y4_0).1) ?_
    refine XS.iconst X4.here hx rfl (d10 hby 7 rfl) ?_
    refine XS.goto X4.here hx rfl (pc0 := 14) (pc' := 18) rfl (d10 hby 8 rfl) (by decide) (by decide) ?_
    exact retN X4 hx (t := .boolean) hret (by simp) (d10 hby 6 rfl) hr
def own_L7 : List (Nat × Instr × Nat) := [(0, .aload_n 0, 1), (1, .invokespecial 1, 3), (4, .iload_n 2, 1), (5, .ifCond .lt 9, 3), (8, .iload_n 2, 1), (9, .ldc 9, 2), (11, .if_icmp .le 40, 3), (51, .aload_n 0, 1), (52, .aload_n 1, 1), (53, .putfield 33, 3), (56, .aload_n 0, 1), (57, .iload_n 2, 1), (58, .putfield 37, 3), (61, .aload_n 0, 1), (62, .aload_n 3, 1), (63, .putfield 41, 3), (66, .return_, 1)]
theorem own_K7 : ∀ x ∈ own_L7, decode prog_6_method_1_code x.1 = .ok x.2 := by decide +kernel
theorem d7 {c : Code} (hby : c.code = prog_6_method_1_code) (i : Nat) {k n : Nat} {a : Instr} (h : own_L7[i]? = some (k, a, n)) : decode c.code k = .ok (a, n) := own_dL own_K7 hby h
theorem pd_4 : parseMethodDescriptor "()V" = some ⟨[], none⟩ := by decide +kernel
def Q7 (Z : State) (a1 a2 : Addr) (p3 : Int32) (a4 : Addr) (u6 u11 u17 : Value) (h0 : Heap) (n0 : Nat) (v : Option Value) (h : Heap) (L : List Loc) : Prop := v = none ∧ Fr n0 L ∧ Keep h0 h [a1] ∧ Exa Z h a1 "com/example/traqt/traqt/moqt/MoqtUri" ∧ Fld Z h a1 "com/example/traqt/traqt/moqt/MoqtUri" "host" "Ljava/lang/String;" (.ref a2) ∧ Fld Z h a1 "com/example/traqt/traqt/moqt/MoqtUri" "path" "Ljava/lang/String;" (.ref a4) ∧ Fld Z h a1 "com/example/traqt/traqt/moqt/MoqtUri" "port" "I" (.int p3)
theorem ef_7 (m : MethodId) (x0 : Addr) (x1 : Addr) (x2 : Int32) (x3 : Addr) : entryFrame m #[(.ref x0), (.ref x1), (.int x2), (.ref x3)] 4 = mkF m 0 #[.val (.ref x0), .val (.ref x1), .val (.int x2), .val (.ref x3)] [] := by first | (simp [entryFrame, mkF, argsToLocals, Value.category]; done) | rfl
theorem pnc_com_example_traqt_traqt_moqt_MoqtUri : plainName "com/example/traqt/traqt/moqt/MoqtUri" = true := by first | (simp [plainName, overriddenIn]; done) | decide +kernel
theorem rm7 (l : Launch) (Z : State) (a0 : Array Value) (hw : ∀ d ∈ tables_1, d.before a0 Z = true) (ws : List Jvm.Cond) (a1 a2 : Addr) (p3 : Int32) (a4 : Addr) (u6 u11 u17 : Value) (h0 : Heap) (n0 : Nat) (O0 : Old Z n0 h0) (hc5 : ¬ (p3 < (0 : Int32))) (hc11 : ¬ ((65535 : Int32) < p3)) (HE_a1 : Exa Z h0 a1 "com/example/traqt/traqt/moqt/MoqtUri") (HF_a1_host : Fld Z h0 a1 "com/example/traqt/traqt/moqt/MoqtUri" "host" "Ljava/lang/String;" u6) (g_a1 : n0 ≤ a1) (HF_a1_port : Fld Z h0 a1 "com/example/traqt/traqt/moqt/MoqtUri" "port" "I" u11) (HF_a1_path : Fld Z h0 a1 "com/example/traqt/traqt/moqt/MoqtUri" "path" "Ljava/lang/String;" u17) :
    own_C l Z (⟨"com/example/traqt/traqt/moqt/MoqtUri", "<init>", "(Ljava/lang/String;ILjava/lang/String;)V"⟩ : MethodName) prog_6_method_1_code 4 none ws ({ frames := 2, cells := 0, slots := 0, locals := 24 } : Room) #[(.ref a1), (.ref a2), (.int p3), (.ref a4)] h0 (Q7 Z a1 a2 p3 a4 u6 u11 u17 h0 n0) := by
  refine own_intro (plainFor_of_name pnc_com_example_traqt_traqt_moqt_MoqtUri) fun p e s m below meth c s₁ hx hby hml hown hnm hZ e0 hret X0 => ?_
  have N0 := Fr.nil n0
  have Z0 : n0 ≤ h0.size := O0.1 ▸ O0.2.1
  obtain ⟨vr5, _, ⟨T5, L5, k5, n5⟩, -, X5, ⟨Lc5, hQ5, l5, y5, z5⟩, st5⟩ := X0.specialBack hx (y := (⟨"java/lang/Record", "<init>", "()V"⟩ : MethodName)) rfl hown (mvT hZ (own_w hw 40 rfl)) (mvT hZ (own_w hw 41 rfl)) (mvT hZ (own_w hw 44 rfl)) (by decide) (backOf (W := 0) (rm8 l Z a0 hw [] a1 h0 n0 O0) hZ (own_w hw 44 rfl) (own_w hw 43 rfl) (by decide) (by decide)) (g := (mkF m 1 #[.val (.ref a1), .val (.ref a2), .val (.int p3), .val (.ref a4)] [(.ref a1)])) rfl (by rw [hml]; rfl) (Steps.refl _) (a := a1) (argsL := []) (rest := []) (lenOf pd_4 rfl) rfl (by show 2 * 0 + _ ≤ _; exact Nat.le_of_eq rfl) (d7 hby 1 rfl) (fun _ _ => ⟨rfl, e0, (by decide : 0 + 0 ≤ _), (by decide : 0 + 0 ≤ _)⟩)
  dsimp only [Pt.U, Pt.locs, Pt.cells, Pt.slots] at X5 l5 y5 z5 st5 hQ5
  subst l5 y5 z5
  obtain ⟨rfl, N5q, e5⟩ := hQ5
  have N5 := Fr.app N0 N5q
  replace X5 := X5.more (cells' := 0) (slots' := 0) (by decide) (by decide)
  obtain ⟨T7, h7, X7, e7, W7, st7⟩ := putF X5 hx hZ hown (host := "") (Or.inl (own_w hw 47 rfl)) Via.refl e5 HF_a1_host HE_a1 (Or.inr ⟨(own_w hw 48 rfl), rfl, hnm⟩) (own_w hw 35 rfl) (ty := (.object "java/lang/String")) (by decide) rfl rfl (g := (mkF m 53 #[.val (.ref a1), .val (.ref a2), .val (.int p3), .val (.ref a4)] [(.ref a2), (.ref a1)])) rfl rfl (d7 hby 9 rfl)
  have N7 := Fr.snoc X7 N5 g_a1
  have K8 : Keep h0 h7 [a1] := (Keep.refl h0 [a1]).wr W7 (Or.inl (List.mem_of_getElem? (i := 0) rfl))
  have O9 : Old Z n0 h7 := O0.wr W7 g_a1
  have Fw7 : Fld Z h7 a1 "com/example/traqt/traqt/moqt/MoqtUri" "host" "Ljava/lang/String;" (.ref a2) := HF_a1_host.same W7
  have f10 := (HE_a1.wr W7)
  have f12 := (HF_a1_port.other W7 (Or.inr (slot_ne (Or.inr (own_w hw 50 rfl)) (Or.inr (own_w hw 48 rfl)) (by decide) (t := .int) (t' := (.object "java/lang/String")) (by decide) (by decide))))
  obtain ⟨T13, h13, X13, e13, W13, st13⟩ := putF X7 hx hZ hown (host := "") (Or.inl (own_w hw 49 rfl)) Via.refl e7 f12 f10 (Or.inr ⟨(own_w hw 50 rfl), rfl, hnm⟩) (own_w hw 35 rfl) (ty := .int) (by decide) rfl rfl (g := (mkF m 58 #[.val (.ref a1), .val (.ref a2), .val (.int p3), .val (.ref a4)] [(.int p3), (.ref a1)])) rfl rfl (d7 hby 12 rfl)
  have N13 := Fr.snoc X13 N7 g_a1
  have K14 : Keep h0 h13 [a1] := K8.wr W13 (Or.inl (List.mem_of_getElem? (i := 0) rfl))
  have O15 : Old Z n0 h13 := O9.wr W13 g_a1
  have Fw13 : Fld Z h13 a1 "com/example/traqt/traqt/moqt/MoqtUri" "port" "I" (.int p3) := f12.same W13
  have f16 := (f10.wr W13)
  have f18 := ((HF_a1_path.other W7 (Or.inr (slot_ne (Or.inr (own_w hw 52 rfl)) (Or.inr (own_w hw 48 rfl)) (by decide) (t := (.object "java/lang/String")) (t' := (.object "java/lang/String")) (by decide) (by decide)))).other W13 (Or.inr (slot_ne (Or.inr (own_w hw 52 rfl)) (Or.inr (own_w hw 50 rfl)) (by decide) (t := (.object "java/lang/String")) (t' := .int) (by decide) (by decide))))
  obtain ⟨T19, h19, X19, e19, W19, st19⟩ := putF X13 hx hZ hown (host := "") (Or.inl (own_w hw 51 rfl)) Via.refl e13 f18 f16 (Or.inr ⟨(own_w hw 52 rfl), rfl, hnm⟩) (own_w hw 35 rfl) (ty := (.object "java/lang/String")) (by decide) rfl rfl (g := (mkF m 63 #[.val (.ref a1), .val (.ref a2), .val (.int p3), .val (.ref a4)] [(.ref a4), (.ref a1)])) rfl rfl (d7 hby 15 rfl)
  have N19 := Fr.snoc X19 N13 g_a1
  have K20 : Keep h0 h19 [a1] := K14.wr W19 (Or.inl (List.mem_of_getElem? (i := 0) rfl))
  have O21 : Old Z n0 h19 := O15.wr W19 g_a1
  have Fw19 : Fld Z h19 a1 "com/example/traqt/traqt/moqt/MoqtUri" "path" "Ljava/lang/String;" (.ref a4) := f18.same W19
  have f22 := (f16.wr W19)
  have f23 := ((Fw7.other W13 (Or.inr (slot_ne (Or.inr (own_w hw 48 rfl)) (Or.inr (own_w hw 50 rfl)) (by decide) (t := (.object "java/lang/String")) (t' := .int) (by decide) (by decide)))).other W19 (Or.inr (slot_ne (Or.inr (own_w hw 48 rfl)) (Or.inr (own_w hw 52 rfl)) (by decide) (t := (.object "java/lang/String")) (t' := (.object "java/lang/String")) (by decide) (by decide))))
  have f24 := (Fw13.other W19 (Or.inr (slot_ne (Or.inr (own_w hw 50 rfl)) (Or.inr (own_w hw 52 rfl)) (by decide) (t := .int) (t' := (.object "java/lang/String")) (by decide) (by decide))))
  refine ⟨T19, _, _, _, none, X19, by decide, by decide, fun _ => rfl, ?_, fun fs hr => castTop (ef_7 m a1 a2 p3 a4) ?_⟩
  · show Q7 Z a1 a2 p3 a4 u6 u11 u17 h0 n0 _ T19.heap _
    rw [e19]
    exact ⟨rfl, N19, K20, f22, f23, Fw19, f24⟩
  · show Steps p.tables e below (s₁.setTop (mkF m 0 #[.val (.ref a1), .val (.ref a2), .val (.int p3), .val (.ref a4)] [])) _
    refine XS.aloadN X0.here hx rfl (d7 hby 0 rfl) rfl rfl ?_
    refine st5.trans ?_
    refine XS.iloadN X5.here hx rfl (d7 hby 2 rfl) rfl ?_
    refine XS.ifNo X5.here hx rfl (d7 hby 3 rfl) rfl ((if0 _ _).trans (flt hc5).1) ?_
    refine XS.iloadN X5.here hx rfl (d7 hby 4 rfl) rfl ?_
    refine X5.ldcInt hx hown (mvT hZ (own_w hw 46 rfl)) (g := (mkF m 9 #[.val (.ref a1), .val (.ref a2), .val (.int p3), .val (.ref a4)] [(.int p3)])) rfl (d7 hby 5 rfl) _ ?_
    refine XS.icmpYes X5.here hx rfl (pc0 := 11) (pc' := 51) rfl (d7 hby 6 rfl) rfl (flt hc11).2.2.2 (by decide) (by decide) ?_
    refine XS.aloadN X5.here hx rfl (d7 hby 7 rfl) rfl rfl ?_
    refine XS.aloadN X5.here hx rfl (d7 hby 8 rfl) rfl rfl ?_
    refine st7 _ ?_
    refine XS.aloadN X7.here hx rfl (d7 hby 10 rfl) rfl rfl ?_
    refine XS.iloadN X7.here hx rfl (d7 hby 11 rfl) rfl ?_
    refine st13 _ ?_
    refine XS.aloadN X13.here hx rfl (d7 hby 13 rfl) rfl rfl ?_
    refine XS.aloadN X13.here hx rfl (d7 hby 14 rfl) rfl rfl ?_
    refine st19 _ ?_
    exact X19.returnOut hx hret (d7 hby 16 rfl) hr
def own_EL : List (String × Nat) := [("com/example/traqt/traqt/moqt/MoqtUri", 114), ("com/example/traqt/traqt/moqt/MoqtUri", 120), ("com/example/traqt/traqt/moqt/MoqtUri", 122), ("com/example/traqt/traqt/moqt/MoqtUri", 124), ("com/example/traqt/traqt/moqt/MoqtUriToStringPinLaw", 8)]
theorem own_EW {Z : State} {a0 : Array Value} (hw : ∀ d ∈ tables_1, d.before a0 Z = true) : EW Z a0 own_EL := EW.cons (own_w hw 58 rfl) (by decide) (EW.cons (own_w hw 240 rfl) (by decide) (EW.cons (own_w hw 241 rfl) (by decide) (EW.cons (own_w hw 218 rfl) (by decide) (EW.cons (own_w hw 31 rfl) (by decide) (EW.nil)))))
def own_L9 : List (Nat × Instr × Nat) := [(0, .aload_n 0, 1), (1, .getfield 33, 3), (4, .ldc 114, 2), (6, .invokevirtual 116, 3), (9, .ifCond .eq 40, 3), (49, .new 12, 3), (52, .dup, 1), (53, .invokespecial 14, 3), (56, .aload_n 0, 1), (57, .getfield 33, 3), (60, .invokevirtual 17, 3), (63, .ldc 114, 2), (65, .invokevirtual 17, 3), (68, .aload_n 0, 1), (69, .getfield 37, 3), (72, .invokevirtual 21, 3), (75, .invokevirtual 26, 3), (78, .astore_n 1, 1), (79, .new 12, 3), (82, .dup, 1), (83, .invokespecial 14, 3), (86, .ldc 124, 2), (88, .invokevirtual 17, 3), (91, .aload_n 1, 1), (92, .invokevirtual 17, 3), (95, .aload_n 0, 1), (96, .getfield 41, 3), (99, .invokevirtual 17, 3), (102, .invokevirtual 26, 3), (105, .areturn, 1), (12, .new 12, 3), (15, .dup, 1), (16, .invokespecial 14, 3), (19, .ldc 120, 2), (21, .invokevirtual 17, 3), (24, .aload_n 0, 1), (25, .getfield 33, 3), (28, .invokevirtual 17, 3), (31, .ldc 122, 2), (33, .invokevirtual 17, 3), (36, .aload_n 0, 1), (37, .getfield 37, 3), (40, .invokevirtual 21, 3), (43, .invokevirtual 26, 3), (46, .goto 32, 3)]
theorem own_K9 : ∀ x ∈ own_L9, decode prog_6_method_4_code x.1 = .ok x.2 := by decide +kernel
theorem d9 {c : Code} (hby : c.code = prog_6_method_4_code) (i : Nat) {k n : Nat} {a : Instr} (h : own_L9[i]? = some (k, a, n)) : decode c.code k = .ok (a, n) := own_dL own_K9 hby h
theorem own_strw : ∀ d ∈ Bundle.stringAtoms, d ∈ tables_1 := by decide +kernel
theorem pd_19 : parseMethodDescriptor "(Ljava/lang/CharSequence;)Z" = some ⟨[(.object "java/lang/CharSequence")], some .boolean⟩ := by decide +kernel
theorem pd_23 : parseMethodDescriptor "(Ljava/lang/String;)Ljava/lang/StringBuilder;" = some ⟨[(.object "java/lang/String")], some (.object "java/lang/StringBuilder")⟩ := by decide +kernel
theorem own_sfor {Z : State} {EL : List (String × Nat)} {vm : Vm} {h : Heap} {x y : Addr} (hq : y = x ∨ h.size ≤ y) (S : Safe Z EL vm h x) : Safe Z EL vm h y := hq.elim (fun e => e ▸ S) Safe.new
theorem pd_10 : parseMethodDescriptor "(I)Ljava/lang/StringBuilder;" = some ⟨[.int], some (.object "java/lang/StringBuilder")⟩ := by decide +kernel
def Q9N (Z : State) (a1 x1 t1 x2 t2 : Addr) (k1 k2 : ClassId) (hs ps : List Int32) (n : Nat) (vp zC : Int32) (wO wT : Addr) (cO cT : Cell) (h0 : Heap) (n0 : Nat) (v : Option Value) (h : Heap) (L : List Loc) : Prop := ∃ b163 b164 : Addr, ∃ k165 : ClassId, v = some (.ref b163) ∧ Fr n0 L ∧ Keep h0 h [] ∧ h0.size ≤ b163 ∧ h0.size ≤ b164 ∧ b163 ≠ b164 ∧ Exa Z h b163 "java/lang/String" ∧ Fld Z h b163 "java/lang/String" "coder" "B" (.int 0) ∧ Fld Z h b163 "java/lang/String" "value" "[B" (.ref b164) ∧ Arv Z h b164 k165 .byte (own_n (((own_nil ++ [(109 : Int32), (111 : Int32), (113 : Int32), (116 : Int32), (58 : Int32), (47 : Int32), (47 : Int32)]) ++ (((own_nil ++ hs) ++ [(58 : Int32)]) ++ own_dec n)) ++ ps)) (own_by (((own_nil ++ [(109 : Int32), (111 : Int32), (113 : Int32), (116 : Int32), (58 : Int32), (47 : Int32), (47 : Int32)]) ++ (((own_nil ++ hs) ++ [(58 : Int32)]) ++ own_dec n)) ++ ps)) (.int 0)
theorem ef_9 (m : MethodId) (x0 : Addr) : entryFrame m #[(.ref x0)] 2 = mkF m 0 #[.val (.ref x0), .unset] [] := by first | (simp [entryFrame, mkF, argsToLocals, Value.category]; done) | rfl
theorem rm9N (l : Launch) (Z : State) (a0 : Array Value) (hw : ∀ d ∈ tables_1, d.before a0 Z = true) (ws : List Jvm.Cond) (a1 x1 t1 x2 t2 : Addr) (k1 k2 : ClassId) (hs ps : List Int32) (n : Nat) (vp zC : Int32) (wO wT : Addr) (cO cT : Cell) (h0 : Heap) (n0 : Nat) (O0 : Old Z n0 h0) (HE_a1 : Exa Z h0 a1 "com/example/traqt/traqt/moqt/MoqtUri") (HF_a1_host : Fld Z h0 a1 "com/example/traqt/traqt/moqt/MoqtUri" "host" "Ljava/lang/String;" (.ref x1)) (HF_a1_port : Fld Z h0 a1 "com/example/traqt/traqt/moqt/MoqtUri" "port" "I" (.int vp)) (HF_a1_path : Fld Z h0 a1 "com/example/traqt/traqt/moqt/MoqtUri" "path" "Ljava/lang/String;" (.ref x2)) (HE_x1 : Exa Z h0 x1 "java/lang/String") (HF_x1_value : Fld Z h0 x1 "java/lang/String" "value" "[B" (.ref t1)) (HF_x1_coder : Fld Z h0 x1 "java/lang/String" "coder" "B" (.int 0)) (HV_t1 : Arv Z h0 t1 k1 .byte (own_n hs) (own_by hs) (.int 0)) (HE_x2 : Exa Z h0 x2 "java/lang/String") (HF_x2_value : Fld Z h0 x2 "java/lang/String" "value" "[B" (.ref t2)) (HF_x2_coder : Fld Z h0 x2 "java/lang/String" "coder" "B" (.int 0)) (HV_t2 : Arv Z h0 t2 k2 .byte (own_n ps) (own_by ps) (.int 0)) (HA_wO : Arr Z h0 wO cO .byte) (HA_wT : Arr Z h0 wT cT .byte) (S_COMPACT_STRINGS : Sta Z Z.heap "java/lang/String" "COMPACT_STRINGS" "Z" (.int zC)) (h6_h7_h1_hc3 : ¬ (zC = (0 : Int32))) (h6_h7_h28_hrg : ∀ c ∈ hs, ¬ c < 0 ∧ ¬ (255 : Int32) < c) (h6_h7_h28_hl2 : hs.length ≤ 2) (h6_h7_h28_hin : ¬ ((58 : Int32) ∈ hs)) (h60_h2_h33 : own_nil.length + hs.length ≤ 33) (h65_h2_h33 : (own_nil ++ hs).length + [(58 : Int32)].length ≤ 33) (S_DigitOnes : Sta Z Z.heap "java/lang/Integer" "DigitOnes" "[B" (.ref wO)) (S_DigitTens : Sta Z Z.heap "java/lang/Integer" "DigitTens" "[B" (.ref wT)) (h72_h2_hv : vp = (Int32.ofNat n)) (h72_h2_hn : n < 65536) (h72_h2_hl : ((own_nil ++ hs) ++ [(58 : Int32)]).length + 5 ≤ 16) (h72_h2_htab : own_tab cO cT) (h75_h5_h3_h32_h33 : (((own_nil ++ hs) ++ [(58 : Int32)]) ++ own_dec n).length ≤ 33) (h88_h2_h33 : own_nil.length + [(109 : Int32), (111 : Int32), (113 : Int32), (116 : Int32), (58 : Int32), (47 : Int32), (47 : Int32)].length ≤ 33) (h92_h2_h33 : (own_nil ++ [(109 : Int32), (111 : Int32), (113 : Int32), (116 : Int32), (58 : Int32), (47 : Int32), (47 : Int32)]).length + (((own_nil ++ hs) ++ [(58 : Int32)]) ++ own_dec n).length ≤ 33) (h99_h2_h33 : ((own_nil ++ [(109 : Int32), (111 : Int32), (113 : Int32), (116 : Int32), (58 : Int32), (47 : Int32), (47 : Int32)]) ++ (((own_nil ++ hs) ++ [(58 : Int32)]) ++ own_dec n)).length + ps.length ≤ 33) (h102_h5_h3_h32_h33 : (((own_nil ++ [(109 : Int32), (111 : Int32), (113 : Int32), (116 : Int32), (58 : Int32), (47 : Int32), (47 : Int32)]) ++ (((own_nil ++ hs) ++ [(58 : Int32)]) ++ own_dec n)) ++ ps).length ≤ 33) :
    MetFree l (⟨"com/example/traqt/traqt/moqt/MoqtUri", "toString", "()Ljava/lang/String;"⟩ : MethodName) (head1 (Jvm.Cond.code (⟨"com/example/traqt/traqt/moqt/MoqtUri", "toString", "()Ljava/lang/String;"⟩ : MethodName) prog_6_method_4_code 2 (some (.object "java/lang/String")) :: ws) ({ frames := 9, cells := 24, slots := 400, locals := 150 } : Room)) (fun a U => a = #[(.ref a1)] ∧ Z.Warmed39 U.vm ∧ U.heap = h0 ∧ CHv Z own_EL U.vm h0) (fun _ _ _ _ _ => True) (fun _ U o U' => ∃ v L, o = .returned v ∧ Q9N Z a1 x1 t1 x2 t2 k1 k2 hs ps n vp zC wO wT cO cT h0 n0 v U'.heap L ∧ CHr Z own_EL U.vm U.heap U'.vm U'.heap ∧ ReturnedEndW U o U' L ({ frames := 9, cells := 24, slots := 400, locals := 150 } : Room).cells ({ frames := 9, cells := 24, slots := 400, locals := 150 } : Room).slots) := by
  refine MetFree.of_bodySF (plainFor_of_name pnc_com_example_traqt_traqt_moqt_MoqtUri) hisR ?_
  intro p e s m args below meth c s₁ Bd hml0 hP hK
  obtain ⟨rfl, hZ_, hh, hCH⟩ := hP
  have hx := Bd.exec
  have hby := Bd.bytes
  have hml : c.maxLocals = 2 := hml0
  have hown : s.vm.findClass "com/example/traqt/traqt/moqt/MoqtUri" = some m.cls := findClass_of_methodNamed Bd.named
  have hnm := (name_of_methodNamed Bd.named Bd.method).1
  have X0 : Stand p l e ({ frames := 9, cells := 24, slots := 400, locals := 150 } : Room) (s.setVm s.vm) m #[(.ref a1)] below meth c s₁ [] 0 0 := Stand.of_body Bd
  have hZ : Z.Warmed39 (s.setVm s.vm).vm := hZ_
  have hS0 : s.Since s.vm s.heap.size := (State.WarmedH.refl s).since s.heap.size
  have hk0 : s.heap.size ≤ h0.size := Nat.le_of_eq (by rw [hh])
  have e0 : s₁.heap = h0 := by rw [← hh, Bd.state]; rfl
  have N0 := Fr.nil n0
  have Z0 : n0 ≤ h0.size := O0.1 ▸ O0.2.1
  have pre0 : ∀ t, Steps p.tables e below (s₁.setTop (mkF m 0 #[.val (.ref a1), .unset] [])) t → Steps p.tables e below (s₁.setTop (entryFrame m #[(.ref a1)] 2)) t := fun t k => castTop (ef_9 m a1) k
  obtain ⟨T2, X2, e2, st2⟩ := getF X0 hx hZ hown (host := "") (Or.inl (own_w hw 47 rfl)) Via.refl e0 HF_a1_host (g := (mkF m 1 #[.val (.ref a1), .unset] [(.ref a1)])) rfl rfl (d9 hby 1 rfl)
  obtain ⟨b3, T3, h3, k3n, t3, k3, X3, e3, E3, hS3, hk3, hZ3, ho3, lE3, lC3, lV3, lA3, la3, lb3, hL3, -, hs3, st3⟩ := ldcCH X2 hx hZ hown (own_w hw 58 rfl) (fun d hd => hw d (own_strw d hd)) e2 hS0 hk0 (own_EW hw) (by decide) hCH (vs := [(.int 58)]) (z := (1 : Int32)) ⟨by decide, by decide⟩ (by decide) (by decide) (g := (mkF m 4 #[.val (.ref a1), .unset] [(.ref x1)])) rfl (d9 hby 2 rfl) (n := 4) (by decide) (by decide) (by decide) (by decide)
  have hR4 := hL3
  have ch4 := CHr.trans (CHr.refl hCH) hR4
  have K5 : Keep h0 h3 [] := (Keep.refl h0 []).ext E3
  have O6 : Old Z n0 h3 := O0.ext E3
  replace X3 := X3.more (cells' := 2) (slots' := 8) (by decide) (by decide)
  have f7 := (HE_x1.ext E3)
  have f8 := (HF_x1_value.ext E3)
  have f9 := (HF_x1_coder.ext E3)
  have f10 := (HV_t1.ext E3)
  obtain ⟨cq11, kq11, q11a, q11b, q11c⟩ := isOf hZ3 e3 f7
  obtain ⟨vr11, _, ⟨T11, L11, k11, n11⟩, -, X11, ⟨Lc11, hQ11, l11, y11, z11⟩, st11⟩ := X3.virtualBack hx (y := (⟨"java/lang/String", "contains", "(Ljava/lang/CharSequence;)Z"⟩ : MethodName)) (z := (⟨"java/lang/String", "contains", "(Ljava/lang/CharSequence;)Z"⟩ : MethodName)) ho3 (mvT hZ3 (own_w hw 59 rfl)) (mvT hZ3 (own_w hw 60 rfl)) (notFace_of_selects (args := #[]) (mvT hZ3 (own_w hw 62 rfl))) (mvT hZ3 (own_w hw 62 rfl)) (mvT hZ3 (own_w hw 61 rfl)) (by decide) (backOf (W := 0) (rm10N l Z a0 hw [] x1 b3 t1 t3 k1 k3 zC hs h3 n0 O6 f7 f8 f9 f10 lE3 lV3 lC3 lA3 S_COMPACT_STRINGS h6_h7_h1_hc3 h6_h7_h28_hrg h6_h7_h28_hl2 h6_h7_h28_hin) hZ3 (own_w hw 63 rfl) (own_w hw 3 rfl) (by decide) (by decide)) q11a q11c (g := (mkF m 6 #[.val (.ref a1), .unset] [(.ref b3), (.ref x1)])) rfl (by rw [hml]; rfl) (Steps.refl _) (argsL := [(.ref b3)]) (rest := []) (lenOf pd_19 rfl) rfl (by show 2 * 0 + _ ≤ _; exact Nat.le_of_eq rfl) (d9 hby 3 rfl) (fun _ _ => ⟨rfl, e3, (by decide : 2 + 0 ≤ _), (by decide : 8 + 0 ≤ _)⟩)
  dsimp only [Pt.U, Pt.locs, Pt.cells, Pt.slots] at X11 l11 y11 z11 st11 hQ11
  subst l11 y11 z11
  obtain ⟨rfl, N11q, e11⟩ := hQ11
  have N11 := Fr.app N0 N11q
  replace X11 := X11.more (cells' := 2) (slots' := 8) (by decide) (by decide)
  obtain ⟨T12, h12, X12, e12, E12, A12, D12, -, st12⟩ := newO X11 hx hZ3 ho3 (own_w hw 95 rfl) (own_w hw 96 rfl) (own_w hw 97 rfl) e11 (g := (mkF m 49 #[.val (.ref a1), .unset] [])) rfl (d9 hby 5 rfl) (by decide) (by decide)
  obtain ⟨b12, g12⟩ : ∃ z, z = h3.size := ⟨_, rfl⟩
  rw [← g12] at A12 D12 st12
  have g_b12 : n0 ≤ b12 := Nat.le_trans (Nat.le_trans Z0 K5.1) (Nat.le_of_eq g12.symm)
  have sz_b12 : h0.size ≤ b12 := Nat.le_trans K5.1 (Nat.le_of_eq g12.symm)
  have hR13 := (CHr.ext E12 hR4.1)
  have sf13_b12 := (Safe.ext E12 hR4.1 (Safe.new (Nat.le_of_eq g12.symm)))
  have ch13 := CHr.trans ch4 hR13
  have K14 : Keep h0 h12 [] := K5.ext E12
  have O15 : Old Z n0 h12 := O6.ext E12
  have F_value_b12 : Fld Z h12 b12 "java/lang/AbstractStringBuilder" "value" "[B" .null := D12 (Or.inl (own_w hw 110 rfl)) (ty := (.array .byte)) (by decide)
  have F_coder_b12 : Fld Z h12 b12 "java/lang/AbstractStringBuilder" "coder" "B" (.int 0) := D12 (Or.inl (own_w hw 112 rfl)) (ty := .byte) (by decide)
  have F_count_b12 : Fld Z h12 b12 "java/lang/AbstractStringBuilder" "count" "I" (.int 0) := D12 (Or.inl (own_w hw 129 rfl)) (ty := .int) (by decide)
  replace X12 := X12.more (cells' := 3) (slots' := 12) (by decide) (by decide)
  obtain ⟨vr16, _, ⟨T16, L16, k16, n16⟩, -, X16, ⟨Lc16, hQ16, l16, y16, z16⟩, st16⟩ := X12.specialBack hx (y := (⟨"java/lang/StringBuilder", "<init>", "()V"⟩ : MethodName)) rfl ho3 (mvT hZ3 (own_w hw 98 rfl)) (mvT hZ3 (own_w hw 99 rfl)) (mvT hZ3 (own_w hw 100 rfl)) (by decide) (backOf (W := 1) (rm17 l Z a0 hw [] b12 zC ((0 : Int32)) (.null) ((.int 0)) h12 n0 O15 A12 F_count_b12 S_COMPACT_STRINGS F_value_b12 F_coder_b12 h6_h7_h1_hc3 g_b12) hZ3 (own_w hw 100 rfl) (own_w hw 97 rfl) (by decide) (by decide)) (g := (mkF m 53 #[.val (.ref a1), .unset] [(.ref b12), (.ref b12)])) rfl (by rw [hml]; rfl) (Steps.refl _) (a := b12) (argsL := []) (rest := [(.ref b12)]) (lenOf pd_4 rfl) rfl (by show 2 * 0 + _ ≤ _; exact Nat.le_of_eq rfl) (d9 hby 7 rfl) (fun _ _ => ⟨rfl, e12, (by decide : 3 + 1 ≤ _), (by decide : 12 + 16 ≤ _)⟩)
  dsimp only [Pt.U, Pt.locs, Pt.cells, Pt.slots] at X16 l16 y16 z16 st16 hQ16
  subst l16 y16 z16
  obtain ⟨b17, k18, rfl, N16q, K16, Y16_z0, Y16_0, Y16_1, Y16_2, Y16_3, Y16_4, Y16_5⟩ := hQ16
  have N16 := Fr.app N11 N16q
  replace X16 := X16.more (cells' := 4) (slots' := 28) (by decide) (by decide)
  have g_b17 : n0 ≤ b17 := Nat.le_trans (Nat.le_trans Z0 K14.1) Y16_z0
  have sz_b17 : h0.size ≤ b17 := Nat.le_trans K14.1 Y16_z0
  have hR19 := (CHr.keep K16 (sfS sf13_b12 sf0) hR13.1)
  have sf19_b12 := (Safe.keep K16 (sfS sf13_b12 sf0) hR13.1 sf13_b12)
  have sf19_b17 := (Safe.keep K16 (sfS sf13_b12 sf0) hR13.1 (Safe.new Y16_z0))
  have ch19 := CHr.trans ch13 hR19
  have K20 : Keep h0 T16.heap [] := K14.trans K16 (allS (Or.inr sz_b12) all0)
  have O21 : Old Z n0 T16.heap := O15.keep K16 (allS g_b12 all0)
  have ne23 : a1 ≠ b12 := Nat.ne_of_lt (Nat.lt_of_lt_of_le (Nat.lt_of_lt_of_le HE_a1.lt E3.1) (Nat.le_of_eq g12.symm))
  have f22 := (((HF_a1_host.ext E3).ext E12).keep K16 (ninS ne23 nin0))
  obtain ⟨T24, X24, e24, st24⟩ := getF X16 hx hZ3 ho3 (host := "") (Or.inl (own_w hw 47 rfl)) Via.refl rfl f22 (g := (mkF m 57 #[.val (.ref a1), .unset] [(.ref a1), (.ref b12)])) rfl rfl (d9 hby 9 rfl)
  have f25 := ((f7.ext E12).keep K16)
  have ne27 : x1 ≠ b12 := Nat.ne_of_lt (Nat.lt_of_lt_of_le (Nat.lt_of_lt_of_le HE_x1.lt E3.1) (Nat.le_of_eq g12.symm))
  have f26 := ((f8.ext E12).keep K16 (ninS ne27 nin0))
  have f28 := ((f9.ext E12).keep K16 (ninS ne27 nin0))
  have ne30 : t1 ≠ b12 := Nat.ne_of_lt (Nat.lt_of_lt_of_le (Nat.lt_of_lt_of_le HV_t1.lt E3.1) (Nat.le_of_eq g12.symm))
  have f29 := ((f10.ext E12).keep K16 (ninS ne30 nin0))
  have ne31 : b12 ≠ b17 := Nat.ne_of_lt (Nat.lt_of_lt_of_le A12.lt Y16_z0)
  obtain ⟨cq32, kq32, q32a, q32b, q32c⟩ := isOf hZ3 e24 Y16_0
  obtain ⟨vr32, _, ⟨T32, L32, k32, n32⟩, -, X32, ⟨Lc32, hQ32, l32, y32, z32⟩, st32⟩ := X24.virtualBack hx (y := (⟨"java/lang/StringBuilder", "append", "(Ljava/lang/String;)Ljava/lang/StringBuilder;"⟩ : MethodName)) (z := (⟨"java/lang/StringBuilder", "append", "(Ljava/lang/String;)Ljava/lang/StringBuilder;"⟩ : MethodName)) ho3 (mvT hZ3 (own_w hw 113 rfl)) (mvT hZ3 (own_w hw 114 rfl)) (notFace_of_selects (args := #[]) (mvT hZ3 (own_w hw 116 rfl))) (mvT hZ3 (own_w hw 116 rfl)) (mvT hZ3 (own_w hw 115 rfl)) (by decide) (backOf (W := 0) (rm19 l Z a0 hw [] b12 x1 b17 t1 k18 k1 ((16 : Int32)) ((0 : Int32)) zC own_nil hs (h3.size) T16.heap n0 O21 Y16_0 Y16_4 Y16_3 Y16_1 Y16_2 Y16_5 f25 f26 f28 f29 S_COMPACT_STRINGS g_b17 ne31 g_b12 ne27 ne30 h6_h7_h1_hc3 (rfl : (0 : Int32) = (own_n own_nil)) h60_h2_h33 (Or.inl ⟨rfl, Nat.zero_le _⟩) (Nat.le_trans E12.1 Y16_z0) (Nat.le_trans E12.1 K16.1)) hZ3 (own_w hw 117 rfl) (own_w hw 97 rfl) (by decide) (by decide)) q32a q32c (g := (mkF m 60 #[.val (.ref a1), .unset] [(.ref x1), (.ref b12)])) rfl (by rw [hml]; rfl) (Steps.refl _) (argsL := [(.ref x1)]) (rest := []) (lenOf pd_23 rfl) rfl (by show 2 * 0 + _ ≤ _; exact Nat.le_of_eq rfl) (d9 hby 10 rfl) (fun _ _ => ⟨rfl, e24, (by decide : 4 + 1 ≤ _), (by decide : 28 + 34 ≤ _)⟩)
  dsimp only [Pt.U, Pt.locs, Pt.cells, Pt.slots] at X32 l32 y32 z32 st32 hQ32
  subst l32 y32 z32
  obtain ⟨y33, y34, y35, rfl, N32q, K32, Y32_0, Y32_1, Y32_2, Y32_3, Y32_4, Y32_5, Y32_6, Y32_7, Y32_8, Y32_9, Y32_10⟩ := hQ32
  have N32 := Fr.app N16 N32q
  replace X32 := X32.more (cells' := 5) (slots' := 62) (by decide) (by decide)
  have sf36 : Safe Z own_EL _ T16.heap y33 := own_sfor Y32_9 sf19_b17
  have hR37 := (CHr.keep K32 (sfS sf19_b12 (sfS sf19_b17 sf0)) hR19.1)
  have sf37_b12 := (Safe.keep K32 (sfS sf19_b12 (sfS sf19_b17 sf0)) hR19.1 sf19_b12)
  have sf37_b17 := (Safe.keep K32 (sfS sf19_b12 (sfS sf19_b17 sf0)) hR19.1 sf19_b17)
  have sf37_y33 := (Safe.keep K32 (sfS sf19_b12 (sfS sf19_b17 sf0)) hR19.1 sf36)
  have ch37 := CHr.trans ch19 hR37
  have K38 : Keep h0 T32.heap [] := K20.trans K32 (allS (Or.inr sz_b12) (allS (Or.inr sz_b17) all0))
  have O39 : Old Z n0 T32.heap := O21.keep K32 (allS g_b12 (allS g_b17 all0))
  have g_y33 : n0 ≤ y33 := Nat.le_trans (Nat.le_trans Z0 K5.1) Y32_7
  have sz_y33 : h0.size ≤ y33 := Nat.le_trans K5.1 Y32_7
  obtain ⟨b40, T40, h40, k40n, t40, k40, X40, e40, E40, hS40, hk40, hZ40, ho40, lE40, lC40, lV40, lA40, la40, lb40, hL40, -, hs40, st40⟩ := ldcCH X32 hx hZ3 ho3 (own_w hw 58 rfl) (fun d hd => hw d (own_strw d hd)) rfl hS3 (Nat.le_trans hk3 (Nat.le_trans (Nat.le_trans E12.1 K16.1) K32.1)) (own_EW hw) (by decide) hR37.1 (vs := [(.int 58)]) (z := (1 : Int32)) ⟨by decide, by decide⟩ (by decide) (by decide) (g := (mkF m 63 #[.val (.ref a1), .unset] [(.ref b12)])) rfl (d9 hby 11 rfl) (n := 4) (by decide) (by decide) (by decide) (by decide)
  have hR41 := hL40
  have sf41_b12 := (CHr.safe hL40 (Nat.lt_of_lt_of_le A12.lt (Nat.le_trans K16.1 K32.1)) sf37_b12)
  have sf41_b17 := (CHr.safe hL40 (Nat.lt_of_lt_of_le Y16_4.lt K32.1) sf37_b17)
  have sf41_y33 := (CHr.safe hL40 Y32_5.lt sf37_y33)
  have ch41 := CHr.trans ch37 hR41
  have K42 : Keep h0 h40 [] := K38.ext E40
  have O43 : Old Z n0 h40 := O39.ext E40
  replace X40 := X40.more (cells' := 7) (slots' := 70) (by decide) (by decide)
  have ns40_b12 := hs40 b12 sf41_b12
  have ns40_b17 := hs40 b17 sf41_b17
  have ns40_y33 := hs40 y33 sf41_y33
  have V44 : Arv Z h40 t40 k40 .byte (own_n [(58 : Int32)]) (own_by [(58 : Int32)]) (.int 0) := lA40
  have f45 := (Y32_0.ext E40)
  have f46 := (Y32_3.ext E40)
  have f47 := (Y32_5.ext E40)
  have f48 := (Y32_1.ext E40)
  have f49 := (Y32_2.ext E40)
  have f50 := (Y32_6.ext E40)
  obtain ⟨cq51, kq51, q51a, q51b, q51c⟩ := isOf hZ40 e40 f45
  obtain ⟨vr51, _, ⟨T51, L51, k51, n51⟩, -, X51, ⟨Lc51, hQ51, l51, y51, z51⟩, st51⟩ := X40.virtualBack hx (y := (⟨"java/lang/StringBuilder", "append", "(Ljava/lang/String;)Ljava/lang/StringBuilder;"⟩ : MethodName)) (z := (⟨"java/lang/StringBuilder", "append", "(Ljava/lang/String;)Ljava/lang/StringBuilder;"⟩ : MethodName)) ho40 (mvT hZ40 (own_w hw 113 rfl)) (mvT hZ40 (own_w hw 114 rfl)) (notFace_of_selects (args := #[]) (mvT hZ40 (own_w hw 116 rfl))) (mvT hZ40 (own_w hw 116 rfl)) (mvT hZ40 (own_w hw 115 rfl)) (by decide) (backOf (W := 0) (rm19 l Z a0 hw [] b12 b40 y33 t40 y34 k40 y35 ((own_n (own_nil ++ hs))) zC ((own_nil ++ hs)) ([(58 : Int32)]) (h3.size) h40 n0 O43 f45 f47 f46 f48 f49 f50 lE40 lV40 lC40 V44 S_COMPACT_STRINGS g_y33 Y32_10 g_b12 (Ne.symm ns40_b12.1) (Ne.symm ns40_b12.2) h6_h7_h1_hc3 (rfl : (own_n (own_nil ++ hs)) = (own_n (own_nil ++ hs))) h65_h2_h33 Y32_8 Y32_7 (Nat.le_trans (Nat.le_trans (Nat.le_trans E12.1 K16.1) K32.1) E40.1)) hZ40 (own_w hw 117 rfl) (own_w hw 97 rfl) (by decide) (by decide)) q51a q51c (g := (mkF m 65 #[.val (.ref a1), .unset] [(.ref b40), (.ref b12)])) rfl (by rw [hml]; rfl) (Steps.refl _) (argsL := [(.ref b40)]) (rest := []) (lenOf pd_23 rfl) rfl (by show 2 * 0 + _ ≤ _; exact Nat.le_of_eq rfl) (d9 hby 12 rfl) (fun _ _ => ⟨rfl, e40, (by decide : 7 + 1 ≤ _), (by decide : 70 + 34 ≤ _)⟩)
  dsimp only [Pt.U, Pt.locs, Pt.cells, Pt.slots] at X51 l51 y51 z51 st51 hQ51
  subst l51 y51 z51
  obtain ⟨y52, y53, y54, rfl, N51q, K51, Y51_0, Y51_1, Y51_2, Y51_3, Y51_4, Y51_5, Y51_6, Y51_7, Y51_8, Y51_9, Y51_10⟩ := hQ51
  have N51 := Fr.app N32 N51q
  replace X51 := X51.more (cells' := 8) (slots' := 104) (by decide) (by decide)
  have sf55 : Safe Z own_EL _ h40 y52 := own_sfor Y51_9 sf41_y33
  have hR56 := (CHr.keep K51 (sfS sf41_b12 (sfS sf41_y33 sf0)) hR41.1)
  have sf56_b12 := (Safe.keep K51 (sfS sf41_b12 (sfS sf41_y33 sf0)) hR41.1 sf41_b12)
  have sf56_b17 := (Safe.keep K51 (sfS sf41_b12 (sfS sf41_y33 sf0)) hR41.1 sf41_b17)
  have sf56_y33 := (Safe.keep K51 (sfS sf41_b12 (sfS sf41_y33 sf0)) hR41.1 sf41_y33)
  have sf56_y52 := (Safe.keep K51 (sfS sf41_b12 (sfS sf41_y33 sf0)) hR41.1 sf55)
  have ch56 := CHr.trans ch41 hR56
  have K57 : Keep h0 T51.heap [] := K42.trans K51 (allS (Or.inr sz_b12) (allS (Or.inr sz_y33) all0))
  have O58 : Old Z n0 T51.heap := O43.keep K51 (allS g_b12 (allS g_y33 all0))
  have g_y52 : n0 ≤ y52 := Nat.le_trans (Nat.le_trans Z0 K5.1) Y51_7
  have sz_y52 : h0.size ≤ y52 := Nat.le_trans K5.1 Y51_7
  have ne60 : a1 ≠ b17 := Nat.ne_of_lt (Nat.lt_of_lt_of_le (Nat.lt_of_lt_of_le HE_a1.lt (Nat.le_trans E3.1 E12.1)) Y16_z0)
  have ne61 : a1 ≠ y33 := Nat.ne_of_lt (Nat.lt_of_lt_of_le (Nat.lt_of_lt_of_le HE_a1.lt E3.1) Y32_7)
  have f59 := ((((((HF_a1_port.ext E3).ext E12).keep K16 (ninS ne23 nin0)).keep K32 (ninS ne23 (ninS ne60 nin0))).ext E40).keep K51 (ninS ne23 (ninS ne61 nin0)))
  obtain ⟨T62, X62, e62, st62⟩ := getF X51 hx hZ40 ho40 (host := "") (Or.inl (own_w hw 49 rfl)) Via.refl rfl f59 (g := (mkF m 69 #[.val (.ref a1), .unset] [(.ref a1), (.ref b12)])) rfl rfl (d9 hby 14 rfl)
  have ne64 : wO ≠ b12 := Nat.ne_of_lt (Nat.lt_of_lt_of_le (Nat.lt_of_lt_of_le HA_wO.lt E3.1) (Nat.le_of_eq g12.symm))
  have ne65 : wO ≠ b17 := Nat.ne_of_lt (Nat.lt_of_lt_of_le (Nat.lt_of_lt_of_le HA_wO.lt (Nat.le_trans E3.1 E12.1)) Y16_z0)
  have ne66 : wO ≠ y33 := Nat.ne_of_lt (Nat.lt_of_lt_of_le (Nat.lt_of_lt_of_le HA_wO.lt E3.1) Y32_7)
  have f63 := (own_arrkeep ((own_arrkeep (own_arrkeep ((HA_wO.ext E3).ext E12) K16 (ninS ne64 nin0)) K32 (ninS ne64 (ninS ne65 nin0))).ext E40) K51 (ninS ne64 (ninS ne66 nin0)))
  have ne68 : wT ≠ b12 := Nat.ne_of_lt (Nat.lt_of_lt_of_le (Nat.lt_of_lt_of_le HA_wT.lt E3.1) (Nat.le_of_eq g12.symm))
  have ne69 : wT ≠ b17 := Nat.ne_of_lt (Nat.lt_of_lt_of_le (Nat.lt_of_lt_of_le HA_wT.lt (Nat.le_trans E3.1 E12.1)) Y16_z0)
  have ne70 : wT ≠ y33 := Nat.ne_of_lt (Nat.lt_of_lt_of_le (Nat.lt_of_lt_of_le HA_wT.lt E3.1) Y32_7)
  have f67 := (own_arrkeep ((own_arrkeep (own_arrkeep ((HA_wT.ext E3).ext E12) K16 (ninS ne68 nin0)) K32 (ninS ne68 (ninS ne69 nin0))).ext E40) K51 (ninS ne68 (ninS ne70 nin0)))
  have ne71 : wO ≠ y52 := Nat.ne_of_lt (Nat.lt_of_lt_of_le (Nat.lt_of_lt_of_le HA_wO.lt E3.1) Y51_7)
  have ne72 : wT ≠ y52 := Nat.ne_of_lt (Nat.lt_of_lt_of_le (Nat.lt_of_lt_of_le HA_wT.lt E3.1) Y51_7)
  obtain ⟨cq73, kq73, q73a, q73b, q73c⟩ := isOf hZ40 e62 Y51_0
  obtain ⟨vr73, _, ⟨T73, L73, k73, n73⟩, -, X73, ⟨Lc73, hQ73, l73, y73, z73⟩, st73⟩ := X62.virtualBack hx (y := (⟨"java/lang/StringBuilder", "append", "(I)Ljava/lang/StringBuilder;"⟩ : MethodName)) (z := (⟨"java/lang/StringBuilder", "append", "(I)Ljava/lang/StringBuilder;"⟩ : MethodName)) ho40 (mvT hZ40 (own_w hw 155 rfl)) (mvT hZ40 (own_w hw 156 rfl)) (notFace_of_selects (args := #[]) (mvT hZ40 (own_w hw 158 rfl))) (mvT hZ40 (own_w hw 158 rfl)) (mvT hZ40 (own_w hw 157 rfl)) (by decide) (backOf (W := 0) (rm26 l Z a0 hw [] b12 vp y53 y52 ((own_n ((own_nil ++ hs) ++ [(58 : Int32)]))) zC (((own_nil ++ hs) ++ [(58 : Int32)])) n wO wT cO cT y54 T51.heap n0 O58 Y51_0 Y51_5 Y51_3 Y51_1 Y51_2 Y51_6 f63 f67 S_COMPACT_STRINGS S_DigitOnes S_DigitTens g_y52 ne71 ne72 Y51_10 g_b12 h6_h7_h1_hc3 (rfl : (own_n ((own_nil ++ hs) ++ [(58 : Int32)])) = (own_n ((own_nil ++ hs) ++ [(58 : Int32)]))) h72_h2_hv h72_h2_hn h72_h2_hl Y51_8 h72_h2_htab) hZ40 (own_w hw 159 rfl) (own_w hw 97 rfl) (by decide) (by decide)) q73a q73c (g := (mkF m 72 #[.val (.ref a1), .unset] [(.int vp), (.ref b12)])) rfl (by rw [hml]; rfl) (Steps.refl _) (argsL := [(.int vp)]) (rest := []) (lenOf pd_10 rfl) rfl (by show 2 * 0 + _ ≤ _; exact Nat.le_of_eq rfl) (d9 hby 15 rfl) (fun _ _ => ⟨rfl, e62, (by decide : 8 + 0 ≤ _), (by decide : 104 + 0 ≤ _)⟩)
  dsimp only [Pt.U, Pt.locs, Pt.cells, Pt.slots] at X73 l73 y73 z73 st73 hQ73
  subst l73 y73 z73
  obtain ⟨rfl, N73q, K73, Y73_0, Y73_1, Y73_2, Y73_3, Y73_4, Y73_5, Y73_6⟩ := hQ73
  have N73 := Fr.app N51 N73q
  replace X73 := X73.more (cells' := 8) (slots' := 104) (by decide) (by decide)
  have hR74 := (CHr.keep K73 (sfS sf56_b12 (sfS sf56_y52 sf0)) hR56.1)
  have sf74_b12 := (Safe.keep K73 (sfS sf56_b12 (sfS sf56_y52 sf0)) hR56.1 sf56_b12)
  have sf74_b17 := (Safe.keep K73 (sfS sf56_b12 (sfS sf56_y52 sf0)) hR56.1 sf56_b17)
  have sf74_y33 := (Safe.keep K73 (sfS sf56_b12 (sfS sf56_y52 sf0)) hR56.1 sf56_y33)
  have sf74_y52 := (Safe.keep K73 (sfS sf56_b12 (sfS sf56_y52 sf0)) hR56.1 sf56_y52)
  have ch74 := CHr.trans ch56 hR74
  have K75 : Keep h0 T73.heap [] := K57.trans K73 (allS (Or.inr sz_b12) (allS (Or.inr sz_y52) all0))
  have O76 : Old Z n0 T73.heap := O58.keep K73 (allS g_b12 (allS g_y52 all0))
  obtain ⟨cq77, kq77, q77a, q77b, q77c⟩ := isOf hZ40 rfl Y73_0
  obtain ⟨vr77, _, ⟨T77, L77, k77, n77⟩, -, X77, ⟨Lc77, hQ77, l77, y77, z77⟩, st77⟩ := X73.virtualBack hx (y := (⟨"java/lang/StringBuilder", "toString", "()Ljava/lang/String;"⟩ : MethodName)) (z := (⟨"java/lang/StringBuilder", "toString", "()Ljava/lang/String;"⟩ : MethodName)) ho40 (mvT hZ40 (own_w hw 177 rfl)) (mvT hZ40 (own_w hw 178 rfl)) (notFace_of_selects (args := #[]) (mvT hZ40 (own_w hw 180 rfl))) (mvT hZ40 (own_w hw 180 rfl)) (mvT hZ40 (own_w hw 179 rfl)) (by decide) (backOf (W := 0) (rm31 l Z a0 hw [] b12 y53 y52 y54 ((own_n (((own_nil ++ hs) ++ [(58 : Int32)]) ++ own_dec n))) zC ((((own_nil ++ hs) ++ [(58 : Int32)]) ++ own_dec n)) T73.heap n0 O76 Y73_0 Y73_4 Y73_3 Y73_1 Y73_2 Y73_5 S_COMPACT_STRINGS h6_h7_h1_hc3 (rfl : (own_n (((own_nil ++ hs) ++ [(58 : Int32)]) ++ own_dec n)) = (own_n (((own_nil ++ hs) ++ [(58 : Int32)]) ++ own_dec n))) Y73_6 h75_h5_h3_h32_h33) hZ40 (own_w hw 181 rfl) (own_w hw 97 rfl) (by decide) (by decide)) q77a q77c (g := (mkF m 75 #[.val (.ref a1), .unset] [(.ref b12)])) rfl (by rw [hml]; rfl) (Steps.refl _) (argsL := []) (rest := []) (lenOf pd_3 rfl) rfl (by show 2 * 0 + _ ≤ _; exact Nat.le_of_eq rfl) (d9 hby 16 rfl) (fun _ _ => ⟨rfl, rfl, (by decide : 8 + 2 ≤ _), (by decide : 104 + 38 ≤ _)⟩)
  dsimp only [Pt.U, Pt.locs, Pt.cells, Pt.slots] at X77 l77 y77 z77 st77 hQ77
  subst l77 y77 z77
  obtain ⟨b78, b79, k80, rfl, N77q, K77, Y77_z0, Y77_z1, Y77_n0, Y77_0, Y77_1, Y77_2, Y77_3⟩ := hQ77
  have N77 := Fr.app N73 N77q
  replace X77 := X77.more (cells' := 10) (slots' := 142) (by decide) (by decide)
  have g_b78 : n0 ≤ b78 := Nat.le_trans (Nat.le_trans Z0 K75.1) Y77_z0
  have sz_b78 : h0.size ≤ b78 := Nat.le_trans K75.1 Y77_z0
  have g_b79 : n0 ≤ b79 := Nat.le_trans (Nat.le_trans Z0 K75.1) Y77_z1
  have sz_b79 : h0.size ≤ b79 := Nat.le_trans K75.1 Y77_z1
  have hR81 := (CHr.keep K77 sf0 hR74.1)
  have sf81_b12 := (Safe.keep K77 sf0 hR74.1 sf74_b12)
  have sf81_b17 := (Safe.keep K77 sf0 hR74.1 sf74_b17)
  have sf81_y33 := (Safe.keep K77 sf0 hR74.1 sf74_y33)
  have sf81_y52 := (Safe.keep K77 sf0 hR74.1 sf74_y52)
  have sf81_b78 := (Safe.keep K77 sf0 hR74.1 (Safe.new Y77_z0))
  have sf81_b79 := (Safe.keep K77 sf0 hR74.1 (Safe.new Y77_z1))
  have ch81 := CHr.trans ch74 hR81
  have K82 : Keep h0 T77.heap [] := K75.trans K77 all0
  have O83 : Old Z n0 T77.heap := O76.keep K77 all0
  obtain ⟨T84, h84, X84, e84, E84, A84, D84, -, st84⟩ := newO X77 hx hZ40 ho40 (own_w hw 95 rfl) (own_w hw 96 rfl) (own_w hw 97 rfl) rfl (g := (mkF m 79 #[.val (.ref a1), .val (.ref b78)] [])) rfl (d9 hby 18 rfl) (by decide) (by decide)
  obtain ⟨b84, g84⟩ : ∃ z, z = T77.heap.size := ⟨_, rfl⟩
  rw [← g84] at A84 D84 st84
  have g_b84 : n0 ≤ b84 := Nat.le_trans (Nat.le_trans Z0 K82.1) (Nat.le_of_eq g84.symm)
  have sz_b84 : h0.size ≤ b84 := Nat.le_trans K82.1 (Nat.le_of_eq g84.symm)
  have hR85 := (CHr.ext E84 hR81.1)
  have sf85_b12 := (Safe.ext E84 hR81.1 sf81_b12)
  have sf85_b17 := (Safe.ext E84 hR81.1 sf81_b17)
  have sf85_y33 := (Safe.ext E84 hR81.1 sf81_y33)
  have sf85_y52 := (Safe.ext E84 hR81.1 sf81_y52)
  have sf85_b78 := (Safe.ext E84 hR81.1 sf81_b78)
  have sf85_b79 := (Safe.ext E84 hR81.1 sf81_b79)
  have sf85_b84 := (Safe.ext E84 hR81.1 (Safe.new (Nat.le_of_eq g84.symm)))
  have ch85 := CHr.trans ch81 hR85
  have K86 : Keep h0 h84 [] := K82.ext E84
  have O87 : Old Z n0 h84 := O83.ext E84
  have F_value_b84 : Fld Z h84 b84 "java/lang/AbstractStringBuilder" "value" "[B" .null := D84 (Or.inl (own_w hw 110 rfl)) (ty := (.array .byte)) (by decide)
  have F_coder_b84 : Fld Z h84 b84 "java/lang/AbstractStringBuilder" "coder" "B" (.int 0) := D84 (Or.inl (own_w hw 112 rfl)) (ty := .byte) (by decide)
  have F_count_b84 : Fld Z h84 b84 "java/lang/AbstractStringBuilder" "count" "I" (.int 0) := D84 (Or.inl (own_w hw 129 rfl)) (ty := .int) (by decide)
  replace X84 := X84.more (cells' := 11) (slots' := 146) (by decide) (by decide)
  obtain ⟨vr88, _, ⟨T88, L88, k88, n88⟩, -, X88, ⟨Lc88, hQ88, l88, y88, z88⟩, st88⟩ := X84.specialBack hx (y := (⟨"java/lang/StringBuilder", "<init>", "()V"⟩ : MethodName)) rfl ho40 (mvT hZ40 (own_w hw 98 rfl)) (mvT hZ40 (own_w hw 99 rfl)) (mvT hZ40 (own_w hw 100 rfl)) (by decide) (backOf (W := 1) (rm17 l Z a0 hw [] b84 zC ((0 : Int32)) (.null) ((.int 0)) h84 n0 O87 A84 F_count_b84 S_COMPACT_STRINGS F_value_b84 F_coder_b84 h6_h7_h1_hc3 g_b84) hZ40 (own_w hw 100 rfl) (own_w hw 97 rfl) (by decide) (by decide)) (g := (mkF m 83 #[.val (.ref a1), .val (.ref b78)] [(.ref b84), (.ref b84)])) rfl (by rw [hml]; rfl) (Steps.refl _) (a := b84) (argsL := []) (rest := [(.ref b84)]) (lenOf pd_4 rfl) rfl (by show 2 * 0 + _ ≤ _; exact Nat.le_of_eq rfl) (d9 hby 20 rfl) (fun _ _ => ⟨rfl, e84, (by decide : 11 + 1 ≤ _), (by decide : 146 + 16 ≤ _)⟩)
  dsimp only [Pt.U, Pt.locs, Pt.cells, Pt.slots] at X88 l88 y88 z88 st88 hQ88
  subst l88 y88 z88
  obtain ⟨b89, k90, rfl, N88q, K88, Y88_z0, Y88_0, Y88_1, Y88_2, Y88_3, Y88_4, Y88_5⟩ := hQ88
  have N88 := Fr.app N77 N88q
  replace X88 := X88.more (cells' := 12) (slots' := 162) (by decide) (by decide)
  have g_b89 : n0 ≤ b89 := Nat.le_trans (Nat.le_trans Z0 K86.1) Y88_z0
  have sz_b89 : h0.size ≤ b89 := Nat.le_trans K86.1 Y88_z0
  have hR91 := (CHr.keep K88 (sfS sf85_b84 sf0) hR85.1)
  have sf91_b12 := (Safe.keep K88 (sfS sf85_b84 sf0) hR85.1 sf85_b12)
  have sf91_b17 := (Safe.keep K88 (sfS sf85_b84 sf0) hR85.1 sf85_b17)
  have sf91_y33 := (Safe.keep K88 (sfS sf85_b84 sf0) hR85.1 sf85_y33)
  have sf91_y52 := (Safe.keep K88 (sfS sf85_b84 sf0) hR85.1 sf85_y52)
  have sf91_b78 := (Safe.keep K88 (sfS sf85_b84 sf0) hR85.1 sf85_b78)
  have sf91_b79 := (Safe.keep K88 (sfS sf85_b84 sf0) hR85.1 sf85_b79)
  have sf91_b84 := (Safe.keep K88 (sfS sf85_b84 sf0) hR85.1 sf85_b84)
  have sf91_b89 := (Safe.keep K88 (sfS sf85_b84 sf0) hR85.1 (Safe.new Y88_z0))
  have ch91 := CHr.trans ch85 hR91
  have K92 : Keep h0 T88.heap [] := K86.trans K88 (allS (Or.inr sz_b84) all0)
  have O93 : Old Z n0 T88.heap := O87.keep K88 (allS g_b84 all0)
  obtain ⟨b94, T94, h94, k94n, t94, k94, X94, e94, E94, hS94, hk94, hZ94, ho94, lE94, lC94, lV94, lA94, la94, lb94, hL94, -, hs94, st94⟩ := ldcCH X88 hx hZ40 ho40 (own_w hw 218 rfl) (fun d hd => hw d (own_strw d hd)) rfl hS40 (Nat.le_trans hk40 (Nat.le_trans (Nat.le_trans (Nat.le_trans (Nat.le_trans K51.1 K73.1) K77.1) E84.1) K88.1)) (own_EW hw) (by decide) hR91.1 (vs := [(.int 109), (.int 111), (.int 113), (.int 116), (.int 58), (.int 47), (.int 47)]) (z := (7 : Int32)) ⟨by decide, by decide⟩ (by decide) (by decide) (g := (mkF m 86 #[.val (.ref a1), .val (.ref b78)] [(.ref b84)])) rfl (d9 hby 21 rfl) (n := 28) (by decide) (by decide) (by decide) (by decide)
  have hR95 := hL94
  have sf95_b12 := (CHr.safe hL94 (Nat.lt_of_lt_of_le A12.lt (Nat.le_trans (Nat.le_trans (Nat.le_trans (Nat.le_trans (Nat.le_trans (Nat.le_trans (Nat.le_trans K16.1 K32.1) E40.1) K51.1) K73.1) K77.1) E84.1) K88.1)) sf91_b12)
  have sf95_b17 := (CHr.safe hL94 (Nat.lt_of_lt_of_le Y16_4.lt (Nat.le_trans (Nat.le_trans (Nat.le_trans (Nat.le_trans (Nat.le_trans (Nat.le_trans K32.1 E40.1) K51.1) K73.1) K77.1) E84.1) K88.1)) sf91_b17)
  have sf95_y33 := (CHr.safe hL94 (Nat.lt_of_lt_of_le Y32_5.lt (Nat.le_trans (Nat.le_trans (Nat.le_trans (Nat.le_trans (Nat.le_trans E40.1 K51.1) K73.1) K77.1) E84.1) K88.1)) sf91_y33)
  have sf95_y52 := (CHr.safe hL94 (Nat.lt_of_lt_of_le Y51_5.lt (Nat.le_trans (Nat.le_trans (Nat.le_trans K73.1 K77.1) E84.1) K88.1)) sf91_y52)
  have sf95_b78 := (CHr.safe hL94 (Nat.lt_of_lt_of_le Y77_0.lt (Nat.le_trans E84.1 K88.1)) sf91_b78)
  have sf95_b79 := (CHr.safe hL94 (Nat.lt_of_lt_of_le Y77_3.lt (Nat.le_trans E84.1 K88.1)) sf91_b79)
  have sf95_b84 := (CHr.safe hL94 (Nat.lt_of_lt_of_le A84.lt K88.1) sf91_b84)
  have sf95_b89 := (CHr.safe hL94 Y88_4.lt sf91_b89)
  have ch95 := CHr.trans ch91 hR95
  have K96 : Keep h0 h94 [] := K92.ext E94
  have O97 : Old Z n0 h94 := O93.ext E94
  replace X94 := X94.more (cells' := 14) (slots' := 194) (by decide) (by decide)
  have ns94_b12 := hs94 b12 sf95_b12
  have ns94_b17 := hs94 b17 sf95_b17
  have ns94_y33 := hs94 y33 sf95_y33
  have ns94_y52 := hs94 y52 sf95_y52
  have ns94_b78 := hs94 b78 sf95_b78
  have ns94_b79 := hs94 b79 sf95_b79
  have ns94_b84 := hs94 b84 sf95_b84
  have ns94_b89 := hs94 b89 sf95_b89
  have V98 : Arv Z h94 t94 k94 .byte (own_n [(109 : Int32), (111 : Int32), (113 : Int32), (116 : Int32), (58 : Int32), (47 : Int32), (47 : Int32)]) (own_by [(109 : Int32), (111 : Int32), (113 : Int32), (116 : Int32), (58 : Int32), (47 : Int32), (47 : Int32)]) (.int 0) := lA94
  have f99 := (Y88_0.ext E94)
  have f100 := (Y88_3.ext E94)
  have f101 := (Y88_4.ext E94)
  have f102 := (Y88_1.ext E94)
  have f103 := (Y88_2.ext E94)
  have f104 := (Y88_5.ext E94)
  have ne105 : b84 ≠ b89 := Nat.ne_of_lt (Nat.lt_of_lt_of_le A84.lt Y88_z0)
  obtain ⟨cq106, kq106, q106a, q106b, q106c⟩ := isOf hZ94 e94 f99
  obtain ⟨vr106, _, ⟨T106, L106, k106, n106⟩, -, X106, ⟨Lc106, hQ106, l106, y106, z106⟩, st106⟩ := X94.virtualBack hx (y := (⟨"java/lang/StringBuilder", "append", "(Ljava/lang/String;)Ljava/lang/StringBuilder;"⟩ : MethodName)) (z := (⟨"java/lang/StringBuilder", "append", "(Ljava/lang/String;)Ljava/lang/StringBuilder;"⟩ : MethodName)) ho94 (mvT hZ94 (own_w hw 113 rfl)) (mvT hZ94 (own_w hw 114 rfl)) (notFace_of_selects (args := #[]) (mvT hZ94 (own_w hw 116 rfl))) (mvT hZ94 (own_w hw 116 rfl)) (mvT hZ94 (own_w hw 115 rfl)) (by decide) (backOf (W := 0) (rm19 l Z a0 hw [] b84 b94 b89 t94 k90 k94 ((16 : Int32)) ((0 : Int32)) zC own_nil ([(109 : Int32), (111 : Int32), (113 : Int32), (116 : Int32), (58 : Int32), (47 : Int32), (47 : Int32)]) (T77.heap.size) h94 n0 O97 f99 f101 f100 f102 f103 f104 lE94 lV94 lC94 V98 S_COMPACT_STRINGS g_b89 ne105 g_b84 (Ne.symm ns94_b84.1) (Ne.symm ns94_b84.2) h6_h7_h1_hc3 (rfl : (0 : Int32) = (own_n own_nil)) h88_h2_h33 (Or.inl ⟨rfl, Nat.zero_le _⟩) (Nat.le_trans E84.1 Y88_z0) (Nat.le_trans (Nat.le_trans E84.1 K88.1) E94.1)) hZ94 (own_w hw 117 rfl) (own_w hw 97 rfl) (by decide) (by decide)) q106a q106c (g := (mkF m 88 #[.val (.ref a1), .val (.ref b78)] [(.ref b94), (.ref b84)])) rfl (by rw [hml]; rfl) (Steps.refl _) (argsL := [(.ref b94)]) (rest := []) (lenOf pd_23 rfl) rfl (by show 2 * 0 + _ ≤ _; exact Nat.le_of_eq rfl) (d9 hby 22 rfl) (fun _ _ => ⟨rfl, e94, (by decide : 14 + 1 ≤ _), (by decide : 194 + 34 ≤ _)⟩)
  dsimp only [Pt.U, Pt.locs, Pt.cells, Pt.slots] at X106 l106 y106 z106 st106 hQ106
  subst l106 y106 z106
  obtain ⟨y107, y108, y109, rfl, N106q, K106, Y106_0, Y106_1, Y106_2, Y106_3, Y106_4, Y106_5, Y106_6, Y106_7, Y106_8, Y106_9, Y106_10⟩ := hQ106
  have N106 := Fr.app N88 N106q
  replace X106 := X106.more (cells' := 15) (slots' := 228) (by decide) (by decide)
  have sf110 : Safe Z own_EL _ h94 y107 := own_sfor Y106_9 sf95_b89
  have hR111 := (CHr.keep K106 (sfS sf95_b84 (sfS sf95_b89 sf0)) hR95.1)
  have sf111_b12 := (Safe.keep K106 (sfS sf95_b84 (sfS sf95_b89 sf0)) hR95.1 sf95_b12)
  have sf111_b17 := (Safe.keep K106 (sfS sf95_b84 (sfS sf95_b89 sf0)) hR95.1 sf95_b17)
  have sf111_y33 := (Safe.keep K106 (sfS sf95_b84 (sfS sf95_b89 sf0)) hR95.1 sf95_y33)
  have sf111_y52 := (Safe.keep K106 (sfS sf95_b84 (sfS sf95_b89 sf0)) hR95.1 sf95_y52)
  have sf111_b78 := (Safe.keep K106 (sfS sf95_b84 (sfS sf95_b89 sf0)) hR95.1 sf95_b78)
  have sf111_b79 := (Safe.keep K106 (sfS sf95_b84 (sfS sf95_b89 sf0)) hR95.1 sf95_b79)
  have sf111_b84 := (Safe.keep K106 (sfS sf95_b84 (sfS sf95_b89 sf0)) hR95.1 sf95_b84)
  have sf111_b89 := (Safe.keep K106 (sfS sf95_b84 (sfS sf95_b89 sf0)) hR95.1 sf95_b89)
  have sf111_y107 := (Safe.keep K106 (sfS sf95_b84 (sfS sf95_b89 sf0)) hR95.1 sf110)
  have ch111 := CHr.trans ch95 hR111
  have K112 : Keep h0 T106.heap [] := K96.trans K106 (allS (Or.inr sz_b84) (allS (Or.inr sz_b89) all0))
  have O113 : Old Z n0 T106.heap := O97.keep K106 (allS g_b84 (allS g_b89 all0))
  have g_y107 : n0 ≤ y107 := Nat.le_trans (Nat.le_trans Z0 K82.1) Y106_7
  have sz_y107 : h0.size ≤ y107 := Nat.le_trans K82.1 Y106_7
  have f114 := ((((Y77_0.ext E84).keep K88).ext E94).keep K106)
  have ne116 : b78 ≠ b84 := Nat.ne_of_lt (Nat.lt_of_lt_of_le Y77_0.lt (Nat.le_of_eq g84.symm))
  have ne117 : b78 ≠ b89 := Nat.ne_of_lt (Nat.lt_of_lt_of_le (Nat.lt_of_lt_of_le Y77_0.lt E84.1) Y88_z0)
  have f115 := ((((Y77_2.ext E84).keep K88 (ninS ne116 nin0)).ext E94).keep K106 (ninS ne116 (ninS ne117 nin0)))
  have f118 := ((((Y77_1.ext E84).keep K88 (ninS ne116 nin0)).ext E94).keep K106 (ninS ne116 (ninS ne117 nin0)))
  have ne120 : b79 ≠ b84 := Nat.ne_of_lt (Nat.lt_of_lt_of_le Y77_3.lt (Nat.le_of_eq g84.symm))
  have ne121 : b79 ≠ b89 := Nat.ne_of_lt (Nat.lt_of_lt_of_le (Nat.lt_of_lt_of_le Y77_3.lt E84.1) Y88_z0)
  have f119 := ((((Y77_3.ext E84).keep K88 (ninS ne120 nin0)).ext E94).keep K106 (ninS ne120 (ninS ne121 nin0)))
  obtain ⟨cq122, kq122, q122a, q122b, q122c⟩ := isOf hZ94 rfl Y106_0
  obtain ⟨vr122, _, ⟨T122, L122, k122, n122⟩, -, X122, ⟨Lc122, hQ122, l122, y122, z122⟩, st122⟩ := X106.virtualBack hx (y := (⟨"java/lang/StringBuilder", "append", "(Ljava/lang/String;)Ljava/lang/StringBuilder;"⟩ : MethodName)) (z := (⟨"java/lang/StringBuilder", "append", "(Ljava/lang/String;)Ljava/lang/StringBuilder;"⟩ : MethodName)) ho94 (mvT hZ94 (own_w hw 113 rfl)) (mvT hZ94 (own_w hw 114 rfl)) (notFace_of_selects (args := #[]) (mvT hZ94 (own_w hw 116 rfl))) (mvT hZ94 (own_w hw 116 rfl)) (mvT hZ94 (own_w hw 115 rfl)) (by decide) (backOf (W := 0) (rm19 l Z a0 hw [] b84 b78 y107 b79 y108 k80 y109 ((own_n (own_nil ++ [(109 : Int32), (111 : Int32), (113 : Int32), (116 : Int32), (58 : Int32), (47 : Int32), (47 : Int32)]))) zC ((own_nil ++ [(109 : Int32), (111 : Int32), (113 : Int32), (116 : Int32), (58 : Int32), (47 : Int32), (47 : Int32)])) ((((own_nil ++ hs) ++ [(58 : Int32)]) ++ own_dec n)) (T77.heap.size) T106.heap n0 O113 Y106_0 Y106_5 Y106_3 Y106_1 Y106_2 Y106_6 f114 f115 f118 f119 S_COMPACT_STRINGS g_y107 Y106_10 g_b84 ne116 ne120 h6_h7_h1_hc3 (rfl : (own_n (own_nil ++ [(109 : Int32), (111 : Int32), (113 : Int32), (116 : Int32), (58 : Int32), (47 : Int32), (47 : Int32)])) = (own_n (own_nil ++ [(109 : Int32), (111 : Int32), (113 : Int32), (116 : Int32), (58 : Int32), (47 : Int32), (47 : Int32)]))) h92_h2_h33 Y106_8 Y106_7 (Nat.le_trans (Nat.le_trans (Nat.le_trans E84.1 K88.1) E94.1) K106.1)) hZ94 (own_w hw 117 rfl) (own_w hw 97 rfl) (by decide) (by decide)) q122a q122c (g := (mkF m 92 #[.val (.ref a1), .val (.ref b78)] [(.ref b78), (.ref b84)])) rfl (by rw [hml]; rfl) (Steps.refl _) (argsL := [(.ref b78)]) (rest := []) (lenOf pd_23 rfl) rfl (by show 2 * 0 + _ ≤ _; exact Nat.le_of_eq rfl) (d9 hby 24 rfl) (fun _ _ => ⟨rfl, rfl, (by decide : 15 + 1 ≤ _), (by decide : 228 + 34 ≤ _)⟩)
  dsimp only [Pt.U, Pt.locs, Pt.cells, Pt.slots] at X122 l122 y122 z122 st122 hQ122
  subst l122 y122 z122
  obtain ⟨y123, y124, y125, rfl, N122q, K122, Y122_0, Y122_1, Y122_2, Y122_3, Y122_4, Y122_5, Y122_6, Y122_7, Y122_8, Y122_9, Y122_10⟩ := hQ122
  have N122 := Fr.app N106 N122q
  replace X122 := X122.more (cells' := 16) (slots' := 262) (by decide) (by decide)
  have sf126 : Safe Z own_EL _ T106.heap y123 := own_sfor Y122_9 sf111_y107
  have hR127 := (CHr.keep K122 (sfS sf111_b84 (sfS sf111_y107 sf0)) hR111.1)
  have sf127_b12 := (Safe.keep K122 (sfS sf111_b84 (sfS sf111_y107 sf0)) hR111.1 sf111_b12)
  have sf127_b17 := (Safe.keep K122 (sfS sf111_b84 (sfS sf111_y107 sf0)) hR111.1 sf111_b17)
  have sf127_y33 := (Safe.keep K122 (sfS sf111_b84 (sfS sf111_y107 sf0)) hR111.1 sf111_y33)
  have sf127_y52 := (Safe.keep K122 (sfS sf111_b84 (sfS sf111_y107 sf0)) hR111.1 sf111_y52)
  have sf127_b78 := (Safe.keep K122 (sfS sf111_b84 (sfS sf111_y107 sf0)) hR111.1 sf111_b78)
  have sf127_b79 := (Safe.keep K122 (sfS sf111_b84 (sfS sf111_y107 sf0)) hR111.1 sf111_b79)
  have sf127_b84 := (Safe.keep K122 (sfS sf111_b84 (sfS sf111_y107 sf0)) hR111.1 sf111_b84)
  have sf127_b89 := (Safe.keep K122 (sfS sf111_b84 (sfS sf111_y107 sf0)) hR111.1 sf111_b89)
  have sf127_y107 := (Safe.keep K122 (sfS sf111_b84 (sfS sf111_y107 sf0)) hR111.1 sf111_y107)
  have sf127_y123 := (Safe.keep K122 (sfS sf111_b84 (sfS sf111_y107 sf0)) hR111.1 sf126)
  have ch127 := CHr.trans ch111 hR127
  have K128 : Keep h0 T122.heap [] := K112.trans K122 (allS (Or.inr sz_b84) (allS (Or.inr sz_y107) all0))
  have O129 : Old Z n0 T122.heap := O113.keep K122 (allS g_b84 (allS g_y107 all0))
  have g_y123 : n0 ≤ y123 := Nat.le_trans (Nat.le_trans Z0 K82.1) Y122_7
  have sz_y123 : h0.size ≤ y123 := Nat.le_trans K82.1 Y122_7
  have ne131 : a1 ≠ y52 := Nat.ne_of_lt (Nat.lt_of_lt_of_le (Nat.lt_of_lt_of_le HE_a1.lt E3.1) Y51_7)
  have ne132 : a1 ≠ b84 := Nat.ne_of_lt (Nat.lt_of_lt_of_le (Nat.lt_of_lt_of_le HE_a1.lt (Nat.le_trans (Nat.le_trans (Nat.le_trans (Nat.le_trans (Nat.le_trans (Nat.le_trans (Nat.le_trans E3.1 E12.1) K16.1) K32.1) E40.1) K51.1) K73.1) K77.1)) (Nat.le_of_eq g84.symm))
  have ne133 : a1 ≠ b89 := Nat.ne_of_lt (Nat.lt_of_lt_of_le (Nat.lt_of_lt_of_le HE_a1.lt (Nat.le_trans (Nat.le_trans (Nat.le_trans (Nat.le_trans (Nat.le_trans (Nat.le_trans (Nat.le_trans (Nat.le_trans E3.1 E12.1) K16.1) K32.1) E40.1) K51.1) K73.1) K77.1) E84.1)) Y88_z0)
  have ne134 : a1 ≠ y107 := Nat.ne_of_lt (Nat.lt_of_lt_of_le (Nat.lt_of_lt_of_le HE_a1.lt (Nat.le_trans (Nat.le_trans (Nat.le_trans (Nat.le_trans (Nat.le_trans (Nat.le_trans (Nat.le_trans E3.1 E12.1) K16.1) K32.1) E40.1) K51.1) K73.1) K77.1)) Y106_7)
  have f130 := (((((((((((((HF_a1_path.ext E3).ext E12).keep K16 (ninS ne23 nin0)).keep K32 (ninS ne23 (ninS ne60 nin0))).ext E40).keep K51 (ninS ne23 (ninS ne61 nin0))).keep K73 (ninS ne23 (ninS ne131 nin0))).keep K77 nin0).ext E84).keep K88 (ninS ne132 nin0)).ext E94).keep K106 (ninS ne132 (ninS ne133 nin0))).keep K122 (ninS ne132 (ninS ne134 nin0)))
  obtain ⟨T135, X135, e135, st135⟩ := getF X122 hx hZ94 ho94 (host := "") (Or.inl (own_w hw 51 rfl)) Via.refl rfl f130 (g := (mkF m 96 #[.val (.ref a1), .val (.ref b78)] [(.ref a1), (.ref b84)])) rfl rfl (d9 hby 26 rfl)
  have f136 := (((((((((((((HE_x2.ext E3).ext E12).keep K16).keep K32).ext E40).keep K51).keep K73).keep K77).ext E84).keep K88).ext E94).keep K106).keep K122)
  have ne138 : x2 ≠ b12 := Nat.ne_of_lt (Nat.lt_of_lt_of_le (Nat.lt_of_lt_of_le HE_x2.lt E3.1) (Nat.le_of_eq g12.symm))
  have ne139 : x2 ≠ b17 := Nat.ne_of_lt (Nat.lt_of_lt_of_le (Nat.lt_of_lt_of_le HE_x2.lt (Nat.le_trans E3.1 E12.1)) Y16_z0)
  have ne140 : x2 ≠ y33 := Nat.ne_of_lt (Nat.lt_of_lt_of_le (Nat.lt_of_lt_of_le HE_x2.lt E3.1) Y32_7)
  have ne141 : x2 ≠ y52 := Nat.ne_of_lt (Nat.lt_of_lt_of_le (Nat.lt_of_lt_of_le HE_x2.lt E3.1) Y51_7)
  have ne142 : x2 ≠ b84 := Nat.ne_of_lt (Nat.lt_of_lt_of_le (Nat.lt_of_lt_of_le HE_x2.lt (Nat.le_trans (Nat.le_trans (Nat.le_trans (Nat.le_trans (Nat.le_trans (Nat.le_trans (Nat.le_trans E3.1 E12.1) K16.1) K32.1) E40.1) K51.1) K73.1) K77.1)) (Nat.le_of_eq g84.symm))
  have ne143 : x2 ≠ b89 := Nat.ne_of_lt (Nat.lt_of_lt_of_le (Nat.lt_of_lt_of_le HE_x2.lt (Nat.le_trans (Nat.le_trans (Nat.le_trans (Nat.le_trans (Nat.le_trans (Nat.le_trans (Nat.le_trans (Nat.le_trans E3.1 E12.1) K16.1) K32.1) E40.1) K51.1) K73.1) K77.1) E84.1)) Y88_z0)
  have ne144 : x2 ≠ y107 := Nat.ne_of_lt (Nat.lt_of_lt_of_le (Nat.lt_of_lt_of_le HE_x2.lt (Nat.le_trans (Nat.le_trans (Nat.le_trans (Nat.le_trans (Nat.le_trans (Nat.le_trans (Nat.le_trans E3.1 E12.1) K16.1) K32.1) E40.1) K51.1) K73.1) K77.1)) Y106_7)
  have f137 := (((((((((((((HF_x2_value.ext E3).ext E12).keep K16 (ninS ne138 nin0)).keep K32 (ninS ne138 (ninS ne139 nin0))).ext E40).keep K51 (ninS ne138 (ninS ne140 nin0))).keep K73 (ninS ne138 (ninS ne141 nin0))).keep K77 nin0).ext E84).keep K88 (ninS ne142 nin0)).ext E94).keep K106 (ninS ne142 (ninS ne143 nin0))).keep K122 (ninS ne142 (ninS ne144 nin0)))
  have f145 := (((((((((((((HF_x2_coder.ext E3).ext E12).keep K16 (ninS ne138 nin0)).keep K32 (ninS ne138 (ninS ne139 nin0))).ext E40).keep K51 (ninS ne138 (ninS ne140 nin0))).keep K73 (ninS ne138 (ninS ne141 nin0))).keep K77 nin0).ext E84).keep K88 (ninS ne142 nin0)).ext E94).keep K106 (ninS ne142 (ninS ne143 nin0))).keep K122 (ninS ne142 (ninS ne144 nin0)))
  have ne147 : t2 ≠ b12 := Nat.ne_of_lt (Nat.lt_of_lt_of_le (Nat.lt_of_lt_of_le HV_t2.lt E3.1) (Nat.le_of_eq g12.symm))
  have ne148 : t2 ≠ b17 := Nat.ne_of_lt (Nat.lt_of_lt_of_le (Nat.lt_of_lt_of_le HV_t2.lt (Nat.le_trans E3.1 E12.1)) Y16_z0)
  have ne149 : t2 ≠ y33 := Nat.ne_of_lt (Nat.lt_of_lt_of_le (Nat.lt_of_lt_of_le HV_t2.lt E3.1) Y32_7)
  have ne150 : t2 ≠ y52 := Nat.ne_of_lt (Nat.lt_of_lt_of_le (Nat.lt_of_lt_of_le HV_t2.lt E3.1) Y51_7)
  have ne151 : t2 ≠ b84 := Nat.ne_of_lt (Nat.lt_of_lt_of_le (Nat.lt_of_lt_of_le HV_t2.lt (Nat.le_trans (Nat.le_trans (Nat.le_trans (Nat.le_trans (Nat.le_trans (Nat.le_trans (Nat.le_trans E3.1 E12.1) K16.1) K32.1) E40.1) K51.1) K73.1) K77.1)) (Nat.le_of_eq g84.symm))
  have ne152 : t2 ≠ b89 := Nat.ne_of_lt (Nat.lt_of_lt_of_le (Nat.lt_of_lt_of_le HV_t2.lt (Nat.le_trans (Nat.le_trans (Nat.le_trans (Nat.le_trans (Nat.le_trans (Nat.le_trans (Nat.le_trans (Nat.le_trans E3.1 E12.1) K16.1) K32.1) E40.1) K51.1) K73.1) K77.1) E84.1)) Y88_z0)
  have ne153 : t2 ≠ y107 := Nat.ne_of_lt (Nat.lt_of_lt_of_le (Nat.lt_of_lt_of_le HV_t2.lt (Nat.le_trans (Nat.le_trans (Nat.le_trans (Nat.le_trans (Nat.le_trans (Nat.le_trans (Nat.le_trans E3.1 E12.1) K16.1) K32.1) E40.1) K51.1) K73.1) K77.1)) Y106_7)
  have f146 := (((((((((((((HV_t2.ext E3).ext E12).keep K16 (ninS ne147 nin0)).keep K32 (ninS ne147 (ninS ne148 nin0))).ext E40).keep K51 (ninS ne147 (ninS ne149 nin0))).keep K73 (ninS ne147 (ninS ne150 nin0))).keep K77 nin0).ext E84).keep K88 (ninS ne151 nin0)).ext E94).keep K106 (ninS ne151 (ninS ne152 nin0))).keep K122 (ninS ne151 (ninS ne153 nin0)))
  obtain ⟨cq154, kq154, q154a, q154b, q154c⟩ := isOf hZ94 e135 Y122_0
  obtain ⟨vr154, _, ⟨T154, L154, k154, n154⟩, -, X154, ⟨Lc154, hQ154, l154, y154, z154⟩, st154⟩ := X135.virtualBack hx (y := (⟨"java/lang/StringBuilder", "append", "(Ljava/lang/String;)Ljava/lang/StringBuilder;"⟩ : MethodName)) (z := (⟨"java/lang/StringBuilder", "append", "(Ljava/lang/String;)Ljava/lang/StringBuilder;"⟩ : MethodName)) ho94 (mvT hZ94 (own_w hw 113 rfl)) (mvT hZ94 (own_w hw 114 rfl)) (notFace_of_selects (args := #[]) (mvT hZ94 (own_w hw 116 rfl))) (mvT hZ94 (own_w hw 116 rfl)) (mvT hZ94 (own_w hw 115 rfl)) (by decide) (backOf (W := 0) (rm19 l Z a0 hw [] b84 x2 y123 t2 y124 k2 y125 ((own_n ((own_nil ++ [(109 : Int32), (111 : Int32), (113 : Int32), (116 : Int32), (58 : Int32), (47 : Int32), (47 : Int32)]) ++ (((own_nil ++ hs) ++ [(58 : Int32)]) ++ own_dec n)))) zC (((own_nil ++ [(109 : Int32), (111 : Int32), (113 : Int32), (116 : Int32), (58 : Int32), (47 : Int32), (47 : Int32)]) ++ (((own_nil ++ hs) ++ [(58 : Int32)]) ++ own_dec n))) ps (T77.heap.size) T122.heap n0 O129 Y122_0 Y122_5 Y122_3 Y122_1 Y122_2 Y122_6 f136 f137 f145 f146 S_COMPACT_STRINGS g_y123 Y122_10 g_b84 ne142 ne151 h6_h7_h1_hc3 (rfl : (own_n ((own_nil ++ [(109 : Int32), (111 : Int32), (113 : Int32), (116 : Int32), (58 : Int32), (47 : Int32), (47 : Int32)]) ++ (((own_nil ++ hs) ++ [(58 : Int32)]) ++ own_dec n))) = (own_n ((own_nil ++ [(109 : Int32), (111 : Int32), (113 : Int32), (116 : Int32), (58 : Int32), (47 : Int32), (47 : Int32)]) ++ (((own_nil ++ hs) ++ [(58 : Int32)]) ++ own_dec n)))) h99_h2_h33 Y122_8 Y122_7 (Nat.le_trans (Nat.le_trans (Nat.le_trans (Nat.le_trans E84.1 K88.1) E94.1) K106.1) K122.1)) hZ94 (own_w hw 117 rfl) (own_w hw 97 rfl) (by decide) (by decide)) q154a q154c (g := (mkF m 99 #[.val (.ref a1), .val (.ref b78)] [(.ref x2), (.ref b84)])) rfl (by rw [hml]; rfl) (Steps.refl _) (argsL := [(.ref x2)]) (rest := []) (lenOf pd_23 rfl) rfl (by show 2 * 0 + _ ≤ _; exact Nat.le_of_eq rfl) (d9 hby 27 rfl) (fun _ _ => ⟨rfl, e135, (by decide : 16 + 1 ≤ _), (by decide : 262 + 34 ≤ _)⟩)
  dsimp only [Pt.U, Pt.locs, Pt.cells, Pt.slots] at X154 l154 y154 z154 st154 hQ154
  subst l154 y154 z154
  obtain ⟨y155, y156, y157, rfl, N154q, K154, Y154_0, Y154_1, Y154_2, Y154_3, Y154_4, Y154_5, Y154_6, Y154_7, Y154_8, Y154_9, Y154_10⟩ := hQ154
  have N154 := Fr.app N122 N154q
  replace X154 := X154.more (cells' := 17) (slots' := 296) (by decide) (by decide)
  have sf158 : Safe Z own_EL _ T122.heap y155 := own_sfor Y154_9 sf127_y123
  have hR159 := (CHr.keep K154 (sfS sf127_b84 (sfS sf127_y123 sf0)) hR127.1)
  have sf159_b12 := (Safe.keep K154 (sfS sf127_b84 (sfS sf127_y123 sf0)) hR127.1 sf127_b12)
  have sf159_b17 := (Safe.keep K154 (sfS sf127_b84 (sfS sf127_y123 sf0)) hR127.1 sf127_b17)
  have sf159_y33 := (Safe.keep K154 (sfS sf127_b84 (sfS sf127_y123 sf0)) hR127.1 sf127_y33)
  have sf159_y52 := (Safe.keep K154 (sfS sf127_b84 (sfS sf127_y123 sf0)) hR127.1 sf127_y52)
  have sf159_b78 := (Safe.keep K154 (sfS sf127_b84 (sfS sf127_y123 sf0)) hR127.1 sf127_b78)
  have sf159_b79 := (Safe.keep K154 (sfS sf127_b84 (sfS sf127_y123 sf0)) hR127.1 sf127_b79)
  have sf159_b84 := (Safe.keep K154 (sfS sf127_b84 (sfS sf127_y123 sf0)) hR127.1 sf127_b84)
  have sf159_b89 := (Safe.keep K154 (sfS sf127_b84 (sfS sf127_y123 sf0)) hR127.1 sf127_b89)
  have sf159_y107 := (Safe.keep K154 (sfS sf127_b84 (sfS sf127_y123 sf0)) hR127.1 sf127_y107)
  have sf159_y123 := (Safe.keep K154 (sfS sf127_b84 (sfS sf127_y123 sf0)) hR127.1 sf127_y123)
  have sf159_y155 := (Safe.keep K154 (sfS sf127_b84 (sfS sf127_y123 sf0)) hR127.1 sf158)
  have ch159 := CHr.trans ch127 hR159
  have K160 : Keep h0 T154.heap [] := K128.trans K154 (allS (Or.inr sz_b84) (allS (Or.inr sz_y123) all0))
  have O161 : Old Z n0 T154.heap := O129.keep K154 (allS g_b84 (allS g_y123 all0))
  have g_y155 : n0 ≤ y155 := Nat.le_trans (Nat.le_trans Z0 K82.1) Y154_7
  have sz_y155 : h0.size ≤ y155 := Nat.le_trans K82.1 Y154_7
  obtain ⟨cq162, kq162, q162a, q162b, q162c⟩ := isOf hZ94 rfl Y154_0
  obtain ⟨vr162, _, ⟨T162, L162, k162, n162⟩, -, X162, ⟨Lc162, hQ162, l162, y162, z162⟩, st162⟩ := X154.virtualBack hx (y := (⟨"java/lang/StringBuilder", "toString", "()Ljava/lang/String;"⟩ : MethodName)) (z := (⟨"java/lang/StringBuilder", "toString", "()Ljava/lang/String;"⟩ : MethodName)) ho94 (mvT hZ94 (own_w hw 177 rfl)) (mvT hZ94 (own_w hw 178 rfl)) (notFace_of_selects (args := #[]) (mvT hZ94 (own_w hw 180 rfl))) (mvT hZ94 (own_w hw 180 rfl)) (mvT hZ94 (own_w hw 179 rfl)) (by decide) (backOf (W := 0) (rm31 l Z a0 hw [] b84 y156 y155 y157 ((own_n (((own_nil ++ [(109 : Int32), (111 : Int32), (113 : Int32), (116 : Int32), (58 : Int32), (47 : Int32), (47 : Int32)]) ++ (((own_nil ++ hs) ++ [(58 : Int32)]) ++ own_dec n)) ++ ps))) zC ((((own_nil ++ [(109 : Int32), (111 : Int32), (113 : Int32), (116 : Int32), (58 : Int32), (47 : Int32), (47 : Int32)]) ++ (((own_nil ++ hs) ++ [(58 : Int32)]) ++ own_dec n)) ++ ps)) T154.heap n0 O161 Y154_0 Y154_5 Y154_3 Y154_1 Y154_2 Y154_6 S_COMPACT_STRINGS h6_h7_h1_hc3 (rfl : (own_n (((own_nil ++ [(109 : Int32), (111 : Int32), (113 : Int32), (116 : Int32), (58 : Int32), (47 : Int32), (47 : Int32)]) ++ (((own_nil ++ hs) ++ [(58 : Int32)]) ++ own_dec n)) ++ ps)) = (own_n (((own_nil ++ [(109 : Int32), (111 : Int32), (113 : Int32), (116 : Int32), (58 : Int32), (47 : Int32), (47 : Int32)]) ++ (((own_nil ++ hs) ++ [(58 : Int32)]) ++ own_dec n)) ++ ps))) Y154_8 h102_h5_h3_h32_h33) hZ94 (own_w hw 181 rfl) (own_w hw 97 rfl) (by decide) (by decide)) q162a q162c (g := (mkF m 102 #[.val (.ref a1), .val (.ref b78)] [(.ref b84)])) rfl (by rw [hml]; rfl) (Steps.refl _) (argsL := []) (rest := []) (lenOf pd_3 rfl) rfl (by show 2 * 0 + _ ≤ _; exact Nat.le_of_eq rfl) (d9 hby 28 rfl) (fun _ _ => ⟨rfl, rfl, (by decide : 17 + 2 ≤ _), (by decide : 296 + 38 ≤ _)⟩)
  dsimp only [Pt.U, Pt.locs, Pt.cells, Pt.slots] at X162 l162 y162 z162 st162 hQ162
  subst l162 y162 z162
  obtain ⟨b163, b164, k165, rfl, N162q, K162, Y162_z0, Y162_z1, Y162_n0, Y162_0, Y162_1, Y162_2, Y162_3⟩ := hQ162
  have N162 := Fr.app N154 N162q
  replace X162 := X162.more (cells' := 19) (slots' := 334) (by decide) (by decide)
  have g_b163 : n0 ≤ b163 := Nat.le_trans (Nat.le_trans Z0 K160.1) Y162_z0
  have sz_b163 : h0.size ≤ b163 := Nat.le_trans K160.1 Y162_z0
  have g_b164 : n0 ≤ b164 := Nat.le_trans (Nat.le_trans Z0 K160.1) Y162_z1
  have sz_b164 : h0.size ≤ b164 := Nat.le_trans K160.1 Y162_z1
  have hR166 := (CHr.keep K162 sf0 hR159.1)
  have sf166_b12 := (Safe.keep K162 sf0 hR159.1 sf159_b12)
  have sf166_b17 := (Safe.keep K162 sf0 hR159.1 sf159_b17)
  have sf166_y33 := (Safe.keep K162 sf0 hR159.1 sf159_y33)
  have sf166_y52 := (Safe.keep K162 sf0 hR159.1 sf159_y52)
  have sf166_b78 := (Safe.keep K162 sf0 hR159.1 sf159_b78)
  have sf166_b79 := (Safe.keep K162 sf0 hR159.1 sf159_b79)
  have sf166_b84 := (Safe.keep K162 sf0 hR159.1 sf159_b84)
  have sf166_b89 := (Safe.keep K162 sf0 hR159.1 sf159_b89)
  have sf166_y107 := (Safe.keep K162 sf0 hR159.1 sf159_y107)
  have sf166_y123 := (Safe.keep K162 sf0 hR159.1 sf159_y123)
  have sf166_y155 := (Safe.keep K162 sf0 hR159.1 sf159_y155)
  have sf166_b163 := (Safe.keep K162 sf0 hR159.1 (Safe.new Y162_z0))
  have sf166_b164 := (Safe.keep K162 sf0 hR159.1 (Safe.new Y162_z1))
  have ch166 := CHr.trans ch159 hR166
  have K167 : Keep h0 T162.heap [] := K160.trans K162 all0
  have O168 : Old Z n0 T162.heap := O161.keep K162 all0
  obtain ⟨fs, hr, hrun, hended, hend⟩ := X162.leaveW hS94 (Nat.le_trans hk94 (Nat.le_trans (Nat.le_trans (Nat.le_trans K106.1 K122.1) K154.1) K162.1)) (v := some (.ref b163)) (fun h => by rw [Bd.returns] at h; cases h)
  refine ⟨_, _, pre0 _ ?_, hrun, hended, _, _, rfl, ?_, ?_, hend.1, hend.2.1, hend.2.2.1, hend.2.2.2.mono (by decide) (by decide)⟩
  · show Steps p.tables e below (s₁.setTop (mkF m 0 #[.val (.ref a1), .unset] [])) _
    refine XS.aloadN X0.here hx rfl (d9 hby 0 rfl) rfl rfl ?_
    refine st2 _ ?_
    refine st3 _ ?_
    refine st11.trans ?_
    refine XS.ifYes X11.here hx rfl (pc0 := 9) (pc' := 49) rfl (d9 hby 4 rfl) rfl ((if0 _ _).trans (teq (by decide : (0 : Int32) = (0 : Int32))).1) (by decide) (by decide) ?_
    refine st12 _ ?_
    refine XS.dup X12.here hx rfl (d9 hby 6 rfl) rfl rfl ?_
    refine st16.trans ?_
    refine XS.aloadN X16.here hx rfl (d9 hby 8 rfl) rfl rfl ?_
    refine st24 _ ?_
    refine st32.trans ?_
    refine st40 _ ?_
    refine st51.trans ?_
    refine XS.aloadN X51.here hx rfl (d9 hby 13 rfl) rfl rfl ?_
    refine st62 _ ?_
    refine st73.trans ?_
    refine st77.trans ?_
    refine XS.astoreN X77.here hx rfl (d9 hby 17 rfl) rfl rfl (l' := #[.val (.ref a1), .val (.ref b78)]) rfl ?_
    refine st84 _ ?_
    refine XS.dup X84.here hx rfl (d9 hby 19 rfl) rfl rfl ?_
    refine st88.trans ?_
    refine st94 _ ?_
    refine st106.trans ?_
    refine XS.aloadN X106.here hx rfl (d9 hby 23 rfl) rfl rfl ?_
    refine st122.trans ?_
    refine XS.aloadN X122.here hx rfl (d9 hby 25 rfl) rfl rfl ?_
    refine st135 _ ?_
    refine st154.trans ?_
    refine st162.trans ?_
    exact own_retR X162 hx Bd.returns rfl rfl (d9 hby 29 rfl) hr
  · show Q9N Z a1 x1 t1 x2 t2 k1 k2 hs ps n vp zC wO wT cO cT h0 n0 _ T162.heap _
    exact ⟨b163, b164, k165, rfl, N162, K167, sz_b163, sz_b164, Y162_n0, Y162_0, Y162_1, Y162_2, Y162_3⟩
  · show CHr Z own_EL s.vm s.heap T162.vm T162.heap
    rw [hh]
    exact CHr.trans ch166 (CHv.at X162 hZ94 (own_EW hw) hR166.1)
def Q9Y (Z : State) (a1 x1 t1 x2 t2 : Addr) (k1 k2 : ClassId) (hs ps : List Int32) (n : Nat) (vp zC : Int32) (wO wT : Addr) (cO cT : Cell) (h0 : Heap) (n0 : Nat) (v : Option Value) (h : Heap) (L : List Loc) : Prop := ∃ b189 b190 : Addr, ∃ k191 : ClassId, v = some (.ref b189) ∧ Fr n0 L ∧ Keep h0 h [] ∧ h0.size ≤ b189 ∧ h0.size ≤ b190 ∧ b189 ≠ b190 ∧ Exa Z h b189 "java/lang/String" ∧ Fld Z h b189 "java/lang/String" "coder" "B" (.int 0) ∧ Fld Z h b189 "java/lang/String" "value" "[B" (.ref b190) ∧ Arv Z h b190 k191 .byte (own_n (((own_nil ++ [(109 : Int32), (111 : Int32), (113 : Int32), (116 : Int32), (58 : Int32), (47 : Int32), (47 : Int32)]) ++ ((((own_nil ++ [(91 : Int32)]) ++ hs) ++ [(93 : Int32), (58 : Int32)]) ++ own_dec n)) ++ ps)) (own_by (((own_nil ++ [(109 : Int32), (111 : Int32), (113 : Int32), (116 : Int32), (58 : Int32), (47 : Int32), (47 : Int32)]) ++ ((((own_nil ++ [(91 : Int32)]) ++ hs) ++ [(93 : Int32), (58 : Int32)]) ++ own_dec n)) ++ ps)) (.int 0)
theorem rm9Y (l : Launch) (Z : State) (a0 : Array Value) (hw : ∀ d ∈ tables_1, d.before a0 Z = true) (ws : List Jvm.Cond) (a1 x1 t1 x2 t2 : Addr) (k1 k2 : ClassId) (hs ps : List Int32) (n : Nat) (vp zC : Int32) (wO wT : Addr) (cO cT : Cell) (h0 : Heap) (n0 : Nat) (O0 : Old Z n0 h0) (HE_a1 : Exa Z h0 a1 "com/example/traqt/traqt/moqt/MoqtUri") (HF_a1_host : Fld Z h0 a1 "com/example/traqt/traqt/moqt/MoqtUri" "host" "Ljava/lang/String;" (.ref x1)) (HF_a1_port : Fld Z h0 a1 "com/example/traqt/traqt/moqt/MoqtUri" "port" "I" (.int vp)) (HF_a1_path : Fld Z h0 a1 "com/example/traqt/traqt/moqt/MoqtUri" "path" "Ljava/lang/String;" (.ref x2)) (HE_x1 : Exa Z h0 x1 "java/lang/String") (HF_x1_value : Fld Z h0 x1 "java/lang/String" "value" "[B" (.ref t1)) (HF_x1_coder : Fld Z h0 x1 "java/lang/String" "coder" "B" (.int 0)) (HV_t1 : Arv Z h0 t1 k1 .byte (own_n hs) (own_by hs) (.int 0)) (HE_x2 : Exa Z h0 x2 "java/lang/String") (HF_x2_value : Fld Z h0 x2 "java/lang/String" "value" "[B" (.ref t2)) (HF_x2_coder : Fld Z h0 x2 "java/lang/String" "coder" "B" (.int 0)) (HV_t2 : Arv Z h0 t2 k2 .byte (own_n ps) (own_by ps) (.int 0)) (HA_wO : Arr Z h0 wO cO .byte) (HA_wT : Arr Z h0 wT cT .byte) (S_COMPACT_STRINGS : Sta Z Z.heap "java/lang/String" "COMPACT_STRINGS" "Z" (.int zC)) (h6_h7_h1_hc3 : ¬ (zC = (0 : Int32))) (h6_h7_h28_hrg : ∀ c ∈ hs, ¬ c < 0 ∧ ¬ (255 : Int32) < c) (h6_h7_h28_hl2 : hs.length ≤ 2) (h6_h7_h28_hin : (58 : Int32) ∈ hs) (h21_h2_h33 : own_nil.length + [(91 : Int32)].length ≤ 33) (h28_h2_h33 : (own_nil ++ [(91 : Int32)]).length + hs.length ≤ 33) (h33_h2_h33 : ((own_nil ++ [(91 : Int32)]) ++ hs).length + [(93 : Int32), (58 : Int32)].length ≤ 33) (S_DigitOnes : Sta Z Z.heap "java/lang/Integer" "DigitOnes" "[B" (.ref wO)) (S_DigitTens : Sta Z Z.heap "java/lang/Integer" "DigitTens" "[B" (.ref wT)) (h40_h2_hv : vp = (Int32.ofNat n)) (h40_h2_hn : n < 65536) (h40_h2_hl : (((own_nil ++ [(91 : Int32)]) ++ hs) ++ [(93 : Int32), (58 : Int32)]).length + 5 ≤ 16) (h40_h2_htab : own_tab cO cT) (h43_h5_h3_h32_h33 : ((((own_nil ++ [(91 : Int32)]) ++ hs) ++ [(93 : Int32), (58 : Int32)]) ++ own_dec n).length ≤ 33) (h88_h2_h33 : own_nil.length + [(109 : Int32), (111 : Int32), (113 : Int32), (116 : Int32), (58 : Int32), (47 : Int32), (47 : Int32)].length ≤ 33) (h92_h2_h33 : (own_nil ++ [(109 : Int32), (111 : Int32), (113 : Int32), (116 : Int32), (58 : Int32), (47 : Int32), (47 : Int32)]).length + ((((own_nil ++ [(91 : Int32)]) ++ hs) ++ [(93 : Int32), (58 : Int32)]) ++ own_dec n).length ≤ 33) (h99_h2_h33 : ((own_nil ++ [(109 : Int32), (111 : Int32), (113 : Int32), (116 : Int32), (58 : Int32), (47 : Int32), (47 : Int32)]) ++ ((((own_nil ++ [(91 : Int32)]) ++ hs) ++ [(93 : Int32), (58 : Int32)]) ++ own_dec n)).length + ps.length ≤ 33) (h102_h5_h3_h32_h33 : (((own_nil ++ [(109 : Int32), (111 : Int32), (113 : Int32), (116 : Int32), (58 : Int32), (47 : Int32), (47 : Int32)]) ++ ((((own_nil ++ [(91 : Int32)]) ++ hs) ++ [(93 : Int32), (58 : Int32)]) ++ own_dec n)) ++ ps).length ≤ 33) :
    MetFree l (⟨"com/example/traqt/traqt/moqt/MoqtUri", "toString", "()Ljava/lang/String;"⟩ : MethodName) (head1 (Jvm.Cond.code (⟨"com/example/traqt/traqt/moqt/MoqtUri", "toString", "()Ljava/lang/String;"⟩ : MethodName) prog_6_method_4_code 2 (some (.object "java/lang/String")) :: ws) ({ frames := 9, cells := 24, slots := 400, locals := 150 } : Room)) (fun a U => a = #[(.ref a1)] ∧ Z.Warmed39 U.vm ∧ U.heap = h0 ∧ CHv Z own_EL U.vm h0) (fun _ _ _ _ _ => True) (fun _ U o U' => ∃ v L, o = .returned v ∧ Q9Y Z a1 x1 t1 x2 t2 k1 k2 hs ps n vp zC wO wT cO cT h0 n0 v U'.heap L ∧ CHr Z own_EL U.vm U.heap U'.vm U'.heap ∧ ReturnedEndW U o U' L ({ frames := 9, cells := 24, slots := 400, locals := 150 } : Room).cells ({ frames := 9, cells := 24, slots := 400, locals := 150 } : Room).slots) := by
  refine MetFree.of_bodySF (plainFor_of_name pnc_com_example_traqt_traqt_moqt_MoqtUri) hisR ?_
  intro p e s m args below meth c s₁ Bd hml0 hP hK
  obtain ⟨rfl, hZ_, hh, hCH⟩ := hP
  have hx := Bd.exec
  have hby := Bd.bytes
  have hml : c.maxLocals = 2 := hml0
  have hown : s.vm.findClass "com/example/traqt/traqt/moqt/MoqtUri" = some m.cls := findClass_of_methodNamed Bd.named
  have hnm := (name_of_methodNamed Bd.named Bd.method).1
  have X0 : Stand p l e ({ frames := 9, cells := 24, slots := 400, locals := 150 } : Room) (s.setVm s.vm) m #[(.ref a1)] below meth c s₁ [] 0 0 := Stand.of_body Bd
  have hZ : Z.Warmed39 (s.setVm s.vm).vm := hZ_
  have hS0 : s.Since s.vm s.heap.size := (State.WarmedH.refl s).since s.heap.size
  have hk0 : s.heap.size ≤ h0.size := Nat.le_of_eq (by rw [hh])
  have e0 : s₁.heap = h0 := by rw [← hh, Bd.state]; rfl
  have N0 := Fr.nil n0
  have Z0 : n0 ≤ h0.size := O0.1 ▸ O0.2.1
  have pre0 : ∀ t, Steps p.tables e below (s₁.setTop (mkF m 0 #[.val (.ref a1), .unset] [])) t → Steps p.tables e below (s₁.setTop (entryFrame m #[(.ref a1)] 2)) t := fun t k => castTop (ef_9 m a1) k
  obtain ⟨T2, X2, e2, st2⟩ := getF X0 hx hZ hown (host := "") (Or.inl (own_w hw 47 rfl)) Via.refl e0 HF_a1_host (g := (mkF m 1 #[.val (.ref a1), .unset] [(.ref a1)])) rfl rfl (d9 hby 1 rfl)
  obtain ⟨b3, T3, h3, k3n, t3, k3, X3, e3, E3, hS3, hk3, hZ3, ho3, lE3, lC3, lV3, lA3, la3, lb3, hL3, -, hs3, st3⟩ := ldcCH X2 hx hZ hown (own_w hw 58 rfl) (fun d hd => hw d (own_strw d hd)) e2 hS0 hk0 (own_EW hw) (by decide) hCH (vs := [(.int 58)]) (z := (1 : Int32)) ⟨by decide, by decide⟩ (by decide) (by decide) (g := (mkF m 4 #[.val (.ref a1), .unset] [(.ref x1)])) rfl (d9 hby 2 rfl) (n := 4) (by decide) (by decide) (by decide) (by decide)
  have hR4 := hL3
  have ch4 := CHr.trans (CHr.refl hCH) hR4
  have K5 : Keep h0 h3 [] := (Keep.refl h0 []).ext E3
  have O6 : Old Z n0 h3 := O0.ext E3
  replace X3 := X3.more (cells' := 2) (slots' := 8) (by decide) (by decide)
  have f7 := (HE_x1.ext E3)
  have f8 := (HF_x1_value.ext E3)
  have f9 := (HF_x1_coder.ext E3)
  have f10 := (HV_t1.ext E3)
  obtain ⟨cq11, kq11, q11a, q11b, q11c⟩ := isOf hZ3 e3 f7
  obtain ⟨vr11, _, ⟨T11, L11, k11, n11⟩, -, X11, ⟨Lc11, hQ11, l11, y11, z11⟩, st11⟩ := X3.virtualBack hx (y := (⟨"java/lang/String", "contains", "(Ljava/lang/CharSequence;)Z"⟩ : MethodName)) (z := (⟨"java/lang/String", "contains", "(Ljava/lang/CharSequence;)Z"⟩ : MethodName)) ho3 (mvT hZ3 (own_w hw 59 rfl)) (mvT hZ3 (own_w hw 60 rfl)) (notFace_of_selects (args := #[]) (mvT hZ3 (own_w hw 62 rfl))) (mvT hZ3 (own_w hw 62 rfl)) (mvT hZ3 (own_w hw 61 rfl)) (by decide) (backOf (W := 0) (rm10Y l Z a0 hw [] x1 b3 t1 t3 k1 k3 zC hs h3 n0 O6 f7 f8 f9 f10 lE3 lV3 lC3 lA3 S_COMPACT_STRINGS h6_h7_h1_hc3 h6_h7_h28_hrg h6_h7_h28_hl2 h6_h7_h28_hin) hZ3 (own_w hw 63 rfl) (own_w hw 3 rfl) (by decide) (by decide)) q11a q11c (g := (mkF m 6 #[.val (.ref a1), .unset] [(.ref b3), (.ref x1)])) rfl (by rw [hml]; rfl) (Steps.refl _) (argsL := [(.ref b3)]) (rest := []) (lenOf pd_19 rfl) rfl (by show 2 * 0 + _ ≤ _; exact Nat.le_of_eq rfl) (d9 hby 3 rfl) (fun _ _ => ⟨rfl, e3, (by decide : 2 + 0 ≤ _), (by decide : 8 + 0 ≤ _)⟩)
  dsimp only [Pt.U, Pt.locs, Pt.cells, Pt.slots] at X11 l11 y11 z11 st11 hQ11
  subst l11 y11 z11
  obtain ⟨rfl, N11q, e11⟩ := hQ11
  have N11 := Fr.app N0 N11q
  replace X11 := X11.more (cells' := 2) (slots' := 8) (by decide) (by decide)
  obtain ⟨T12, h12, X12, e12, E12, A12, D12, -, st12⟩ := newO X11 hx hZ3 ho3 (own_w hw 95 rfl) (own_w hw 96 rfl) (own_w hw 97 rfl) e11 (g := (mkF m 12 #[.val (.ref a1), .unset] [])) rfl (d9 hby 30 rfl) (by decide) (by decide)
  obtain ⟨b12, g12⟩ : ∃ z, z = h3.size := ⟨_, rfl⟩
  rw [← g12] at A12 D12 st12
  have g_b12 : n0 ≤ b12 := Nat.le_trans (Nat.le_trans Z0 K5.1) (Nat.le_of_eq g12.symm)
  have sz_b12 : h0.size ≤ b12 := Nat.le_trans K5.1 (Nat.le_of_eq g12.symm)
  have hR13 := (CHr.ext E12 hR4.1)
  have sf13_b12 := (Safe.ext E12 hR4.1 (Safe.new (Nat.le_of_eq g12.symm)))
  have ch13 := CHr.trans ch4 hR13
  have K14 : Keep h0 h12 [] := K5.ext E12
  have O15 : Old Z n0 h12 := O6.ext E12
  have F_value_b12 : Fld Z h12 b12 "java/lang/AbstractStringBuilder" "value" "[B" .null := D12 (Or.inl (own_w hw 110 rfl)) (ty := (.array .byte)) (by decide)
  have F_coder_b12 : Fld Z h12 b12 "java/lang/AbstractStringBuilder" "coder" "B" (.int 0) := D12 (Or.inl (own_w hw 112 rfl)) (ty := .byte) (by decide)
  have F_count_b12 : Fld Z h12 b12 "java/lang/AbstractStringBuilder" "count" "I" (.int 0) := D12 (Or.inl (own_w hw 129 rfl)) (ty := .int) (by decide)
  replace X12 := X12.more (cells' := 3) (slots' := 12) (by decide) (by decide)
  obtain ⟨vr16, _, ⟨T16, L16, k16, n16⟩, -, X16, ⟨Lc16, hQ16, l16, y16, z16⟩, st16⟩ := X12.specialBack hx (y := (⟨"java/lang/StringBuilder", "<init>", "()V"⟩ : MethodName)) rfl ho3 (mvT hZ3 (own_w hw 98 rfl)) (mvT hZ3 (own_w hw 99 rfl)) (mvT hZ3 (own_w hw 100 rfl)) (by decide) (backOf (W := 1) (rm17 l Z a0 hw [] b12 zC ((0 : Int32)) (.null) ((.int 0)) h12 n0 O15 A12 F_count_b12 S_COMPACT_STRINGS F_value_b12 F_coder_b12 h6_h7_h1_hc3 g_b12) hZ3 (own_w hw 100 rfl) (own_w hw 97 rfl) (by decide) (by decide)) (g := (mkF m 16 #[.val (.ref a1), .unset] [(.ref b12), (.ref b12)])) rfl (by rw [hml]; rfl) (Steps.refl _) (a := b12) (argsL := []) (rest := [(.ref b12)]) (lenOf pd_4 rfl) rfl (by show 2 * 0 + _ ≤ _; exact Nat.le_of_eq rfl) (d9 hby 32 rfl) (fun _ _ => ⟨rfl, e12, (by decide : 3 + 1 ≤ _), (by decide : 12 + 16 ≤ _)⟩)
  dsimp only [Pt.U, Pt.locs, Pt.cells, Pt.slots] at X16 l16 y16 z16 st16 hQ16
  subst l16 y16 z16
  obtain ⟨b17, k18, rfl, N16q, K16, Y16_z0, Y16_0, Y16_1, Y16_2, Y16_3, Y16_4, Y16_5⟩ := hQ16
  have N16 := Fr.app N11 N16q
  replace X16 := X16.more (cells' := 4) (slots' := 28) (by decide) (by decide)
  have g_b17 : n0 ≤ b17 := Nat.le_trans (Nat.le_trans Z0 K14.1) Y16_z0
  have sz_b17 : h0.size ≤ b17 := Nat.le_trans K14.1 Y16_z0
  have hR19 := (CHr.keep K16 (sfS sf13_b12 sf0) hR13.1)
  have sf19_b12 := (Safe.keep K16 (sfS sf13_b12 sf0) hR13.1 sf13_b12)
  have sf19_b17 := (Safe.keep K16 (sfS sf13_b12 sf0) hR13.1 (Safe.new Y16_z0))
  have ch19 := CHr.trans ch13 hR19
  have K20 : Keep h0 T16.heap [] := K14.trans K16 (allS (Or.inr sz_b12) all0)
  have O21 : Old Z n0 T16.heap := O15.keep K16 (allS g_b12 all0)
  obtain ⟨b22, T22, h22, k22n, t22, k22, X22, e22, E22, hS22, hk22, hZ22, ho22, lE22, lC22, lV22, lA22, la22, lb22, hL22, -, hs22, st22⟩ := ldcCH X16 hx hZ3 ho3 (own_w hw 240 rfl) (fun d hd => hw d (own_strw d hd)) rfl hS3 (Nat.le_trans hk3 (Nat.le_trans E12.1 K16.1)) (own_EW hw) (by decide) hR19.1 (vs := [(.int 91)]) (z := (1 : Int32)) ⟨by decide, by decide⟩ (by decide) (by decide) (g := (mkF m 19 #[.val (.ref a1), .unset] [(.ref b12)])) rfl (d9 hby 33 rfl) (n := 4) (by decide) (by decide) (by decide) (by decide)
  have hR23 := hL22
  have sf23_b12 := (CHr.safe hL22 (Nat.lt_of_lt_of_le A12.lt K16.1) sf19_b12)
  have sf23_b17 := (CHr.safe hL22 Y16_4.lt sf19_b17)
  have ch23 := CHr.trans ch19 hR23
  have K24 : Keep h0 h22 [] := K20.ext E22
  have O25 : Old Z n0 h22 := O21.ext E22
  replace X22 := X22.more (cells' := 6) (slots' := 36) (by decide) (by decide)
  have ns22_b12 := hs22 b12 sf23_b12
  have ns22_b17 := hs22 b17 sf23_b17
  have V26 : Arv Z h22 t22 k22 .byte (own_n [(91 : Int32)]) (own_by [(91 : Int32)]) (.int 0) := lA22
  have f27 := (Y16_0.ext E22)
  have f28 := (Y16_3.ext E22)
  have f29 := (Y16_4.ext E22)
  have f30 := (Y16_1.ext E22)
  have f31 := (Y16_2.ext E22)
  have f32 := (Y16_5.ext E22)
  have ne33 : b12 ≠ b17 := Nat.ne_of_lt (Nat.lt_of_lt_of_le A12.lt Y16_z0)
  obtain ⟨cq34, kq34, q34a, q34b, q34c⟩ := isOf hZ22 e22 f27
  obtain ⟨vr34, _, ⟨T34, L34, k34, n34⟩, -, X34, ⟨Lc34, hQ34, l34, y34, z34⟩, st34⟩ := X22.virtualBack hx (y := (⟨"java/lang/StringBuilder", "append", "(Ljava/lang/String;)Ljava/lang/StringBuilder;"⟩ : MethodName)) (z := (⟨"java/lang/StringBuilder", "append", "(Ljava/lang/String;)Ljava/lang/StringBuilder;"⟩ : MethodName)) ho22 (mvT hZ22 (own_w hw 113 rfl)) (mvT hZ22 (own_w hw 114 rfl)) (notFace_of_selects (args := #[]) (mvT hZ22 (own_w hw 116 rfl))) (mvT hZ22 (own_w hw 116 rfl)) (mvT hZ22 (own_w hw 115 rfl)) (by decide) (backOf (W := 0) (rm19 l Z a0 hw [] b12 b22 b17 t22 k18 k22 ((16 : Int32)) ((0 : Int32)) zC own_nil ([(91 : Int32)]) (h3.size) h22 n0 O25 f27 f29 f28 f30 f31 f32 lE22 lV22 lC22 V26 S_COMPACT_STRINGS g_b17 ne33 g_b12 (Ne.symm ns22_b12.1) (Ne.symm ns22_b12.2) h6_h7_h1_hc3 (rfl : (0 : Int32) = (own_n own_nil)) h21_h2_h33 (Or.inl ⟨rfl, Nat.zero_le _⟩) (Nat.le_trans E12.1 Y16_z0) (Nat.le_trans (Nat.le_trans E12.1 K16.1) E22.1)) hZ22 (own_w hw 117 rfl) (own_w hw 97 rfl) (by decide) (by decide)) q34a q34c (g := (mkF m 21 #[.val (.ref a1), .unset] [(.ref b22), (.ref b12)])) rfl (by rw [hml]; rfl) (Steps.refl _) (argsL := [(.ref b22)]) (rest := []) (lenOf pd_23 rfl) rfl (by show 2 * 0 + _ ≤ _; exact Nat.le_of_eq rfl) (d9 hby 34 rfl) (fun _ _ => ⟨rfl, e22, (by decide : 6 + 1 ≤ _), (by decide : 36 + 34 ≤ _)⟩)
  dsimp only [Pt.U, Pt.locs, Pt.cells, Pt.slots] at X34 l34 y34 z34 st34 hQ34
  subst l34 y34 z34
  obtain ⟨y35, y36, y37, rfl, N34q, K34, Y34_0, Y34_1, Y34_2, Y34_3, Y34_4, Y34_5, Y34_6, Y34_7, Y34_8, Y34_9, Y34_10⟩ := hQ34
  have N34 := Fr.app N16 N34q
  replace X34 := X34.more (cells' := 7) (slots' := 70) (by decide) (by decide)
  have sf38 : Safe Z own_EL _ h22 y35 := own_sfor Y34_9 sf23_b17
  have hR39 := (CHr.keep K34 (sfS sf23_b12 (sfS sf23_b17 sf0)) hR23.1)
  have sf39_b12 := (Safe.keep K34 (sfS sf23_b12 (sfS sf23_b17 sf0)) hR23.1 sf23_b12)
  have sf39_b17 := (Safe.keep K34 (sfS sf23_b12 (sfS sf23_b17 sf0)) hR23.1 sf23_b17)
  have sf39_y35 := (Safe.keep K34 (sfS sf23_b12 (sfS sf23_b17 sf0)) hR23.1 sf38)
  have ch39 := CHr.trans ch23 hR39
  have K40 : Keep h0 T34.heap [] := K24.trans K34 (allS (Or.inr sz_b12) (allS (Or.inr sz_b17) all0))
  have O41 : Old Z n0 T34.heap := O25.keep K34 (allS g_b12 (allS g_b17 all0))
  have g_y35 : n0 ≤ y35 := Nat.le_trans (Nat.le_trans Z0 K5.1) Y34_7
  have sz_y35 : h0.size ≤ y35 := Nat.le_trans K5.1 Y34_7
  have ne43 : a1 ≠ b12 := Nat.ne_of_lt (Nat.lt_of_lt_of_le (Nat.lt_of_lt_of_le HE_a1.lt E3.1) (Nat.le_of_eq g12.symm))
  have ne44 : a1 ≠ b17 := Nat.ne_of_lt (Nat.lt_of_lt_of_le (Nat.lt_of_lt_of_le HE_a1.lt (Nat.le_trans E3.1 E12.1)) Y16_z0)
  have f42 := (((((HF_a1_host.ext E3).ext E12).keep K16 (ninS ne43 nin0)).ext E22).keep K34 (ninS ne43 (ninS ne44 nin0)))
  obtain ⟨T45, X45, e45, st45⟩ := getF X34 hx hZ22 ho22 (host := "") (Or.inl (own_w hw 47 rfl)) Via.refl rfl f42 (g := (mkF m 25 #[.val (.ref a1), .unset] [(.ref a1), (.ref b12)])) rfl rfl (d9 hby 36 rfl)
  have f46 := ((((f7.ext E12).keep K16).ext E22).keep K34)
  have ne48 : x1 ≠ b12 := Nat.ne_of_lt (Nat.lt_of_lt_of_le (Nat.lt_of_lt_of_le HE_x1.lt E3.1) (Nat.le_of_eq g12.symm))
  have ne49 : x1 ≠ b17 := Nat.ne_of_lt (Nat.lt_of_lt_of_le (Nat.lt_of_lt_of_le HE_x1.lt (Nat.le_trans E3.1 E12.1)) Y16_z0)
  have f47 := ((((f8.ext E12).keep K16 (ninS ne48 nin0)).ext E22).keep K34 (ninS ne48 (ninS ne49 nin0)))
  have f50 := ((((f9.ext E12).keep K16 (ninS ne48 nin0)).ext E22).keep K34 (ninS ne48 (ninS ne49 nin0)))
  have ne52 : t1 ≠ b12 := Nat.ne_of_lt (Nat.lt_of_lt_of_le (Nat.lt_of_lt_of_le HV_t1.lt E3.1) (Nat.le_of_eq g12.symm))
  have ne53 : t1 ≠ b17 := Nat.ne_of_lt (Nat.lt_of_lt_of_le (Nat.lt_of_lt_of_le HV_t1.lt (Nat.le_trans E3.1 E12.1)) Y16_z0)
  have f51 := ((((f10.ext E12).keep K16 (ninS ne52 nin0)).ext E22).keep K34 (ninS ne52 (ninS ne53 nin0)))
  obtain ⟨cq54, kq54, q54a, q54b, q54c⟩ := isOf hZ22 e45 Y34_0
  obtain ⟨vr54, _, ⟨T54, L54, k54, n54⟩, -, X54, ⟨Lc54, hQ54, l54, y54, z54⟩, st54⟩ := X45.virtualBack hx (y := (⟨"java/lang/StringBuilder", "append", "(Ljava/lang/String;)Ljava/lang/StringBuilder;"⟩ : MethodName)) (z := (⟨"java/lang/StringBuilder", "append", "(Ljava/lang/String;)Ljava/lang/StringBuilder;"⟩ : MethodName)) ho22 (mvT hZ22 (own_w hw 113 rfl)) (mvT hZ22 (own_w hw 114 rfl)) (notFace_of_selects (args := #[]) (mvT hZ22 (own_w hw 116 rfl))) (mvT hZ22 (own_w hw 116 rfl)) (mvT hZ22 (own_w hw 115 rfl)) (by decide) (backOf (W := 0) (rm19 l Z a0 hw [] b12 x1 y35 t1 y36 k1 y37 ((own_n (own_nil ++ [(91 : Int32)]))) zC ((own_nil ++ [(91 : Int32)])) hs (h3.size) T34.heap n0 O41 Y34_0 Y34_5 Y34_3 Y34_1 Y34_2 Y34_6 f46 f47 f50 f51 S_COMPACT_STRINGS g_y35 Y34_10 g_b12 ne48 ne52 h6_h7_h1_hc3 (rfl : (own_n (own_nil ++ [(91 : Int32)])) = (own_n (own_nil ++ [(91 : Int32)]))) h28_h2_h33 Y34_8 Y34_7 (Nat.le_trans (Nat.le_trans (Nat.le_trans E12.1 K16.1) E22.1) K34.1)) hZ22 (own_w hw 117 rfl) (own_w hw 97 rfl) (by decide) (by decide)) q54a q54c (g := (mkF m 28 #[.val (.ref a1), .unset] [(.ref x1), (.ref b12)])) rfl (by rw [hml]; rfl) (Steps.refl _) (argsL := [(.ref x1)]) (rest := []) (lenOf pd_23 rfl) rfl (by show 2 * 0 + _ ≤ _; exact Nat.le_of_eq rfl) (d9 hby 37 rfl) (fun _ _ => ⟨rfl, e45, (by decide : 7 + 1 ≤ _), (by decide : 70 + 34 ≤ _)⟩)
  dsimp only [Pt.U, Pt.locs, Pt.cells, Pt.slots] at X54 l54 y54 z54 st54 hQ54
  subst l54 y54 z54
  obtain ⟨y55, y56, y57, rfl, N54q, K54, Y54_0, Y54_1, Y54_2, Y54_3, Y54_4, Y54_5, Y54_6, Y54_7, Y54_8, Y54_9, Y54_10⟩ := hQ54
  have N54 := Fr.app N34 N54q
  replace X54 := X54.more (cells' := 8) (slots' := 104) (by decide) (by decide)
  have sf58 : Safe Z own_EL _ T34.heap y55 := own_sfor Y54_9 sf39_y35
  have hR59 := (CHr.keep K54 (sfS sf39_b12 (sfS sf39_y35 sf0)) hR39.1)
  have sf59_b12 := (Safe.keep K54 (sfS sf39_b12 (sfS sf39_y35 sf0)) hR39.1 sf39_b12)
  have sf59_b17 := (Safe.keep K54 (sfS sf39_b12 (sfS sf39_y35 sf0)) hR39.1 sf39_b17)
  have sf59_y35 := (Safe.keep K54 (sfS sf39_b12 (sfS sf39_y35 sf0)) hR39.1 sf39_y35)
  have sf59_y55 := (Safe.keep K54 (sfS sf39_b12 (sfS sf39_y35 sf0)) hR39.1 sf58)
  have ch59 := CHr.trans ch39 hR59
  have K60 : Keep h0 T54.heap [] := K40.trans K54 (allS (Or.inr sz_b12) (allS (Or.inr sz_y35) all0))
  have O61 : Old Z n0 T54.heap := O41.keep K54 (allS g_b12 (allS g_y35 all0))
  have g_y55 : n0 ≤ y55 := Nat.le_trans (Nat.le_trans Z0 K5.1) Y54_7
  have sz_y55 : h0.size ≤ y55 := Nat.le_trans K5.1 Y54_7
  obtain ⟨b62, T62, h62, k62n, t62, k62, X62, e62, E62, hS62, hk62, hZ62, ho62, lE62, lC62, lV62, lA62, la62, lb62, hL62, -, hs62, st62⟩ := ldcCH X54 hx hZ22 ho22 (own_w hw 241 rfl) (fun d hd => hw d (own_strw d hd)) rfl hS22 (Nat.le_trans hk22 (Nat.le_trans K34.1 K54.1)) (own_EW hw) (by decide) hR59.1 (vs := [(.int 93), (.int 58)]) (z := (2 : Int32)) ⟨by decide, by decide⟩ (by decide) (by decide) (g := (mkF m 31 #[.val (.ref a1), .unset] [(.ref b12)])) rfl (d9 hby 38 rfl) (n := 8) (by decide) (by decide) (by decide) (by decide)
  have hR63 := hL62
  have sf63_b12 := (CHr.safe hL62 (Nat.lt_of_lt_of_le A12.lt (Nat.le_trans (Nat.le_trans (Nat.le_trans K16.1 E22.1) K34.1) K54.1)) sf59_b12)
  have sf63_b17 := (CHr.safe hL62 (Nat.lt_of_lt_of_le Y16_4.lt (Nat.le_trans (Nat.le_trans E22.1 K34.1) K54.1)) sf59_b17)
  have sf63_y35 := (CHr.safe hL62 (Nat.lt_of_lt_of_le Y34_5.lt K54.1) sf59_y35)
  have sf63_y55 := (CHr.safe hL62 Y54_5.lt sf59_y55)
  have ch63 := CHr.trans ch59 hR63
  have K64 : Keep h0 h62 [] := K60.ext E62
  have O65 : Old Z n0 h62 := O61.ext E62
  replace X62 := X62.more (cells' := 10) (slots' := 116) (by decide) (by decide)
  have ns62_b12 := hs62 b12 sf63_b12
  have ns62_b17 := hs62 b17 sf63_b17
  have ns62_y35 := hs62 y35 sf63_y35
  have ns62_y55 := hs62 y55 sf63_y55
  have V66 : Arv Z h62 t62 k62 .byte (own_n [(93 : Int32), (58 : Int32)]) (own_by [(93 : Int32), (58 : Int32)]) (.int 0) := lA62
  have f67 := (Y54_0.ext E62)
  have f68 := (Y54_3.ext E62)
  have f69 := (Y54_5.ext E62)
  have f70 := (Y54_1.ext E62)
  have f71 := (Y54_2.ext E62)
  have f72 := (Y54_6.ext E62)
  obtain ⟨cq73, kq73, q73a, q73b, q73c⟩ := isOf hZ62 e62 f67
  obtain ⟨vr73, _, ⟨T73, L73, k73, n73⟩, -, X73, ⟨Lc73, hQ73, l73, y73, z73⟩, st73⟩ := X62.virtualBack hx (y := (⟨"java/lang/StringBuilder", "append", "(Ljava/lang/String;)Ljava/lang/StringBuilder;"⟩ : MethodName)) (z := (⟨"java/lang/StringBuilder", "append", "(Ljava/lang/String;)Ljava/lang/StringBuilder;"⟩ : MethodName)) ho62 (mvT hZ62 (own_w hw 113 rfl)) (mvT hZ62 (own_w hw 114 rfl)) (notFace_of_selects (args := #[]) (mvT hZ62 (own_w hw 116 rfl))) (mvT hZ62 (own_w hw 116 rfl)) (mvT hZ62 (own_w hw 115 rfl)) (by decide) (backOf (W := 0) (rm19 l Z a0 hw [] b12 b62 y55 t62 y56 k62 y57 ((own_n ((own_nil ++ [(91 : Int32)]) ++ hs))) zC (((own_nil ++ [(91 : Int32)]) ++ hs)) ([(93 : Int32), (58 : Int32)]) (h3.size) h62 n0 O65 f67 f69 f68 f70 f71 f72 lE62 lV62 lC62 V66 S_COMPACT_STRINGS g_y55 Y54_10 g_b12 (Ne.symm ns62_b12.1) (Ne.symm ns62_b12.2) h6_h7_h1_hc3 (rfl : (own_n ((own_nil ++ [(91 : Int32)]) ++ hs)) = (own_n ((own_nil ++ [(91 : Int32)]) ++ hs))) h33_h2_h33 Y54_8 Y54_7 (Nat.le_trans (Nat.le_trans (Nat.le_trans (Nat.le_trans (Nat.le_trans E12.1 K16.1) E22.1) K34.1) K54.1) E62.1)) hZ62 (own_w hw 117 rfl) (own_w hw 97 rfl) (by decide) (by decide)) q73a q73c (g := (mkF m 33 #[.val (.ref a1), .unset] [(.ref b62), (.ref b12)])) rfl (by rw [hml]; rfl) (Steps.refl _) (argsL := [(.ref b62)]) (rest := []) (lenOf pd_23 rfl) rfl (by show 2 * 0 + _ ≤ _; exact Nat.le_of_eq rfl) (d9 hby 39 rfl) (fun _ _ => ⟨rfl, e62, (by decide : 10 + 1 ≤ _), (by decide : 116 + 34 ≤ _)⟩)
  dsimp only [Pt.U, Pt.locs, Pt.cells, Pt.slots] at X73 l73 y73 z73 st73 hQ73
  subst l73 y73 z73
  obtain ⟨y74, y75, y76, rfl, N73q, K73, Y73_0, Y73_1, Y73_2, Y73_3, Y73_4, Y73_5, Y73_6, Y73_7, Y73_8, Y73_9, Y73_10⟩ := hQ73
  have N73 := Fr.app N54 N73q
  replace X73 := X73.more (cells' := 11) (slots' := 150) (by decide) (by decide)
  have sf77 : Safe Z own_EL _ h62 y74 := own_sfor Y73_9 sf63_y55
  have hR78 := (CHr.keep K73 (sfS sf63_b12 (sfS sf63_y55 sf0)) hR63.1)
  have sf78_b12 := (Safe.keep K73 (sfS sf63_b12 (sfS sf63_y55 sf0)) hR63.1 sf63_b12)
  have sf78_b17 := (Safe.keep K73 (sfS sf63_b12 (sfS sf63_y55 sf0)) hR63.1 sf63_b17)
  have sf78_y35 := (Safe.keep K73 (sfS sf63_b12 (sfS sf63_y55 sf0)) hR63.1 sf63_y35)
  have sf78_y55 := (Safe.keep K73 (sfS sf63_b12 (sfS sf63_y55 sf0)) hR63.1 sf63_y55)
  have sf78_y74 := (Safe.keep K73 (sfS sf63_b12 (sfS sf63_y55 sf0)) hR63.1 sf77)
  have ch78 := CHr.trans ch63 hR78
  have K79 : Keep h0 T73.heap [] := K64.trans K73 (allS (Or.inr sz_b12) (allS (Or.inr sz_y55) all0))
  have O80 : Old Z n0 T73.heap := O65.keep K73 (allS g_b12 (allS g_y55 all0))
  have g_y74 : n0 ≤ y74 := Nat.le_trans (Nat.le_trans Z0 K5.1) Y73_7
  have sz_y74 : h0.size ≤ y74 := Nat.le_trans K5.1 Y73_7
  have ne82 : a1 ≠ y35 := Nat.ne_of_lt (Nat.lt_of_lt_of_le (Nat.lt_of_lt_of_le HE_a1.lt E3.1) Y34_7)
  have ne83 : a1 ≠ y55 := Nat.ne_of_lt (Nat.lt_of_lt_of_le (Nat.lt_of_lt_of_le HE_a1.lt E3.1) Y54_7)
  have f81 := ((((((((HF_a1_port.ext E3).ext E12).keep K16 (ninS ne43 nin0)).ext E22).keep K34 (ninS ne43 (ninS ne44 nin0))).keep K54 (ninS ne43 (ninS ne82 nin0))).ext E62).keep K73 (ninS ne43 (ninS ne83 nin0)))
  obtain ⟨T84, X84, e84, st84⟩ := getF X73 hx hZ62 ho62 (host := "") (Or.inl (own_w hw 49 rfl)) Via.refl rfl f81 (g := (mkF m 37 #[.val (.ref a1), .unset] [(.ref a1), (.ref b12)])) rfl rfl (d9 hby 41 rfl)
  have ne86 : wO ≠ b12 := Nat.ne_of_lt (Nat.lt_of_lt_of_le (Nat.lt_of_lt_of_le HA_wO.lt E3.1) (Nat.le_of_eq g12.symm))
  have ne87 : wO ≠ b17 := Nat.ne_of_lt (Nat.lt_of_lt_of_le (Nat.lt_of_lt_of_le HA_wO.lt (Nat.le_trans E3.1 E12.1)) Y16_z0)
  have ne88 : wO ≠ y35 := Nat.ne_of_lt (Nat.lt_of_lt_of_le (Nat.lt_of_lt_of_le HA_wO.lt E3.1) Y34_7)
  have ne89 : wO ≠ y55 := Nat.ne_of_lt (Nat.lt_of_lt_of_le (Nat.lt_of_lt_of_le HA_wO.lt E3.1) Y54_7)
  have f85 := (own_arrkeep ((own_arrkeep (own_arrkeep ((own_arrkeep ((HA_wO.ext E3).ext E12) K16 (ninS ne86 nin0)).ext E22) K34 (ninS ne86 (ninS ne87 nin0))) K54 (ninS ne86 (ninS ne88 nin0))).ext E62) K73 (ninS ne86 (ninS ne89 nin0)))
  have ne91 : wT ≠ b12 := Nat.ne_of_lt (Nat.lt_of_lt_of_le (Nat.lt_of_lt_of_le HA_wT.lt E3.1) (Nat.le_of_eq g12.symm))
  have ne92 : wT ≠ b17 := Nat.ne_of_lt (Nat.lt_of_lt_of_le (Nat.lt_of_lt_of_le HA_wT.lt (Nat.le_trans E3.1 E12.1)) Y16_z0)
  have ne93 : wT ≠ y35 := Nat.ne_of_lt (Nat.lt_of_lt_of_le (Nat.lt_of_lt_of_le HA_wT.lt E3.1) Y34_7)
  have ne94 : wT ≠ y55 := Nat.ne_of_lt (Nat.lt_of_lt_of_le (Nat.lt_of_lt_of_le HA_wT.lt E3.1) Y54_7)
  have f90 := (own_arrkeep ((own_arrkeep (own_arrkeep ((own_arrkeep ((HA_wT.ext E3).ext E12) K16 (ninS ne91 nin0)).ext E22) K34 (ninS ne91 (ninS ne92 nin0))) K54 (ninS ne91 (ninS ne93 nin0))).ext E62) K73 (ninS ne91 (ninS ne94 nin0)))
  have ne95 : wO ≠ y74 := Nat.ne_of_lt (Nat.lt_of_lt_of_le (Nat.lt_of_lt_of_le HA_wO.lt E3.1) Y73_7)
  have ne96 : wT ≠ y74 := Nat.ne_of_lt (Nat.lt_of_lt_of_le (Nat.lt_of_lt_of_le HA_wT.lt E3.1) Y73_7)
  obtain ⟨cq97, kq97, q97a, q97b, q97c⟩ := isOf hZ62 e84 Y73_0
  obtain ⟨vr97, _, ⟨T97, L97, k97, n97⟩, -, X97, ⟨Lc97, hQ97, l97, y97, z97⟩, st97⟩ := X84.virtualBack hx (y := (⟨"java/lang/StringBuilder", "append", "(I)Ljava/lang/StringBuilder;"⟩ : MethodName)) (z := (⟨"java/lang/StringBuilder", "append", "(I)Ljava/lang/StringBuilder;"⟩ : MethodName)) ho62 (mvT hZ62 (own_w hw 155 rfl)) (mvT hZ62 (own_w hw 156 rfl)) (notFace_of_selects (args := #[]) (mvT hZ62 (own_w hw 158 rfl))) (mvT hZ62 (own_w hw 158 rfl)) (mvT hZ62 (own_w hw 157 rfl)) (by decide) (backOf (W := 0) (rm26 l Z a0 hw [] b12 vp y75 y74 ((own_n (((own_nil ++ [(91 : Int32)]) ++ hs) ++ [(93 : Int32), (58 : Int32)]))) zC ((((own_nil ++ [(91 : Int32)]) ++ hs) ++ [(93 : Int32), (58 : Int32)])) n wO wT cO cT y76 T73.heap n0 O80 Y73_0 Y73_5 Y73_3 Y73_1 Y73_2 Y73_6 f85 f90 S_COMPACT_STRINGS S_DigitOnes S_DigitTens g_y74 ne95 ne96 Y73_10 g_b12 h6_h7_h1_hc3 (rfl : (own_n (((own_nil ++ [(91 : Int32)]) ++ hs) ++ [(93 : Int32), (58 : Int32)])) = (own_n (((own_nil ++ [(91 : Int32)]) ++ hs) ++ [(93 : Int32), (58 : Int32)]))) h40_h2_hv h40_h2_hn h40_h2_hl Y73_8 h40_h2_htab) hZ62 (own_w hw 159 rfl) (own_w hw 97 rfl) (by decide) (by decide)) q97a q97c (g := (mkF m 40 #[.val (.ref a1), .unset] [(.int vp), (.ref b12)])) rfl (by rw [hml]; rfl) (Steps.refl _) (argsL := [(.int vp)]) (rest := []) (lenOf pd_10 rfl) rfl (by show 2 * 0 + _ ≤ _; exact Nat.le_of_eq rfl) (d9 hby 42 rfl) (fun _ _ => ⟨rfl, e84, (by decide : 11 + 0 ≤ _), (by decide : 150 + 0 ≤ _)⟩)
  dsimp only [Pt.U, Pt.locs, Pt.cells, Pt.slots] at X97 l97 y97 z97 st97 hQ97
  subst l97 y97 z97
  obtain ⟨rfl, N97q, K97, Y97_0, Y97_1, Y97_2, Y97_3, Y97_4, Y97_5, Y97_6⟩ := hQ97
  have N97 := Fr.app N73 N97q
  replace X97 := X97.more (cells' := 11) (slots' := 150) (by decide) (by decide)
  have hR98 := (CHr.keep K97 (sfS sf78_b12 (sfS sf78_y74 sf0)) hR78.1)
  have sf98_b12 := (Safe.keep K97 (sfS sf78_b12 (sfS sf78_y74 sf0)) hR78.1 sf78_b12)
  have sf98_b17 := (Safe.keep K97 (sfS sf78_b12 (sfS sf78_y74 sf0)) hR78.1 sf78_b17)
  have sf98_y35 := (Safe.keep K97 (sfS sf78_b12 (sfS sf78_y74 sf0)) hR78.1 sf78_y35)
  have sf98_y55 := (Safe.keep K97 (sfS sf78_b12 (sfS sf78_y74 sf0)) hR78.1 sf78_y55)
  have sf98_y74 := (Safe.keep K97 (sfS sf78_b12 (sfS sf78_y74 sf0)) hR78.1 sf78_y74)
  have ch98 := CHr.trans ch78 hR98
  have K99 : Keep h0 T97.heap [] := K79.trans K97 (allS (Or.inr sz_b12) (allS (Or.inr sz_y74) all0))
  have O100 : Old Z n0 T97.heap := O80.keep K97 (allS g_b12 (allS g_y74 all0))
  obtain ⟨cq101, kq101, q101a, q101b, q101c⟩ := isOf hZ62 rfl Y97_0
  obtain ⟨vr101, _, ⟨T101, L101, k101, n101⟩, -, X101, ⟨Lc101, hQ101, l101, y101, z101⟩, st101⟩ := X97.virtualBack hx (y := (⟨"java/lang/StringBuilder", "toString", "()Ljava/lang/String;"⟩ : MethodName)) (z := (⟨"java/lang/StringBuilder", "toString", "()Ljava/lang/String;"⟩ : MethodName)) ho62 (mvT hZ62 (own_w hw 177 rfl)) (mvT hZ62 (own_w hw 178 rfl)) (notFace_of_selects (args := #[]) (mvT hZ62 (own_w hw 180 rfl))) (mvT hZ62 (own_w hw 180 rfl)) (mvT hZ62 (own_w hw 179 rfl)) (by decide) (backOf (W := 0) (rm31 l Z a0 hw [] b12 y75 y74 y76 ((own_n ((((own_nil ++ [(91 : Int32)]) ++ hs) ++ [(93 : Int32), (58 : Int32)]) ++ own_dec n))) zC (((((own_nil ++ [(91 : Int32)]) ++ hs) ++ [(93 : Int32), (58 : Int32)]) ++ own_dec n)) T97.heap n0 O100 Y97_0 Y97_4 Y97_3 Y97_1 Y97_2 Y97_5 S_COMPACT_STRINGS h6_h7_h1_hc3 (rfl : (own_n ((((own_nil ++ [(91 : Int32)]) ++ hs) ++ [(93 : Int32), (58 : Int32)]) ++ own_dec n)) = (own_n ((((own_nil ++ [(91 : Int32)]) ++ hs) ++ [(93 : Int32), (58 : Int32)]) ++ own_dec n))) Y97_6 h43_h5_h3_h32_h33) hZ62 (own_w hw 181 rfl) (own_w hw 97 rfl) (by decide) (by decide)) q101a q101c (g := (mkF m 43 #[.val (.ref a1), .unset] [(.ref b12)])) rfl (by rw [hml]; rfl) (Steps.refl _) (argsL := []) (rest := []) (lenOf pd_3 rfl) rfl (by show 2 * 0 + _ ≤ _; exact Nat.le_of_eq rfl) (d9 hby 43 rfl) (fun _ _ => ⟨rfl, rfl, (by decide : 11 + 2 ≤ _), (by decide : 150 + 38 ≤ _)⟩)
  dsimp only [Pt.U, Pt.locs, Pt.cells, Pt.slots] at X101 l101 y101 z101 st101 hQ101
  subst l101 y101 z101
  obtain ⟨b102, b103, k104, rfl, N101q, K101, Y101_z0, Y101_z1, Y101_n0, Y101_0, Y101_1, Y101_2, Y101_3⟩ := hQ101
  have N101 := Fr.app N97 N101q
  replace X101 := X101.more (cells' := 13) (slots' := 188) (by decide) (by decide)
  have g_b102 : n0 ≤ b102 := Nat.le_trans (Nat.le_trans Z0 K99.1) Y101_z0
  have sz_b102 : h0.size ≤ b102 := Nat.le_trans K99.1 Y101_z0
  have g_b103 : n0 ≤ b103 := Nat.le_trans (Nat.le_trans Z0 K99.1) Y101_z1
  have sz_b103 : h0.size ≤ b103 := Nat.le_trans K99.1 Y101_z1
  have hR105 := (CHr.keep K101 sf0 hR98.1)
  have sf105_b12 := (Safe.keep K101 sf0 hR98.1 sf98_b12)
  have sf105_b17 := (Safe.keep K101 sf0 hR98.1 sf98_b17)
  have sf105_y35 := (Safe.keep K101 sf0 hR98.1 sf98_y35)
  have sf105_y55 := (Safe.keep K101 sf0 hR98.1 sf98_y55)
  have sf105_y74 := (Safe.keep K101 sf0 hR98.1 sf98_y74)
  have sf105_b102 := (Safe.keep K101 sf0 hR98.1 (Safe.new Y101_z0))
  have sf105_b103 := (Safe.keep K101 sf0 hR98.1 (Safe.new Y101_z1))
  have ch105 := CHr.trans ch98 hR105
  have K106 : Keep h0 T101.heap [] := K99.trans K101 all0
  have O107 : Old Z n0 T101.heap := O100.keep K101 all0
  obtain ⟨T108, h108, X108, e108, E108, A108, D108, -, st108⟩ := newO X101 hx hZ62 ho62 (own_w hw 95 rfl) (own_w hw 96 rfl) (own_w hw 97 rfl) rfl (g := (mkF m 79 #[.val (.ref a1), .val (.ref b102)] [])) rfl (d9 hby 18 rfl) (by decide) (by decide)
  obtain ⟨b108, g108⟩ : ∃ z, z = T101.heap.size := ⟨_, rfl⟩
  rw [← g108] at A108 D108 st108
  have g_b108 : n0 ≤ b108 := Nat.le_trans (Nat.le_trans Z0 K106.1) (Nat.le_of_eq g108.symm)
  have sz_b108 : h0.size ≤ b108 := Nat.le_trans K106.1 (Nat.le_of_eq g108.symm)
  have hR109 := (CHr.ext E108 hR105.1)
  have sf109_b12 := (Safe.ext E108 hR105.1 sf105_b12)
  have sf109_b17 := (Safe.ext E108 hR105.1 sf105_b17)
  have sf109_y35 := (Safe.ext E108 hR105.1 sf105_y35)
  have sf109_y55 := (Safe.ext E108 hR105.1 sf105_y55)
  have sf109_y74 := (Safe.ext E108 hR105.1 sf105_y74)
  have sf109_b102 := (Safe.ext E108 hR105.1 sf105_b102)
  have sf109_b103 := (Safe.ext E108 hR105.1 sf105_b103)
  have sf109_b108 := (Safe.ext E108 hR105.1 (Safe.new (Nat.le_of_eq g108.symm)))
  have ch109 := CHr.trans ch105 hR109
  have K110 : Keep h0 h108 [] := K106.ext E108
  have O111 : Old Z n0 h108 := O107.ext E108
  have F_value_b108 : Fld Z h108 b108 "java/lang/AbstractStringBuilder" "value" "[B" .null := D108 (Or.inl (own_w hw 110 rfl)) (ty := (.array .byte)) (by decide)
  have F_coder_b108 : Fld Z h108 b108 "java/lang/AbstractStringBuilder" "coder" "B" (.int 0) := D108 (Or.inl (own_w hw 112 rfl)) (ty := .byte) (by decide)
  have F_count_b108 : Fld Z h108 b108 "java/lang/AbstractStringBuilder" "count" "I" (.int 0) := D108 (Or.inl (own_w hw 129 rfl)) (ty := .int) (by decide)
  replace X108 := X108.more (cells' := 14) (slots' := 192) (by decide) (by decide)
  obtain ⟨vr112, _, ⟨T112, L112, k112, n112⟩, -, X112, ⟨Lc112, hQ112, l112, y112, z112⟩, st112⟩ := X108.specialBack hx (y := (⟨"java/lang/StringBuilder", "<init>", "()V"⟩ : MethodName)) rfl ho62 (mvT hZ62 (own_w hw 98 rfl)) (mvT hZ62 (own_w hw 99 rfl)) (mvT hZ62 (own_w hw 100 rfl)) (by decide) (backOf (W := 1) (rm17 l Z a0 hw [] b108 zC ((0 : Int32)) (.null) ((.int 0)) h108 n0 O111 A108 F_count_b108 S_COMPACT_STRINGS F_value_b108 F_coder_b108 h6_h7_h1_hc3 g_b108) hZ62 (own_w hw 100 rfl) (own_w hw 97 rfl) (by decide) (by decide)) (g := (mkF m 83 #[.val (.ref a1), .val (.ref b102)] [(.ref b108), (.ref b108)])) rfl (by rw [hml]; rfl) (Steps.refl _) (a := b108) (argsL := []) (rest := [(.ref b108)]) (lenOf pd_4 rfl) rfl (by show 2 * 0 + _ ≤ _; exact Nat.le_of_eq rfl) (d9 hby 20 rfl) (fun _ _ => ⟨rfl, e108, (by decide : 14 + 1 ≤ _), (by decide : 192 + 16 ≤ _)⟩)
  dsimp only [Pt.U, Pt.locs, Pt.cells, Pt.slots] at X112 l112 y112 z112 st112 hQ112
  subst l112 y112 z112
  obtain ⟨b113, k114, rfl, N112q, K112, Y112_z0, Y112_0, Y112_1, Y112_2, Y112_3, Y112_4, Y112_5⟩ := hQ112
  have N112 := Fr.app N101 N112q
  replace X112 := X112.more (cells' := 15) (slots' := 208) (by decide) (by decide)
  have g_b113 : n0 ≤ b113 := Nat.le_trans (Nat.le_trans Z0 K110.1) Y112_z0
  have sz_b113 : h0.size ≤ b113 := Nat.le_trans K110.1 Y112_z0
  have hR115 := (CHr.keep K112 (sfS sf109_b108 sf0) hR109.1)
  have sf115_b12 := (Safe.keep K112 (sfS sf109_b108 sf0) hR109.1 sf109_b12)
  have sf115_b17 := (Safe.keep K112 (sfS sf109_b108 sf0) hR109.1 sf109_b17)
  have sf115_y35 := (Safe.keep K112 (sfS sf109_b108 sf0) hR109.1 sf109_y35)
  have sf115_y55 := (Safe.keep K112 (sfS sf109_b108 sf0) hR109.1 sf109_y55)
  have sf115_y74 := (Safe.keep K112 (sfS sf109_b108 sf0) hR109.1 sf109_y74)
  have sf115_b102 := (Safe.keep K112 (sfS sf109_b108 sf0) hR109.1 sf109_b102)
  have sf115_b103 := (Safe.keep K112 (sfS sf109_b108 sf0) hR109.1 sf109_b103)
  have sf115_b108 := (Safe.keep K112 (sfS sf109_b108 sf0) hR109.1 sf109_b108)
  have sf115_b113 := (Safe.keep K112 (sfS sf109_b108 sf0) hR109.1 (Safe.new Y112_z0))
  have ch115 := CHr.trans ch109 hR115
  have K116 : Keep h0 T112.heap [] := K110.trans K112 (allS (Or.inr sz_b108) all0)
  have O117 : Old Z n0 T112.heap := O111.keep K112 (allS g_b108 all0)
  obtain ⟨b118, T118, h118, k118n, t118, k118, X118, e118, E118, hS118, hk118, hZ118, ho118, lE118, lC118, lV118, lA118, la118, lb118, hL118, -, hs118, st118⟩ := ldcCH X112 hx hZ62 ho62 (own_w hw 218 rfl) (fun d hd => hw d (own_strw d hd)) rfl hS62 (Nat.le_trans hk62 (Nat.le_trans (Nat.le_trans (Nat.le_trans (Nat.le_trans K73.1 K97.1) K101.1) E108.1) K112.1)) (own_EW hw) (by decide) hR115.1 (vs := [(.int 109), (.int 111), (.int 113), (.int 116), (.int 58), (.int 47), (.int 47)]) (z := (7 : Int32)) ⟨by decide, by decide⟩ (by decide) (by decide) (g := (mkF m 86 #[.val (.ref a1), .val (.ref b102)] [(.ref b108)])) rfl (d9 hby 21 rfl) (n := 28) (by decide) (by decide) (by decide) (by decide)
  have hR119 := hL118
  have sf119_b12 := (CHr.safe hL118 (Nat.lt_of_lt_of_le A12.lt (Nat.le_trans (Nat.le_trans (Nat.le_trans (Nat.le_trans (Nat.le_trans (Nat.le_trans (Nat.le_trans (Nat.le_trans (Nat.le_trans K16.1 E22.1) K34.1) K54.1) E62.1) K73.1) K97.1) K101.1) E108.1) K112.1)) sf115_b12)
  have sf119_b17 := (CHr.safe hL118 (Nat.lt_of_lt_of_le Y16_4.lt (Nat.le_trans (Nat.le_trans (Nat.le_trans (Nat.le_trans (Nat.le_trans (Nat.le_trans (Nat.le_trans (Nat.le_trans E22.1 K34.1) K54.1) E62.1) K73.1) K97.1) K101.1) E108.1) K112.1)) sf115_b17)
  have sf119_y35 := (CHr.safe hL118 (Nat.lt_of_lt_of_le Y34_5.lt (Nat.le_trans (Nat.le_trans (Nat.le_trans (Nat.le_trans (Nat.le_trans (Nat.le_trans K54.1 E62.1) K73.1) K97.1) K101.1) E108.1) K112.1)) sf115_y35)
  have sf119_y55 := (CHr.safe hL118 (Nat.lt_of_lt_of_le Y54_5.lt (Nat.le_trans (Nat.le_trans (Nat.le_trans (Nat.le_trans (Nat.le_trans E62.1 K73.1) K97.1) K101.1) E108.1) K112.1)) sf115_y55)
  have sf119_y74 := (CHr.safe hL118 (Nat.lt_of_lt_of_le Y73_5.lt (Nat.le_trans (Nat.le_trans (Nat.le_trans K97.1 K101.1) E108.1) K112.1)) sf115_y74)
  have sf119_b102 := (CHr.safe hL118 (Nat.lt_of_lt_of_le Y101_0.lt (Nat.le_trans E108.1 K112.1)) sf115_b102)
  have sf119_b103 := (CHr.safe hL118 (Nat.lt_of_lt_of_le Y101_3.lt (Nat.le_trans E108.1 K112.1)) sf115_b103)
  have sf119_b108 := (CHr.safe hL118 (Nat.lt_of_lt_of_le A108.lt K112.1) sf115_b108)
  have sf119_b113 := (CHr.safe hL118 Y112_4.lt sf115_b113)
  have ch119 := CHr.trans ch115 hR119
  have K120 : Keep h0 h118 [] := K116.ext E118
  have O121 : Old Z n0 h118 := O117.ext E118
  replace X118 := X118.more (cells' := 17) (slots' := 240) (by decide) (by decide)
  have ns118_b12 := hs118 b12 sf119_b12
  have ns118_b17 := hs118 b17 sf119_b17
  have ns118_y35 := hs118 y35 sf119_y35
  have ns118_y55 := hs118 y55 sf119_y55
  have ns118_y74 := hs118 y74 sf119_y74
  have ns118_b102 := hs118 b102 sf119_b102
  have ns118_b103 := hs118 b103 sf119_b103
  have ns118_b108 := hs118 b108 sf119_b108
  have ns118_b113 := hs118 b113 sf119_b113
  have V122 : Arv Z h118 t118 k118 .byte (own_n [(109 : Int32), (111 : Int32), (113 : Int32), (116 : Int32), (58 : Int32), (47 : Int32), (47 : Int32)]) (own_by [(109 : Int32), (111 : Int32), (113 : Int32), (116 : Int32), (58 : Int32), (47 : Int32), (47 : Int32)]) (.int 0) := lA118
  have f123 := (Y112_0.ext E118)
  have f124 := (Y112_3.ext E118)
  have f125 := (Y112_4.ext E118)
  have f126 := (Y112_1.ext E118)
  have f127 := (Y112_2.ext E118)
  have f128 := (Y112_5.ext E118)
  have ne129 : b108 ≠ b113 := Nat.ne_of_lt (Nat.lt_of_lt_of_le A108.lt Y112_z0)
  obtain ⟨cq130, kq130, q130a, q130b, q130c⟩ := isOf hZ118 e118 f123
  obtain ⟨vr130, _, ⟨T130, L130, k130, n130⟩, -, X130, ⟨Lc130, hQ130, l130, y130, z130⟩, st130⟩ := X118.virtualBack hx (y := (⟨"java/lang/StringBuilder", "append", "(Ljava/lang/String;)Ljava/lang/StringBuilder;"⟩ : MethodName)) (z := (⟨"java/lang/StringBuilder", "append", "(Ljava/lang/String;)Ljava/lang/StringBuilder;"⟩ : MethodName)) ho118 (mvT hZ118 (own_w hw 113 rfl)) (mvT hZ118 (own_w hw 114 rfl)) (notFace_of_selects (args := #[]) (mvT hZ118 (own_w hw 116 rfl))) (mvT hZ118 (own_w hw 116 rfl)) (mvT hZ118 (own_w hw 115 rfl)) (by decide) (backOf (W := 0) (rm19 l Z a0 hw [] b108 b118 b113 t118 k114 k118 ((16 : Int32)) ((0 : Int32)) zC own_nil ([(109 : Int32), (111 : Int32), (113 : Int32), (116 : Int32), (58 : Int32), (47 : Int32), (47 : Int32)]) (T101.heap.size) h118 n0 O121 f123 f125 f124 f126 f127 f128 lE118 lV118 lC118 V122 S_COMPACT_STRINGS g_b113 ne129 g_b108 (Ne.symm ns118_b108.1) (Ne.symm ns118_b108.2) h6_h7_h1_hc3 (rfl : (0 : Int32) = (own_n own_nil)) h88_h2_h33 (Or.inl ⟨rfl, Nat.zero_le _⟩) (Nat.le_trans E108.1 Y112_z0) (Nat.le_trans (Nat.le_trans E108.1 K112.1) E118.1)) hZ118 (own_w hw 117 rfl) (own_w hw 97 rfl) (by decide) (by decide)) q130a q130c (g := (mkF m 88 #[.val (.ref a1), .val (.ref b102)] [(.ref b118), (.ref b108)])) rfl (by rw [hml]; rfl) (Steps.refl _) (argsL := [(.ref b118)]) (rest := []) (lenOf pd_23 rfl) rfl (by show 2 * 0 + _ ≤ _; exact Nat.le_of_eq rfl) (d9 hby 22 rfl) (fun _ _ => ⟨rfl, e118, (by decide : 17 + 1 ≤ _), (by decide : 240 + 34 ≤ _)⟩)
  dsimp only [Pt.U, Pt.locs, Pt.cells, Pt.slots] at X130 l130 y130 z130 st130 hQ130
  subst l130 y130 z130
  obtain ⟨y131, y132, y133, rfl, N130q, K130, Y130_0, Y130_1, Y130_2, Y130_3, Y130_4, Y130_5, Y130_6, Y130_7, Y130_8, Y130_9, Y130_10⟩ := hQ130
  have N130 := Fr.app N112 N130q
  replace X130 := X130.more (cells' := 18) (slots' := 274) (by decide) (by decide)
  have sf134 : Safe Z own_EL _ h118 y131 := own_sfor Y130_9 sf119_b113
  have hR135 := (CHr.keep K130 (sfS sf119_b108 (sfS sf119_b113 sf0)) hR119.1)
  have sf135_b12 := (Safe.keep K130 (sfS sf119_b108 (sfS sf119_b113 sf0)) hR119.1 sf119_b12)
  have sf135_b17 := (Safe.keep K130 (sfS sf119_b108 (sfS sf119_b113 sf0)) hR119.1 sf119_b17)
  have sf135_y35 := (Safe.keep K130 (sfS sf119_b108 (sfS sf119_b113 sf0)) hR119.1 sf119_y35)
  have sf135_y55 := (Safe.keep K130 (sfS sf119_b108 (sfS sf119_b113 sf0)) hR119.1 sf119_y55)
  have sf135_y74 := (Safe.keep K130 (sfS sf119_b108 (sfS sf119_b113 sf0)) hR119.1 sf119_y74)
  have sf135_b102 := (Safe.keep K130 (sfS sf119_b108 (sfS sf119_b113 sf0)) hR119.1 sf119_b102)
  have sf135_b103 := (Safe.keep K130 (sfS sf119_b108 (sfS sf119_b113 sf0)) hR119.1 sf119_b103)
  have sf135_b108 := (Safe.keep K130 (sfS sf119_b108 (sfS sf119_b113 sf0)) hR119.1 sf119_b108)
  have sf135_b113 := (Safe.keep K130 (sfS sf119_b108 (sfS sf119_b113 sf0)) hR119.1 sf119_b113)
  have sf135_y131 := (Safe.keep K130 (sfS sf119_b108 (sfS sf119_b113 sf0)) hR119.1 sf134)
  have ch135 := CHr.trans ch119 hR135
  have K136 : Keep h0 T130.heap [] := K120.trans K130 (allS (Or.inr sz_b108) (allS (Or.inr sz_b113) all0))
  have O137 : Old Z n0 T130.heap := O121.keep K130 (allS g_b108 (allS g_b113 all0))
  have g_y131 : n0 ≤ y131 := Nat.le_trans (Nat.le_trans Z0 K106.1) Y130_7
  have sz_y131 : h0.size ≤ y131 := Nat.le_trans K106.1 Y130_7
  have f138 := ((((Y101_0.ext E108).keep K112).ext E118).keep K130)
  have ne140 : b102 ≠ b108 := Nat.ne_of_lt (Nat.lt_of_lt_of_le Y101_0.lt (Nat.le_of_eq g108.symm))
  have ne141 : b102 ≠ b113 := Nat.ne_of_lt (Nat.lt_of_lt_of_le (Nat.lt_of_lt_of_le Y101_0.lt E108.1) Y112_z0)
  have f139 := ((((Y101_2.ext E108).keep K112 (ninS ne140 nin0)).ext E118).keep K130 (ninS ne140 (ninS ne141 nin0)))
  have f142 := ((((Y101_1.ext E108).keep K112 (ninS ne140 nin0)).ext E118).keep K130 (ninS ne140 (ninS ne141 nin0)))
  have ne144 : b103 ≠ b108 := Nat.ne_of_lt (Nat.lt_of_lt_of_le Y101_3.lt (Nat.le_of_eq g108.symm))
  have ne145 : b103 ≠ b113 := Nat.ne_of_lt (Nat.lt_of_lt_of_le (Nat.lt_of_lt_of_le Y101_3.lt E108.1) Y112_z0)
  have f143 := ((((Y101_3.ext E108).keep K112 (ninS ne144 nin0)).ext E118).keep K130 (ninS ne144 (ninS ne145 nin0)))
  obtain ⟨cq146, kq146, q146a, q146b, q146c⟩ := isOf hZ118 rfl Y130_0
  obtain ⟨vr146, _, ⟨T146, L146, k146, n146⟩, -, X146, ⟨Lc146, hQ146, l146, y146, z146⟩, st146⟩ := X130.virtualBack hx (y := (⟨"java/lang/StringBuilder", "append", "(Ljava/lang/String;)Ljava/lang/StringBuilder;"⟩ : MethodName)) (z := (⟨"java/lang/StringBuilder", "append", "(Ljava/lang/String;)Ljava/lang/StringBuilder;"⟩ : MethodName)) ho118 (mvT hZ118 (own_w hw 113 rfl)) (mvT hZ118 (own_w hw 114 rfl)) (notFace_of_selects (args := #[]) (mvT hZ118 (own_w hw 116 rfl))) (mvT hZ118 (own_w hw 116 rfl)) (mvT hZ118 (own_w hw 115 rfl)) (by decide) (backOf (W := 0) (rm19 l Z a0 hw [] b108 b102 y131 b103 y132 k104 y133 ((own_n (own_nil ++ [(109 : Int32), (111 : Int32), (113 : Int32), (116 : Int32), (58 : Int32), (47 : Int32), (47 : Int32)]))) zC ((own_nil ++ [(109 : Int32), (111 : Int32), (113 : Int32), (116 : Int32), (58 : Int32), (47 : Int32), (47 : Int32)])) (((((own_nil ++ [(91 : Int32)]) ++ hs) ++ [(93 : Int32), (58 : Int32)]) ++ own_dec n)) (T101.heap.size) T130.heap n0 O137 Y130_0 Y130_5 Y130_3 Y130_1 Y130_2 Y130_6 f138 f139 f142 f143 S_COMPACT_STRINGS g_y131 Y130_10 g_b108 ne140 ne144 h6_h7_h1_hc3 (rfl : (own_n (own_nil ++ [(109 : Int32), (111 : Int32), (113 : Int32), (116 : Int32), (58 : Int32), (47 : Int32), (47 : Int32)])) = (own_n (own_nil ++ [(109 : Int32), (111 : Int32), (113 : Int32), (116 : Int32), (58 : Int32), (47 : Int32), (47 : Int32)]))) h92_h2_h33 Y130_8 Y130_7 (Nat.le_trans (Nat.le_trans (Nat.le_trans E108.1 K112.1) E118.1) K130.1)) hZ118 (own_w hw 117 rfl) (own_w hw 97 rfl) (by decide) (by decide)) q146a q146c (g := (mkF m 92 #[.val (.ref a1), .val (.ref b102)] [(.ref b102), (.ref b108)])) rfl (by rw [hml]; rfl) (Steps.refl _) (argsL := [(.ref b102)]) (rest := []) (lenOf pd_23 rfl) rfl (by show 2 * 0 + _ ≤ _; exact Nat.le_of_eq rfl) (d9 hby 24 rfl) (fun _ _ => ⟨rfl, rfl, (by decide : 18 + 1 ≤ _), (by decide : 274 + 34 ≤ _)⟩)
  dsimp only [Pt.U, Pt.locs, Pt.cells, Pt.slots] at X146 l146 y146 z146 st146 hQ146
  subst l146 y146 z146
  obtain ⟨y147, y148, y149, rfl, N146q, K146, Y146_0, Y146_1, Y146_2, Y146_3, Y146_4, Y146_5, Y146_6, Y146_7, Y146_8, Y146_9, Y146_10⟩ := hQ146
  have N146 := Fr.app N130 N146q
  replace X146 := X146.more (cells' := 19) (slots' := 308) (by decide) (by decide)
  have sf150 : Safe Z own_EL _ T130.heap y147 := own_sfor Y146_9 sf135_y131
  have hR151 := (CHr.keep K146 (sfS sf135_b108 (sfS sf135_y131 sf0)) hR135.1)
  have sf151_b12 := (Safe.keep K146 (sfS sf135_b108 (sfS sf135_y131 sf0)) hR135.1 sf135_b12)
  have sf151_b17 := (Safe.keep K146 (sfS sf135_b108 (sfS sf135_y131 sf0)) hR135.1 sf135_b17)
  have sf151_y35 := (Safe.keep K146 (sfS sf135_b108 (sfS sf135_y131 sf0)) hR135.1 sf135_y35)
  have sf151_y55 := (Safe.keep K146 (sfS sf135_b108 (sfS sf135_y131 sf0)) hR135.1 sf135_y55)
  have sf151_y74 := (Safe.keep K146 (sfS sf135_b108 (sfS sf135_y131 sf0)) hR135.1 sf135_y74)
  have sf151_b102 := (Safe.keep K146 (sfS sf135_b108 (sfS sf135_y131 sf0)) hR135.1 sf135_b102)
  have sf151_b103 := (Safe.keep K146 (sfS sf135_b108 (sfS sf135_y131 sf0)) hR135.1 sf135_b103)
  have sf151_b108 := (Safe.keep K146 (sfS sf135_b108 (sfS sf135_y131 sf0)) hR135.1 sf135_b108)
  have sf151_b113 := (Safe.keep K146 (sfS sf135_b108 (sfS sf135_y131 sf0)) hR135.1 sf135_b113)
  have sf151_y131 := (Safe.keep K146 (sfS sf135_b108 (sfS sf135_y131 sf0)) hR135.1 sf135_y131)
  have sf151_y147 := (Safe.keep K146 (sfS sf135_b108 (sfS sf135_y131 sf0)) hR135.1 sf150)
  have ch151 := CHr.trans ch135 hR151
  have K152 : Keep h0 T146.heap [] := K136.trans K146 (allS (Or.inr sz_b108) (allS (Or.inr sz_y131) all0))
  have O153 : Old Z n0 T146.heap := O137.keep K146 (allS g_b108 (allS g_y131 all0))
  have g_y147 : n0 ≤ y147 := Nat.le_trans (Nat.le_trans Z0 K106.1) Y146_7
  have sz_y147 : h0.size ≤ y147 := Nat.le_trans K106.1 Y146_7
  have ne155 : a1 ≠ y74 := Nat.ne_of_lt (Nat.lt_of_lt_of_le (Nat.lt_of_lt_of_le HE_a1.lt E3.1) Y73_7)
  have ne156 : a1 ≠ b108 := Nat.ne_of_lt (Nat.lt_of_lt_of_le (Nat.lt_of_lt_of_le HE_a1.lt (Nat.le_trans (Nat.le_trans (Nat.le_trans (Nat.le_trans (Nat.le_trans (Nat.le_trans (Nat.le_trans (Nat.le_trans (Nat.le_trans E3.1 E12.1) K16.1) E22.1) K34.1) K54.1) E62.1) K73.1) K97.1) K101.1)) (Nat.le_of_eq g108.symm))
  have ne157 : a1 ≠ b113 := Nat.ne_of_lt (Nat.lt_of_lt_of_le (Nat.lt_of_lt_of_le HE_a1.lt (Nat.le_trans (Nat.le_trans (Nat.le_trans (Nat.le_trans (Nat.le_trans (Nat.le_trans (Nat.le_trans (Nat.le_trans (Nat.le_trans (Nat.le_trans E3.1 E12.1) K16.1) E22.1) K34.1) K54.1) E62.1) K73.1) K97.1) K101.1) E108.1)) Y112_z0)
  have ne158 : a1 ≠ y131 := Nat.ne_of_lt (Nat.lt_of_lt_of_le (Nat.lt_of_lt_of_le HE_a1.lt (Nat.le_trans (Nat.le_trans (Nat.le_trans (Nat.le_trans (Nat.le_trans (Nat.le_trans (Nat.le_trans (Nat.le_trans (Nat.le_trans E3.1 E12.1) K16.1) E22.1) K34.1) K54.1) E62.1) K73.1) K97.1) K101.1)) Y130_7)
  have f154 := (((((((((((((((HF_a1_path.ext E3).ext E12).keep K16 (ninS ne43 nin0)).ext E22).keep K34 (ninS ne43 (ninS ne44 nin0))).keep K54 (ninS ne43 (ninS ne82 nin0))).ext E62).keep K73 (ninS ne43 (ninS ne83 nin0))).keep K97 (ninS ne43 (ninS ne155 nin0))).keep K101 nin0).ext E108).keep K112 (ninS ne156 nin0)).ext E118).keep K130 (ninS ne156 (ninS ne157 nin0))).keep K146 (ninS ne156 (ninS ne158 nin0)))
  obtain ⟨T159, X159, e159, st159⟩ := getF X146 hx hZ118 ho118 (host := "") (Or.inl (own_w hw 51 rfl)) Via.refl rfl f154 (g := (mkF m 96 #[.val (.ref a1), .val (.ref b102)] [(.ref a1), (.ref b108)])) rfl rfl (d9 hby 26 rfl)
  have f160 := (((((((((((((((HE_x2.ext E3).ext E12).keep K16).ext E22).keep K34).keep K54).ext E62).keep K73).keep K97).keep K101).ext E108).keep K112).ext E118).keep K130).keep K146)
  have ne162 : x2 ≠ b12 := Nat.ne_of_lt (Nat.lt_of_lt_of_le (Nat.lt_of_lt_of_le HE_x2.lt E3.1) (Nat.le_of_eq g12.symm))
  have ne163 : x2 ≠ b17 := Nat.ne_of_lt (Nat.lt_of_lt_of_le (Nat.lt_of_lt_of_le HE_x2.lt (Nat.le_trans E3.1 E12.1)) Y16_z0)
  have ne164 : x2 ≠ y35 := Nat.ne_of_lt (Nat.lt_of_lt_of_le (Nat.lt_of_lt_of_le HE_x2.lt E3.1) Y34_7)
  have ne165 : x2 ≠ y55 := Nat.ne_of_lt (Nat.lt_of_lt_of_le (Nat.lt_of_lt_of_le HE_x2.lt E3.1) Y54_7)
  have ne166 : x2 ≠ y74 := Nat.ne_of_lt (Nat.lt_of_lt_of_le (Nat.lt_of_lt_of_le HE_x2.lt E3.1) Y73_7)
  have ne167 : x2 ≠ b108 := Nat.ne_of_lt (Nat.lt_of_lt_of_le (Nat.lt_of_lt_of_le HE_x2.lt (Nat.le_trans (Nat.le_trans (Nat.le_trans (Nat.le_trans (Nat.le_trans (Nat.le_trans (Nat.le_trans (Nat.le_trans (Nat.le_trans E3.1 E12.1) K16.1) E22.1) K34.1) K54.1) E62.1) K73.1) K97.1) K101.1)) (Nat.le_of_eq g108.symm))
  have ne168 : x2 ≠ b113 := Nat.ne_of_lt (Nat.lt_of_lt_of_le (Nat.lt_of_lt_of_le HE_x2.lt (Nat.le_trans (Nat.le_trans (Nat.le_trans (Nat.le_trans (Nat.le_trans (Nat.le_trans (Nat.le_trans (Nat.le_trans (Nat.le_trans (Nat.le_trans E3.1 E12.1) K16.1) E22.1) K34.1) K54.1) E62.1) K73.1) K97.1) K101.1) E108.1)) Y112_z0)
  have ne169 : x2 ≠ y131 := Nat.ne_of_lt (Nat.lt_of_lt_of_le (Nat.lt_of_lt_of_le HE_x2.lt (Nat.le_trans (Nat.le_trans (Nat.le_trans (Nat.le_trans (Nat.le_trans (Nat.le_trans (Nat.le_trans (Nat.le_trans (Nat.le_trans E3.1 E12.1) K16.1) E22.1) K34.1) K54.1) E62.1) K73.1) K97.1) K101.1)) Y130_7)
  have f161 := (((((((((((((((HF_x2_value.ext E3).ext E12).keep K16 (ninS ne162 nin0)).ext E22).keep K34 (ninS ne162 (ninS ne163 nin0))).keep K54 (ninS ne162 (ninS ne164 nin0))).ext E62).keep K73 (ninS ne162 (ninS ne165 nin0))).keep K97 (ninS ne162 (ninS ne166 nin0))).keep K101 nin0).ext E108).keep K112 (ninS ne167 nin0)).ext E118).keep K130 (ninS ne167 (ninS ne168 nin0))).keep K146 (ninS ne167 (ninS ne169 nin0)))
  have f170 := (((((((((((((((HF_x2_coder.ext E3).ext E12).keep K16 (ninS ne162 nin0)).ext E22).keep K34 (ninS ne162 (ninS ne163 nin0))).keep K54 (ninS ne162 (ninS ne164 nin0))).ext E62).keep K73 (ninS ne162 (ninS ne165 nin0))).keep K97 (ninS ne162 (ninS ne166 nin0))).keep K101 nin0).ext E108).keep K112 (ninS ne167 nin0)).ext E118).keep K130 (ninS ne167 (ninS ne168 nin0))).keep K146 (ninS ne167 (ninS ne169 nin0)))
  have ne172 : t2 ≠ b12 := Nat.ne_of_lt (Nat.lt_of_lt_of_le (Nat.lt_of_lt_of_le HV_t2.lt E3.1) (Nat.le_of_eq g12.symm))
  have ne173 : t2 ≠ b17 := Nat.ne_of_lt (Nat.lt_of_lt_of_le (Nat.lt_of_lt_of_le HV_t2.lt (Nat.le_trans E3.1 E12.1)) Y16_z0)
  have ne174 : t2 ≠ y35 := Nat.ne_of_lt (Nat.lt_of_lt_of_le (Nat.lt_of_lt_of_le HV_t2.lt E3.1) Y34_7)
  have ne175 : t2 ≠ y55 := Nat.ne_of_lt (Nat.lt_of_lt_of_le (Nat.lt_of_lt_of_le HV_t2.lt E3.1) Y54_7)
  have ne176 : t2 ≠ y74 := Nat.ne_of_lt (Nat.lt_of_lt_of_le (Nat.lt_of_lt_of_le HV_t2.lt E3.1) Y73_7)
  have ne177 : t2 ≠ b108 := Nat.ne_of_lt (Nat.lt_of_lt_of_le (Nat.lt_of_lt_of_le HV_t2.lt (Nat.le_trans (Nat.le_trans (Nat.le_trans (Nat.le_trans (Nat.le_trans (Nat.le_trans (Nat.le_trans (Nat.le_trans (Nat.le_trans E3.1 E12.1) K16.1) E22.1) K34.1) K54.1) E62.1) K73.1) K97.1) K101.1)) (Nat.le_of_eq g108.symm))
  have ne178 : t2 ≠ b113 := Nat.ne_of_lt (Nat.lt_of_lt_of_le (Nat.lt_of_lt_of_le HV_t2.lt (Nat.le_trans (Nat.le_trans (Nat.le_trans (Nat.le_trans (Nat.le_trans (Nat.le_trans (Nat.le_trans (Nat.le_trans (Nat.le_trans (Nat.le_trans E3.1 E12.1) K16.1) E22.1) K34.1) K54.1) E62.1) K73.1) K97.1) K101.1) E108.1)) Y112_z0)
  have ne179 : t2 ≠ y131 := Nat.ne_of_lt (Nat.lt_of_lt_of_le (Nat.lt_of_lt_of_le HV_t2.lt (Nat.le_trans (Nat.le_trans (Nat.le_trans (Nat.le_trans (Nat.le_trans (Nat.le_trans (Nat.le_trans (Nat.le_trans (Nat.le_trans E3.1 E12.1) K16.1) E22.1) K34.1) K54.1) E62.1) K73.1) K97.1) K101.1)) Y130_7)
  have f171 := (((((((((((((((HV_t2.ext E3).ext E12).keep K16 (ninS ne172 nin0)).ext E22).keep K34 (ninS ne172 (ninS ne173 nin0))).keep K54 (ninS ne172 (ninS ne174 nin0))).ext E62).keep K73 (ninS ne172 (ninS ne175 nin0))).keep K97 (ninS ne172 (ninS ne176 nin0))).keep K101 nin0).ext E108).keep K112 (ninS ne177 nin0)).ext E118).keep K130 (ninS ne177 (ninS ne178 nin0))).keep K146 (ninS ne177 (ninS ne179 nin0)))
  obtain ⟨cq180, kq180, q180a, q180b, q180c⟩ := isOf hZ118 e159 Y146_0
  obtain ⟨vr180, _, ⟨T180, L180, k180, n180⟩, -, X180, ⟨Lc180, hQ180, l180, y180, z180⟩, st180⟩ := X159.virtualBack hx (y := (⟨"java/lang/StringBuilder", "append", "(Ljava/lang/String;)Ljava/lang/StringBuilder;"⟩ : MethodName)) (z := (⟨"java/lang/StringBuilder", "append", "(Ljava/lang/String;)Ljava/lang/StringBuilder;"⟩ : MethodName)) ho118 (mvT hZ118 (own_w hw 113 rfl)) (mvT hZ118 (own_w hw 114 rfl)) (notFace_of_selects (args := #[]) (mvT hZ118 (own_w hw 116 rfl))) (mvT hZ118 (own_w hw 116 rfl)) (mvT hZ118 (own_w hw 115 rfl)) (by decide) (backOf (W := 0) (rm19 l Z a0 hw [] b108 x2 y147 t2 y148 k2 y149 ((own_n ((own_nil ++ [(109 : Int32), (111 : Int32), (113 : Int32), (116 : Int32), (58 : Int32), (47 : Int32), (47 : Int32)]) ++ ((((own_nil ++ [(91 : Int32)]) ++ hs) ++ [(93 : Int32), (58 : Int32)]) ++ own_dec n)))) zC (((own_nil ++ [(109 : Int32), (111 : Int32), (113 : Int32), (116 : Int32), (58 : Int32), (47 : Int32), (47 : Int32)]) ++ ((((own_nil ++ [(91 : Int32)]) ++ hs) ++ [(93 : Int32), (58 : Int32)]) ++ own_dec n))) ps (T101.heap.size) T146.heap n0 O153 Y146_0 Y146_5 Y146_3 Y146_1 Y146_2 Y146_6 f160 f161 f170 f171 S_COMPACT_STRINGS g_y147 Y146_10 g_b108 ne167 ne177 h6_h7_h1_hc3 (rfl : (own_n ((own_nil ++ [(109 : Int32), (111 : Int32), (113 : Int32), (116 : Int32), (58 : Int32), (47 : Int32), (47 : Int32)]) ++ ((((own_nil ++ [(91 : Int32)]) ++ hs) ++ [(93 : Int32), (58 : Int32)]) ++ own_dec n))) = (own_n ((own_nil ++ [(109 : Int32), (111 : Int32), (113 : Int32), (116 : Int32), (58 : Int32), (47 : Int32), (47 : Int32)]) ++ ((((own_nil ++ [(91 : Int32)]) ++ hs) ++ [(93 : Int32), (58 : Int32)]) ++ own_dec n)))) h99_h2_h33 Y146_8 Y146_7 (Nat.le_trans (Nat.le_trans (Nat.le_trans (Nat.le_trans E108.1 K112.1) E118.1) K130.1) K146.1)) hZ118 (own_w hw 117 rfl) (own_w hw 97 rfl) (by decide) (by decide)) q180a q180c (g := (mkF m 99 #[.val (.ref a1), .val (.ref b102)] [(.ref x2), (.ref b108)])) rfl (by rw [hml]; rfl) (Steps.refl _) (argsL := [(.ref x2)]) (rest := []) (lenOf pd_23 rfl) rfl (by show 2 * 0 + _ ≤ _; exact Nat.le_of_eq rfl) (d9 hby 27 rfl) (fun _ _ => ⟨rfl, e159, (by decide : 19 + 1 ≤ _), (by decide : 308 + 34 ≤ _)⟩)
  dsimp only [Pt.U, Pt.locs, Pt.cells, Pt.slots] at X180 l180 y180 z180 st180 hQ180
  subst l180 y180 z180
  obtain ⟨y181, y182, y183, rfl, N180q, K180, Y180_0, Y180_1, Y180_2, Y180_3, Y180_4, Y180_5, Y180_6, Y180_7, Y180_8, Y180_9, Y180_10⟩ := hQ180
  have N180 := Fr.app N146 N180q
  replace X180 := X180.more (cells' := 20) (slots' := 342) (by decide) (by decide)
  have sf184 : Safe Z own_EL _ T146.heap y181 := own_sfor Y180_9 sf151_y147
  have hR185 := (CHr.keep K180 (sfS sf151_b108 (sfS sf151_y147 sf0)) hR151.1)
  have sf185_b12 := (Safe.keep K180 (sfS sf151_b108 (sfS sf151_y147 sf0)) hR151.1 sf151_b12)
  have sf185_b17 := (Safe.keep K180 (sfS sf151_b108 (sfS sf151_y147 sf0)) hR151.1 sf151_b17)
  have sf185_y35 := (Safe.keep K180 (sfS sf151_b108 (sfS sf151_y147 sf0)) hR151.1 sf151_y35)
  have sf185_y55 := (Safe.keep K180 (sfS sf151_b108 (sfS sf151_y147 sf0)) hR151.1 sf151_y55)
  have sf185_y74 := (Safe.keep K180 (sfS sf151_b108 (sfS sf151_y147 sf0)) hR151.1 sf151_y74)
  have sf185_b102 := (Safe.keep K180 (sfS sf151_b108 (sfS sf151_y147 sf0)) hR151.1 sf151_b102)
  have sf185_b103 := (Safe.keep K180 (sfS sf151_b108 (sfS sf151_y147 sf0)) hR151.1 sf151_b103)
  have sf185_b108 := (Safe.keep K180 (sfS sf151_b108 (sfS sf151_y147 sf0)) hR151.1 sf151_b108)
  have sf185_b113 := (Safe.keep K180 (sfS sf151_b108 (sfS sf151_y147 sf0)) hR151.1 sf151_b113)
  have sf185_y131 := (Safe.keep K180 (sfS sf151_b108 (sfS sf151_y147 sf0)) hR151.1 sf151_y131)
  have sf185_y147 := (Safe.keep K180 (sfS sf151_b108 (sfS sf151_y147 sf0)) hR151.1 sf151_y147)
  have sf185_y181 := (Safe.keep K180 (sfS sf151_b108 (sfS sf151_y147 sf0)) hR151.1 sf184)
  have ch185 := CHr.trans ch151 hR185
  have K186 : Keep h0 T180.heap [] := K152.trans K180 (allS (Or.inr sz_b108) (allS (Or.inr sz_y147) all0))
  have O187 : Old Z n0 T180.heap := O153.keep K180 (allS g_b108 (allS g_y147 all0))
  have g_y181 : n0 ≤ y181 := Nat.le_trans (Nat.le_trans Z0 K106.1) Y180_7
  have sz_y181 : h0.size ≤ y181 := Nat.le_trans K106.1 Y180_7
  obtain ⟨cq188, kq188, q188a, q188b, q188c⟩ := isOf hZ118 rfl Y180_0
  obtain ⟨vr188, _, ⟨T188, L188, k188, n188⟩, -, X188, ⟨Lc188, hQ188, l188, y188, z188⟩, st188⟩ := X180.virtualBack hx (y := (⟨"java/lang/StringBuilder", "toString", "()Ljava/lang/String;"⟩ : MethodName)) (z := (⟨"java/lang/StringBuilder", "toString", "()Ljava/lang/String;"⟩ : MethodName)) ho118 (mvT hZ118 (own_w hw 177 rfl)) (mvT hZ118 (own_w hw 178 rfl)) (notFace_of_selects (args := #[]) (mvT hZ118 (own_w hw 180 rfl))) (mvT hZ118 (own_w hw 180 rfl)) (mvT hZ118 (own_w hw 179 rfl)) (by decide) (backOf (W := 0) (rm31 l Z a0 hw [] b108 y182 y181 y183 ((own_n (((own_nil ++ [(109 : Int32), (111 : Int32), (113 : Int32), (116 : Int32), (58 : Int32), (47 : Int32), (47 : Int32)]) ++ ((((own_nil ++ [(91 : Int32)]) ++ hs) ++ [(93 : Int32), (58 : Int32)]) ++ own_dec n)) ++ ps))) zC ((((own_nil ++ [(109 : Int32), (111 : Int32), (113 : Int32), (116 : Int32), (58 : Int32), (47 : Int32), (47 : Int32)]) ++ ((((own_nil ++ [(91 : Int32)]) ++ hs) ++ [(93 : Int32), (58 : Int32)]) ++ own_dec n)) ++ ps)) T180.heap n0 O187 Y180_0 Y180_5 Y180_3 Y180_1 Y180_2 Y180_6 S_COMPACT_STRINGS h6_h7_h1_hc3 (rfl : (own_n (((own_nil ++ [(109 : Int32), (111 : Int32), (113 : Int32), (116 : Int32), (58 : Int32), (47 : Int32), (47 : Int32)]) ++ ((((own_nil ++ [(91 : Int32)]) ++ hs) ++ [(93 : Int32), (58 : Int32)]) ++ own_dec n)) ++ ps)) = (own_n (((own_nil ++ [(109 : Int32), (111 : Int32), (113 : Int32), (116 : Int32), (58 : Int32), (47 : Int32), (47 : Int32)]) ++ ((((own_nil ++ [(91 : Int32)]) ++ hs) ++ [(93 : Int32), (58 : Int32)]) ++ own_dec n)) ++ ps))) Y180_8 h102_h5_h3_h32_h33) hZ118 (own_w hw 181 rfl) (own_w hw 97 rfl) (by decide) (by decide)) q188a q188c (g := (mkF m 102 #[.val (.ref a1), .val (.ref b102)] [(.ref b108)])) rfl (by rw [hml]; rfl) (Steps.refl _) (argsL := []) (rest := []) (lenOf pd_3 rfl) rfl (by show 2 * 0 + _ ≤ _; exact Nat.le_of_eq rfl) (d9 hby 28 rfl) (fun _ _ => ⟨rfl, rfl, (by decide : 20 + 2 ≤ _), (by decide : 342 + 38 ≤ _)⟩)
  dsimp only [Pt.U, Pt.locs, Pt.cells, Pt.slots] at X188 l188 y188 z188 st188 hQ188
  subst l188 y188 z188
  obtain ⟨b189, b190, k191, rfl, N188q, K188, Y188_z0, Y188_z1, Y188_n0, Y188_0, Y188_1, Y188_2, Y188_3⟩ := hQ188
  have N188 := Fr.app N180 N188q
  replace X188 := X188.more (cells' := 22) (slots' := 380) (by decide) (by decide)
  have g_b189 : n0 ≤ b189 := Nat.le_trans (Nat.le_trans Z0 K186.1) Y188_z0
  have sz_b189 : h0.size ≤ b189 := Nat.le_trans K186.1 Y188_z0
  have g_b190 : n0 ≤ b190 := Nat.le_trans (Nat.le_trans Z0 K186.1) Y188_z1
  have sz_b190 : h0.size ≤ b190 := Nat.le_trans K186.1 Y188_z1
  have hR192 := (CHr.keep K188 sf0 hR185.1)
  have sf192_b12 := (Safe.keep K188 sf0 hR185.1 sf185_b12)
  have sf192_b17 := (Safe.keep K188 sf0 hR185.1 sf185_b17)
  have sf192_y35 := (Safe.keep K188 sf0 hR185.1 sf185_y35)
  have sf192_y55 := (Safe.keep K188 sf0 hR185.1 sf185_y55)
  have sf192_y74 := (Safe.keep K188 sf0 hR185.1 sf185_y74)
  have sf192_b102 := (Safe.keep K188 sf0 hR185.1 sf185_b102)
  have sf192_b103 := (Safe.keep K188 sf0 hR185.1 sf185_b103)
  have sf192_b108 := (Safe.keep K188 sf0 hR185.1 sf185_b108)
  have sf192_b113 := (Safe.keep K188 sf0 hR185.1 sf185_b113)
  have sf192_y131 := (Safe.keep K188 sf0 hR185.1 sf185_y131)
  have sf192_y147 := (Safe.keep K188 sf0 hR185.1 sf185_y147)
  have sf192_y181 := (Safe.keep K188 sf0 hR185.1 sf185_y181)
  have sf192_b189 := (Safe.keep K188 sf0 hR185.1 (Safe.new Y188_z0))
  have sf192_b190 := (Safe.keep K188 sf0 hR185.1 (Safe.new Y188_z1))
  have ch192 := CHr.trans ch185 hR192
  have K193 : Keep h0 T188.heap [] := K186.trans K188 all0
  have O194 : Old Z n0 T188.heap := O187.keep K188 all0
  obtain ⟨fs, hr, hrun, hended, hend⟩ := X188.leaveW hS118 (Nat.le_trans hk118 (Nat.le_trans (Nat.le_trans (Nat.le_trans K130.1 K146.1) K180.1) K188.1)) (v := some (.ref b189)) (fun h => by rw [Bd.returns] at h; cases h)
  refine ⟨_, _, pre0 _ ?_, hrun, hended, _, _, rfl, ?_, ?_, hend.1, hend.2.1, hend.2.2.1, hend.2.2.2.mono (by decide) (by decide)⟩
  · show Steps p.tables e below (s₁.setTop (mkF m 0 #[.val (.ref a1), .unset] [])) _
    refine XS.aloadN X0.here hx rfl (d9 hby 0 rfl) rfl rfl ?_
    refine st2 _ ?_
    refine st3 _ ?_
    refine st11.trans ?_
    refine XS.ifNo X11.here hx rfl (d9 hby 4 rfl) rfl ((if0 _ _).trans (feq (by decide : ¬ ((1 : Int32) = (0 : Int32)))).1) ?_
    refine st12 _ ?_
    refine XS.dup X12.here hx rfl (d9 hby 31 rfl) rfl rfl ?_
    refine st16.trans ?_
    refine st22 _ ?_
    refine st34.trans ?_
    refine XS.aloadN X34.here hx rfl (d9 hby 35 rfl) rfl rfl ?_
    refine st45 _ ?_
    refine st54.trans ?_
    refine st62 _ ?_
    refine st73.trans ?_
    refine XS.aloadN X73.here hx rfl (d9 hby 40 rfl) rfl rfl ?_
    refine st84 _ ?_
    refine st97.trans ?_
    refine st101.trans ?_
    refine XS.goto X101.here hx rfl (pc0 := 46) (pc' := 78) rfl (d9 hby 44 rfl) (by decide) (by decide) ?_
    refine XS.astoreN X101.here hx rfl (d9 hby 17 rfl) rfl rfl (l' := #[.val (.ref a1), .val (.ref b102)]) rfl ?_
    refine st108 _ ?_
    refine XS.dup X108.here hx rfl (d9 hby 19 rfl) rfl rfl ?_
    refine st112.trans ?_
    refine st118 _ ?_
    refine st130.trans ?_
    refine XS.aloadN X130.here hx rfl (d9 hby 23 rfl) rfl rfl ?_
    refine st146.trans ?_
    refine XS.aloadN X146.here hx rfl (d9 hby 25 rfl) rfl rfl ?_
    refine st159 _ ?_
    refine st180.trans ?_
    refine st188.trans ?_
    exact own_retR X188 hx Bd.returns rfl rfl (d9 hby 29 rfl) hr
  · show Q9Y Z a1 x1 t1 x2 t2 k1 k2 hs ps n vp zC wO wT cO cT h0 n0 _ T188.heap _
    exact ⟨b189, b190, k191, rfl, N188, K193, sz_b189, sz_b190, Y188_n0, Y188_0, Y188_1, Y188_2, Y188_3⟩
  · show CHr Z own_EL s.vm s.heap T188.vm T188.heap
    rw [hh]
    exact CHr.trans ch192 (CHv.at X188 hZ118 (own_EW hw) hR192.1)
/-- the text of a MoqtUri: host hs, port n, path ps -/
def own_uri (hs : List Int32) (n : Nat) (ps : List Int32) : List Int32 := if (58 : Int32) ∈ hs then (((own_nil ++ [(109 : Int32), (111 : Int32), (113 : Int32), (116 : Int32), (58 : Int32), (47 : Int32), (47 : Int32)]) ++ ((((own_nil ++ [(91 : Int32)]) ++ hs) ++ [(93 : Int32), (58 : Int32)]) ++ own_dec n)) ++ ps) else (((own_nil ++ [(109 : Int32), (111 : Int32), (113 : Int32), (116 : Int32), (58 : Int32), (47 : Int32), (47 : Int32)]) ++ (((own_nil ++ hs) ++ [(58 : Int32)]) ++ own_dec n)) ++ ps)
def Q9 (Z : State) (a1 x1 t1 x2 t2 : Addr) (k1 k2 : ClassId) (hs ps : List Int32) (n : Nat) (vp zC : Int32) (wO wT : Addr) (cO cT : Cell) (h0 : Heap) (n0 : Nat) (v : Option Value) (h : Heap) (L : List Loc) : Prop := ∃ b163 b164 : Addr, ∃ k165 : ClassId, v = some (.ref b163) ∧ Fr n0 L ∧ Keep h0 h [] ∧ h0.size ≤ b163 ∧ h0.size ≤ b164 ∧ b163 ≠ b164 ∧ Exa Z h b163 "java/lang/String" ∧ Fld Z h b163 "java/lang/String" "coder" "B" (.int 0) ∧ Fld Z h b163 "java/lang/String" "value" "[B" (.ref b164) ∧ Arv Z h b164 k165 .byte (own_n (own_uri hs n ps)) (own_by (own_uri hs n ps)) (.int 0)
theorem rm9 (l : Launch) (Z : State) (a0 : Array Value) (hw : ∀ d ∈ tables_1, d.before a0 Z = true) (ws : List Jvm.Cond) (a1 x1 t1 x2 t2 : Addr) (k1 k2 : ClassId) (hs ps : List Int32) (n : Nat) (vp zC : Int32) (wO wT : Addr) (cO cT : Cell) (h0 : Heap) (n0 : Nat) (O0 : Old Z n0 h0) (HE_a1 : Exa Z h0 a1 "com/example/traqt/traqt/moqt/MoqtUri") (HF_a1_host : Fld Z h0 a1 "com/example/traqt/traqt/moqt/MoqtUri" "host" "Ljava/lang/String;" (.ref x1)) (HF_a1_port : Fld Z h0 a1 "com/example/traqt/traqt/moqt/MoqtUri" "port" "I" (.int vp)) (HF_a1_path : Fld Z h0 a1 "com/example/traqt/traqt/moqt/MoqtUri" "path" "Ljava/lang/String;" (.ref x2)) (HE_x1 : Exa Z h0 x1 "java/lang/String") (HF_x1_value : Fld Z h0 x1 "java/lang/String" "value" "[B" (.ref t1)) (HF_x1_coder : Fld Z h0 x1 "java/lang/String" "coder" "B" (.int 0)) (HV_t1 : Arv Z h0 t1 k1 .byte (own_n hs) (own_by hs) (.int 0)) (HE_x2 : Exa Z h0 x2 "java/lang/String") (HF_x2_value : Fld Z h0 x2 "java/lang/String" "value" "[B" (.ref t2)) (HF_x2_coder : Fld Z h0 x2 "java/lang/String" "coder" "B" (.int 0)) (HV_t2 : Arv Z h0 t2 k2 .byte (own_n ps) (own_by ps) (.int 0)) (HA_wO : Arr Z h0 wO cO .byte) (HA_wT : Arr Z h0 wT cT .byte) (S_COMPACT_STRINGS : Sta Z Z.heap "java/lang/String" "COMPACT_STRINGS" "Z" (.int zC)) (S_DigitOnes : Sta Z Z.heap "java/lang/Integer" "DigitOnes" "[B" (.ref wO)) (S_DigitTens : Sta Z Z.heap "java/lang/Integer" "DigitTens" "[B" (.ref wT)) (hz : ¬ (zC = (0 : Int32))) (hrg : ∀ c ∈ hs, ¬ c < 0 ∧ ¬ (255 : Int32) < c) (hl2 : hs.length ≤ 2) (hp2 : ps.length ≤ 2) (hv : vp = (Int32.ofNat n)) (hn : n < 65536) (htab : own_tab cO cT) :
    MetFree l (⟨"com/example/traqt/traqt/moqt/MoqtUri", "toString", "()Ljava/lang/String;"⟩ : MethodName) (head1 (Jvm.Cond.code (⟨"com/example/traqt/traqt/moqt/MoqtUri", "toString", "()Ljava/lang/String;"⟩ : MethodName) prog_6_method_4_code 2 (some (.object "java/lang/String")) :: ws) ({ frames := 9, cells := 24, slots := 400, locals := 150 } : Room)) (fun a U => a = #[(.ref a1)] ∧ Z.Warmed39 U.vm ∧ U.heap = h0 ∧ CHv Z own_EL U.vm h0) (fun _ _ _ _ _ => True) (fun _ U o U' => ∃ v L, o = .returned v ∧ Q9 Z a1 x1 t1 x2 t2 k1 k2 hs ps n vp zC wO wT cO cT h0 n0 v U'.heap L ∧ CHr Z own_EL U.vm U.heap U'.vm U'.heap ∧ ReturnedEndW U o U' L ({ frames := 9, cells := 24, slots := 400, locals := 150 } : Room).cells ({ frames := 9, cells := 24, slots := 400, locals := 150 } : Room).slots) := by
  have hdl := own_dl hn
  by_cases hin : (58 : Int32) ∈ hs
  · have q := rm9Y l Z a0 hw ws a1 x1 t1 x2 t2 k1 k2 hs ps n vp zC wO wT cO cT h0 n0 O0 HE_a1 HF_a1_host HF_a1_port HF_a1_path HE_x1 HF_x1_value HF_x1_coder HV_t1 HE_x2 HF_x2_value HF_x2_coder HV_t2 HA_wO HA_wT S_COMPACT_STRINGS hz hrg hl2 hin (by simp only [List.length_append, List.length_cons, List.length_nil, own_nil]; omega) (by simp only [List.length_append, List.length_cons, List.length_nil, own_nil]; omega) (by simp only [List.length_append, List.length_cons, List.length_nil, own_nil]; omega) S_DigitOnes S_DigitTens hv hn (by simp only [List.length_append, List.length_cons, List.length_nil, own_nil]; omega) htab (by simp only [List.length_append, List.length_cons, List.length_nil, own_nil]; omega) (by simp only [List.length_append, List.length_cons, List.length_nil, own_nil]; omega) (by simp only [List.length_append, List.length_cons, List.length_nil, own_nil]; omega) (by simp only [List.length_append, List.length_cons, List.length_nil, own_nil]; omega) (by simp only [List.length_append, List.length_cons, List.length_nil, own_nil]; omega)
    unfold Q9Y at q
    unfold Q9
    rw [show own_uri hs n ps = (((own_nil ++ [(109 : Int32), (111 : Int32), (113 : Int32), (116 : Int32), (58 : Int32), (47 : Int32), (47 : Int32)]) ++ ((((own_nil ++ [(91 : Int32)]) ++ hs) ++ [(93 : Int32), (58 : Int32)]) ++ own_dec n)) ++ ps) from if_pos hin]
    exact q
  · have q := rm9N l Z a0 hw ws a1 x1 t1 x2 t2 k1 k2 hs ps n vp zC wO wT cO cT h0 n0 O0 HE_a1 HF_a1_host HF_a1_port HF_a1_path HE_x1 HF_x1_value HF_x1_coder HV_t1 HE_x2 HF_x2_value HF_x2_coder HV_t2 HA_wO HA_wT S_COMPACT_STRINGS hz hrg hl2 hin (by simp only [List.length_append, List.length_cons, List.length_nil, own_nil]; omega) (by simp only [List.length_append, List.length_cons, List.length_nil, own_nil]; omega) S_DigitOnes S_DigitTens hv hn (by simp only [List.length_append, List.length_cons, List.length_nil, own_nil]; omega) htab (by simp only [List.length_append, List.length_cons, List.length_nil, own_nil]; omega) (by simp only [List.length_append, List.length_cons, List.length_nil, own_nil]; omega) (by simp only [List.length_append, List.length_cons, List.length_nil, own_nil]; omega) (by simp only [List.length_append, List.length_cons, List.length_nil, own_nil]; omega) (by simp only [List.length_append, List.length_cons, List.length_nil, own_nil]; omega)
    unfold Q9N at q
    unfold Q9
    rw [show own_uri hs n ps = (((own_nil ++ [(109 : Int32), (111 : Int32), (113 : Int32), (116 : Int32), (58 : Int32), (47 : Int32), (47 : Int32)]) ++ (((own_nil ++ hs) ++ [(58 : Int32)]) ++ own_dec n)) ++ ps) from if_neg hin]
    exact q
theorem own_lbE (c : Int32) : own_lb c = c.toInt8.toInt32 := by
  rw [own_lb]
  apply Int32.toBitVec_inj.1
  simp
def own_L5 : List (Nat × Instr × Nat) := [(0, .iconst 0, 1), (1, .istore 5, 2), (3, .iload 5, 2), (5, .iload 4, 2), (7, .if_icmp .ge 37, 3), (10, .aload_n 0, 1), (11, .iload_n 1, 1), (12, .caload, 1), (13, .istore 6, 2), (15, .iload 6, 2), (17, .sipush 255, 3), (20, .if_icmp .le 6, 3), (26, .aload_n 2, 1), (27, .iload_n 3, 1), (28, .iload 6, 2), (30, .i2b, 1), (31, .bastore, 1), (32, .iinc 1 1, 3), (35, .iinc 3 1, 3), (38, .iinc 5 1, 3), (41, .goto (-38), 3), (44, .iload 4, 2), (46, .ireturn, 1)]
theorem own_K5 : ∀ x ∈ own_L5, decode jdk_52_method_21_code x.1 = .ok x.2 := by decide +kernel
theorem d5 {c : Code} (hby : c.code = jdk_52_method_21_code) (i : Nat) {k n : Nat} {a : Instr} (h : own_L5[i]? = some (k, a, n)) : decode c.code k = .ok (a, n) := own_dL own_K5 hby h
def Q5n1 (Z : State) (a1 a2 : Addr) (k0 k9 : ClassId) (c0 : Int32) (h0 : Heap) (n0 : Nat) (v : Option Value) (h : Heap) (L : List Loc) : Prop := v = some (.int 1) ∧ Fr n0 L ∧ Keep h0 h [a2] ∧ Arv Z h a2 k9 .byte (1 : Int32) [(.int (own_lb c0))] (.int 0)
theorem ef_5a__0___Int32__a__0___Int32____1___Int32__ (m : MethodId) (x0 : Addr) (x2 : Addr) : entryFrame m #[(.ref x0), (.int 0), (.ref x2), (.int 0), (.int 1)] 7 = mkF m 0 #[.val (.ref x0), .val (.int 0), .val (.ref x2), .val (.int 0), .val (.int 1), .unset, .unset] [] := by first | (simp [entryFrame, mkF, argsToLocals, Value.category]; done) | rfl
theorem pnc_java_lang_StringUTF16 : plainName "java/lang/StringUTF16" = true := by first | (simp [plainName, overriddenIn]; done) | decide +kernel
theorem rm5n1 (l : Launch) (Z : State) (a0 : Array Value) (hw : ∀ d ∈ tables_1, d.before a0 Z = true) (ws : List Jvm.Cond) (a1 a2 : Addr) (k0 k9 : ClassId) (c0 : Int32) (h0 : Heap) (n0 : Nat) (O0 : Old Z n0 h0) (HV_a1 : Arv Z h0 a1 k0 .char (1 : Int32) [(.int c0)] (.int 0)) (HV_a2 : Arv Z h0 a2 k9 .byte (1 : Int32) [(.int 0)] (.int 0)) (hc20 : ¬ ((255 : Int32) < c0)) (g_a2 : n0 ≤ a2) :
    own_C l Z (⟨"java/lang/StringUTF16", "compress", "([CI[BII)I"⟩ : MethodName) jdk_52_method_21_code 7 (some .int) ws ({ frames := 0, cells := 0, slots := 0, locals := 0 } : Room) #[(.ref a1), (.int 0), (.ref a2), (.int 0), (.int 1)] h0 (Q5n1 Z a1 a2 k0 k9 c0 h0 n0) := by
  refine own_intro (plainFor_of_name pnc_java_lang_StringUTF16) fun p e s m below meth c s₁ hx hby hml hown hnm hZ e0 hret X0 => ?_
  have N0 := Fr.nil n0
  have Z0 : n0 ≤ h0.size := O0.1 ▸ O0.2.1
  obtain ⟨cl3, Ar3, q3, S3, Nn3, Hh3, G3⟩ := id HV_a1
  have hin3 : ¬ ((0 : Int32) < 0 ∨ cl3.slots.size ≤ ((0 : Int32)).toNatClampNeg) := inb_of S3 ⟨by decide, by decide⟩
  have hat3 : cl3.slots[((0 : Int32)).toNatClampNeg]? = some (.int c0) := Has.at Hh3 hin3 rfl
  obtain ⟨cl4, Ar4, q4, S4, Nn4, Hh4, G4⟩ := id HV_a2
  have hin4 : ¬ ((0 : Int32) < 0 ∨ cl4.slots.size ≤ ((0 : Int32)).toNatClampNeg) := inb_of S4 ⟨by decide, by decide⟩
  obtain ⟨T5, h5, X5, e5, W5, st5⟩ := stB X0 hx hZ e0 Ar4 (j := (0 : Int32)) hin4 (g := (mkF m 31 #[.val (.ref a1), .val (.int 0), .val (.ref a2), .val (.int 0), .val (.int 1), .val (.int 0), .val (.int c0)] [(.int (c0.toInt8.toInt32)), (.int 0), (.ref a2)])) rfl rfl (d5 hby 16 rfl)
  have N5 := Fr.snoc X5 N0 g_a2
  have K6 : Keep h0 h5 [a2] := (Keep.refl h0 [a2]).wr W5 (Or.inl (List.mem_of_getElem? (i := 0) rfl))
  have O7 : Old Z n0 h5 := O0.wr W5 g_a2
  have V5 : Arv Z h5 a2 k9 .byte (1 : Int32) [(.int (own_lb c0))] (.int 0) := Arv.set Ar4 q4 S4 Nn4 Hh4 G4 (fits_nar_byte _) W5 0 rfl (Nat.le_of_ble_eq_true rfl)
  refine ⟨T5, _, _, _, some (.int 1), X5, by decide, by decide, nofun, ?_, fun fs hr => castTop (ef_5a__0___Int32__a__0___Int32____1___Int32__ m a1 a2) ?_⟩
  · show Q5n1 Z a1 a2 k0 k9 c0 h0 n0 _ T5.heap _
    rw [e5]
    exact ⟨rfl, N5, K6, V5⟩
  · show Steps p.tables e below (s₁.setTop (mkF m 0 #[.val (.ref a1), .val (.int 0), .val (.ref a2), .val (.int 0), .val (.int 1), .unset, .unset] [])) _
    refine XS.iconst X0.here hx rfl (d5 hby 0 rfl) ?_
    refine XS.istore X0.here hx rfl (d5 hby 1 rfl) rfl (l' := #[.val (.ref a1), .val (.int 0), .val (.ref a2), .val (.int 0), .val (.int 1), .val (.int 0), .unset]) rfl ?_
    refine XS.iload X0.here hx rfl (d5 hby 2 rfl) rfl ?_
    refine XS.iload X0.here hx rfl (d5 hby 3 rfl) rfl ?_
    refine XS.icmpNo X0.here hx rfl (d5 hby 4 rfl) rfl (tlt (by decide : (0 : Int32) < (1 : Int32))).2.1 ?_
    refine XS.aloadN X0.here hx rfl (d5 hby 5 rfl) rfl rfl ?_
    refine XS.iloadN X0.here hx rfl (d5 hby 6 rfl) rfl ?_
    show Steps p.tables e below (s₁.setTop (mkF m 12 #[.val (.ref a1), .val (.int 0), .val (.ref a2), .val (.int 0), .val (.int 1), .val (.int 0), .unset] [(.int 0), (.ref a1)])) _
    refine X0.caload hx (j := (0 : Int32)) (v := (.int c0)) (by rw [e0]; exact Ar3.1) (State.isArrayOf_alike hZ.alike Ar3.2.1) Ar3.2.2 hin3 hat3 (g := (mkF m 12 #[.val (.ref a1), .val (.int 0), .val (.ref a2), .val (.int 0), .val (.int 1), .val (.int 0), .unset] [(.int 0), (.ref a1)])) rfl rfl (d5 hby 7 rfl) _ ?_
    refine XS.istore X0.here hx rfl (d5 hby 8 rfl) rfl (l' := #[.val (.ref a1), .val (.int 0), .val (.ref a2), .val (.int 0), .val (.int 1), .val (.int 0), .val (.int c0)]) rfl ?_
    refine XS.iload X0.here hx rfl (d5 hby 9 rfl) rfl ?_
    refine XS.sipush X0.here hx rfl (d5 hby 10 rfl) ?_
    refine XS.icmpYes X0.here hx rfl (pc0 := 20) (pc' := 26) rfl (d5 hby 11 rfl) rfl (flt hc20).2.2.2 (by decide) (by decide) ?_
    refine XS.aloadN X0.here hx rfl (d5 hby 12 rfl) rfl rfl ?_
    refine XS.iloadN X0.here hx rfl (d5 hby 13 rfl) rfl ?_
    show Steps p.tables e below (s₁.setTop (mkF m 28 #[.val (.ref a1), .val (.int 0), .val (.ref a2), .val (.int 0), .val (.int 1), .val (.int 0), .val (.int c0)] [(.int 0), (.ref a2)])) _
    refine XS.iload X0.here hx rfl (d5 hby 14 rfl) rfl ?_
    refine XS.i2b X0.here hx rfl (d5 hby 15 rfl) rfl ?_
    refine st5 _ ?_
    refine XS.iinc X5.here hx rfl (d5 hby 17 rfl) rfl (l' := #[.val (.ref a1), .val (.int 1), .val (.ref a2), .val (.int 0), .val (.int 1), .val (.int 0), .val (.int c0)]) rfl ?_
    refine XS.iinc X5.here hx rfl (d5 hby 18 rfl) rfl (l' := #[.val (.ref a1), .val (.int 1), .val (.ref a2), .val (.int 1), .val (.int 1), .val (.int 0), .val (.int c0)]) rfl ?_
    refine XS.iinc X5.here hx rfl (d5 hby 19 rfl) rfl (l' := #[.val (.ref a1), .val (.int 1), .val (.ref a2), .val (.int 1), .val (.int 1), .val (.int 1), .val (.int c0)]) rfl ?_
    refine XS.goto X5.here hx rfl (pc0 := 41) (pc' := 3) rfl (d5 hby 20 rfl) (by decide) (by decide) ?_
    refine XS.iload X5.here hx rfl (d5 hby 2 rfl) rfl ?_
    refine XS.iload X5.here hx rfl (d5 hby 3 rfl) rfl ?_
    show Steps p.tables e below (T5.setTop (mkF m 7 #[.val (.ref a1), .val (.int 1), .val (.ref a2), .val (.int 1), .val (.int 1), .val (.int 1), .val (.int c0)] [(.int 1), (.int 1)])) _
    refine XS.icmpYes X5.here hx rfl (pc0 := 7) (pc' := 44) rfl (d5 hby 4 rfl) rfl (flt (by decide : ¬ ((1 : Int32) < (1 : Int32)))).2.1 (by decide) (by decide) ?_
    refine XS.iload X5.here hx rfl (d5 hby 21 rfl) rfl ?_
    exact own_retI X5 hx hret (d5 hby 22 rfl) hr
def own_L4 : List (Nat × Instr × Nat) := [(0, .iload_n 2, 1), (1, .newarray .byte, 2), (3, .astore_n 3, 1), (4, .aload_n 0, 1), (5, .iload_n 1, 1), (6, .aload_n 3, 1), (7, .iconst 0, 1), (8, .iload_n 2, 1), (9, .invokestatic 115, 3), (12, .istore 4, 2), (14, .iload 4, 2), (16, .iload_n 2, 1), (17, .if_icmp .eq 40, 3), (57, .aload_n 3, 1), (58, .areturn, 1)]
theorem own_K4 : ∀ x ∈ own_L4, decode jdk_52_method_16_code x.1 = .ok x.2 := by decide +kernel
theorem d4 {c : Code} (hby : c.code = jdk_52_method_16_code) (i : Nat) {k n : Nat} {a : Instr} (h : own_L4[i]? = some (k, a, n)) : decode c.code k = .ok (a, n) := own_dL own_K4 hby h
theorem pd_38 : parseMethodDescriptor "([CI[BII)I" = some ⟨[(.array .char), .int, (.array .byte), .int, .int], some .int⟩ := by decide +kernel
def Q4n1 (Z : State) (a1 : Addr) (k0 : ClassId) (c0 : Int32) (h0 : Heap) (n0 : Nat) (v : Option Value) (h : Heap) (L : List Loc) : Prop := ∃ b2 : Addr, ∃ k2 : ClassId, v = some (.ref b2) ∧ Fr n0 L ∧ Keep h0 h [] ∧ h0.size ≤ b2 ∧ Exa Z h b2 "[B" ∧ Arv Z h b2 k2 .byte (1 : Int32) [(.int (own_lb c0))] (.int 0)
theorem ef_4a__0___Int32____1___Int32__ (m : MethodId) (x0 : Addr) : entryFrame m #[(.ref x0), (.int 0), (.int 1)] 6 = mkF m 0 #[.val (.ref x0), .val (.int 0), .val (.int 1), .unset, .unset, .unset] [] := by first | (simp [entryFrame, mkF, argsToLocals, Value.category]; done) | rfl
theorem rm4n1 (l : Launch) (Z : State) (a0 : Array Value) (hw : ∀ d ∈ tables_1, d.before a0 Z = true) (ws : List Jvm.Cond) (a1 : Addr) (k0 : ClassId) (c0 : Int32) (h0 : Heap) (n0 : Nat) (O0 : Old Z n0 h0) (HV_a1 : Arv Z h0 a1 k0 .char (1 : Int32) [(.int c0)] (.int 0)) (h9_hc20 : ¬ ((255 : Int32) < c0)) :
    own_C l Z (⟨"java/lang/StringUTF16", "compress", "([CII)[B"⟩ : MethodName) jdk_52_method_16_code 6 (some (.array .byte)) ws ({ frames := 1, cells := 1, slots := 1, locals := 18 } : Room) #[(.ref a1), (.int 0), (.int 1)] h0 (Q4n1 Z a1 k0 c0 h0 n0) := by
  refine own_intro (plainFor_of_name pnc_java_lang_StringUTF16) fun p e s m below meth c s₁ hx hby hml hown hnm hZ e0 hret X0 => ?_
  have N0 := Fr.nil n0
  have Z0 : n0 ≤ h0.size := O0.1 ▸ O0.2.1
  obtain ⟨T2, h2, k2, X2, e2, E2, A2, B2, st2⟩ := newPE X0 hx hZ (own_w hw 20 rfl) e0 (g := (mkF m 1 #[.val (.ref a1), .val (.int 0), .val (.int 1), .unset, .unset, .unset] [(.int 1)])) rfl (d4 hby 1 rfl) rfl (by decide) (cap := 1) (by decide) (by decide) (by decide) (by decide) (ad := "[B") (by decide)
  obtain ⟨b2, g2⟩ : ∃ z, z = h0.size := ⟨_, rfl⟩
  rw [← g2] at A2 B2 st2
  have g_b2 : n0 ≤ b2 := Nat.le_trans (Nat.le_trans Z0 (Keep.refl h0 []).1) (Nat.le_of_eq g2.symm)
  have sz_b2 : h0.size ≤ b2 := Nat.le_trans (Keep.refl h0 []).1 (Nat.le_of_eq g2.symm)
  have K3 : Keep h0 h2 [] := (Keep.refl h0 []).ext E2
  have O4 : Old Z n0 h2 := O0.ext E2
  have V2 : Arv Z h2 b2 k2 .byte (1 : Int32) [(.int 0)] (.int 0) := (Arv.new A2 (by decide)).pad (pad_rep [] (.int 0) 1)
  replace X2 := X2.more (cells' := 1) (slots' := 1) (by decide) (by decide)
  have f5 := (HV_a1.ext E2)
  obtain ⟨vr6, _, ⟨T6, L6, k6, n6⟩, -, X6, ⟨Lc6, hQ6, l6, y6, z6⟩, st6⟩ := Jvm.LawKit.callS X2 hx (y := (⟨"java/lang/StringUTF16", "compress", "([CI[BII)I"⟩ : MethodName)) hown (mvT hZ (own_w hw 21 rfl)) (mvT hZ (own_w hw 22 rfl)) (mvT hZ (own_w hw 18 rfl)) (mvT hZ (own_w hw 23 rfl)) (by decide) (backOf (W := 0) (rm5n1 l Z a0 hw [] a1 b2 k0 k2 c0 h2 n0 O4 f5 V2 h9_hc20 g_b2) hZ (own_w hw 23 rfl) (own_w hw 18 rfl) (by decide) (by decide)) (g := (mkF m 9 #[.val (.ref a1), .val (.int 0), .val (.int 1), .val (.ref b2), .unset, .unset] [(.int 1), (.int 0), (.ref b2), (.int 0), (.ref a1)])) rfl (by rw [hml]; rfl) (argsL := [(.ref a1), (.int 0), (.ref b2), (.int 0), (.int 1)]) (rest := []) (lenOf pd_38 rfl) rfl (by show 2 * 0 + _ ≤ _; exact Nat.le_of_eq rfl) (d4 hby 8 rfl) (fun _ _ => ⟨rfl, e2, (by decide : 1 + 0 ≤ _), (by decide : 1 + 0 ≤ _)⟩)
  dsimp only [Pt.U, Pt.locs, Pt.cells, Pt.slots] at X6 l6 y6 z6 st6 hQ6
  subst l6 y6 z6
  obtain ⟨rfl, N6q, K6, Y6_0⟩ := hQ6
  have N6 := Fr.app N0 N6q
  replace X6 := X6.more (cells' := 1) (slots' := 1) (by decide) (by decide)
  have K7 : Keep h0 T6.heap [] := K3.trans K6 (allS (Or.inr sz_b2) all0)
  have O8 : Old Z n0 T6.heap := O4.keep K6 (allS g_b2 all0)
  have f9 := (B2.keep K6)
  refine ⟨T6, _, _, _, some (.ref b2), X6, by decide, by decide, nofun, ?_, fun fs hr => castTop (ef_4a__0___Int32____1___Int32__ m a1) ?_⟩
  · show Q4n1 Z a1 k0 c0 h0 n0 _ T6.heap _
    exact ⟨b2, k2, rfl, N6, K7, sz_b2, f9, Y6_0⟩
  · show Steps p.tables e below (s₁.setTop (mkF m 0 #[.val (.ref a1), .val (.int 0), .val (.int 1), .unset, .unset, .unset] [])) _
    refine XS.iloadN X0.here hx rfl (d4 hby 0 rfl) rfl ?_
    refine st2 _ ?_
    refine XS.astoreN X2.here hx rfl (d4 hby 2 rfl) rfl rfl (l' := #[.val (.ref a1), .val (.int 0), .val (.int 1), .val (.ref b2), .unset, .unset]) rfl ?_
    refine XS.aloadN X2.here hx rfl (d4 hby 3 rfl) rfl rfl ?_
    refine XS.iloadN X2.here hx rfl (d4 hby 4 rfl) rfl ?_
    refine XS.aloadN X2.here hx rfl (d4 hby 5 rfl) rfl rfl ?_
    refine XS.iconst X2.here hx rfl (d4 hby 6 rfl) ?_
    refine XS.iloadN X2.here hx rfl (d4 hby 7 rfl) rfl ?_
    show Steps p.tables e below (T2.setTop (mkF m 9 #[.val (.ref a1), .val (.int 0), .val (.int 1), .val (.ref b2), .unset, .unset] [(.int 1), (.int 0), (.ref b2), (.int 0), (.ref a1)])) _
    refine st6 _ ?_
    refine XS.istore X6.here hx rfl (d4 hby 9 rfl) rfl (l' := #[.val (.ref a1), .val (.int 0), .val (.int 1), .val (.ref b2), .val (.int 1), .unset]) rfl ?_
    refine XS.iload X6.here hx rfl (d4 hby 10 rfl) rfl ?_
    refine XS.iloadN X6.here hx rfl (d4 hby 11 rfl) rfl ?_
    refine XS.icmpYes X6.here hx rfl (pc0 := 17) (pc' := 57) rfl (d4 hby 12 rfl) rfl (teq (by decide : (1 : Int32) = (1 : Int32))).1 (by decide) (by decide) ?_
    refine XS.aloadN X6.here hx rfl (d4 hby 13 rfl) rfl rfl ?_
    exact own_retR X6 hx hret rfl rfl (d4 hby 14 rfl) hr
def own_L6 : List (Nat × Instr × Nat) := [(0, .iload_n 1, 1), (1, .aload_n 0, 1), (2, .arraylength, 1), (3, .isub, 1), (4, .bipush 31, 2), (6, .iushr, 1), (7, .i2b, 1), (8, .ireturn, 1)]
theorem own_K6 : ∀ x ∈ own_L6, decode jdk_52_method_15_code x.1 = .ok x.2 := by decide +kernel
theorem d6 {c : Code} (hby : c.code = jdk_52_method_15_code) (i : Nat) {k n : Nat} {a : Instr} (h : own_L6[i]? = some (k, a, n)) : decode c.code k = .ok (a, n) := own_dL own_K6 hby h
def Q6n1 (Z : State) (a1 : Addr) (k9 : ClassId) (vs : List Value) (h0 : Heap) (n0 : Nat) (v : Option Value) (h : Heap) (L : List Loc) : Prop := v = some (.int 0) ∧ Fr n0 L ∧ h = h0
theorem ef_6a__1___Int32__ (m : MethodId) (x0 : Addr) : entryFrame m #[(.ref x0), (.int 1)] 2 = mkF m 0 #[.val (.ref x0), .val (.int 1)] [] := by first | (simp [entryFrame, mkF, argsToLocals, Value.category]; done) | rfl
theorem rm6n1 (l : Launch) (Z : State) (a0 : Array Value) (hw : ∀ d ∈ tables_1, d.before a0 Z = true) (ws : List Jvm.Cond) (a1 : Addr) (k9 : ClassId) (vs : List Value) (h0 : Heap) (n0 : Nat) (O0 : Old Z n0 h0) (HV_a1 : Arv Z h0 a1 k9 .byte (1 : Int32) vs (.int 0)) :
    own_C l Z (⟨"java/lang/StringUTF16", "coderFromArrayLen", "([BI)B"⟩ : MethodName) jdk_52_method_15_code 2 (some .byte) ws ({ frames := 0, cells := 0, slots := 0, locals := 0 } : Room) #[(.ref a1), (.int 1)] h0 (Q6n1 Z a1 k9 vs h0 n0) := by
  refine own_intro (plainFor_of_name pnc_java_lang_StringUTF16) fun p e s m below meth c s₁ hx hby hml hown hnm hZ e0 hret X0 => ?_
  have N0 := Fr.nil n0
  have Z0 : n0 ≤ h0.size := O0.1 ▸ O0.2.1
  obtain ⟨cl2, Ar2, q2, S2, Nn2, Hh2, G2⟩ := id HV_a1
  refine ⟨s₁, _, _, _, some (.int 0), X0, by decide, by decide, nofun, ?_, fun fs hr => castTop (ef_6a__1___Int32__ m a1) ?_⟩
  · show Q6n1 Z a1 k9 vs h0 n0 _ s₁.heap _
    rw [e0]
    exact ⟨rfl, N0, rfl⟩
  · show Steps p.tables e below (s₁.setTop (mkF m 0 #[.val (.ref a1), .val (.int 1)] [])) _
    refine XS.iloadN X0.here hx rfl (d6 hby 0 rfl) rfl ?_
    refine XS.aloadN X0.here hx rfl (d6 hby 1 rfl) rfl rfl ?_
    show Steps p.tables e below (s₁.setTop (mkF m 2 #[.val (.ref a1), .val (.int 1)] [(.ref a1), (.int 1)])) _
    refine X0.arraylength hx (by rw [e0]; exact Ar2.1) (State.isArrayOf_alike hZ.alike Ar2.2.1) (g := (mkF m 2 #[.val (.ref a1), .val (.int 1)] [(.ref a1), (.int 1)])) rfl rfl (d6 hby 2 rfl) _ ?_
    rw [len_of S2 Nn2]
    refine XS.isub X0.here hx rfl (d6 hby 3 rfl) rfl ?_
    refine XS.bipush X0.here hx rfl (d6 hby 4 rfl) ?_
    refine XS.iushr X0.here hx rfl (d6 hby 5 rfl) rfl ?_
    refine XS.i2b X0.here hx rfl (d6 hby 6 rfl) rfl ?_
    exact retN X0 hx (t := .byte) hret (by simp) (d6 hby 7 rfl) hr
def own_L2 : List (Nat × Instr × Nat) := [(0, .aload_n 0, 1), (1, .invokespecial 1, 3), (4, .iload_n 3, 1), (5, .ifCond .ne 22, 3), (27, .getstatic 38, 3), (30, .ifCond .eq 28, 3), (33, .aload_n 1, 1), (34, .iload_n 2, 1), (35, .iload_n 3, 1), (36, .invokestatic 177, 3), (39, .astore 5, 2), (41, .aload_n 0, 1), (42, .aload 5, 2), (44, .iload_n 3, 1), (45, .invokestatic 47, 3), (48, .putfield 15, 3), (51, .aload_n 0, 1), (52, .aload 5, 2), (54, .putfield 9, 3), (57, .return_, 1)]
theorem own_K2 : ∀ x ∈ own_L2, decode jdk_42_method_149_code x.1 = .ok x.2 := by decide +kernel
theorem d2 {c : Code} (hby : c.code = jdk_42_method_149_code) (i : Nat) {k n : Nat} {a : Instr} (h : own_L2[i]? = some (k, a, n)) : decode c.code k = .ok (a, n) := own_dL own_K2 hby h
theorem pd_36 : parseMethodDescriptor "([CII)[B" = some ⟨[(.array .char), .int, .int], some (.array .byte)⟩ := by decide +kernel
theorem pd_28 : parseMethodDescriptor "([BI)B" = some ⟨[(.array .byte), .int], some .byte⟩ := by decide +kernel
def Q2n1 (Z : State) (a1 a2 : Addr) (k0 : ClassId) (c0 zC : Int32) (h0 : Heap) (n0 : Nat) (v : Option Value) (h : Heap) (L : List Loc) : Prop := ∃ b6 : Addr, ∃ k7 : ClassId, v = none ∧ Fr n0 L ∧ Keep h0 h [a1] ∧ h0.size ≤ b6 ∧ Exa Z h a1 "java/lang/String" ∧ Fld Z h a1 "java/lang/String" "coder" "B" (.int 0) ∧ Fld Z h a1 "java/lang/String" "value" "[B" (.ref b6) ∧ Exa Z h b6 "[B" ∧ Arv Z h b6 k7 .byte (1 : Int32) [(.int (own_lb c0))] (.int 0)
theorem ef_2aa__0___Int32____1___Int32__n (m : MethodId) (x0 : Addr) (x1 : Addr) : entryFrame m #[(.ref x0), (.ref x1), (.int 0), (.int 1), .null] 6 = mkF m 0 #[.val (.ref x0), .val (.ref x1), .val (.int 0), .val (.int 1), .val .null, .unset] [] := by first | (simp [entryFrame, mkF, argsToLocals, Value.category]; done) | rfl
theorem rm2n1 (l : Launch) (Z : State) (a0 : Array Value) (hw : ∀ d ∈ tables_1, d.before a0 Z = true) (ws : List Jvm.Cond) (a1 a2 : Addr) (k0 : ClassId) (c0 zC : Int32) (h0 : Heap) (n0 : Nat) (O0 : Old Z n0 h0) (HE_a1 : Exa Z h0 a1 "java/lang/String") (HF_a1_value : Fld Z h0 a1 "java/lang/String" "value" "[B" .null) (HF_a1_coder : Fld Z h0 a1 "java/lang/String" "coder" "B" (.int 0)) (HV_a2 : Arv Z h0 a2 k0 .char (1 : Int32) [(.int c0)] (.int 0)) (S_COMPACT_STRINGS : Sta Z Z.heap "java/lang/String" "COMPACT_STRINGS" "Z" (.int zC)) (hc30 : ¬ (zC = (0 : Int32))) (h36_h9_hc20 : ¬ ((255 : Int32) < c0)) (g_a1 : n0 ≤ a1) :
    own_C l Z (⟨"java/lang/String", "<init>", "([CIILjava/lang/Void;)V"⟩ : MethodName) jdk_42_method_149_code 6 none ws ({ frames := 2, cells := 1, slots := 1, locals := 35 } : Room) #[(.ref a1), (.ref a2), (.int 0), (.int 1), .null] h0 (Q2n1 Z a1 a2 k0 c0 zC h0 n0) := by
  refine own_intro (plainFor_of_name pnc_java_lang_String) fun p e s m below meth c s₁ hx hby hml hown hnm hZ e0 hret X0 => ?_
  have N0 := Fr.nil n0
  have Z0 : n0 ≤ h0.size := O0.1 ▸ O0.2.1
  obtain ⟨T3, X3, e3, st3⟩ := initO X0 hx hZ hown (own_w hw 12 rfl) (own_w hw 13 rfl) (own_w hw 14 rfl) e0 (g := (mkF m 1 #[.val (.ref a1), .val (.ref a2), .val (.int 0), .val (.int 1), .val .null, .unset] [(.ref a1)])) rfl (by rw [hml]; rfl) rfl (d2 hby 1 rfl) (by decide) (W := 0) (by show 2 * 0 + _ ≤ _; exact Nat.le_of_eq rfl) (by decide)
  obtain ⟨T4, X4, e4, st4⟩ := getS2 X3 hx hZ hown (host := "") (Or.inl (own_w hw 15 rfl)) Via.refl e3 (S_COMPACT_STRINGS.ext O0.2) (g := (mkF m 27 #[.val (.ref a1), .val (.ref a2), .val (.int 0), .val (.int 1), .val .null, .unset] [])) rfl (d2 hby 4 rfl)
  obtain ⟨vr5, _, ⟨T5, L5, k5, n5⟩, -, X5, ⟨Lc5, hQ5, l5, y5, z5⟩, st5⟩ := Jvm.LawKit.callS X4 hx (y := (⟨"java/lang/StringUTF16", "compress", "([CII)[B"⟩ : MethodName)) hown (mvT hZ (own_w hw 16 rfl)) (mvT hZ (own_w hw 17 rfl)) (mvT hZ (own_w hw 18 rfl)) (mvT hZ (own_w hw 19 rfl)) (by decide) (backOf (W := 0) (rm4n1 l Z a0 hw [] a2 k0 c0 h0 n0 O0 HV_a2 h36_h9_hc20) hZ (own_w hw 19 rfl) (own_w hw 18 rfl) (by decide) (by decide)) (g := (mkF m 36 #[.val (.ref a1), .val (.ref a2), .val (.int 0), .val (.int 1), .val .null, .unset] [(.int 1), (.int 0), (.ref a2)])) rfl (by rw [hml]; rfl) (argsL := [(.ref a2), (.int 0), (.int 1)]) (rest := []) (lenOf pd_36 rfl) rfl (by show 2 * 0 + _ ≤ _; exact Nat.le_of_eq rfl) (d2 hby 9 rfl) (fun _ _ => ⟨rfl, e4, (by decide : 0 + 1 ≤ _), (by decide : 0 + 1 ≤ _)⟩)
  dsimp only [Pt.U, Pt.locs, Pt.cells, Pt.slots] at X5 l5 y5 z5 st5 hQ5
  subst l5 y5 z5
  obtain ⟨b6, k7, rfl, N5q, K5, Y5_z0, Y5_0, Y5_1⟩ := hQ5
  have N5 := Fr.app N0 N5q
  replace X5 := X5.more (cells' := 1) (slots' := 1) (by decide) (by decide)
  have g_b6 : n0 ≤ b6 := Nat.le_trans (Nat.le_trans Z0 (Keep.refl h0 [a1]).1) Y5_z0
  have sz_b6 : h0.size ≤ b6 := Nat.le_trans (Keep.refl h0 [a1]).1 Y5_z0
  have K8 : Keep h0 T5.heap [a1] := (Keep.refl h0 [a1]).trans K5 all0
  have O9 : Old Z n0 T5.heap := O0.keep K5 all0
  obtain ⟨vr10, _, ⟨T10, L10, k10, n10⟩, -, X10, ⟨Lc10, hQ10, l10, y10, z10⟩, st10⟩ := Jvm.LawKit.callS X5 hx (y := (⟨"java/lang/StringUTF16", "coderFromArrayLen", "([BI)B"⟩ : MethodName)) hown (mvT hZ (own_w hw 24 rfl)) (mvT hZ (own_w hw 25 rfl)) (mvT hZ (own_w hw 18 rfl)) (mvT hZ (own_w hw 26 rfl)) (by decide) (backOf (W := 1) (rm6n1 l Z a0 hw [] b6 k7 ([(.int (own_lb c0))]) T5.heap n0 O9 Y5_1) hZ (own_w hw 26 rfl) (own_w hw 18 rfl) (by decide) (by decide)) (g := (mkF m 45 #[.val (.ref a1), .val (.ref a2), .val (.int 0), .val (.int 1), .val .null, .val (.ref b6)] [(.int 1), (.ref b6), (.ref a1)])) rfl (by rw [hml]; rfl) (argsL := [(.ref b6), (.int 1)]) (rest := [(.ref a1)]) (lenOf pd_28 rfl) rfl (by show 2 * 0 + _ ≤ _; exact Nat.le_of_eq rfl) (d2 hby 14 rfl) (fun _ _ => ⟨rfl, rfl, (by decide : 1 + 0 ≤ _), (by decide : 1 + 0 ≤ _)⟩)
  dsimp only [Pt.U, Pt.locs, Pt.cells, Pt.slots] at X10 l10 y10 z10 st10 hQ10
  subst l10 y10 z10
  obtain ⟨rfl, N10q, e10⟩ := hQ10
  have N10 := Fr.app N5 N10q
  replace X10 := X10.more (cells' := 1) (slots' := 1) (by decide) (by decide)
  have f11 := (HE_a1.keep K5)
  have f12 := (HF_a1_coder.keep K5 nin0)
  obtain ⟨T13, h13, X13, e13, W13, st13⟩ := putFN X10 hx hZ hown (own_w hw 27 rfl) Via.refl e10 f12 f11 (Or.inr ⟨(own_w hw 28 rfl), rfl, hnm⟩) (own_w hw 2 rfl) (ty := .byte) (v' := (.int 0)) (by decide) rfl rfl (g := (mkF m 48 #[.val (.ref a1), .val (.ref a2), .val (.int 0), .val (.int 1), .val .null, .val (.ref b6)] [(.int 0), (.ref a1)])) rfl rfl (d2 hby 15 rfl)
  have N13 := Fr.snoc X13 N10 g_a1
  have K14 : Keep h0 h13 [a1] := K8.wr W13 (Or.inl (List.mem_of_getElem? (i := 0) rfl))
  have O15 : Old Z n0 h13 := O9.wr W13 g_a1
  have Fw13 : Fld Z h13 a1 "java/lang/String" "coder" "B" (.int 0) := f12.same W13
  have f16 := (f11.wr W13)
  have f17 := ((HF_a1_value.keep K5 nin0).other W13 (Or.inr (slot_ne (Or.inr (own_w hw 30 rfl)) (Or.inr (own_w hw 28 rfl)) (by decide) (t := (.array .byte)) (t' := .byte) (by decide) (by decide))))
  obtain ⟨T18, h18, X18, e18, W18, st18⟩ := putF X13 hx hZ hown (host := "") (Or.inl (own_w hw 29 rfl)) Via.refl e13 f17 f16 (Or.inr ⟨(own_w hw 30 rfl), rfl, hnm⟩) (own_w hw 2 rfl) (ty := (.array .byte)) (by decide) rfl rfl (g := (mkF m 54 #[.val (.ref a1), .val (.ref a2), .val (.int 0), .val (.int 1), .val .null, .val (.ref b6)] [(.ref b6), (.ref a1)])) rfl rfl (d2 hby 18 rfl)
  have N18 := Fr.snoc X18 N13 g_a1
  have K19 : Keep h0 h18 [a1] := K14.wr W18 (Or.inl (List.mem_of_getElem? (i := 0) rfl))
  have O20 : Old Z n0 h18 := O15.wr W18 g_a1
  have Fw18 : Fld Z h18 a1 "java/lang/String" "value" "[B" (.ref b6) := f17.same W18
  have f21 := (f16.wr W18)
  have f22 := (Fw13.other W18 (Or.inr (slot_ne (Or.inr (own_w hw 28 rfl)) (Or.inr (own_w hw 30 rfl)) (by decide) (t := .byte) (t' := (.array .byte)) (by decide) (by decide))))
  have f23 := ((Y5_0.wr W13).wr W18)
  have f24 := ((Y5_1.other W13 (Ne.symm (Nat.ne_of_lt (Nat.lt_of_lt_of_le HE_a1.lt Y5_z0)))).other W18 (Ne.symm (Nat.ne_of_lt (Nat.lt_of_lt_of_le HE_a1.lt Y5_z0))))
  refine ⟨T18, _, _, _, none, X18, by decide, by decide, fun _ => rfl, ?_, fun fs hr => castTop (ef_2aa__0___Int32____1___Int32__n m a1 a2) ?_⟩
  · show Q2n1 Z a1 a2 k0 c0 zC h0 n0 _ T18.heap _
    rw [e18]
    exact ⟨b6, k7, rfl, N18, K19, sz_b6, f21, f22, Fw18, f23, f24⟩
  · show Steps p.tables e below (s₁.setTop (mkF m 0 #[.val (.ref a1), .val (.ref a2), .val (.int 0), .val (.int 1), .val .null, .unset] [])) _
    refine XS.aloadN X0.here hx rfl (d2 hby 0 rfl) rfl rfl ?_
    refine st3 _ ?_
    refine XS.iloadN X3.here hx rfl (d2 hby 2 rfl) rfl ?_
    refine XS.ifYes X3.here hx rfl (pc0 := 5) (pc' := 27) rfl (d2 hby 3 rfl) rfl ((if0 _ _).trans (feq (by decide : ¬ ((1 : Int32) = (0 : Int32)))).2) (by decide) (by decide) ?_
    refine st4 _ ?_
    refine XS.ifNo X4.here hx rfl (d2 hby 5 rfl) rfl ((if0 _ _).trans (feq hc30).1) ?_
    refine XS.aloadN X4.here hx rfl (d2 hby 6 rfl) rfl rfl ?_
    refine XS.iloadN X4.here hx rfl (d2 hby 7 rfl) rfl ?_
    refine XS.iloadN X4.here hx rfl (d2 hby 8 rfl) rfl ?_
    refine st5 _ ?_
    refine XS.astore X5.here hx rfl (d2 hby 10 rfl) rfl rfl (l' := #[.val (.ref a1), .val (.ref a2), .val (.int 0), .val (.int 1), .val .null, .val (.ref b6)]) rfl ?_
    refine XS.aloadN X5.here hx rfl (d2 hby 11 rfl) rfl rfl ?_
    refine XS.aload X5.here hx rfl (d2 hby 12 rfl) rfl rfl ?_
    refine XS.iloadN X5.here hx rfl (d2 hby 13 rfl) rfl ?_
    refine st10 _ ?_
    refine st13 _ ?_
    refine XS.aloadN X13.here hx rfl (d2 hby 16 rfl) rfl rfl ?_
    refine XS.aload X13.here hx rfl (d2 hby 17 rfl) rfl rfl ?_
    refine st18 _ ?_
    exact X18.returnOut hx hret (d2 hby 19 rfl) hr
def own_L1 : List (Nat × Instr × Nat) := [(0, .aload_n 0, 1), (1, .aload_n 1, 1), (2, .iconst 0, 1), (3, .aload_n 1, 1), (4, .arraylength, 1), (5, .aconst_null, 1), (6, .invokespecial 27, 3), (9, .return_, 1)]
theorem own_K1 : ∀ x ∈ own_L1, decode jdk_42_method_3_code x.1 = .ok x.2 := by decide +kernel
theorem d1 {c : Code} (hby : c.code = jdk_42_method_3_code) (i : Nat) {k n : Nat} {a : Instr} (h : own_L1[i]? = some (k, a, n)) : decode c.code k = .ok (a, n) := own_dL own_K1 hby h
theorem pd_37 : parseMethodDescriptor "([CIILjava/lang/Void;)V" = some ⟨[(.array .char), .int, .int, (.object "java/lang/Void")], none⟩ := by decide +kernel
def Q1n1 (Z : State) (a1 a2 : Addr) (k0 : ClassId) (c0 zC : Int32) (h0 : Heap) (n0 : Nat) (v : Option Value) (h : Heap) (L : List Loc) : Prop := ∃ b5 : Addr, ∃ k6 : ClassId, v = none ∧ Fr n0 L ∧ Keep h0 h [a1] ∧ h0.size ≤ b5 ∧ Exa Z h a1 "java/lang/String" ∧ Fld Z h a1 "java/lang/String" "coder" "B" (.int 0) ∧ Fld Z h a1 "java/lang/String" "value" "[B" (.ref b5) ∧ Exa Z h b5 "[B" ∧ Arv Z h b5 k6 .byte (own_n [c0]) (own_by [c0]) (.int 0)
theorem ef_1 (m : MethodId) (x0 : Addr) (x1 : Addr) : entryFrame m #[(.ref x0), (.ref x1)] 2 = mkF m 0 #[.val (.ref x0), .val (.ref x1)] [] := by first | (simp [entryFrame, mkF, argsToLocals, Value.category]; done) | rfl
theorem rm1n1 (l : Launch) (Z : State) (a0 : Array Value) (hw : ∀ d ∈ tables_1, d.before a0 Z = true) (ws : List Jvm.Cond) (a1 a2 : Addr) (k0 : ClassId) (c0 zC : Int32) (h0 : Heap) (n0 : Nat) (O0 : Old Z n0 h0) (HE_a1 : Exa Z h0 a1 "java/lang/String") (HF_a1_value : Fld Z h0 a1 "java/lang/String" "value" "[B" .null) (HF_a1_coder : Fld Z h0 a1 "java/lang/String" "coder" "B" (.int 0)) (HV_a2 : Arv Z h0 a2 k0 .char (1 : Int32) [(.int c0)] (.int 0)) (S_COMPACT_STRINGS : Sta Z Z.heap "java/lang/String" "COMPACT_STRINGS" "Z" (.int zC)) (h6_hc30 : ¬ (zC = (0 : Int32))) (h6_h36_h9_hc20 : ¬ ((255 : Int32) < c0)) (g_a1 : n0 ≤ a1) :
    own_C l Z (⟨"java/lang/String", "<init>", "([C)V"⟩ : MethodName) jdk_42_method_3_code 2 none ws ({ frames := 3, cells := 1, slots := 1, locals := 52 } : Room) #[(.ref a1), (.ref a2)] h0 (Q1n1 Z a1 a2 k0 c0 zC h0 n0) := by
  refine own_intro (plainFor_of_name pnc_java_lang_String) fun p e s m below meth c s₁ hx hby hml hown hnm hZ e0 hret X0 => ?_
  have N0 := Fr.nil n0
  have Z0 : n0 ≤ h0.size := O0.1 ▸ O0.2.1
  obtain ⟨cl3, Ar3, q3, S3, Nn3, Hh3, G3⟩ := id HV_a2
  obtain ⟨vr4, _, ⟨T4, L4, k4, n4⟩, -, X4, ⟨Lc4, hQ4, l4, y4, z4⟩, st4⟩ := X0.specialBack hx (y := (⟨"java/lang/String", "<init>", "([CIILjava/lang/Void;)V"⟩ : MethodName)) rfl hown (mvT hZ (own_w hw 8 rfl)) (mvT hZ (own_w hw 9 rfl)) (mvT hZ (own_w hw 11 rfl)) (by decide) (backOf (W := 0) (rm2n1 l Z a0 hw [] a1 a2 k0 c0 zC h0 n0 O0 HE_a1 HF_a1_value HF_a1_coder HV_a2 S_COMPACT_STRINGS h6_hc30 h6_h36_h9_hc20 g_a1) hZ (own_w hw 11 rfl) (own_w hw 3 rfl) (by decide) (by decide)) (g := (mkF m 6 #[.val (.ref a1), .val (.ref a2)] [.null, (.int 1), (.int 0), (.ref a2), (.ref a1)])) rfl (by rw [hml]; rfl) (Steps.refl _) (a := a1) (argsL := [(.ref a2), (.int 0), (.int 1), .null]) (rest := []) (lenOf pd_37 rfl) rfl (by show 2 * 0 + _ ≤ _; exact Nat.le_of_eq rfl) (d1 hby 6 rfl) (fun _ _ => ⟨rfl, e0, (by decide : 0 + 1 ≤ _), (by decide : 0 + 1 ≤ _)⟩)
  dsimp only [Pt.U, Pt.locs, Pt.cells, Pt.slots] at X4 l4 y4 z4 st4 hQ4
  subst l4 y4 z4
  obtain ⟨b5, k6, rfl, N4q, K4, Y4_z0, Y4_0, Y4_1, Y4_2, Y4_3, Y4_4⟩ := hQ4
  have N4 := Fr.app N0 N4q
  replace X4 := X4.more (cells' := 1) (slots' := 1) (by decide) (by decide)
  have g_b5 : n0 ≤ b5 := Nat.le_trans (Nat.le_trans Z0 (Keep.refl h0 [a1]).1) Y4_z0
  have sz_b5 : h0.size ≤ b5 := Nat.le_trans (Keep.refl h0 [a1]).1 Y4_z0
  have K7 : Keep h0 T4.heap [a1] := (Keep.refl h0 [a1]).trans K4 (allS (Or.inl (List.mem_of_getElem? (i := 0) rfl)) all0)
  have O8 : Old Z n0 T4.heap := O0.keep K4 (allS g_a1 all0)
  have V9 : Arv Z T4.heap b5 k6 .byte (own_n [c0]) (own_by [c0]) (.int 0) := by have q := Y4_4; rw [own_lbE c0] at q; exact q
  refine ⟨T4, _, _, _, none, X4, by decide, by decide, fun _ => rfl, ?_, fun fs hr => castTop (ef_1 m a1 a2) ?_⟩
  · show Q1n1 Z a1 a2 k0 c0 zC h0 n0 _ T4.heap _
    exact ⟨b5, k6, rfl, N4, K7, sz_b5, Y4_0, Y4_1, Y4_2, Y4_3, V9⟩
  · show Steps p.tables e below (s₁.setTop (mkF m 0 #[.val (.ref a1), .val (.ref a2)] [])) _
    refine XS.aloadN X0.here hx rfl (d1 hby 0 rfl) rfl rfl ?_
    refine XS.aloadN X0.here hx rfl (d1 hby 1 rfl) rfl rfl ?_
    refine XS.iconst X0.here hx rfl (d1 hby 2 rfl) ?_
    refine XS.aloadN X0.here hx rfl (d1 hby 3 rfl) rfl rfl ?_
    show Steps p.tables e below (s₁.setTop (mkF m 4 #[.val (.ref a1), .val (.ref a2)] [(.ref a2), (.int 0), (.ref a2), (.ref a1)])) _
    refine X0.arraylength hx (by rw [e0]; exact Ar3.1) (State.isArrayOf_alike hZ.alike Ar3.2.1) (g := (mkF m 4 #[.val (.ref a1), .val (.ref a2)] [(.ref a2), (.int 0), (.ref a2), (.ref a1)])) rfl rfl (d1 hby 4 rfl) _ ?_
    rw [len_of S3 Nn3]
    refine XS.aconstNull X0.here hx rfl (d1 hby 5 rfl) ?_
    refine st4.trans ?_
    exact X4.returnOut hx hret (d1 hby 7 rfl) hr
def Q5n2 (Z : State) (a1 a2 : Addr) (k0 k9 : ClassId) (c0 c1 : Int32) (h0 : Heap) (n0 : Nat) (v : Option Value) (h : Heap) (L : List Loc) : Prop := v = some (.int 2) ∧ Fr n0 L ∧ Keep h0 h [a2] ∧ Arv Z h a2 k9 .byte (2 : Int32) [(.int (own_lb c0)), (.int (own_lb c1))] (.int 0)
theorem ef_5a__0___Int32__a__0___Int32____2___Int32__ (m : MethodId) (x0 : Addr) (x2 : Addr) : entryFrame m #[(.ref x0), (.int 0), (.ref x2), (.int 0), (.int 2)] 7 = mkF m 0 #[.val (.ref x0), .val (.int 0), .val (.ref x2), .val (.int 0), .val (.int 2), .unset, .unset] [] := by first | (simp [entryFrame, mkF, argsToLocals, Value.category]; done) | rfl
theorem rm5n2 (l : Launch) (Z : State) (a0 : Array Value) (hw : ∀ d ∈ tables_1, d.before a0 Z = true) (ws : List Jvm.Cond) (a1 a2 : Addr) (k0 k9 : ClassId) (c0 c1 : Int32) (h0 : Heap) (n0 : Nat) (O0 : Old Z n0 h0) (HV_a1 : Arv Z h0 a1 k0 .char (2 : Int32) [(.int c0), (.int c1)] (.int 0)) (HV_a2 : Arv Z h0 a2 k9 .byte (2 : Int32) [(.int 0), (.int 0)] (.int 0)) (hc20 : ¬ ((255 : Int32) < c0)) (g_a2 : n0 ≤ a2) (ne_a1_a2 : a1 ≠ a2) (hc20_1 : ¬ ((255 : Int32) < c1)) :
    own_C l Z (⟨"java/lang/StringUTF16", "compress", "([CI[BII)I"⟩ : MethodName) jdk_52_method_21_code 7 (some .int) ws ({ frames := 0, cells := 0, slots := 0, locals := 0 } : Room) #[(.ref a1), (.int 0), (.ref a2), (.int 0), (.int 2)] h0 (Q5n2 Z a1 a2 k0 k9 c0 c1 h0 n0) := by
  refine own_intro (plainFor_of_name pnc_java_lang_StringUTF16) fun p e s m below meth c s₁ hx hby hml hown hnm hZ e0 hret X0 => ?_
  have N0 := Fr.nil n0
  have Z0 : n0 ≤ h0.size := O0.1 ▸ O0.2.1
  obtain ⟨cl3, Ar3, q3, S3, Nn3, Hh3, G3⟩ := id HV_a1
  have hin3 : ¬ ((0 : Int32) < 0 ∨ cl3.slots.size ≤ ((0 : Int32)).toNatClampNeg) := inb_of S3 ⟨by decide, by decide⟩
  have hat3 : cl3.slots[((0 : Int32)).toNatClampNeg]? = some (.int c0) := Has.at Hh3 hin3 rfl
  obtain ⟨cl4, Ar4, q4, S4, Nn4, Hh4, G4⟩ := id HV_a2
  have hin4 : ¬ ((0 : Int32) < 0 ∨ cl4.slots.size ≤ ((0 : Int32)).toNatClampNeg) := inb_of S4 ⟨by decide, by decide⟩
  obtain ⟨T5, h5, X5, e5, W5, st5⟩ := stB X0 hx hZ e0 Ar4 (j := (0 : Int32)) hin4 (g := (mkF m 31 #[.val (.ref a1), .val (.int 0), .val (.ref a2), .val (.int 0), .val (.int 2), .val (.int 0), .val (.int c0)] [(.int (c0.toInt8.toInt32)), (.int 0), (.ref a2)])) rfl rfl (d5 hby 16 rfl)
  have N5 := Fr.snoc X5 N0 g_a2
  have K6 : Keep h0 h5 [a2] := (Keep.refl h0 [a2]).wr W5 (Or.inl (List.mem_of_getElem? (i := 0) rfl))
  have O7 : Old Z n0 h5 := O0.wr W5 g_a2
  have V5 : Arv Z h5 a2 k9 .byte (2 : Int32) [(.int (own_lb c0)), (.int 0)] (.int 0) := Arv.set Ar4 q4 S4 Nn4 Hh4 G4 (fits_nar_byte _) W5 0 rfl (Nat.le_of_ble_eq_true rfl)
  have f8 := (HV_a1.other W5 ne_a1_a2)
  obtain ⟨cl9, Ar9, q9, S9, Nn9, Hh9, G9⟩ := id f8
  have hin9 : ¬ ((1 : Int32) < 0 ∨ cl9.slots.size ≤ ((1 : Int32)).toNatClampNeg) := inb_of S9 ⟨by decide, by decide⟩
  have hat9 : cl9.slots[((1 : Int32)).toNatClampNeg]? = some (.int c1) := Has.at Hh9 hin9 rfl
  obtain ⟨cl10, Ar10, q10, S10, Nn10, Hh10, G10⟩ := id V5
  have hin10 : ¬ ((1 : Int32) < 0 ∨ cl10.slots.size ≤ ((1 : Int32)).toNatClampNeg) := inb_of S10 ⟨by decide, by decide⟩
  obtain ⟨T11, h11, X11, e11, W11, st11⟩ := stB X5 hx hZ e5 Ar10 (j := (1 : Int32)) hin10 (g := (mkF m 31 #[.val (.ref a1), .val (.int 1), .val (.ref a2), .val (.int 1), .val (.int 2), .val (.int 1), .val (.int c1)] [(.int (c1.toInt8.toInt32)), (.int 1), (.ref a2)])) rfl rfl (d5 hby 16 rfl)
  have N11 := Fr.snoc X11 N5 g_a2
  have K12 : Keep h0 h11 [a2] := K6.wr W11 (Or.inl (List.mem_of_getElem? (i := 0) rfl))
  have O13 : Old Z n0 h11 := O7.wr W11 g_a2
  have V11 : Arv Z h11 a2 k9 .byte (2 : Int32) [(.int (own_lb c0)), (.int (own_lb c1))] (.int 0) := Arv.set Ar10 q10 S10 Nn10 Hh10 G10 (fits_nar_byte _) W11 1 rfl (Nat.le_of_ble_eq_true rfl)
  refine ⟨T11, _, _, _, some (.int 2), X11, by decide, by decide, nofun, ?_, fun fs hr => castTop (ef_5a__0___Int32__a__0___Int32____2___Int32__ m a1 a2) ?_⟩
  · show Q5n2 Z a1 a2 k0 k9 c0 c1 h0 n0 _ T11.heap _
    rw [e11]
    exact ⟨rfl, N11, K12, V11⟩
  · show Steps p.tables e below (s₁.setTop (mkF m 0 #[.val (.ref a1), .val (.int 0), .val (.ref a2), .val (.int 0), .val (.int 2), .unset, .unset] [])) _
    refine XS.iconst X0.here hx rfl (d5 hby 0 rfl) ?_
    refine XS.istore X0.here hx rfl (d5 hby 1 rfl) rfl (l' := #[.val (.ref a1), .val (.int 0), .val (.ref a2), .val (.int 0), .val (.int 2), .val (.int 0), .unset]) rfl ?_
    refine XS.iload X0.here hx rfl (d5 hby 2 rfl) rfl ?_
    refine XS.iload X0.here hx rfl (d5 hby 3 rfl) rfl ?_
    refine XS.icmpNo X0.here hx rfl (d5 hby 4 rfl) rfl (tlt (by decide : (0 : Int32) < (2 : Int32))).2.1 ?_
    refine XS.aloadN X0.here hx rfl (d5 hby 5 rfl) rfl rfl ?_
    refine XS.iloadN X0.here hx rfl (d5 hby 6 rfl) rfl ?_
    show Steps p.tables e below (s₁.setTop (mkF m 12 #[.val (.ref a1), .val (.int 0), .val (.ref a2), .val (.int 0), .val (.int 2), .val (.int 0), .unset] [(.int 0), (.ref a1)])) _
    refine X0.caload hx (j := (0 : Int32)) (v := (.int c0)) (by rw [e0]; exact Ar3.1) (State.isArrayOf_alike hZ.alike Ar3.2.1) Ar3.2.2 hin3 hat3 (g := (mkF m 12 #[.val (.ref a1), .val (.int 0), .val (.ref a2), .val (.int 0), .val (.int 2), .val (.int 0), .unset] [(.int 0), (.ref a1)])) rfl rfl (d5 hby 7 rfl) _ ?_
    refine XS.istore X0.here hx rfl (d5 hby 8 rfl) rfl (l' := #[.val (.ref a1), .val (.int 0), .val (.ref a2), .val (.int 0), .val (.int 2), .val (.int 0), .val (.int c0)]) rfl ?_
    refine XS.iload X0.here hx rfl (d5 hby 9 rfl) rfl ?_
    refine XS.sipush X0.here hx rfl (d5 hby 10 rfl) ?_
    refine XS.icmpYes X0.here hx rfl (pc0 := 20) (pc' := 26) rfl (d5 hby 11 rfl) rfl (flt hc20).2.2.2 (by decide) (by decide) ?_
    refine XS.aloadN X0.here hx rfl (d5 hby 12 rfl) rfl rfl ?_
    refine XS.iloadN X0.here hx rfl (d5 hby 13 rfl) rfl ?_
    show Steps p.tables e below (s₁.setTop (mkF m 28 #[.val (.ref a1), .val (.int 0), .val (.ref a2), .val (.int 0), .val (.int 2), .val (.int 0), .val (.int c0)] [(.int 0), (.ref a2)])) _
    refine XS.iload X0.here hx rfl (d5 hby 14 rfl) rfl ?_
    refine XS.i2b X0.here hx rfl (d5 hby 15 rfl) rfl ?_
    refine st5 _ ?_
    refine XS.iinc X5.here hx rfl (d5 hby 17 rfl) rfl (l' := #[.val (.ref a1), .val (.int 1), .val (.ref a2), .val (.int 0), .val (.int 2), .val (.int 0), .val (.int c0)]) rfl ?_
    refine XS.iinc X5.here hx rfl (d5 hby 18 rfl) rfl (l' := #[.val (.ref a1), .val (.int 1), .val (.ref a2), .val (.int 1), .val (.int 2), .val (.int 0), .val (.int c0)]) rfl ?_
    refine XS.iinc X5.here hx rfl (d5 hby 19 rfl) rfl (l' := #[.val (.ref a1), .val (.int 1), .val (.ref a2), .val (.int 1), .val (.int 2), .val (.int 1), .val (.int c0)]) rfl ?_
    refine XS.goto X5.here hx rfl (pc0 := 41) (pc' := 3) rfl (d5 hby 20 rfl) (by decide) (by decide) ?_
    refine XS.iload X5.here hx rfl (d5 hby 2 rfl) rfl ?_
    refine XS.iload X5.here hx rfl (d5 hby 3 rfl) rfl ?_
    show Steps p.tables e below (T5.setTop (mkF m 7 #[.val (.ref a1), .val (.int 1), .val (.ref a2), .val (.int 1), .val (.int 2), .val (.int 1), .val (.int c0)] [(.int 2), (.int 1)])) _
    refine XS.icmpNo X5.here hx rfl (d5 hby 4 rfl) rfl (tlt (by decide : (1 : Int32) < (2 : Int32))).2.1 ?_
    refine XS.aloadN X5.here hx rfl (d5 hby 5 rfl) rfl rfl ?_
    refine XS.iloadN X5.here hx rfl (d5 hby 6 rfl) rfl ?_
    show Steps p.tables e below (T5.setTop (mkF m 12 #[.val (.ref a1), .val (.int 1), .val (.ref a2), .val (.int 1), .val (.int 2), .val (.int 1), .val (.int c0)] [(.int 1), (.ref a1)])) _
    refine X5.caload hx (j := (1 : Int32)) (v := (.int c1)) (by rw [e5]; exact Ar9.1) (State.isArrayOf_alike hZ.alike Ar9.2.1) Ar9.2.2 hin9 hat9 (g := (mkF m 12 #[.val (.ref a1), .val (.int 1), .val (.ref a2), .val (.int 1), .val (.int 2), .val (.int 1), .val (.int c0)] [(.int 1), (.ref a1)])) rfl rfl (d5 hby 7 rfl) _ ?_
    refine XS.istore X5.here hx rfl (d5 hby 8 rfl) rfl (l' := #[.val (.ref a1), .val (.int 1), .val (.ref a2), .val (.int 1), .val (.int 2), .val (.int 1), .val (.int c1)]) rfl ?_
    refine XS.iload X5.here hx rfl (d5 hby 9 rfl) rfl ?_
    refine XS.sipush X5.here hx rfl (d5 hby 10 rfl) ?_
    refine XS.icmpYes X5.here hx rfl (pc0 := 20) (pc' := 26) rfl (d5 hby 11 rfl) rfl (flt hc20_1).2.2.2 (by decide) (by decide) ?_
    refine XS.aloadN X5.here hx rfl (d5 hby 12 rfl) rfl rfl ?_
    refine XS.iloadN X5.here hx rfl (d5 hby 13 rfl) rfl ?_
    show Steps p.tables e below (T5.setTop (mkF m 28 #[.val (.ref a1), .val (.int 1), .val (.ref a2), .val (.int 1), .val (.int 2), .val (.int 1), .val (.int c1)] [(.int 1), (.ref a2)])) _
    refine XS.iload X5.here hx rfl (d5 hby 14 rfl) rfl ?_
    refine XS.i2b X5.here hx rfl (d5 hby 15 rfl) rfl ?_
    refine st11 _ ?_
    refine XS.iinc X11.here hx rfl (d5 hby 17 rfl) rfl (l' := #[.val (.ref a1), .val (.int 2), .val (.ref a2), .val (.int 1), .val (.int 2), .val (.int 1), .val (.int c1)]) rfl ?_
    refine XS.iinc X11.here hx rfl (d5 hby 18 rfl) rfl (l' := #[.val (.ref a1), .val (.int 2), .val (.ref a2), .val (.int 2), .val (.int 2), .val (.int 1), .val (.int c1)]) rfl ?_
    refine XS.iinc X11.here hx rfl (d5 hby 19 rfl) rfl (l' := #[.val (.ref a1), .val (.int 2), .val (.ref a2), .val (.int 2), .val (.int 2), .val (.int 2), .val (.int c1)]) rfl ?_
    refine XS.goto X11.here hx rfl (pc0 := 41) (pc' := 3) rfl (d5 hby 20 rfl) (by decide) (by decide) ?_
    refine XS.iload X11.here hx rfl (d5 hby 2 rfl) rfl ?_
    refine XS.iload X11.here hx rfl (d5 hby 3 rfl) rfl ?_
    show Steps p.tables e below (T11.setTop (mkF m 7 #[.val (.ref a1), .val (.int 2), .val (.ref a2), .val (.int 2), .val (.int 2), .val (.int 2), .val (.int c1)] [(.int 2), (.int 2)])) _
    refine XS.icmpYes X11.here hx rfl (pc0 := 7) (pc' := 44) rfl (d5 hby 4 rfl) rfl (flt (by decide : ¬ ((2 : Int32) < (2 : Int32)))).2.1 (by decide) (by decide) ?_
    refine XS.iload X11.here hx rfl (d5 hby 21 rfl) rfl ?_
    exact own_retI X11 hx hret (d5 hby 22 rfl) hr
def Q4n2 (Z : State) (a1 : Addr) (k0 : ClassId) (c0 c1 : Int32) (h0 : Heap) (n0 : Nat) (v : Option Value) (h : Heap) (L : List Loc) : Prop := ∃ b2 : Addr, ∃ k2 : ClassId, v = some (.ref b2) ∧ Fr n0 L ∧ Keep h0 h [] ∧ h0.size ≤ b2 ∧ Exa Z h b2 "[B" ∧ Arv Z h b2 k2 .byte (2 : Int32) [(.int (own_lb c0)), (.int (own_lb c1))] (.int 0)
theorem ef_4a__0___Int32____2___Int32__ (m : MethodId) (x0 : Addr) : entryFrame m #[(.ref x0), (.int 0), (.int 2)] 6 = mkF m 0 #[.val (.ref x0), .val (.int 0), .val (.int 2), .unset, .unset, .unset] [] := by first | (simp [entryFrame, mkF, argsToLocals, Value.category]; done) | rfl
theorem rm4n2 (l : Launch) (Z : State) (a0 : Array Value) (hw : ∀ d ∈ tables_1, d.before a0 Z = true) (ws : List Jvm.Cond) (a1 : Addr) (k0 : ClassId) (c0 c1 : Int32) (h0 : Heap) (n0 : Nat) (O0 : Old Z n0 h0) (HV_a1 : Arv Z h0 a1 k0 .char (2 : Int32) [(.int c0), (.int c1)] (.int 0)) (h9_hc20 : ¬ ((255 : Int32) < c0)) (h9_hc20_1 : ¬ ((255 : Int32) < c1)) :
    own_C l Z (⟨"java/lang/StringUTF16", "compress", "([CII)[B"⟩ : MethodName) jdk_52_method_16_code 6 (some (.array .byte)) ws ({ frames := 1, cells := 1, slots := 2, locals := 18 } : Room) #[(.ref a1), (.int 0), (.int 2)] h0 (Q4n2 Z a1 k0 c0 c1 h0 n0) := by
  refine own_intro (plainFor_of_name pnc_java_lang_StringUTF16) fun p e s m below meth c s₁ hx hby hml hown hnm hZ e0 hret X0 => ?_
  have N0 := Fr.nil n0
  have Z0 : n0 ≤ h0.size := O0.1 ▸ O0.2.1
  obtain ⟨T2, h2, k2, X2, e2, E2, A2, B2, st2⟩ := newPE X0 hx hZ (own_w hw 20 rfl) e0 (g := (mkF m 1 #[.val (.ref a1), .val (.int 0), .val (.int 2), .unset, .unset, .unset] [(.int 2)])) rfl (d4 hby 1 rfl) rfl (by decide) (cap := 2) (by decide) (by decide) (by decide) (by decide) (ad := "[B") (by decide)
  obtain ⟨b2, g2⟩ : ∃ z, z = h0.size := ⟨_, rfl⟩
  rw [← g2] at A2 B2 st2
  have g_b2 : n0 ≤ b2 := Nat.le_trans (Nat.le_trans Z0 (Keep.refl h0 []).1) (Nat.le_of_eq g2.symm)
  have sz_b2 : h0.size ≤ b2 := Nat.le_trans (Keep.refl h0 []).1 (Nat.le_of_eq g2.symm)
  have K3 : Keep h0 h2 [] := (Keep.refl h0 []).ext E2
  have O4 : Old Z n0 h2 := O0.ext E2
  have V2 : Arv Z h2 b2 k2 .byte (2 : Int32) [(.int 0), (.int 0)] (.int 0) := (Arv.new A2 (by decide)).pad (pad_rep [] (.int 0) 2)
  replace X2 := X2.more (cells' := 1) (slots' := 2) (by decide) (by decide)
  have f5 := (HV_a1.ext E2)
  have ne6 : a1 ≠ b2 := Nat.ne_of_lt (Nat.lt_of_lt_of_le HV_a1.lt (Nat.le_of_eq g2.symm))
  obtain ⟨vr7, _, ⟨T7, L7, k7, n7⟩, -, X7, ⟨Lc7, hQ7, l7, y7, z7⟩, st7⟩ := Jvm.LawKit.callS X2 hx (y := (⟨"java/lang/StringUTF16", "compress", "([CI[BII)I"⟩ : MethodName)) hown (mvT hZ (own_w hw 21 rfl)) (mvT hZ (own_w hw 22 rfl)) (mvT hZ (own_w hw 18 rfl)) (mvT hZ (own_w hw 23 rfl)) (by decide) (backOf (W := 0) (rm5n2 l Z a0 hw [] a1 b2 k0 k2 c0 c1 h2 n0 O4 f5 V2 h9_hc20 g_b2 ne6 h9_hc20_1) hZ (own_w hw 23 rfl) (own_w hw 18 rfl) (by decide) (by decide)) (g := (mkF m 9 #[.val (.ref a1), .val (.int 0), .val (.int 2), .val (.ref b2), .unset, .unset] [(.int 2), (.int 0), (.ref b2), (.int 0), (.ref a1)])) rfl (by rw [hml]; rfl) (argsL := [(.ref a1), (.int 0), (.ref b2), (.int 0), (.int 2)]) (rest := []) (lenOf pd_38 rfl) rfl (by show 2 * 0 + _ ≤ _; exact Nat.le_of_eq rfl) (d4 hby 8 rfl) (fun _ _ => ⟨rfl, e2, (by decide : 1 + 0 ≤ _), (by decide : 2 + 0 ≤ _)⟩)
  dsimp only [Pt.U, Pt.locs, Pt.cells, Pt.slots] at X7 l7 y7 z7 st7 hQ7
  subst l7 y7 z7
  obtain ⟨rfl, N7q, K7, Y7_0⟩ := hQ7
  have N7 := Fr.app N0 N7q
  replace X7 := X7.more (cells' := 1) (slots' := 2) (by decide) (by decide)
  have K8 : Keep h0 T7.heap [] := K3.trans K7 (allS (Or.inr sz_b2) all0)
  have O9 : Old Z n0 T7.heap := O4.keep K7 (allS g_b2 all0)
  have f10 := (B2.keep K7)
  refine ⟨T7, _, _, _, some (.ref b2), X7, by decide, by decide, nofun, ?_, fun fs hr => castTop (ef_4a__0___Int32____2___Int32__ m a1) ?_⟩
  · show Q4n2 Z a1 k0 c0 c1 h0 n0 _ T7.heap _
    exact ⟨b2, k2, rfl, N7, K8, sz_b2, f10, Y7_0⟩
  · show Steps p.tables e below (s₁.setTop (mkF m 0 #[.val (.ref a1), .val (.int 0), .val (.int 2), .unset, .unset, .unset] [])) _
    refine XS.iloadN X0.here hx rfl (d4 hby 0 rfl) rfl ?_
    refine st2 _ ?_
    refine XS.astoreN X2.here hx rfl (d4 hby 2 rfl) rfl rfl (l' := #[.val (.ref a1), .val (.int 0), .val (.int 2), .val (.ref b2), .unset, .unset]) rfl ?_
    refine XS.aloadN X2.here hx rfl (d4 hby 3 rfl) rfl rfl ?_
    refine XS.iloadN X2.here hx rfl (d4 hby 4 rfl) rfl ?_
    refine XS.aloadN X2.here hx rfl (d4 hby 5 rfl) rfl rfl ?_
    refine XS.iconst X2.here hx rfl (d4 hby 6 rfl) ?_
    refine XS.iloadN X2.here hx rfl (d4 hby 7 rfl) rfl ?_
    show Steps p.tables e below (T2.setTop (mkF m 9 #[.val (.ref a1), .val (.int 0), .val (.int 2), .val (.ref b2), .unset, .unset] [(.int 2), (.int 0), (.ref b2), (.int 0), (.ref a1)])) _
    refine st7 _ ?_
    refine XS.istore X7.here hx rfl (d4 hby 9 rfl) rfl (l' := #[.val (.ref a1), .val (.int 0), .val (.int 2), .val (.ref b2), .val (.int 2), .unset]) rfl ?_
    refine XS.iload X7.here hx rfl (d4 hby 10 rfl) rfl ?_
    refine XS.iloadN X7.here hx rfl (d4 hby 11 rfl) rfl ?_
    refine XS.icmpYes X7.here hx rfl (pc0 := 17) (pc' := 57) rfl (d4 hby 12 rfl) rfl (teq (by decide : (2 : Int32) = (2 : Int32))).1 (by decide) (by decide) ?_
    refine XS.aloadN X7.here hx rfl (d4 hby 13 rfl) rfl rfl ?_
    exact own_retR X7 hx hret rfl rfl (d4 hby 14 rfl) hr
def Q6n2 (Z : State) (a1 : Addr) (k9 : ClassId) (vs : List Value) (h0 : Heap) (n0 : Nat) (v : Option Value) (h : Heap) (L : List Loc) : Prop := v = some (.int 0) ∧ Fr n0 L ∧ h = h0
theorem ef_6a__2___Int32__ (m : MethodId) (x0 : Addr) : entryFrame m #[(.ref x0), (.int 2)] 2 = mkF m 0 #[.val (.ref x0), .val (.int 2)] [] := by first | (simp [entryFrame, mkF, argsToLocals, Value.category]; done) | rfl
theorem rm6n2 (l : Launch) (Z : State) (a0 : Array Value) (hw : ∀ d ∈ tables_1, d.before a0 Z = true) (ws : List Jvm.Cond) (a1 : Addr) (k9 : ClassId) (vs : List Value) (h0 : Heap) (n0 : Nat) (O0 : Old Z n0 h0) (HV_a1 : Arv Z h0 a1 k9 .byte (2 : Int32) vs (.int 0)) :
    own_C l Z (⟨"java/lang/StringUTF16", "coderFromArrayLen", "([BI)B"⟩ : MethodName) jdk_52_method_15_code 2 (some .byte) ws ({ frames := 0, cells := 0, slots := 0, locals := 0 } : Room) #[(.ref a1), (.int 2)] h0 (Q6n2 Z a1 k9 vs h0 n0) := by
  refine own_intro (plainFor_of_name pnc_java_lang_StringUTF16) fun p e s m below meth c s₁ hx hby hml hown hnm hZ e0 hret X0 => ?_
  have N0 := Fr.nil n0
  have Z0 : n0 ≤ h0.size := O0.1 ▸ O0.2.1
  obtain ⟨cl2, Ar2, q2, S2, Nn2, Hh2, G2⟩ := id HV_a1
  refine ⟨s₁, _, _, _, some (.int 0), X0, by decide, by decide, nofun, ?_, fun fs hr => castTop (ef_6a__2___Int32__ m a1) ?_⟩
  · show Q6n2 Z a1 k9 vs h0 n0 _ s₁.heap _
    rw [e0]
    exact ⟨rfl, N0, rfl⟩
  · show Steps p.tables e below (s₁.setTop (mkF m 0 #[.val (.ref a1), .val (.int 2)] [])) _
    refine XS.iloadN X0.here hx rfl (d6 hby 0 rfl) rfl ?_
    refine XS.aloadN X0.here hx rfl (d6 hby 1 rfl) rfl rfl ?_
    show Steps p.tables e below (s₁.setTop (mkF m 2 #[.val (.ref a1), .val (.int 2)] [(.ref a1), (.int 2)])) _
    refine X0.arraylength hx (by rw [e0]; exact Ar2.1) (State.isArrayOf_alike hZ.alike Ar2.2.1) (g := (mkF m 2 #[.val (.ref a1), .val (.int 2)] [(.ref a1), (.int 2)])) rfl rfl (d6 hby 2 rfl) _ ?_
    rw [len_of S2 Nn2]
    refine XS.isub X0.here hx rfl (d6 hby 3 rfl) rfl ?_
    refine XS.bipush X0.here hx rfl (d6 hby 4 rfl) ?_
    refine XS.iushr X0.here hx rfl (d6 hby 5 rfl) rfl ?_
    refine XS.i2b X0.here hx rfl (d6 hby 6 rfl) rfl ?_
    exact retN X0 hx (t := .byte) hret (by simp) (d6 hby 7 rfl) hr
def Q2n2 (Z : State) (a1 a2 : Addr) (k0 : ClassId) (c0 c1 zC : Int32) (h0 : Heap) (n0 : Nat) (v : Option Value) (h : Heap) (L : List Loc) : Prop := ∃ b6 : Addr, ∃ k7 : ClassId, v = none ∧ Fr n0 L ∧ Keep h0 h [a1] ∧ h0.size ≤ b6 ∧ Exa Z h a1 "java/lang/String" ∧ Fld Z h a1 "java/lang/String" "coder" "B" (.int 0) ∧ Fld Z h a1 "java/lang/String" "value" "[B" (.ref b6) ∧ Exa Z h b6 "[B" ∧ Arv Z h b6 k7 .byte (2 : Int32) [(.int (own_lb c0)), (.int (own_lb c1))] (.int 0)
theorem ef_2aa__0___Int32____2___Int32__n (m : MethodId) (x0 : Addr) (x1 : Addr) : entryFrame m #[(.ref x0), (.ref x1), (.int 0), (.int 2), .null] 6 = mkF m 0 #[.val (.ref x0), .val (.ref x1), .val (.int 0), .val (.int 2), .val .null, .unset] [] := by first | (simp [entryFrame, mkF, argsToLocals, Value.category]; done) | rfl
theorem rm2n2 (l : Launch) (Z : State) (a0 : Array Value) (hw : ∀ d ∈ tables_1, d.before a0 Z = true) (ws : List Jvm.Cond) (a1 a2 : Addr) (k0 : ClassId) (c0 c1 zC : Int32) (h0 : Heap) (n0 : Nat) (O0 : Old Z n0 h0) (HE_a1 : Exa Z h0 a1 "java/lang/String") (HF_a1_value : Fld Z h0 a1 "java/lang/String" "value" "[B" .null) (HF_a1_coder : Fld Z h0 a1 "java/lang/String" "coder" "B" (.int 0)) (HV_a2 : Arv Z h0 a2 k0 .char (2 : Int32) [(.int c0), (.int c1)] (.int 0)) (S_COMPACT_STRINGS : Sta Z Z.heap "java/lang/String" "COMPACT_STRINGS" "Z" (.int zC)) (hc30 : ¬ (zC = (0 : Int32))) (h36_h9_hc20 : ¬ ((255 : Int32) < c0)) (h36_h9_hc20_1 : ¬ ((255 : Int32) < c1)) (g_a1 : n0 ≤ a1) :
    own_C l Z (⟨"java/lang/String", "<init>", "([CIILjava/lang/Void;)V"⟩ : MethodName) jdk_42_method_149_code 6 none ws ({ frames := 2, cells := 1, slots := 2, locals := 35 } : Room) #[(.ref a1), (.ref a2), (.int 0), (.int 2), .null] h0 (Q2n2 Z a1 a2 k0 c0 c1 zC h0 n0) := by
  refine own_intro (plainFor_of_name pnc_java_lang_String) fun p e s m below meth c s₁ hx hby hml hown hnm hZ e0 hret X0 => ?_
  have N0 := Fr.nil n0
  have Z0 : n0 ≤ h0.size := O0.1 ▸ O0.2.1
  obtain ⟨T3, X3, e3, st3⟩ := initO X0 hx hZ hown (own_w hw 12 rfl) (own_w hw 13 rfl) (own_w hw 14 rfl) e0 (g := (mkF m 1 #[.val (.ref a1), .val (.ref a2), .val (.int 0), .val (.int 2), .val .null, .unset] [(.ref a1)])) rfl (by rw [hml]; rfl) rfl (d2 hby 1 rfl) (by decide) (W := 0) (by show 2 * 0 + _ ≤ _; exact Nat.le_of_eq rfl) (by decide)
  obtain ⟨T4, X4, e4, st4⟩ := getS2 X3 hx hZ hown (host := "") (Or.inl (own_w hw 15 rfl)) Via.refl e3 (S_COMPACT_STRINGS.ext O0.2) (g := (mkF m 27 #[.val (.ref a1), .val (.ref a2), .val (.int 0), .val (.int 2), .val .null, .unset] [])) rfl (d2 hby 4 rfl)
  obtain ⟨vr5, _, ⟨T5, L5, k5, n5⟩, -, X5, ⟨Lc5, hQ5, l5, y5, z5⟩, st5⟩ := Jvm.LawKit.callS X4 hx (y := (⟨"java/lang/StringUTF16", "compress", "([CII)[B"⟩ : MethodName)) hown (mvT hZ (own_w hw 16 rfl)) (mvT hZ (own_w hw 17 rfl)) (mvT hZ (own_w hw 18 rfl)) (mvT hZ (own_w hw 19 rfl)) (by decide) (backOf (W := 0) (rm4n2 l Z a0 hw [] a2 k0 c0 c1 h0 n0 O0 HV_a2 h36_h9_hc20 h36_h9_hc20_1) hZ (own_w hw 19 rfl) (own_w hw 18 rfl) (by decide) (by decide)) (g := (mkF m 36 #[.val (.ref a1), .val (.ref a2), .val (.int 0), .val (.int 2), .val .null, .unset] [(.int 2), (.int 0), (.ref a2)])) rfl (by rw [hml]; rfl) (argsL := [(.ref a2), (.int 0), (.int 2)]) (rest := []) (lenOf pd_36 rfl) rfl (by show 2 * 0 + _ ≤ _; exact Nat.le_of_eq rfl) (d2 hby 9 rfl) (fun _ _ => ⟨rfl, e4, (by decide : 0 + 1 ≤ _), (by decide : 0 + 2 ≤ _)⟩)
  dsimp only [Pt.U, Pt.locs, Pt.cells, Pt.slots] at X5 l5 y5 z5 st5 hQ5
  subst l5 y5 z5
  obtain ⟨b6, k7, rfl, N5q, K5, Y5_z0, Y5_0, Y5_1⟩ := hQ5
  have N5 := Fr.app N0 N5q
  replace X5 := X5.more (cells' := 1) (slots' := 2) (by decide) (by decide)
  have g_b6 : n0 ≤ b6 := Nat.le_trans (Nat.le_trans Z0 (Keep.refl h0 [a1]).1) Y5_z0
  have sz_b6 : h0.size ≤ b6 := Nat.le_trans (Keep.refl h0 [a1]).1 Y5_z0
  have K8 : Keep h0 T5.heap [a1] := (Keep.refl h0 [a1]).trans K5 all0
  have O9 : Old Z n0 T5.heap := O0.keep K5 all0
  obtain ⟨vr10, _, ⟨T10, L10, k10, n10⟩, -, X10, ⟨Lc10, hQ10, l10, y10, z10⟩, st10⟩ := Jvm.LawKit.callS X5 hx (y := (⟨"java/lang/StringUTF16", "coderFromArrayLen", "([BI)B"⟩ : MethodName)) hown (mvT hZ (own_w hw 24 rfl)) (mvT hZ (own_w hw 25 rfl)) (mvT hZ (own_w hw 18 rfl)) (mvT hZ (own_w hw 26 rfl)) (by decide) (backOf (W := 1) (rm6n2 l Z a0 hw [] b6 k7 ([(.int (own_lb c0)), (.int (own_lb c1))]) T5.heap n0 O9 Y5_1) hZ (own_w hw 26 rfl) (own_w hw 18 rfl) (by decide) (by decide)) (g := (mkF m 45 #[.val (.ref a1), .val (.ref a2), .val (.int 0), .val (.int 2), .val .null, .val (.ref b6)] [(.int 2), (.ref b6), (.ref a1)])) rfl (by rw [hml]; rfl) (argsL := [(.ref b6), (.int 2)]) (rest := [(.ref a1)]) (lenOf pd_28 rfl) rfl (by show 2 * 0 + _ ≤ _; exact Nat.le_of_eq rfl) (d2 hby 14 rfl) (fun _ _ => ⟨rfl, rfl, (by decide : 1 + 0 ≤ _), (by decide : 2 + 0 ≤ _)⟩)
  dsimp only [Pt.U, Pt.locs, Pt.cells, Pt.slots] at X10 l10 y10 z10 st10 hQ10
  subst l10 y10 z10
  obtain ⟨rfl, N10q, e10⟩ := hQ10
  have N10 := Fr.app N5 N10q
  replace X10 := X10.more (cells' := 1) (slots' := 2) (by decide) (by decide)
  have f11 := (HE_a1.keep K5)
  have f12 := (HF_a1_coder.keep K5 nin0)
  obtain ⟨T13, h13, X13, e13, W13, st13⟩ := putFN X10 hx hZ hown (own_w hw 27 rfl) Via.refl e10 f12 f11 (Or.inr ⟨(own_w hw 28 rfl), rfl, hnm⟩) (own_w hw 2 rfl) (ty := .byte) (v' := (.int 0)) (by decide) rfl rfl (g := (mkF m 48 #[.val (.ref a1), .val (.ref a2), .val (.int 0), .val (.int 2), .val .null, .val (.ref b6)] [(.int 0), (.ref a1)])) rfl rfl (d2 hby 15 rfl)
  have N13 := Fr.snoc X13 N10 g_a1
  have K14 : Keep h0 h13 [a1] := K8.wr W13 (Or.inl (List.mem_of_getElem? (i := 0) rfl))
  have O15 : Old Z n0 h13 := O9.wr W13 g_a1
  have Fw13 : Fld Z h13 a1 "java/lang/String" "coder" "B" (.int 0) := f12.same W13
  have f16 := (f11.wr W13)
  have f17 := ((HF_a1_value.keep K5 nin0).other W13 (Or.inr (slot_ne (Or.inr (own_w hw 30 rfl)) (Or.inr (own_w hw 28 rfl)) (by decide) (t := (.array .byte)) (t' := .byte) (by decide) (by decide))))
  obtain ⟨T18, h18, X18, e18, W18, st18⟩ := putF X13 hx hZ hown (host := "") (Or.inl (own_w hw 29 rfl)) Via.refl e13 f17 f16 (Or.inr ⟨(own_w hw 30 rfl), rfl, hnm⟩) (own_w hw 2 rfl) (ty := (.array .byte)) (by decide) rfl rfl (g := (mkF m 54 #[.val (.ref a1), .val (.ref a2), .val (.int 0), .val (.int 2), .val .null, .val (.ref b6)] [(.ref b6), (.ref a1)])) rfl rfl (d2 hby 18 rfl)
  have N18 := Fr.snoc X18 N13 g_a1
  have K19 : Keep h0 h18 [a1] := K14.wr W18 (Or.inl (List.mem_of_getElem? (i := 0) rfl))
  have O20 : Old Z n0 h18 := O15.wr W18 g_a1
  have Fw18 : Fld Z h18 a1 "java/lang/String" "value" "[B" (.ref b6) := f17.same W18
  have f21 := (f16.wr W18)
  have f22 := (Fw13.other W18 (Or.inr (slot_ne (Or.inr (own_w hw 28 rfl)) (Or.inr (own_w hw 30 rfl)) (by decide) (t := .byte) (t' := (.array .byte)) (by decide) (by decide))))
  have f23 := ((Y5_0.wr W13).wr W18)
  have f24 := ((Y5_1.other W13 (Ne.symm (Nat.ne_of_lt (Nat.lt_of_lt_of_le HE_a1.lt Y5_z0)))).other W18 (Ne.symm (Nat.ne_of_lt (Nat.lt_of_lt_of_le HE_a1.lt Y5_z0))))
  refine ⟨T18, _, _, _, none, X18, by decide, by decide, fun _ => rfl, ?_, fun fs hr => castTop (ef_2aa__0___Int32____2___Int32__n m a1 a2) ?_⟩
  · show Q2n2 Z a1 a2 k0 c0 c1 zC h0 n0 _ T18.heap _
    rw [e18]
    exact ⟨b6, k7, rfl, N18, K19, sz_b6, f21, f22, Fw18, f23, f24⟩
  · show Steps p.tables e below (s₁.setTop (mkF m 0 #[.val (.ref a1), .val (.ref a2), .val (.int 0), .val (.int 2), .val .null, .unset] [])) _
    refine XS.aloadN X0.here hx rfl (d2 hby 0 rfl) rfl rfl ?_
    refine st3 _ ?_
    refine XS.iloadN X3.here hx rfl (d2 hby 2 rfl) rfl ?_
    refine XS.ifYes X3.here hx rfl (pc0 := 5) (pc' := 27) rfl (d2 hby 3 rfl) rfl ((if0 _ _).trans (feq (by decide : ¬ ((2 : Int32) = (0 : Int32)))).2) (by decide) (by decide) ?_
    refine st4 _ ?_
    refine XS.ifNo X4.here hx rfl (d2 hby 5 rfl) rfl ((if0 _ _).trans (feq hc30).1) ?_
    refine XS.aloadN X4.here hx rfl (d2 hby 6 rfl) rfl rfl ?_
    refine XS.iloadN X4.here hx rfl (d2 hby 7 rfl) rfl ?_
    refine XS.iloadN X4.here hx rfl (d2 hby 8 rfl) rfl ?_
    refine st5 _ ?_
    refine XS.astore X5.here hx rfl (d2 hby 10 rfl) rfl rfl (l' := #[.val (.ref a1), .val (.ref a2), .val (.int 0), .val (.int 2), .val .null, .val (.ref b6)]) rfl ?_
    refine XS.aloadN X5.here hx rfl (d2 hby 11 rfl) rfl rfl ?_
    refine XS.aload X5.here hx rfl (d2 hby 12 rfl) rfl rfl ?_
    refine XS.iloadN X5.here hx rfl (d2 hby 13 rfl) rfl ?_
    refine st10 _ ?_
    refine st13 _ ?_
    refine XS.aloadN X13.here hx rfl (d2 hby 16 rfl) rfl rfl ?_
    refine XS.aload X13.here hx rfl (d2 hby 17 rfl) rfl rfl ?_
    refine st18 _ ?_
    exact X18.returnOut hx hret (d2 hby 19 rfl) hr
def Q1n2 (Z : State) (a1 a2 : Addr) (k0 : ClassId) (c0 c1 zC : Int32) (h0 : Heap) (n0 : Nat) (v : Option Value) (h : Heap) (L : List Loc) : Prop := ∃ b5 : Addr, ∃ k6 : ClassId, v = none ∧ Fr n0 L ∧ Keep h0 h [a1] ∧ h0.size ≤ b5 ∧ Exa Z h a1 "java/lang/String" ∧ Fld Z h a1 "java/lang/String" "coder" "B" (.int 0) ∧ Fld Z h a1 "java/lang/String" "value" "[B" (.ref b5) ∧ Exa Z h b5 "[B" ∧ Arv Z h b5 k6 .byte (own_n [c0, c1]) (own_by [c0, c1]) (.int 0)
theorem rm1n2 (l : Launch) (Z : State) (a0 : Array Value) (hw : ∀ d ∈ tables_1, d.before a0 Z = true) (ws : List Jvm.Cond) (a1 a2 : Addr) (k0 : ClassId) (c0 c1 zC : Int32) (h0 : Heap) (n0 : Nat) (O0 : Old Z n0 h0) (HE_a1 : Exa Z h0 a1 "java/lang/String") (HF_a1_value : Fld Z h0 a1 "java/lang/String" "value" "[B" .null) (HF_a1_coder : Fld Z h0 a1 "java/lang/String" "coder" "B" (.int 0)) (HV_a2 : Arv Z h0 a2 k0 .char (2 : Int32) [(.int c0), (.int c1)] (.int 0)) (S_COMPACT_STRINGS : Sta Z Z.heap "java/lang/String" "COMPACT_STRINGS" "Z" (.int zC)) (h6_hc30 : ¬ (zC = (0 : Int32))) (h6_h36_h9_hc20 : ¬ ((255 : Int32) < c0)) (h6_h36_h9_hc20_1 : ¬ ((255 : Int32) < c1)) (g_a1 : n0 ≤ a1) :
    own_C l Z (⟨"java/lang/String", "<init>", "([C)V"⟩ : MethodName) jdk_42_method_3_code 2 none ws ({ frames := 3, cells := 1, slots := 2, locals := 52 } : Room) #[(.ref a1), (.ref a2)] h0 (Q1n2 Z a1 a2 k0 c0 c1 zC h0 n0) := by
  refine own_intro (plainFor_of_name pnc_java_lang_String) fun p e s m below meth c s₁ hx hby hml hown hnm hZ e0 hret X0 => ?_
  have N0 := Fr.nil n0
  have Z0 : n0 ≤ h0.size := O0.1 ▸ O0.2.1
  obtain ⟨cl3, Ar3, q3, S3, Nn3, Hh3, G3⟩ := id HV_a2
  obtain ⟨vr4, _, ⟨T4, L4, k4, n4⟩, -, X4, ⟨Lc4, hQ4, l4, y4, z4⟩, st4⟩ := X0.specialBack hx (y := (⟨"java/lang/String", "<init>", "([CIILjava/lang/Void;)V"⟩ : MethodName)) rfl hown (mvT hZ (own_w hw 8 rfl)) (mvT hZ (own_w hw 9 rfl)) (mvT hZ (own_w hw 11 rfl)) (by decide) (backOf (W := 0) (rm2n2 l Z a0 hw [] a1 a2 k0 c0 c1 zC h0 n0 O0 HE_a1 HF_a1_value HF_a1_coder HV_a2 S_COMPACT_STRINGS h6_hc30 h6_h36_h9_hc20 h6_h36_h9_hc20_1 g_a1) hZ (own_w hw 11 rfl) (own_w hw 3 rfl) (by decide) (by decide)) (g := (mkF m 6 #[.val (.ref a1), .val (.ref a2)] [.null, (.int 2), (.int 0), (.ref a2), (.ref a1)])) rfl (by rw [hml]; rfl) (Steps.refl _) (a := a1) (argsL := [(.ref a2), (.int 0), (.int 2), .null]) (rest := []) (lenOf pd_37 rfl) rfl (by show 2 * 0 + _ ≤ _; exact Nat.le_of_eq rfl) (d1 hby 6 rfl) (fun _ _ => ⟨rfl, e0, (by decide : 0 + 1 ≤ _), (by decide : 0 + 2 ≤ _)⟩)
  dsimp only [Pt.U, Pt.locs, Pt.cells, Pt.slots] at X4 l4 y4 z4 st4 hQ4
  subst l4 y4 z4
  obtain ⟨b5, k6, rfl, N4q, K4, Y4_z0, Y4_0, Y4_1, Y4_2, Y4_3, Y4_4⟩ := hQ4
  have N4 := Fr.app N0 N4q
  replace X4 := X4.more (cells' := 1) (slots' := 2) (by decide) (by decide)
  have g_b5 : n0 ≤ b5 := Nat.le_trans (Nat.le_trans Z0 (Keep.refl h0 [a1]).1) Y4_z0
  have sz_b5 : h0.size ≤ b5 := Nat.le_trans (Keep.refl h0 [a1]).1 Y4_z0
  have K7 : Keep h0 T4.heap [a1] := (Keep.refl h0 [a1]).trans K4 (allS (Or.inl (List.mem_of_getElem? (i := 0) rfl)) all0)
  have O8 : Old Z n0 T4.heap := O0.keep K4 (allS g_a1 all0)
  have V9 : Arv Z T4.heap b5 k6 .byte (own_n [c0, c1]) (own_by [c0, c1]) (.int 0) := by have q := Y4_4; rw [own_lbE c0, own_lbE c1] at q; exact q
  refine ⟨T4, _, _, _, none, X4, by decide, by decide, fun _ => rfl, ?_, fun fs hr => castTop (ef_1 m a1 a2) ?_⟩
  · show Q1n2 Z a1 a2 k0 c0 c1 zC h0 n0 _ T4.heap _
    exact ⟨b5, k6, rfl, N4, K7, sz_b5, Y4_0, Y4_1, Y4_2, Y4_3, V9⟩
  · show Steps p.tables e below (s₁.setTop (mkF m 0 #[.val (.ref a1), .val (.ref a2)] [])) _
    refine XS.aloadN X0.here hx rfl (d1 hby 0 rfl) rfl rfl ?_
    refine XS.aloadN X0.here hx rfl (d1 hby 1 rfl) rfl rfl ?_
    refine XS.iconst X0.here hx rfl (d1 hby 2 rfl) ?_
    refine XS.aloadN X0.here hx rfl (d1 hby 3 rfl) rfl rfl ?_
    show Steps p.tables e below (s₁.setTop (mkF m 4 #[.val (.ref a1), .val (.ref a2)] [(.ref a2), (.int 0), (.ref a2), (.ref a1)])) _
    refine X0.arraylength hx (by rw [e0]; exact Ar3.1) (State.isArrayOf_alike hZ.alike Ar3.2.1) (g := (mkF m 4 #[.val (.ref a1), .val (.ref a2)] [(.ref a2), (.int 0), (.ref a2), (.ref a1)])) rfl rfl (d1 hby 4 rfl) _ ?_
    rw [len_of S3 Nn3]
    refine XS.aconstNull X0.here hx rfl (d1 hby 5 rfl) ?_
    refine st4.trans ?_
    exact X4.returnOut hx hret (d1 hby 7 rfl) hr
def own_hs (k a b : Int32) : List Int32 := if k = (0 : Int32) then [] else if k = (1 : Int32) then [a] else [a, b]
theorem tshe {p : Program} {l : Launch} {e : Env} {s : State} {m : MethodId} {args : Array Value} {below : List Frame} {meth : Method} {c : Code} {T0 : State} {locs : List Loc} {Z : State} {a0 : Array Value} {vm0 : Vm} {k0 : Nat} (hw : ∀ d ∈ tables_1, d.before a0 Z = true) (s0 s1 s2 s3 s5 s8 s9 s10 s12 s13 s14 s15 s16 : Slot) (kl ca cb zC : Int32) (h0 : Heap) (n0 : Nat) (X0 : Stand p l e room_1 (s.setVm vm0) m args below meth c T0 locs 0 0) (N0 : Fr n0 locs) (hx : p.tables.exec = Jvm.exec) (hZ : Z.Warmed39 (s.setVm vm0).vm) (hby : c.code = code) (hml : c.maxLocals = 17) (hown : (s.setVm vm0).vm.findClass "com/example/traqt/traqt/moqt/MoqtUriToStringPinLaw" = some m.cls) (e0 : T0.heap = h0) (O0 : Old Z n0 h0) (hS0 : s.Since vm0 k0) (hk0 : k0 ≤ h0.size) (hCH : CHv Z own_EL vm0 h0) (hc88 : kl = (0 : Int32)) :
    ∃ (T' : State) (locs' : List Loc) (h' : Heap) (vm1 : Vm) (kN : Nat) (k1 : ClassId) (b1 : Addr) (t1 : Addr), Stand p l e room_1 (s.setVm vm1) m args below meth c T' locs' 2 4 ∧ Fr n0 locs' ∧ T'.heap = h' ∧ Keep h0 h' [] ∧ Exa Z h' b1 "java/lang/String" ∧ Fld Z h' b1 "java/lang/String" "coder" "B" (.int 0) ∧ Fld Z h' b1 "java/lang/String" "value" "[B" (.ref t1) ∧ Arv Z h' t1 k1 .byte (own_n own_nil) (own_by own_nil) (.int 0) ∧ s.Since vm1 kN ∧ kN ≤ h'.size ∧ Z.Warmed39 (s.setVm vm1).vm ∧ (s.setVm vm1).vm.findClass "com/example/traqt/traqt/moqt/MoqtUriToStringPinLaw" = some m.cls ∧ CHr Z own_EL vm0 h0 vm1 h' ∧
      ∀ target, Steps p.tables e below (T'.setTop (mkF m 142 #[s0, s1, s2, s3, .val (.int kl), s5, .val (.int ca), .val (.int cb), s8, s9, s10, .val (.ref b1), s12, s13, s14, s15, s16] [])) target → Steps p.tables e below (T0.setTop (mkF m 86 #[s0, s1, s2, s3, .val (.int kl), s5, .val (.int ca), .val (.int cb), s8, s9, s10, .unset, s12, s13, s14, s15, s16] [])) target := by
  have Z0 : n0 ≤ h0.size := O0.1 ▸ O0.2.1
  obtain ⟨b1, T1, h1, k1n, t1, k1, X1, e1, E1, hS1, hk1, hZ1, ho1, lE1, lC1, lV1, lA1, la1, lb1, hL1, -, hs1, st1⟩ := ldcCH X0 hx hZ hown (own_w hw 31 rfl) (fun d hd => hw d (own_strw d hd)) e0 hS0 hk0 (own_EW hw) (by decide) hCH (vs := []) (z := (0 : Int32)) ⟨by decide, by decide⟩ (by decide) (by decide) (g := (mkF m 91 #[s0, s1, s2, s3, .val (.int kl), s5, .val (.int ca), .val (.int cb), s8, s9, s10, .unset, s12, s13, s14, s15, s16] [])) rfl (hb hby at_91) (n := 0) (by decide) (by decide) (by decide) (by decide)
  have hR2 := hL1
  have ch2 := CHr.trans (CHr.refl hCH) hR2
  have K3 : Keep h0 h1 [] := (Keep.refl h0 []).ext E1
  have O4 : Old Z n0 h1 := O0.ext E1
  replace X1 := X1.more (cells' := 2) (slots' := 4) (by decide) (by decide)
  have V5 : Arv Z h1 t1 k1 .byte (own_n own_nil) (own_by own_nil) (.int 0) := lA1
  refine ⟨T1, _, _, T1.vm, _, k1, b1, t1, X1, N0, e1, K3, lE1, lC1, lV1, V5, hS1, hk1, hZ1, ho1, ch2, fun target kt => ?_⟩
  show Steps p.tables e below (T0.setTop (mkF m 86 #[s0, s1, s2, s3, .val (.int kl), s5, .val (.int ca), .val (.int cb), s8, s9, s10, .unset, s12, s13, s14, s15, s16] [])) _
  refine XS.iload X0.here hx rfl (hb hby at_86) rfl ?_
  refine XS.ifNo X0.here hx rfl (hb hby at_88) rfl ((if0 _ _).trans (teq hc88).2) ?_
  refine st1 _ ?_
  refine XS.goto X1.here hx rfl (pc0 := 93) (pc' := 140) rfl (hb hby at_93) (by decide) (by decide) ?_
  refine XS.astore X1.here hx rfl (hb hby at_140) rfl rfl (l' := #[s0, s1, s2, s3, .val (.int kl), s5, .val (.int ca), .val (.int cb), s8, s9, s10, .val (.ref b1), s12, s13, s14, s15, s16]) rfl ?_
  exact kt
theorem pd_35 : parseMethodDescriptor "([C)V" = some ⟨[(.array .char)], none⟩ := by decide +kernel
theorem tsho {p : Program} {l : Launch} {e : Env} {s : State} {m : MethodId} {args : Array Value} {below : List Frame} {meth : Method} {c : Code} {T0 : State} {locs : List Loc} {Z : State} {a0 : Array Value} {vm0 : Vm} {k0 : Nat} (hw : ∀ d ∈ tables_1, d.before a0 Z = true) (s0 s1 s2 s3 s5 s8 s9 s10 s12 s13 s14 s15 s16 : Slot) (kl ca cb zC : Int32) (h0 : Heap) (n0 : Nat) (X0 : Stand p l e room_1 (s.setVm vm0) m args below meth c T0 locs 0 0) (N0 : Fr n0 locs) (hx : p.tables.exec = Jvm.exec) (hZ : Z.Warmed39 (s.setVm vm0).vm) (hby : c.code = code) (hml : c.maxLocals = 17) (hown : (s.setVm vm0).vm.findClass "com/example/traqt/traqt/moqt/MoqtUriToStringPinLaw" = some m.cls) (e0 : T0.heap = h0) (O0 : Old Z n0 h0) (hS0 : s.Since vm0 k0) (hk0 : k0 ≤ h0.size) (hCH : CHv Z own_EL vm0 h0) (hc88 : ¬ (kl = (0 : Int32))) (hc99 : kl = (1 : Int32)) (S_COMPACT_STRINGS : Sta Z Z.heap "java/lang/String" "COMPACT_STRINGS" "Z" (.int zC)) (h114_h6_hc30 : ¬ (zC = (0 : Int32))) (h114_h6_h36_h9_hc20 : ¬ ((255 : Int32) < ca.toUInt32.toUInt16.toUInt32.toInt32)) :
    ∃ (T' : State) (locs' : List Loc) (h' : Heap) (vm1 : Vm) (kN : Nat) (b1 : Addr) (b19 : Addr) (k20 : ClassId), Stand p l e room_1 (s.setVm vm1) m args below meth c T' locs' 3 6 ∧ Fr n0 locs' ∧ T'.heap = h' ∧ Keep h0 h' [] ∧ h0.size ≤ b1 ∧ h0.size ≤ b19 ∧ b1 ≠ b19 ∧ Exa Z h' b1 "java/lang/String" ∧ Fld Z h' b1 "java/lang/String" "coder" "B" (.int 0) ∧ Fld Z h' b1 "java/lang/String" "value" "[B" (.ref b19) ∧ Arv Z h' b19 k20 .byte (own_n [ca.toUInt32.toUInt16.toUInt32.toInt32]) (own_by [ca.toUInt32.toUInt16.toUInt32.toInt32]) (.int 0) ∧ s.Since vm1 kN ∧ kN ≤ h'.size ∧ Z.Warmed39 (s.setVm vm1).vm ∧ (s.setVm vm1).vm.findClass "com/example/traqt/traqt/moqt/MoqtUriToStringPinLaw" = some m.cls ∧ CHr Z own_EL vm0 h0 vm1 h' ∧
      ∀ target, Steps p.tables e below (T'.setTop (mkF m 142 #[s0, s1, s2, s3, .val (.int kl), s5, .val (.int ca), .val (.int cb), s8, s9, s10, .val (.ref b1), s12, s13, s14, s15, s16] [])) target → Steps p.tables e below (T0.setTop (mkF m 86 #[s0, s1, s2, s3, .val (.int kl), s5, .val (.int ca), .val (.int cb), s8, s9, s10, .unset, s12, s13, s14, s15, s16] [])) target := by
  have Z0 : n0 ≤ h0.size := O0.1 ▸ O0.2.1
  obtain ⟨T1, h1, X1, e1, E1, A1, D1, -, st1⟩ := newO X0 hx hZ hown (own_w hw 1 rfl) (own_w hw 2 rfl) (own_w hw 3 rfl) e0 (g := (mkF m 102 #[s0, s1, s2, s3, .val (.int kl), s5, .val (.int ca), .val (.int cb), s8, s9, s10, .unset, s12, s13, s14, s15, s16] [])) rfl (hb hby at_102) (by decide) (by decide)
  obtain ⟨b1, g1⟩ : ∃ z, z = h0.size := ⟨_, rfl⟩
  rw [← g1] at A1 D1 st1
  have g_b1 : n0 ≤ b1 := Nat.le_trans (Nat.le_trans Z0 (Keep.refl h0 []).1) (Nat.le_of_eq g1.symm)
  have sz_b1 : h0.size ≤ b1 := Nat.le_trans (Keep.refl h0 []).1 (Nat.le_of_eq g1.symm)
  have hR2 := (CHr.ext E1 hCH)
  have sf2_b1 := (Safe.ext E1 hCH (Safe.new (Nat.le_of_eq g1.symm)))
  have ch2 := CHr.trans (CHr.refl hCH) hR2
  have K3 : Keep h0 h1 [] := (Keep.refl h0 []).ext E1
  have O4 : Old Z n0 h1 := O0.ext E1
  have F_coder_b1 : Fld Z h1 b1 "java/lang/String" "coder" "B" (.int 0) := D1 (Or.inr (own_w hw 28 rfl)) (ty := .byte) (by decide)
  have F_value_b1 : Fld Z h1 b1 "java/lang/String" "value" "[B" .null := D1 (Or.inr (own_w hw 30 rfl)) (ty := (.array .byte)) (by decide)
  replace X1 := X1.more (cells' := 1) (slots' := 4) (by decide) (by decide)
  obtain ⟨T5, h5, k5, X5, e5, E5, A5, st5⟩ := newP X1 hx hZ (own_w hw 4 rfl) e1 (g := (mkF m 107 #[s0, s1, s2, s3, .val (.int kl), s5, .val (.int ca), .val (.int cb), s8, s9, s10, .unset, s12, s13, s14, s15, s16] [(.int 1), (.ref b1), (.ref b1)])) rfl (hb hby at_107) rfl (by decide) (cap := 1) (by decide) (by decide) (by decide) (by decide)
  obtain ⟨b5, g5⟩ : ∃ z, z = h1.size := ⟨_, rfl⟩
  rw [← g5] at A5 st5
  have g_b5 : n0 ≤ b5 := Nat.le_trans (Nat.le_trans Z0 K3.1) (Nat.le_of_eq g5.symm)
  have sz_b5 : h0.size ≤ b5 := Nat.le_trans K3.1 (Nat.le_of_eq g5.symm)
  have hR6 := (CHr.ext E5 hR2.1)
  have sf6_b1 := (Safe.ext E5 hR2.1 sf2_b1)
  have sf6_b5 := (Safe.ext E5 hR2.1 (Safe.new (Nat.le_of_eq g5.symm)))
  have ch6 := CHr.trans ch2 hR6
  have K7 : Keep h0 h5 [] := K3.ext E5
  have O8 : Old Z n0 h5 := O4.ext E5
  have V5 : Arv Z h5 b5 k5 .char (1 : Int32) [(.int 0)] (.int 0) := (Arv.new A5 (by decide)).pad (pad_rep [] (.int 0) 1)
  replace X5 := X5.more (cells' := 2) (slots' := 5) (by decide) (by decide)
  obtain ⟨cl9, Ar9, q9, S9, Nn9, Hh9, G9⟩ := id V5
  have hin9 : ¬ ((0 : Int32) < 0 ∨ cl9.slots.size ≤ ((0 : Int32)).toNatClampNeg) := inb_of S9 ⟨by decide, by decide⟩
  obtain ⟨T10, h10, X10, e10, W10, st10⟩ := stC X5 hx hZ e5 Ar9 (j := (0 : Int32)) hin9 (g := (mkF m 113 #[s0, s1, s2, s3, .val (.int kl), s5, .val (.int ca), .val (.int cb), s8, s9, s10, .unset, s12, s13, s14, s15, s16] [(.int ca), (.int 0), (.ref b5), (.ref b5), (.ref b1), (.ref b1)])) rfl rfl (hb hby at_113)
  have N10 := Fr.snoc X10 N0 g_b5
  have hR11 := (CHr.wr W10 sf6_b5 hR6.1)
  have sf11_b1 := (Safe.wr W10 sf6_b5 hR6.1 sf6_b1)
  have sf11_b5 := (Safe.wr W10 sf6_b5 hR6.1 sf6_b5)
  have ch11 := CHr.trans ch6 hR11
  have K12 : Keep h0 h10 [] := K7.wr W10 (Or.inr sz_b5)
  have O13 : Old Z n0 h10 := O8.wr W10 g_b5
  have V10 : Arv Z h10 b5 k5 .char (1 : Int32) [(.int ca.toUInt32.toUInt16.toUInt32.toInt32)] (.int 0) := Arv.set Ar9 q9 S9 Nn9 Hh9 G9 (fits_nar_char _) W10 0 rfl (Nat.le_of_ble_eq_true rfl)
  have f14 := ((A1.ext E5).wr W10)
  have ne16 : b1 ≠ b5 := Nat.ne_of_lt (Nat.lt_of_lt_of_le A1.lt (Nat.le_of_eq g5.symm))
  have f15 := ((F_value_b1.ext E5).other W10 (Or.inl ne16))
  have f17 := ((F_coder_b1.ext E5).other W10 (Or.inl ne16))
  obtain ⟨vr18, _, ⟨T18, L18, k18, n18⟩, -, X18, ⟨Lc18, hQ18, l18, y18, z18⟩, st18⟩ := X10.specialBack hx (y := (⟨"java/lang/String", "<init>", "([C)V"⟩ : MethodName)) rfl hown (mvT hZ (own_w hw 5 rfl)) (mvT hZ (own_w hw 6 rfl)) (mvT hZ (own_w hw 7 rfl)) (by decide) (backOf (W := 1) (rm1n1 l Z a0 hw [] b1 b5 k5 (ca.toUInt32.toUInt16.toUInt32.toInt32) zC h10 n0 O13 f14 f15 f17 V10 S_COMPACT_STRINGS h114_h6_hc30 h114_h6_h36_h9_hc20 g_b1) hZ (own_w hw 7 rfl) (own_w hw 3 rfl) (by decide) (by decide)) (g := (mkF m 114 #[s0, s1, s2, s3, .val (.int kl), s5, .val (.int ca), .val (.int cb), s8, s9, s10, .unset, s12, s13, s14, s15, s16] [(.ref b5), (.ref b1), (.ref b1)])) rfl (by rw [hml]; rfl) (Steps.refl _) (a := b1) (argsL := [(.ref b5)]) (rest := [(.ref b1)]) (lenOf pd_35 rfl) rfl (by show 2 * 0 + _ ≤ _; exact Nat.le_of_eq rfl) (hb hby at_114) (fun _ _ => ⟨rfl, e10, (by decide : 2 + 1 ≤ _), (by decide : 5 + 1 ≤ _)⟩)
  dsimp only [Pt.U, Pt.locs, Pt.cells, Pt.slots] at X18 l18 y18 z18 st18 hQ18
  subst l18 y18 z18
  obtain ⟨b19, k20, rfl, N18q, K18, Y18_z0, Y18_0, Y18_1, Y18_2, Y18_3, Y18_4⟩ := hQ18
  have N18 := Fr.app N10 N18q
  replace X18 := X18.more (cells' := 3) (slots' := 6) (by decide) (by decide)
  have g_b19 : n0 ≤ b19 := Nat.le_trans (Nat.le_trans Z0 K12.1) Y18_z0
  have sz_b19 : h0.size ≤ b19 := Nat.le_trans K12.1 Y18_z0
  have hR21 := (CHr.keep K18 (sfS sf11_b1 sf0) hR11.1)
  have sf21_b1 := (Safe.keep K18 (sfS sf11_b1 sf0) hR11.1 sf11_b1)
  have sf21_b5 := (Safe.keep K18 (sfS sf11_b1 sf0) hR11.1 sf11_b5)
  have sf21_b19 := (Safe.keep K18 (sfS sf11_b1 sf0) hR11.1 (Safe.new Y18_z0))
  have ch21 := CHr.trans ch11 hR21
  have K22 : Keep h0 T18.heap [] := K12.trans K18 (allS (Or.inr sz_b1) all0)
  have O23 : Old Z n0 T18.heap := O13.keep K18 (allS g_b1 all0)
  refine ⟨T18, _, _, vm0, _, b1, b19, k20, X18, N18, rfl, K22, sz_b1, sz_b19, (Nat.ne_of_lt (Nat.lt_of_lt_of_le (Nat.lt_of_lt_of_le A1.lt (Nat.le_trans E5.1 (Keep.of_wr W10).1)) Y18_z0)), Y18_0, Y18_1, Y18_2, Y18_4, hS0, (Nat.le_trans hk0 (Nat.le_trans (Nat.le_trans (Nat.le_trans E1.1 E5.1) (Keep.of_wr W10).1) K18.1)), hZ, hown, ch21, fun target kt => ?_⟩
  show Steps p.tables e below (T0.setTop (mkF m 86 #[s0, s1, s2, s3, .val (.int kl), s5, .val (.int ca), .val (.int cb), s8, s9, s10, .unset, s12, s13, s14, s15, s16] [])) _
  refine XS.iload X0.here hx rfl (hb hby at_86) rfl ?_
  refine XS.ifYes X0.here hx rfl (pc0 := 88) (pc' := 96) rfl (hb hby at_88) rfl ((if0 _ _).trans (feq hc88).2) (by decide) (by decide) ?_
  refine XS.iload X0.here hx rfl (hb hby at_96) rfl ?_
  refine XS.iconst X0.here hx rfl (hb hby at_98) ?_
  refine XS.icmpNo X0.here hx rfl (hb hby at_99) rfl (teq hc99).2 ?_
  refine st1 _ ?_
  refine XS.dup X1.here hx rfl (hb hby at_105) rfl rfl ?_
  refine XS.iconst X1.here hx rfl (hb hby at_106) ?_
  refine st5 _ ?_
  refine XS.dup X5.here hx rfl (hb hby at_109) rfl rfl ?_
  refine XS.iconst X5.here hx rfl (hb hby at_110) ?_
  refine XS.iload X5.here hx rfl (hb hby at_111) rfl ?_
  refine st10 _ ?_
  refine st18.trans ?_
  refine XS.goto X18.here hx rfl (pc0 := 117) (pc' := 140) rfl (hb hby at_117) (by decide) (by decide) ?_
  refine XS.astore X18.here hx rfl (hb hby at_140) rfl rfl (l' := #[s0, s1, s2, s3, .val (.int kl), s5, .val (.int ca), .val (.int cb), s8, s9, s10, .val (.ref b1), s12, s13, s14, s15, s16]) rfl ?_
  exact kt
theorem tshw {p : Program} {l : Launch} {e : Env} {s : State} {m : MethodId} {args : Array Value} {below : List Frame} {meth : Method} {c : Code} {T0 : State} {locs : List Loc} {Z : State} {a0 : Array Value} {vm0 : Vm} {k0 : Nat} (hw : ∀ d ∈ tables_1, d.before a0 Z = true) (s0 s1 s2 s3 s5 s8 s9 s10 s12 s13 s14 s15 s16 : Slot) (kl ca cb zC : Int32) (h0 : Heap) (n0 : Nat) (X0 : Stand p l e room_1 (s.setVm vm0) m args below meth c T0 locs 0 0) (N0 : Fr n0 locs) (hx : p.tables.exec = Jvm.exec) (hZ : Z.Warmed39 (s.setVm vm0).vm) (hby : c.code = code) (hml : c.maxLocals = 17) (hown : (s.setVm vm0).vm.findClass "com/example/traqt/traqt/moqt/MoqtUriToStringPinLaw" = some m.cls) (e0 : T0.heap = h0) (O0 : Old Z n0 h0) (hS0 : s.Since vm0 k0) (hk0 : k0 ≤ h0.size) (hCH : CHv Z own_EL vm0 h0) (hc88 : ¬ (kl = (0 : Int32))) (hc99 : ¬ (kl = (1 : Int32))) (S_COMPACT_STRINGS : Sta Z Z.heap "java/lang/String" "COMPACT_STRINGS" "Z" (.int zC)) (h137_h6_hc30 : ¬ (zC = (0 : Int32))) (h137_h6_h36_h9_hc20 : ¬ ((255 : Int32) < ca.toUInt32.toUInt16.toUInt32.toInt32)) (h137_h6_h36_h9_hc20_1 : ¬ ((255 : Int32) < cb.toUInt32.toUInt16.toUInt32.toInt32)) :
    ∃ (T' : State) (locs' : List Loc) (h' : Heap) (vm1 : Vm) (kN : Nat) (b1 : Addr) (b24 : Addr) (k25 : ClassId), Stand p l e room_1 (s.setVm vm1) m args below meth c T' locs' 3 8 ∧ Fr n0 locs' ∧ T'.heap = h' ∧ Keep h0 h' [] ∧ h0.size ≤ b1 ∧ h0.size ≤ b24 ∧ b1 ≠ b24 ∧ Exa Z h' b1 "java/lang/String" ∧ Fld Z h' b1 "java/lang/String" "coder" "B" (.int 0) ∧ Fld Z h' b1 "java/lang/String" "value" "[B" (.ref b24) ∧ Arv Z h' b24 k25 .byte (own_n [ca.toUInt32.toUInt16.toUInt32.toInt32, cb.toUInt32.toUInt16.toUInt32.toInt32]) (own_by [ca.toUInt32.toUInt16.toUInt32.toInt32, cb.toUInt32.toUInt16.toUInt32.toInt32]) (.int 0) ∧ s.Since vm1 kN ∧ kN ≤ h'.size ∧ Z.Warmed39 (s.setVm vm1).vm ∧ (s.setVm vm1).vm.findClass "com/example/traqt/traqt/moqt/MoqtUriToStringPinLaw" = some m.cls ∧ CHr Z own_EL vm0 h0 vm1 h' ∧
      ∀ target, Steps p.tables e below (T'.setTop (mkF m 142 #[s0, s1, s2, s3, .val (.int kl), s5, .val (.int ca), .val (.int cb), s8, s9, s10, .val (.ref b1), s12, s13, s14, s15, s16] [])) target → Steps p.tables e below (T0.setTop (mkF m 86 #[s0, s1, s2, s3, .val (.int kl), s5, .val (.int ca), .val (.int cb), s8, s9, s10, .unset, s12, s13, s14, s15, s16] [])) target := by
  have Z0 : n0 ≤ h0.size := O0.1 ▸ O0.2.1
  obtain ⟨T1, h1, X1, e1, E1, A1, D1, -, st1⟩ := newO X0 hx hZ hown (own_w hw 1 rfl) (own_w hw 2 rfl) (own_w hw 3 rfl) e0 (g := (mkF m 120 #[s0, s1, s2, s3, .val (.int kl), s5, .val (.int ca), .val (.int cb), s8, s9, s10, .unset, s12, s13, s14, s15, s16] [])) rfl (hb hby at_120) (by decide) (by decide)
  obtain ⟨b1, g1⟩ : ∃ z, z = h0.size := ⟨_, rfl⟩
  rw [← g1] at A1 D1 st1
  have g_b1 : n0 ≤ b1 := Nat.le_trans (Nat.le_trans Z0 (Keep.refl h0 []).1) (Nat.le_of_eq g1.symm)
  have sz_b1 : h0.size ≤ b1 := Nat.le_trans (Keep.refl h0 []).1 (Nat.le_of_eq g1.symm)
  have hR2 := (CHr.ext E1 hCH)
  have sf2_b1 := (Safe.ext E1 hCH (Safe.new (Nat.le_of_eq g1.symm)))
  have ch2 := CHr.trans (CHr.refl hCH) hR2
  have K3 : Keep h0 h1 [] := (Keep.refl h0 []).ext E1
  have O4 : Old Z n0 h1 := O0.ext E1
  have F_coder_b1 : Fld Z h1 b1 "java/lang/String" "coder" "B" (.int 0) := D1 (Or.inr (own_w hw 28 rfl)) (ty := .byte) (by decide)
  have F_value_b1 : Fld Z h1 b1 "java/lang/String" "value" "[B" .null := D1 (Or.inr (own_w hw 30 rfl)) (ty := (.array .byte)) (by decide)
  replace X1 := X1.more (cells' := 1) (slots' := 4) (by decide) (by decide)
  obtain ⟨T5, h5, k5, X5, e5, E5, A5, st5⟩ := newP X1 hx hZ (own_w hw 4 rfl) e1 (g := (mkF m 125 #[s0, s1, s2, s3, .val (.int kl), s5, .val (.int ca), .val (.int cb), s8, s9, s10, .unset, s12, s13, s14, s15, s16] [(.int 2), (.ref b1), (.ref b1)])) rfl (hb hby at_125) rfl (by decide) (cap := 2) (by decide) (by decide) (by decide) (by decide)
  obtain ⟨b5, g5⟩ : ∃ z, z = h1.size := ⟨_, rfl⟩
  rw [← g5] at A5 st5
  have g_b5 : n0 ≤ b5 := Nat.le_trans (Nat.le_trans Z0 K3.1) (Nat.le_of_eq g5.symm)
  have sz_b5 : h0.size ≤ b5 := Nat.le_trans K3.1 (Nat.le_of_eq g5.symm)
  have hR6 := (CHr.ext E5 hR2.1)
  have sf6_b1 := (Safe.ext E5 hR2.1 sf2_b1)
  have sf6_b5 := (Safe.ext E5 hR2.1 (Safe.new (Nat.le_of_eq g5.symm)))
  have ch6 := CHr.trans ch2 hR6
  have K7 : Keep h0 h5 [] := K3.ext E5
  have O8 : Old Z n0 h5 := O4.ext E5
  have V5 : Arv Z h5 b5 k5 .char (2 : Int32) [(.int 0), (.int 0)] (.int 0) := (Arv.new A5 (by decide)).pad (pad_rep [] (.int 0) 2)
  replace X5 := X5.more (cells' := 2) (slots' := 6) (by decide) (by decide)
  obtain ⟨cl9, Ar9, q9, S9, Nn9, Hh9, G9⟩ := id V5
  have hin9 : ¬ ((0 : Int32) < 0 ∨ cl9.slots.size ≤ ((0 : Int32)).toNatClampNeg) := inb_of S9 ⟨by decide, by decide⟩
  obtain ⟨T10, h10, X10, e10, W10, st10⟩ := stC X5 hx hZ e5 Ar9 (j := (0 : Int32)) hin9 (g := (mkF m 131 #[s0, s1, s2, s3, .val (.int kl), s5, .val (.int ca), .val (.int cb), s8, s9, s10, .unset, s12, s13, s14, s15, s16] [(.int ca), (.int 0), (.ref b5), (.ref b5), (.ref b1), (.ref b1)])) rfl rfl (hb hby at_131)
  have N10 := Fr.snoc X10 N0 g_b5
  have hR11 := (CHr.wr W10 sf6_b5 hR6.1)
  have sf11_b1 := (Safe.wr W10 sf6_b5 hR6.1 sf6_b1)
  have sf11_b5 := (Safe.wr W10 sf6_b5 hR6.1 sf6_b5)
  have ch11 := CHr.trans ch6 hR11
  have K12 : Keep h0 h10 [] := K7.wr W10 (Or.inr sz_b5)
  have O13 : Old Z n0 h10 := O8.wr W10 g_b5
  have V10 : Arv Z h10 b5 k5 .char (2 : Int32) [(.int ca.toUInt32.toUInt16.toUInt32.toInt32), (.int 0)] (.int 0) := Arv.set Ar9 q9 S9 Nn9 Hh9 G9 (fits_nar_char _) W10 0 rfl (Nat.le_of_ble_eq_true rfl)
  obtain ⟨cl14, Ar14, q14, S14, Nn14, Hh14, G14⟩ := id V10
  have hin14 : ¬ ((1 : Int32) < 0 ∨ cl14.slots.size ≤ ((1 : Int32)).toNatClampNeg) := inb_of S14 ⟨by decide, by decide⟩
  obtain ⟨T15, h15, X15, e15, W15, st15⟩ := stC X10 hx hZ e10 Ar14 (j := (1 : Int32)) hin14 (g := (mkF m 136 #[s0, s1, s2, s3, .val (.int kl), s5, .val (.int ca), .val (.int cb), s8, s9, s10, .unset, s12, s13, s14, s15, s16] [(.int cb), (.int 1), (.ref b5), (.ref b5), (.ref b1), (.ref b1)])) rfl rfl (hb hby at_136)
  have N15 := Fr.snoc X15 N10 g_b5
  have hR16 := (CHr.wr W15 sf11_b5 hR11.1)
  have sf16_b1 := (Safe.wr W15 sf11_b5 hR11.1 sf11_b1)
  have sf16_b5 := (Safe.wr W15 sf11_b5 hR11.1 sf11_b5)
  have ch16 := CHr.trans ch11 hR16
  have K17 : Keep h0 h15 [] := K12.wr W15 (Or.inr sz_b5)
  have O18 : Old Z n0 h15 := O13.wr W15 g_b5
  have V15 : Arv Z h15 b5 k5 .char (2 : Int32) [(.int ca.toUInt32.toUInt16.toUInt32.toInt32), (.int cb.toUInt32.toUInt16.toUInt32.toInt32)] (.int 0) := Arv.set Ar14 q14 S14 Nn14 Hh14 G14 (fits_nar_char _) W15 1 rfl (Nat.le_of_ble_eq_true rfl)
  have f19 := (((A1.ext E5).wr W10).wr W15)
  have ne21 : b1 ≠ b5 := Nat.ne_of_lt (Nat.lt_of_lt_of_le A1.lt (Nat.le_of_eq g5.symm))
  have f20 := (((F_value_b1.ext E5).other W10 (Or.inl ne21)).other W15 (Or.inl ne21))
  have f22 := (((F_coder_b1.ext E5).other W10 (Or.inl ne21)).other W15 (Or.inl ne21))
  obtain ⟨vr23, _, ⟨T23, L23, k23, n23⟩, -, X23, ⟨Lc23, hQ23, l23, y23, z23⟩, st23⟩ := X15.specialBack hx (y := (⟨"java/lang/String", "<init>", "([C)V"⟩ : MethodName)) rfl hown (mvT hZ (own_w hw 5 rfl)) (mvT hZ (own_w hw 6 rfl)) (mvT hZ (own_w hw 7 rfl)) (by decide) (backOf (W := 1) (rm1n2 l Z a0 hw [] b1 b5 k5 (ca.toUInt32.toUInt16.toUInt32.toInt32) (cb.toUInt32.toUInt16.toUInt32.toInt32) zC h15 n0 O18 f19 f20 f22 V15 S_COMPACT_STRINGS h137_h6_hc30 h137_h6_h36_h9_hc20 h137_h6_h36_h9_hc20_1 g_b1) hZ (own_w hw 7 rfl) (own_w hw 3 rfl) (by decide) (by decide)) (g := (mkF m 137 #[s0, s1, s2, s3, .val (.int kl), s5, .val (.int ca), .val (.int cb), s8, s9, s10, .unset, s12, s13, s14, s15, s16] [(.ref b5), (.ref b1), (.ref b1)])) rfl (by rw [hml]; rfl) (Steps.refl _) (a := b1) (argsL := [(.ref b5)]) (rest := [(.ref b1)]) (lenOf pd_35 rfl) rfl (by show 2 * 0 + _ ≤ _; exact Nat.le_of_eq rfl) (hb hby at_137) (fun _ _ => ⟨rfl, e15, (by decide : 2 + 1 ≤ _), (by decide : 6 + 2 ≤ _)⟩)
  dsimp only [Pt.U, Pt.locs, Pt.cells, Pt.slots] at X23 l23 y23 z23 st23 hQ23
  subst l23 y23 z23
  obtain ⟨b24, k25, rfl, N23q, K23, Y23_z0, Y23_0, Y23_1, Y23_2, Y23_3, Y23_4⟩ := hQ23
  have N23 := Fr.app N15 N23q
  replace X23 := X23.more (cells' := 3) (slots' := 8) (by decide) (by decide)
  have g_b24 : n0 ≤ b24 := Nat.le_trans (Nat.le_trans Z0 K17.1) Y23_z0
  have sz_b24 : h0.size ≤ b24 := Nat.le_trans K17.1 Y23_z0
  have hR26 := (CHr.keep K23 (sfS sf16_b1 sf0) hR16.1)
  have sf26_b1 := (Safe.keep K23 (sfS sf16_b1 sf0) hR16.1 sf16_b1)
  have sf26_b5 := (Safe.keep K23 (sfS sf16_b1 sf0) hR16.1 sf16_b5)
  have sf26_b24 := (Safe.keep K23 (sfS sf16_b1 sf0) hR16.1 (Safe.new Y23_z0))
  have ch26 := CHr.trans ch16 hR26
  have K27 : Keep h0 T23.heap [] := K17.trans K23 (allS (Or.inr sz_b1) all0)
  have O28 : Old Z n0 T23.heap := O18.keep K23 (allS g_b1 all0)
  refine ⟨T23, _, _, vm0, _, b1, b24, k25, X23, N23, rfl, K27, sz_b1, sz_b24, (Nat.ne_of_lt (Nat.lt_of_lt_of_le (Nat.lt_of_lt_of_le A1.lt (Nat.le_trans (Nat.le_trans E5.1 (Keep.of_wr W10).1) (Keep.of_wr W15).1)) Y23_z0)), Y23_0, Y23_1, Y23_2, Y23_4, hS0, (Nat.le_trans hk0 (Nat.le_trans (Nat.le_trans (Nat.le_trans (Nat.le_trans E1.1 E5.1) (Keep.of_wr W10).1) (Keep.of_wr W15).1) K23.1)), hZ, hown, ch26, fun target kt => ?_⟩
  show Steps p.tables e below (T0.setTop (mkF m 86 #[s0, s1, s2, s3, .val (.int kl), s5, .val (.int ca), .val (.int cb), s8, s9, s10, .unset, s12, s13, s14, s15, s16] [])) _
  refine XS.iload X0.here hx rfl (hb hby at_86) rfl ?_
  refine XS.ifYes X0.here hx rfl (pc0 := 88) (pc' := 96) rfl (hb hby at_88) rfl ((if0 _ _).trans (feq hc88).2) (by decide) (by decide) ?_
  refine XS.iload X0.here hx rfl (hb hby at_96) rfl ?_
  refine XS.iconst X0.here hx rfl (hb hby at_98) ?_
  refine XS.icmpYes X0.here hx rfl (pc0 := 99) (pc' := 120) rfl (hb hby at_99) rfl (feq hc99).2 (by decide) (by decide) ?_
  refine st1 _ ?_
  refine XS.dup X1.here hx rfl (hb hby at_123) rfl rfl ?_
  refine XS.iconst X1.here hx rfl (hb hby at_124) ?_
  refine st5 _ ?_
  refine XS.dup X5.here hx rfl (hb hby at_127) rfl rfl ?_
  refine XS.iconst X5.here hx rfl (hb hby at_128) ?_
  refine XS.iload X5.here hx rfl (hb hby at_129) rfl ?_
  refine st10 _ ?_
  refine XS.dup X10.here hx rfl (hb hby at_132) rfl rfl ?_
  refine XS.iconst X10.here hx rfl (hb hby at_133) ?_
  refine XS.iload X10.here hx rfl (hb hby at_134) rfl ?_
  refine st15 _ ?_
  refine st23.trans ?_
  refine XS.astore X23.here hx rfl (hb hby at_140) rfl rfl (l' := #[s0, s1, s2, s3, .val (.int kl), s5, .val (.int ca), .val (.int cb), s8, s9, s10, .val (.ref b1), s12, s13, s14, s15, s16]) rfl ?_
  exact kt
theorem tsh {p : Program} {l : Launch} {e : Env} {s : State} {m : MethodId} {args : Array Value} {below : List Frame} {meth : Method} {c : Code} {T0 : State} {locs : List Loc} {Z : State} {a0 : Array Value} {vm0 : Vm} {k0 : Nat} (hw : ∀ d ∈ tables_1, d.before a0 Z = true) (s0 s1 s2 s3 s5 s8 s9 s10 s12 s13 s14 s15 s16 : Slot) (kl ca cb zC : Int32) (hs : List Int32) (h0 : Heap) (n0 : Nat) (X0 : Stand p l e room_1 (s.setVm vm0) m args below meth c T0 locs 0 0) (N0 : Fr n0 locs) (hx : p.tables.exec = Jvm.exec) (hZ : Z.Warmed39 (s.setVm vm0).vm) (hby : c.code = code) (hml : c.maxLocals = 17) (hown : (s.setVm vm0).vm.findClass "com/example/traqt/traqt/moqt/MoqtUriToStringPinLaw" = some m.cls) (e0 : T0.heap = h0) (O0 : Old Z n0 h0) (hS0 : s.Since vm0 k0) (hk0 : k0 ≤ h0.size) (hCH : CHv Z own_EL vm0 h0) (S_COMPACT_STRINGS : Sta Z Z.heap "java/lang/String" "COMPACT_STRINGS" "Z" (.int zC)) (hz : ¬ (zC = (0 : Int32))) (hhs : hs = (own_hs kl ca cb)) (hca : ca.toUInt32.toUInt16.toUInt32.toInt32 = ca) (hcb : cb.toUInt32.toUInt16.toUInt32.toInt32 = cb) (ha2 : ¬ ((255 : Int32) < ca)) (hb2 : ¬ ((255 : Int32) < cb)) :
    ∃ (T' : State) (locs' : List Loc) (h' : Heap) (vm1 : Vm) (kN : Nat) (k : ClassId) (x : Addr) (t : Addr), Stand p l e room_1 (s.setVm vm1) m args below meth c T' locs' 3 8 ∧ Fr n0 locs' ∧ T'.heap = h' ∧ Keep h0 h' [] ∧ Exa Z h' x "java/lang/String" ∧ Fld Z h' x "java/lang/String" "coder" "B" (.int 0) ∧ Fld Z h' x "java/lang/String" "value" "[B" (.ref t) ∧ Arv Z h' t k .byte (own_n hs) (own_by hs) (.int 0) ∧ s.Since vm1 kN ∧ kN ≤ h'.size ∧ Z.Warmed39 (s.setVm vm1).vm ∧ (s.setVm vm1).vm.findClass "com/example/traqt/traqt/moqt/MoqtUriToStringPinLaw" = some m.cls ∧ CHr Z own_EL vm0 h0 vm1 h' ∧
      ∀ target, Steps p.tables e below (T'.setTop (mkF m 142 #[s0, s1, s2, s3, .val (.int kl), s5, .val (.int ca), .val (.int cb), s8, s9, s10, .val (.ref x), s12, s13, s14, s15, s16] [])) target → Steps p.tables e below (T0.setTop (mkF m 86 #[s0, s1, s2, s3, .val (.int kl), s5, .val (.int ca), .val (.int cb), s8, s9, s10, .unset, s12, s13, s14, s15, s16] [])) target := by
  by_cases c0 : kl = (0 : Int32)
  · obtain ⟨T', L', h', vm1, k1, kk, b, t, X, N, E, K, Y0, Y1, Y2, Y3, hS, hk, hz1, ho1, hR, st⟩ := tshe hw s0 s1 s2 s3 s5 s8 s9 s10 s12 s13 s14 s15 s16 kl ca cb zC h0 n0 X0 N0 hx hZ hby hml hown e0 O0 hS0 hk0 hCH c0
    obtain rfl : hs = own_nil := by rw [hhs, own_hs, if_pos c0]; rfl
    exact ⟨T', L', h', vm1, k1, kk, b, t, X.more (by decide) (by decide), N, E, K, Y0, Y1, Y2, Y3, hS, hk, hz1, ho1, hR, st⟩
  by_cases c1 : kl = (1 : Int32)
  · obtain ⟨T', L', h', vm1, k1, b, t, kk, X, N, E, K, z0, z1, z2, Y0, Y1, Y2, Y3, hS, hk, hz1, ho1, hR, st⟩ := tsho hw s0 s1 s2 s3 s5 s8 s9 s10 s12 s13 s14 s15 s16 kl ca cb zC h0 n0 X0 N0 hx hZ hby hml hown e0 O0 hS0 hk0 hCH c0 c1 S_COMPACT_STRINGS hz (by rw [hca]; exact ha2)
    rw [hca] at Y3
    obtain rfl : hs = [ca] := by rw [hhs, own_hs, if_neg c0, if_pos c1]
    exact ⟨T', L', h', vm1, k1, kk, b, t, X.more (by decide) (by decide), N, E, K, Y0, Y1, Y2, Y3, hS, hk, hz1, ho1, hR, st⟩
  · obtain ⟨T', L', h', vm1, k1, b, t, kk, X, N, E, K, z0, z1, z2, Y0, Y1, Y2, Y3, hS, hk, hz1, ho1, hR, st⟩ := tshw hw s0 s1 s2 s3 s5 s8 s9 s10 s12 s13 s14 s15 s16 kl ca cb zC h0 n0 X0 N0 hx hZ hby hml hown e0 O0 hS0 hk0 hCH c0 c1 S_COMPACT_STRINGS hz (by rw [hca]; exact ha2) (by rw [hcb]; exact hb2)
    rw [hca, hcb] at Y3
    obtain rfl : hs = [ca, cb] := by rw [hhs, own_hs, if_neg c0, if_neg c1]
    exact ⟨T', L', h', vm1, k1, kk, b, t, X.more (by decide) (by decide), N, E, K, Y0, Y1, Y2, Y3, hS, hk, hz1, ho1, hR, st⟩
theorem tspe {p : Program} {l : Launch} {e : Env} {s : State} {m : MethodId} {args : Array Value} {below : List Frame} {meth : Method} {c : Code} {T0 : State} {locs : List Loc} {Z : State} {a0 : Array Value} {vm0 : Vm} {k0 : Nat} (hw : ∀ d ∈ tables_1, d.before a0 Z = true) (s0 s1 s2 s3 s4 s6 s7 s10 s11 s13 s14 s15 s16 : Slot) (kl ca cb zC : Int32) (h0 : Heap) (n0 : Nat) (X0 : Stand p l e room_1 (s.setVm vm0) m args below meth c T0 locs 3 8) (N0 : Fr n0 locs) (hx : p.tables.exec = Jvm.exec) (hZ : Z.Warmed39 (s.setVm vm0).vm) (hby : c.code = code) (hml : c.maxLocals = 17) (hown : (s.setVm vm0).vm.findClass "com/example/traqt/traqt/moqt/MoqtUriToStringPinLaw" = some m.cls) (e0 : T0.heap = h0) (O0 : Old Z n0 h0) (hS0 : s.Since vm0 k0) (hk0 : k0 ≤ h0.size) (hCH : CHv Z own_EL vm0 h0) (hc144 : kl = (0 : Int32)) :
    ∃ (T' : State) (locs' : List Loc) (h' : Heap) (vm1 : Vm) (kN : Nat) (k1 : ClassId) (b1 : Addr) (t1 : Addr), Stand p l e room_1 (s.setVm vm1) m args below meth c T' locs' 5 12 ∧ Fr n0 locs' ∧ T'.heap = h' ∧ Keep h0 h' [] ∧ Exa Z h' b1 "java/lang/String" ∧ Fld Z h' b1 "java/lang/String" "coder" "B" (.int 0) ∧ Fld Z h' b1 "java/lang/String" "value" "[B" (.ref t1) ∧ Arv Z h' t1 k1 .byte (own_n own_nil) (own_by own_nil) (.int 0) ∧ s.Since vm1 kN ∧ kN ≤ h'.size ∧ Z.Warmed39 (s.setVm vm1).vm ∧ (s.setVm vm1).vm.findClass "com/example/traqt/traqt/moqt/MoqtUriToStringPinLaw" = some m.cls ∧ CHr Z own_EL vm0 h0 vm1 h' ∧
      ∀ target, Steps p.tables e below (T'.setTop (mkF m 198 #[s0, s1, s2, s3, s4, .val (.int kl), s6, s7, .val (.int ca), .val (.int cb), s10, s11, .val (.ref b1), s13, s14, s15, s16] [])) target → Steps p.tables e below (T0.setTop (mkF m 142 #[s0, s1, s2, s3, s4, .val (.int kl), s6, s7, .val (.int ca), .val (.int cb), s10, s11, .unset, s13, s14, s15, s16] [])) target := by
  have Z0 : n0 ≤ h0.size := O0.1 ▸ O0.2.1
  obtain ⟨b1, T1, h1, k1n, t1, k1, X1, e1, E1, hS1, hk1, hZ1, ho1, lE1, lC1, lV1, lA1, la1, lb1, hL1, -, hs1, st1⟩ := ldcCH X0 hx hZ hown (own_w hw 31 rfl) (fun d hd => hw d (own_strw d hd)) e0 hS0 hk0 (own_EW hw) (by decide) hCH (vs := []) (z := (0 : Int32)) ⟨by decide, by decide⟩ (by decide) (by decide) (g := (mkF m 147 #[s0, s1, s2, s3, s4, .val (.int kl), s6, s7, .val (.int ca), .val (.int cb), s10, s11, .unset, s13, s14, s15, s16] [])) rfl (hb hby at_147) (n := 0) (by decide) (by decide) (by decide) (by decide)
  have hR2 := hL1
  have ch2 := CHr.trans (CHr.refl hCH) hR2
  have K3 : Keep h0 h1 [] := (Keep.refl h0 []).ext E1
  have O4 : Old Z n0 h1 := O0.ext E1
  replace X1 := X1.more (cells' := 5) (slots' := 12) (by decide) (by decide)
  have V5 : Arv Z h1 t1 k1 .byte (own_n own_nil) (own_by own_nil) (.int 0) := lA1
  refine ⟨T1, _, _, T1.vm, _, k1, b1, t1, X1, N0, e1, K3, lE1, lC1, lV1, V5, hS1, hk1, hZ1, ho1, ch2, fun target kt => ?_⟩
  show Steps p.tables e below (T0.setTop (mkF m 142 #[s0, s1, s2, s3, s4, .val (.int kl), s6, s7, .val (.int ca), .val (.int cb), s10, s11, .unset, s13, s14, s15, s16] [])) _
  refine XS.iload X0.here hx rfl (hb hby at_142) rfl ?_
  refine XS.ifNo X0.here hx rfl (hb hby at_144) rfl ((if0 _ _).trans (teq hc144).2) ?_
  refine st1 _ ?_
  refine XS.goto X1.here hx rfl (pc0 := 149) (pc' := 196) rfl (hb hby at_149) (by decide) (by decide) ?_
  refine XS.astore X1.here hx rfl (hb hby at_196) rfl rfl (l' := #[s0, s1, s2, s3, s4, .val (.int kl), s6, s7, .val (.int ca), .val (.int cb), s10, s11, .val (.ref b1), s13, s14, s15, s16]) rfl ?_
  exact kt
theorem tspo {p : Program} {l : Launch} {e : Env} {s : State} {m : MethodId} {args : Array Value} {below : List Frame} {meth : Method} {c : Code} {T0 : State} {locs : List Loc} {Z : State} {a0 : Array Value} {vm0 : Vm} {k0 : Nat} (hw : ∀ d ∈ tables_1, d.before a0 Z = true) (s0 s1 s2 s3 s4 s6 s7 s10 s11 s13 s14 s15 s16 : Slot) (kl ca cb zC : Int32) (h0 : Heap) (n0 : Nat) (X0 : Stand p l e room_1 (s.setVm vm0) m args below meth c T0 locs 3 8) (N0 : Fr n0 locs) (hx : p.tables.exec = Jvm.exec) (hZ : Z.Warmed39 (s.setVm vm0).vm) (hby : c.code = code) (hml : c.maxLocals = 17) (hown : (s.setVm vm0).vm.findClass "com/example/traqt/traqt/moqt/MoqtUriToStringPinLaw" = some m.cls) (e0 : T0.heap = h0) (O0 : Old Z n0 h0) (hS0 : s.Since vm0 k0) (hk0 : k0 ≤ h0.size) (hCH : CHv Z own_EL vm0 h0) (hc144 : ¬ (kl = (0 : Int32))) (hc155 : kl = (1 : Int32)) (S_COMPACT_STRINGS : Sta Z Z.heap "java/lang/String" "COMPACT_STRINGS" "Z" (.int zC)) (h170_h6_hc30 : ¬ (zC = (0 : Int32))) (h170_h6_h36_h9_hc20 : ¬ ((255 : Int32) < ca.toUInt32.toUInt16.toUInt32.toInt32)) :
    ∃ (T' : State) (locs' : List Loc) (h' : Heap) (vm1 : Vm) (kN : Nat) (b1 : Addr) (b19 : Addr) (k20 : ClassId), Stand p l e room_1 (s.setVm vm1) m args below meth c T' locs' 6 14 ∧ Fr n0 locs' ∧ T'.heap = h' ∧ Keep h0 h' [] ∧ h0.size ≤ b1 ∧ h0.size ≤ b19 ∧ b1 ≠ b19 ∧ Exa Z h' b1 "java/lang/String" ∧ Fld Z h' b1 "java/lang/String" "coder" "B" (.int 0) ∧ Fld Z h' b1 "java/lang/String" "value" "[B" (.ref b19) ∧ Arv Z h' b19 k20 .byte (own_n [ca.toUInt32.toUInt16.toUInt32.toInt32]) (own_by [ca.toUInt32.toUInt16.toUInt32.toInt32]) (.int 0) ∧ s.Since vm1 kN ∧ kN ≤ h'.size ∧ Z.Warmed39 (s.setVm vm1).vm ∧ (s.setVm vm1).vm.findClass "com/example/traqt/traqt/moqt/MoqtUriToStringPinLaw" = some m.cls ∧ CHr Z own_EL vm0 h0 vm1 h' ∧
      ∀ target, Steps p.tables e below (T'.setTop (mkF m 198 #[s0, s1, s2, s3, s4, .val (.int kl), s6, s7, .val (.int ca), .val (.int cb), s10, s11, .val (.ref b1), s13, s14, s15, s16] [])) target → Steps p.tables e below (T0.setTop (mkF m 142 #[s0, s1, s2, s3, s4, .val (.int kl), s6, s7, .val (.int ca), .val (.int cb), s10, s11, .unset, s13, s14, s15, s16] [])) target := by
  have Z0 : n0 ≤ h0.size := O0.1 ▸ O0.2.1
  obtain ⟨T1, h1, X1, e1, E1, A1, D1, -, st1⟩ := newO X0 hx hZ hown (own_w hw 1 rfl) (own_w hw 2 rfl) (own_w hw 3 rfl) e0 (g := (mkF m 158 #[s0, s1, s2, s3, s4, .val (.int kl), s6, s7, .val (.int ca), .val (.int cb), s10, s11, .unset, s13, s14, s15, s16] [])) rfl (hb hby at_158) (by decide) (by decide)
  obtain ⟨b1, g1⟩ : ∃ z, z = h0.size := ⟨_, rfl⟩
  rw [← g1] at A1 D1 st1
  have g_b1 : n0 ≤ b1 := Nat.le_trans (Nat.le_trans Z0 (Keep.refl h0 []).1) (Nat.le_of_eq g1.symm)
  have sz_b1 : h0.size ≤ b1 := Nat.le_trans (Keep.refl h0 []).1 (Nat.le_of_eq g1.symm)
  have hR2 := (CHr.ext E1 hCH)
  have sf2_b1 := (Safe.ext E1 hCH (Safe.new (Nat.le_of_eq g1.symm)))
  have ch2 := CHr.trans (CHr.refl hCH) hR2
  have K3 : Keep h0 h1 [] := (Keep.refl h0 []).ext E1
  have O4 : Old Z n0 h1 := O0.ext E1
  have F_coder_b1 : Fld Z h1 b1 "java/lang/String" "coder" "B" (.int 0) := D1 (Or.inr (own_w hw 28 rfl)) (ty := .byte) (by decide)
  have F_value_b1 : Fld Z h1 b1 "java/lang/String" "value" "[B" .null := D1 (Or.inr (own_w hw 30 rfl)) (ty := (.array .byte)) (by decide)
  replace X1 := X1.more (cells' := 4) (slots' := 12) (by decide) (by decide)
  obtain ⟨T5, h5, k5, X5, e5, E5, A5, st5⟩ := newP X1 hx hZ (own_w hw 4 rfl) e1 (g := (mkF m 163 #[s0, s1, s2, s3, s4, .val (.int kl), s6, s7, .val (.int ca), .val (.int cb), s10, s11, .unset, s13, s14, s15, s16] [(.int 1), (.ref b1), (.ref b1)])) rfl (hb hby at_163) rfl (by decide) (cap := 1) (by decide) (by decide) (by decide) (by decide)
  obtain ⟨b5, g5⟩ : ∃ z, z = h1.size := ⟨_, rfl⟩
  rw [← g5] at A5 st5
  have g_b5 : n0 ≤ b5 := Nat.le_trans (Nat.le_trans Z0 K3.1) (Nat.le_of_eq g5.symm)
  have sz_b5 : h0.size ≤ b5 := Nat.le_trans K3.1 (Nat.le_of_eq g5.symm)
  have hR6 := (CHr.ext E5 hR2.1)
  have sf6_b1 := (Safe.ext E5 hR2.1 sf2_b1)
  have sf6_b5 := (Safe.ext E5 hR2.1 (Safe.new (Nat.le_of_eq g5.symm)))
  have ch6 := CHr.trans ch2 hR6
  have K7 : Keep h0 h5 [] := K3.ext E5
  have O8 : Old Z n0 h5 := O4.ext E5
  have V5 : Arv Z h5 b5 k5 .char (1 : Int32) [(.int 0)] (.int 0) := (Arv.new A5 (by decide)).pad (pad_rep [] (.int 0) 1)
  replace X5 := X5.more (cells' := 5) (slots' := 13) (by decide) (by decide)
  obtain ⟨cl9, Ar9, q9, S9, Nn9, Hh9, G9⟩ := id V5
  have hin9 : ¬ ((0 : Int32) < 0 ∨ cl9.slots.size ≤ ((0 : Int32)).toNatClampNeg) := inb_of S9 ⟨by decide, by decide⟩
  obtain ⟨T10, h10, X10, e10, W10, st10⟩ := stC X5 hx hZ e5 Ar9 (j := (0 : Int32)) hin9 (g := (mkF m 169 #[s0, s1, s2, s3, s4, .val (.int kl), s6, s7, .val (.int ca), .val (.int cb), s10, s11, .unset, s13, s14, s15, s16] [(.int ca), (.int 0), (.ref b5), (.ref b5), (.ref b1), (.ref b1)])) rfl rfl (hb hby at_169)
  have N10 := Fr.snoc X10 N0 g_b5
  have hR11 := (CHr.wr W10 sf6_b5 hR6.1)
  have sf11_b1 := (Safe.wr W10 sf6_b5 hR6.1 sf6_b1)
  have sf11_b5 := (Safe.wr W10 sf6_b5 hR6.1 sf6_b5)
  have ch11 := CHr.trans ch6 hR11
  have K12 : Keep h0 h10 [] := K7.wr W10 (Or.inr sz_b5)
  have O13 : Old Z n0 h10 := O8.wr W10 g_b5
  have V10 : Arv Z h10 b5 k5 .char (1 : Int32) [(.int ca.toUInt32.toUInt16.toUInt32.toInt32)] (.int 0) := Arv.set Ar9 q9 S9 Nn9 Hh9 G9 (fits_nar_char _) W10 0 rfl (Nat.le_of_ble_eq_true rfl)
  have f14 := ((A1.ext E5).wr W10)
  have ne16 : b1 ≠ b5 := Nat.ne_of_lt (Nat.lt_of_lt_of_le A1.lt (Nat.le_of_eq g5.symm))
  have f15 := ((F_value_b1.ext E5).other W10 (Or.inl ne16))
  have f17 := ((F_coder_b1.ext E5).other W10 (Or.inl ne16))
  obtain ⟨vr18, _, ⟨T18, L18, k18, n18⟩, -, X18, ⟨Lc18, hQ18, l18, y18, z18⟩, st18⟩ := X10.specialBack hx (y := (⟨"java/lang/String", "<init>", "([C)V"⟩ : MethodName)) rfl hown (mvT hZ (own_w hw 5 rfl)) (mvT hZ (own_w hw 6 rfl)) (mvT hZ (own_w hw 7 rfl)) (by decide) (backOf (W := 1) (rm1n1 l Z a0 hw [] b1 b5 k5 (ca.toUInt32.toUInt16.toUInt32.toInt32) zC h10 n0 O13 f14 f15 f17 V10 S_COMPACT_STRINGS h170_h6_hc30 h170_h6_h36_h9_hc20 g_b1) hZ (own_w hw 7 rfl) (own_w hw 3 rfl) (by decide) (by decide)) (g := (mkF m 170 #[s0, s1, s2, s3, s4, .val (.int kl), s6, s7, .val (.int ca), .val (.int cb), s10, s11, .unset, s13, s14, s15, s16] [(.ref b5), (.ref b1), (.ref b1)])) rfl (by rw [hml]; rfl) (Steps.refl _) (a := b1) (argsL := [(.ref b5)]) (rest := [(.ref b1)]) (lenOf pd_35 rfl) rfl (by show 2 * 0 + _ ≤ _; exact Nat.le_of_eq rfl) (hb hby at_170) (fun _ _ => ⟨rfl, e10, (by decide : 5 + 1 ≤ _), (by decide : 13 + 1 ≤ _)⟩)
  dsimp only [Pt.U, Pt.locs, Pt.cells, Pt.slots] at X18 l18 y18 z18 st18 hQ18
  subst l18 y18 z18
  obtain ⟨b19, k20, rfl, N18q, K18, Y18_z0, Y18_0, Y18_1, Y18_2, Y18_3, Y18_4⟩ := hQ18
  have N18 := Fr.app N10 N18q
  replace X18 := X18.more (cells' := 6) (slots' := 14) (by decide) (by decide)
  have g_b19 : n0 ≤ b19 := Nat.le_trans (Nat.le_trans Z0 K12.1) Y18_z0
  have sz_b19 : h0.size ≤ b19 := Nat.le_trans K12.1 Y18_z0
  have hR21 := (CHr.keep K18 (sfS sf11_b1 sf0) hR11.1)
  have sf21_b1 := (Safe.keep K18 (sfS sf11_b1 sf0) hR11.1 sf11_b1)
  have sf21_b5 := (Safe.keep K18 (sfS sf11_b1 sf0) hR11.1 sf11_b5)
  have sf21_b19 := (Safe.keep K18 (sfS sf11_b1 sf0) hR11.1 (Safe.new Y18_z0))
  have ch21 := CHr.trans ch11 hR21
  have K22 : Keep h0 T18.heap [] := K12.trans K18 (allS (Or.inr sz_b1) all0)
  have O23 : Old Z n0 T18.heap := O13.keep K18 (allS g_b1 all0)
  refine ⟨T18, _, _, vm0, _, b1, b19, k20, X18, N18, rfl, K22, sz_b1, sz_b19, (Nat.ne_of_lt (Nat.lt_of_lt_of_le (Nat.lt_of_lt_of_le A1.lt (Nat.le_trans E5.1 (Keep.of_wr W10).1)) Y18_z0)), Y18_0, Y18_1, Y18_2, Y18_4, hS0, (Nat.le_trans hk0 (Nat.le_trans (Nat.le_trans (Nat.le_trans E1.1 E5.1) (Keep.of_wr W10).1) K18.1)), hZ, hown, ch21, fun target kt => ?_⟩
  show Steps p.tables e below (T0.setTop (mkF m 142 #[s0, s1, s2, s3, s4, .val (.int kl), s6, s7, .val (.int ca), .val (.int cb), s10, s11, .unset, s13, s14, s15, s16] [])) _
  refine XS.iload X0.here hx rfl (hb hby at_142) rfl ?_
  refine XS.ifYes X0.here hx rfl (pc0 := 144) (pc' := 152) rfl (hb hby at_144) rfl ((if0 _ _).trans (feq hc144).2) (by decide) (by decide) ?_
  refine XS.iload X0.here hx rfl (hb hby at_152) rfl ?_
  refine XS.iconst X0.here hx rfl (hb hby at_154) ?_
  refine XS.icmpNo X0.here hx rfl (hb hby at_155) rfl (teq hc155).2 ?_
  refine st1 _ ?_
  refine XS.dup X1.here hx rfl (hb hby at_161) rfl rfl ?_
  refine XS.iconst X1.here hx rfl (hb hby at_162) ?_
  refine st5 _ ?_
  refine XS.dup X5.here hx rfl (hb hby at_165) rfl rfl ?_
  refine XS.iconst X5.here hx rfl (hb hby at_166) ?_
  refine XS.iload X5.here hx rfl (hb hby at_167) rfl ?_
  refine st10 _ ?_
  refine st18.trans ?_
  refine XS.goto X18.here hx rfl (pc0 := 173) (pc' := 196) rfl (hb hby at_173) (by decide) (by decide) ?_
  refine XS.astore X18.here hx rfl (hb hby at_196) rfl rfl (l' := #[s0, s1, s2, s3, s4, .val (.int kl), s6, s7, .val (.int ca), .val (.int cb), s10, s11, .val (.ref b1), s13, s14, s15, s16]) rfl ?_
  exact kt
theorem tspw {p : Program} {l : Launch} {e : Env} {s : State} {m : MethodId} {args : Array Value} {below : List Frame} {meth : Method} {c : Code} {T0 : State} {locs : List Loc} {Z : State} {a0 : Array Value} {vm0 : Vm} {k0 : Nat} (hw : ∀ d ∈ tables_1, d.before a0 Z = true) (s0 s1 s2 s3 s4 s6 s7 s10 s11 s13 s14 s15 s16 : Slot) (kl ca cb zC : Int32) (h0 : Heap) (n0 : Nat) (X0 : Stand p l e room_1 (s.setVm vm0) m args below meth c T0 locs 3 8) (N0 : Fr n0 locs) (hx : p.tables.exec = Jvm.exec) (hZ : Z.Warmed39 (s.setVm vm0).vm) (hby : c.code = code) (hml : c.maxLocals = 17) (hown : (s.setVm vm0).vm.findClass "com/example/traqt/traqt/moqt/MoqtUriToStringPinLaw" = some m.cls) (e0 : T0.heap = h0) (O0 : Old Z n0 h0) (hS0 : s.Since vm0 k0) (hk0 : k0 ≤ h0.size) (hCH : CHv Z own_EL vm0 h0) (hc144 : ¬ (kl = (0 : Int32))) (hc155 : ¬ (kl = (1 : Int32))) (S_COMPACT_STRINGS : Sta Z Z.heap "java/lang/String" "COMPACT_STRINGS" "Z" (.int zC)) (h193_h6_hc30 : ¬ (zC = (0 : Int32))) (h193_h6_h36_h9_hc20 : ¬ ((255 : Int32) < ca.toUInt32.toUInt16.toUInt32.toInt32)) (h193_h6_h36_h9_hc20_1 : ¬ ((255 : Int32) < cb.toUInt32.toUInt16.toUInt32.toInt32)) :
    ∃ (T' : State) (locs' : List Loc) (h' : Heap) (vm1 : Vm) (kN : Nat) (b1 : Addr) (b24 : Addr) (k25 : ClassId), Stand p l e room_1 (s.setVm vm1) m args below meth c T' locs' 6 16 ∧ Fr n0 locs' ∧ T'.heap = h' ∧ Keep h0 h' [] ∧ h0.size ≤ b1 ∧ h0.size ≤ b24 ∧ b1 ≠ b24 ∧ Exa Z h' b1 "java/lang/String" ∧ Fld Z h' b1 "java/lang/String" "coder" "B" (.int 0) ∧ Fld Z h' b1 "java/lang/String" "value" "[B" (.ref b24) ∧ Arv Z h' b24 k25 .byte (own_n [ca.toUInt32.toUInt16.toUInt32.toInt32, cb.toUInt32.toUInt16.toUInt32.toInt32]) (own_by [ca.toUInt32.toUInt16.toUInt32.toInt32, cb.toUInt32.toUInt16.toUInt32.toInt32]) (.int 0) ∧ s.Since vm1 kN ∧ kN ≤ h'.size ∧ Z.Warmed39 (s.setVm vm1).vm ∧ (s.setVm vm1).vm.findClass "com/example/traqt/traqt/moqt/MoqtUriToStringPinLaw" = some m.cls ∧ CHr Z own_EL vm0 h0 vm1 h' ∧
      ∀ target, Steps p.tables e below (T'.setTop (mkF m 198 #[s0, s1, s2, s3, s4, .val (.int kl), s6, s7, .val (.int ca), .val (.int cb), s10, s11, .val (.ref b1), s13, s14, s15, s16] [])) target → Steps p.tables e below (T0.setTop (mkF m 142 #[s0, s1, s2, s3, s4, .val (.int kl), s6, s7, .val (.int ca), .val (.int cb), s10, s11, .unset, s13, s14, s15, s16] [])) target := by
  have Z0 : n0 ≤ h0.size := O0.1 ▸ O0.2.1
  obtain ⟨T1, h1, X1, e1, E1, A1, D1, -, st1⟩ := newO X0 hx hZ hown (own_w hw 1 rfl) (own_w hw 2 rfl) (own_w hw 3 rfl) e0 (g := (mkF m 176 #[s0, s1, s2, s3, s4, .val (.int kl), s6, s7, .val (.int ca), .val (.int cb), s10, s11, .unset, s13, s14, s15, s16] [])) rfl (hb hby at_176) (by decide) (by decide)
  obtain ⟨b1, g1⟩ : ∃ z, z = h0.size := ⟨_, rfl⟩
  rw [← g1] at A1 D1 st1
  have g_b1 : n0 ≤ b1 := Nat.le_trans (Nat.le_trans Z0 (Keep.refl h0 []).1) (Nat.le_of_eq g1.symm)
  have sz_b1 : h0.size ≤ b1 := Nat.le_trans (Keep.refl h0 []).1 (Nat.le_of_eq g1.symm)
  have hR2 := (CHr.ext E1 hCH)
  have sf2_b1 := (Safe.ext E1 hCH (Safe.new (Nat.le_of_eq g1.symm)))
  have ch2 := CHr.trans (CHr.refl hCH) hR2
  have K3 : Keep h0 h1 [] := (Keep.refl h0 []).ext E1
  have O4 : Old Z n0 h1 := O0.ext E1
  have F_coder_b1 : Fld Z h1 b1 "java/lang/String" "coder" "B" (.int 0) := D1 (Or.inr (own_w hw 28 rfl)) (ty := .byte) (by decide)
  have F_value_b1 : Fld Z h1 b1 "java/lang/String" "value" "[B" .null := D1 (Or.inr (own_w hw 30 rfl)) (ty := (.array .byte)) (by decide)
  replace X1 := X1.more (cells' := 4) (slots' := 12) (by decide) (by decide)
  obtain ⟨T5, h5, k5, X5, e5, E5, A5, st5⟩ := newP X1 hx hZ (own_w hw 4 rfl) e1 (g := (mkF m 181 #[s0, s1, s2, s3, s4, .val (.int kl), s6, s7, .val (.int ca), .val (.int cb), s10, s11, .unset, s13, s14, s15, s16] [(.int 2), (.ref b1), (.ref b1)])) rfl (hb hby at_181) rfl (by decide) (cap := 2) (by decide) (by decide) (by decide) (by decide)
  obtain ⟨b5, g5⟩ : ∃ z, z = h1.size := ⟨_, rfl⟩
  rw [← g5] at A5 st5
  have g_b5 : n0 ≤ b5 := Nat.le_trans (Nat.le_trans Z0 K3.1) (Nat.le_of_eq g5.symm)
  have sz_b5 : h0.size ≤ b5 := Nat.le_trans K3.1 (Nat.le_of_eq g5.symm)
  have hR6 := (CHr.ext E5 hR2.1)
  have sf6_b1 := (Safe.ext E5 hR2.1 sf2_b1)
  have sf6_b5 := (Safe.ext E5 hR2.1 (Safe.new (Nat.le_of_eq g5.symm)))
  have ch6 := CHr.trans ch2 hR6
  have K7 : Keep h0 h5 [] := K3.ext E5
  have O8 : Old Z n0 h5 := O4.ext E5
  have V5 : Arv Z h5 b5 k5 .char (2 : Int32) [(.int 0), (.int 0)] (.int 0) := (Arv.new A5 (by decide)).pad (pad_rep [] (.int 0) 2)
  replace X5 := X5.more (cells' := 5) (slots' := 14) (by decide) (by decide)
  obtain ⟨cl9, Ar9, q9, S9, Nn9, Hh9, G9⟩ := id V5
  have hin9 : ¬ ((0 : Int32) < 0 ∨ cl9.slots.size ≤ ((0 : Int32)).toNatClampNeg) := inb_of S9 ⟨by decide, by decide⟩
  obtain ⟨T10, h10, X10, e10, W10, st10⟩ := stC X5 hx hZ e5 Ar9 (j := (0 : Int32)) hin9 (g := (mkF m 187 #[s0, s1, s2, s3, s4, .val (.int kl), s6, s7, .val (.int ca), .val (.int cb), s10, s11, .unset, s13, s14, s15, s16] [(.int ca), (.int 0), (.ref b5), (.ref b5), (.ref b1), (.ref b1)])) rfl rfl (hb hby at_187)
  have N10 := Fr.snoc X10 N0 g_b5
  have hR11 := (CHr.wr W10 sf6_b5 hR6.1)
  have sf11_b1 := (Safe.wr W10 sf6_b5 hR6.1 sf6_b1)
  have sf11_b5 := (Safe.wr W10 sf6_b5 hR6.1 sf6_b5)
  have ch11 := CHr.trans ch6 hR11
  have K12 : Keep h0 h10 [] := K7.wr W10 (Or.inr sz_b5)
  have O13 : Old Z n0 h10 := O8.wr W10 g_b5
  have V10 : Arv Z h10 b5 k5 .char (2 : Int32) [(.int ca.toUInt32.toUInt16.toUInt32.toInt32), (.int 0)] (.int 0) := Arv.set Ar9 q9 S9 Nn9 Hh9 G9 (fits_nar_char _) W10 0 rfl (Nat.le_of_ble_eq_true rfl)
  obtain ⟨cl14, Ar14, q14, S14, Nn14, Hh14, G14⟩ := id V10
  have hin14 : ¬ ((1 : Int32) < 0 ∨ cl14.slots.size ≤ ((1 : Int32)).toNatClampNeg) := inb_of S14 ⟨by decide, by decide⟩
  obtain ⟨T15, h15, X15, e15, W15, st15⟩ := stC X10 hx hZ e10 Ar14 (j := (1 : Int32)) hin14 (g := (mkF m 192 #[s0, s1, s2, s3, s4, .val (.int kl), s6, s7, .val (.int ca), .val (.int cb), s10, s11, .unset, s13, s14, s15, s16] [(.int cb), (.int 1), (.ref b5), (.ref b5), (.ref b1), (.ref b1)])) rfl rfl (hb hby at_192)
  have N15 := Fr.snoc X15 N10 g_b5
  have hR16 := (CHr.wr W15 sf11_b5 hR11.1)
  have sf16_b1 := (Safe.wr W15 sf11_b5 hR11.1 sf11_b1)
  have sf16_b5 := (Safe.wr W15 sf11_b5 hR11.1 sf11_b5)
  have ch16 := CHr.trans ch11 hR16
  have K17 : Keep h0 h15 [] := K12.wr W15 (Or.inr sz_b5)
  have O18 : Old Z n0 h15 := O13.wr W15 g_b5
  have V15 : Arv Z h15 b5 k5 .char (2 : Int32) [(.int ca.toUInt32.toUInt16.toUInt32.toInt32), (.int cb.toUInt32.toUInt16.toUInt32.toInt32)] (.int 0) := Arv.set Ar14 q14 S14 Nn14 Hh14 G14 (fits_nar_char _) W15 1 rfl (Nat.le_of_ble_eq_true rfl)
  have f19 := (((A1.ext E5).wr W10).wr W15)
  have ne21 : b1 ≠ b5 := Nat.ne_of_lt (Nat.lt_of_lt_of_le A1.lt (Nat.le_of_eq g5.symm))
  have f20 := (((F_value_b1.ext E5).other W10 (Or.inl ne21)).other W15 (Or.inl ne21))
  have f22 := (((F_coder_b1.ext E5).other W10 (Or.inl ne21)).other W15 (Or.inl ne21))
  obtain ⟨vr23, _, ⟨T23, L23, k23, n23⟩, -, X23, ⟨Lc23, hQ23, l23, y23, z23⟩, st23⟩ := X15.specialBack hx (y := (⟨"java/lang/String", "<init>", "([C)V"⟩ : MethodName)) rfl hown (mvT hZ (own_w hw 5 rfl)) (mvT hZ (own_w hw 6 rfl)) (mvT hZ (own_w hw 7 rfl)) (by decide) (backOf (W := 1) (rm1n2 l Z a0 hw [] b1 b5 k5 (ca.toUInt32.toUInt16.toUInt32.toInt32) (cb.toUInt32.toUInt16.toUInt32.toInt32) zC h15 n0 O18 f19 f20 f22 V15 S_COMPACT_STRINGS h193_h6_hc30 h193_h6_h36_h9_hc20 h193_h6_h36_h9_hc20_1 g_b1) hZ (own_w hw 7 rfl) (own_w hw 3 rfl) (by decide) (by decide)) (g := (mkF m 193 #[s0, s1, s2, s3, s4, .val (.int kl), s6, s7, .val (.int ca), .val (.int cb), s10, s11, .unset, s13, s14, s15, s16] [(.ref b5), (.ref b1), (.ref b1)])) rfl (by rw [hml]; rfl) (Steps.refl _) (a := b1) (argsL := [(.ref b5)]) (rest := [(.ref b1)]) (lenOf pd_35 rfl) rfl (by show 2 * 0 + _ ≤ _; exact Nat.le_of_eq rfl) (hb hby at_193) (fun _ _ => ⟨rfl, e15, (by decide : 5 + 1 ≤ _), (by decide : 14 + 2 ≤ _)⟩)
  dsimp only [Pt.U, Pt.locs, Pt.cells, Pt.slots] at X23 l23 y23 z23 st23 hQ23
  subst l23 y23 z23
  obtain ⟨b24, k25, rfl, N23q, K23, Y23_z0, Y23_0, Y23_1, Y23_2, Y23_3, Y23_4⟩ := hQ23
  have N23 := Fr.app N15 N23q
  replace X23 := X23.more (cells' := 6) (slots' := 16) (by decide) (by decide)
  have g_b24 : n0 ≤ b24 := Nat.le_trans (Nat.le_trans Z0 K17.1) Y23_z0
  have sz_b24 : h0.size ≤ b24 := Nat.le_trans K17.1 Y23_z0
  have hR26 := (CHr.keep K23 (sfS sf16_b1 sf0) hR16.1)
  have sf26_b1 := (Safe.keep K23 (sfS sf16_b1 sf0) hR16.1 sf16_b1)
  have sf26_b5 := (Safe.keep K23 (sfS sf16_b1 sf0) hR16.1 sf16_b5)
  have sf26_b24 := (Safe.keep K23 (sfS sf16_b1 sf0) hR16.1 (Safe.new Y23_z0))
  have ch26 := CHr.trans ch16 hR26
  have K27 : Keep h0 T23.heap [] := K17.trans K23 (allS (Or.inr sz_b1) all0)
  have O28 : Old Z n0 T23.heap := O18.keep K23 (allS g_b1 all0)
  refine ⟨T23, _, _, vm0, _, b1, b24, k25, X23, N23, rfl, K27, sz_b1, sz_b24, (Nat.ne_of_lt (Nat.lt_of_lt_of_le (Nat.lt_of_lt_of_le A1.lt (Nat.le_trans (Nat.le_trans E5.1 (Keep.of_wr W10).1) (Keep.of_wr W15).1)) Y23_z0)), Y23_0, Y23_1, Y23_2, Y23_4, hS0, (Nat.le_trans hk0 (Nat.le_trans (Nat.le_trans (Nat.le_trans (Nat.le_trans E1.1 E5.1) (Keep.of_wr W10).1) (Keep.of_wr W15).1) K23.1)), hZ, hown, ch26, fun target kt => ?_⟩
  show Steps p.tables e below (T0.setTop (mkF m 142 #[s0, s1, s2, s3, s4, .val (.int kl), s6, s7, .val (.int ca), .val (.int cb), s10, s11, .unset, s13, s14, s15, s16] [])) _
  refine XS.iload X0.here hx rfl (hb hby at_142) rfl ?_
  refine XS.ifYes X0.here hx rfl (pc0 := 144) (pc' := 152) rfl (hb hby at_144) rfl ((if0 _ _).trans (feq hc144).2) (by decide) (by decide) ?_
  refine XS.iload X0.here hx rfl (hb hby at_152) rfl ?_
  refine XS.iconst X0.here hx rfl (hb hby at_154) ?_
  refine XS.icmpYes X0.here hx rfl (pc0 := 155) (pc' := 176) rfl (hb hby at_155) rfl (feq hc155).2 (by decide) (by decide) ?_
  refine st1 _ ?_
  refine XS.dup X1.here hx rfl (hb hby at_179) rfl rfl ?_
  refine XS.iconst X1.here hx rfl (hb hby at_180) ?_
  refine st5 _ ?_
  refine XS.dup X5.here hx rfl (hb hby at_183) rfl rfl ?_
  refine XS.iconst X5.here hx rfl (hb hby at_184) ?_
  refine XS.iload X5.here hx rfl (hb hby at_185) rfl ?_
  refine st10 _ ?_
  refine XS.dup X10.here hx rfl (hb hby at_188) rfl rfl ?_
  refine XS.iconst X10.here hx rfl (hb hby at_189) ?_
  refine XS.iload X10.here hx rfl (hb hby at_190) rfl ?_
  refine st15 _ ?_
  refine st23.trans ?_
  refine XS.astore X23.here hx rfl (hb hby at_196) rfl rfl (l' := #[s0, s1, s2, s3, s4, .val (.int kl), s6, s7, .val (.int ca), .val (.int cb), s10, s11, .val (.ref b1), s13, s14, s15, s16]) rfl ?_
  exact kt
theorem tsp {p : Program} {l : Launch} {e : Env} {s : State} {m : MethodId} {args : Array Value} {below : List Frame} {meth : Method} {c : Code} {T0 : State} {locs : List Loc} {Z : State} {a0 : Array Value} {vm0 : Vm} {k0 : Nat} (hw : ∀ d ∈ tables_1, d.before a0 Z = true) (s0 s1 s2 s3 s4 s6 s7 s10 s11 s13 s14 s15 s16 : Slot) (kl ca cb zC : Int32) (hs : List Int32) (h0 : Heap) (n0 : Nat) (X0 : Stand p l e room_1 (s.setVm vm0) m args below meth c T0 locs 3 8) (N0 : Fr n0 locs) (hx : p.tables.exec = Jvm.exec) (hZ : Z.Warmed39 (s.setVm vm0).vm) (hby : c.code = code) (hml : c.maxLocals = 17) (hown : (s.setVm vm0).vm.findClass "com/example/traqt/traqt/moqt/MoqtUriToStringPinLaw" = some m.cls) (e0 : T0.heap = h0) (O0 : Old Z n0 h0) (hS0 : s.Since vm0 k0) (hk0 : k0 ≤ h0.size) (hCH : CHv Z own_EL vm0 h0) (S_COMPACT_STRINGS : Sta Z Z.heap "java/lang/String" "COMPACT_STRINGS" "Z" (.int zC)) (hz : ¬ (zC = (0 : Int32))) (hhs : hs = (own_hs kl ca cb)) (hca : ca.toUInt32.toUInt16.toUInt32.toInt32 = ca) (hcb : cb.toUInt32.toUInt16.toUInt32.toInt32 = cb) (ha2 : ¬ ((255 : Int32) < ca)) (hb2 : ¬ ((255 : Int32) < cb)) :
    ∃ (T' : State) (locs' : List Loc) (h' : Heap) (vm1 : Vm) (kN : Nat) (k : ClassId) (x : Addr) (t : Addr), Stand p l e room_1 (s.setVm vm1) m args below meth c T' locs' 6 16 ∧ Fr n0 locs' ∧ T'.heap = h' ∧ Keep h0 h' [] ∧ Exa Z h' x "java/lang/String" ∧ Fld Z h' x "java/lang/String" "coder" "B" (.int 0) ∧ Fld Z h' x "java/lang/String" "value" "[B" (.ref t) ∧ Arv Z h' t k .byte (own_n hs) (own_by hs) (.int 0) ∧ s.Since vm1 kN ∧ kN ≤ h'.size ∧ Z.Warmed39 (s.setVm vm1).vm ∧ (s.setVm vm1).vm.findClass "com/example/traqt/traqt/moqt/MoqtUriToStringPinLaw" = some m.cls ∧ CHr Z own_EL vm0 h0 vm1 h' ∧
      ∀ target, Steps p.tables e below (T'.setTop (mkF m 198 #[s0, s1, s2, s3, s4, .val (.int kl), s6, s7, .val (.int ca), .val (.int cb), s10, s11, .val (.ref x), s13, s14, s15, s16] [])) target → Steps p.tables e below (T0.setTop (mkF m 142 #[s0, s1, s2, s3, s4, .val (.int kl), s6, s7, .val (.int ca), .val (.int cb), s10, s11, .unset, s13, s14, s15, s16] [])) target := by
  by_cases c0 : kl = (0 : Int32)
  · obtain ⟨T', L', h', vm1, k1, kk, b, t, X, N, E, K, Y0, Y1, Y2, Y3, hS, hk, hz1, ho1, hR, st⟩ := tspe hw s0 s1 s2 s3 s4 s6 s7 s10 s11 s13 s14 s15 s16 kl ca cb zC h0 n0 X0 N0 hx hZ hby hml hown e0 O0 hS0 hk0 hCH c0
    obtain rfl : hs = own_nil := by rw [hhs, own_hs, if_pos c0]; rfl
    exact ⟨T', L', h', vm1, k1, kk, b, t, X.more (by decide) (by decide), N, E, K, Y0, Y1, Y2, Y3, hS, hk, hz1, ho1, hR, st⟩
  by_cases c1 : kl = (1 : Int32)
  · obtain ⟨T', L', h', vm1, k1, b, t, kk, X, N, E, K, z0, z1, z2, Y0, Y1, Y2, Y3, hS, hk, hz1, ho1, hR, st⟩ := tspo hw s0 s1 s2 s3 s4 s6 s7 s10 s11 s13 s14 s15 s16 kl ca cb zC h0 n0 X0 N0 hx hZ hby hml hown e0 O0 hS0 hk0 hCH c0 c1 S_COMPACT_STRINGS hz (by rw [hca]; exact ha2)
    rw [hca] at Y3
    obtain rfl : hs = [ca] := by rw [hhs, own_hs, if_neg c0, if_pos c1]
    exact ⟨T', L', h', vm1, k1, kk, b, t, X.more (by decide) (by decide), N, E, K, Y0, Y1, Y2, Y3, hS, hk, hz1, ho1, hR, st⟩
  · obtain ⟨T', L', h', vm1, k1, b, t, kk, X, N, E, K, z0, z1, z2, Y0, Y1, Y2, Y3, hS, hk, hz1, ho1, hR, st⟩ := tspw hw s0 s1 s2 s3 s4 s6 s7 s10 s11 s13 s14 s15 s16 kl ca cb zC h0 n0 X0 N0 hx hZ hby hml hown e0 O0 hS0 hk0 hCH c0 c1 S_COMPACT_STRINGS hz (by rw [hca]; exact ha2) (by rw [hcb]; exact hb2)
    rw [hca, hcb] at Y3
    obtain rfl : hs = [ca, cb] := by rw [hhs, own_hs, if_neg c0, if_neg c1]
    exact ⟨T', L', h', vm1, k1, kk, b, t, X.more (by decide) (by decide), N, E, K, Y0, Y1, Y2, Y3, hS, hk, hz1, ho1, hR, st⟩
/-- the expected chars and zeros behind, twenty in all -/
def own_ex (es : List Int32) : List Value := own_us es ++ List.replicate (20 - es.length) (.int 0)
theorem own_exAt (es : List Int32) {i : Nat} (h : i < es.length) : (own_ex es).getD i (.int 0) = .int (es.getD i 0) := by
  rw [own_ex, List.getD_eq_getElem?_getD, List.getElem?_append_left (by rw [own_us, List.length_map]; exact h), own_us, List.getElem?_map, List.getD_eq_getElem?_getD, List.getElem?_eq_getElem h]
  rfl
theorem own_byAt (es : List Int32) {i : Nat} (h : i < es.length) : (own_by es).getD i (.int 0) = .int (es.getD i 0).toInt8.toInt32 := by
  rw [own_by, List.getD_eq_getElem?_getD, List.getElem?_map, List.getD_eq_getElem?_getD, List.getElem?_eq_getElem h]
  rfl
def own_L41 : List (Nat × Instr × Nat) := [(0, .iload_n 3, 1), (1, .iload_n 2, 1), (2, .if_icmp .ge 14, 3), (16, .iconst 1, 1), (17, .goto 4, 3), (21, .ireturn, 1), (5, .aload_n 0, 1), (6, .iload_n 3, 1), (7, .invokevirtual 34, 3), (10, .aload_n 1, 1), (11, .iload_n 3, 1), (12, .caload, 1), (13, .if_icmp .ne 7, 3)]
theorem own_K41 : ∀ x ∈ own_L41, decode method_3_code x.1 = .ok x.2 := by decide +kernel
theorem d41 {c : Code} (hby : c.code = method_3_code) (i : Nat) {k n : Nat} {a : Instr} (h : own_L41[i]? = some (k, a, n)) : decode c.code k = .ok (a, n) := own_dL own_K41 hby h
def Q41g (Z : State) (a1 a2 : Addr) (p3 p4 : Int32) (t0 : Addr) (k9 k7 : ClassId) (zC : Int32) (es : List Int32) (fm : Value) (h0 : Heap) (n0 : Nat) (v : Option Value) (h : Heap) (L : List Loc) : Prop := v = some (.int 1) ∧ Fr n0 L ∧ h = h0
theorem ef_41 (m : MethodId) (x0 : Addr) (x1 : Addr) (x2 : Int32) (x3 : Int32) : entryFrame m #[(.ref x0), (.ref x1), (.int x2), (.int x3)] 4 = mkF m 0 #[.val (.ref x0), .val (.ref x1), .val (.int x2), .val (.int x3)] [] := by first | (simp [entryFrame, mkF, argsToLocals, Value.category]; done) | rfl
theorem pnc_com_example_traqt_traqt_moqt_MoqtUriToStringPinLaw : plainName "com/example/traqt/traqt/moqt/MoqtUriToStringPinLaw" = true := by first | (simp [plainName, overriddenIn]; done) | decide +kernel
theorem rm41g (l : Launch) (Z : State) (a0 : Array Value) (hw : ∀ d ∈ tables_1, d.before a0 Z = true) (ws : List Jvm.Cond) (a1 a2 : Addr) (p3 p4 : Int32) (t0 : Addr) (k9 k7 : ClassId) (zC : Int32) (es : List Int32) (fm : Value) (h0 : Heap) (n0 : Nat) (O0 : Old Z n0 h0) (HE_a1 : Exa Z h0 a1 "java/lang/String") (HF_a1_value : Fld Z h0 a1 "java/lang/String" "value" "[B" (.ref t0)) (HF_a1_coder : Fld Z h0 a1 "java/lang/String" "coder" "B" (.int 0)) (HV_t0 : Arv Z h0 t0 k9 .byte (own_n es) (own_by es) (.int 0)) (HV_a2 : Arv Z h0 a2 k7 .char (20 : Int32) (own_ex es) (.int 0)) (hc2 : ¬ (p4 < p3)) :
    own_C l Z (⟨"com/example/traqt/traqt/moqt/MoqtUriToStringPinLaw", "at", "(Ljava/lang/String;[CII)Z"⟩ : MethodName) method_3_code 4 (some .boolean) ws ({ frames := 5, cells := 0, slots := 0, locals := 90 } : Room) #[(.ref a1), (.ref a2), (.int p3), (.int p4)] h0 (Q41g Z a1 a2 p3 p4 t0 k9 k7 zC es fm h0 n0) := by
  refine own_intro (plainFor_of_name pnc_com_example_traqt_traqt_moqt_MoqtUriToStringPinLaw) fun p e s m below meth c s₁ hx hby hml hown hnm hZ e0 hret X0 => ?_
  have N0 := Fr.nil n0
  have Z0 : n0 ≤ h0.size := O0.1 ▸ O0.2.1
  refine ⟨s₁, _, _, _, some (.int 1), X0, by decide, by decide, nofun, ?_, fun fs hr => castTop (ef_41 m a1 a2 p3 p4) ?_⟩
  · show Q41g Z a1 a2 p3 p4 t0 k9 k7 zC es fm h0 n0 _ s₁.heap _
    rw [e0]
    exact ⟨rfl, N0, rfl⟩
  · show Steps p.tables e below (s₁.setTop (mkF m 0 #[.val (.ref a1), .val (.ref a2), .val (.int p3), .val (.int p4)] [])) _
    refine XS.iloadN X0.here hx rfl (d41 hby 0 rfl) rfl ?_
    refine XS.iloadN X0.here hx rfl (d41 hby 1 rfl) rfl ?_
    refine XS.icmpYes X0.here hx rfl (pc0 := 2) (pc' := 16) rfl (d41 hby 2 rfl) rfl (flt hc2).2.1 (by decide) (by decide) ?_
    refine XS.iconst X0.here hx rfl (d41 hby 3 rfl) ?_
    refine XS.goto X0.here hx rfl (pc0 := 17) (pc' := 21) rfl (d41 hby 4 rfl) (by decide) (by decide) ?_
    exact retN X0 hx (t := .boolean) hret (by simp) (d41 hby 5 rfl) hr
theorem pd_7 : parseMethodDescriptor "(I)C" = some ⟨[.int], some .char⟩ := by decide +kernel
def Q41l (Z : State) (a1 a2 : Addr) (p3 p4 : Int32) (t0 : Addr) (k9 k7 : ClassId) (zC : Int32) (es : List Int32) (fm : Value) (w5 w8 : Int32) (h0 : Heap) (n0 : Nat) (v : Option Value) (h : Heap) (L : List Loc) : Prop := v = some (.int 1) ∧ Fr n0 L ∧ h = h0
theorem rm41l (l : Launch) (Z : State) (a0 : Array Value) (hw : ∀ d ∈ tables_1, d.before a0 Z = true) (ws : List Jvm.Cond) (a1 a2 : Addr) (p3 p4 : Int32) (t0 : Addr) (k9 k7 : ClassId) (zC : Int32) (es : List Int32) (fm : Value) (w5 w8 : Int32) (h0 : Heap) (n0 : Nat) (O0 : Old Z n0 h0) (HE_a1 : Exa Z h0 a1 "java/lang/String") (HF_a1_value : Fld Z h0 a1 "java/lang/String" "value" "[B" (.ref t0)) (HF_a1_coder : Fld Z h0 a1 "java/lang/String" "coder" "B" (.int 0)) (HV_t0 : Arv Z h0 t0 k9 .byte (own_n es) (own_by es) (.int 0)) (HV_a2 : Arv Z h0 a2 k7 .char (20 : Int32) (own_ex es) (.int 0)) (hc2 : p4 < p3) (S_COMPACT_STRINGS : Sta Z Z.heap "java/lang/String" "COMPACT_STRINGS" "Z" (.int zC)) (S_SIOOBE_FORMATTER : Sta Z Z.heap "jdk/internal/util/Preconditions" "SIOOBE_FORMATTER" "Ljava/util/function/BiFunction;" fm) (h7_h1_hc3 : ¬ (zC = (0 : Int32))) (h7_h12_h3_h5_hc1 : ¬ (p4 < (0 : Int32))) (h7_h12_h3_h5_hc6 : p4 < (own_n es)) (h7_h12_h3_hrfm : fm.isRef = true) (h7_h12_hgd8 : (own_by es).getD (p4).toNatClampNeg (.int 0) = (.int w5)) (hlt12 : p4 < (20 : Int32)) (hgd12 : (own_ex es).getD (p4).toNatClampNeg (.int 0) = (.int w8)) (hc13 : (nar .char (nar .char ((w5 &&& (255 : Int32)).toUInt32.toUInt16.toUInt32.toInt32))) = w8) :
    own_C l Z (⟨"com/example/traqt/traqt/moqt/MoqtUriToStringPinLaw", "at", "(Ljava/lang/String;[CII)Z"⟩ : MethodName) method_3_code 4 (some .boolean) ws ({ frames := 5, cells := 0, slots := 0, locals := 90 } : Room) #[(.ref a1), (.ref a2), (.int p3), (.int p4)] h0 (Q41l Z a1 a2 p3 p4 t0 k9 k7 zC es fm w5 w8 h0 n0) := by
  refine own_intro (plainFor_of_name pnc_com_example_traqt_traqt_moqt_MoqtUriToStringPinLaw) fun p e s m below meth c s₁ hx hby hml hown hnm hZ e0 hret X0 => ?_
  have N0 := Fr.nil n0
  have Z0 : n0 ≤ h0.size := O0.1 ▸ O0.2.1
  obtain ⟨cq6, kq6, q6a, q6b, q6c⟩ := isOf hZ e0 HE_a1
  obtain ⟨vr6, _, ⟨T6, L6, k6, n6⟩, -, X6, ⟨Lc6, hQ6, l6, y6, z6⟩, st6⟩ := X0.virtualBack hx (y := (⟨"java/lang/String", "charAt", "(I)C"⟩ : MethodName)) (z := (⟨"java/lang/String", "charAt", "(I)C"⟩ : MethodName)) hown (mvT hZ (own_w hw 224 rfl)) (mvT hZ (own_w hw 225 rfl)) (notFace_of_selects (args := #[]) (mvT hZ (own_w hw 227 rfl))) (mvT hZ (own_w hw 227 rfl)) (mvT hZ (own_w hw 226 rfl)) (by decide) (backOf (W := 0) (rm42 l Z a0 hw [] a1 p4 t0 k9 ((own_n es)) ((own_by es)) zC fm w5 h0 n0 O0 HE_a1 HV_t0 S_COMPACT_STRINGS HF_a1_coder h7_h1_hc3 HF_a1_value S_SIOOBE_FORMATTER h7_h12_h3_h5_hc1 h7_h12_h3_h5_hc6 h7_h12_h3_hrfm h7_h12_hgd8) hZ (own_w hw 228 rfl) (own_w hw 3 rfl) (by decide) (by decide)) q6a q6c (g := (mkF m 7 #[.val (.ref a1), .val (.ref a2), .val (.int p3), .val (.int p4)] [(.int p4), (.ref a1)])) rfl (by rw [hml]; rfl) (Steps.refl _) (argsL := [(.int p4)]) (rest := []) (lenOf pd_7 rfl) rfl (by show 2 * 0 + _ ≤ _; exact Nat.le_of_eq rfl) (d41 hby 8 rfl) (fun _ _ => ⟨rfl, e0, (by decide : 0 + 0 ≤ _), (by decide : 0 + 0 ≤ _)⟩)
  dsimp only [Pt.U, Pt.locs, Pt.cells, Pt.slots] at X6 l6 y6 z6 st6 hQ6
  subst l6 y6 z6
  obtain ⟨rfl, N6q, e6⟩ := hQ6
  have N6 := Fr.app N0 N6q
  replace X6 := X6.more (cells' := 0) (slots' := 0) (by decide) (by decide)
  obtain ⟨cl7, Ar7, q7, S7, Nn7, Hh7, G7⟩ := id HV_a2
  have hin7 : ¬ (p4 < 0 ∨ cl7.slots.size ≤ (p4).toNatClampNeg) := inb_of S7 ⟨h7_h12_h3_h5_hc1, hlt12⟩
  have hat7 : cl7.slots[(p4).toNatClampNeg]? = some (.int w8) := Has.at Hh7 hin7 hgd12
  refine ⟨T6, _, _, _, some (.int 1), X6, by decide, by decide, nofun, ?_, fun fs hr => castTop (ef_41 m a1 a2 p3 p4) ?_⟩
  · show Q41l Z a1 a2 p3 p4 t0 k9 k7 zC es fm w5 w8 h0 n0 _ T6.heap _
    rw [e6]
    exact ⟨rfl, N6, rfl⟩
  · show Steps p.tables e below (s₁.setTop (mkF m 0 #[.val (.ref a1), .val (.ref a2), .val (.int p3), .val (.int p4)] [])) _
    refine XS.iloadN X0.here hx rfl (d41 hby 0 rfl) rfl ?_
    refine XS.iloadN X0.here hx rfl (d41 hby 1 rfl) rfl ?_
    refine XS.icmpNo X0.here hx rfl (d41 hby 2 rfl) rfl (tlt hc2).2.1 ?_
    refine XS.aloadN X0.here hx rfl (d41 hby 6 rfl) rfl rfl ?_
    refine XS.iloadN X0.here hx rfl (d41 hby 7 rfl) rfl ?_
    refine st6.trans ?_
    refine XS.aloadN X6.here hx rfl (d41 hby 9 rfl) rfl rfl ?_
    refine XS.iloadN X6.here hx rfl (d41 hby 10 rfl) rfl ?_
    show Steps p.tables e below (T6.setTop (mkF m 12 #[.val (.ref a1), .val (.ref a2), .val (.int p3), .val (.int p4)] [(.int p4), (.ref a2), (.int (nar .char (nar .char ((w5 &&& (255 : Int32)).toUInt32.toUInt16.toUInt32.toInt32))))])) _
    refine X6.caload hx (j := p4) (v := (.int w8)) (by rw [e6]; exact Ar7.1) (State.isArrayOf_alike hZ.alike Ar7.2.1) Ar7.2.2 hin7 hat7 (g := (mkF m 12 #[.val (.ref a1), .val (.ref a2), .val (.int p3), .val (.int p4)] [(.int p4), (.ref a2), (.int (nar .char (nar .char ((w5 &&& (255 : Int32)).toUInt32.toUInt16.toUInt32.toInt32))))])) rfl rfl (d41 hby 11 rfl) _ ?_
    refine XS.icmpNo X6.here hx rfl (d41 hby 12 rfl) rfl (teq hc13).2 ?_
    refine XS.iconst X6.here hx rfl (d41 hby 3 rfl) ?_
    refine XS.goto X6.here hx rfl (pc0 := 17) (pc' := 21) rfl (d41 hby 4 rfl) (by decide) (by decide) ?_
    exact retN X6 hx (t := .boolean) hret (by simp) (d41 hby 5 rfl) hr
def own_ch (c : Int32) : Prop := ¬ c < 0 ∧ ¬ (65535 : Int32) < c
theorem own_255 {c : Int32} (h : ¬ c < 0 ∧ ¬ (255 : Int32) < c) : own_ch c := ⟨h.1, fun q => h.2 (by rw [Int32.lt_iff_toInt_lt, show (65535 : Int32).toInt = 65535 from rfl] at q; rw [Int32.lt_iff_toInt_lt, show (255 : Int32).toInt = 255 from rfl]; omega)⟩
theorem own_255b (i : Nat) (hi : i < 32) (h : ¬ i < 8) : (255#32)[i] = false := by
  rw [← BitVec.getLsbD_eq_getElem]
  have q : ∀ j : Fin 32, ¬ j.1 < 8 → (255#32).getLsbD j.1 = false := by decide
  exact q ⟨i, hi⟩ h
theorem own_b8 (x : Int32) : (x.toInt8.toInt32 &&& (255 : Int32)) = x &&& 255 := by
  apply Int32.toBitVec_inj.1
  simp only [Int32.toBitVec_and, Int8.toBitVec_toInt32, Int32.toBitVec_toInt8]
  ext i hi
  by_cases h : i < 8
  · simp [BitVec.getElem_signExtend, h, hi]
  · simp [own_255b i hi h]
theorem own_b88 (x : Int32) : (x.toInt8.toInt32).toInt8.toInt32 &&& (255 : Int32) = x &&& 255 := by rw [own_b8, own_b8]
theorem own_i2c {c : Int32} (h : own_ch c) : c.toUInt32.toUInt16.toUInt32.toInt32 = c := by
  obtain ⟨h1, h2⟩ := h
  have q := nat_of h1
  rw [Int32.lt_iff_toInt_lt, show (65535 : Int32).toInt = 65535 from rfl] at h2
  have e : c = Int32.ofNat c.toNatClampNeg := (back32 h1).1.symm
  generalize c.toNatClampNeg = n at *
  subst e
  apply Int32.toBitVec_inj.1
  apply BitVec.eq_of_toNat_eq
  simp
  omega
theorem own_narc {c : Int32} (h : own_ch c) : nar .char c = c := own_i2c h
theorem own_c255 {c : Int32} (h : ¬ c < 0 ∧ ¬ (255 : Int32) < c) : c &&& 255 = c := by
  obtain ⟨h1, h2⟩ := h
  have q := nat_of h1
  rw [Int32.lt_iff_toInt_lt, show (255 : Int32).toInt = 255 from rfl] at h2
  have e : c = Int32.ofNat c.toNatClampNeg := (back32 h1).1.symm
  have k : ∀ j : Fin 256, Int32.ofNat j.1 &&& 255 = Int32.ofNat j.1 := by decide +kernel
  have k2 := k ⟨c.toNatClampNeg, by omega⟩
  rw [← e] at k2
  exact k2
theorem own_rd {c : Int32} (h : ¬ c < 0 ∧ ¬ (255 : Int32) < c) : nar .char (nar .char ((c.toInt8.toInt32 &&& (255 : Int32)).toUInt32.toUInt16.toUInt32.toInt32)) = c := by
  have h' := own_255 h
  rw [own_b8, own_c255 h, own_i2c h', own_narc h', own_narc h']
theorem own_getM {es : List Int32} {j : Nat} (h : j < es.length) : es.getD j 0 ∈ es := by
  rw [List.getD_eq_getElem?_getD, List.getElem?_eq_getElem h]; exact List.getElem_mem h
theorem own_inN {es : List Int32} {p : Int32} (h40 : es.length ≤ 40) (h0 : ¬ (p < (0 : Int32))) (h : p < own_n es) : p.toNatClampNeg < es.length := by
  have q := nat_of h0
  rw [Int32.lt_iff_toInt_lt, own_n, own_tI (by omega)] at h
  omega
def Q41 (Z : State) (a1 a2 : Addr) (p3 p4 : Int32) (t0 : Addr) (k9 k7 : ClassId) (zC : Int32) (es : List Int32) (fm : Value) (h0 : Heap) (n0 : Nat) (v : Option Value) (h : Heap) (L : List Loc) : Prop := v = some (.int 1) ∧ Fr n0 L ∧ h = h0
theorem rm41 (l : Launch) (Z : State) (a0 : Array Value) (hw : ∀ d ∈ tables_1, d.before a0 Z = true) (ws : List Jvm.Cond) (a1 a2 : Addr) (p3 p4 : Int32) (t0 : Addr) (k9 k7 : ClassId) (zC : Int32) (es : List Int32) (fm : Value) (h0 : Heap) (n0 : Nat) (O0 : Old Z n0 h0) (HE_a1 : Exa Z h0 a1 "java/lang/String") (HF_a1_value : Fld Z h0 a1 "java/lang/String" "value" "[B" (.ref t0)) (HF_a1_coder : Fld Z h0 a1 "java/lang/String" "coder" "B" (.int 0)) (HV_t0 : Arv Z h0 t0 k9 .byte (own_n es) (own_by es) (.int 0)) (HV_a2 : Arv Z h0 a2 k7 .char (20 : Int32) (own_ex es) (.int 0)) (S_COMPACT_STRINGS : Sta Z Z.heap "java/lang/String" "COMPACT_STRINGS" "Z" (.int zC)) (S_SIOOBE_FORMATTER : Sta Z Z.heap "jdk/internal/util/Preconditions" "SIOOBE_FORMATTER" "Ljava/util/function/BiFunction;" fm) (hz : ¬ (zC = (0 : Int32))) (hrfm : fm.isRef = true) (hes : ∀ c ∈ es, ¬ c < 0 ∧ ¬ (255 : Int32) < c) (h20 : es.length ≤ 20) (hp3 : p3 = (own_n es)) (hq0 : ¬ (p4 < (0 : Int32))) (hq1 : p4 < (20 : Int32)) :
    own_C l Z (⟨"com/example/traqt/traqt/moqt/MoqtUriToStringPinLaw", "at", "(Ljava/lang/String;[CII)Z"⟩ : MethodName) method_3_code 4 (some .boolean) ws ({ frames := 5, cells := 0, slots := 0, locals := 90 } : Room) #[(.ref a1), (.ref a2), (.int p3), (.int p4)] h0 (Q41 Z a1 a2 p3 p4 t0 k9 k7 zC es fm h0 n0) := by
  by_cases hlt : p4 < p3
  · have hj := own_inN (es := es) (by omega) hq0 (hp3 ▸ hlt)
    exact rm41l l Z a0 hw ws a1 a2 p3 p4 t0 k9 k7 zC es fm ((es.getD p4.toNatClampNeg 0).toInt8.toInt32) (es.getD p4.toNatClampNeg 0) h0 n0 O0 HE_a1 HF_a1_value HF_a1_coder HV_t0 HV_a2 hlt S_COMPACT_STRINGS S_SIOOBE_FORMATTER hz hq0 (hp3 ▸ hlt) hrfm (own_byAt es hj) hq1 (own_exAt es hj) (own_rd (hes _ (own_getM hj)))
  · exact rm41g l Z a0 hw ws a1 a2 p3 p4 t0 k9 k7 zC es fm h0 n0 O0 HE_a1 HF_a1_value HF_a1_coder HV_t0 HV_a2 hlt
theorem own_nS {es : List Int32} (c : Int32) {b : Nat} (h : es.length ≤ b) (hb : b ≤ 19) : own_n es + (1 : Int32) = own_n (es ++ [c]) := by
  rw [← own_nadd (cs := es) (ds := [c]) (by show es.length + 1 ≤ 40; omega)]; rfl
theorem own_exS {es : List Int32} {x c : Int32} {b : Nat} (h : es.length ≤ b) (hb : b ≤ 19) (hx : x.toUInt32.toUInt16.toUInt32.toInt32 = c) : (own_ex es).set (own_n es).toNatClampNeg (.int x.toUInt32.toUInt16.toUInt32.toInt32) = own_ex (es ++ [c]) := by
  rw [own_nN (by omega), hx, own_ex, own_ex, List.set_append_right _ _ (by rw [own_us, List.length_map]; exact Nat.le_refl _), own_us, List.length_map, Nat.sub_self]
  obtain ⟨m, hm⟩ : ∃ m, 20 - es.length = m + 1 := ⟨19 - es.length, by omega⟩
  have e2 : 20 - (es ++ [c]).length = m := by rw [List.length_append]; show 20 - (es.length + 1) = m; omega
  rw [hm, e2, own_us, List.map_append, List.append_assoc]
  rfl
theorem own_exl {es : List Int32} {b : Nat} (h : es.length ≤ b) (hb : b ≤ 19) : (own_n es).toNatClampNeg < (own_ex es).length := by
  rw [own_nN (by omega), own_ex, List.length_append, own_us, List.length_map, List.length_replicate]; omega
theorem own_n20 {es : List Int32} {b : Nat} (h : es.length ≤ b) (hb : b ≤ 19) : own_n es < (20 : Int32) := (own_ltN (b := 20) (by omega) (by omega)).mpr (by omega)
theorem own_core {p : Program} {l : Launch} {e : Env} {R : Room} {s : State} {m : MethodId} {args : Array Value} {below : List Frame} {meth : Method} {c : Code} {T0 : State} {locs : List Loc} {cells slots : Nat} {Z : State} {h0 : Heap} {n0 : Nat} {ea : Addr} {k7 : ClassId} {es : List Int32} {b : Nat} (X0 : Stand p l e R s m args below meth c T0 locs cells slots) (N0 : Fr n0 locs) (hx : p.tables.exec = Jvm.exec) (hZ : Z.Warmed39 s.vm) (e0 : T0.heap = h0) (HV : Arv Z h0 ea k7 .char (20 : Int32) (own_ex es) (.int 0)) (g : n0 ≤ ea) (hl : es.length ≤ b) (hb : b ≤ 19) {x ch : Int32} (hcv : x.toUInt32.toUInt16.toUInt32.toInt32 = ch) {pc : Nat} {L L' : Array Slot} (d1 : decode c.code pc = .ok (.castore, 1)) (d2 : decode c.code (pc + 1) = .ok (.iinc 14 1, 3)) (hL : L[14]? = some (.val (.int (own_n es)))) (hL' : storeLocals L 14 (.int (own_n (es ++ [ch]))) = some L') :
    ∃ (T' : State) (locs' : List Loc) (h' : Heap), Stand p l e R s m args below meth c T' locs' cells slots ∧ Fr n0 locs' ∧ T'.heap = h' ∧ Keep h0 h' [ea] ∧ Arv Z h' ea k7 .char (20 : Int32) (own_ex (es ++ [ch])) (.int 0) ∧ (es ++ [ch]).length ≤ b + 1 ∧ ∀ target, Steps p.tables e below (T'.setTop (mkF m (pc + 1 + 3) L' [])) target → Steps p.tables e below (T0.setTop (mkF m pc L [.int x, .int (own_n es), .ref ea])) target := by
  obtain ⟨cl1, Ar1, q1, S1, Nn1, Hh1, G1⟩ := id HV
  have hin1 : ¬ ((own_n es) < 0 ∨ cl1.slots.size ≤ ((own_n es)).toNatClampNeg) := inb_of S1 ⟨own_nge (by omega), own_n20 hl hb⟩
  obtain ⟨T2, h2, X2, e2, W2, st2⟩ := stC X0 hx hZ e0 Ar1 (j := (own_n es)) (x := x) hin1 (g := (mkF m pc L [.int x, .int (own_n es), .ref ea])) rfl rfl d1
  have V2 := Arv.set Ar1 q1 S1 Nn1 Hh1 G1 (fits_nar_char _) W2 ((own_n es)).toNatClampNeg rfl (own_exl hl hb)
  refine ⟨T2, _, _, X2, Fr.snoc X2 N0 g, e2, (Keep.refl h0 [ea]).wr W2 (Or.inl (List.mem_of_getElem? (i := 0) rfl)), (by rw [← own_exS hl hb hcv]; exact V2), (by rw [List.length_append]; exact Nat.succ_le_succ hl), fun target kt => ?_⟩
  refine st2 _ ?_
  refine XS.iinc X2.here hx rfl d2 hL (l' := L') ?_ kt
  rw [← own_nS ch hl hb] at hL'
  exact hL'
theorem tq284 {p : Program} {l : Launch} {e : Env} {s : State} {m : MethodId} {args : Array Value} {below : List Frame} {meth : Method} {c : Code} {T0 : State} {locs : List Loc} {Z : State} {a0 : Array Value} (hw : ∀ d ∈ tables_1, d.before a0 Z = true) (s0 s1 s2 s3 s4 s5 s6 s7 s8 s9 s10 s11 s12 s16 : Slot) (cl : Int32) (ea : Addr) (k7 : ClassId) (es es2 : List Int32) (h0 : Heap) (n0 : Nat) (X0 : Stand p l e room_1 s m args below meth c T0 locs 7 36) (N0 : Fr n0 locs) (hx : p.tables.exec = Jvm.exec) (hZ : Z.Warmed39 s.vm) (hby : c.code = code) (hml : c.maxLocals = 17) (hown : s.vm.findClass "com/example/traqt/traqt/moqt/MoqtUriToStringPinLaw" = some m.cls) (e0 : T0.heap = h0) (O0 : Old Z n0 h0) (HV_ea : Arv Z h0 ea k7 .char (20 : Int32) (own_ex es) (.int 0)) (g_ea : n0 ≤ ea) (hl : es.length ≤ 7) (he2 : es2 = (if cl = (0 : Int32) then es else (es ++ [(91 : Int32)]))) :
    ∃ (T' : State) (locs' : List Loc) (h' : Heap), Stand p l e room_1 s m args below meth c T' locs' 7 36 ∧ Fr n0 locs' ∧ T'.heap = h' ∧ Keep h0 h' [ea] ∧ Arv Z h' ea k7 .char (20 : Int32) (own_ex es2) (.int 0) ∧ es2.length ≤ 8 ∧
      ∀ target, Steps p.tables e below (T'.setTop (mkF m 299 #[s0, s1, s2, s3, s4, s5, s6, s7, s8, s9, s10, s11, s12, .val (.ref ea), .val (.int (own_n es2)), .val (.int cl), s16] [])) target → Steps p.tables e below (T0.setTop (mkF m 284 #[s0, s1, s2, s3, s4, s5, s6, s7, s8, s9, s10, s11, s12, .val (.ref ea), .val (.int (own_n es)), .val (.int cl), s16] [])) target := by
  by_cases hc286 : cl = (0 : Int32)
  · obtain rfl : es2 = es := by rw [he2, if_pos hc286]
    refine ⟨T0, _, _, X0, N0, e0, Keep.refl h0 [ea], HV_ea, (Nat.le_succ_of_le hl), fun target kt => ?_⟩
    refine XS.iload X0.here hx rfl (hb hby at_284) rfl ?_
    refine XS.ifYes X0.here hx rfl (pc0 := 286) (pc' := 299) rfl (hb hby at_286) rfl ((if0 _ _).trans (teq hc286).1) (by decide) (by decide) ?_
    exact kt
  · obtain rfl : es2 = es ++ [(91 : Int32)] := by rw [he2, if_neg hc286]
    obtain ⟨T, L', h', X, N, E, K, V, hn, st⟩ := own_core X0 N0 hx hZ e0 HV_ea g_ea hl (by decide) (x := (91 : Int32)) (by decide) (L := #[s0, s1, s2, s3, s4, s5, s6, s7, s8, s9, s10, s11, s12, .val (.ref ea), .val (.int (own_n es)), .val (.int cl), s16]) (hb hby at_295) (hb hby at_296) rfl (L' := #[s0, s1, s2, s3, s4, s5, s6, s7, s8, s9, s10, s11, s12, .val (.ref ea), .val (.int (own_n (es ++ [(91 : Int32)]))), .val (.int cl), s16]) rfl
    refine ⟨T, L', h', X, N, E, K, V, hn, fun target kt => ?_⟩
    refine XS.iload X0.here hx rfl (hb hby at_284) rfl ?_
    refine XS.ifNo X0.here hx rfl (hb hby at_286) rfl ((if0 _ _).trans (feq hc286).1) ?_
    refine XS.aload X0.here hx rfl (hb hby at_289) rfl rfl ?_
    refine XS.iload X0.here hx rfl (hb hby at_291) rfl ?_
    refine XS.bipush X0.here hx rfl (hb hby at_293) ?_
    exact st _ kt
theorem tq299 {p : Program} {l : Launch} {e : Env} {s : State} {m : MethodId} {args : Array Value} {below : List Frame} {meth : Method} {c : Code} {T0 : State} {locs : List Loc} {Z : State} {a0 : Array Value} (hw : ∀ d ∈ tables_1, d.before a0 Z = true) (s0 s1 s2 s3 s5 s7 s8 s9 s10 s11 s12 s15 s16 : Slot) (kl cv : Int32) (ea : Addr) (k7 : ClassId) (es es2 : List Int32) (h0 : Heap) (n0 : Nat) (X0 : Stand p l e room_1 s m args below meth c T0 locs 7 36) (N0 : Fr n0 locs) (hx : p.tables.exec = Jvm.exec) (hZ : Z.Warmed39 s.vm) (hby : c.code = code) (hml : c.maxLocals = 17) (hown : s.vm.findClass "com/example/traqt/traqt/moqt/MoqtUriToStringPinLaw" = some m.cls) (e0 : T0.heap = h0) (O0 : Old Z n0 h0) (HV_ea : Arv Z h0 ea k7 .char (20 : Int32) (own_ex es) (.int 0)) (g_ea : n0 ≤ ea) (hl : es.length ≤ 8) (hcv : cv.toUInt32.toUInt16.toUInt32.toInt32 = cv) (he2 : es2 = (if kl < (1 : Int32) then es else (es ++ [cv]))) :
    ∃ (T' : State) (locs' : List Loc) (h' : Heap), Stand p l e room_1 s m args below meth c T' locs' 7 36 ∧ Fr n0 locs' ∧ T'.heap = h' ∧ Keep h0 h' [ea] ∧ Arv Z h' ea k7 .char (20 : Int32) (own_ex es2) (.int 0) ∧ es2.length ≤ 9 ∧
      ∀ target, Steps p.tables e below (T'.setTop (mkF m 315 #[s0, s1, s2, s3, .val (.int kl), s5, .val (.int cv), s7, s8, s9, s10, s11, s12, .val (.ref ea), .val (.int (own_n es2)), s15, s16] [])) target → Steps p.tables e below (T0.setTop (mkF m 299 #[s0, s1, s2, s3, .val (.int kl), s5, .val (.int cv), s7, s8, s9, s10, s11, s12, .val (.ref ea), .val (.int (own_n es)), s15, s16] [])) target := by
  by_cases hc302 : kl < (1 : Int32)
  · obtain rfl : es2 = es := by rw [he2, if_pos hc302]
    refine ⟨T0, _, _, X0, N0, e0, Keep.refl h0 [ea], HV_ea, (Nat.le_succ_of_le hl), fun target kt => ?_⟩
    refine XS.iload X0.here hx rfl (hb hby at_299) rfl ?_
    refine XS.iconst X0.here hx rfl (hb hby at_301) ?_
    refine XS.icmpYes X0.here hx rfl (pc0 := 302) (pc' := 315) rfl (hb hby at_302) rfl (tlt hc302).1 (by decide) (by decide) ?_
    exact kt
  · obtain rfl : es2 = es ++ [cv] := by rw [he2, if_neg hc302]
    obtain ⟨T, L', h', X, N, E, K, V, hn, st⟩ := own_core X0 N0 hx hZ e0 HV_ea g_ea hl (by decide) (x := cv) hcv (L := #[s0, s1, s2, s3, .val (.int kl), s5, .val (.int cv), s7, s8, s9, s10, s11, s12, .val (.ref ea), .val (.int (own_n es)), s15, s16]) (hb hby at_311) (hb hby at_312) rfl (L' := #[s0, s1, s2, s3, .val (.int kl), s5, .val (.int cv), s7, s8, s9, s10, s11, s12, .val (.ref ea), .val (.int (own_n (es ++ [cv]))), s15, s16]) rfl
    refine ⟨T, L', h', X, N, E, K, V, hn, fun target kt => ?_⟩
    refine XS.iload X0.here hx rfl (hb hby at_299) rfl ?_
    refine XS.iconst X0.here hx rfl (hb hby at_301) ?_
    refine XS.icmpNo X0.here hx rfl (hb hby at_302) rfl (flt hc302).1 ?_
    refine XS.aload X0.here hx rfl (hb hby at_305) rfl rfl ?_
    refine XS.iload X0.here hx rfl (hb hby at_307) rfl ?_
    refine XS.iload X0.here hx rfl (hb hby at_309) rfl ?_
    exact st _ kt
theorem tq315 {p : Program} {l : Launch} {e : Env} {s : State} {m : MethodId} {args : Array Value} {below : List Frame} {meth : Method} {c : Code} {T0 : State} {locs : List Loc} {Z : State} {a0 : Array Value} (hw : ∀ d ∈ tables_1, d.before a0 Z = true) (s0 s1 s2 s3 s5 s6 s8 s9 s10 s11 s12 s15 s16 : Slot) (kl cv : Int32) (ea : Addr) (k7 : ClassId) (es es2 : List Int32) (h0 : Heap) (n0 : Nat) (X0 : Stand p l e room_1 s m args below meth c T0 locs 7 36) (N0 : Fr n0 locs) (hx : p.tables.exec = Jvm.exec) (hZ : Z.Warmed39 s.vm) (hby : c.code = code) (hml : c.maxLocals = 17) (hown : s.vm.findClass "com/example/traqt/traqt/moqt/MoqtUriToStringPinLaw" = some m.cls) (e0 : T0.heap = h0) (O0 : Old Z n0 h0) (HV_ea : Arv Z h0 ea k7 .char (20 : Int32) (own_ex es) (.int 0)) (g_ea : n0 ≤ ea) (hl : es.length ≤ 9) (hcv : cv.toUInt32.toUInt16.toUInt32.toInt32 = cv) (he2 : es2 = (if kl < (2 : Int32) then es else (es ++ [cv]))) :
    ∃ (T' : State) (locs' : List Loc) (h' : Heap), Stand p l e room_1 s m args below meth c T' locs' 7 36 ∧ Fr n0 locs' ∧ T'.heap = h' ∧ Keep h0 h' [ea] ∧ Arv Z h' ea k7 .char (20 : Int32) (own_ex es2) (.int 0) ∧ es2.length ≤ 10 ∧
      ∀ target, Steps p.tables e below (T'.setTop (mkF m 331 #[s0, s1, s2, s3, .val (.int kl), s5, s6, .val (.int cv), s8, s9, s10, s11, s12, .val (.ref ea), .val (.int (own_n es2)), s15, s16] [])) target → Steps p.tables e below (T0.setTop (mkF m 315 #[s0, s1, s2, s3, .val (.int kl), s5, s6, .val (.int cv), s8, s9, s10, s11, s12, .val (.ref ea), .val (.int (own_n es)), s15, s16] [])) target := by
  by_cases hc318 : kl < (2 : Int32)
  · obtain rfl : es2 = es := by rw [he2, if_pos hc318]
    refine ⟨T0, _, _, X0, N0, e0, Keep.refl h0 [ea], HV_ea, (Nat.le_succ_of_le hl), fun target kt => ?_⟩
    refine XS.iload X0.here hx rfl (hb hby at_315) rfl ?_
    refine XS.iconst X0.here hx rfl (hb hby at_317) ?_
    refine XS.icmpYes X0.here hx rfl (pc0 := 318) (pc' := 331) rfl (hb hby at_318) rfl (tlt hc318).1 (by decide) (by decide) ?_
    exact kt
  · obtain rfl : es2 = es ++ [cv] := by rw [he2, if_neg hc318]
    obtain ⟨T, L', h', X, N, E, K, V, hn, st⟩ := own_core X0 N0 hx hZ e0 HV_ea g_ea hl (by decide) (x := cv) hcv (L := #[s0, s1, s2, s3, .val (.int kl), s5, s6, .val (.int cv), s8, s9, s10, s11, s12, .val (.ref ea), .val (.int (own_n es)), s15, s16]) (hb hby at_327) (hb hby at_328) rfl (L' := #[s0, s1, s2, s3, .val (.int kl), s5, s6, .val (.int cv), s8, s9, s10, s11, s12, .val (.ref ea), .val (.int (own_n (es ++ [cv]))), s15, s16]) rfl
    refine ⟨T, L', h', X, N, E, K, V, hn, fun target kt => ?_⟩
    refine XS.iload X0.here hx rfl (hb hby at_315) rfl ?_
    refine XS.iconst X0.here hx rfl (hb hby at_317) ?_
    refine XS.icmpNo X0.here hx rfl (hb hby at_318) rfl (flt hc318).1 ?_
    refine XS.aload X0.here hx rfl (hb hby at_321) rfl rfl ?_
    refine XS.iload X0.here hx rfl (hb hby at_323) rfl ?_
    refine XS.iload X0.here hx rfl (hb hby at_325) rfl ?_
    exact st _ kt
theorem tq331 {p : Program} {l : Launch} {e : Env} {s : State} {m : MethodId} {args : Array Value} {below : List Frame} {meth : Method} {c : Code} {T0 : State} {locs : List Loc} {Z : State} {a0 : Array Value} (hw : ∀ d ∈ tables_1, d.before a0 Z = true) (s0 s1 s2 s3 s4 s5 s6 s7 s8 s9 s10 s11 s12 s16 : Slot) (cl : Int32) (ea : Addr) (k7 : ClassId) (es es2 : List Int32) (h0 : Heap) (n0 : Nat) (X0 : Stand p l e room_1 s m args below meth c T0 locs 7 36) (N0 : Fr n0 locs) (hx : p.tables.exec = Jvm.exec) (hZ : Z.Warmed39 s.vm) (hby : c.code = code) (hml : c.maxLocals = 17) (hown : s.vm.findClass "com/example/traqt/traqt/moqt/MoqtUriToStringPinLaw" = some m.cls) (e0 : T0.heap = h0) (O0 : Old Z n0 h0) (HV_ea : Arv Z h0 ea k7 .char (20 : Int32) (own_ex es) (.int 0)) (g_ea : n0 ≤ ea) (hl : es.length ≤ 10) (he2 : es2 = (if cl = (0 : Int32) then es else (es ++ [(93 : Int32)]))) :
    ∃ (T' : State) (locs' : List Loc) (h' : Heap), Stand p l e room_1 s m args below meth c T' locs' 7 36 ∧ Fr n0 locs' ∧ T'.heap = h' ∧ Keep h0 h' [ea] ∧ Arv Z h' ea k7 .char (20 : Int32) (own_ex es2) (.int 0) ∧ es2.length ≤ 11 ∧
      ∀ target, Steps p.tables e below (T'.setTop (mkF m 346 #[s0, s1, s2, s3, s4, s5, s6, s7, s8, s9, s10, s11, s12, .val (.ref ea), .val (.int (own_n es2)), .val (.int cl), s16] [])) target → Steps p.tables e below (T0.setTop (mkF m 331 #[s0, s1, s2, s3, s4, s5, s6, s7, s8, s9, s10, s11, s12, .val (.ref ea), .val (.int (own_n es)), .val (.int cl), s16] [])) target := by
  by_cases hc333 : cl = (0 : Int32)
  · obtain rfl : es2 = es := by rw [he2, if_pos hc333]
    refine ⟨T0, _, _, X0, N0, e0, Keep.refl h0 [ea], HV_ea, (Nat.le_succ_of_le hl), fun target kt => ?_⟩
    refine XS.iload X0.here hx rfl (hb hby at_331) rfl ?_
    refine XS.ifYes X0.here hx rfl (pc0 := 333) (pc' := 346) rfl (hb hby at_333) rfl ((if0 _ _).trans (teq hc333).1) (by decide) (by decide) ?_
    exact kt
  · obtain rfl : es2 = es ++ [(93 : Int32)] := by rw [he2, if_neg hc333]
    obtain ⟨T, L', h', X, N, E, K, V, hn, st⟩ := own_core X0 N0 hx hZ e0 HV_ea g_ea hl (by decide) (x := (93 : Int32)) (by decide) (L := #[s0, s1, s2, s3, s4, s5, s6, s7, s8, s9, s10, s11, s12, .val (.ref ea), .val (.int (own_n es)), .val (.int cl), s16]) (hb hby at_342) (hb hby at_343) rfl (L' := #[s0, s1, s2, s3, s4, s5, s6, s7, s8, s9, s10, s11, s12, .val (.ref ea), .val (.int (own_n (es ++ [(93 : Int32)]))), .val (.int cl), s16]) rfl
    refine ⟨T, L', h', X, N, E, K, V, hn, fun target kt => ?_⟩
    refine XS.iload X0.here hx rfl (hb hby at_331) rfl ?_
    refine XS.ifNo X0.here hx rfl (hb hby at_333) rfl ((if0 _ _).trans (feq hc333).1) ?_
    refine XS.aload X0.here hx rfl (hb hby at_336) rfl rfl ?_
    refine XS.iload X0.here hx rfl (hb hby at_338) rfl ?_
    refine XS.bipush X0.here hx rfl (hb hby at_340) ?_
    exact st _ kt
theorem tq346 {p : Program} {l : Launch} {e : Env} {s : State} {m : MethodId} {args : Array Value} {below : List Frame} {meth : Method} {c : Code} {T0 : State} {locs : List Loc} {Z : State} {a0 : Array Value} (hw : ∀ d ∈ tables_1, d.before a0 Z = true) (s0 s1 s2 s3 s4 s5 s6 s7 s8 s9 s10 s11 s12 s15 s16 : Slot) (ea : Addr) (k7 : ClassId) (es es2 : List Int32) (h0 : Heap) (n0 : Nat) (X0 : Stand p l e room_1 s m args below meth c T0 locs 7 36) (N0 : Fr n0 locs) (hx : p.tables.exec = Jvm.exec) (hZ : Z.Warmed39 s.vm) (hby : c.code = code) (hml : c.maxLocals = 17) (hown : s.vm.findClass "com/example/traqt/traqt/moqt/MoqtUriToStringPinLaw" = some m.cls) (e0 : T0.heap = h0) (O0 : Old Z n0 h0) (HV_ea : Arv Z h0 ea k7 .char (20 : Int32) (own_ex es) (.int 0)) (g_ea : n0 ≤ ea) (hl : es.length ≤ 11) (he2 : es2 = (es ++ [(58 : Int32)])) :
    ∃ (T' : State) (locs' : List Loc) (h' : Heap), Stand p l e room_1 s m args below meth c T' locs' 7 36 ∧ Fr n0 locs' ∧ T'.heap = h' ∧ Keep h0 h' [ea] ∧ Arv Z h' ea k7 .char (20 : Int32) (own_ex es2) (.int 0) ∧ es2.length ≤ 12 ∧
      ∀ target, Steps p.tables e below (T'.setTop (mkF m 356 #[s0, s1, s2, s3, s4, s5, s6, s7, s8, s9, s10, s11, s12, .val (.ref ea), .val (.int (own_n es2)), s15, s16] [])) target → Steps p.tables e below (T0.setTop (mkF m 346 #[s0, s1, s2, s3, s4, s5, s6, s7, s8, s9, s10, s11, s12, .val (.ref ea), .val (.int (own_n es)), s15, s16] [])) target := by
  subst he2
  obtain ⟨T, L', h', X, N, E, K, V, hn, st⟩ := own_core X0 N0 hx hZ e0 HV_ea g_ea hl (by decide) (x := (58 : Int32)) (by decide) (L := #[s0, s1, s2, s3, s4, s5, s6, s7, s8, s9, s10, s11, s12, .val (.ref ea), .val (.int (own_n es)), s15, s16]) (hb hby at_352) (hb hby at_353) rfl (L' := #[s0, s1, s2, s3, s4, s5, s6, s7, s8, s9, s10, s11, s12, .val (.ref ea), .val (.int (own_n (es ++ [(58 : Int32)]))), s15, s16]) rfl
  refine ⟨T, L', h', X, N, E, K, V, hn, fun target kt => ?_⟩
  refine XS.aload X0.here hx rfl (hb hby at_346) rfl rfl ?_
  refine XS.iload X0.here hx rfl (hb hby at_348) rfl ?_
  refine XS.bipush X0.here hx rfl (hb hby at_350) ?_
  exact st _ kt
theorem tq356 {p : Program} {l : Launch} {e : Env} {s : State} {m : MethodId} {args : Array Value} {below : List Frame} {meth : Method} {c : Code} {T0 : State} {locs : List Loc} {Z : State} {a0 : Array Value} (hw : ∀ d ∈ tables_1, d.before a0 Z = true) (s0 s1 s2 s3 s4 s5 s6 s7 s8 s9 s11 s12 s15 s16 : Slot) (vp cv : Int32) (ea : Addr) (k7 : ClassId) (es es2 : List Int32) (h0 : Heap) (n0 : Nat) (X0 : Stand p l e room_1 s m args below meth c T0 locs 7 36) (N0 : Fr n0 locs) (hx : p.tables.exec = Jvm.exec) (hZ : Z.Warmed39 s.vm) (hby : c.code = code) (hml : c.maxLocals = 17) (hown : s.vm.findClass "com/example/traqt/traqt/moqt/MoqtUriToStringPinLaw" = some m.cls) (e0 : T0.heap = h0) (O0 : Old Z n0 h0) (HV_ea : Arv Z h0 ea k7 .char (20 : Int32) (own_ex es) (.int 0)) (g_ea : n0 ≤ ea) (hl : es.length ≤ 12) (hcv : (((48 : Int32) + (vp / (10000 : Int32))).toUInt32.toUInt16.toUInt32.toInt32).toUInt32.toUInt16.toUInt32.toInt32 = cv) (he2 : es2 = (if vp < (10000 : Int32) then es else (es ++ [cv]))) :
    ∃ (T' : State) (locs' : List Loc) (h' : Heap), Stand p l e room_1 s m args below meth c T' locs' 7 36 ∧ Fr n0 locs' ∧ T'.heap = h' ∧ Keep h0 h' [ea] ∧ Arv Z h' ea k7 .char (20 : Int32) (own_ex es2) (.int 0) ∧ es2.length ≤ 13 ∧
      ∀ target, Steps p.tables e below (T'.setTop (mkF m 382 #[s0, s1, s2, s3, s4, s5, s6, s7, s8, s9, .val (.int vp), s11, s12, .val (.ref ea), .val (.int (own_n es2)), s15, s16] [])) target → Steps p.tables e below (T0.setTop (mkF m 356 #[s0, s1, s2, s3, s4, s5, s6, s7, s8, s9, .val (.int vp), s11, s12, .val (.ref ea), .val (.int (own_n es)), s15, s16] [])) target := by
  by_cases hc361 : vp < (10000 : Int32)
  · obtain rfl : es2 = es := by rw [he2, if_pos hc361]
    refine ⟨T0, _, _, X0, N0, e0, Keep.refl h0 [ea], HV_ea, (Nat.le_succ_of_le hl), fun target kt => ?_⟩
    refine XS.iload X0.here hx rfl (hb hby at_356) rfl ?_
    refine XS.sipush X0.here hx rfl (hb hby at_358) ?_
    refine XS.icmpYes X0.here hx rfl (pc0 := 361) (pc' := 382) rfl (hb hby at_361) rfl (tlt hc361).1 (by decide) (by decide) ?_
    exact kt
  · obtain rfl : es2 = es ++ [cv] := by rw [he2, if_neg hc361]
    obtain ⟨T, L', h', X, N, E, K, V, hn, st⟩ := own_core X0 N0 hx hZ e0 HV_ea g_ea hl (by decide) (x := (((48 : Int32) + (vp / (10000 : Int32))).toUInt32.toUInt16.toUInt32.toInt32)) hcv (L := #[s0, s1, s2, s3, s4, s5, s6, s7, s8, s9, .val (.int vp), s11, s12, .val (.ref ea), .val (.int (own_n es)), s15, s16]) (hb hby at_378) (hb hby at_379) rfl (L' := #[s0, s1, s2, s3, s4, s5, s6, s7, s8, s9, .val (.int vp), s11, s12, .val (.ref ea), .val (.int (own_n (es ++ [cv]))), s15, s16]) rfl
    refine ⟨T, L', h', X, N, E, K, V, hn, fun target kt => ?_⟩
    refine XS.iload X0.here hx rfl (hb hby at_356) rfl ?_
    refine XS.sipush X0.here hx rfl (hb hby at_358) ?_
    refine XS.icmpNo X0.here hx rfl (hb hby at_361) rfl (flt hc361).1 ?_
    refine XS.aload X0.here hx rfl (hb hby at_364) rfl rfl ?_
    refine XS.iload X0.here hx rfl (hb hby at_366) rfl ?_
    refine XS.bipush X0.here hx rfl (hb hby at_368) ?_
    refine XS.iload X0.here hx rfl (hb hby at_370) rfl ?_
    refine XS.sipush X0.here hx rfl (hb hby at_372) ?_
    refine XS.idiv X0.here hx rfl (hb hby at_375) rfl (by decide : ¬ ((10000 : Int32) = (0 : Int32))) ?_
    refine XS.iadd X0.here hx rfl (hb hby at_376) rfl ?_
    refine XS.i2c X0.here hx rfl (hb hby at_377) rfl ?_
    exact st _ kt
theorem tq382 {p : Program} {l : Launch} {e : Env} {s : State} {m : MethodId} {args : Array Value} {below : List Frame} {meth : Method} {c : Code} {T0 : State} {locs : List Loc} {Z : State} {a0 : Array Value} (hw : ∀ d ∈ tables_1, d.before a0 Z = true) (s0 s1 s2 s3 s4 s5 s6 s7 s8 s9 s11 s12 s15 s16 : Slot) (vp cv : Int32) (ea : Addr) (k7 : ClassId) (es es2 : List Int32) (h0 : Heap) (n0 : Nat) (X0 : Stand p l e room_1 s m args below meth c T0 locs 7 36) (N0 : Fr n0 locs) (hx : p.tables.exec = Jvm.exec) (hZ : Z.Warmed39 s.vm) (hby : c.code = code) (hml : c.maxLocals = 17) (hown : s.vm.findClass "com/example/traqt/traqt/moqt/MoqtUriToStringPinLaw" = some m.cls) (e0 : T0.heap = h0) (O0 : Old Z n0 h0) (HV_ea : Arv Z h0 ea k7 .char (20 : Int32) (own_ex es) (.int 0)) (g_ea : n0 ≤ ea) (hl : es.length ≤ 13) (hcv : (((48 : Int32) + ((vp / (1000 : Int32)) % (10 : Int32))).toUInt32.toUInt16.toUInt32.toInt32).toUInt32.toUInt16.toUInt32.toInt32 = cv) (he2 : es2 = (if vp < (1000 : Int32) then es else (es ++ [cv]))) :
    ∃ (T' : State) (locs' : List Loc) (h' : Heap), Stand p l e room_1 s m args below meth c T' locs' 7 36 ∧ Fr n0 locs' ∧ T'.heap = h' ∧ Keep h0 h' [ea] ∧ Arv Z h' ea k7 .char (20 : Int32) (own_ex es2) (.int 0) ∧ es2.length ≤ 14 ∧
      ∀ target, Steps p.tables e below (T'.setTop (mkF m 411 #[s0, s1, s2, s3, s4, s5, s6, s7, s8, s9, .val (.int vp), s11, s12, .val (.ref ea), .val (.int (own_n es2)), s15, s16] [])) target → Steps p.tables e below (T0.setTop (mkF m 382 #[s0, s1, s2, s3, s4, s5, s6, s7, s8, s9, .val (.int vp), s11, s12, .val (.ref ea), .val (.int (own_n es)), s15, s16] [])) target := by
  by_cases hc387 : vp < (1000 : Int32)
  · obtain rfl : es2 = es := by rw [he2, if_pos hc387]
    refine ⟨T0, _, _, X0, N0, e0, Keep.refl h0 [ea], HV_ea, (Nat.le_succ_of_le hl), fun target kt => ?_⟩
    refine XS.iload X0.here hx rfl (hb hby at_382) rfl ?_
    refine XS.sipush X0.here hx rfl (hb hby at_384) ?_
    refine XS.icmpYes X0.here hx rfl (pc0 := 387) (pc' := 411) rfl (hb hby at_387) rfl (tlt hc387).1 (by decide) (by decide) ?_
    exact kt
  · obtain rfl : es2 = es ++ [cv] := by rw [he2, if_neg hc387]
    obtain ⟨T, L', h', X, N, E, K, V, hn, st⟩ := own_core X0 N0 hx hZ e0 HV_ea g_ea hl (by decide) (x := (((48 : Int32) + ((vp / (1000 : Int32)) % (10 : Int32))).toUInt32.toUInt16.toUInt32.toInt32)) hcv (L := #[s0, s1, s2, s3, s4, s5, s6, s7, s8, s9, .val (.int vp), s11, s12, .val (.ref ea), .val (.int (own_n es)), s15, s16]) (hb hby at_407) (hb hby at_408) rfl (L' := #[s0, s1, s2, s3, s4, s5, s6, s7, s8, s9, .val (.int vp), s11, s12, .val (.ref ea), .val (.int (own_n (es ++ [cv]))), s15, s16]) rfl
    refine ⟨T, L', h', X, N, E, K, V, hn, fun target kt => ?_⟩
    refine XS.iload X0.here hx rfl (hb hby at_382) rfl ?_
    refine XS.sipush X0.here hx rfl (hb hby at_384) ?_
    refine XS.icmpNo X0.here hx rfl (hb hby at_387) rfl (flt hc387).1 ?_
    refine XS.aload X0.here hx rfl (hb hby at_390) rfl rfl ?_
    refine XS.iload X0.here hx rfl (hb hby at_392) rfl ?_
    refine XS.bipush X0.here hx rfl (hb hby at_394) ?_
    refine XS.iload X0.here hx rfl (hb hby at_396) rfl ?_
    refine XS.sipush X0.here hx rfl (hb hby at_398) ?_
    refine XS.idiv X0.here hx rfl (hb hby at_401) rfl (by decide : ¬ ((1000 : Int32) = (0 : Int32))) ?_
    refine XS.bipush X0.here hx rfl (hb hby at_402) ?_
    refine iremM X0 hx rfl (hb hby at_404) rfl (by decide : ¬ ((10 : Int32) = (0 : Int32))) ?_
    refine XS.iadd X0.here hx rfl (hb hby at_405) rfl ?_
    refine XS.i2c X0.here hx rfl (hb hby at_406) rfl ?_
    exact st _ kt
theorem tq411 {p : Program} {l : Launch} {e : Env} {s : State} {m : MethodId} {args : Array Value} {below : List Frame} {meth : Method} {c : Code} {T0 : State} {locs : List Loc} {Z : State} {a0 : Array Value} (hw : ∀ d ∈ tables_1, d.before a0 Z = true) (s0 s1 s2 s3 s4 s5 s6 s7 s8 s9 s11 s12 s15 s16 : Slot) (vp cv : Int32) (ea : Addr) (k7 : ClassId) (es es2 : List Int32) (h0 : Heap) (n0 : Nat) (X0 : Stand p l e room_1 s m args below meth c T0 locs 7 36) (N0 : Fr n0 locs) (hx : p.tables.exec = Jvm.exec) (hZ : Z.Warmed39 s.vm) (hby : c.code = code) (hml : c.maxLocals = 17) (hown : s.vm.findClass "com/example/traqt/traqt/moqt/MoqtUriToStringPinLaw" = some m.cls) (e0 : T0.heap = h0) (O0 : Old Z n0 h0) (HV_ea : Arv Z h0 ea k7 .char (20 : Int32) (own_ex es) (.int 0)) (g_ea : n0 ≤ ea) (hl : es.length ≤ 14) (hcv : (((48 : Int32) + ((vp / (100 : Int32)) % (10 : Int32))).toUInt32.toUInt16.toUInt32.toInt32).toUInt32.toUInt16.toUInt32.toInt32 = cv) (he2 : es2 = (if vp < (100 : Int32) then es else (es ++ [cv]))) :
    ∃ (T' : State) (locs' : List Loc) (h' : Heap), Stand p l e room_1 s m args below meth c T' locs' 7 36 ∧ Fr n0 locs' ∧ T'.heap = h' ∧ Keep h0 h' [ea] ∧ Arv Z h' ea k7 .char (20 : Int32) (own_ex es2) (.int 0) ∧ es2.length ≤ 15 ∧
      ∀ target, Steps p.tables e below (T'.setTop (mkF m 438 #[s0, s1, s2, s3, s4, s5, s6, s7, s8, s9, .val (.int vp), s11, s12, .val (.ref ea), .val (.int (own_n es2)), s15, s16] [])) target → Steps p.tables e below (T0.setTop (mkF m 411 #[s0, s1, s2, s3, s4, s5, s6, s7, s8, s9, .val (.int vp), s11, s12, .val (.ref ea), .val (.int (own_n es)), s15, s16] [])) target := by
  by_cases hc415 : vp < (100 : Int32)
  · obtain rfl : es2 = es := by rw [he2, if_pos hc415]
    refine ⟨T0, _, _, X0, N0, e0, Keep.refl h0 [ea], HV_ea, (Nat.le_succ_of_le hl), fun target kt => ?_⟩
    refine XS.iload X0.here hx rfl (hb hby at_411) rfl ?_
    refine XS.bipush X0.here hx rfl (hb hby at_413) ?_
    refine XS.icmpYes X0.here hx rfl (pc0 := 415) (pc' := 438) rfl (hb hby at_415) rfl (tlt hc415).1 (by decide) (by decide) ?_
    exact kt
  · obtain rfl : es2 = es ++ [cv] := by rw [he2, if_neg hc415]
    obtain ⟨T, L', h', X, N, E, K, V, hn, st⟩ := own_core X0 N0 hx hZ e0 HV_ea g_ea hl (by decide) (x := (((48 : Int32) + ((vp / (100 : Int32)) % (10 : Int32))).toUInt32.toUInt16.toUInt32.toInt32)) hcv (L := #[s0, s1, s2, s3, s4, s5, s6, s7, s8, s9, .val (.int vp), s11, s12, .val (.ref ea), .val (.int (own_n es)), s15, s16]) (hb hby at_434) (hb hby at_435) rfl (L' := #[s0, s1, s2, s3, s4, s5, s6, s7, s8, s9, .val (.int vp), s11, s12, .val (.ref ea), .val (.int (own_n (es ++ [cv]))), s15, s16]) rfl
    refine ⟨T, L', h', X, N, E, K, V, hn, fun target kt => ?_⟩
    refine XS.iload X0.here hx rfl (hb hby at_411) rfl ?_
    refine XS.bipush X0.here hx rfl (hb hby at_413) ?_
    refine XS.icmpNo X0.here hx rfl (hb hby at_415) rfl (flt hc415).1 ?_
    refine XS.aload X0.here hx rfl (hb hby at_418) rfl rfl ?_
    refine XS.iload X0.here hx rfl (hb hby at_420) rfl ?_
    refine XS.bipush X0.here hx rfl (hb hby at_422) ?_
    refine XS.iload X0.here hx rfl (hb hby at_424) rfl ?_
    refine XS.bipush X0.here hx rfl (hb hby at_426) ?_
    refine XS.idiv X0.here hx rfl (hb hby at_428) rfl (by decide : ¬ ((100 : Int32) = (0 : Int32))) ?_
    refine XS.bipush X0.here hx rfl (hb hby at_429) ?_
    refine iremM X0 hx rfl (hb hby at_431) rfl (by decide : ¬ ((10 : Int32) = (0 : Int32))) ?_
    refine XS.iadd X0.here hx rfl (hb hby at_432) rfl ?_
    refine XS.i2c X0.here hx rfl (hb hby at_433) rfl ?_
    exact st _ kt
theorem tq438 {p : Program} {l : Launch} {e : Env} {s : State} {m : MethodId} {args : Array Value} {below : List Frame} {meth : Method} {c : Code} {T0 : State} {locs : List Loc} {Z : State} {a0 : Array Value} (hw : ∀ d ∈ tables_1, d.before a0 Z = true) (s0 s1 s2 s3 s4 s5 s6 s7 s8 s9 s11 s12 s15 s16 : Slot) (vp cv : Int32) (ea : Addr) (k7 : ClassId) (es es2 : List Int32) (h0 : Heap) (n0 : Nat) (X0 : Stand p l e room_1 s m args below meth c T0 locs 7 36) (N0 : Fr n0 locs) (hx : p.tables.exec = Jvm.exec) (hZ : Z.Warmed39 s.vm) (hby : c.code = code) (hml : c.maxLocals = 17) (hown : s.vm.findClass "com/example/traqt/traqt/moqt/MoqtUriToStringPinLaw" = some m.cls) (e0 : T0.heap = h0) (O0 : Old Z n0 h0) (HV_ea : Arv Z h0 ea k7 .char (20 : Int32) (own_ex es) (.int 0)) (g_ea : n0 ≤ ea) (hl : es.length ≤ 15) (hcv : (((48 : Int32) + ((vp / (10 : Int32)) % (10 : Int32))).toUInt32.toUInt16.toUInt32.toInt32).toUInt32.toUInt16.toUInt32.toInt32 = cv) (he2 : es2 = (if vp < (10 : Int32) then es else (es ++ [cv]))) :
    ∃ (T' : State) (locs' : List Loc) (h' : Heap), Stand p l e room_1 s m args below meth c T' locs' 7 36 ∧ Fr n0 locs' ∧ T'.heap = h' ∧ Keep h0 h' [ea] ∧ Arv Z h' ea k7 .char (20 : Int32) (own_ex es2) (.int 0) ∧ es2.length ≤ 16 ∧
      ∀ target, Steps p.tables e below (T'.setTop (mkF m 465 #[s0, s1, s2, s3, s4, s5, s6, s7, s8, s9, .val (.int vp), s11, s12, .val (.ref ea), .val (.int (own_n es2)), s15, s16] [])) target → Steps p.tables e below (T0.setTop (mkF m 438 #[s0, s1, s2, s3, s4, s5, s6, s7, s8, s9, .val (.int vp), s11, s12, .val (.ref ea), .val (.int (own_n es)), s15, s16] [])) target := by
  by_cases hc442 : vp < (10 : Int32)
  · obtain rfl : es2 = es := by rw [he2, if_pos hc442]
    refine ⟨T0, _, _, X0, N0, e0, Keep.refl h0 [ea], HV_ea, (Nat.le_succ_of_le hl), fun target kt => ?_⟩
    refine XS.iload X0.here hx rfl (hb hby at_438) rfl ?_
    refine XS.bipush X0.here hx rfl (hb hby at_440) ?_
    refine XS.icmpYes X0.here hx rfl (pc0 := 442) (pc' := 465) rfl (hb hby at_442) rfl (tlt hc442).1 (by decide) (by decide) ?_
    exact kt
  · obtain rfl : es2 = es ++ [cv] := by rw [he2, if_neg hc442]
    obtain ⟨T, L', h', X, N, E, K, V, hn, st⟩ := own_core X0 N0 hx hZ e0 HV_ea g_ea hl (by decide) (x := (((48 : Int32) + ((vp / (10 : Int32)) % (10 : Int32))).toUInt32.toUInt16.toUInt32.toInt32)) hcv (L := #[s0, s1, s2, s3, s4, s5, s6, s7, s8, s9, .val (.int vp), s11, s12, .val (.ref ea), .val (.int (own_n es)), s15, s16]) (hb hby at_461) (hb hby at_462) rfl (L' := #[s0, s1, s2, s3, s4, s5, s6, s7, s8, s9, .val (.int vp), s11, s12, .val (.ref ea), .val (.int (own_n (es ++ [cv]))), s15, s16]) rfl
    refine ⟨T, L', h', X, N, E, K, V, hn, fun target kt => ?_⟩
    refine XS.iload X0.here hx rfl (hb hby at_438) rfl ?_
    refine XS.bipush X0.here hx rfl (hb hby at_440) ?_
    refine XS.icmpNo X0.here hx rfl (hb hby at_442) rfl (flt hc442).1 ?_
    refine XS.aload X0.here hx rfl (hb hby at_445) rfl rfl ?_
    refine XS.iload X0.here hx rfl (hb hby at_447) rfl ?_
    refine XS.bipush X0.here hx rfl (hb hby at_449) ?_
    refine XS.iload X0.here hx rfl (hb hby at_451) rfl ?_
    refine XS.bipush X0.here hx rfl (hb hby at_453) ?_
    refine XS.idiv X0.here hx rfl (hb hby at_455) rfl (by decide : ¬ ((10 : Int32) = (0 : Int32))) ?_
    refine XS.bipush X0.here hx rfl (hb hby at_456) ?_
    refine iremM X0 hx rfl (hb hby at_458) rfl (by decide : ¬ ((10 : Int32) = (0 : Int32))) ?_
    refine XS.iadd X0.here hx rfl (hb hby at_459) rfl ?_
    refine XS.i2c X0.here hx rfl (hb hby at_460) rfl ?_
    exact st _ kt
theorem tq465 {p : Program} {l : Launch} {e : Env} {s : State} {m : MethodId} {args : Array Value} {below : List Frame} {meth : Method} {c : Code} {T0 : State} {locs : List Loc} {Z : State} {a0 : Array Value} (hw : ∀ d ∈ tables_1, d.before a0 Z = true) (s0 s1 s2 s3 s4 s5 s6 s7 s8 s9 s11 s12 s15 s16 : Slot) (vp cv : Int32) (ea : Addr) (k7 : ClassId) (es es2 : List Int32) (h0 : Heap) (n0 : Nat) (X0 : Stand p l e room_1 s m args below meth c T0 locs 7 36) (N0 : Fr n0 locs) (hx : p.tables.exec = Jvm.exec) (hZ : Z.Warmed39 s.vm) (hby : c.code = code) (hml : c.maxLocals = 17) (hown : s.vm.findClass "com/example/traqt/traqt/moqt/MoqtUriToStringPinLaw" = some m.cls) (e0 : T0.heap = h0) (O0 : Old Z n0 h0) (HV_ea : Arv Z h0 ea k7 .char (20 : Int32) (own_ex es) (.int 0)) (g_ea : n0 ≤ ea) (hl : es.length ≤ 16) (hcv : (((48 : Int32) + (vp % (10 : Int32))).toUInt32.toUInt16.toUInt32.toInt32).toUInt32.toUInt16.toUInt32.toInt32 = cv) (he2 : es2 = (es ++ [cv])) :
    ∃ (T' : State) (locs' : List Loc) (h' : Heap), Stand p l e room_1 s m args below meth c T' locs' 7 36 ∧ Fr n0 locs' ∧ T'.heap = h' ∧ Keep h0 h' [ea] ∧ Arv Z h' ea k7 .char (20 : Int32) (own_ex es2) (.int 0) ∧ es2.length ≤ 17 ∧
      ∀ target, Steps p.tables e below (T'.setTop (mkF m 482 #[s0, s1, s2, s3, s4, s5, s6, s7, s8, s9, .val (.int vp), s11, s12, .val (.ref ea), .val (.int (own_n es2)), s15, s16] [])) target → Steps p.tables e below (T0.setTop (mkF m 465 #[s0, s1, s2, s3, s4, s5, s6, s7, s8, s9, .val (.int vp), s11, s12, .val (.ref ea), .val (.int (own_n es)), s15, s16] [])) target := by
  subst he2
  obtain ⟨T, L', h', X, N, E, K, V, hn, st⟩ := own_core X0 N0 hx hZ e0 HV_ea g_ea hl (by decide) (x := (((48 : Int32) + (vp % (10 : Int32))).toUInt32.toUInt16.toUInt32.toInt32)) hcv (L := #[s0, s1, s2, s3, s4, s5, s6, s7, s8, s9, .val (.int vp), s11, s12, .val (.ref ea), .val (.int (own_n es)), s15, s16]) (hb hby at_478) (hb hby at_479) rfl (L' := #[s0, s1, s2, s3, s4, s5, s6, s7, s8, s9, .val (.int vp), s11, s12, .val (.ref ea), .val (.int (own_n (es ++ [cv]))), s15, s16]) rfl
  refine ⟨T, L', h', X, N, E, K, V, hn, fun target kt => ?_⟩
  refine XS.aload X0.here hx rfl (hb hby at_465) rfl rfl ?_
  refine XS.iload X0.here hx rfl (hb hby at_467) rfl ?_
  refine XS.bipush X0.here hx rfl (hb hby at_469) ?_
  refine XS.iload X0.here hx rfl (hb hby at_471) rfl ?_
  refine XS.bipush X0.here hx rfl (hb hby at_473) ?_
  refine iremM X0 hx rfl (hb hby at_475) rfl (by decide : ¬ ((10 : Int32) = (0 : Int32))) ?_
  refine XS.iadd X0.here hx rfl (hb hby at_476) rfl ?_
  refine XS.i2c X0.here hx rfl (hb hby at_477) rfl ?_
  exact st _ kt
theorem tq482 {p : Program} {l : Launch} {e : Env} {s : State} {m : MethodId} {args : Array Value} {below : List Frame} {meth : Method} {c : Code} {T0 : State} {locs : List Loc} {Z : State} {a0 : Array Value} (hw : ∀ d ∈ tables_1, d.before a0 Z = true) (s0 s1 s2 s3 s4 s6 s7 s9 s10 s11 s12 s15 s16 : Slot) (kl cv : Int32) (ea : Addr) (k7 : ClassId) (es es2 : List Int32) (h0 : Heap) (n0 : Nat) (X0 : Stand p l e room_1 s m args below meth c T0 locs 7 36) (N0 : Fr n0 locs) (hx : p.tables.exec = Jvm.exec) (hZ : Z.Warmed39 s.vm) (hby : c.code = code) (hml : c.maxLocals = 17) (hown : s.vm.findClass "com/example/traqt/traqt/moqt/MoqtUriToStringPinLaw" = some m.cls) (e0 : T0.heap = h0) (O0 : Old Z n0 h0) (HV_ea : Arv Z h0 ea k7 .char (20 : Int32) (own_ex es) (.int 0)) (g_ea : n0 ≤ ea) (hl : es.length ≤ 17) (hcv : cv.toUInt32.toUInt16.toUInt32.toInt32 = cv) (he2 : es2 = (if kl < (1 : Int32) then es else (es ++ [cv]))) :
    ∃ (T' : State) (locs' : List Loc) (h' : Heap), Stand p l e room_1 s m args below meth c T' locs' 7 36 ∧ Fr n0 locs' ∧ T'.heap = h' ∧ Keep h0 h' [ea] ∧ Arv Z h' ea k7 .char (20 : Int32) (own_ex es2) (.int 0) ∧ es2.length ≤ 18 ∧
      ∀ target, Steps p.tables e below (T'.setTop (mkF m 498 #[s0, s1, s2, s3, s4, .val (.int kl), s6, s7, .val (.int cv), s9, s10, s11, s12, .val (.ref ea), .val (.int (own_n es2)), s15, s16] [])) target → Steps p.tables e below (T0.setTop (mkF m 482 #[s0, s1, s2, s3, s4, .val (.int kl), s6, s7, .val (.int cv), s9, s10, s11, s12, .val (.ref ea), .val (.int (own_n es)), s15, s16] [])) target := by
  by_cases hc485 : kl < (1 : Int32)
  · obtain rfl : es2 = es := by rw [he2, if_pos hc485]
    refine ⟨T0, _, _, X0, N0, e0, Keep.refl h0 [ea], HV_ea, (Nat.le_succ_of_le hl), fun target kt => ?_⟩
    refine XS.iload X0.here hx rfl (hb hby at_482) rfl ?_
    refine XS.iconst X0.here hx rfl (hb hby at_484) ?_
    refine XS.icmpYes X0.here hx rfl (pc0 := 485) (pc' := 498) rfl (hb hby at_485) rfl (tlt hc485).1 (by decide) (by decide) ?_
    exact kt
  · obtain rfl : es2 = es ++ [cv] := by rw [he2, if_neg hc485]
    obtain ⟨T, L', h', X, N, E, K, V, hn, st⟩ := own_core X0 N0 hx hZ e0 HV_ea g_ea hl (by decide) (x := cv) hcv (L := #[s0, s1, s2, s3, s4, .val (.int kl), s6, s7, .val (.int cv), s9, s10, s11, s12, .val (.ref ea), .val (.int (own_n es)), s15, s16]) (hb hby at_494) (hb hby at_495) rfl (L' := #[s0, s1, s2, s3, s4, .val (.int kl), s6, s7, .val (.int cv), s9, s10, s11, s12, .val (.ref ea), .val (.int (own_n (es ++ [cv]))), s15, s16]) rfl
    refine ⟨T, L', h', X, N, E, K, V, hn, fun target kt => ?_⟩
    refine XS.iload X0.here hx rfl (hb hby at_482) rfl ?_
    refine XS.iconst X0.here hx rfl (hb hby at_484) ?_
    refine XS.icmpNo X0.here hx rfl (hb hby at_485) rfl (flt hc485).1 ?_
    refine XS.aload X0.here hx rfl (hb hby at_488) rfl rfl ?_
    refine XS.iload X0.here hx rfl (hb hby at_490) rfl ?_
    refine XS.iload X0.here hx rfl (hb hby at_492) rfl ?_
    exact st _ kt
theorem tq498 {p : Program} {l : Launch} {e : Env} {s : State} {m : MethodId} {args : Array Value} {below : List Frame} {meth : Method} {c : Code} {T0 : State} {locs : List Loc} {Z : State} {a0 : Array Value} (hw : ∀ d ∈ tables_1, d.before a0 Z = true) (s0 s1 s2 s3 s4 s6 s7 s8 s10 s11 s12 s15 s16 : Slot) (kl cv : Int32) (ea : Addr) (k7 : ClassId) (es es2 : List Int32) (h0 : Heap) (n0 : Nat) (X0 : Stand p l e room_1 s m args below meth c T0 locs 7 36) (N0 : Fr n0 locs) (hx : p.tables.exec = Jvm.exec) (hZ : Z.Warmed39 s.vm) (hby : c.code = code) (hml : c.maxLocals = 17) (hown : s.vm.findClass "com/example/traqt/traqt/moqt/MoqtUriToStringPinLaw" = some m.cls) (e0 : T0.heap = h0) (O0 : Old Z n0 h0) (HV_ea : Arv Z h0 ea k7 .char (20 : Int32) (own_ex es) (.int 0)) (g_ea : n0 ≤ ea) (hl : es.length ≤ 18) (hcv : cv.toUInt32.toUInt16.toUInt32.toInt32 = cv) (he2 : es2 = (if kl < (2 : Int32) then es else (es ++ [cv]))) :
    ∃ (T' : State) (locs' : List Loc) (h' : Heap), Stand p l e room_1 s m args below meth c T' locs' 7 36 ∧ Fr n0 locs' ∧ T'.heap = h' ∧ Keep h0 h' [ea] ∧ Arv Z h' ea k7 .char (20 : Int32) (own_ex es2) (.int 0) ∧ es2.length ≤ 19 ∧
      ∀ target, Steps p.tables e below (T'.setTop (mkF m 514 #[s0, s1, s2, s3, s4, .val (.int kl), s6, s7, s8, .val (.int cv), s10, s11, s12, .val (.ref ea), .val (.int (own_n es2)), s15, s16] [])) target → Steps p.tables e below (T0.setTop (mkF m 498 #[s0, s1, s2, s3, s4, .val (.int kl), s6, s7, s8, .val (.int cv), s10, s11, s12, .val (.ref ea), .val (.int (own_n es)), s15, s16] [])) target := by
  by_cases hc501 : kl < (2 : Int32)
  · obtain rfl : es2 = es := by rw [he2, if_pos hc501]
    refine ⟨T0, _, _, X0, N0, e0, Keep.refl h0 [ea], HV_ea, (Nat.le_succ_of_le hl), fun target kt => ?_⟩
    refine XS.iload X0.here hx rfl (hb hby at_498) rfl ?_
    refine XS.iconst X0.here hx rfl (hb hby at_500) ?_
    refine XS.icmpYes X0.here hx rfl (pc0 := 501) (pc' := 514) rfl (hb hby at_501) rfl (tlt hc501).1 (by decide) (by decide) ?_
    exact kt
  · obtain rfl : es2 = es ++ [cv] := by rw [he2, if_neg hc501]
    obtain ⟨T, L', h', X, N, E, K, V, hn, st⟩ := own_core X0 N0 hx hZ e0 HV_ea g_ea hl (by decide) (x := cv) hcv (L := #[s0, s1, s2, s3, s4, .val (.int kl), s6, s7, s8, .val (.int cv), s10, s11, s12, .val (.ref ea), .val (.int (own_n es)), s15, s16]) (hb hby at_510) (hb hby at_511) rfl (L' := #[s0, s1, s2, s3, s4, .val (.int kl), s6, s7, s8, .val (.int cv), s10, s11, s12, .val (.ref ea), .val (.int (own_n (es ++ [cv]))), s15, s16]) rfl
    refine ⟨T, L', h', X, N, E, K, V, hn, fun target kt => ?_⟩
    refine XS.iload X0.here hx rfl (hb hby at_498) rfl ?_
    refine XS.iconst X0.here hx rfl (hb hby at_500) ?_
    refine XS.icmpNo X0.here hx rfl (hb hby at_501) rfl (flt hc501).1 ?_
    refine XS.aload X0.here hx rfl (hb hby at_504) rfl rfl ?_
    refine XS.iload X0.here hx rfl (hb hby at_506) rfl ?_
    refine XS.iload X0.here hx rfl (hb hby at_508) rfl ?_
    exact st _ kt
theorem own_core0 {p : Program} {l : Launch} {e : Env} {R : Room} {s : State} {m : MethodId} {args : Array Value} {below : List Frame} {meth : Method} {c : Code} {T0 : State} {locs : List Loc} {cells slots : Nat} {Z : State} {h0 : Heap} {n0 : Nat} {ea : Addr} {k7 : ClassId} {es : List Int32} (X0 : Stand p l e R s m args below meth c T0 locs cells slots) (N0 : Fr n0 locs) (hx : p.tables.exec = Jvm.exec) (hZ : Z.Warmed39 s.vm) (e0 : T0.heap = h0) (HV : Arv Z h0 ea k7 .char (20 : Int32) (own_ex es) (.int 0)) (g : n0 ≤ ea) (hl : es.length ≤ 19) {x j : Int32} (hcv : x.toUInt32.toUInt16.toUInt32.toInt32 = x) (hj : own_n es = j) {pc : Nat} {L : Array Slot} (d1 : decode c.code pc = .ok (.castore, 1)) :
    ∃ (T' : State) (locs' : List Loc) (h' : Heap), Stand p l e R s m args below meth c T' locs' cells slots ∧ Fr n0 locs' ∧ T'.heap = h' ∧ Keep h0 h' [ea] ∧ Arv Z h' ea k7 .char (20 : Int32) (own_ex (es ++ [x])) (.int 0) ∧ ∀ target, Steps p.tables e below (T'.setTop (mkF m (pc + 1) L [])) target → Steps p.tables e below (T0.setTop (mkF m pc L [.int x, .int j, .ref ea])) target := by
  subst hj
  obtain ⟨cl1, Ar1, q1, S1, Nn1, Hh1, G1⟩ := id HV
  have hin1 : ¬ ((own_n es) < 0 ∨ cl1.slots.size ≤ ((own_n es)).toNatClampNeg) := inb_of S1 ⟨own_nge (by omega), own_n20 hl (by decide)⟩
  obtain ⟨T2, h2, X2, e2, W2, st2⟩ := stC X0 hx hZ e0 Ar1 (j := (own_n es)) (x := x) hin1 (g := (mkF m pc L [.int x, .int (own_n es), .ref ea])) rfl rfl d1
  have V2 := Arv.set Ar1 q1 S1 Nn1 Hh1 G1 (fits_nar_char _) W2 ((own_n es)).toNatClampNeg rfl (own_exl hl (by decide))
  exact ⟨T2, _, _, X2, Fr.snoc X2 N0 g, e2, (Keep.refl h0 [ea]).wr W2 (Or.inl (List.mem_of_getElem? (i := 0) rfl)), (by rw [← own_exS hl (by decide) hcv]; exact V2), st2⟩
def own_pk (b x : Int32) : Int32 := if b = (0 : Int32) then x else (58 : Int32)
theorem tp16 {p : Program} {l : Launch} {e : Env} {s : State} {m : MethodId} {args : Array Value} {below : List Frame} {meth : Method} {c : Code} {T0 : State} {locs : List Loc} {Z : State} {a0 : Array Value} (hw : ∀ d ∈ tables_1, d.before a0 Z = true) (s1 s2 s4 s5 s7 s8 s9 s10 s11 s12 s13 s14 s15 s16 : Slot) (p1 p4 ca : Int32) (h0 : Heap) (n0 : Nat) (X0 : Stand p l e room_1 s m args below meth c T0 locs 0 0) (N0 : Fr n0 locs) (hx : p.tables.exec = Jvm.exec) (hZ : Z.Warmed39 s.vm) (hby : c.code = code) (hml : c.maxLocals = 17) (hown : s.vm.findClass "com/example/traqt/traqt/moqt/MoqtUriToStringPinLaw" = some m.cls) (e0 : T0.heap = h0) (O0 : Old Z n0 h0) (hca : ca = (own_pk (((p4.toUInt32 >>> ((4 : Int32) &&& 31).toUInt32).toInt32) &&& (1 : Int32)) ((p1 &&& (255 : Int32)).toUInt32.toUInt16.toUInt32.toInt32))) :
    ∃ (T' : State) (locs' : List Loc), Stand p l e room_1 s m args below meth c T' locs' 0 0 ∧ Fr n0 locs' ∧ T'.heap = h0 ∧
      ∀ target, Steps p.tables e below (T'.setTop (mkF m 37 #[.val (.int p1), s1, s2, .val (.int p4), s4, s5, .val (.int ca), s7, s8, s9, s10, s11, s12, s13, s14, s15, s16] [])) target → Steps p.tables e below (T0.setTop (mkF m 16 #[.val (.int p1), s1, s2, .val (.int p4), s4, s5, .unset, s7, s8, s9, s10, s11, s12, s13, s14, s15, s16] [])) target := by
  by_cases hc21 : (((p4.toUInt32 >>> ((4 : Int32) &&& 31).toUInt32).toInt32) &&& (1 : Int32)) = (0 : Int32)
  · obtain rfl : ca = ((p1 &&& (255 : Int32)).toUInt32.toUInt16.toUInt32.toInt32) := by rw [hca, own_pk, if_pos hc21]
    refine ⟨T0, _, X0, N0, e0, fun target kt => ?_⟩
    refine XS.iloadN X0.here hx rfl (hb hby at_16) rfl ?_
    refine XS.iconst X0.here hx rfl (hb hby at_17) ?_
    refine XS.iushr X0.here hx rfl (hb hby at_18) rfl ?_
    refine XS.iconst X0.here hx rfl (hb hby at_19) ?_
    refine XS.iand X0.here hx rfl (hb hby at_20) rfl ?_
    refine XS.ifYes X0.here hx rfl (pc0 := 21) (pc' := 29) rfl (hb hby at_21) rfl ((if0 _ _).trans (teq hc21).1) (by decide) (by decide) ?_
    refine XS.iloadN X0.here hx rfl (hb hby at_29) rfl ?_
    refine XS.sipush X0.here hx rfl (hb hby at_30) ?_
    refine XS.iand X0.here hx rfl (hb hby at_33) rfl ?_
    refine XS.i2c X0.here hx rfl (hb hby at_34) rfl ?_
    refine XS.istore X0.here hx rfl (hb hby at_35) rfl (l' := #[.val (.int p1), s1, s2, .val (.int p4), s4, s5, .val (.int ((p1 &&& (255 : Int32)).toUInt32.toUInt16.toUInt32.toInt32)), s7, s8, s9, s10, s11, s12, s13, s14, s15, s16]) rfl ?_
    exact kt
  · obtain rfl : ca = (58 : Int32) := by rw [hca, own_pk, if_neg hc21]
    refine ⟨T0, _, X0, N0, e0, fun target kt => ?_⟩
    refine XS.iloadN X0.here hx rfl (hb hby at_16) rfl ?_
    refine XS.iconst X0.here hx rfl (hb hby at_17) ?_
    refine XS.iushr X0.here hx rfl (hb hby at_18) rfl ?_
    refine XS.iconst X0.here hx rfl (hb hby at_19) ?_
    refine XS.iand X0.here hx rfl (hb hby at_20) rfl ?_
    refine XS.ifNo X0.here hx rfl (hb hby at_21) rfl ((if0 _ _).trans (feq hc21).1) ?_
    refine XS.bipush X0.here hx rfl (hb hby at_24) ?_
    refine XS.goto X0.here hx rfl (pc0 := 26) (pc' := 35) rfl (hb hby at_26) (by decide) (by decide) ?_
    refine XS.istore X0.here hx rfl (hb hby at_35) rfl (l' := #[.val (.int p1), s1, s2, .val (.int p4), s4, s5, .val (.int 58), s7, s8, s9, s10, s11, s12, s13, s14, s15, s16]) rfl ?_
    exact kt
theorem tp37 {p : Program} {l : Launch} {e : Env} {s : State} {m : MethodId} {args : Array Value} {below : List Frame} {meth : Method} {c : Code} {T0 : State} {locs : List Loc} {Z : State} {a0 : Array Value} (hw : ∀ d ∈ tables_1, d.before a0 Z = true) (s1 s2 s4 s5 s6 s8 s9 s10 s11 s12 s13 s14 s15 s16 : Slot) (p1 p4 ca : Int32) (h0 : Heap) (n0 : Nat) (X0 : Stand p l e room_1 s m args below meth c T0 locs 0 0) (N0 : Fr n0 locs) (hx : p.tables.exec = Jvm.exec) (hZ : Z.Warmed39 s.vm) (hby : c.code = code) (hml : c.maxLocals = 17) (hown : s.vm.findClass "com/example/traqt/traqt/moqt/MoqtUriToStringPinLaw" = some m.cls) (e0 : T0.heap = h0) (O0 : Old Z n0 h0) (hca : ca = (own_pk (((p4.toUInt32 >>> ((5 : Int32) &&& 31).toUInt32).toInt32) &&& (1 : Int32)) ((((p1.toUInt32 >>> ((8 : Int32) &&& 31).toUInt32).toInt32) &&& (255 : Int32)).toUInt32.toUInt16.toUInt32.toInt32))) :
    ∃ (T' : State) (locs' : List Loc), Stand p l e room_1 s m args below meth c T' locs' 0 0 ∧ Fr n0 locs' ∧ T'.heap = h0 ∧
      ∀ target, Steps p.tables e below (T'.setTop (mkF m 61 #[.val (.int p1), s1, s2, .val (.int p4), s4, s5, s6, .val (.int ca), s8, s9, s10, s11, s12, s13, s14, s15, s16] [])) target → Steps p.tables e below (T0.setTop (mkF m 37 #[.val (.int p1), s1, s2, .val (.int p4), s4, s5, s6, .unset, s8, s9, s10, s11, s12, s13, s14, s15, s16] [])) target := by
  by_cases hc42 : (((p4.toUInt32 >>> ((5 : Int32) &&& 31).toUInt32).toInt32) &&& (1 : Int32)) = (0 : Int32)
  · obtain rfl : ca = ((((p1.toUInt32 >>> ((8 : Int32) &&& 31).toUInt32).toInt32) &&& (255 : Int32)).toUInt32.toUInt16.toUInt32.toInt32) := by rw [hca, own_pk, if_pos hc42]
    refine ⟨T0, _, X0, N0, e0, fun target kt => ?_⟩
    refine XS.iloadN X0.here hx rfl (hb hby at_37) rfl ?_
    refine XS.iconst X0.here hx rfl (hb hby at_38) ?_
    refine XS.iushr X0.here hx rfl (hb hby at_39) rfl ?_
    refine XS.iconst X0.here hx rfl (hb hby at_40) ?_
    refine XS.iand X0.here hx rfl (hb hby at_41) rfl ?_
    refine XS.ifYes X0.here hx rfl (pc0 := 42) (pc' := 50) rfl (hb hby at_42) rfl ((if0 _ _).trans (teq hc42).1) (by decide) (by decide) ?_
    refine XS.iloadN X0.here hx rfl (hb hby at_50) rfl ?_
    refine XS.bipush X0.here hx rfl (hb hby at_51) ?_
    refine XS.iushr X0.here hx rfl (hb hby at_53) rfl ?_
    refine XS.sipush X0.here hx rfl (hb hby at_54) ?_
    refine XS.iand X0.here hx rfl (hb hby at_57) rfl ?_
    refine XS.i2c X0.here hx rfl (hb hby at_58) rfl ?_
    refine XS.istore X0.here hx rfl (hb hby at_59) rfl (l' := #[.val (.int p1), s1, s2, .val (.int p4), s4, s5, s6, .val (.int ((((p1.toUInt32 >>> ((8 : Int32) &&& 31).toUInt32).toInt32) &&& (255 : Int32)).toUInt32.toUInt16.toUInt32.toInt32)), s8, s9, s10, s11, s12, s13, s14, s15, s16]) rfl ?_
    exact kt
  · obtain rfl : ca = (58 : Int32) := by rw [hca, own_pk, if_neg hc42]
    refine ⟨T0, _, X0, N0, e0, fun target kt => ?_⟩
    refine XS.iloadN X0.here hx rfl (hb hby at_37) rfl ?_
    refine XS.iconst X0.here hx rfl (hb hby at_38) ?_
    refine XS.iushr X0.here hx rfl (hb hby at_39) rfl ?_
    refine XS.iconst X0.here hx rfl (hb hby at_40) ?_
    refine XS.iand X0.here hx rfl (hb hby at_41) rfl ?_
    refine XS.ifNo X0.here hx rfl (hb hby at_42) rfl ((if0 _ _).trans (feq hc42).1) ?_
    refine XS.bipush X0.here hx rfl (hb hby at_45) ?_
    refine XS.goto X0.here hx rfl (pc0 := 47) (pc' := 59) rfl (hb hby at_47) (by decide) (by decide) ?_
    refine XS.istore X0.here hx rfl (hb hby at_59) rfl (l' := #[.val (.int p1), s1, s2, .val (.int p4), s4, s5, s6, .val (.int 58), s8, s9, s10, s11, s12, s13, s14, s15, s16]) rfl ?_
    exact kt
def own_col (k a b : Int32) : Int32 := if k < (1 : Int32) then (0 : Int32) else if a = (58 : Int32) then (1 : Int32) else if k < (2 : Int32) then (0 : Int32) else if b = (58 : Int32) then (1 : Int32) else (0 : Int32)
theorem own_lt12 {k : Int32} (h : k < (1 : Int32)) : k < (2 : Int32) := by
  rw [Int32.lt_iff_toInt_lt] at *
  rw [show (1 : Int32).toInt = 1 from rfl] at h
  rw [show (2 : Int32).toInt = 2 from rfl]
  omega
theorem tcol {p : Program} {l : Launch} {e : Env} {s : State} {m : MethodId} {args : Array Value} {below : List Frame} {meth : Method} {c : Code} {T0 : State} {locs : List Loc} {Z : State} {a0 : Array Value} (hw : ∀ d ∈ tables_1, d.before a0 Z = true) (s0 s1 s2 s3 s5 s8 s9 s10 s11 s12 s13 s14 s16 : Slot) (kl ca cb cl : Int32) (h0 : Heap) (n0 : Nat) (X0 : Stand p l e room_1 s m args below meth c T0 locs 7 36) (N0 : Fr n0 locs) (hx : p.tables.exec = Jvm.exec) (hZ : Z.Warmed39 s.vm) (hby : c.code = code) (hml : c.maxLocals = 17) (hown : s.vm.findClass "com/example/traqt/traqt/moqt/MoqtUriToStringPinLaw" = some m.cls) (e0 : T0.heap = h0) (O0 : Old Z n0 h0) (hcl : cl = (own_col kl ca cb)) :
    ∃ (T' : State) (locs' : List Loc), Stand p l e room_1 s m args below meth c T' locs' 7 36 ∧ Fr n0 locs' ∧ T'.heap = h0 ∧
      ∀ target, Steps p.tables e below (T'.setTop (mkF m 284 #[s0, s1, s2, s3, .val (.int kl), s5, .val (.int ca), .val (.int cb), s8, s9, s10, s11, s12, s13, s14, .val (.int cl), s16] [])) target → Steps p.tables e below (T0.setTop (mkF m 251 #[s0, s1, s2, s3, .val (.int kl), s5, .val (.int ca), .val (.int cb), s8, s9, s10, s11, s12, s13, s14, .unset, s16] [])) target := by
  by_cases hc254 : kl < (1 : Int32)
  · have hc267 := own_lt12 hc254
    obtain rfl : cl = (0 : Int32) := by rw [hcl, own_col, if_pos hc254]
    refine ⟨T0, _, X0, N0, e0, fun target kt => ?_⟩
    refine XS.iload X0.here hx rfl (hb hby at_251) rfl ?_
    refine XS.iconst X0.here hx rfl (hb hby at_253) ?_
    refine XS.icmpYes X0.here hx rfl (pc0 := 254) (pc' := 264) rfl (hb hby at_254) rfl (tlt hc254).1 (by decide) (by decide) ?_
    refine XS.iload X0.here hx rfl (hb hby at_264) rfl ?_
    refine XS.iconst X0.here hx rfl (hb hby at_266) ?_
    refine XS.icmpYes X0.here hx rfl (pc0 := 267) (pc' := 281) rfl (hb hby at_267) rfl (tlt hc267).1 (by decide) (by decide) ?_
    refine XS.iconst X0.here hx rfl (hb hby at_281) ?_
    refine XS.istore X0.here hx rfl (hb hby at_282) rfl (l' := #[s0, s1, s2, s3, .val (.int kl), s5, .val (.int ca), .val (.int cb), s8, s9, s10, s11, s12, s13, s14, .val (.int 0), s16]) rfl ?_
    exact kt
  by_cases hc261 : ca = (58 : Int32)
  · obtain rfl : cl = (1 : Int32) := by rw [hcl, own_col, if_neg hc254, if_pos hc261]
    refine ⟨T0, _, X0, N0, e0, fun target kt => ?_⟩
    refine XS.iload X0.here hx rfl (hb hby at_251) rfl ?_
    refine XS.iconst X0.here hx rfl (hb hby at_253) ?_
    refine XS.icmpNo X0.here hx rfl (hb hby at_254) rfl (flt hc254).1 ?_
    refine XS.iload X0.here hx rfl (hb hby at_257) rfl ?_
    refine XS.bipush X0.here hx rfl (hb hby at_259) ?_
    refine XS.icmpYes X0.here hx rfl (pc0 := 261) (pc' := 277) rfl (hb hby at_261) rfl (teq hc261).1 (by decide) (by decide) ?_
    refine XS.iconst X0.here hx rfl (hb hby at_277) ?_
    refine XS.goto X0.here hx rfl (pc0 := 278) (pc' := 282) rfl (hb hby at_278) (by decide) (by decide) ?_
    refine XS.istore X0.here hx rfl (hb hby at_282) rfl (l' := #[s0, s1, s2, s3, .val (.int kl), s5, .val (.int ca), .val (.int cb), s8, s9, s10, s11, s12, s13, s14, .val (.int 1), s16]) rfl ?_
    exact kt
  by_cases hc267 : kl < (2 : Int32)
  · obtain rfl : cl = (0 : Int32) := by rw [hcl, own_col, if_neg hc254, if_neg hc261, if_pos hc267]
    refine ⟨T0, _, X0, N0, e0, fun target kt => ?_⟩
    refine XS.iload X0.here hx rfl (hb hby at_251) rfl ?_
    refine XS.iconst X0.here hx rfl (hb hby at_253) ?_
    refine XS.icmpNo X0.here hx rfl (hb hby at_254) rfl (flt hc254).1 ?_
    refine XS.iload X0.here hx rfl (hb hby at_257) rfl ?_
    refine XS.bipush X0.here hx rfl (hb hby at_259) ?_
    refine XS.icmpNo X0.here hx rfl (hb hby at_261) rfl (feq hc261).1 ?_
    refine XS.iload X0.here hx rfl (hb hby at_264) rfl ?_
    refine XS.iconst X0.here hx rfl (hb hby at_266) ?_
    refine XS.icmpYes X0.here hx rfl (pc0 := 267) (pc' := 281) rfl (hb hby at_267) rfl (tlt hc267).1 (by decide) (by decide) ?_
    refine XS.iconst X0.here hx rfl (hb hby at_281) ?_
    refine XS.istore X0.here hx rfl (hb hby at_282) rfl (l' := #[s0, s1, s2, s3, .val (.int kl), s5, .val (.int ca), .val (.int cb), s8, s9, s10, s11, s12, s13, s14, .val (.int 0), s16]) rfl ?_
    exact kt
  by_cases hc274 : cb = (58 : Int32)
  · obtain rfl : cl = (1 : Int32) := by rw [hcl, own_col, if_neg hc254, if_neg hc261, if_neg hc267, if_pos hc274]
    refine ⟨T0, _, X0, N0, e0, fun target kt => ?_⟩
    refine XS.iload X0.here hx rfl (hb hby at_251) rfl ?_
    refine XS.iconst X0.here hx rfl (hb hby at_253) ?_
    refine XS.icmpNo X0.here hx rfl (hb hby at_254) rfl (flt hc254).1 ?_
    refine XS.iload X0.here hx rfl (hb hby at_257) rfl ?_
    refine XS.bipush X0.here hx rfl (hb hby at_259) ?_
    refine XS.icmpNo X0.here hx rfl (hb hby at_261) rfl (feq hc261).1 ?_
    refine XS.iload X0.here hx rfl (hb hby at_264) rfl ?_
    refine XS.iconst X0.here hx rfl (hb hby at_266) ?_
    refine XS.icmpNo X0.here hx rfl (hb hby at_267) rfl (flt hc267).1 ?_
    refine XS.iload X0.here hx rfl (hb hby at_270) rfl ?_
    refine XS.bipush X0.here hx rfl (hb hby at_272) ?_
    refine XS.icmpNo X0.here hx rfl (hb hby at_274) rfl (teq hc274).2 ?_
    refine XS.iconst X0.here hx rfl (hb hby at_277) ?_
    refine XS.goto X0.here hx rfl (pc0 := 278) (pc' := 282) rfl (hb hby at_278) (by decide) (by decide) ?_
    refine XS.istore X0.here hx rfl (hb hby at_282) rfl (l' := #[s0, s1, s2, s3, .val (.int kl), s5, .val (.int ca), .val (.int cb), s8, s9, s10, s11, s12, s13, s14, .val (.int 1), s16]) rfl ?_
    exact kt
  · obtain rfl : cl = (0 : Int32) := by rw [hcl, own_col, if_neg hc254, if_neg hc261, if_neg hc267, if_neg hc274]
    refine ⟨T0, _, X0, N0, e0, fun target kt => ?_⟩
    refine XS.iload X0.here hx rfl (hb hby at_251) rfl ?_
    refine XS.iconst X0.here hx rfl (hb hby at_253) ?_
    refine XS.icmpNo X0.here hx rfl (hb hby at_254) rfl (flt hc254).1 ?_
    refine XS.iload X0.here hx rfl (hb hby at_257) rfl ?_
    refine XS.bipush X0.here hx rfl (hb hby at_259) ?_
    refine XS.icmpNo X0.here hx rfl (hb hby at_261) rfl (feq hc261).1 ?_
    refine XS.iload X0.here hx rfl (hb hby at_264) rfl ?_
    refine XS.iconst X0.here hx rfl (hb hby at_266) ?_
    refine XS.icmpNo X0.here hx rfl (hb hby at_267) rfl (flt hc267).1 ?_
    refine XS.iload X0.here hx rfl (hb hby at_270) rfl ?_
    refine XS.bipush X0.here hx rfl (hb hby at_272) ?_
    refine XS.icmpYes X0.here hx rfl (pc0 := 274) (pc' := 281) rfl (hb hby at_274) rfl (feq hc274).2 (by decide) (by decide) ?_
    refine XS.iconst X0.here hx rfl (hb hby at_281) ?_
    refine XS.istore X0.here hx rfl (hb hby at_282) rfl (l' := #[s0, s1, s2, s3, .val (.int kl), s5, .val (.int ca), .val (.int cb), s8, s9, s10, s11, s12, s13, s14, .val (.int 0), s16]) rfl ?_
    exact kt
theorem tq198 {p : Program} {l : Launch} {e : Env} {s : State} {m : MethodId} {args : Array Value} {below : List Frame} {meth : Method} {c : Code} {T0 : State} {locs : List Loc} {Z : State} {a0 : Array Value} (hw : ∀ d ∈ tables_1, d.before a0 Z = true) (s0 s1 s2 s3 s11 s12 s16 : Slot) (kl pl ca cb qa qb vp w27 : Int32) (w29 w33 w37 w41 w45 : List Int32) (w49 : Int32) (w50 : List Int32) (w54 : Int32) (w55 : List Int32) (w59 : Int32) (w60 : List Int32) (w64 : Int32) (w65 : List Int32) (w69 : Int32) (w70 w74 w78 : List Int32) (h0 : Heap) (n0 : Nat) (X0 : Stand p l e room_1 s m args below meth c T0 locs 6 16) (N0 : Fr n0 locs) (hx : p.tables.exec = Jvm.exec) (hZ : Z.Warmed39 s.vm) (hby : c.code = code) (hml : c.maxLocals = 17) (hown : s.vm.findClass "com/example/traqt/traqt/moqt/MoqtUriToStringPinLaw" = some m.cls) (e0 : T0.heap = h0) (O0 : Old Z n0 h0) (h251_hcl : w27 = (own_col kl ca cb)) (h284_he2 : w29 = (if w27 = (0 : Int32) then [(109 : Int32), (111 : Int32), (113 : Int32), (116 : Int32), (58 : Int32), (47 : Int32), (47 : Int32)] else ([(109 : Int32), (111 : Int32), (113 : Int32), (116 : Int32), (58 : Int32), (47 : Int32), (47 : Int32)] ++ [(91 : Int32)]))) (h299_hcv : ca.toUInt32.toUInt16.toUInt32.toInt32 = ca) (h299_he2 : w33 = (if kl < (1 : Int32) then w29 else (w29 ++ [ca]))) (h315_hcv : cb.toUInt32.toUInt16.toUInt32.toInt32 = cb) (h315_he2 : w37 = (if kl < (2 : Int32) then w33 else (w33 ++ [cb]))) (h331_he2 : w41 = (if w27 = (0 : Int32) then w37 else (w37 ++ [(93 : Int32)]))) (h346_he2 : w45 = (w41 ++ [(58 : Int32)])) (h356_hcv : (((48 : Int32) + (vp / (10000 : Int32))).toUInt32.toUInt16.toUInt32.toInt32).toUInt32.toUInt16.toUInt32.toInt32 = w49) (h356_he2 : w50 = (if vp < (10000 : Int32) then w45 else (w45 ++ [w49]))) (h382_hcv : (((48 : Int32) + ((vp / (1000 : Int32)) % (10 : Int32))).toUInt32.toUInt16.toUInt32.toInt32).toUInt32.toUInt16.toUInt32.toInt32 = w54) (h382_he2 : w55 = (if vp < (1000 : Int32) then w50 else (w50 ++ [w54]))) (h411_hcv : (((48 : Int32) + ((vp / (100 : Int32)) % (10 : Int32))).toUInt32.toUInt16.toUInt32.toInt32).toUInt32.toUInt16.toUInt32.toInt32 = w59) (h411_he2 : w60 = (if vp < (100 : Int32) then w55 else (w55 ++ [w59]))) (h438_hcv : (((48 : Int32) + ((vp / (10 : Int32)) % (10 : Int32))).toUInt32.toUInt16.toUInt32.toInt32).toUInt32.toUInt16.toUInt32.toInt32 = w64) (h438_he2 : w65 = (if vp < (10 : Int32) then w60 else (w60 ++ [w64]))) (h465_hcv : (((48 : Int32) + (vp % (10 : Int32))).toUInt32.toUInt16.toUInt32.toInt32).toUInt32.toUInt16.toUInt32.toInt32 = w69) (h465_he2 : w70 = (w65 ++ [w69])) (h482_hcv : qa.toUInt32.toUInt16.toUInt32.toInt32 = qa) (h482_he2 : w74 = (if pl < (1 : Int32) then w70 else (w70 ++ [qa]))) (h498_hcv : qb.toUInt32.toUInt16.toUInt32.toInt32 = qb) (h498_he2 : w78 = (if pl < (2 : Int32) then w74 else (w74 ++ [qb]))) :
    ∃ (T' : State) (locs' : List Loc) (h' : Heap) (b1 : Addr) (k1 : ClassId), Stand p l e room_1 s m args below meth c T' locs' 7 36 ∧ Fr n0 locs' ∧ T'.heap = h' ∧ Keep h0 h' [] ∧ h0.size ≤ b1 ∧ Arv Z h' b1 k1 .char (20 : Int32) (own_ex w78) (.int 0) ∧
      ∀ target, Steps p.tables e below (T'.setTop (mkF m 514 #[s0, s1, s2, s3, .val (.int kl), .val (.int pl), .val (.int ca), .val (.int cb), .val (.int qa), .val (.int qb), .val (.int vp), s11, s12, .val (.ref b1), .val (.int (own_n w78)), .val (.int w27), s16] [])) target → Steps p.tables e below (T0.setTop (mkF m 198 #[s0, s1, s2, s3, .val (.int kl), .val (.int pl), .val (.int ca), .val (.int cb), .val (.int qa), .val (.int qb), .val (.int vp), s11, s12, .unset, .unset, .unset, s16] [])) target := by
  have Z0 : n0 ≤ h0.size := O0.1 ▸ O0.2.1
  obtain ⟨T1, h1, k1, X1, e1, E1, A1, st1⟩ := newP X0 hx hZ (own_w hw 4 rfl) e0 (g := (mkF m 200 #[s0, s1, s2, s3, .val (.int kl), .val (.int pl), .val (.int ca), .val (.int cb), .val (.int qa), .val (.int qb), .val (.int vp), s11, s12, .unset, .unset, .unset, s16] [(.int 20)])) rfl (hb hby at_200) rfl (by decide) (cap := 20) (by decide) (by decide) (by decide) (by decide)
  obtain ⟨b1, g1⟩ : ∃ z, z = h0.size := ⟨_, rfl⟩
  rw [← g1] at A1 st1
  have g_b1 : n0 ≤ b1 := Nat.le_trans (Nat.le_trans Z0 (Keep.refl h0 []).1) (Nat.le_of_eq g1.symm)
  have sz_b1 : h0.size ≤ b1 := Nat.le_trans (Keep.refl h0 []).1 (Nat.le_of_eq g1.symm)
  have K2 : Keep h0 h1 [] := (Keep.refl h0 []).ext E1
  have O3 : Old Z n0 h1 := O0.ext E1
  have V1 : Arv Z h1 b1 k1 .char (20 : Int32) [(.int 0), (.int 0), (.int 0), (.int 0), (.int 0), (.int 0), (.int 0), (.int 0), (.int 0), (.int 0), (.int 0), (.int 0), (.int 0), (.int 0), (.int 0), (.int 0), (.int 0), (.int 0), (.int 0), (.int 0)] (.int 0) := (Arv.new A1 (by decide)).pad (pad_rep [] (.int 0) 20)
  replace X1 := X1.more (cells' := 7) (slots' := 36) (by decide) (by decide)
  have V4 : Arv Z h1 b1 k1 .char (20 : Int32) (own_ex own_nil) (.int 0) := V1
  obtain ⟨T5, L5, h5, X5, N5, e5, K5, V5, st5⟩ := own_core0 X1 N0 hx hZ e1 V4 g_b1 (by decide) (x := (109 : Int32)) (by decide) (j := (0 : Int32)) rfl (L := #[s0, s1, s2, s3, .val (.int kl), .val (.int pl), .val (.int ca), .val (.int cb), .val (.int qa), .val (.int qb), .val (.int vp), s11, s12, .val (.ref b1), .unset, .unset, s16]) (hb hby at_209)
  have K6 : Keep h0 h5 [] := K2.trans K5 (allS (Or.inr sz_b1) all0)
  have O7 : Old Z n0 h5 := O3.keep K5 (allS g_b1 all0)
  have U5 : Arv Z h5 b1 k1 .char (20 : Int32) (own_ex [(109 : Int32)]) (.int 0) := V5
  obtain ⟨T8, L8, h8, X8, N8, e8, K8, V8, st8⟩ := own_core0 X5 N5 hx hZ e5 U5 g_b1 (by decide) (x := (111 : Int32)) (by decide) (j := (1 : Int32)) rfl (L := #[s0, s1, s2, s3, .val (.int kl), .val (.int pl), .val (.int ca), .val (.int cb), .val (.int qa), .val (.int qb), .val (.int vp), s11, s12, .val (.ref b1), .unset, .unset, s16]) (hb hby at_215)
  have K9 : Keep h0 h8 [] := K6.trans K8 (allS (Or.inr sz_b1) all0)
  have O10 : Old Z n0 h8 := O7.keep K8 (allS g_b1 all0)
  have U8 : Arv Z h8 b1 k1 .char (20 : Int32) (own_ex [(109 : Int32), (111 : Int32)]) (.int 0) := V8
  obtain ⟨T11, L11, h11, X11, N11, e11, K11, V11, st11⟩ := own_core0 X8 N8 hx hZ e8 U8 g_b1 (by decide) (x := (113 : Int32)) (by decide) (j := (2 : Int32)) rfl (L := #[s0, s1, s2, s3, .val (.int kl), .val (.int pl), .val (.int ca), .val (.int cb), .val (.int qa), .val (.int qb), .val (.int vp), s11, s12, .val (.ref b1), .unset, .unset, s16]) (hb hby at_221)
  have K12 : Keep h0 h11 [] := K9.trans K11 (allS (Or.inr sz_b1) all0)
  have O13 : Old Z n0 h11 := O10.keep K11 (allS g_b1 all0)
  have U11 : Arv Z h11 b1 k1 .char (20 : Int32) (own_ex [(109 : Int32), (111 : Int32), (113 : Int32)]) (.int 0) := V11
  obtain ⟨T14, L14, h14, X14, N14, e14, K14, V14, st14⟩ := own_core0 X11 N11 hx hZ e11 U11 g_b1 (by decide) (x := (116 : Int32)) (by decide) (j := (3 : Int32)) rfl (L := #[s0, s1, s2, s3, .val (.int kl), .val (.int pl), .val (.int ca), .val (.int cb), .val (.int qa), .val (.int qb), .val (.int vp), s11, s12, .val (.ref b1), .unset, .unset, s16]) (hb hby at_227)
  have K15 : Keep h0 h14 [] := K12.trans K14 (allS (Or.inr sz_b1) all0)
  have O16 : Old Z n0 h14 := O13.keep K14 (allS g_b1 all0)
  have U14 : Arv Z h14 b1 k1 .char (20 : Int32) (own_ex [(109 : Int32), (111 : Int32), (113 : Int32), (116 : Int32)]) (.int 0) := V14
  obtain ⟨T17, L17, h17, X17, N17, e17, K17, V17, st17⟩ := own_core0 X14 N14 hx hZ e14 U14 g_b1 (by decide) (x := (58 : Int32)) (by decide) (j := (4 : Int32)) rfl (L := #[s0, s1, s2, s3, .val (.int kl), .val (.int pl), .val (.int ca), .val (.int cb), .val (.int qa), .val (.int qb), .val (.int vp), s11, s12, .val (.ref b1), .unset, .unset, s16]) (hb hby at_233)
  have K18 : Keep h0 h17 [] := K15.trans K17 (allS (Or.inr sz_b1) all0)
  have O19 : Old Z n0 h17 := O16.keep K17 (allS g_b1 all0)
  have U17 : Arv Z h17 b1 k1 .char (20 : Int32) (own_ex [(109 : Int32), (111 : Int32), (113 : Int32), (116 : Int32), (58 : Int32)]) (.int 0) := V17
  obtain ⟨T20, L20, h20, X20, N20, e20, K20, V20, st20⟩ := own_core0 X17 N17 hx hZ e17 U17 g_b1 (by decide) (x := (47 : Int32)) (by decide) (j := (5 : Int32)) rfl (L := #[s0, s1, s2, s3, .val (.int kl), .val (.int pl), .val (.int ca), .val (.int cb), .val (.int qa), .val (.int qb), .val (.int vp), s11, s12, .val (.ref b1), .unset, .unset, s16]) (hb hby at_239)
  have K21 : Keep h0 h20 [] := K18.trans K20 (allS (Or.inr sz_b1) all0)
  have O22 : Old Z n0 h20 := O19.keep K20 (allS g_b1 all0)
  have U20 : Arv Z h20 b1 k1 .char (20 : Int32) (own_ex [(109 : Int32), (111 : Int32), (113 : Int32), (116 : Int32), (58 : Int32), (47 : Int32)]) (.int 0) := V20
  obtain ⟨T23, L23, h23, X23, N23, e23, K23, V23, st23⟩ := own_core0 X20 N20 hx hZ e20 U20 g_b1 (by decide) (x := (47 : Int32)) (by decide) (j := (6 : Int32)) rfl (L := #[s0, s1, s2, s3, .val (.int kl), .val (.int pl), .val (.int ca), .val (.int cb), .val (.int qa), .val (.int qb), .val (.int vp), s11, s12, .val (.ref b1), .unset, .unset, s16]) (hb hby at_246)
  have K24 : Keep h0 h23 [] := K21.trans K23 (allS (Or.inr sz_b1) all0)
  have O25 : Old Z n0 h23 := O22.keep K23 (allS g_b1 all0)
  have U23 : Arv Z h23 b1 k1 .char (20 : Int32) (own_ex [(109 : Int32), (111 : Int32), (113 : Int32), (116 : Int32), (58 : Int32), (47 : Int32), (47 : Int32)]) (.int 0) := V23
  obtain ⟨T28, L28, X28, N28, e28, st28⟩ := tcol hw ((s0)) ((s1)) ((s2)) ((s3)) ((.val (.int pl))) ((.val (.int qa))) ((.val (.int qb))) ((.val (.int vp))) ((s11)) ((s12)) ((.val (.ref b1))) ((.val (.int (own_n [(109 : Int32), (111 : Int32), (113 : Int32), (116 : Int32), (58 : Int32), (47 : Int32), (47 : Int32)])))) ((s16)) kl ca cb w27 h23 n0 X23 N23 hx hZ hby hml hown e23 O25 h251_hcl
  obtain ⟨T30, L30, h30, X30, N30, e30, K30, Y30_0, Y30_1, st30⟩ := tq284 hw ((s0)) ((s1)) ((s2)) ((s3)) ((.val (.int kl))) ((.val (.int pl))) ((.val (.int ca))) ((.val (.int cb))) ((.val (.int qa))) ((.val (.int qb))) ((.val (.int vp))) ((s11)) ((s12)) ((s16)) w27 b1 k1 ([(109 : Int32), (111 : Int32), (113 : Int32), (116 : Int32), (58 : Int32), (47 : Int32), (47 : Int32)]) w29 h23 n0 X28 N28 hx hZ hby hml hown e28 O25 U23 g_b1 (Nat.le_of_ble_eq_true rfl) h284_he2
  have K31 : Keep h0 h30 [] := K24.trans K30 (allS (Or.inr sz_b1) all0)
  have O32 : Old Z n0 h30 := O25.keep K30 (allS g_b1 all0)
  obtain ⟨T34, L34, h34, X34, N34, e34, K34, Y34_0, Y34_1, st34⟩ := tq299 hw ((s0)) ((s1)) ((s2)) ((s3)) ((.val (.int pl))) ((.val (.int cb))) ((.val (.int qa))) ((.val (.int qb))) ((.val (.int vp))) ((s11)) ((s12)) ((.val (.int w27))) ((s16)) kl ca b1 k1 w29 w33 h30 n0 X30 N30 hx hZ hby hml hown e30 O32 Y30_0 g_b1 Y30_1 h299_hcv h299_he2
  have K35 : Keep h0 h34 [] := K31.trans K34 (allS (Or.inr sz_b1) all0)
  have O36 : Old Z n0 h34 := O32.keep K34 (allS g_b1 all0)
  obtain ⟨T38, L38, h38, X38, N38, e38, K38, Y38_0, Y38_1, st38⟩ := tq315 hw ((s0)) ((s1)) ((s2)) ((s3)) ((.val (.int pl))) ((.val (.int ca))) ((.val (.int qa))) ((.val (.int qb))) ((.val (.int vp))) ((s11)) ((s12)) ((.val (.int w27))) ((s16)) kl cb b1 k1 w33 w37 h34 n0 X34 N34 hx hZ hby hml hown e34 O36 Y34_0 g_b1 Y34_1 h315_hcv h315_he2
  have K39 : Keep h0 h38 [] := K35.trans K38 (allS (Or.inr sz_b1) all0)
  have O40 : Old Z n0 h38 := O36.keep K38 (allS g_b1 all0)
  obtain ⟨T42, L42, h42, X42, N42, e42, K42, Y42_0, Y42_1, st42⟩ := tq331 hw ((s0)) ((s1)) ((s2)) ((s3)) ((.val (.int kl))) ((.val (.int pl))) ((.val (.int ca))) ((.val (.int cb))) ((.val (.int qa))) ((.val (.int qb))) ((.val (.int vp))) ((s11)) ((s12)) ((s16)) w27 b1 k1 w37 w41 h38 n0 X38 N38 hx hZ hby hml hown e38 O40 Y38_0 g_b1 Y38_1 h331_he2
  have K43 : Keep h0 h42 [] := K39.trans K42 (allS (Or.inr sz_b1) all0)
  have O44 : Old Z n0 h42 := O40.keep K42 (allS g_b1 all0)
  obtain ⟨T46, L46, h46, X46, N46, e46, K46, Y46_0, Y46_1, st46⟩ := tq346 hw ((s0)) ((s1)) ((s2)) ((s3)) ((.val (.int kl))) ((.val (.int pl))) ((.val (.int ca))) ((.val (.int cb))) ((.val (.int qa))) ((.val (.int qb))) ((.val (.int vp))) ((s11)) ((s12)) ((.val (.int w27))) ((s16)) b1 k1 w41 w45 h42 n0 X42 N42 hx hZ hby hml hown e42 O44 Y42_0 g_b1 Y42_1 h346_he2
  have K47 : Keep h0 h46 [] := K43.trans K46 (allS (Or.inr sz_b1) all0)
  have O48 : Old Z n0 h46 := O44.keep K46 (allS g_b1 all0)
  obtain ⟨T51, L51, h51, X51, N51, e51, K51, Y51_0, Y51_1, st51⟩ := tq356 hw ((s0)) ((s1)) ((s2)) ((s3)) ((.val (.int kl))) ((.val (.int pl))) ((.val (.int ca))) ((.val (.int cb))) ((.val (.int qa))) ((.val (.int qb))) ((s11)) ((s12)) ((.val (.int w27))) ((s16)) vp w49 b1 k1 w45 w50 h46 n0 X46 N46 hx hZ hby hml hown e46 O48 Y46_0 g_b1 Y46_1 h356_hcv h356_he2
  have K52 : Keep h0 h51 [] := K47.trans K51 (allS (Or.inr sz_b1) all0)
  have O53 : Old Z n0 h51 := O48.keep K51 (allS g_b1 all0)
  obtain ⟨T56, L56, h56, X56, N56, e56, K56, Y56_0, Y56_1, st56⟩ := tq382 hw ((s0)) ((s1)) ((s2)) ((s3)) ((.val (.int kl))) ((.val (.int pl))) ((.val (.int ca))) ((.val (.int cb))) ((.val (.int qa))) ((.val (.int qb))) ((s11)) ((s12)) ((.val (.int w27))) ((s16)) vp w54 b1 k1 w50 w55 h51 n0 X51 N51 hx hZ hby hml hown e51 O53 Y51_0 g_b1 Y51_1 h382_hcv h382_he2
  have K57 : Keep h0 h56 [] := K52.trans K56 (allS (Or.inr sz_b1) all0)
  have O58 : Old Z n0 h56 := O53.keep K56 (allS g_b1 all0)
  obtain ⟨T61, L61, h61, X61, N61, e61, K61, Y61_0, Y61_1, st61⟩ := tq411 hw ((s0)) ((s1)) ((s2)) ((s3)) ((.val (.int kl))) ((.val (.int pl))) ((.val (.int ca))) ((.val (.int cb))) ((.val (.int qa))) ((.val (.int qb))) ((s11)) ((s12)) ((.val (.int w27))) ((s16)) vp w59 b1 k1 w55 w60 h56 n0 X56 N56 hx hZ hby hml hown e56 O58 Y56_0 g_b1 Y56_1 h411_hcv h411_he2
  have K62 : Keep h0 h61 [] := K57.trans K61 (allS (Or.inr sz_b1) all0)
  have O63 : Old Z n0 h61 := O58.keep K61 (allS g_b1 all0)
  obtain ⟨T66, L66, h66, X66, N66, e66, K66, Y66_0, Y66_1, st66⟩ := tq438 hw ((s0)) ((s1)) ((s2)) ((s3)) ((.val (.int kl))) ((.val (.int pl))) ((.val (.int ca))) ((.val (.int cb))) ((.val (.int qa))) ((.val (.int qb))) ((s11)) ((s12)) ((.val (.int w27))) ((s16)) vp w64 b1 k1 w60 w65 h61 n0 X61 N61 hx hZ hby hml hown e61 O63 Y61_0 g_b1 Y61_1 h438_hcv h438_he2
  have K67 : Keep h0 h66 [] := K62.trans K66 (allS (Or.inr sz_b1) all0)
  have O68 : Old Z n0 h66 := O63.keep K66 (allS g_b1 all0)
  obtain ⟨T71, L71, h71, X71, N71, e71, K71, Y71_0, Y71_1, st71⟩ := tq465 hw ((s0)) ((s1)) ((s2)) ((s3)) ((.val (.int kl))) ((.val (.int pl))) ((.val (.int ca))) ((.val (.int cb))) ((.val (.int qa))) ((.val (.int qb))) ((s11)) ((s12)) ((.val (.int w27))) ((s16)) vp w69 b1 k1 w65 w70 h66 n0 X66 N66 hx hZ hby hml hown e66 O68 Y66_0 g_b1 Y66_1 h465_hcv h465_he2
  have K72 : Keep h0 h71 [] := K67.trans K71 (allS (Or.inr sz_b1) all0)
  have O73 : Old Z n0 h71 := O68.keep K71 (allS g_b1 all0)
  obtain ⟨T75, L75, h75, X75, N75, e75, K75, Y75_0, Y75_1, st75⟩ := tq482 hw ((s0)) ((s1)) ((s2)) ((s3)) ((.val (.int kl))) ((.val (.int ca))) ((.val (.int cb))) ((.val (.int qb))) ((.val (.int vp))) ((s11)) ((s12)) ((.val (.int w27))) ((s16)) pl qa b1 k1 w70 w74 h71 n0 X71 N71 hx hZ hby hml hown e71 O73 Y71_0 g_b1 Y71_1 h482_hcv h482_he2
  have K76 : Keep h0 h75 [] := K72.trans K75 (allS (Or.inr sz_b1) all0)
  have O77 : Old Z n0 h75 := O73.keep K75 (allS g_b1 all0)
  obtain ⟨T79, L79, h79, X79, N79, e79, K79, Y79_0, Y79_1, st79⟩ := tq498 hw ((s0)) ((s1)) ((s2)) ((s3)) ((.val (.int kl))) ((.val (.int ca))) ((.val (.int cb))) ((.val (.int qa))) ((.val (.int vp))) ((s11)) ((s12)) ((.val (.int w27))) ((s16)) pl qb b1 k1 w74 w78 h75 n0 X75 N75 hx hZ hby hml hown e75 O77 Y75_0 g_b1 Y75_1 h498_hcv h498_he2
  have K80 : Keep h0 h79 [] := K76.trans K79 (allS (Or.inr sz_b1) all0)
  have O81 : Old Z n0 h79 := O77.keep K79 (allS g_b1 all0)
  refine ⟨T79, _, _, b1, k1, X79, N79, e79, K80, sz_b1, Y79_0, fun target kt => ?_⟩
  show Steps p.tables e below (T0.setTop (mkF m 198 #[s0, s1, s2, s3, .val (.int kl), .val (.int pl), .val (.int ca), .val (.int cb), .val (.int qa), .val (.int qb), .val (.int vp), s11, s12, .unset, .unset, .unset, s16] [])) _
  refine XS.bipush X0.here hx rfl (hb hby at_198) ?_
  refine st1 _ ?_
  refine XS.astore X1.here hx rfl (hb hby at_202) rfl rfl (l' := #[s0, s1, s2, s3, .val (.int kl), .val (.int pl), .val (.int ca), .val (.int cb), .val (.int qa), .val (.int qb), .val (.int vp), s11, s12, .val (.ref b1), .unset, .unset, s16]) rfl ?_
  refine XS.aload X1.here hx rfl (hb hby at_204) rfl rfl ?_
  refine XS.iconst X1.here hx rfl (hb hby at_206) ?_
  refine XS.bipush X1.here hx rfl (hb hby at_207) ?_
  refine st5 _ ?_
  refine XS.aload X5.here hx rfl (hb hby at_210) rfl rfl ?_
  refine XS.iconst X5.here hx rfl (hb hby at_212) ?_
  refine XS.bipush X5.here hx rfl (hb hby at_213) ?_
  refine st8 _ ?_
  refine XS.aload X8.here hx rfl (hb hby at_216) rfl rfl ?_
  refine XS.iconst X8.here hx rfl (hb hby at_218) ?_
  refine XS.bipush X8.here hx rfl (hb hby at_219) ?_
  refine st11 _ ?_
  refine XS.aload X11.here hx rfl (hb hby at_222) rfl rfl ?_
  refine XS.iconst X11.here hx rfl (hb hby at_224) ?_
  refine XS.bipush X11.here hx rfl (hb hby at_225) ?_
  refine st14 _ ?_
  refine XS.aload X14.here hx rfl (hb hby at_228) rfl rfl ?_
  refine XS.iconst X14.here hx rfl (hb hby at_230) ?_
  refine XS.bipush X14.here hx rfl (hb hby at_231) ?_
  refine st17 _ ?_
  refine XS.aload X17.here hx rfl (hb hby at_234) rfl rfl ?_
  refine XS.iconst X17.here hx rfl (hb hby at_236) ?_
  refine XS.bipush X17.here hx rfl (hb hby at_237) ?_
  refine st20 _ ?_
  refine XS.aload X20.here hx rfl (hb hby at_240) rfl rfl ?_
  refine XS.bipush X20.here hx rfl (hb hby at_242) ?_
  refine XS.bipush X20.here hx rfl (hb hby at_244) ?_
  refine st23 _ ?_
  refine XS.bipush X23.here hx rfl (hb hby at_247) ?_
  refine XS.istore X23.here hx rfl (hb hby at_249) rfl (l' := #[s0, s1, s2, s3, .val (.int kl), .val (.int pl), .val (.int ca), .val (.int cb), .val (.int qa), .val (.int qb), .val (.int vp), s11, s12, .val (.ref b1), .val (.int 7), .unset, s16]) rfl ?_
  show Steps p.tables e below (T23.setTop (mkF m 251 #[s0, s1, s2, s3, .val (.int kl), .val (.int pl), .val (.int ca), .val (.int cb), .val (.int qa), .val (.int qb), .val (.int vp), s11, s12, .val (.ref b1), .val (.int (own_n [(109 : Int32), (111 : Int32), (113 : Int32), (116 : Int32), (58 : Int32), (47 : Int32), (47 : Int32)])), .unset, s16] [])) _
  show Steps p.tables e below (T23.setTop (mkF m 251 #[s0, s1, s2, s3, .val (.int kl), .val (.int pl), .val (.int ca), .val (.int cb), .val (.int qa), .val (.int qb), .val (.int vp), s11, s12, .val (.ref b1), .val (.int (own_n [(109 : Int32), (111 : Int32), (113 : Int32), (116 : Int32), (58 : Int32), (47 : Int32), (47 : Int32)])), .unset, s16] [])) _
  refine st28 _ ?_
  show Steps p.tables e below (T28.setTop (mkF m 284 #[s0, s1, s2, s3, .val (.int kl), .val (.int pl), .val (.int ca), .val (.int cb), .val (.int qa), .val (.int qb), .val (.int vp), s11, s12, .val (.ref b1), .val (.int (own_n [(109 : Int32), (111 : Int32), (113 : Int32), (116 : Int32), (58 : Int32), (47 : Int32), (47 : Int32)])), .val (.int w27), s16] [])) _
  refine st30 _ ?_
  show Steps p.tables e below (T30.setTop (mkF m 299 #[s0, s1, s2, s3, .val (.int kl), .val (.int pl), .val (.int ca), .val (.int cb), .val (.int qa), .val (.int qb), .val (.int vp), s11, s12, .val (.ref b1), .val (.int (own_n w29)), .val (.int w27), s16] [])) _
  refine st34 _ ?_
  show Steps p.tables e below (T34.setTop (mkF m 315 #[s0, s1, s2, s3, .val (.int kl), .val (.int pl), .val (.int ca), .val (.int cb), .val (.int qa), .val (.int qb), .val (.int vp), s11, s12, .val (.ref b1), .val (.int (own_n w33)), .val (.int w27), s16] [])) _
  refine st38 _ ?_
  show Steps p.tables e below (T38.setTop (mkF m 331 #[s0, s1, s2, s3, .val (.int kl), .val (.int pl), .val (.int ca), .val (.int cb), .val (.int qa), .val (.int qb), .val (.int vp), s11, s12, .val (.ref b1), .val (.int (own_n w37)), .val (.int w27), s16] [])) _
  refine st42 _ ?_
  show Steps p.tables e below (T42.setTop (mkF m 346 #[s0, s1, s2, s3, .val (.int kl), .val (.int pl), .val (.int ca), .val (.int cb), .val (.int qa), .val (.int qb), .val (.int vp), s11, s12, .val (.ref b1), .val (.int (own_n w41)), .val (.int w27), s16] [])) _
  refine st46 _ ?_
  show Steps p.tables e below (T46.setTop (mkF m 356 #[s0, s1, s2, s3, .val (.int kl), .val (.int pl), .val (.int ca), .val (.int cb), .val (.int qa), .val (.int qb), .val (.int vp), s11, s12, .val (.ref b1), .val (.int (own_n w45)), .val (.int w27), s16] [])) _
  refine st51 _ ?_
  show Steps p.tables e below (T51.setTop (mkF m 382 #[s0, s1, s2, s3, .val (.int kl), .val (.int pl), .val (.int ca), .val (.int cb), .val (.int qa), .val (.int qb), .val (.int vp), s11, s12, .val (.ref b1), .val (.int (own_n w50)), .val (.int w27), s16] [])) _
  refine st56 _ ?_
  show Steps p.tables e below (T56.setTop (mkF m 411 #[s0, s1, s2, s3, .val (.int kl), .val (.int pl), .val (.int ca), .val (.int cb), .val (.int qa), .val (.int qb), .val (.int vp), s11, s12, .val (.ref b1), .val (.int (own_n w55)), .val (.int w27), s16] [])) _
  refine st61 _ ?_
  show Steps p.tables e below (T61.setTop (mkF m 438 #[s0, s1, s2, s3, .val (.int kl), .val (.int pl), .val (.int ca), .val (.int cb), .val (.int qa), .val (.int qb), .val (.int vp), s11, s12, .val (.ref b1), .val (.int (own_n w60)), .val (.int w27), s16] [])) _
  refine st66 _ ?_
  show Steps p.tables e below (T66.setTop (mkF m 465 #[s0, s1, s2, s3, .val (.int kl), .val (.int pl), .val (.int ca), .val (.int cb), .val (.int qa), .val (.int qb), .val (.int vp), s11, s12, .val (.ref b1), .val (.int (own_n w65)), .val (.int w27), s16] [])) _
  refine st71 _ ?_
  show Steps p.tables e below (T71.setTop (mkF m 482 #[s0, s1, s2, s3, .val (.int kl), .val (.int pl), .val (.int ca), .val (.int cb), .val (.int qa), .val (.int qb), .val (.int vp), s11, s12, .val (.ref b1), .val (.int (own_n w70)), .val (.int w27), s16] [])) _
  refine st75 _ ?_
  show Steps p.tables e below (T75.setTop (mkF m 498 #[s0, s1, s2, s3, .val (.int kl), .val (.int pl), .val (.int ca), .val (.int cb), .val (.int qa), .val (.int qb), .val (.int vp), s11, s12, .val (.ref b1), .val (.int (own_n w74)), .val (.int w27), s16] [])) _
  refine st79 _ ?_
  exact kt
theorem pd_26 : parseMethodDescriptor "(Ljava/lang/String;[CII)Z" = some ⟨[(.object "java/lang/String"), (.array .char), .int, .int], some .boolean⟩ := by decide +kernel
theorem tat {p : Program} {l : Launch} {e : Env} {s : State} {m : MethodId} {args : Array Value} {below : List Frame} {meth : Method} {c : Code} {T0 : State} {locs : List Loc} {Z : State} {a0 : Array Value} (hw : ∀ d ∈ tables_1, d.before a0 Z = true) {L : Array Slot} (hL : L.size = 17) {pc : Nat} {o : Int} (d1 : decode c.code pc = .ok (.invokestatic 28, 3)) (d2 : decode c.code (pc + 3) = .ok (.ifCond .eq o, 3)) (pi : Int32) (a1 a2 t0 : Addr) (k9 k7 : ClassId) (zC : Int32) (es : List Int32) (fm : Value) (h0 : Heap) (n0 : Nat) (X0 : Stand p l e room_1 s m args below meth c T0 locs 32 439) (N0 : Fr n0 locs) (hx : p.tables.exec = Jvm.exec) (hZ : Z.Warmed39 s.vm) (hby : c.code = code) (hml : c.maxLocals = 17) (hown : s.vm.findClass "com/example/traqt/traqt/moqt/MoqtUriToStringPinLaw" = some m.cls) (e0 : T0.heap = h0) (O0 : Old Z n0 h0) (HE_a1 : Exa Z h0 a1 "java/lang/String") (HF_a1_value : Fld Z h0 a1 "java/lang/String" "value" "[B" (.ref t0)) (HF_a1_coder : Fld Z h0 a1 "java/lang/String" "coder" "B" (.int 0)) (HV_t0 : Arv Z h0 t0 k9 .byte (own_n es) (own_by es) (.int 0)) (HV_a2 : Arv Z h0 a2 k7 .char (20 : Int32) (own_ex es) (.int 0)) (S_COMPACT_STRINGS : Sta Z Z.heap "java/lang/String" "COMPACT_STRINGS" "Z" (.int zC)) (S_SIOOBE_FORMATTER : Sta Z Z.heap "jdk/internal/util/Preconditions" "SIOOBE_FORMATTER" "Ljava/util/function/BiFunction;" fm) (h551_hz : ¬ (zC = (0 : Int32))) (h551_hrfm : fm.isRef = true) (h551_hes : ∀ c ∈ es, ¬ c < 0 ∧ ¬ (255 : Int32) < c) (h551_h20 : es.length ≤ 20) (h551_hq0 : ¬ (pi < (0 : Int32))) (h551_hq1 : pi < (20 : Int32)) :
    ∃ (T' : State) (locs' : List Loc), Stand p l e room_1 s m args below meth c T' locs' 32 439 ∧ Fr n0 locs' ∧ T'.heap = h0 ∧
      ∀ target, Steps p.tables e below (T'.setTop (mkF m (pc + 3 + 3) L [])) target → Steps p.tables e below (T0.setTop (mkF m pc L [(.int pi), (.int (own_n es)), (.ref a2), (.ref a1)])) target := by
  have Z0 : n0 ≤ h0.size := O0.1 ▸ O0.2.1
  obtain ⟨vr1, _, ⟨T1, L1, k1, n1⟩, -, X1, ⟨Lc1, hQ1, l1, y1, z1⟩, st1⟩ := Jvm.LawKit.callS X0 hx (y := (⟨"com/example/traqt/traqt/moqt/MoqtUriToStringPinLaw", "at", "(Ljava/lang/String;[CII)Z"⟩ : MethodName)) hown (mvT hZ (own_w hw 220 rfl)) (mvT hZ (own_w hw 221 rfl)) (mvT hZ (own_w hw 222 rfl)) (mvT hZ (own_w hw 223 rfl)) (by decide) (backOf (W := 0) (rm41 l Z a0 hw [] a1 a2 ((own_n es)) pi t0 k9 k7 zC es fm h0 n0 O0 HE_a1 HF_a1_value HF_a1_coder HV_t0 HV_a2 S_COMPACT_STRINGS S_SIOOBE_FORMATTER h551_hz h551_hrfm h551_hes h551_h20 (rfl : (own_n es) = (own_n es)) h551_hq0 h551_hq1) hZ (own_w hw 223 rfl) (own_w hw 222 rfl) (by decide) (by decide)) (g := (mkF m pc L [(.int pi), (.int (own_n es)), (.ref a2), (.ref a1)])) rfl (by rw [hml]; exact hL) (argsL := [(.ref a1), (.ref a2), (.int (own_n es)), (.int pi)]) (rest := []) (lenOf pd_26 rfl) rfl (by show 2 * 0 + _ ≤ _; exact Nat.le_of_eq rfl) d1 (fun _ _ => ⟨rfl, e0, (by decide : 32 + 0 ≤ _), (by decide : 439 + 0 ≤ _)⟩)
  dsimp only [Pt.U, Pt.locs, Pt.cells, Pt.slots] at X1 l1 y1 z1 st1 hQ1
  subst l1 y1 z1
  obtain ⟨rfl, N1q, e1⟩ := hQ1
  have N1 := Fr.app N0 N1q
  replace X1 := X1.more (cells' := 32) (slots' := 439) (by decide) (by decide)
  refine ⟨T1, _, X1, N1, e1, fun target kt => ?_⟩
  show Steps p.tables e below (T0.setTop (mkF m pc L [(.int pi), (.int (own_n es)), (.ref a2), (.ref a1)])) _
  refine st1 _ ?_
  refine XS.ifNo X1.here hx rfl d2 rfl ((if0 _ _).trans (feq (by decide : ¬ ((1 : Int32) = (0 : Int32)))).1) ?_
  exact kt
theorem tfin {p : Program} {l : Launch} {e : Env} {s : State} {m : MethodId} {args : Array Value} {below : List Frame} {meth : Method} {c : Code} {T0 : State} {locs : List Loc} {Z : State} {a0 : Array Value} (hw : ∀ d ∈ tables_1, d.before a0 Z = true) (s0 s1 s2 s3 s4 s5 s6 s7 s8 s9 s10 s11 s12 s15 : Slot) (a1 a2 t0 : Addr) (k9 k7 : ClassId) (zC : Int32) (es : List Int32) (fm : Value) (h0 : Heap) (n0 : Nat) (X0 : Stand p l e room_1 s m args below meth c T0 locs 32 439) (N0 : Fr n0 locs) (hx : p.tables.exec = Jvm.exec) (hZ : Z.Warmed39 s.vm) (hby : c.code = code) (hml : c.maxLocals = 17) (hown : s.vm.findClass "com/example/traqt/traqt/moqt/MoqtUriToStringPinLaw" = some m.cls) (e0 : T0.heap = h0) (O0 : Old Z n0 h0) (HE_a1 : Exa Z h0 a1 "java/lang/String") (HF_a1_value : Fld Z h0 a1 "java/lang/String" "value" "[B" (.ref t0)) (HF_a1_coder : Fld Z h0 a1 "java/lang/String" "coder" "B" (.int 0)) (HV_t0 : Arv Z h0 t0 k9 .byte (own_n es) (own_by es) (.int 0)) (HV_a2 : Arv Z h0 a2 k7 .char (20 : Int32) (own_ex es) (.int 0)) (S_COMPACT_STRINGS : Sta Z Z.heap "java/lang/String" "COMPACT_STRINGS" "Z" (.int zC)) (S_SIOOBE_FORMATTER : Sta Z Z.heap "jdk/internal/util/Preconditions" "SIOOBE_FORMATTER" "Ljava/util/function/BiFunction;" fm) (h551_hz : ¬ (zC = (0 : Int32))) (h551_hrfm : fm.isRef = true) (h551_hes : ∀ c ∈ es, ¬ c < 0 ∧ ¬ (255 : Int32) < c) (h551_h20 : es.length ≤ 20) :
    ∃ (T' : State) (locs' : List Loc), Stand p l e room_1 s m args below meth c T' locs' 32 439 ∧ Fr n0 locs' ∧ T'.heap = h0 ∧
      ∀ target, Steps p.tables e below (T'.setTop (mkF m 818 #[s0, s1, s2, s3, s4, s5, s6, s7, s8, s9, s10, s11, s12, .val (.ref a2), .val (.int (own_n es)), s15, .val (.ref a1)] [])) target → Steps p.tables e below (T0.setTop (mkF m 544 #[s0, s1, s2, s3, s4, s5, s6, s7, s8, s9, s10, s11, s12, .val (.ref a2), .val (.int (own_n es)), s15, .val (.ref a1)] [])) target := by
  have Q := fun (T : State) (lo : List Loc) (X : Stand p l e room_1 s m args below meth c T lo 32 439) (N : Fr n0 lo) (E : T.heap = h0) (pc : Nat) (o : Int) (d1 : decode c.code pc = .ok (.invokestatic 28, 3)) (d2 : decode c.code (pc + 3) = .ok (.ifCond .eq o, 3)) (i : Int32) (q0 : ¬ (i < (0 : Int32))) (q1 : i < (20 : Int32)) => tat hw (L := #[s0, s1, s2, s3, s4, s5, s6, s7, s8, s9, s10, s11, s12, .val (.ref a2), .val (.int (own_n es)), s15, .val (.ref a1)]) rfl d1 d2 i a1 a2 t0 k9 k7 zC es fm h0 n0 X N hx hZ hby hml hown E O0 HE_a1 HF_a1_value HF_a1_coder HV_t0 HV_a2 S_COMPACT_STRINGS S_SIOOBE_FORMATTER h551_hz h551_hrfm h551_hes h551_h20 q0 q1
  obtain ⟨T1, L1, X1, N1, e1, st1⟩ := Q _ _ X0 N0 e0 551 _ (hb hby at_551) (hb hby at_554) 0 (by decide) (by decide)
  obtain ⟨T2, L2, X2, N2, e2, st2⟩ := Q _ _ X1 N1 e1 564 _ (hb hby at_564) (hb hby at_567) 1 (by decide) (by decide)
  obtain ⟨T3, L3, X3, N3, e3, st3⟩ := Q _ _ X2 N2 e2 577 _ (hb hby at_577) (hb hby at_580) 2 (by decide) (by decide)
  obtain ⟨T4, L4, X4, N4, e4, st4⟩ := Q _ _ X3 N3 e3 590 _ (hb hby at_590) (hb hby at_593) 3 (by decide) (by decide)
  obtain ⟨T5, L5, X5, N5, e5, st5⟩ := Q _ _ X4 N4 e4 603 _ (hb hby at_603) (hb hby at_606) 4 (by decide) (by decide)
  obtain ⟨T6, L6, X6, N6, e6, st6⟩ := Q _ _ X5 N5 e5 616 _ (hb hby at_616) (hb hby at_619) 5 (by decide) (by decide)
  obtain ⟨T7, L7, X7, N7, e7, st7⟩ := Q _ _ X6 N6 e6 630 _ (hb hby at_630) (hb hby at_633) 6 (by decide) (by decide)
  obtain ⟨T8, L8, X8, N8, e8, st8⟩ := Q _ _ X7 N7 e7 644 _ (hb hby at_644) (hb hby at_647) 7 (by decide) (by decide)
  obtain ⟨T9, L9, X9, N9, e9, st9⟩ := Q _ _ X8 N8 e8 658 _ (hb hby at_658) (hb hby at_661) 8 (by decide) (by decide)
  obtain ⟨T10, L10, X10, N10, e10, st10⟩ := Q _ _ X9 N9 e9 672 _ (hb hby at_672) (hb hby at_675) 9 (by decide) (by decide)
  obtain ⟨T11, L11, X11, N11, e11, st11⟩ := Q _ _ X10 N10 e10 686 _ (hb hby at_686) (hb hby at_689) 10 (by decide) (by decide)
  obtain ⟨T12, L12, X12, N12, e12, st12⟩ := Q _ _ X11 N11 e11 700 _ (hb hby at_700) (hb hby at_703) 11 (by decide) (by decide)
  obtain ⟨T13, L13, X13, N13, e13, st13⟩ := Q _ _ X12 N12 e12 714 _ (hb hby at_714) (hb hby at_717) 12 (by decide) (by decide)
  obtain ⟨T14, L14, X14, N14, e14, st14⟩ := Q _ _ X13 N13 e13 728 _ (hb hby at_728) (hb hby at_731) 13 (by decide) (by decide)
  obtain ⟨T15, L15, X15, N15, e15, st15⟩ := Q _ _ X14 N14 e14 742 _ (hb hby at_742) (hb hby at_745) 14 (by decide) (by decide)
  obtain ⟨T16, L16, X16, N16, e16, st16⟩ := Q _ _ X15 N15 e15 756 _ (hb hby at_756) (hb hby at_759) 15 (by decide) (by decide)
  obtain ⟨T17, L17, X17, N17, e17, st17⟩ := Q _ _ X16 N16 e16 770 _ (hb hby at_770) (hb hby at_773) 16 (by decide) (by decide)
  obtain ⟨T18, L18, X18, N18, e18, st18⟩ := Q _ _ X17 N17 e17 784 _ (hb hby at_784) (hb hby at_787) 17 (by decide) (by decide)
  obtain ⟨T19, L19, X19, N19, e19, st19⟩ := Q _ _ X18 N18 e18 798 _ (hb hby at_798) (hb hby at_801) 18 (by decide) (by decide)
  obtain ⟨T20, L20, X20, N20, e20, st20⟩ := Q _ _ X19 N19 e19 812 _ (hb hby at_812) (hb hby at_815) 19 (by decide) (by decide)
  refine ⟨T20, _, X20, N20, e20, fun target kt => ?_⟩
  refine XS.aload X0.here hx rfl (hb hby at_544) rfl rfl ?_
  refine XS.aload X0.here hx rfl (hb hby at_546) rfl rfl ?_
  refine XS.iload X0.here hx rfl (hb hby at_548) rfl ?_
  refine XS.iconst X0.here hx rfl (hb hby at_550) ?_
  refine st1 _ ?_
  refine XS.aload X1.here hx rfl (hb hby at_557) rfl rfl ?_
  refine XS.aload X1.here hx rfl (hb hby at_559) rfl rfl ?_
  refine XS.iload X1.here hx rfl (hb hby at_561) rfl ?_
  refine XS.iconst X1.here hx rfl (hb hby at_563) ?_
  refine st2 _ ?_
  refine XS.aload X2.here hx rfl (hb hby at_570) rfl rfl ?_
  refine XS.aload X2.here hx rfl (hb hby at_572) rfl rfl ?_
  refine XS.iload X2.here hx rfl (hb hby at_574) rfl ?_
  refine XS.iconst X2.here hx rfl (hb hby at_576) ?_
  refine st3 _ ?_
  refine XS.aload X3.here hx rfl (hb hby at_583) rfl rfl ?_
  refine XS.aload X3.here hx rfl (hb hby at_585) rfl rfl ?_
  refine XS.iload X3.here hx rfl (hb hby at_587) rfl ?_
  refine XS.iconst X3.here hx rfl (hb hby at_589) ?_
  refine st4 _ ?_
  refine XS.aload X4.here hx rfl (hb hby at_596) rfl rfl ?_
  refine XS.aload X4.here hx rfl (hb hby at_598) rfl rfl ?_
  refine XS.iload X4.here hx rfl (hb hby at_600) rfl ?_
  refine XS.iconst X4.here hx rfl (hb hby at_602) ?_
  refine st5 _ ?_
  refine XS.aload X5.here hx rfl (hb hby at_609) rfl rfl ?_
  refine XS.aload X5.here hx rfl (hb hby at_611) rfl rfl ?_
  refine XS.iload X5.here hx rfl (hb hby at_613) rfl ?_
  refine XS.iconst X5.here hx rfl (hb hby at_615) ?_
  refine st6 _ ?_
  refine XS.aload X6.here hx rfl (hb hby at_622) rfl rfl ?_
  refine XS.aload X6.here hx rfl (hb hby at_624) rfl rfl ?_
  refine XS.iload X6.here hx rfl (hb hby at_626) rfl ?_
  refine XS.bipush X6.here hx rfl (hb hby at_628) ?_
  refine st7 _ ?_
  refine XS.aload X7.here hx rfl (hb hby at_636) rfl rfl ?_
  refine XS.aload X7.here hx rfl (hb hby at_638) rfl rfl ?_
  refine XS.iload X7.here hx rfl (hb hby at_640) rfl ?_
  refine XS.bipush X7.here hx rfl (hb hby at_642) ?_
  refine st8 _ ?_
  refine XS.aload X8.here hx rfl (hb hby at_650) rfl rfl ?_
  refine XS.aload X8.here hx rfl (hb hby at_652) rfl rfl ?_
  refine XS.iload X8.here hx rfl (hb hby at_654) rfl ?_
  refine XS.bipush X8.here hx rfl (hb hby at_656) ?_
  refine st9 _ ?_
  refine XS.aload X9.here hx rfl (hb hby at_664) rfl rfl ?_
  refine XS.aload X9.here hx rfl (hb hby at_666) rfl rfl ?_
  refine XS.iload X9.here hx rfl (hb hby at_668) rfl ?_
  refine XS.bipush X9.here hx rfl (hb hby at_670) ?_
  refine st10 _ ?_
  refine XS.aload X10.here hx rfl (hb hby at_678) rfl rfl ?_
  refine XS.aload X10.here hx rfl (hb hby at_680) rfl rfl ?_
  refine XS.iload X10.here hx rfl (hb hby at_682) rfl ?_
  refine XS.bipush X10.here hx rfl (hb hby at_684) ?_
  refine st11 _ ?_
  refine XS.aload X11.here hx rfl (hb hby at_692) rfl rfl ?_
  refine XS.aload X11.here hx rfl (hb hby at_694) rfl rfl ?_
  refine XS.iload X11.here hx rfl (hb hby at_696) rfl ?_
  refine XS.bipush X11.here hx rfl (hb hby at_698) ?_
  refine st12 _ ?_
  refine XS.aload X12.here hx rfl (hb hby at_706) rfl rfl ?_
  refine XS.aload X12.here hx rfl (hb hby at_708) rfl rfl ?_
  refine XS.iload X12.here hx rfl (hb hby at_710) rfl ?_
  refine XS.bipush X12.here hx rfl (hb hby at_712) ?_
  refine st13 _ ?_
  refine XS.aload X13.here hx rfl (hb hby at_720) rfl rfl ?_
  refine XS.aload X13.here hx rfl (hb hby at_722) rfl rfl ?_
  refine XS.iload X13.here hx rfl (hb hby at_724) rfl ?_
  refine XS.bipush X13.here hx rfl (hb hby at_726) ?_
  refine st14 _ ?_
  refine XS.aload X14.here hx rfl (hb hby at_734) rfl rfl ?_
  refine XS.aload X14.here hx rfl (hb hby at_736) rfl rfl ?_
  refine XS.iload X14.here hx rfl (hb hby at_738) rfl ?_
  refine XS.bipush X14.here hx rfl (hb hby at_740) ?_
  refine st15 _ ?_
  refine XS.aload X15.here hx rfl (hb hby at_748) rfl rfl ?_
  refine XS.aload X15.here hx rfl (hb hby at_750) rfl rfl ?_
  refine XS.iload X15.here hx rfl (hb hby at_752) rfl ?_
  refine XS.bipush X15.here hx rfl (hb hby at_754) ?_
  refine st16 _ ?_
  refine XS.aload X16.here hx rfl (hb hby at_762) rfl rfl ?_
  refine XS.aload X16.here hx rfl (hb hby at_764) rfl rfl ?_
  refine XS.iload X16.here hx rfl (hb hby at_766) rfl ?_
  refine XS.bipush X16.here hx rfl (hb hby at_768) ?_
  refine st17 _ ?_
  refine XS.aload X17.here hx rfl (hb hby at_776) rfl rfl ?_
  refine XS.aload X17.here hx rfl (hb hby at_778) rfl rfl ?_
  refine XS.iload X17.here hx rfl (hb hby at_780) rfl ?_
  refine XS.bipush X17.here hx rfl (hb hby at_782) ?_
  refine st18 _ ?_
  refine XS.aload X18.here hx rfl (hb hby at_790) rfl rfl ?_
  refine XS.aload X18.here hx rfl (hb hby at_792) rfl rfl ?_
  refine XS.iload X18.here hx rfl (hb hby at_794) rfl ?_
  refine XS.bipush X18.here hx rfl (hb hby at_796) ?_
  refine st19 _ ?_
  refine XS.aload X19.here hx rfl (hb hby at_804) rfl rfl ?_
  refine XS.aload X19.here hx rfl (hb hby at_806) rfl rfl ?_
  refine XS.iload X19.here hx rfl (hb hby at_808) rfl ?_
  refine XS.bipush X19.here hx rfl (hb hby at_810) ?_
  refine st20 _ ?_
  exact kt
def own_K (k : Int32) : Prop := k = (0 : Int32) ∨ k = (1 : Int32) ∨ k = (2 : Int32)
theorem own_opS (p : Prop) [Decidable p] (es : List Int32) (x : Int32) : (if p then es else es ++ [x]) = es ++ (if p then [] else [x]) := by split <;> simp
theorem own_hsE {k : Int32} (h : own_K k) (a b : Int32) : own_hs k a b = (if k < (1 : Int32) then [] else [a]) ++ (if k < (2 : Int32) then [] else [b]) := by
  rcases h with rfl | rfl | rfl <;> rfl
theorem own_colE {k : Int32} (h : own_K k) (a b : Int32) : own_col k a b = if (58 : Int32) ∈ own_hs k a b then (1 : Int32) else (0 : Int32) := by
  rcases h with rfl | rfl | rfl
  · rfl
  · show (if a = (58 : Int32) then (1 : Int32) else (0 : Int32)) = if (58 : Int32) ∈ [a] then _ else _
    by_cases q : a = (58 : Int32)
    · rw [if_pos q, if_pos (by rw [q]; exact List.mem_singleton_self _)]
    · rw [if_neg q, if_neg (fun z => q (List.mem_singleton.mp z).symm)]
  · show (if a = (58 : Int32) then (1 : Int32) else if b = (58 : Int32) then (1 : Int32) else (0 : Int32)) = if (58 : Int32) ∈ [a, b] then _ else _
    by_cases q : a = (58 : Int32)
    · rw [if_pos q, if_pos (by rw [q]; exact List.mem_cons_self)]
    · rw [if_neg q]
      by_cases r : b = (58 : Int32)
      · rw [if_pos r, if_pos (by rw [r]; exact List.mem_cons_of_mem _ (List.mem_singleton_self _))]
      · rw [if_neg r, if_neg (fun z => (List.mem_cons.mp z).elim (fun u => q u.symm) (fun u => r (List.mem_singleton.mp u).symm))]
theorem own_i2cN {k : Nat} (h : k < 65536) : (Int32.ofNat k).toUInt32.toUInt16.toUInt32.toInt32 = Int32.ofNat k :=
  own_i2c ⟨own_nge0 (by omega), fun q => absurd ((own_ltN (a := 65535) (by omega) (by omega)).mp q) (by omega)⟩
theorem own_dg {k : Nat} (h : k < 10) {x w : Int32} (e : x = Int32.ofNat k) (hw : (((48 : Int32) + x).toUInt32.toUInt16.toUInt32.toInt32).toUInt32.toUInt16.toUInt32.toInt32 = w) : w = own_D k := by
  have q : (48 : Int32) + x = Int32.ofNat (48 + k) := by rw [e]; exact own_add (a := 48) (by omega)
  rw [q, own_i2cN (by omega), own_i2cN (by omega)] at hw
  exact hw.symm
theorem own_dif {n q : Nat} (hn : n < 65536) (hq : q < 65536) (x : Int32) : (if Int32.ofNat n < Int32.ofNat q then [] else [x]) = if q ≤ n then [x] else [] := by
  by_cases h : q ≤ n
  · rw [if_pos h, if_neg (fun z => absurd ((own_ltN (by omega) (by omega)).mp z) (by omega))]
  · rw [if_neg h, if_pos ((own_ltN (by omega) (by omega)).mpr (by omega))]
theorem own_plain {kl pl ca cb qa qb vp cl x1 x2 x3 x4 x5 : Int32} {n : Nat} {v1 v2 v3 v4 v5 v6 v7 v8 v9 v10 v11 v12 : List Int32} (hk : own_K kl) (hp : own_K pl) (hv : vp = Int32.ofNat n) (hn : n < 65536)
    (h0 : cl = (own_col kl ca cb)) (h1 : v1 = (if cl = (0 : Int32) then [(109 : Int32), (111 : Int32), (113 : Int32), (116 : Int32), (58 : Int32), (47 : Int32), (47 : Int32)] else ([(109 : Int32), (111 : Int32), (113 : Int32), (116 : Int32), (58 : Int32), (47 : Int32), (47 : Int32)] ++ [(91 : Int32)])))
    (h2 : v2 = (if kl < (1 : Int32) then v1 else (v1 ++ [ca]))) (h3 : v3 = (if kl < (2 : Int32) then v2 else (v2 ++ [cb]))) (h4 : v4 = (if cl = (0 : Int32) then v3 else (v3 ++ [(93 : Int32)]))) (h5 : v5 = (v4 ++ [(58 : Int32)]))
    (c1 : (((48 : Int32) + (vp / (10000 : Int32))).toUInt32.toUInt16.toUInt32.toInt32).toUInt32.toUInt16.toUInt32.toInt32 = x1) (h6 : v6 = (if vp < (10000 : Int32) then v5 else (v5 ++ [x1])))
    (c2 : (((48 : Int32) + ((vp / (1000 : Int32)) % (10 : Int32))).toUInt32.toUInt16.toUInt32.toInt32).toUInt32.toUInt16.toUInt32.toInt32 = x2) (h7 : v7 = (if vp < (1000 : Int32) then v6 else (v6 ++ [x2])))
    (c3 : (((48 : Int32) + ((vp / (100 : Int32)) % (10 : Int32))).toUInt32.toUInt16.toUInt32.toInt32).toUInt32.toUInt16.toUInt32.toInt32 = x3) (h8 : v8 = (if vp < (100 : Int32) then v7 else (v7 ++ [x3])))
    (c4 : (((48 : Int32) + ((vp / (10 : Int32)) % (10 : Int32))).toUInt32.toUInt16.toUInt32.toInt32).toUInt32.toUInt16.toUInt32.toInt32 = x4) (h9 : v9 = (if vp < (10 : Int32) then v8 else (v8 ++ [x4])))
    (c5 : (((48 : Int32) + (vp % (10 : Int32))).toUInt32.toUInt16.toUInt32.toInt32).toUInt32.toUInt16.toUInt32.toInt32 = x5) (h10 : v10 = (v9 ++ [x5]))
    (h11 : v11 = (if pl < (1 : Int32) then v10 else (v10 ++ [qa]))) (h12 : v12 = (if pl < (2 : Int32) then v11 else (v11 ++ [qb]))) : v12 = own_uri (own_hs kl ca cb) n (own_hs pl qa qb) := by
  have D : ∀ q : Nat, 0 < q → q < 65536 → vp / Int32.ofNat q = Int32.ofNat (n / q) := fun q q0 q1 => by rw [hv]; exact own_divN (by omega) (by omega) q0
  have M : ∀ k : Nat, k < 65536 → Int32.ofNat k % (10 : Int32) = Int32.ofNat (k % 10) := fun k h => own_remN (k := 10) (by omega) (by omega) (by omega)
  have hd (k : Nat) (h : 0 < k) : n / k ≤ n := Nat.div_le_self n k
  have e1 := own_dg (k := n / 10000) (by omega) (D 10000 (by omega) (by omega)) c1
  have e2 := own_dg (k := n / 1000 % 10) (by omega) ((congrArg (· % (10 : Int32)) (D 1000 (by omega) (by omega))).trans (M _ (by omega))) c2
  have e3 := own_dg (k := n / 100 % 10) (by omega) ((congrArg (· % (10 : Int32)) (D 100 (by omega) (by omega))).trans (M _ (by omega))) c3
  have e4 := own_dg (k := n / 10 % 10) (by omega) ((congrArg (· % (10 : Int32)) (D 10 (by omega) (by omega))).trans (M _ (by omega))) c4
  have e5 := own_dg (k := n % 10) (by omega) (by rw [hv]; exact M n hn) c5
  have d1 := own_dif (q := 10000) hn (by omega) x1
  have d2 := own_dif (q := 1000) hn (by omega) x2
  have d3 := own_dif (q := 100) hn (by omega) x3
  have d4 := own_dif (q := 10) hn (by omega) x4
  rw [own_opS] at h1 h2 h3 h4 h6 h7 h8 h9 h11 h12
  rw [hv] at h6 h7 h8 h9
  rw [show (if Int32.ofNat n < (10000 : Int32) then [] else [x1]) = _ from d1, e1] at h6
  rw [show (if Int32.ofNat n < (1000 : Int32) then [] else [x2]) = _ from d2, e2] at h7
  rw [show (if Int32.ofNat n < (100 : Int32) then [] else [x3]) = _ from d3, e3] at h8
  rw [show (if Int32.ofNat n < (10 : Int32) then [] else [x4]) = _ from d4, e4] at h9
  rw [own_colE hk] at h0
  rw [h12, h11, h10, h9, h8, h7, h6, h5, h4, h3, h2, h1, e5, own_uri]
  by_cases hin : (58 : Int32) ∈ own_hs kl ca cb
  · rw [if_pos hin] at h0 ⊢
    have e10 : ¬ ((1 : Int32) = (0 : Int32)) := by decide
    rw [h0, if_neg e10, if_neg e10, own_hsE hk, own_hsE hp, own_dec]
    simp only [own_nil, List.append_assoc, List.nil_append, List.cons_append]
  · rw [if_neg hin] at h0 ⊢
    have e00 : (0 : Int32) = (0 : Int32) := rfl
    rw [h0, if_pos e00, if_pos e00, own_hsE hk, own_hsE hp, own_dec]
    simp only [own_nil, List.append_assoc, List.nil_append, List.cons_append]
theorem tq198u {p : Program} {l : Launch} {e : Env} {s : State} {m : MethodId} {args : Array Value} {below : List Frame} {meth : Method} {c : Code} {T0 : State} {locs : List Loc} {Z : State} {a0 : Array Value} (hw : ∀ d ∈ tables_1, d.before a0 Z = true) (s0 s1 s2 s3 s11 s12 s16 : Slot) (kl pl ca cb qa qb vp : Int32) (n : Nat) (h0 : Heap) (n0 : Nat) (X0 : Stand p l e room_1 s m args below meth c T0 locs 6 16) (N0 : Fr n0 locs) (hx : p.tables.exec = Jvm.exec) (hZ : Z.Warmed39 s.vm) (hby : c.code = code) (hml : c.maxLocals = 17) (hown : s.vm.findClass "com/example/traqt/traqt/moqt/MoqtUriToStringPinLaw" = some m.cls) (e0 : T0.heap = h0) (O0 : Old Z n0 h0) (hkl : own_K kl) (hpl : own_K pl) (hca : ca.toUInt32.toUInt16.toUInt32.toInt32 = ca) (hcb : cb.toUInt32.toUInt16.toUInt32.toInt32 = cb) (hqa : qa.toUInt32.toUInt16.toUInt32.toInt32 = qa) (hqb : qb.toUInt32.toUInt16.toUInt32.toInt32 = qb) (hv : vp = (Int32.ofNat n)) (hn : n < 65536) :
    ∃ (T' : State) (locs' : List Loc) (h' : Heap) (b1 : Addr) (k1 : ClassId), Stand p l e room_1 s m args below meth c T' locs' 7 36 ∧ Fr n0 locs' ∧ T'.heap = h' ∧ Keep h0 h' [] ∧ h0.size ≤ b1 ∧ Arv Z h' b1 k1 .char (20 : Int32) (own_ex (own_uri (own_hs kl ca cb) n (own_hs pl qa qb))) (.int 0) ∧
      ∀ target, Steps p.tables e below (T'.setTop (mkF m 514 #[s0, s1, s2, s3, .val (.int kl), .val (.int pl), .val (.int ca), .val (.int cb), .val (.int qa), .val (.int qb), .val (.int vp), s11, s12, .val (.ref b1), .val (.int (own_n (own_uri (own_hs kl ca cb) n (own_hs pl qa qb)))), .val (.int (own_col kl ca cb)), s16] [])) target → Steps p.tables e below (T0.setTop (mkF m 198 #[s0, s1, s2, s3, .val (.int kl), .val (.int pl), .val (.int ca), .val (.int cb), .val (.int qa), .val (.int qb), .val (.int vp), s11, s12, .unset, .unset, .unset, s16] [])) target := by
  obtain ⟨w29, ew29⟩ : ∃ z, z = (if (own_col kl ca cb) = (0 : Int32) then [(109 : Int32), (111 : Int32), (113 : Int32), (116 : Int32), (58 : Int32), (47 : Int32), (47 : Int32)] else ([(109 : Int32), (111 : Int32), (113 : Int32), (116 : Int32), (58 : Int32), (47 : Int32), (47 : Int32)] ++ [(91 : Int32)])) := ⟨_, rfl⟩
  obtain ⟨w33, ew33⟩ : ∃ z, z = (if kl < (1 : Int32) then w29 else (w29 ++ [ca])) := ⟨_, rfl⟩
  obtain ⟨w37, ew37⟩ : ∃ z, z = (if kl < (2 : Int32) then w33 else (w33 ++ [cb])) := ⟨_, rfl⟩
  obtain ⟨w41, ew41⟩ : ∃ z, z = (if (own_col kl ca cb) = (0 : Int32) then w37 else (w37 ++ [(93 : Int32)])) := ⟨_, rfl⟩
  obtain ⟨w45, ew45⟩ : ∃ z, z = (w41 ++ [(58 : Int32)]) := ⟨_, rfl⟩
  obtain ⟨w49, ew49⟩ : ∃ z, (((48 : Int32) + (vp / (10000 : Int32))).toUInt32.toUInt16.toUInt32.toInt32).toUInt32.toUInt16.toUInt32.toInt32 = z := ⟨_, rfl⟩
  obtain ⟨w50, ew50⟩ : ∃ z, z = (if vp < (10000 : Int32) then w45 else (w45 ++ [w49])) := ⟨_, rfl⟩
  obtain ⟨w54, ew54⟩ : ∃ z, (((48 : Int32) + ((vp / (1000 : Int32)) % (10 : Int32))).toUInt32.toUInt16.toUInt32.toInt32).toUInt32.toUInt16.toUInt32.toInt32 = z := ⟨_, rfl⟩
  obtain ⟨w55, ew55⟩ : ∃ z, z = (if vp < (1000 : Int32) then w50 else (w50 ++ [w54])) := ⟨_, rfl⟩
  obtain ⟨w59, ew59⟩ : ∃ z, (((48 : Int32) + ((vp / (100 : Int32)) % (10 : Int32))).toUInt32.toUInt16.toUInt32.toInt32).toUInt32.toUInt16.toUInt32.toInt32 = z := ⟨_, rfl⟩
  obtain ⟨w60, ew60⟩ : ∃ z, z = (if vp < (100 : Int32) then w55 else (w55 ++ [w59])) := ⟨_, rfl⟩
  obtain ⟨w64, ew64⟩ : ∃ z, (((48 : Int32) + ((vp / (10 : Int32)) % (10 : Int32))).toUInt32.toUInt16.toUInt32.toInt32).toUInt32.toUInt16.toUInt32.toInt32 = z := ⟨_, rfl⟩
  obtain ⟨w65, ew65⟩ : ∃ z, z = (if vp < (10 : Int32) then w60 else (w60 ++ [w64])) := ⟨_, rfl⟩
  obtain ⟨w69, ew69⟩ : ∃ z, (((48 : Int32) + (vp % (10 : Int32))).toUInt32.toUInt16.toUInt32.toInt32).toUInt32.toUInt16.toUInt32.toInt32 = z := ⟨_, rfl⟩
  obtain ⟨w70, ew70⟩ : ∃ z, z = (w65 ++ [w69]) := ⟨_, rfl⟩
  obtain ⟨w74, ew74⟩ : ∃ z, z = (if pl < (1 : Int32) then w70 else (w70 ++ [qa])) := ⟨_, rfl⟩
  obtain ⟨w78, ew78⟩ : ∃ z, z = (if pl < (2 : Int32) then w74 else (w74 ++ [qb])) := ⟨_, rfl⟩
  have U := own_plain hkl hpl hv hn rfl ew29 ew33 ew37 ew41 ew45 ew49 ew50 ew54 ew55 ew59 ew60 ew64 ew65 ew69 ew70 ew74 ew78
  rw [← U]
  exact tq198 hw s0 s1 s2 s3 s11 s12 s16 kl pl ca cb qa qb vp (own_col kl ca cb) w29 w33 w37 w41 w45 w49 w50 w54 w55 w59 w60 w64 w65 w69 w70 w74 w78 h0 n0 X0 N0 hx hZ hby hml hown e0 O0 rfl ew29 hca ew33 hcb ew37 ew41 ew45 ew49 ew50 ew54 ew55 ew59 ew60 ew64 ew65 ew69 ew70 hqa ew74 hqb ew78
theorem pd_25 : parseMethodDescriptor "(Ljava/lang/String;ILjava/lang/String;)V" = some ⟨[(.object "java/lang/String"), .int, (.object "java/lang/String")], none⟩ := by decide +kernel
def own_Met (l : Launch) (Z : State) (ws : List Jvm.Cond) (as : Array Value) (h0 : Heap) (n0 : Nat) : Prop := MetFree l x (head1 (Jvm.Cond.code x code maxLocals ret :: ws) room_1) (fun a U => a = as ∧ Z.Warmed39 U.vm ∧ U.heap = h0 ∧ CHv Z own_EL U.vm h0) (fun _ _ _ _ _ => True) (fun _ U o U' => ∃ v L, o = .returned v ∧ (v = some (.int 1) ∧ Fr n0 L) ∧ ReturnedEndW U o U' L room_1.cells room_1.slots)
theorem ef_0 (m : MethodId) (x0 : Int32) (x1 : Int32) (x2 : Int32) (x3 : Int32) : entryFrame m #[(.int x0), (.int x1), (.int x2), (.int x3)] maxLocals = mkF m 0 #[.val (.int x0), .val (.int x1), .val (.int x2), .val (.int x3), .unset, .unset, .unset, .unset, .unset, .unset, .unset, .unset, .unset, .unset, .unset, .unset, .unset] [] := by first | (simp [entryFrame, mkF, argsToLocals, Value.category, maxLocals]; done) | rfl
theorem rm0 (l : Launch) (Z : State) (a0 : Array Value) (hw : ∀ d ∈ tables_1, d.before a0 Z = true) (ws : List Jvm.Cond) (p1 p2 p3 p4 kl pl ca cb qa qb vp zC : Int32) (fm : Value) (wO wT : Addr) (cO cT : Cell) (n : Nat) (h0 : Heap) (n0 : Nat) (O0 : Old Z n0 h0) (HA_wO : Arr Z h0 wO cO .byte) (HA_wT : Arr Z h0 wT cT .byte) (h16_hca : ca = (own_pk (((p4.toUInt32 >>> ((4 : Int32) &&& 31).toUInt32).toInt32) &&& (1 : Int32)) ((p1 &&& (255 : Int32)).toUInt32.toUInt16.toUInt32.toInt32))) (h37_hca : cb = (own_pk (((p4.toUInt32 >>> ((5 : Int32) &&& 31).toUInt32).toInt32) &&& (1 : Int32)) ((((p1.toUInt32 >>> ((8 : Int32) &&& 31).toUInt32).toInt32) &&& (255 : Int32)).toUInt32.toUInt16.toUInt32.toInt32))) (hkl_86 : ((p4 &&& (3 : Int32)) % (3 : Int32)) = kl) (hpl_86 : ((((p4.toUInt32 >>> ((2 : Int32) &&& 31).toUInt32).toInt32) &&& (3 : Int32)) % (3 : Int32)) = pl) (hqa_86 : ((p3 &&& (255 : Int32)).toUInt32.toUInt16.toUInt32.toInt32) = qa) (hqb_86 : ((((p3.toUInt32 >>> ((8 : Int32) &&& 31).toUInt32).toInt32) &&& (255 : Int32)).toUInt32.toUInt16.toUInt32.toInt32) = qb) (hvp_86 : (p2 &&& (65535 : Int32)) = vp) (S_COMPACT_STRINGS : Sta Z Z.heap "java/lang/String" "COMPACT_STRINGS" "Z" (.int zC)) (h86_hz : ¬ (zC = (0 : Int32))) (h86_hca : ca.toUInt32.toUInt16.toUInt32.toInt32 = ca) (h86_hcb : cb.toUInt32.toUInt16.toUInt32.toInt32 = cb) (h86_ha2 : ¬ ((255 : Int32) < ca)) (h86_hb2 : ¬ ((255 : Int32) < cb)) (h142_hca : qa.toUInt32.toUInt16.toUInt32.toInt32 = qa) (h142_hcb : qb.toUInt32.toUInt16.toUInt32.toInt32 = qb) (h142_ha2 : ¬ ((255 : Int32) < qa)) (h142_hb2 : ¬ ((255 : Int32) < qb)) (h198_hkl : own_K kl) (h198_hpl : own_K pl) (h198_hv : vp = (Int32.ofNat n)) (h198_hn : n < 65536) (h524_hc5 : ¬ (vp < (0 : Int32))) (h524_hc11 : ¬ ((65535 : Int32) < vp)) (S_DigitOnes : Sta Z Z.heap "java/lang/Integer" "DigitOnes" "[B" (.ref wO)) (S_DigitTens : Sta Z Z.heap "java/lang/Integer" "DigitTens" "[B" (.ref wT)) (h527_hrg : ∀ c ∈ (own_hs kl ca cb), ¬ c < 0 ∧ ¬ (255 : Int32) < c) (h527_hl2 : (own_hs kl ca cb).length ≤ 2) (h527_hp2 : (own_hs pl qa qb).length ≤ 2) (h527_htab : own_tab cO cT) (S_SIOOBE_FORMATTER : Sta Z Z.heap "jdk/internal/util/Preconditions" "SIOOBE_FORMATTER" "Ljava/util/function/BiFunction;" fm) (h544_h551_hrfm : fm.isRef = true) (h544_h551_hes : ∀ c ∈ (own_uri (own_hs kl ca cb) n (own_hs pl qa qb)), ¬ c < 0 ∧ ¬ (255 : Int32) < c) (h544_h551_h20 : (own_uri (own_hs kl ca cb) n (own_hs pl qa qb)).length ≤ 20) :
    own_Met l Z ws #[(.int p1), (.int p2), (.int p3), (.int p4)] h0 n0 := by
  refine MetFree.of_bodySF (plainFor_of_name pnc_com_example_traqt_traqt_moqt_MoqtUriToStringPinLaw) hisR ?_
  intro p e s m args below meth c s₁ Bd hml0 hP hK
  obtain ⟨rfl, hZ_, hh, hCH⟩ := hP
  have hx := Bd.exec
  have hby := Bd.bytes
  have hml : c.maxLocals = 17 := hml0
  have hown : s.vm.findClass "com/example/traqt/traqt/moqt/MoqtUriToStringPinLaw" = some m.cls := findClass_of_methodNamed Bd.named
  have hnm := (name_of_methodNamed Bd.named Bd.method).1
  have X0 : Stand p l e room_1 (s.setVm s.vm) m #[(.int p1), (.int p2), (.int p3), (.int p4)] below meth c s₁ [] 0 0 := Stand.of_body Bd
  have hZ : Z.Warmed39 (s.setVm s.vm).vm := hZ_
  have hS0 : s.Since s.vm s.heap.size := (State.WarmedH.refl s).since s.heap.size
  have hk0 : s.heap.size ≤ h0.size := Nat.le_of_eq (by rw [hh])
  have e0 : s₁.heap = h0 := by rw [← hh, Bd.state]; rfl
  have N0 := Fr.nil n0
  have Z0 : n0 ≤ h0.size := O0.1 ▸ O0.2.1
  have pre0 : ∀ t, Steps p.tables e below (s₁.setTop (mkF m 0 #[.val (.int p1), .val (.int p2), .val (.int p3), .val (.int p4), .unset, .unset, .unset, .unset, .unset, .unset, .unset, .unset, .unset, .unset, .unset, .unset, .unset] [])) t → Steps p.tables e below (s₁.setTop (entryFrame m #[(.int p1), (.int p2), (.int p3), (.int p4)] maxLocals)) t := fun t k => castTop (ef_0 m p1 p2 p3 p4) k
  obtain ⟨T5, L5, X5, N5, e5, st5⟩ := tp16 hw ((.val (.int p2))) ((.val (.int p3))) ((.val (.int ((p4 &&& (3 : Int32)) % (3 : Int32))))) ((.val (.int ((((p4.toUInt32 >>> ((2 : Int32) &&& 31).toUInt32).toInt32) &&& (3 : Int32)) % (3 : Int32))))) ((.unset)) ((.unset)) ((.unset)) ((.unset)) ((.unset)) ((.unset)) ((.unset)) ((.unset)) ((.unset)) ((.unset)) p1 p4 ca h0 n0 X0 N0 hx hZ hby hml hown e0 O0 h16_hca
  obtain ⟨T6, L6, X6, N6, e6, st6⟩ := tp37 hw ((.val (.int p2))) ((.val (.int p3))) ((.val (.int ((p4 &&& (3 : Int32)) % (3 : Int32))))) ((.val (.int ((((p4.toUInt32 >>> ((2 : Int32) &&& 31).toUInt32).toInt32) &&& (3 : Int32)) % (3 : Int32))))) ((.val (.int ca))) ((.unset)) ((.unset)) ((.unset)) ((.unset)) ((.unset)) ((.unset)) ((.unset)) ((.unset)) ((.unset)) p1 p4 cb h0 n0 X5 N5 hx hZ hby hml hown e5 O0 h37_hca
  obtain ⟨T9, L9, h9, vm9, kk9, k10, y7, y8, X9, N9, e9, K9, Y9_0, Y9_1, Y9_2, Y9_3, hS9, hk9, hZ9, ho9, hR9, st9⟩ := tsh hw ((.val (.int p1))) ((.val (.int p2))) ((.val (.int p3))) ((.val (.int p4))) ((.val (.int pl))) ((.val (.int qa))) ((.val (.int qb))) ((.val (.int vp))) ((.unset)) ((.unset)) ((.unset)) ((.unset)) ((.unset)) kl ca cb zC ((own_hs kl ca cb)) h0 n0 X6 N6 hx hZ hby hml hown e6 O0 hS0 hk0 hCH S_COMPACT_STRINGS h86_hz (rfl : (own_hs kl ca cb) = (own_hs kl ca cb)) h86_hca h86_hcb h86_ha2 h86_hb2
  have hR11 := hR9
  have ch11 := CHr.trans (CHr.refl hCH) hR11
  have K12 : Keep h0 h9 [] := (Keep.refl h0 []).trans K9 all0
  have O13 : Old Z n0 h9 := O0.keep K9 all0
  obtain ⟨T16, L16, h16, vm16, kk16, k17, y14, y15, X16, N16, e16, K16, Y16_0, Y16_1, Y16_2, Y16_3, hS16, hk16, hZ16, ho16, hR16, st16⟩ := tsp hw ((.val (.int p1))) ((.val (.int p2))) ((.val (.int p3))) ((.val (.int p4))) ((.val (.int kl))) ((.val (.int ca))) ((.val (.int cb))) ((.val (.int vp))) ((.val (.ref y7))) ((.unset)) ((.unset)) ((.unset)) ((.unset)) pl qa qb zC ((own_hs pl qa qb)) h9 n0 X9 N9 hx hZ9 hby hml ho9 e9 O13 hS9 hk9 hR11.1 S_COMPACT_STRINGS h86_hz (rfl : (own_hs pl qa qb) = (own_hs pl qa qb)) h142_hca h142_hcb h142_ha2 h142_hb2
  have hR18 := hR16
  have ch18 := CHr.trans ch11 hR18
  have K19 : Keep h0 h16 [] := K12.trans K16 all0
  have O20 : Old Z n0 h16 := O13.keep K16 all0
  obtain ⟨T21, L21, h21, b22, k23, X21, N21, e21, K21, Y21_z0, Y21_0, st21⟩ := tq198u hw ((.val (.int p1))) ((.val (.int p2))) ((.val (.int p3))) ((.val (.int p4))) ((.val (.ref y7))) ((.val (.ref y14))) ((.unset)) kl pl ca cb qa qb vp n h16 n0 X16 N16 hx hZ16 hby hml ho16 e16 O20 h198_hkl h198_hpl h86_hca h86_hcb h142_hca h142_hcb h198_hv h198_hn
  have g_b22 : n0 ≤ b22 := Nat.le_trans (Nat.le_trans Z0 K19.1) Y21_z0
  have sz_b22 : h0.size ≤ b22 := Nat.le_trans K19.1 Y21_z0
  have hR24 := (CHr.keep K21 sf0 hR18.1)
  have sf24_b22 := (Safe.keep K21 sf0 hR18.1 (Safe.new Y21_z0))
  have ch24 := CHr.trans ch18 hR24
  have K25 : Keep h0 h21 [] := K19.trans K21 all0
  have O26 : Old Z n0 h21 := O20.keep K21 all0
  obtain ⟨T27, h27, X27, e27, E27, A27, D27, -, st27⟩ := newO X21 hx hZ16 ho16 (own_w hw 34 rfl) (own_w hw 35 rfl) (own_w hw 36 rfl) e21 (g := (mkF m 514 #[.val (.int p1), .val (.int p2), .val (.int p3), .val (.int p4), .val (.int kl), .val (.int pl), .val (.int ca), .val (.int cb), .val (.int qa), .val (.int qb), .val (.int vp), .val (.ref y7), .val (.ref y14), .val (.ref b22), .val (.int (own_n (own_uri (own_hs kl ca cb) n (own_hs pl qa qb)))), .val (.int (own_col kl ca cb)), .unset] [])) rfl (hb hby at_514) (by decide) (by decide)
  obtain ⟨b27, g27⟩ : ∃ z, z = h21.size := ⟨_, rfl⟩
  rw [← g27] at A27 D27 st27
  have g_b27 : n0 ≤ b27 := Nat.le_trans (Nat.le_trans Z0 K25.1) (Nat.le_of_eq g27.symm)
  have sz_b27 : h0.size ≤ b27 := Nat.le_trans K25.1 (Nat.le_of_eq g27.symm)
  have hR28 := (CHr.ext E27 hR24.1)
  have sf28_b22 := (Safe.ext E27 hR24.1 sf24_b22)
  have sf28_b27 := (Safe.ext E27 hR24.1 (Safe.new (Nat.le_of_eq g27.symm)))
  have ch28 := CHr.trans ch24 hR28
  have K29 : Keep h0 h27 [] := K25.ext E27
  have O30 : Old Z n0 h27 := O26.ext E27
  have F_host_b27 : Fld Z h27 b27 "com/example/traqt/traqt/moqt/MoqtUri" "host" "Ljava/lang/String;" .null := D27 (Or.inr (own_w hw 48 rfl)) (ty := (.object "java/lang/String")) (by decide)
  have F_port_b27 : Fld Z h27 b27 "com/example/traqt/traqt/moqt/MoqtUri" "port" "I" (.int 0) := D27 (Or.inr (own_w hw 50 rfl)) (ty := .int) (by decide)
  have F_path_b27 : Fld Z h27 b27 "com/example/traqt/traqt/moqt/MoqtUri" "path" "Ljava/lang/String;" .null := D27 (Or.inr (own_w hw 52 rfl)) (ty := (.object "java/lang/String")) (by decide)
  replace X27 := X27.more (cells' := 8) (slots' := 39) (by decide) (by decide)
  obtain ⟨vr31, _, ⟨T31, L31, k31, n31⟩, -, X31, ⟨Lc31, hQ31, l31, y31, z31⟩, st31⟩ := X27.specialBack hx (y := (⟨"com/example/traqt/traqt/moqt/MoqtUri", "<init>", "(Ljava/lang/String;ILjava/lang/String;)V"⟩ : MethodName)) rfl ho16 (mvT hZ16 (own_w hw 37 rfl)) (mvT hZ16 (own_w hw 38 rfl)) (mvT hZ16 (own_w hw 39 rfl)) (by decide) (backOf (W := 1) (rm7 l Z a0 hw [] b27 y7 vp y14 (.null) ((.int 0)) (.null) h27 n0 O30 h524_hc5 h524_hc11 A27 F_host_b27 g_b27 F_port_b27 F_path_b27) hZ16 (own_w hw 39 rfl) (own_w hw 36 rfl) (by decide) (by decide)) (g := (mkF m 524 #[.val (.int p1), .val (.int p2), .val (.int p3), .val (.int p4), .val (.int kl), .val (.int pl), .val (.int ca), .val (.int cb), .val (.int qa), .val (.int qb), .val (.int vp), .val (.ref y7), .val (.ref y14), .val (.ref b22), .val (.int (own_n (own_uri (own_hs kl ca cb) n (own_hs pl qa qb)))), .val (.int (own_col kl ca cb)), .unset] [(.ref y14), (.int vp), (.ref y7), (.ref b27), (.ref b27)])) rfl (by rw [hml]; rfl) (Steps.refl _) (a := b27) (argsL := [(.ref y7), (.int vp), (.ref y14)]) (rest := [(.ref b27)]) (lenOf pd_25 rfl) rfl (by show 2 * 0 + _ ≤ _; exact Nat.le_of_eq rfl) (hb hby at_524) (fun _ _ => ⟨rfl, e27, (by decide : 8 + 0 ≤ _), (by decide : 39 + 0 ≤ _)⟩)
  dsimp only [Pt.U, Pt.locs, Pt.cells, Pt.slots] at X31 l31 y31 z31 st31 hQ31
  subst l31 y31 z31
  obtain ⟨rfl, N31q, K31, Y31_0, Y31_1, Y31_2, Y31_3⟩ := hQ31
  have N31 := Fr.app N21 N31q
  replace X31 := X31.more (cells' := 8) (slots' := 39) (by decide) (by decide)
  have hR32 := (CHr.keep K31 (sfS sf28_b27 sf0) hR28.1)
  have sf32_b22 := (Safe.keep K31 (sfS sf28_b27 sf0) hR28.1 sf28_b22)
  have sf32_b27 := (Safe.keep K31 (sfS sf28_b27 sf0) hR28.1 sf28_b27)
  have ch32 := CHr.trans ch28 hR32
  have K33 : Keep h0 T31.heap [] := K29.trans K31 (allS (Or.inr sz_b27) all0)
  have O34 : Old Z n0 T31.heap := O30.keep K31 (allS g_b27 all0)
  have f35 := ((((Y9_0.keep K16).keep K21).ext E27).keep K31)
  have ne37 : y7 ≠ b27 := Nat.ne_of_lt (Nat.lt_of_lt_of_le (Nat.lt_of_lt_of_le Y9_0.lt (Nat.le_trans K16.1 K21.1)) (Nat.le_of_eq g27.symm))
  have f36 := ((((Y9_2.keep K16 nin0).keep K21 nin0).ext E27).keep K31 (ninS ne37 nin0))
  have f38 := ((((Y9_1.keep K16 nin0).keep K21 nin0).ext E27).keep K31 (ninS ne37 nin0))
  have ne40 : y8 ≠ b27 := Nat.ne_of_lt (Nat.lt_of_lt_of_le (Nat.lt_of_lt_of_le Y9_3.lt (Nat.le_trans K16.1 K21.1)) (Nat.le_of_eq g27.symm))
  have f39 := ((((Y9_3.keep K16 nin0).keep K21 nin0).ext E27).keep K31 (ninS ne40 nin0))
  have f41 := (((Y16_0.keep K21).ext E27).keep K31)
  have ne43 : y14 ≠ b27 := Nat.ne_of_lt (Nat.lt_of_lt_of_le (Nat.lt_of_lt_of_le Y16_0.lt K21.1) (Nat.le_of_eq g27.symm))
  have f42 := (((Y16_2.keep K21 nin0).ext E27).keep K31 (ninS ne43 nin0))
  have f44 := (((Y16_1.keep K21 nin0).ext E27).keep K31 (ninS ne43 nin0))
  have ne46 : y15 ≠ b27 := Nat.ne_of_lt (Nat.lt_of_lt_of_le (Nat.lt_of_lt_of_le Y16_3.lt K21.1) (Nat.le_of_eq g27.symm))
  have f45 := (((Y16_3.keep K21 nin0).ext E27).keep K31 (ninS ne46 nin0))
  have ne48 : wO ≠ b27 := Nat.ne_of_lt (Nat.lt_of_lt_of_le (Nat.lt_of_lt_of_le HA_wO.lt (Nat.le_trans (Nat.le_trans K9.1 K16.1) K21.1)) (Nat.le_of_eq g27.symm))
  have f47 := (own_arrkeep ((own_arrkeep (own_arrkeep (own_arrkeep HA_wO K9 nin0) K16 nin0) K21 nin0).ext E27) K31 (ninS ne48 nin0))
  have ne50 : wT ≠ b27 := Nat.ne_of_lt (Nat.lt_of_lt_of_le (Nat.lt_of_lt_of_le HA_wT.lt (Nat.le_trans (Nat.le_trans K9.1 K16.1) K21.1)) (Nat.le_of_eq g27.symm))
  have f49 := (own_arrkeep ((own_arrkeep (own_arrkeep (own_arrkeep HA_wT K9 nin0) K16 nin0) K21 nin0).ext E27) K31 (ninS ne50 nin0))
  obtain ⟨cq51, kq51, q51a, q51b, q51c⟩ := isOf hZ16 rfl Y31_0
  obtain ⟨vr51, _, ⟨T51, L51, k51, n51⟩, -, X51, hs251, hg251, ⟨Lc51, hQ51, l51, y51, z51, hR51⟩, st51⟩ := X31.virtualBackS hx (y := (⟨"com/example/traqt/traqt/moqt/MoqtUri", "toString", "()Ljava/lang/String;"⟩ : MethodName)) (z := (⟨"com/example/traqt/traqt/moqt/MoqtUri", "toString", "()Ljava/lang/String;"⟩ : MethodName)) ho16 (mvT hZ16 (own_w hw 53 rfl)) (mvT hZ16 (own_w hw 54 rfl)) (notFace_of_selects (args := #[]) (mvT hZ16 (own_w hw 56 rfl))) (mvT hZ16 (own_w hw 56 rfl)) (mvT hZ16 (own_w hw 55 rfl)) (by decide) (backOfSH (W := 0) (rm9 l Z a0 hw [] b27 y7 y8 y14 y15 k10 k17 ((own_hs kl ca cb)) ((own_hs pl qa qb)) n vp zC wO wT cO cT T31.heap n0 O34 Y31_0 Y31_1 Y31_3 Y31_2 f35 f36 f38 f39 f41 f42 f44 f45 f47 f49 S_COMPACT_STRINGS S_DigitOnes S_DigitTens h86_hz h527_hrg h527_hl2 h527_hp2 h198_hv h198_hn h527_htab) hZ16 (own_w hw 57 rfl) (own_w hw 36 rfl) (by decide) (by decide) (own_EW hw) hR32.1) q51a q51c (g := (mkF m 527 #[.val (.int p1), .val (.int p2), .val (.int p3), .val (.int p4), .val (.int kl), .val (.int pl), .val (.int ca), .val (.int cb), .val (.int qa), .val (.int qb), .val (.int vp), .val (.ref y7), .val (.ref y14), .val (.ref b22), .val (.int (own_n (own_uri (own_hs kl ca cb) n (own_hs pl qa qb)))), .val (.int (own_col kl ca cb)), .unset] [(.ref b27)])) rfl (by rw [hml]; rfl) (Steps.refl _) (argsL := []) (rest := []) (lenOf pd_3 rfl) rfl (by show 2 * 0 + _ ≤ _; exact Nat.le_of_eq rfl) (hb hby at_527) (fun _ _ => ⟨rfl, rfl, (by decide : 8 + 24 ≤ _), (by decide : 39 + 400 ≤ _)⟩)
  dsimp only [Pt.U, Pt.locs, Pt.cells, Pt.slots] at X51 hs251 hg251 l51 y51 z51 hR51 st51 hQ51
  subst l51 y51 z51
  have hk251 : _ ≤ T31.heap.size := (Nat.le_trans hk16 (Nat.le_trans (Nat.le_trans K21.1 E27.1) K31.1))
  have hS51 : s.Since T51.vm T51.heap.size := foldS hS16 hk251 hs251 hg251
  have hZ51 : Z.Warmed39 (s.setVm T51.vm).vm := State.Warmed39.trans hZ16 hs251.1
  have ho51 : (s.setVm T51.vm).vm.findClass "com/example/traqt/traqt/moqt/MoqtUriToStringPinLaw" = some m.cls := by rw [show (s.setVm T51.vm).vm = T51.vm from rfl, hs251.1.alike.findClass]; exact ho16
  replace X51 : Stand _ _ _ _ (s.setVm T51.vm) _ _ _ _ _ _ _ _ _ := X51
  obtain ⟨b52, b53, k54, rfl, N51q, K51, Y51_z0, Y51_z1, Y51_n0, Y51_0, Y51_1, Y51_2, Y51_3⟩ := hQ51
  have N51 := Fr.app N31 N51q
  replace X51 := X51.more (cells' := 32) (slots' := 439) (by decide) (by decide)
  have g_b52 : n0 ≤ b52 := Nat.le_trans (Nat.le_trans Z0 K33.1) Y51_z0
  have sz_b52 : h0.size ≤ b52 := Nat.le_trans K33.1 Y51_z0
  have g_b53 : n0 ≤ b53 := Nat.le_trans (Nat.le_trans Z0 K33.1) Y51_z1
  have sz_b53 : h0.size ≤ b53 := Nat.le_trans K33.1 Y51_z1
  have hR55 := hR51
  have sf55_b22 := (CHr.safe hR51 (Nat.lt_of_lt_of_le Y21_0.lt (Nat.le_trans E27.1 K31.1)) sf32_b22)
  have sf55_b27 := (CHr.safe hR51 (Nat.lt_of_lt_of_le A27.lt K31.1) sf32_b27)
  have ch55 := CHr.trans ch32 hR55
  have K56 : Keep h0 T51.heap [] := K33.trans K51 all0
  have O57 : Old Z n0 T51.heap := O34.keep K51 all0
  obtain ⟨cq58, kq58, q58a, q58b, q58c⟩ := isOf hZ51 rfl Y51_0
  obtain ⟨vr58, _, ⟨T58, L58, k58, n58⟩, -, X58, ⟨Lc58, hQ58, l58, y58, z58⟩, st58⟩ := X51.virtualBack hx (y := (⟨"java/lang/String", "length", "()I"⟩ : MethodName)) (z := (⟨"java/lang/String", "length", "()I"⟩ : MethodName)) ho51 (mvT hZ51 (own_w hw 219 rfl)) (mvT hZ51 (own_w hw 124 rfl)) (notFace_of_selects (args := #[]) (mvT hZ51 (own_w hw 126 rfl))) (mvT hZ51 (own_w hw 126 rfl)) (mvT hZ51 (own_w hw 125 rfl)) (by decide) (backOf (W := 0) (rm21 l Z a0 hw [] b52 b53 k54 ((own_n (own_uri (own_hs kl ca cb) n (own_hs pl qa qb)))) ((own_by (own_uri (own_hs kl ca cb) n (own_hs pl qa qb)))) zC T51.heap n0 O57 Y51_0 Y51_3 Y51_2 S_COMPACT_STRINGS Y51_1 h86_hz) hZ51 (own_w hw 127 rfl) (own_w hw 3 rfl) (by decide) (by decide)) q58a q58c (g := (mkF m 534 #[.val (.int p1), .val (.int p2), .val (.int p3), .val (.int p4), .val (.int kl), .val (.int pl), .val (.int ca), .val (.int cb), .val (.int qa), .val (.int qb), .val (.int vp), .val (.ref y7), .val (.ref y14), .val (.ref b22), .val (.int (own_n (own_uri (own_hs kl ca cb) n (own_hs pl qa qb)))), .val (.int (own_col kl ca cb)), .val (.ref b52)] [(.ref b52)])) rfl (by rw [hml]; rfl) (Steps.refl _) (argsL := []) (rest := []) (lenOf pd_1 rfl) rfl (by show 2 * 0 + _ ≤ _; exact Nat.le_of_eq rfl) (hb hby at_534) (fun _ _ => ⟨rfl, rfl, (by decide : 32 + 0 ≤ _), (by decide : 439 + 0 ≤ _)⟩)
  dsimp only [Pt.U, Pt.locs, Pt.cells, Pt.slots] at X58 l58 y58 z58 st58 hQ58
  subst l58 y58 z58
  obtain ⟨rfl, N58q, e58⟩ := hQ58
  have N58 := Fr.app N51 N58q
  replace X58 := X58.more (cells' := 32) (slots' := 439) (by decide) (by decide)
  have ne60 : b22 ≠ b27 := Nat.ne_of_lt (Nat.lt_of_lt_of_le Y21_0.lt (Nat.le_of_eq g27.symm))
  have f59 := (((Y21_0.ext E27).keep K31 (ninS ne60 nin0)).keep K51 nin0)
  obtain ⟨T61, L61, X61, N61, e61, st61⟩ := tfin hw ((.val (.int p1))) ((.val (.int p2))) ((.val (.int p3))) ((.val (.int p4))) ((.val (.int kl))) ((.val (.int pl))) ((.val (.int ca))) ((.val (.int cb))) ((.val (.int qa))) ((.val (.int qb))) ((.val (.int vp))) ((.val (.ref y7))) ((.val (.ref y14))) ((.val (.int (own_col kl ca cb)))) b52 b22 b53 k54 k23 zC ((own_uri (own_hs kl ca cb) n (own_hs pl qa qb))) fm T51.heap n0 X58 N58 hx hZ51 hby hml ho51 e58 O57 Y51_0 Y51_2 Y51_1 Y51_3 f59 S_COMPACT_STRINGS S_SIOOBE_FORMATTER h86_hz h544_h551_hrfm h544_h551_hes h544_h551_h20
  obtain ⟨fs, hr, hrun, hended, hend⟩ := X61.leaveW hS51 (by rw [e61]; exact (Nat.le_refl _)) (v := some (.int 1)) (fun h => by rw [Bd.returns] at h; cases h)
  refine ⟨_, _, pre0 _ ?_, hrun, hended, _, _, rfl, ?_, hend.1, hend.2.1, hend.2.2.1, hend.2.2.2.mono (by decide) (by decide)⟩
  · show Steps p.tables e below (s₁.setTop (mkF m 0 #[.val (.int p1), .val (.int p2), .val (.int p3), .val (.int p4), .unset, .unset, .unset, .unset, .unset, .unset, .unset, .unset, .unset, .unset, .unset, .unset, .unset] [])) _
    refine XS.iloadN X0.here hx rfl (hb hby at_0) rfl ?_
    refine XS.iconst X0.here hx rfl (hb hby at_1) ?_
    refine XS.iand X0.here hx rfl (hb hby at_2) rfl ?_
    refine XS.iconst X0.here hx rfl (hb hby at_3) ?_
    show Steps p.tables e below (s₁.setTop (mkF m 4 #[.val (.int p1), .val (.int p2), .val (.int p3), .val (.int p4), .unset, .unset, .unset, .unset, .unset, .unset, .unset, .unset, .unset, .unset, .unset, .unset, .unset] [(.int 3), (.int (p4 &&& (3 : Int32)))])) _
    refine iremM X0 hx rfl (hb hby at_4) rfl (by decide : ¬ ((3 : Int32) = (0 : Int32))) ?_
    refine XS.istore X0.here hx rfl (hb hby at_5) rfl (l' := #[.val (.int p1), .val (.int p2), .val (.int p3), .val (.int p4), .val (.int ((p4 &&& (3 : Int32)) % (3 : Int32))), .unset, .unset, .unset, .unset, .unset, .unset, .unset, .unset, .unset, .unset, .unset, .unset]) rfl ?_
    refine XS.iloadN X0.here hx rfl (hb hby at_7) rfl ?_
    refine XS.iconst X0.here hx rfl (hb hby at_8) ?_
    refine XS.iushr X0.here hx rfl (hb hby at_9) rfl ?_
    refine XS.iconst X0.here hx rfl (hb hby at_10) ?_
    refine XS.iand X0.here hx rfl (hb hby at_11) rfl ?_
    show Steps p.tables e below (s₁.setTop (mkF m 12 #[.val (.int p1), .val (.int p2), .val (.int p3), .val (.int p4), .val (.int ((p4 &&& (3 : Int32)) % (3 : Int32))), .unset, .unset, .unset, .unset, .unset, .unset, .unset, .unset, .unset, .unset, .unset, .unset] [(.int (((p4.toUInt32 >>> ((2 : Int32) &&& 31).toUInt32).toInt32) &&& (3 : Int32)))])) _
    refine XS.iconst X0.here hx rfl (hb hby at_12) ?_
    show Steps p.tables e below (s₁.setTop (mkF m 13 #[.val (.int p1), .val (.int p2), .val (.int p3), .val (.int p4), .val (.int ((p4 &&& (3 : Int32)) % (3 : Int32))), .unset, .unset, .unset, .unset, .unset, .unset, .unset, .unset, .unset, .unset, .unset, .unset] [(.int 3), (.int (((p4.toUInt32 >>> ((2 : Int32) &&& 31).toUInt32).toInt32) &&& (3 : Int32)))])) _
    refine iremM X0 hx rfl (hb hby at_13) rfl (by decide : ¬ ((3 : Int32) = (0 : Int32))) ?_
    refine XS.istore X0.here hx rfl (hb hby at_14) rfl (l' := #[.val (.int p1), .val (.int p2), .val (.int p3), .val (.int p4), .val (.int ((p4 &&& (3 : Int32)) % (3 : Int32))), .val (.int ((((p4.toUInt32 >>> ((2 : Int32) &&& 31).toUInt32).toInt32) &&& (3 : Int32)) % (3 : Int32))), .unset, .unset, .unset, .unset, .unset, .unset, .unset, .unset, .unset, .unset, .unset]) rfl ?_
    show Steps p.tables e below (s₁.setTop (mkF m 16 #[.val (.int p1), .val (.int p2), .val (.int p3), .val (.int p4), .val (.int ((p4 &&& (3 : Int32)) % (3 : Int32))), .val (.int ((((p4.toUInt32 >>> ((2 : Int32) &&& 31).toUInt32).toInt32) &&& (3 : Int32)) % (3 : Int32))), .unset, .unset, .unset, .unset, .unset, .unset, .unset, .unset, .unset, .unset, .unset] [])) _
    refine st5 _ ?_
    show Steps p.tables e below (T5.setTop (mkF m 37 #[.val (.int p1), .val (.int p2), .val (.int p3), .val (.int p4), .val (.int ((p4 &&& (3 : Int32)) % (3 : Int32))), .val (.int ((((p4.toUInt32 >>> ((2 : Int32) &&& 31).toUInt32).toInt32) &&& (3 : Int32)) % (3 : Int32))), .val (.int ca), .unset, .unset, .unset, .unset, .unset, .unset, .unset, .unset, .unset, .unset] [])) _
    refine st6 _ ?_
    refine XS.iloadN X6.here hx rfl (hb hby at_61) rfl ?_
    refine XS.sipush X6.here hx rfl (hb hby at_62) ?_
    refine XS.iand X6.here hx rfl (hb hby at_65) rfl ?_
    refine XS.i2c X6.here hx rfl (hb hby at_66) rfl ?_
    refine XS.istore X6.here hx rfl (hb hby at_67) rfl (l' := #[.val (.int p1), .val (.int p2), .val (.int p3), .val (.int p4), .val (.int ((p4 &&& (3 : Int32)) % (3 : Int32))), .val (.int ((((p4.toUInt32 >>> ((2 : Int32) &&& 31).toUInt32).toInt32) &&& (3 : Int32)) % (3 : Int32))), .val (.int ca), .val (.int cb), .val (.int ((p3 &&& (255 : Int32)).toUInt32.toUInt16.toUInt32.toInt32)), .unset, .unset, .unset, .unset, .unset, .unset, .unset, .unset]) rfl ?_
    refine XS.iloadN X6.here hx rfl (hb hby at_69) rfl ?_
    show Steps p.tables e below (T6.setTop (mkF m 70 #[.val (.int p1), .val (.int p2), .val (.int p3), .val (.int p4), .val (.int ((p4 &&& (3 : Int32)) % (3 : Int32))), .val (.int ((((p4.toUInt32 >>> ((2 : Int32) &&& 31).toUInt32).toInt32) &&& (3 : Int32)) % (3 : Int32))), .val (.int ca), .val (.int cb), .val (.int ((p3 &&& (255 : Int32)).toUInt32.toUInt16.toUInt32.toInt32)), .unset, .unset, .unset, .unset, .unset, .unset, .unset, .unset] [(.int p3)])) _
    refine XS.bipush X6.here hx rfl (hb hby at_70) ?_
    refine XS.iushr X6.here hx rfl (hb hby at_72) rfl ?_
    refine XS.sipush X6.here hx rfl (hb hby at_73) ?_
    refine XS.iand X6.here hx rfl (hb hby at_76) rfl ?_
    refine XS.i2c X6.here hx rfl (hb hby at_77) rfl ?_
    refine XS.istore X6.here hx rfl (hb hby at_78) rfl (l' := #[.val (.int p1), .val (.int p2), .val (.int p3), .val (.int p4), .val (.int ((p4 &&& (3 : Int32)) % (3 : Int32))), .val (.int ((((p4.toUInt32 >>> ((2 : Int32) &&& 31).toUInt32).toInt32) &&& (3 : Int32)) % (3 : Int32))), .val (.int ca), .val (.int cb), .val (.int ((p3 &&& (255 : Int32)).toUInt32.toUInt16.toUInt32.toInt32)), .val (.int ((((p3.toUInt32 >>> ((8 : Int32) &&& 31).toUInt32).toInt32) &&& (255 : Int32)).toUInt32.toUInt16.toUInt32.toInt32)), .unset, .unset, .unset, .unset, .unset, .unset, .unset]) rfl ?_
    refine XS.iloadN X6.here hx rfl (hb hby at_80) rfl ?_
    show Steps p.tables e below (T6.setTop (mkF m 81 #[.val (.int p1), .val (.int p2), .val (.int p3), .val (.int p4), .val (.int ((p4 &&& (3 : Int32)) % (3 : Int32))), .val (.int ((((p4.toUInt32 >>> ((2 : Int32) &&& 31).toUInt32).toInt32) &&& (3 : Int32)) % (3 : Int32))), .val (.int ca), .val (.int cb), .val (.int ((p3 &&& (255 : Int32)).toUInt32.toUInt16.toUInt32.toInt32)), .val (.int ((((p3.toUInt32 >>> ((8 : Int32) &&& 31).toUInt32).toInt32) &&& (255 : Int32)).toUInt32.toUInt16.toUInt32.toInt32)), .unset, .unset, .unset, .unset, .unset, .unset, .unset] [(.int p2)])) _
    refine X6.ldcInt hx hown (mvT hZ (own_w hw 0 rfl)) (g := (mkF m 81 #[.val (.int p1), .val (.int p2), .val (.int p3), .val (.int p4), .val (.int ((p4 &&& (3 : Int32)) % (3 : Int32))), .val (.int ((((p4.toUInt32 >>> ((2 : Int32) &&& 31).toUInt32).toInt32) &&& (3 : Int32)) % (3 : Int32))), .val (.int ca), .val (.int cb), .val (.int ((p3 &&& (255 : Int32)).toUInt32.toUInt16.toUInt32.toInt32)), .val (.int ((((p3.toUInt32 >>> ((8 : Int32) &&& 31).toUInt32).toInt32) &&& (255 : Int32)).toUInt32.toUInt16.toUInt32.toInt32)), .unset, .unset, .unset, .unset, .unset, .unset, .unset] [(.int p2)])) rfl (hb hby at_81) _ ?_
    refine XS.iand X6.here hx rfl (hb hby at_83) rfl ?_
    refine XS.istore X6.here hx rfl (hb hby at_84) rfl (l' := #[.val (.int p1), .val (.int p2), .val (.int p3), .val (.int p4), .val (.int ((p4 &&& (3 : Int32)) % (3 : Int32))), .val (.int ((((p4.toUInt32 >>> ((2 : Int32) &&& 31).toUInt32).toInt32) &&& (3 : Int32)) % (3 : Int32))), .val (.int ca), .val (.int cb), .val (.int ((p3 &&& (255 : Int32)).toUInt32.toUInt16.toUInt32.toInt32)), .val (.int ((((p3.toUInt32 >>> ((8 : Int32) &&& 31).toUInt32).toInt32) &&& (255 : Int32)).toUInt32.toUInt16.toUInt32.toInt32)), .val (.int (p2 &&& (65535 : Int32))), .unset, .unset, .unset, .unset, .unset, .unset]) rfl ?_
    show Steps p.tables e below (T6.setTop (mkF m 86 #[.val (.int p1), .val (.int p2), .val (.int p3), .val (.int p4), .val (.int ((p4 &&& (3 : Int32)) % (3 : Int32))), .val (.int ((((p4.toUInt32 >>> ((2 : Int32) &&& 31).toUInt32).toInt32) &&& (3 : Int32)) % (3 : Int32))), .val (.int ca), .val (.int cb), .val (.int ((p3 &&& (255 : Int32)).toUInt32.toUInt16.toUInt32.toInt32)), .val (.int ((((p3.toUInt32 >>> ((8 : Int32) &&& 31).toUInt32).toInt32) &&& (255 : Int32)).toUInt32.toUInt16.toUInt32.toInt32)), .val (.int (p2 &&& (65535 : Int32))), .unset, .unset, .unset, .unset, .unset, .unset] [])) _
    rw [hkl_86]
    rw [hpl_86]
    rw [hqa_86]
    rw [hqb_86]
    rw [hvp_86]
    show Steps p.tables e below (T6.setTop (mkF m 86 #[.val (.int p1), .val (.int p2), .val (.int p3), .val (.int p4), .val (.int kl), .val (.int pl), .val (.int ca), .val (.int cb), .val (.int qa), .val (.int qb), .val (.int vp), .unset, .unset, .unset, .unset, .unset, .unset] [])) _
    refine st9 _ ?_
    show Steps p.tables e below (T9.setTop (mkF m 142 #[.val (.int p1), .val (.int p2), .val (.int p3), .val (.int p4), .val (.int kl), .val (.int pl), .val (.int ca), .val (.int cb), .val (.int qa), .val (.int qb), .val (.int vp), .val (.ref y7), .unset, .unset, .unset, .unset, .unset] [])) _
    refine st16 _ ?_
    show Steps p.tables e below (T16.setTop (mkF m 198 #[.val (.int p1), .val (.int p2), .val (.int p3), .val (.int p4), .val (.int kl), .val (.int pl), .val (.int ca), .val (.int cb), .val (.int qa), .val (.int qb), .val (.int vp), .val (.ref y7), .val (.ref y14), .unset, .unset, .unset, .unset] [])) _
    refine st21 _ ?_
    refine st27 _ ?_
    refine XS.dup X27.here hx rfl (hb hby at_517) rfl rfl ?_
    refine XS.aload X27.here hx rfl (hb hby at_518) rfl rfl ?_
    refine XS.iload X27.here hx rfl (hb hby at_520) rfl ?_
    refine XS.aload X27.here hx rfl (hb hby at_522) rfl rfl ?_
    refine st31.trans ?_
    refine st51.trans ?_
    refine XS.astore X51.here hx rfl (hb hby at_530) rfl rfl (l' := #[.val (.int p1), .val (.int p2), .val (.int p3), .val (.int p4), .val (.int kl), .val (.int pl), .val (.int ca), .val (.int cb), .val (.int qa), .val (.int qb), .val (.int vp), .val (.ref y7), .val (.ref y14), .val (.ref b22), .val (.int (own_n (own_uri (own_hs kl ca cb) n (own_hs pl qa qb)))), .val (.int (own_col kl ca cb)), .val (.ref b52)]) rfl ?_
    refine XS.aload X51.here hx rfl (hb hby at_532) rfl rfl ?_
    refine st58.trans ?_
    refine XS.iload X58.here hx rfl (hb hby at_537) rfl ?_
    refine XS.icmpYes X58.here hx rfl (pc0 := 539) (pc' := 544) rfl (hb hby at_539) rfl (teq (rfl : (own_n (own_uri (own_hs kl ca cb) n (own_hs pl qa qb))) = (own_n (own_uri (own_hs kl ca cb) n (own_hs pl qa qb))))).1 (by decide) (by decide) ?_
    show Steps p.tables e below (T58.setTop (mkF m 544 #[.val (.int p1), .val (.int p2), .val (.int p3), .val (.int p4), .val (.int kl), .val (.int pl), .val (.int ca), .val (.int cb), .val (.int qa), .val (.int qb), .val (.int vp), .val (.ref y7), .val (.ref y14), .val (.ref b22), .val (.int (own_n (own_uri (own_hs kl ca cb) n (own_hs pl qa qb)))), .val (.int (own_col kl ca cb)), .val (.ref b52)] [])) _
    refine st61 _ ?_
    refine XS.iconst X61.here hx rfl (hb hby at_818) ?_
    refine XS.goto X61.here hx rfl (pc0 := 819) (pc' := 823) rfl (hb hby at_819) (by decide) (by decide) ?_
    exact retN X61 hx (t := .boolean) Bd.returns (by simp) (hb hby at_823) hr
  · skip
    exact ⟨rfl, N61⟩
theorem own_eqv {args : Array Value} {s : State} {t : Term} {n : Int32} (h : (Jvm.Cond.eq t (.int n)).value args s none s [] = some true) : t.eval args s none [] s = some (.int n) := by
  simp only [Cond.value, Term.eval] at h; cases ht : t.eval args s none [] s with | none => simp [ht] at h | some x => cases x <;> simp [ht] at h ⊢; exact h
theorem own_compact {s : State} {args : Array Value} {t : Term} (h1 : (Jvm.Cond.isInt t).value args s none s [] = some true) (h2 : (Jvm.Cond.not (.eq t (.int 0))).value args s none s [] = some true) : ∃ z : Int32, t.eval args s none [] s = some (.int z) ∧ ¬ z = 0 := by
  obtain ⟨z, ez⟩ := is_v h1
  refine ⟨z, ez, fun q => ?_⟩
  subst q
  simp [Cond.value, Term.eval, ez] at h2
theorem own_m255 (x : Int32) : ¬ (x &&& 255) < 0 ∧ ¬ (255 : Int32) < (x &&& 255) := by
  have h := c_and x 255 (by decide)
  rw [show (255 : Int32).toInt = 255 from rfl] at h
  rw [Int32.lt_iff_toInt_lt, Int32.lt_iff_toInt_lt, show (255 : Int32).toInt = 255 from rfl, show (0 : Int32).toInt = 0 from rfl]
  omega
def own_B (c : Int32) : Prop := ¬ c < 0 ∧ ¬ (255 : Int32) < c
theorem own_msk (x : Int32) (k : Nat) (hk : k < 31) : ∃ n, n < 2 ^ k ∧ x &&& Int32.ofNat (2 ^ k - 1) = Int32.ofNat n := by
  refine ⟨x.toBitVec.toNat % 2 ^ k, Nat.mod_lt _ (Nat.two_pow_pos k), ?_⟩
  have h2 : 2 ^ k ≤ 2 ^ 30 := Nat.pow_le_pow_right (by omega) (by omega)
  have h3 : x.toBitVec.toNat % 2 ^ k < 2 ^ k := Nat.mod_lt _ (Nat.two_pow_pos k)
  apply Int32.toBitVec_inj.1
  apply BitVec.eq_of_toNat_eq
  rw [Int32.toBitVec_and, BitVec.toNat_and, Int32.toBitVec_ofNat', Int32.toBitVec_ofNat', BitVec.toNat_ofNat, BitVec.toNat_ofNat, Nat.mod_eq_of_lt (by omega : 2 ^ k - 1 < 2 ^ 32), Nat.and_two_pow_sub_one_eq_mod, Nat.mod_eq_of_lt (by omega : x.toBitVec.toNat % 2 ^ k < 2 ^ 32)]
theorem own_K3 (x : Int32) : own_K ((x &&& (3 : Int32)) % (3 : Int32)) := by
  obtain ⟨n, h, e⟩ := own_msk x 2 (by omega)
  rw [show (3 : Int32) = Int32.ofNat (2 ^ 2 - 1) from rfl, e, own_remN (by omega) (by omega) (by omega)]
  have q : n % (2 ^ 2 - 1) = 0 ∨ n % (2 ^ 2 - 1) = 1 ∨ n % (2 ^ 2 - 1) = 2 := by omega
  rcases q with q | q | q <;> rw [q]
  · exact Or.inl rfl
  · exact Or.inr (Or.inl rfl)
  · exact Or.inr (Or.inr rfl)
theorem own_B8 (x : Int32) : own_B (x &&& (255 : Int32)) := by
  obtain ⟨n, h, e⟩ := own_msk x 8 (by omega)
  rw [show (255 : Int32) = Int32.ofNat (2 ^ 8 - 1) from rfl] at *
  rw [own_B, e]
  exact ⟨own_nge0 (by omega), fun q => absurd ((own_ltN (a := 255) (by omega) (by omega)).mp q) (by omega)⟩
theorem own_n16 (x : Int32) : ∃ n, n < 65536 ∧ x &&& (65535 : Int32) = Int32.ofNat n := own_msk x 16 (by omega)
theorem own_Bpk {b x : Int32} (h : own_B x) : own_B (own_pk b x) := by
  unfold own_pk
  split
  · exact h
  · exact ⟨by decide, by decide⟩
theorem own_hsL (k a b : Int32) : (own_hs k a b).length ≤ 2 := by
  unfold own_hs
  split
  · exact Nat.zero_le _
  · split
    · exact Nat.le_succ _
    · exact Nat.le_refl _
theorem own_hsB {k a b : Int32} (ha : own_B a) (hb : own_B b) : ∀ c ∈ own_hs k a b, ¬ c < 0 ∧ ¬ (255 : Int32) < c := by
  intro c
  unfold own_hs
  split
  · intro h; cases h
  · split
    · intro h; cases List.mem_singleton.mp h; exact ha
    · intro h
      rcases List.mem_cons.mp h with rfl | h
      · exact ha
      · cases List.mem_singleton.mp h; exact hb
theorem own_DB {k : Nat} (h : k < 10) : own_B (own_D k) := by
  have q : ∀ j : Fin 10, ¬ own_D j.1 < 0 ∧ ¬ (255 : Int32) < own_D j.1 := by decide
  exact q ⟨k, h⟩
theorem own_deB {n : Nat} (hn : n < 65536) : ∀ c ∈ own_dec n, own_B c := by
  have o : ∀ (p : Prop) [Decidable p] (k : Nat), k < 10 → ∀ c ∈ (if p then [own_D k] else []), own_B c := fun p _ k hk c hc => by
    split at hc
    · cases List.mem_singleton.mp hc; exact own_DB hk
    · cases hc
  intro c hc
  rcases List.mem_append.mp hc with hc | hc
  · rcases List.mem_append.mp hc with hc | hc
    · rcases List.mem_append.mp hc with hc | hc
      · rcases List.mem_append.mp hc with hc | hc
        · exact o _ _ (by omega) c hc
        · exact o _ _ (by omega) c hc
      · exact o _ _ (by omega) c hc
    · exact o _ _ (by omega) c hc
  · cases List.mem_singleton.mp hc; exact own_DB (by omega)
theorem own_uriL {hs ps : List Int32} {n : Nat} (hn : n < 65536) (h1 : hs.length ≤ 2) (h2 : ps.length ≤ 2) : (own_uri hs n ps).length ≤ 20 := by
  have hd := own_dl hn
  unfold own_uri
  split <;> simp only [List.length_append, List.length_cons, List.length_nil, own_nil] <;> omega
theorem own_uriB {hs ps : List Int32} {n : Nat} (hn : n < 65536) (h1 : ∀ c ∈ hs, own_B c) (h2 : ∀ c ∈ ps, own_B c) : ∀ c ∈ own_uri hs n ps, ¬ c < 0 ∧ ¬ (255 : Int32) < c := by
  have hd := own_deB hn
  have l7 : ∀ c ∈ [(109 : Int32), (111 : Int32), (113 : Int32), (116 : Int32), (58 : Int32), (47 : Int32), (47 : Int32)], ¬ c < 0 ∧ ¬ (255 : Int32) < c := by decide
  have l2 : ∀ c ∈ [(91 : Int32), (93 : Int32), (58 : Int32)], ¬ c < 0 ∧ ¬ (255 : Int32) < c := by decide
  intro c
  unfold own_uri
  split
  · intro hc
    simp only [List.mem_append, own_nil, List.not_mem_nil, false_or] at hc
    rcases hc with (hc | ((hc | hc) | hc) | hc) | hc
    · exact l7 c hc
    · exact l2 c (by cases List.mem_singleton.mp hc; decide)
    · exact h1 c hc
    · exact l2 c (List.mem_cons_of_mem _ hc)
    · exact hd c hc
    · exact h2 c hc
  · intro hc
    simp only [List.mem_append, own_nil, List.not_mem_nil, false_or] at hc
    rcases hc with (hc | (hc | hc) | hc) | hc
    · exact l7 c hc
    · exact h1 c hc
    · exact l2 c (by cases List.mem_singleton.mp hc; decide)
    · exact hd c hc
    · exact h2 c hc
theorem own_Bc (x : Int32) : own_B (x &&& (255 : Int32)).toUInt32.toUInt16.toUInt32.toInt32 := by
  rw [own_i2c (own_255 (own_B8 x))]; exact own_B8 x
theorem own_eqt {args : Array Value} {s : State} {t u : Term} {n : Int32} {idx : List Nat} (hu : u.eval args s none idx s = some (.int n)) (h : (Jvm.Cond.eq t u).value args s none s idx = some true) : t.eval args s none idx s = some (.int n) := by
  simp only [Cond.value, hu] at h; cases ht : t.eval args s none idx s with | none => simp [ht] at h | some x => cases x <;> simp [ht] at h ⊢; exact h
theorem own_digs {s : State} {args : Array Value} {f : String} {R : Term} {g : Nat → Nat} (hb : (Jvm.Cond.arrayClass .byte).before args s = true) (h2 : (Jvm.Cond.exactly (.static "java/lang/Integer" f "[B") "[B").value args s none s [] = some true) (h4 : (Jvm.Cond.eq (.length (.static "java/lang/Integer" f "[B")) (.int 100)).value args s none s [] = some true) (h5 : (Jvm.Cond.all (.static "java/lang/Integer" f "[B") (.eq (.elem (.static "java/lang/Integer" f "[B") (.index 0)) R)).value args s none s [] = some true) (hR : ∀ j, j < 100 → R.eval args s none [j] s = some (.int (own_D (g j)))) :
    ∃ (w : Addr) (cl : Cell), (Term.static "java/lang/Integer" f "[B").eval args s none [] s = some (.ref w) ∧ Arr s s.heap w cl .byte ∧ 100 ≤ cl.slots.size ∧ ∀ j, j < 100 → cl.slots[j]? = some (.int (own_D (g j))) := by
  obtain ⟨w, ew⟩ := exa_v h2
  obtain ⟨w', cl, e1, e2, e3⟩ := Term.length_spec (own_eqv h4)
  cases ew.symm.trans e1
  obtain ⟨a1, a2, a3, -⟩ := State.arrayAt?_spec e2
  obtain ⟨x, c, cell, kk, f1, f2, f3, -, -, f6, -⟩ := Cond.exactly_spec (beq_iff_eq.mpr h2 : (Jvm.Cond.exactly _ _).holds args s none s [] = true)
  cases ew.symm.trans f1
  obtain rfl : cl = cell := Option.some.inj (a1.symm.trans f3)
  obtain ⟨c', k', comp, b1, b2, b3⟩ := Cond.arrayClass_spec (args := args) (first := s) (o := none) (idx := []) hb
  obtain rfl : c = c' := Option.some.inj (f2.symm.trans b1)
  have hsz : 100 ≤ cl.slots.size := by
    have q : (100 : Int32) = cl.slots.size.toInt32 := by injection e3
    apply Classical.byContradiction
    intro h
    have q2 : ∀ k : Fin 100, ¬ (100 : Int32) = (k.1).toInt32 := by decide +kernel
    exact q2 ⟨cl.slots.size, by omega⟩ q
  refine ⟨w, cl, ew, ⟨a1, ⟨fun z hz => (by rw [hz] at a3; cases a3), k', (by rw [f6]; exact b2), comp, b3⟩, a2⟩, hsz, fun j hj => ?_⟩
  have h6 := own_eqt (hR j hj) (Cond.all_elim ew e2 h5 j (by omega))
  have q := (elem_in h6 (ew : (Term.static "java/lang/Integer" f "[B").eval args s none [j] s = some (.ref w)) (j := Int32.ofNat j) rfl a1).2
  rw [own_tnc (by omega)] at q
  exact q
theorem own_dgE {args : Array Value} {s : State} {T : Term} {j k : Nat} {x : Int32} (h : T.eval args s none [j] s = some (.int x)) (hx : x = Int32.ofNat k) (hk : k < 100) : (Term.add (.int 48) T).eval args s none [j] s = some (.int (own_D k)) := by
  have q : (48 : Int32) + x = own_D k := by rw [hx]; exact own_add (a := 48) (by omega)
  simp [Term.eval, h, q]
theorem comes_1 {Post : Tables → Env → Array Value → State → Outcome → State → Prop} (hpost : ∀ tb e args s v u, (limb_1_1.after args s (.returned v) u = true ∧ limb_1_2.after args s (.returned v) u = true ∧ True) → ReturnedEndW s (.returned v) u (Jvm.fieldLocs frame_1_writes args s ++ Jvm.arrayLocs frame_1_arrays args s ++ Jvm.staticLocs frame_1_statics s) 56 5504 → Post tb e args s (.returned v) u) :
    ArmFor flags0 classFile x code maxLocals ret World_1 tables_1 room_1 Calls_1 rest_1 Pre_1 Post := by
  intro l hfl _ _ p e ha hcc hk s m args below hf hA hF happ hP
  obtain ⟨hcalls, hrest, hpre⟩ := hP
  obtain ⟨-, -, -, hnamed, -, -, -, hat⟩ := (Spec.applies_iff hf).mp happ
  obtain ⟨hg, hn⟩ := and_e (Cond.before_iff.mp (show (Jvm.Cond.and given_1 narrow_1).before args s = true from hpre))
  obtain ⟨hcount, gg0⟩ := and_e hg
  obtain ⟨ga0, gg1⟩ := and_e gg0
  obtain ⟨ga1, gg2⟩ := and_e gg1
  obtain ⟨ga2, gg3⟩ := and_e gg2
  obtain ⟨w0, w1, w2, w3, rfl⟩ : ∃ w0 w1 w2 w3 : Value, args = #[w0, w1, w2, w3] := by
    have hs : args.size = 4 := by simpa [Cond.value, given_1] using hcount
    obtain ⟨L⟩ := args
    match L, hs with
    | [w0, w1, w2, w3], _ => exact ⟨w0, w1, w2, w3, rfl⟩
  have hw := fun d (hd : d ∈ tables_1) => atoms_spec (ws := Jvm.Cond.code x code maxLocals ret :: tables_1) hat d (List.mem_cons_of_mem _ hd)
  have hfit : Fit s := fun {y c} hc i hi => by
    obtain ⟨ha, rfl⟩ := Array.getElem?_eq_some_iff.mp hc
    have q := List.all_eq_true.mp ((Array.all_eq_true_iff_forall_mem.mp hF) _ (Array.getElem_mem ha)) i (List.mem_range.mpr hi)
    simpa [Array.getElem?_eq_getElem hi] using q
  obtain ⟨hsets, hown0⟩ := atoms_of _ (rest_1_c_eq ▸ (show rest_1_c.before _ s = true from hrest))
  have hr0 := Cond.before_iff.mp hown0
  obtain ⟨i0, ei0⟩ := is_v ga0
  obtain rfl : w0 = (.int i0) := Option.some.inj ei0
  obtain ⟨i1, ei1⟩ := is_v ga1
  obtain rfl : w1 = (.int i1) := Option.some.inj ei1
  obtain ⟨i2, ei2⟩ := is_v ga2
  obtain rfl : w2 = (.int i2) := Option.some.inj ei2
  obtain ⟨i3, ei3⟩ := is_v gg3
  obtain rfl : w3 = (.int i3) := Option.some.inj ei3
  have hCH0 : CHv s own_EL s.vm s.heap := CHv.start (own_EW hw) (fun p hp => hcalls.1 p hp) (hsets _ (List.mem_of_getElem? (i := 2) rfl)) (own_w hw 20 rfl) (own_w hw 2 rfl)
  obtain ⟨zC, ez, hz⟩ := own_compact (Cond.before_iff.mp (hsets _ (List.mem_of_getElem? (i := 1) rfl))) (Cond.before_iff.mp (hsets _ (List.mem_of_getElem? (i := 2) rfl)))
  have SZ : Sta s s.heap "java/lang/String" "COMPACT_STRINGS" "Z" (.int zC) := Sta.start ez (Or.inl (hsets _ (List.mem_of_getElem? (i := 0) rfl)))
  obtain ⟨fm, ef, rf⟩ := isR_v (Cond.before_iff.mp (hsets _ (List.mem_of_getElem? (i := 8) rfl)))
  have SF : Sta s s.heap "jdk/internal/util/Preconditions" "SIOOBE_FORMATTER" "Ljava/util/function/BiFunction;" fm := Sta.start ef (Or.inl (hsets _ (List.mem_of_getElem? (i := 7) rfl)))
  obtain ⟨wO, cO, eO, AO, tO⟩ := own_digs (g := fun k => k % 10) (own_w hw 20 rfl) (Cond.before_iff.mp (hsets _ (List.mem_of_getElem? (i := 12) rfl))) (Cond.before_iff.mp (hsets _ (List.mem_of_getElem? (i := 13) rfl))) (Cond.before_iff.mp (hsets _ (List.mem_of_getElem? (i := 14) rfl))) (fun j hj => own_dgE (rem_f rfl rfl (by decide)) (own_remN (k := 10) (by omega) (by omega) (by omega)) (by omega))
  obtain ⟨wT, cT, eT, AT, tT⟩ := own_digs (g := fun k => k / 10) (own_w hw 20 rfl) (Cond.before_iff.mp (hsets _ (List.mem_of_getElem? (i := 17) rfl))) (Cond.before_iff.mp (hsets _ (List.mem_of_getElem? (i := 18) rfl))) (Cond.before_iff.mp (hsets _ (List.mem_of_getElem? (i := 19) rfl))) (fun j hj => own_dgE (div_f rfl rfl (by decide)) (own_divN (k := 10) (by omega) (by omega) (by omega)) (by omega))
  have SO : Sta s s.heap "java/lang/Integer" "DigitOnes" "[B" (.ref wO) := Sta.start eO (Or.inl (hsets _ (List.mem_of_getElem? (i := 11) rfl)))
  have SD : Sta s s.heap "java/lang/Integer" "DigitTens" "[B" (.ref wT) := Sta.start eT (Or.inl (hsets _ (List.mem_of_getElem? (i := 16) rfl)))
  obtain ⟨n, hn_, ev⟩ := own_n16 i1
  have Ba : own_B (own_pk (((i3.toUInt32 >>> ((4 : Int32) &&& 31).toUInt32).toInt32) &&& (1 : Int32)) ((i0 &&& (255 : Int32)).toUInt32.toUInt16.toUInt32.toInt32)) := own_Bpk (own_Bc _)
  have Bb : own_B (own_pk (((i3.toUInt32 >>> ((5 : Int32) &&& 31).toUInt32).toInt32) &&& (1 : Int32)) ((((i0.toUInt32 >>> ((8 : Int32) &&& 31).toUInt32).toInt32) &&& (255 : Int32)).toUInt32.toUInt16.toUInt32.toInt32)) := own_Bpk (own_Bc _)
  have Bq : own_B ((i2 &&& (255 : Int32)).toUInt32.toUInt16.toUInt32.toInt32) := own_Bc _
  have Br : own_B ((((i2.toUInt32 >>> ((8 : Int32) &&& 31).toUInt32).toInt32) &&& (255 : Int32)).toUInt32.toUInt16.toUInt32.toInt32) := own_Bc _
  have key : own_Met l s tables_1 #[(.int i0), (.int i1), (.int i2), (.int i3)] s.heap s.heap.size := rm0 l s _ hw tables_1 i0 i1 i2 i3 _ _ _ _ _ _ _ zC fm wO wT cO cT n s.heap s.heap.size (Old.start s) AO AT rfl rfl rfl rfl rfl rfl rfl SZ hz (own_i2c (own_255 Ba)) (own_i2c (own_255 Bb)) Ba.2 Bb.2 (own_i2c (own_255 Bq)) (own_i2c (own_255 Br)) Bq.2 Br.2 (own_K3 _) (own_K3 _) ev hn_ (by rw [ev]; exact own_nge0 (by omega)) (by rw [ev]; exact fun q => absurd ((own_ltN (a := 65535) (by omega) (by omega)).mp q) (by omega)) SO SD (own_hsB Ba Bb) (own_hsL _ _ _) (own_hsL _ _ _) ⟨tO, tT⟩ SF rf (own_uriB hn_ (own_hsB Ba Bb) (own_hsB Bq Br)) (own_uriL hn_ (own_hsL _ _ _) (own_hsL _ _ _))
  obtain ⟨n, o, h1, h2, h3, _, L, rfl, ⟨rfl, N⟩, hq⟩ := key p e ha hcc hk s m _ below hf ((Spec.applies_iff_loose hf).mp happ).1 ⟨rfl, State.Warmed39.refl s, rfl, hCH0⟩ trivial
  refine ⟨n, _, h1, h2, h3, hpost _ _ _ _ _ _ ⟨Cond.after_iff.mpr rfl, Cond.after_iff.mpr (eq_i res_at (Term.int_eval (1)) rfl), trivial⟩ ⟨hq.1, hq.2.1, hq.2.2.1, (hq.2.2.2.sift fun y hy => Or.inr (N y hy)).mono (by decide) (by decide)⟩⟩
theorem main_1_1 : Claimed_1_1 := comes_1 fun _ _ _ _ _ _ h hF => ⟨h.1, hF⟩
theorem main_1_2 : Claimed_1_2 := comes_1 fun _ _ _ _ _ _ h hF => ⟨h.2.1, hF⟩
end Jvm.Pilot.@@N@@
namespace Jvm.Pilot.@@N@@
open Jvm Jvm.ClassFile Sem Op Lib Jvm.Free Jvm.Stand Jvm.Pilot.@@N@@.Jvm.D
/-! MADE BY PROGRAM (witnessworld.py) out of the Statement's table words and the real class files: 29 classes; the members and pool entries that the words name. The judged class is class 1, her method 1. -/
namespace start1
open Jvm.ClassFile
def u (s : String) : CpInfo := .utf8 (stringToUtf16 s)
/-- a pool by its gaps: so many unusable entries, then the entry; so many at the end -/
def gap : Nat → List CpInfo → List CpInfo
  | 0, r => r
  | n + 1, r => .unusable :: gap n r
def poolList (es : List (Nat × CpInfo)) (last : Nat) : List CpInfo := es.foldr (fun e r => gap e.1 (e.2 :: r)) (gap last [])
def pool (es : List (Nat × CpInfo)) (last : Nat) : Array CpInfo := ⟨poolList es last⟩
def fileOf (pool : Array CpInfo) (this : Nat) (attrs : Array Attribute := #[]) (ms : Array MethodInfo := #[]) (fl : Nat := 33) (sup : Nat := 0) (ifs : Array Nat := #[]) (fds : Array FieldInfo := #[]) : ClassFile where
  minorVersion := 0
  majorVersion := 65
  constantPool := pool
  accessFlags := fl
  thisClass := this
  superClass := sup
  interfaces := ifs
  fields := fds
  methods := ms
  attributes := attrs
def plain (name : String) (sup : Option ClassId) : Class where
  name := name
  kind := .ordinary
  loader := none
  accessFlags := 33
  super := sup
  interfaces := #[]
  cf := none
  fields := #[]
  methods := #[]
  instanceTypes := #[]
  staticTypes := #[]
  resolved := #[]
  callSites := []
  init := .initialized
  statics := none
  mirror := none

def pool0 : Array CpInfo := pool [(5, u "<init>"), (0, u "()V"), (1, .class_ 10), (1, u "java/lang/Object"), (85, u "clone"), (0, u "()Ljava/lang/Object;")] 26

def k0c0 : Code := { maxStack := 0, maxLocals := 1, code := object_method_1_code, exceptionTable := #[], attributes := #[] }
def k0m0 : Method := { name := "<init>", desc := "()V", sig := { parameters := [], returnType := none }, accessFlags := 1, code := some k0c0 }
def k0m1 : Method := { name := "clone", desc := "()Ljava/lang/Object;", sig := { parameters := [], returnType := some (.object "java/lang/Object") }, accessFlags := 260, code := none }
/-- java/lang/Object -/
def k0 : Class := { plain "java/lang/Object" none with
  accessFlags := 33
  interfaces := #[]
  cf := some (fileOf pool0 8 #[] #[{ accessFlags := 1, nameIndex := 5, descriptorIndex := 6, attributes := #[] }, { accessFlags := 260, nameIndex := 96, descriptorIndex := 97, attributes := #[] }] 33 0 #[] #[])
  fields := #[]
  methods := #[k0m0, k0m1]
  instanceTypes := #[]
  staticTypes := #[]
  resolved := Array.replicate 124 none
  statics := none }

def pool1 : Array CpInfo := pool [(2, .class_ 4), (1, u "java/lang/Object"), (0, u "<init>"), (0, u "()V"), (0, .integer 65535), (0, .string 9), (0, u ""), (0, .class_ 11), (0, u "java/lang/String"), (0, .methodref 10 13), (0, .nameAndType 5 14), (0, u "([C)V"), (0, .class_ 16), (0, u "com/example/traqt/traqt/moqt/MoqtUri"), (0, .methodref 15 18), (0, .nameAndType 5 19), (0, u "(Ljava/lang/String;ILjava/lang/String;)V"), (0, .methodref 15 21), (0, .nameAndType 22 23), (0, u "toString"), (0, u "()Ljava/lang/String;"), (0, .methodref 10 25), (0, .nameAndType 26 27), (0, u "length"), (0, u "()I"), (0, .methodref 29 30), (0, .class_ 31), (0, .nameAndType 32 33), (0, u "com/example/traqt/traqt/moqt/MoqtUriToStringPinLaw"), (0, u "at"), (0, u "(Ljava/lang/String;[CII)Z"), (0, .methodref 10 35), (0, .nameAndType 36 37), (0, u "charAt"), (0, u "(I)C"), (2, u "law"), (0, u "(IIII)Z")] 5

def k1m0 : Method := { name := "<init>", desc := "()V", sig := { parameters := [], returnType := none }, accessFlags := 1, code := none }
def k1c1 : Code := { maxStack := 6, maxLocals := 17, code := code, exceptionTable := #[], attributes := #[] }
def k1m1 : Method := { name := "law", desc := "(IIII)Z", sig := { parameters := [.int, .int, .int, .int], returnType := some .boolean }, accessFlags := 9, code := some k1c1 }
def k1c2 : Code := { maxStack := 3, maxLocals := 4, code := method_3_code, exceptionTable := #[], attributes := #[] }
def k1m2 : Method := { name := "at", desc := "(Ljava/lang/String;[CII)Z", sig := { parameters := [(.object "java/lang/String"), (.array .char), .int, .int], returnType := some .boolean }, accessFlags := 10, code := some k1c2 }
/-- com/example/traqt/traqt/moqt/MoqtUriToStringPinLaw -/
def k1 : Class := { plain "com/example/traqt/traqt/moqt/MoqtUriToStringPinLaw" (some 0) with
  accessFlags := 49
  interfaces := #[]
  cf := some (fileOf pool1 29 #[] #[{ accessFlags := 1, nameIndex := 5, descriptorIndex := 6, attributes := #[] }, { accessFlags := 9, nameIndex := 40, descriptorIndex := 41, attributes := #[] }, { accessFlags := 10, nameIndex := 32, descriptorIndex := 33, attributes := #[] }] 49 2 #[] #[])
  fields := #[]
  methods := #[k1m0, k1m1, k1m2]
  instanceTypes := #[]
  staticTypes := #[]
  resolved := Array.replicate 47 none
  statics := none }

def pool2 : Array CpInfo := pool [(1, .class_ 2), (0, u "java/io/Serializable"), (0, .class_ 4), (0, u "java/lang/Object")] 2

/-- java/io/Serializable -/
def k2 : Class := { plain "java/io/Serializable" (some 0) with
  accessFlags := 1537
  interfaces := #[]
  cf := some (fileOf pool2 1 #[] #[] 1537 3 #[] #[])
  fields := #[]
  methods := #[]
  instanceTypes := #[]
  staticTypes := #[]
  resolved := Array.replicate 7 none
  statics := none }

def pool3 : Array CpInfo := pool [(1, .class_ 2), (0, u "java/lang/Comparable"), (0, .class_ 4), (0, u "java/lang/Object")] 7

/-- java/lang/Comparable -/
def k3 : Class := { plain "java/lang/Comparable" (some 0) with
  accessFlags := 1537
  interfaces := #[]
  cf := some (fileOf pool3 1 #[] #[] 1537 3 #[] #[])
  fields := #[]
  methods := #[]
  instanceTypes := #[]
  staticTypes := #[]
  resolved := Array.replicate 12 none
  statics := none }

def pool4 : Array CpInfo := pool [(2, .class_ 4), (1, u "java/lang/CharSequence"), (42, .class_ 48), (0, u "java/lang/CharSequence$1CodePointIterator"), (10, .class_ 60), (0, u "java/lang/CharSequence$1CharIterator"), (5, .class_ 67), (0, u "java/lang/Object"), (10, u "toString"), (0, u "()Ljava/lang/String;")] 51

def k4m0 : Method := { name := "toString", desc := "()Ljava/lang/String;", sig := { parameters := [], returnType := some (.object "java/lang/String") }, accessFlags := 1025, code := none }
/-- java/lang/CharSequence -/
def k4 : Class := { plain "java/lang/CharSequence" (some 0) with
  accessFlags := 1537
  interfaces := #[]
  cf := some (fileOf pool4 2 #[.nestMembers #[47, 59]] #[{ accessFlags := 1025, nameIndex := 78, descriptorIndex := 79, attributes := #[] }] 1537 66 #[] #[])
  fields := #[]
  methods := #[k4m0]
  instanceTypes := #[]
  staticTypes := #[]
  resolved := Array.replicate 131 none
  statics := none }

def pool5 : Array CpInfo := pool [(1, .class_ 2), (0, u "java/lang/constant/Constable"), (0, .class_ 4), (0, u "java/lang/Object")] 6

/-- java/lang/constant/Constable -/
def k5 : Class := { plain "java/lang/constant/Constable" (some 0) with
  accessFlags := 1537
  interfaces := #[]
  cf := some (fileOf pool5 1 #[] #[] 1537 3 #[] #[])
  fields := #[]
  methods := #[]
  instanceTypes := #[]
  staticTypes := #[]
  resolved := Array.replicate 11 none
  statics := none }

def pool6 : Array CpInfo := pool [(1, .class_ 2), (0, u "java/lang/constant/ConstantDesc"), (0, .class_ 4), (0, u "java/lang/Object")] 32

/-- java/lang/constant/ConstantDesc -/
def k6 : Class := { plain "java/lang/constant/ConstantDesc" (some 0) with
  accessFlags := 1537
  interfaces := #[]
  cf := some (fileOf pool6 1 #[] #[] 1537 3 #[] #[])
  fields := #[]
  methods := #[]
  instanceTypes := #[]
  staticTypes := #[]
  resolved := Array.replicate 37 none
  statics := none }

def pool7 : Array CpInfo := pool [(1, .methodref 2 3), (0, .class_ 4), (0, .nameAndType 5 6), (0, u "java/lang/Object"), (0, u "<init>"), (0, u "()V"), (2, .fieldref 10 11), (0, .class_ 12), (0, .nameAndType 13 14), (0, u "java/lang/String"), (0, u "value"), (0, u "[B"), (0, .fieldref 10 16), (0, .nameAndType 17 18), (0, u "coder"), (0, u "B"), (2, u "hash"), (0, u "I"), (2, u "hashIsZero"), (0, u "Z"), (0, .methodref 10 28), (0, .nameAndType 5 29), (0, u "([CIILjava/lang/Void;)V"), (8, .fieldref 10 39), (0, .nameAndType 40 26), (0, u "COMPACT_STRINGS"), (1, .class_ 44), (1, u "java/lang/StringUTF16"), (0, u "compress"), (1, .methodref 42 48), (0, .nameAndType 49 50), (0, u "coderFromArrayLen"), (0, u "([BI)B"), (3, .methodref 55 56), (0, .class_ 57), (0, .nameAndType 58 59), (0, u "java/util/Arrays"), (0, u "copyOfRange"), (0, u "([BII)[B"), (47, .class_ 109), (1, u "java/lang/StringLatin1"), (32, u "()Z"), (34, .methodref 42 178), (0, .nameAndType 45 179), (0, u "([CII)[B"), (13, .class_ 195), (1, u "java/lang/System"), (16, .methodref 193 213), (0, .nameAndType 214 215), (0, u "arraycopy"), (0, u "(Ljava/lang/Object;ILjava/lang/Object;II)V"), (118, u "()I"), (0, .methodref 10 336), (0, .nameAndType 17 337), (0, u "()B"), (2, u "()[B"), (22, u "([BI)C"), (27, u "(II)V"), (35, u "(I)C"), (34, .nameAndType 463 464), (0, u "toString"), (0, u "()Ljava/lang/String;"), (24, .methodref 10 490), (0, .nameAndType 5 491), (0, u "(Ljava/lang/AbstractStringBuilder;Ljava/lang/Void;)V"), (0, .methodref 10 493), (0, .nameAndType 494 142), (0, u "isLatin1"), (0, .methodref 107 496), (0, .nameAndType 497 363), (0, u "charAt"), (3, u "checkIndex"), (4, .nameAndType 507 334), (0, u "length"), (24, u "getBytes"), (15, u "(Ljava/lang/CharSequence;)Z"), (0, .methodref 550 506), (0, .class_ 551), (0, u "java/lang/AbstractStringBuilder"), (0, .methodref 550 553), (0, .nameAndType 554 340), (0, u "getValue"), (20, .class_ 576), (0, u "java/lang/CharSequence"), (12, u "([B[B)I"), (9, u "CASE_INSENSITIVE_ORDER"), (0, u "Ljava/util/Comparator;"), (34, u "indexOf"), (11, .methodref 107 648), (0, .nameAndType 635 589), (61, .interfaceMethodref 575 462), (0, .methodref 10 712), (0, .nameAndType 635 713), (0, u "(Ljava/lang/String;)I"), (107, u "([BIB)V"), (188, u "([C)V"), (36, .methodref 550 493), (5, .fieldref 1054 1055), (0, .class_ 1056), (0, .nameAndType 1057 1058), (0, u "jdk/internal/util/Preconditions"), (0, u "SIOOBE_FORMATTER"), (0, u "Ljava/util/function/BiFunction;"), (0, .methodref 1054 1060), (0, .nameAndType 501 1061), (0, u "(IILjava/util/function/BiFunction;)I"), (39, u "serialPersistentFields"), (0, u "[Ljava/io/ObjectStreamField;"), (0, .class_ 1104), (0, u "java/lang/String$CaseInsensitiveComparator"), (1, .class_ 1107), (0, u "java/io/Serializable"), (0, .class_ 1109), (0, u "java/lang/Comparable"), (0, .class_ 1111), (0, u "java/lang/constant/Constable"), (0, .class_ 1113), (0, u "java/lang/constant/ConstantDesc"), (2, u "serialVersionUID"), (0, u "J"), (3, u "REPL"), (0, u "C"), (2, u "LATIN1"), (1, u "UTF16"), (105, u "(Ljava/lang/StringBuilder;)V"), (57, u "contains")] 159

def k7m0 : Method := { name := "<init>", desc := "()V", sig := { parameters := [], returnType := none }, accessFlags := 1, code := none }
def k7c1 : Code := { maxStack := 5, maxLocals := 2, code := jdk_42_method_3_code, exceptionTable := #[], attributes := #[] }
def k7m1 : Method := { name := "<init>", desc := "([C)V", sig := { parameters := [(.array .char)], returnType := none }, accessFlags := 1, code := some k7c1 }
def k7c2 : Code := { maxStack := 3, maxLocals := 2, code := jdk_42_method_53_code, exceptionTable := #[], attributes := #[] }
def k7m2 : Method := { name := "<init>", desc := "(Ljava/lang/StringBuilder;)V", sig := { parameters := [(.object "java/lang/StringBuilder")], returnType := none }, accessFlags := 1, code := some k7c2 }
def k7c3 : Code := { maxStack := 2, maxLocals := 1, code := jdk_42_method_54_code, exceptionTable := #[], attributes := #[] }
def k7m3 : Method := { name := "length", desc := "()I", sig := { parameters := [], returnType := some .int }, accessFlags := 1, code := some k7c3 }
def k7c4 : Code := { maxStack := 2, maxLocals := 2, code := jdk_42_method_56_code, exceptionTable := #[], attributes := #[] }
def k7m4 : Method := { name := "charAt", desc := "(I)C", sig := { parameters := [.int], returnType := some .char }, accessFlags := 1, code := some k7c4 }
def k7c5 : Code := { maxStack := 2, maxLocals := 3, code := jdk_42_method_84_code, exceptionTable := #[], attributes := #[] }
def k7m5 : Method := { name := "indexOf", desc := "(Ljava/lang/String;)I", sig := { parameters := [(.object "java/lang/String")], returnType := some .int }, accessFlags := 1, code := some k7c5 }
def k7c6 : Code := { maxStack := 2, maxLocals := 2, code := jdk_42_method_97_code, exceptionTable := #[], attributes := #[] }
def k7m6 : Method := { name := "contains", desc := "(Ljava/lang/CharSequence;)Z", sig := { parameters := [(.object "java/lang/CharSequence")], returnType := some .boolean }, accessFlags := 1, code := some k7c6 }
def k7c7 : Code := { maxStack := 1, maxLocals := 1, code := jdk_42_method_126_code, exceptionTable := #[], attributes := #[] }
def k7m7 : Method := { name := "toString", desc := "()Ljava/lang/String;", sig := { parameters := [], returnType := some (.object "java/lang/String") }, accessFlags := 1, code := some k7c7 }
def k7c8 : Code := { maxStack := 5, maxLocals := 4, code := jdk_42_method_147_code, exceptionTable := #[], attributes := #[] }
def k7m8 : Method := { name := "getBytes", desc := "([BIB)V", sig := { parameters := [(.array .byte), .int, .byte], returnType := none }, accessFlags := 0, code := some k7c8 }
def k7c9 : Code := { maxStack := 4, maxLocals := 6, code := jdk_42_method_149_code, exceptionTable := #[], attributes := #[] }
def k7m9 : Method := { name := "<init>", desc := "([CIILjava/lang/Void;)V", sig := { parameters := [(.array .char), .int, .int, (.object "java/lang/Void")], returnType := none }, accessFlags := 2, code := some k7c9 }
def k7c10 : Code := { maxStack := 5, maxLocals := 5, code := jdk_42_method_150_code, exceptionTable := #[], attributes := #[] }
def k7m10 : Method := { name := "<init>", desc := "(Ljava/lang/AbstractStringBuilder;Ljava/lang/Void;)V", sig := { parameters := [(.object "java/lang/AbstractStringBuilder"), (.object "java/lang/Void")], returnType := none }, accessFlags := 0, code := some k7c10 }
def k7c11 : Code := { maxStack := 1, maxLocals := 1, code := jdk_42_method_152_code, exceptionTable := #[], attributes := #[] }
def k7m11 : Method := { name := "coder", desc := "()B", sig := { parameters := [], returnType := some .byte }, accessFlags := 0, code := some k7c11 }
def k7c12 : Code := { maxStack := 1, maxLocals := 1, code := jdk_42_method_154_code, exceptionTable := #[], attributes := #[] }
def k7m12 : Method := { name := "isLatin1", desc := "()Z", sig := { parameters := [], returnType := some .boolean }, accessFlags := 0, code := some k7c12 }
def k7c13 : Code := { maxStack := 3, maxLocals := 2, code := jdk_42_method_155_code, exceptionTable := #[], attributes := #[] }
def k7m13 : Method := { name := "checkIndex", desc := "(II)V", sig := { parameters := [.int, .int], returnType := none }, accessFlags := 8, code := some k7c13 }
/-- java/lang/String -/
def k7 : Class := { plain "java/lang/String" (some 0) with
  accessFlags := 49
  interfaces := #[2, 3, 4, 5, 6]
  cf := some (fileOf pool7 10 #[.nestMembers #[1103]] #[{ accessFlags := 1, nameIndex := 5, descriptorIndex := 6, attributes := #[] }, { accessFlags := 1, nameIndex := 5, descriptorIndex := 1010, attributes := #[] }, { accessFlags := 1, nameIndex := 5, descriptorIndex := 1233, attributes := #[] }, { accessFlags := 1, nameIndex := 507, descriptorIndex := 334, attributes := #[] }, { accessFlags := 1, nameIndex := 497, descriptorIndex := 427, attributes := #[] }, { accessFlags := 1, nameIndex := 635, descriptorIndex := 713, attributes := #[] }, { accessFlags := 1, nameIndex := 1291, descriptorIndex := 548, attributes := #[] }, { accessFlags := 1, nameIndex := 463, descriptorIndex := 464, attributes := #[] }, { accessFlags := 0, nameIndex := 532, descriptorIndex := 821, attributes := #[] }, { accessFlags := 2, nameIndex := 5, descriptorIndex := 29, attributes := #[] }, { accessFlags := 0, nameIndex := 5, descriptorIndex := 491, attributes := #[] }, { accessFlags := 0, nameIndex := 17, descriptorIndex := 337, attributes := #[] }, { accessFlags := 0, nameIndex := 494, descriptorIndex := 142, attributes := #[] }, { accessFlags := 8, nameIndex := 501, descriptorIndex := 391, attributes := #[] }] 49 2 #[1106, 1108, 575, 1110, 1112] #[{ accessFlags := 18, nameIndex := 13, descriptorIndex := 14, attributes := #[] }, { accessFlags := 18, nameIndex := 17, descriptorIndex := 18, attributes := #[] }, { accessFlags := 2, nameIndex := 21, descriptorIndex := 22, attributes := #[] }, { accessFlags := 2, nameIndex := 25, descriptorIndex := 26, attributes := #[] }, { accessFlags := 26, nameIndex := 1116, descriptorIndex := 1117, attributes := #[] }, { accessFlags := 24, nameIndex := 40, descriptorIndex := 26, attributes := #[] }, { accessFlags := 26, nameIndex := 1101, descriptorIndex := 1102, attributes := #[] }, { accessFlags := 26, nameIndex := 1121, descriptorIndex := 1122, attributes := #[] }, { accessFlags := 25, nameIndex := 599, descriptorIndex := 600, attributes := #[] }, { accessFlags := 24, nameIndex := 1125, descriptorIndex := 18, attributes := #[] }, { accessFlags := 24, nameIndex := 1127, descriptorIndex := 18, attributes := #[] }])
  fields := #[{ name := "value", type := (.array .byte), accessFlags := 18, slot := 0, constantValue := 0 }, { name := "coder", type := .byte, accessFlags := 18, slot := 1, constantValue := 0 }, { name := "hash", type := .int, accessFlags := 2, slot := 2, constantValue := 0 }, { name := "hashIsZero", type := .boolean, accessFlags := 2, slot := 3, constantValue := 0 }, { name := "serialVersionUID", type := .long, accessFlags := 26, slot := 0, constantValue := 0 }, { name := "COMPACT_STRINGS", type := .boolean, accessFlags := 24, slot := 1, constantValue := 0 }, { name := "serialPersistentFields", type := (.array (.object "java/io/ObjectStreamField")), accessFlags := 26, slot := 2, constantValue := 0 }, { name := "REPL", type := .char, accessFlags := 26, slot := 3, constantValue := 0 }, { name := "CASE_INSENSITIVE_ORDER", type := (.object "java/util/Comparator"), accessFlags := 25, slot := 4, constantValue := 0 }, { name := "LATIN1", type := .byte, accessFlags := 24, slot := 5, constantValue := 0 }, { name := "UTF16", type := .byte, accessFlags := 24, slot := 6, constantValue := 0 }]
  methods := #[k7m0, k7m1, k7m2, k7m3, k7m4, k7m5, k7m6, k7m7, k7m8, k7m9, k7m10, k7m11, k7m12, k7m13]
  instanceTypes := #[(.array .byte), .byte, .int, .boolean]
  staticTypes := #[.long, .boolean, (.array (.object "java/io/ObjectStreamField")), .char, (.object "java/util/Comparator"), .byte, .byte]
  resolved := Array.replicate 1451 none
  statics := some 0 }

def pool8 : Array CpInfo := pool [(6, .class_ 8), (1, u "java/lang/Object"), (0, u "<init>"), (0, u "()V"), (1, .class_ 14), (1, u "java/lang/StringUTF16"), (31, u "$assertionsDisabled"), (0, u "Z"), (13, u "HI_BYTE_SHIFT"), (0, u "I"), (2, u "LO_BYTE_SHIFT"), (49, .methodref 12 116), (0, .nameAndType 117 118), (0, u "compress"), (0, u "([CI[BII)I"), (3, u "([CII)[B"), (138, u "coderFromArrayLen"), (0, u "([BI)B"), (106, .class_ 371), (1, u "java/lang/StringUTF16$LinesSpliterator"), (58, u "MAX_LENGTH"), (196, .class_ 628), (0, u "java/lang/StringUTF16$CodePointsSpliterator"), (0, .class_ 630), (0, u "java/lang/StringUTF16$CharsSpliterator")] 4

def k8m0 : Method := { name := "<init>", desc := "()V", sig := { parameters := [], returnType := none }, accessFlags := 0, code := none }
def k8c1 : Code := { maxStack := 2, maxLocals := 2, code := jdk_52_method_15_code, exceptionTable := #[], attributes := #[] }
def k8m1 : Method := { name := "coderFromArrayLen", desc := "([BI)B", sig := { parameters := [(.array .byte), .int], returnType := some .byte }, accessFlags := 8, code := some k8c1 }
def k8c2 : Code := { maxStack := 5, maxLocals := 6, code := jdk_52_method_16_code, exceptionTable := #[], attributes := #[] }
def k8m2 : Method := { name := "compress", desc := "([CII)[B", sig := { parameters := [(.array .char), .int, .int], returnType := some (.array .byte) }, accessFlags := 9, code := some k8c2 }
def k8c3 : Code := { maxStack := 3, maxLocals := 7, code := jdk_52_method_21_code, exceptionTable := #[], attributes := #[] }
def k8m3 : Method := { name := "compress", desc := "([CI[BII)I", sig := { parameters := [(.array .char), .int, (.array .byte), .int, .int], returnType := some .int }, accessFlags := 9, code := some k8c3 }
/-- java/lang/StringUTF16 -/
def k8 : Class := { plain "java/lang/StringUTF16" (some 0) with
  accessFlags := 48
  interfaces := #[]
  cf := some (fileOf pool8 12 #[.nestMembers #[627, 629, 369]] #[{ accessFlags := 0, nameIndex := 9, descriptorIndex := 10, attributes := #[] }, { accessFlags := 8, nameIndex := 261, descriptorIndex := 262, attributes := #[] }, { accessFlags := 9, nameIndex := 117, descriptorIndex := 122, attributes := #[] }, { accessFlags := 9, nameIndex := 117, descriptorIndex := 118, attributes := #[] }] 48 6 #[] #[{ accessFlags := 26, nameIndex := 61, descriptorIndex := 62, attributes := #[] }, { accessFlags := 26, nameIndex := 65, descriptorIndex := 62, attributes := #[] }, { accessFlags := 24, nameIndex := 430, descriptorIndex := 62, attributes := #[] }, { accessFlags := 4120, nameIndex := 46, descriptorIndex := 47, attributes := #[] }])
  fields := #[{ name := "HI_BYTE_SHIFT", type := .int, accessFlags := 26, slot := 0, constantValue := 0 }, { name := "LO_BYTE_SHIFT", type := .int, accessFlags := 26, slot := 1, constantValue := 0 }, { name := "MAX_LENGTH", type := .int, accessFlags := 24, slot := 2, constantValue := 0 }, { name := "$assertionsDisabled", type := .boolean, accessFlags := 4120, slot := 3, constantValue := 0 }]
  methods := #[k8m0, k8m1, k8m2, k8m3]
  instanceTypes := #[]
  staticTypes := #[.int, .int, .int, .boolean]
  resolved := Array.replicate 635 none
  statics := none }

def pool9 : Array CpInfo := pool [(1, .methodref 2 3), (0, .class_ 4), (0, .nameAndType 5 6), (0, u "java/lang/Object"), (0, u "<init>"), (0, u "()V"), (0, .class_ 8), (0, u "java/lang/Record")] 13

def k9c0 : Code := { maxStack := 1, maxLocals := 1, code := jdk_30_method_1_code, exceptionTable := #[], attributes := #[] }
def k9m0 : Method := { name := "<init>", desc := "()V", sig := { parameters := [], returnType := none }, accessFlags := 4, code := some k9c0 }
/-- java/lang/Record -/
def k9 : Class := { plain "java/lang/Record" (some 0) with
  accessFlags := 1057
  interfaces := #[]
  cf := some (fileOf pool9 7 #[] #[{ accessFlags := 4, nameIndex := 5, descriptorIndex := 6, attributes := #[] }] 1057 2 #[] #[])
  fields := #[]
  methods := #[k9m0]
  instanceTypes := #[]
  staticTypes := #[]
  resolved := Array.replicate 22 none
  statics := none }

def pool10 : Array CpInfo := pool [(1, .methodref 2 3), (0, .class_ 4), (0, .nameAndType 5 6), (0, u "java/lang/Record"), (0, u "<init>"), (0, u "()V"), (0, .class_ 8), (0, u "com/example/traqt/traqt/moqt/MoqtUri"), (0, .integer 65535), (2, .class_ 13), (0, u "java/lang/StringBuilder"), (0, .methodref 12 3), (2, .methodref 12 18), (0, .nameAndType 19 20), (0, u "append"), (0, u "(Ljava/lang/String;)Ljava/lang/StringBuilder;"), (0, .methodref 12 22), (0, .nameAndType 19 23), (0, u "(I)Ljava/lang/StringBuilder;"), (2, .methodref 12 27), (0, .nameAndType 28 29), (0, u "toString"), (0, u "()Ljava/lang/String;"), (3, .fieldref 7 34), (0, .nameAndType 35 36), (0, u "host"), (0, u "Ljava/lang/String;"), (0, .fieldref 7 38), (0, .nameAndType 39 40), (0, u "port"), (0, u "I"), (0, .fieldref 7 42), (0, .nameAndType 43 36), (0, u "path"), (19, .class_ 65), (1, u "java/lang/String"), (33, u "(Ljava/lang/String;ILjava/lang/String;)V"), (14, .string 115), (0, u ":"), (0, .methodref 63 117), (0, .nameAndType 118 119), (0, u "contains"), (0, u "(Ljava/lang/CharSequence;)Z"), (0, .string 121), (0, u "["), (0, .string 123), (0, u "]:"), (0, .string 125), (0, u "moqt://"), (8, u "SCHEME"), (1, u "MAX_PORT")] 34

def k10c0 : Code := { maxStack := 4, maxLocals := 4, code := prog_6_method_1_code, exceptionTable := #[], attributes := #[] }
def k10m0 : Method := { name := "<init>", desc := "(Ljava/lang/String;ILjava/lang/String;)V", sig := { parameters := [(.object "java/lang/String"), .int, (.object "java/lang/String")], returnType := none }, accessFlags := 1, code := some k10c0 }
def k10c1 : Code := { maxStack := 2, maxLocals := 2, code := prog_6_method_4_code, exceptionTable := #[], attributes := #[] }
def k10m1 : Method := { name := "toString", desc := "()Ljava/lang/String;", sig := { parameters := [], returnType := some (.object "java/lang/String") }, accessFlags := 1, code := some k10c1 }
/-- com/example/traqt/traqt/moqt/MoqtUri -/
def k10 : Class := { plain "com/example/traqt/traqt/moqt/MoqtUri" (some 9) with
  accessFlags := 49
  interfaces := #[]
  cf := some (fileOf pool10 7 #[] #[{ accessFlags := 1, nameIndex := 5, descriptorIndex := 99, attributes := #[] }, { accessFlags := 1, nameIndex := 28, descriptorIndex := 29, attributes := #[] }] 49 2 #[] #[{ accessFlags := 18, nameIndex := 35, descriptorIndex := 36, attributes := #[] }, { accessFlags := 18, nameIndex := 39, descriptorIndex := 40, attributes := #[] }, { accessFlags := 18, nameIndex := 43, descriptorIndex := 36, attributes := #[] }, { accessFlags := 25, nameIndex := 134, descriptorIndex := 36, attributes := #[] }, { accessFlags := 26, nameIndex := 136, descriptorIndex := 40, attributes := #[] }])
  fields := #[{ name := "host", type := (.object "java/lang/String"), accessFlags := 18, slot := 0, constantValue := 0 }, { name := "port", type := .int, accessFlags := 18, slot := 1, constantValue := 0 }, { name := "path", type := (.object "java/lang/String"), accessFlags := 18, slot := 2, constantValue := 0 }, { name := "SCHEME", type := (.object "java/lang/String"), accessFlags := 25, slot := 0, constantValue := 0 }, { name := "MAX_PORT", type := .int, accessFlags := 26, slot := 1, constantValue := 0 }]
  methods := #[k10m0, k10m1]
  instanceTypes := #[(.object "java/lang/String"), .int, (.object "java/lang/String")]
  staticTypes := #[(.object "java/lang/String"), .int]
  resolved := Array.replicate 171 none
  statics := none }

def pool11 : Array CpInfo := pool [(1, .class_ 2), (0, u "java/lang/String"), (1, .class_ 6), (1, u "java/lang/Object"), (0, u "<init>"), (0, u "()V"), (0, .methodref 1 10), (0, .nameAndType 11 12), (0, u "checkIndex"), (0, u "(II)V"), (1, .class_ 16), (1, u "java/lang/StringLatin1"), (36, u "([BI)C"), (45, .methodref 14 100), (0, .nameAndType 101 102), (0, u "indexOf"), (0, u "([BI[BII)I"), (18, u "$assertionsDisabled"), (0, u "Z"), (98, .class_ 223), (1, u "java/lang/StringLatin1$LinesSpliterator"), (28, u "charAt"), (34, u "([B[B)I"), (102, .class_ 391), (0, u "java/lang/StringLatin1$CharsSpliterator")] 3

def k11m0 : Method := { name := "<init>", desc := "()V", sig := { parameters := [], returnType := none }, accessFlags := 0, code := none }
def k11c1 : Code := { maxStack := 2, maxLocals := 2, code := jdk_43_method_2_code, exceptionTable := #[], attributes := #[] }
def k11m1 : Method := { name := "charAt", desc := "([BI)C", sig := { parameters := [(.array .byte), .int], returnType := some .char }, accessFlags := 9, code := some k11c1 }
def k11c2 : Code := { maxStack := 5, maxLocals := 2, code := jdk_43_method_24_code, exceptionTable := #[], attributes := #[] }
def k11m2 : Method := { name := "indexOf", desc := "([B[B)I", sig := { parameters := [(.array .byte), (.array .byte)], returnType := some .int }, accessFlags := 9, code := some k11c2 }
def k11c3 : Code := { maxStack := 3, maxLocals := 11, code := jdk_43_method_25_code, exceptionTable := #[], attributes := #[] }
def k11m3 : Method := { name := "indexOf", desc := "([BI[BII)I", sig := { parameters := [(.array .byte), .int, (.array .byte), .int, .int], returnType := some .int }, accessFlags := 9, code := some k11c3 }
/-- java/lang/StringLatin1 -/
def k11 : Class := { plain "java/lang/StringLatin1" (some 0) with
  accessFlags := 48
  interfaces := #[]
  cf := some (fileOf pool11 14 #[.nestMembers #[390, 221]] #[{ accessFlags := 0, nameIndex := 7, descriptorIndex := 8, attributes := #[] }, { accessFlags := 9, nameIndex := 252, descriptorIndex := 53, attributes := #[] }, { accessFlags := 9, nameIndex := 101, descriptorIndex := 287, attributes := #[] }, { accessFlags := 9, nameIndex := 101, descriptorIndex := 102, attributes := #[] }] 48 4 #[] #[{ accessFlags := 4120, nameIndex := 121, descriptorIndex := 122, attributes := #[] }])
  fields := #[{ name := "$assertionsDisabled", type := .boolean, accessFlags := 4120, slot := 0, constantValue := 0 }]
  methods := #[k11m0, k11m1, k11m2, k11m3]
  instanceTypes := #[]
  staticTypes := #[.boolean]
  resolved := Array.replicate 395 none
  statics := none }

def pool12 : Array CpInfo := pool [(1, .class_ 2), (0, u "java/lang/Appendable"), (0, .class_ 4), (0, u "java/lang/Object")] 9

/-- java/lang/Appendable -/
def k12 : Class := { plain "java/lang/Appendable" (some 0) with
  accessFlags := 1537
  interfaces := #[]
  cf := some (fileOf pool12 1 #[] #[] 1537 3 #[] #[])
  fields := #[]
  methods := #[]
  instanceTypes := #[]
  staticTypes := #[]
  resolved := Array.replicate 14 none
  statics := none }

def pool13 : Array CpInfo := pool [(1, .class_ 2), (0, u "java/lang/String"), (0, .methodref 4 5), (0, .class_ 6), (0, .nameAndType 7 8), (0, u "java/lang/Object"), (0, u "<init>"), (0, u "()V"), (1, .class_ 12), (1, u "java/lang/AbstractStringBuilder"), (0, u "EMPTYVALUE"), (0, u "[B"), (0, .fieldref 10 16), (0, .nameAndType 17 14), (0, u "value"), (0, .fieldref 1 19), (0, .nameAndType 20 21), (0, u "COMPACT_STRINGS"), (0, u "Z"), (0, .fieldref 10 23), (0, .nameAndType 24 25), (0, u "coder"), (0, u "B"), (6, .methodref 1 33), (0, .nameAndType 34 35), (0, u "length"), (0, u "()I"), (0, .class_ 37), (0, u "java/lang/Integer"), (1, .integer 2147483647), (0, .methodref 1 41), (0, .nameAndType 24 42), (0, u "()B"), (2, u "append"), (0, u "(Ljava/lang/String;)Ljava/lang/AbstractStringBuilder;"), (1, .class_ 49), (0, u "java/lang/CharSequence"), (19, u "(Ljava/lang/String;)V"), (5, u "maybeLatin1"), (3, .fieldref 10 80), (0, .nameAndType 81 82), (0, u "count"), (0, u "I"), (0, .methodref 10 84), (0, .nameAndType 85 86), (0, u "isLatin1"), (0, u "()Z"), (13, .methodref 10 101), (0, .nameAndType 102 103), (0, u "ensureCapacityInternal"), (0, u "(I)V"), (0, .methodref 10 105), (0, .nameAndType 106 107), (0, u "newCapacity"), (0, u "(I)I"), (0, .methodref 109 110), (0, .class_ 111), (0, .nameAndType 112 113), (0, u "java/util/Arrays"), (0, u "copyOf"), (0, u "([BI)[B"), (0, .methodref 115 116), (0, .class_ 117), (0, .nameAndType 118 119), (0, u "jdk/internal/util/ArraysSupport"), (0, u "newLength"), (0, u "(III)I"), (68, u "getChars"), (19, .methodref 10 209), (0, .nameAndType 210 211), (0, u "putStringAt"), (0, u "(ILjava/lang/String;)V"), (5, u "inflateIfNeededFor"), (2, .nameAndType 221 222), (0, u "getBytes"), (0, u "([BIB)V"), (22, .methodref 36 246), (0, .nameAndType 247 107), (0, u "stringSize"), (0, .methodref 36 249), (0, .nameAndType 188 250), (0, u "(II[B)I"), (146, .methodref 10 398), (0, .nameAndType 217 69), (0, .methodref 1 220), (3, u "()[B"), (40, .class_ 445), (0, u "java/lang/Appendable"), (65, u "(I)Ljava/lang/AbstractStringBuilder;"), (40, u "getValue")] 56

def k13m0 : Method := { name := "<init>", desc := "()V", sig := { parameters := [], returnType := none }, accessFlags := 0, code := none }
def k13c1 : Code := { maxStack := 2, maxLocals := 2, code := jdk_68_method_2_code, exceptionTable := #[], attributes := #[] }
def k13m1 : Method := { name := "<init>", desc := "(I)V", sig := { parameters := [.int], returnType := none }, accessFlags := 0, code := some k13c1 }
def k13c2 : Code := { maxStack := 1, maxLocals := 1, code := jdk_68_method_6_code, exceptionTable := #[], attributes := #[] }
def k13m2 : Method := { name := "length", desc := "()I", sig := { parameters := [], returnType := some .int }, accessFlags := 1, code := some k13c2 }
def k13c3 : Code := { maxStack := 4, maxLocals := 3, code := jdk_68_method_9_code, exceptionTable := #[], attributes := #[] }
def k13m3 : Method := { name := "ensureCapacityInternal", desc := "(I)V", sig := { parameters := [.int], returnType := none }, accessFlags := 2, code := some k13c3 }
def k13c4 : Code := { maxStack := 5, maxLocals := 6, code := jdk_68_method_10_code, exceptionTable := #[], attributes := #[] }
def k13m4 : Method := { name := "newCapacity", desc := "(I)I", sig := { parameters := [.int], returnType := some .int }, accessFlags := 2, code := some k13c4 }
def k13c5 : Code := { maxStack := 3, maxLocals := 3, code := jdk_68_method_22_code, exceptionTable := #[], attributes := #[] }
def k13m5 : Method := { name := "append", desc := "(Ljava/lang/String;)Ljava/lang/AbstractStringBuilder;", sig := { parameters := [(.object "java/lang/String")], returnType := some (.object "java/lang/AbstractStringBuilder") }, accessFlags := 1, code := some k13c5 }
def k13c6 : Code := { maxStack := 4, maxLocals := 4, code := jdk_68_method_32_code, exceptionTable := #[], attributes := #[] }
def k13m6 : Method := { name := "append", desc := "(I)Ljava/lang/AbstractStringBuilder;", sig := { parameters := [.int], returnType := some (.object "java/lang/AbstractStringBuilder") }, accessFlags := 1, code := some k13c6 }
def k13c7 : Code := { maxStack := 1, maxLocals := 1, code := jdk_68_method_64_code, exceptionTable := #[], attributes := #[] }
def k13m7 : Method := { name := "getValue", desc := "()[B", sig := { parameters := [], returnType := some (.array .byte) }, accessFlags := 16, code := some k13c7 }
def k13c8 : Code := { maxStack := 1, maxLocals := 1, code := jdk_68_method_68_code, exceptionTable := #[], attributes := #[] }
def k13m8 : Method := { name := "isLatin1", desc := "()Z", sig := { parameters := [], returnType := some .boolean }, accessFlags := 16, code := some k13c8 }
def k13c9 : Code := { maxStack := 2, maxLocals := 2, code := jdk_68_method_71_code, exceptionTable := #[], attributes := #[] }
def k13m9 : Method := { name := "inflateIfNeededFor", desc := "(Ljava/lang/String;)V", sig := { parameters := [(.object "java/lang/String")], returnType := none }, accessFlags := 2, code := some k13c9 }
def k13c10 : Code := { maxStack := 4, maxLocals := 3, code := jdk_68_method_73_code, exceptionTable := #[], attributes := #[] }
def k13m10 : Method := { name := "putStringAt", desc := "(ILjava/lang/String;)V", sig := { parameters := [.int, (.object "java/lang/String")], returnType := none }, accessFlags := 2, code := some k13c10 }
/-- java/lang/AbstractStringBuilder -/
def k13 : Class := { plain "java/lang/AbstractStringBuilder" (some 0) with
  accessFlags := 1056
  interfaces := #[12, 4]
  cf := some (fileOf pool13 10 #[] #[{ accessFlags := 0, nameIndex := 7, descriptorIndex := 8, attributes := #[] }, { accessFlags := 0, nameIndex := 7, descriptorIndex := 103, attributes := #[] }, { accessFlags := 1, nameIndex := 34, descriptorIndex := 35, attributes := #[] }, { accessFlags := 2, nameIndex := 102, descriptorIndex := 103, attributes := #[] }, { accessFlags := 2, nameIndex := 106, descriptorIndex := 107, attributes := #[] }, { accessFlags := 1, nameIndex := 45, descriptorIndex := 46, attributes := #[] }, { accessFlags := 1, nameIndex := 45, descriptorIndex := 511, attributes := #[] }, { accessFlags := 16, nameIndex := 552, descriptorIndex := 403, attributes := #[] }, { accessFlags := 16, nameIndex := 85, descriptorIndex := 86, attributes := #[] }, { accessFlags := 2, nameIndex := 217, descriptorIndex := 69, attributes := #[] }, { accessFlags := 2, nameIndex := 210, descriptorIndex := 211, attributes := #[] }] 1056 4 #[444, 48] #[{ accessFlags := 0, nameIndex := 17, descriptorIndex := 14, attributes := #[] }, { accessFlags := 0, nameIndex := 24, descriptorIndex := 25, attributes := #[] }, { accessFlags := 0, nameIndex := 75, descriptorIndex := 21, attributes := #[] }, { accessFlags := 0, nameIndex := 81, descriptorIndex := 82, attributes := #[] }, { accessFlags := 26, nameIndex := 13, descriptorIndex := 14, attributes := #[] }])
  fields := #[{ name := "value", type := (.array .byte), accessFlags := 0, slot := 0, constantValue := 0 }, { name := "coder", type := .byte, accessFlags := 0, slot := 1, constantValue := 0 }, { name := "maybeLatin1", type := .boolean, accessFlags := 0, slot := 2, constantValue := 0 }, { name := "count", type := .int, accessFlags := 0, slot := 3, constantValue := 0 }, { name := "EMPTYVALUE", type := (.array .byte), accessFlags := 26, slot := 0, constantValue := 0 }]
  methods := #[k13m0, k13m1, k13m2, k13m3, k13m4, k13m5, k13m6, k13m7, k13m8, k13m9, k13m10]
  instanceTypes := #[(.array .byte), .byte, .boolean, .int]
  staticTypes := #[(.array .byte)]
  resolved := Array.replicate 609 none
  statics := none }

def pool14 : Array CpInfo := pool [(1, .methodref 2 3), (0, .class_ 4), (0, .nameAndType 5 6), (0, u "java/lang/AbstractStringBuilder"), (0, u "<init>"), (0, u "(I)V"), (11, .class_ 20), (1, u "java/lang/String"), (3, .class_ 26), (1, u "java/lang/StringBuilder"), (0, u "append"), (0, u "(Ljava/lang/String;)Ljava/lang/StringBuilder;"), (0, .methodref 2 30), (0, .nameAndType 27 31), (0, u "(Ljava/lang/String;)Ljava/lang/AbstractStringBuilder;"), (21, .methodref 2 54), (0, .nameAndType 27 55), (0, u "(I)Ljava/lang/AbstractStringBuilder;"), (81, .methodref 18 138), (0, .nameAndType 5 139), (0, u "(Ljava/lang/StringBuilder;)V"), (5, u "()V"), (10, u "()I"), (111, u "(I)Ljava/lang/StringBuilder;"), (74, .methodref 2 344), (0, .nameAndType 345 156), (0, u "length"), (3, .class_ 350), (0, u "java/lang/Appendable"), (0, .class_ 352), (0, u "java/io/Serializable"), (0, .class_ 354), (0, u "java/lang/Comparable"), (0, .class_ 356), (0, u "java/lang/CharSequence"), (0, u "serialVersionUID"), (0, u "J"), (40, u "toString"), (0, u "()Ljava/lang/String;")] 21

def k14c0 : Code := { maxStack := 2, maxLocals := 1, code := jdk_67_method_1_code, exceptionTable := #[], attributes := #[] }
def k14m0 : Method := { name := "<init>", desc := "()V", sig := { parameters := [], returnType := none }, accessFlags := 1, code := some k14c0 }
def k14c1 : Code := { maxStack := 2, maxLocals := 2, code := jdk_67_method_7_code, exceptionTable := #[], attributes := #[] }
def k14m1 : Method := { name := "append", desc := "(Ljava/lang/String;)Ljava/lang/StringBuilder;", sig := { parameters := [(.object "java/lang/String")], returnType := some (.object "java/lang/StringBuilder") }, accessFlags := 1, code := some k14c1 }
def k14c2 : Code := { maxStack := 2, maxLocals := 2, code := jdk_67_method_15_code, exceptionTable := #[], attributes := #[] }
def k14m2 : Method := { name := "append", desc := "(I)Ljava/lang/StringBuilder;", sig := { parameters := [.int], returnType := some (.object "java/lang/StringBuilder") }, accessFlags := 1, code := some k14c2 }
def k14c3 : Code := { maxStack := 3, maxLocals := 1, code := jdk_67_method_42_code, exceptionTable := #[], attributes := #[] }
def k14m3 : Method := { name := "toString", desc := "()Ljava/lang/String;", sig := { parameters := [], returnType := some (.object "java/lang/String") }, accessFlags := 1, code := some k14c3 }
def k14c4 : Code := { maxStack := 1, maxLocals := 1, code := jdk_67_method_93_code, exceptionTable := #[], attributes := #[] }
def k14m4 : Method := { name := "length", desc := "()I", sig := { parameters := [], returnType := some .int }, accessFlags := 4161, code := some k14c4 }
/-- java/lang/StringBuilder -/
def k14 : Class := { plain "java/lang/StringBuilder" (some 13) with
  accessFlags := 49
  interfaces := #[12, 2, 3, 4]
  cf := some (fileOf pool14 24 #[] #[{ accessFlags := 1, nameIndex := 5, descriptorIndex := 145, attributes := #[] }, { accessFlags := 1, nameIndex := 27, descriptorIndex := 28, attributes := #[] }, { accessFlags := 1, nameIndex := 27, descriptorIndex := 268, attributes := #[] }, { accessFlags := 1, nameIndex := 399, descriptorIndex := 400, attributes := #[] }, { accessFlags := 4161, nameIndex := 345, descriptorIndex := 156, attributes := #[] }] 49 2 #[349, 351, 353, 355] #[{ accessFlags := 24, nameIndex := 357, descriptorIndex := 358, attributes := #[] }])
  fields := #[{ name := "serialVersionUID", type := .long, accessFlags := 24, slot := 0, constantValue := 0 }]
  methods := #[k14m0, k14m1, k14m2, k14m3, k14m4]
  instanceTypes := #[(.array .byte), .byte, .boolean, .int]
  staticTypes := #[.long]
  resolved := Array.replicate 422 none
  statics := none }

def pool15 : Array CpInfo := pool [(2, .class_ 4), (1, u "java/lang/Object"), (0, u "<init>"), (0, u "()V"), (1, .class_ 10), (1, u "java/lang/System"), (0, u "allowSecurityManager"), (0, u "I"), (16, u "cons"), (0, u "Ljava/io/Console;"), (77, .class_ 110), (1, u "java/lang/System$CallersHolder"), (43, u "initialErrStream"), (0, u "Ljava/io/PrintStream;"), (19, u "security"), (0, u "Ljava/lang/SecurityManager;"), (31, .class_ 209), (0, u "java/lang/System$1"), (7, u "props"), (0, u "Ljava/util/Properties;"), (2, u "lineSeparator"), (0, u "Ljava/lang/String;"), (96, .class_ 321), (1, u "java/lang/System$LoggerFinder"), (5, .class_ 328), (0, u "java/lang/System$Logger"), (67, u "err"), (2, u "out"), (91, u "notSupportedJnuEncoding"), (15, u "in"), (17, u "initialIn"), (0, u "Ljava/io/InputStream;"), (35, u "bootLayer"), (0, u "Ljava/lang/ModuleLayer;"), (99, .class_ 664), (0, u "java/lang/System$2"), (9, u "NEVER"), (2, u "MAYBE"), (49, u "arraycopy"), (0, u "(Ljava/lang/Object;ILjava/lang/Object;II)V"), (72, .class_ 802), (0, u "java/lang/System$Logger$Level")] 31

def k15m0 : Method := { name := "<init>", desc := "()V", sig := { parameters := [], returnType := none }, accessFlags := 2, code := none }
def k15m1 : Method := { name := "arraycopy", desc := "(Ljava/lang/Object;ILjava/lang/Object;II)V", sig := { parameters := [(.object "java/lang/Object"), .int, (.object "java/lang/Object"), .int, .int], returnType := none }, accessFlags := 265, code := none }
/-- java/lang/System -/
def k15 : Class := { plain "java/lang/System" (some 0) with
  accessFlags := 49
  interfaces := #[]
  cf := some (fileOf pool15 8 #[.nestMembers #[319, 327, 801, 108, 663, 208]] #[{ accessFlags := 2, nameIndex := 5, descriptorIndex := 6, attributes := #[] }, { accessFlags := 265, nameIndex := 727, descriptorIndex := 728, attributes := #[] }] 49 2 #[] #[{ accessFlags := 25, nameIndex := 507, descriptorIndex := 526, attributes := #[] }, { accessFlags := 25, nameIndex := 399, descriptorIndex := 155, attributes := #[] }, { accessFlags := 25, nameIndex := 396, descriptorIndex := 155, attributes := #[] }, { accessFlags := 10, nameIndex := 525, descriptorIndex := 526, attributes := #[] }, { accessFlags := 26, nameIndex := 674, descriptorIndex := 12, attributes := #[] }, { accessFlags := 26, nameIndex := 677, descriptorIndex := 12, attributes := #[] }, { accessFlags := 10, nameIndex := 11, descriptorIndex := 12, attributes := #[] }, { accessFlags := 74, nameIndex := 175, descriptorIndex := 176, attributes := #[] }, { accessFlags := 10, nameIndex := 491, descriptorIndex := 222, attributes := #[] }, { accessFlags := 74, nameIndex := 29, descriptorIndex := 30, attributes := #[] }, { accessFlags := 74, nameIndex := 154, descriptorIndex := 155, attributes := #[] }, { accessFlags := 10, nameIndex := 217, descriptorIndex := 218, attributes := #[] }, { accessFlags := 10, nameIndex := 221, descriptorIndex := 222, attributes := #[] }, { accessFlags := 8, nameIndex := 562, descriptorIndex := 563, attributes := #[] }])
  fields := #[{ name := "in", type := (.object "java/io/InputStream"), accessFlags := 25, slot := 0, constantValue := 0 }, { name := "out", type := (.object "java/io/PrintStream"), accessFlags := 25, slot := 1, constantValue := 0 }, { name := "err", type := (.object "java/io/PrintStream"), accessFlags := 25, slot := 2, constantValue := 0 }, { name := "initialIn", type := (.object "java/io/InputStream"), accessFlags := 10, slot := 3, constantValue := 0 }, { name := "NEVER", type := .int, accessFlags := 26, slot := 4, constantValue := 0 }, { name := "MAYBE", type := .int, accessFlags := 26, slot := 5, constantValue := 0 }, { name := "allowSecurityManager", type := .int, accessFlags := 10, slot := 6, constantValue := 0 }, { name := "security", type := (.object "java/lang/SecurityManager"), accessFlags := 74, slot := 7, constantValue := 0 }, { name := "notSupportedJnuEncoding", type := (.object "java/lang/String"), accessFlags := 10, slot := 8, constantValue := 0 }, { name := "cons", type := (.object "java/io/Console"), accessFlags := 74, slot := 9, constantValue := 0 }, { name := "initialErrStream", type := (.object "java/io/PrintStream"), accessFlags := 74, slot := 10, constantValue := 0 }, { name := "props", type := (.object "java/util/Properties"), accessFlags := 10, slot := 11, constantValue := 0 }, { name := "lineSeparator", type := (.object "java/lang/String"), accessFlags := 10, slot := 12, constantValue := 0 }, { name := "bootLayer", type := (.object "java/lang/ModuleLayer"), accessFlags := 8, slot := 13, constantValue := 0 }]
  methods := #[k15m0, k15m1]
  instanceTypes := #[]
  staticTypes := #[(.object "java/io/InputStream"), (.object "java/io/PrintStream"), (.object "java/io/PrintStream"), (.object "java/io/InputStream"), .int, .int, .int, (.object "java/lang/SecurityManager"), (.object "java/lang/String"), (.object "java/io/Console"), (.object "java/io/PrintStream"), (.object "java/util/Properties"), (.object "java/lang/String"), (.object "java/lang/ModuleLayer")]
  resolved := Array.replicate 834 none
  statics := none }

def pool16 : Array CpInfo := pool [(2, .class_ 4), (1, u "java/lang/Object"), (0, u "<init>"), (0, u "()V"), (1, .class_ 10), (1, u "java/lang/Number"), (2, .class_ 14), (0, u "java/io/Serializable"), (0, u "serialVersionUID"), (0, u "J")] 20

def k16m0 : Method := { name := "<init>", desc := "()V", sig := { parameters := [], returnType := none }, accessFlags := 1, code := none }
/-- java/lang/Number -/
def k16 : Class := { plain "java/lang/Number" (some 0) with
  accessFlags := 1057
  interfaces := #[2]
  cf := some (fileOf pool16 8 #[] #[{ accessFlags := 1, nameIndex := 5, descriptorIndex := 6, attributes := #[] }] 1057 2 #[13] #[{ accessFlags := 26, nameIndex := 15, descriptorIndex := 16, attributes := #[] }])
  fields := #[{ name := "serialVersionUID", type := .long, accessFlags := 26, slot := 0, constantValue := 0 }]
  methods := #[k16m0]
  instanceTypes := #[]
  staticTypes := #[.long]
  resolved := Array.replicate 37 none
  statics := none }

def pool17 : Array CpInfo := pool [(1, .class_ 2), (0, u "java/lang/Integer"), (16, u "digits"), (0, u "[C"), (33, u "(I)I"), (19, u "stringSize"), (2, u "getChars"), (0, u "(II[B)I"), (4, .fieldref 1 84), (0, .nameAndType 85 86), (0, u "DigitOnes"), (0, u "[B"), (0, .fieldref 1 88), (0, .nameAndType 89 86), (0, u "DigitTens"), (99, .class_ 190), (0, u "java/lang/Integer$IntegerCache"), (3, u "I"), (8, .class_ 204), (0, u "java/lang/Number"), (2, u "value"), (94, u "TYPE"), (0, u "Ljava/lang/Class;"), (0, .class_ 305), (0, u "java/lang/Comparable"), (0, .class_ 307), (0, u "java/lang/constant/Constable"), (0, .class_ 309), (0, u "java/lang/constant/ConstantDesc"), (0, u "MIN_VALUE"), (1, u "MAX_VALUE"), (3, u "SIZE"), (1, u "BYTES"), (1, u "serialVersionUID"), (0, u "J")] 131

def k17c0 : Code := { maxStack := 4, maxLocals := 7, code := jdk_33_method_12_code, exceptionTable := #[], attributes := #[] }
def k17m0 : Method := { name := "getChars", desc := "(II[B)I", sig := { parameters := [.int, .int, (.array .byte)], returnType := some .int }, accessFlags := 8, code := some k17c0 }
def k17c1 : Code := { maxStack := 2, maxLocals := 4, code := jdk_33_method_13_code, exceptionTable := #[], attributes := #[] }
def k17m1 : Method := { name := "stringSize", desc := "(I)I", sig := { parameters := [.int], returnType := some .int }, accessFlags := 8, code := some k17c1 }
/-- java/lang/Integer -/
def k17 : Class := { plain "java/lang/Integer" (some 16) with
  accessFlags := 49
  interfaces := #[3, 5, 6]
  cf := some (fileOf pool17 1 #[.nestMembers #[189]] #[{ accessFlags := 8, nameIndex := 77, descriptorIndex := 78, attributes := #[] }, { accessFlags := 8, nameIndex := 74, descriptorIndex := 54, attributes := #[] }] 49 203 #[304, 306, 308] #[{ accessFlags := 25, nameIndex := 310, descriptorIndex := 194, attributes := #[] }, { accessFlags := 25, nameIndex := 312, descriptorIndex := 194, attributes := #[] }, { accessFlags := 25, nameIndex := 302, descriptorIndex := 303, attributes := #[] }, { accessFlags := 24, nameIndex := 19, descriptorIndex := 20, attributes := #[] }, { accessFlags := 24, nameIndex := 89, descriptorIndex := 86, attributes := #[] }, { accessFlags := 24, nameIndex := 85, descriptorIndex := 86, attributes := #[] }, { accessFlags := 18, nameIndex := 207, descriptorIndex := 194, attributes := #[] }, { accessFlags := 25, nameIndex := 316, descriptorIndex := 194, attributes := #[] }, { accessFlags := 25, nameIndex := 318, descriptorIndex := 194, attributes := #[] }, { accessFlags := 26, nameIndex := 320, descriptorIndex := 321, attributes := #[] }])
  fields := #[{ name := "MIN_VALUE", type := .int, accessFlags := 25, slot := 0, constantValue := 0 }, { name := "MAX_VALUE", type := .int, accessFlags := 25, slot := 1, constantValue := 0 }, { name := "TYPE", type := (.object "java/lang/Class"), accessFlags := 25, slot := 2, constantValue := 0 }, { name := "digits", type := (.array .char), accessFlags := 24, slot := 3, constantValue := 0 }, { name := "DigitTens", type := (.array .byte), accessFlags := 24, slot := 4, constantValue := 0 }, { name := "DigitOnes", type := (.array .byte), accessFlags := 24, slot := 5, constantValue := 0 }, { name := "value", type := .int, accessFlags := 18, slot := 0, constantValue := 0 }, { name := "SIZE", type := .int, accessFlags := 25, slot := 6, constantValue := 0 }, { name := "BYTES", type := .int, accessFlags := 25, slot := 7, constantValue := 0 }, { name := "serialVersionUID", type := .long, accessFlags := 26, slot := 8, constantValue := 0 }]
  methods := #[k17m0, k17m1]
  instanceTypes := #[.int]
  staticTypes := #[.int, .int, (.object "java/lang/Class"), (.array .char), (.array .byte), (.array .byte), .int, .int, .long]
  resolved := Array.replicate 453 none
  statics := some 1 }

def pool18 : Array CpInfo := pool [(2, .class_ 4), (1, u "java/lang/Object"), (0, u "<init>"), (0, u "()V"), (7, .class_ 16), (1, u "java/util/Arrays"), (57, .class_ 76), (1, u "java/util/Arrays$NaturalOrder"), (32, u "()Ljava/lang/Object;"), (3, .class_ 115), (1, u "java/util/Arrays$LegacyMergeSort"), (1, u "Z"), (10, .nameAndType 129 109), (0, u "clone"), (9, u "copyOfRange"), (10, .methodref 151 152), (0, .class_ 153), (0, .nameAndType 154 155), (0, u "java/lang/System"), (0, u "arraycopy"), (0, u "(Ljava/lang/Object;ILjava/lang/Object;II)V"), (146, u "copyOf"), (1, .methodref 305 306), (0, .class_ 307), (0, .nameAndType 308 309), (0, u "java/lang/Math"), (0, u "min"), (0, u "(II)I"), (0, .methodref 311 128), (0, .class_ 312), (0, u "[B"), (26, .methodref 14 340), (0, .nameAndType 341 342), (0, u "copyOfRangeByte"), (0, u "([BII)[B"), (0, .methodref 14 344), (0, .nameAndType 345 346), (0, u "checkLength"), (0, u "(II)V"), (28, .class_ 376), (0, u "java/util/Arrays$ArrayList"), (68, u "$assertionsDisabled"), (269, u "MIN_ARRAY_SORT_GRAN"), (0, u "I"), (2, u "INSERTIONSORT_THRESHOLD"), (149, u "([BI)[B"), (105, .class_ 976), (0, u "java/util/Arrays$ArrayItr")] 52

def k18m0 : Method := { name := "<init>", desc := "()V", sig := { parameters := [], returnType := none }, accessFlags := 2, code := none }
def k18c1 : Code := { maxStack := 6, maxLocals := 3, code := jdk_65_method_121_code, exceptionTable := #[], attributes := #[] }
def k18m1 : Method := { name := "copyOf", desc := "([BI)[B", sig := { parameters := [(.array .byte), .int], returnType := some (.array .byte) }, accessFlags := 9, code := some k18c1 }
def k18c2 : Code := { maxStack := 4, maxLocals := 2, code := jdk_65_method_131_code, exceptionTable := #[], attributes := #[] }
def k18m2 : Method := { name := "checkLength", desc := "(II)V", sig := { parameters := [.int, .int], returnType := none }, accessFlags := 10, code := some k18c2 }
def k18c3 : Code := { maxStack := 3, maxLocals := 3, code := jdk_65_method_132_code, exceptionTable := #[], attributes := #[] }
def k18m3 : Method := { name := "copyOfRange", desc := "([BII)[B", sig := { parameters := [(.array .byte), .int, .int], returnType := some (.array .byte) }, accessFlags := 9, code := some k18c3 }
def k18c4 : Code := { maxStack := 6, maxLocals := 5, code := jdk_65_method_133_code, exceptionTable := #[], attributes := #[] }
def k18m4 : Method := { name := "copyOfRangeByte", desc := "([BII)[B", sig := { parameters := [(.array .byte), .int, .int], returnType := some (.array .byte) }, accessFlags := 10, code := some k18c4 }
/-- java/util/Arrays -/
def k18 : Class := { plain "java/util/Arrays" (some 0) with
  accessFlags := 49
  interfaces := #[]
  cf := some (fileOf pool18 14 #[.nestMembers #[975, 375, 113, 74]] #[{ accessFlags := 2, nameIndex := 5, descriptorIndex := 6, attributes := #[] }, { accessFlags := 9, nameIndex := 302, descriptorIndex := 869, attributes := #[] }, { accessFlags := 10, nameIndex := 345, descriptorIndex := 346, attributes := #[] }, { accessFlags := 9, nameIndex := 139, descriptorIndex := 342, attributes := #[] }, { accessFlags := 10, nameIndex := 341, descriptorIndex := 342, attributes := #[] }] 49 2 #[] #[{ accessFlags := 26, nameIndex := 715, descriptorIndex := 716, attributes := #[] }, { accessFlags := 26, nameIndex := 719, descriptorIndex := 716, attributes := #[] }, { accessFlags := 4120, nameIndex := 445, descriptorIndex := 117, attributes := #[] }])
  fields := #[{ name := "MIN_ARRAY_SORT_GRAN", type := .int, accessFlags := 26, slot := 0, constantValue := 0 }, { name := "INSERTIONSORT_THRESHOLD", type := .int, accessFlags := 26, slot := 1, constantValue := 0 }, { name := "$assertionsDisabled", type := .boolean, accessFlags := 4120, slot := 2, constantValue := 0 }]
  methods := #[k18m0, k18m1, k18m2, k18m3, k18m4]
  instanceTypes := #[]
  staticTypes := #[.int, .int, .boolean]
  resolved := Array.replicate 1029 none
  statics := none }

def pool19 : Array CpInfo := pool [(1, .class_ 2), (0, u "java/lang/Math"), (1, .class_ 6), (1, u "java/lang/Object"), (0, u "<init>"), (0, u "()V"), (89, .class_ 100), (1, u "java/lang/Math$RandomNumberGeneratorHolder"), (71, u "negativeZeroFloatBits"), (0, u "J"), (2, u "negativeZeroDoubleBits"), (21, u "max"), (2, u "min"), (43, u "$assertionsDisabled"), (0, u "Z"), (88, u "(II)I"), (2, u "twoToTheDoubleScaleDown"), (0, u "D"), (4, u "twoToTheDoubleScaleUp"), (9, u "E"), (3, u "PI"), (2, u "TAU"), (2, u "DEGREES_TO_RADIANS"), (0, u "RADIANS_TO_DEGREES")] 94

def k19m0 : Method := { name := "<init>", desc := "()V", sig := { parameters := [], returnType := none }, accessFlags := 2, code := none }
def k19c1 : Code := { maxStack := 2, maxLocals := 2, code := jdk_29_method_65_code, exceptionTable := #[], attributes := #[] }
def k19m1 : Method := { name := "max", desc := "(II)I", sig := { parameters := [.int, .int], returnType := some .int }, accessFlags := 9, code := some k19c1 }
def k19c2 : Code := { maxStack := 2, maxLocals := 2, code := jdk_29_method_69_code, exceptionTable := #[], attributes := #[] }
def k19m2 : Method := { name := "min", desc := "(II)I", sig := { parameters := [.int, .int], returnType := some .int }, accessFlags := 9, code := some k19c2 }
/-- java/lang/Math -/
def k19 : Class := { plain "java/lang/Math" (some 0) with
  accessFlags := 49
  interfaces := #[]
  cf := some (fileOf pool19 1 #[.nestMembers #[98]] #[{ accessFlags := 2, nameIndex := 7, descriptorIndex := 8, attributes := #[] }, { accessFlags := 9, nameIndex := 198, descriptorIndex := 335, attributes := #[] }, { accessFlags := 9, nameIndex := 201, descriptorIndex := 335, attributes := #[] }] 49 4 #[] #[{ accessFlags := 25, nameIndex := 354, descriptorIndex := 339, attributes := #[] }, { accessFlags := 25, nameIndex := 358, descriptorIndex := 339, attributes := #[] }, { accessFlags := 25, nameIndex := 361, descriptorIndex := 339, attributes := #[] }, { accessFlags := 26, nameIndex := 364, descriptorIndex := 339, attributes := #[] }, { accessFlags := 26, nameIndex := 365, descriptorIndex := 339, attributes := #[] }, { accessFlags := 26, nameIndex := 172, descriptorIndex := 173, attributes := #[] }, { accessFlags := 26, nameIndex := 176, descriptorIndex := 173, attributes := #[] }, { accessFlags := 8, nameIndex := 344, descriptorIndex := 339, attributes := #[] }, { accessFlags := 8, nameIndex := 338, descriptorIndex := 339, attributes := #[] }, { accessFlags := 4120, nameIndex := 245, descriptorIndex := 246, attributes := #[] }])
  fields := #[{ name := "E", type := .double, accessFlags := 25, slot := 0, constantValue := 0 }, { name := "PI", type := .double, accessFlags := 25, slot := 1, constantValue := 0 }, { name := "TAU", type := .double, accessFlags := 25, slot := 2, constantValue := 0 }, { name := "DEGREES_TO_RADIANS", type := .double, accessFlags := 26, slot := 3, constantValue := 0 }, { name := "RADIANS_TO_DEGREES", type := .double, accessFlags := 26, slot := 4, constantValue := 0 }, { name := "negativeZeroFloatBits", type := .long, accessFlags := 26, slot := 5, constantValue := 0 }, { name := "negativeZeroDoubleBits", type := .long, accessFlags := 26, slot := 6, constantValue := 0 }, { name := "twoToTheDoubleScaleUp", type := .double, accessFlags := 8, slot := 7, constantValue := 0 }, { name := "twoToTheDoubleScaleDown", type := .double, accessFlags := 8, slot := 8, constantValue := 0 }, { name := "$assertionsDisabled", type := .boolean, accessFlags := 4120, slot := 9, constantValue := 0 }]
  methods := #[k19m0, k19m1, k19m2]
  instanceTypes := #[]
  staticTypes := #[.double, .double, .double, .double, .double, .long, .long, .double, .double, .boolean]
  resolved := Array.replicate 460 none
  statics := none }

def pool20 : Array CpInfo := pool [(2, .class_ 4), (1, u "java/lang/Object"), (0, u "<init>"), (0, u "()V"), (17, .class_ 26), (1, u "jdk/internal/util/Preconditions"), (6, u "checkIndex"), (21, .class_ 56), (0, u "jdk/internal/util/Preconditions$4"), (57, .class_ 115), (0, u "jdk/internal/util/Preconditions$1"), (7, u "SIOOBE_FORMATTER"), (0, u "Ljava/util/function/BiFunction;"), (0, .class_ 126), (0, u "jdk/internal/util/Preconditions$2"), (3, u "AIOOBE_FORMATTER"), (0, .class_ 132), (0, u "jdk/internal/util/Preconditions$3"), (3, u "IOOBE_FORMATTER"), (41, u "(IILjava/util/function/BiFunction;)I")] 15

def k20m0 : Method := { name := "<init>", desc := "()V", sig := { parameters := [], returnType := none }, accessFlags := 1, code := none }
def k20c1 : Code := { maxStack := 3, maxLocals := 3, code := jdk_41_method_11_code, exceptionTable := #[], attributes := #[] }
def k20m1 : Method := { name := "checkIndex", desc := "(IILjava/util/function/BiFunction;)I", sig := { parameters := [.int, .int, (.object "java/util/function/BiFunction")], returnType := some .int }, accessFlags := 9, code := some k20c1 }
/-- jdk/internal/util/Preconditions -/
def k20 : Class := { plain "jdk/internal/util/Preconditions" (some 0) with
  accessFlags := 33
  interfaces := #[]
  cf := some (fileOf pool20 24 #[.nestMembers #[55, 131, 125, 114]] #[{ accessFlags := 1, nameIndex := 5, descriptorIndex := 6, attributes := #[] }, { accessFlags := 9, nameIndex := 33, descriptorIndex := 178, attributes := #[] }] 33 2 #[] #[{ accessFlags := 25, nameIndex := 123, descriptorIndex := 124, attributes := #[] }, { accessFlags := 25, nameIndex := 130, descriptorIndex := 124, attributes := #[] }, { accessFlags := 25, nameIndex := 136, descriptorIndex := 124, attributes := #[] }])
  fields := #[{ name := "SIOOBE_FORMATTER", type := (.object "java/util/function/BiFunction"), accessFlags := 25, slot := 0, constantValue := 0 }, { name := "AIOOBE_FORMATTER", type := (.object "java/util/function/BiFunction"), accessFlags := 25, slot := 1, constantValue := 0 }, { name := "IOOBE_FORMATTER", type := (.object "java/util/function/BiFunction"), accessFlags := 25, slot := 2, constantValue := 0 }]
  methods := #[k20m0, k20m1]
  instanceTypes := #[]
  staticTypes := #[(.object "java/util/function/BiFunction"), (.object "java/util/function/BiFunction"), (.object "java/util/function/BiFunction")]
  resolved := Array.replicate 194 none
  statics := some 2 }

def pool21 : Array CpInfo := pool [(9, u "<init>"), (6, .class_ 18), (1, u "java/lang/Object"), (0, u "()V"), (1, .class_ 23), (1, u "jdk/internal/util/ArraysSupport"), (0, u "LOG2_ARRAY_LONG_INDEX_SCALE"), (0, u "I"), (2, u "U"), (0, u "Ljdk/internal/misc/Unsafe;"), (8, u "BIG_ENDIAN"), (0, u "Z"), (8, u "LOG2_BYTE_BIT_SIZE"), (4, u "LOG2_ARRAY_INT_INDEX_SCALE"), (54, u "JLA"), (0, u "Ljdk/internal/access/JavaLangAccess;"), (11, u "LOG2_ARRAY_BOOLEAN_INDEX_SCALE"), (9, u "LOG2_ARRAY_BYTE_INDEX_SCALE"), (5, u "LOG2_ARRAY_CHAR_INDEX_SCALE"), (5, u "LOG2_ARRAY_SHORT_INDEX_SCALE"), (18, u "LOG2_ARRAY_FLOAT_INDEX_SCALE"), (24, u "LOG2_ARRAY_DOUBLE_INDEX_SCALE"), (6, .methodref 195 196), (0, .class_ 197), (0, .nameAndType 198 199), (0, u "java/lang/Math"), (0, u "max"), (0, u "(II)I"), (0, .integer 2147483639), (76, u "T_BOOLEAN"), (2, u "T_CHAR"), (1, u "T_FLOAT"), (1, u "T_DOUBLE"), (1, u "T_BYTE"), (1, u "T_SHORT"), (1, u "T_INT"), (1, u "T_LONG"), (1, u "SOFT_MAX_ARRAY_LENGTH"), (56, u "newLength"), (0, u "(III)I")] 25

def k21m0 : Method := { name := "<init>", desc := "()V", sig := { parameters := [], returnType := none }, accessFlags := 2, code := none }
def k21c1 : Code := { maxStack := 3, maxLocals := 4, code := jdk_48_method_27_code, exceptionTable := #[], attributes := #[] }
def k21m1 : Method := { name := "newLength", desc := "(III)I", sig := { parameters := [.int, .int, .int], returnType := some .int }, accessFlags := 9, code := some k21c1 }
/-- jdk/internal/util/ArraysSupport -/
def k21 : Class := { plain "jdk/internal/util/ArraysSupport" (some 0) with
  accessFlags := 33
  interfaces := #[]
  cf := some (fileOf pool21 21 #[] #[{ accessFlags := 2, nameIndex := 9, descriptorIndex := 19, attributes := #[] }, { accessFlags := 9, nameIndex := 351, descriptorIndex := 352, attributes := #[] }] 33 16 #[] #[{ accessFlags := 24, nameIndex := 28, descriptorIndex := 29, attributes := #[] }, { accessFlags := 26, nameIndex := 38, descriptorIndex := 39, attributes := #[] }, { accessFlags := 25, nameIndex := 121, descriptorIndex := 25, attributes := #[] }, { accessFlags := 25, nameIndex := 131, descriptorIndex := 25, attributes := #[] }, { accessFlags := 25, nameIndex := 137, descriptorIndex := 25, attributes := #[] }, { accessFlags := 25, nameIndex := 143, descriptorIndex := 25, attributes := #[] }, { accessFlags := 25, nameIndex := 53, descriptorIndex := 25, attributes := #[] }, { accessFlags := 25, nameIndex := 24, descriptorIndex := 25, attributes := #[] }, { accessFlags := 25, nameIndex := 162, descriptorIndex := 25, attributes := #[] }, { accessFlags := 25, nameIndex := 187, descriptorIndex := 25, attributes := #[] }, { accessFlags := 26, nameIndex := 48, descriptorIndex := 25, attributes := #[] }, { accessFlags := 25, nameIndex := 277, descriptorIndex := 25, attributes := #[] }, { accessFlags := 25, nameIndex := 280, descriptorIndex := 25, attributes := #[] }, { accessFlags := 25, nameIndex := 282, descriptorIndex := 25, attributes := #[] }, { accessFlags := 25, nameIndex := 284, descriptorIndex := 25, attributes := #[] }, { accessFlags := 25, nameIndex := 286, descriptorIndex := 25, attributes := #[] }, { accessFlags := 25, nameIndex := 288, descriptorIndex := 25, attributes := #[] }, { accessFlags := 25, nameIndex := 290, descriptorIndex := 25, attributes := #[] }, { accessFlags := 25, nameIndex := 292, descriptorIndex := 25, attributes := #[] }, { accessFlags := 26, nameIndex := 108, descriptorIndex := 109, attributes := #[] }, { accessFlags := 25, nameIndex := 294, descriptorIndex := 25, attributes := #[] }])
  fields := #[{ name := "U", type := (.object "jdk/internal/misc/Unsafe"), accessFlags := 24, slot := 0, constantValue := 0 }, { name := "BIG_ENDIAN", type := .boolean, accessFlags := 26, slot := 1, constantValue := 0 }, { name := "LOG2_ARRAY_BOOLEAN_INDEX_SCALE", type := .int, accessFlags := 25, slot := 2, constantValue := 0 }, { name := "LOG2_ARRAY_BYTE_INDEX_SCALE", type := .int, accessFlags := 25, slot := 3, constantValue := 0 }, { name := "LOG2_ARRAY_CHAR_INDEX_SCALE", type := .int, accessFlags := 25, slot := 4, constantValue := 0 }, { name := "LOG2_ARRAY_SHORT_INDEX_SCALE", type := .int, accessFlags := 25, slot := 5, constantValue := 0 }, { name := "LOG2_ARRAY_INT_INDEX_SCALE", type := .int, accessFlags := 25, slot := 6, constantValue := 0 }, { name := "LOG2_ARRAY_LONG_INDEX_SCALE", type := .int, accessFlags := 25, slot := 7, constantValue := 0 }, { name := "LOG2_ARRAY_FLOAT_INDEX_SCALE", type := .int, accessFlags := 25, slot := 8, constantValue := 0 }, { name := "LOG2_ARRAY_DOUBLE_INDEX_SCALE", type := .int, accessFlags := 25, slot := 9, constantValue := 0 }, { name := "LOG2_BYTE_BIT_SIZE", type := .int, accessFlags := 26, slot := 10, constantValue := 0 }, { name := "T_BOOLEAN", type := .int, accessFlags := 25, slot := 11, constantValue := 0 }, { name := "T_CHAR", type := .int, accessFlags := 25, slot := 12, constantValue := 0 }, { name := "T_FLOAT", type := .int, accessFlags := 25, slot := 13, constantValue := 0 }, { name := "T_DOUBLE", type := .int, accessFlags := 25, slot := 14, constantValue := 0 }, { name := "T_BYTE", type := .int, accessFlags := 25, slot := 15, constantValue := 0 }, { name := "T_SHORT", type := .int, accessFlags := 25, slot := 16, constantValue := 0 }, { name := "T_INT", type := .int, accessFlags := 25, slot := 17, constantValue := 0 }, { name := "T_LONG", type := .int, accessFlags := 25, slot := 18, constantValue := 0 }, { name := "JLA", type := (.object "jdk/internal/access/JavaLangAccess"), accessFlags := 26, slot := 19, constantValue := 0 }, { name := "SOFT_MAX_ARRAY_LENGTH", type := .int, accessFlags := 25, slot := 20, constantValue := 0 }]
  methods := #[k21m0, k21m1]
  instanceTypes := #[]
  staticTypes := #[(.object "jdk/internal/misc/Unsafe"), .boolean, .int, .int, .int, .int, .int, .int, .int, .int, .int, .int, .int, .int, .int, .int, .int, .int, .int, (.object "jdk/internal/access/JavaLangAccess"), .int]
  resolved := Array.replicate 378 none
  statics := none }

def pool22 : Array CpInfo := pool [(1, .class_ 2), (0, u "java/lang/Cloneable"), (0, .class_ 4), (0, u "java/lang/Object")] 2

/-- java/lang/Cloneable -/
def k22 : Class := { plain "java/lang/Cloneable" (some 0) with
  accessFlags := 1537
  interfaces := #[]
  cf := some (fileOf pool22 1 #[] #[] 1537 3 #[] #[])
  fields := #[]
  methods := #[]
  instanceTypes := #[]
  staticTypes := #[]
  resolved := Array.replicate 7 none
  statics := none }

/-- the primitive byte -/
def k23 : Class := { plain "byte" none with kind := .primitive 'B', accessFlags := 0x411 }
/-- [B -/
def k24 : Class := { plain "[B" (some 0) with kind := .array 23 .byte, interfaces := #[22, 2], accessFlags := 1041 }

/-- the primitive char -/
def k25 : Class := { plain "char" none with kind := .primitive 'C', accessFlags := 0x411 }
/-- [C -/
def k26 : Class := { plain "[C" (some 0) with kind := .array 25 .char, interfaces := #[22, 2], accessFlags := 1041 }

/-- the primitive int -/
def k27 : Class := { plain "int" none with kind := .primitive 'I', accessFlags := 0x411 }
/-- [I -/
def k28 : Class := { plain "[I" (some 0) with kind := .array 27 .int, interfaces := #[22, 2], accessFlags := 1041 }

def heap : Heap := #[{ cls := 7, slots := #[.long 0, .int 1, .null, .int 0, .null, .int 0, .int 0], vm := .statics 7 },
  { cls := 17, slots := #[.int 0, .int 0, .null, .null, .ref 4, .ref 3, .int 0, .int 0, .long 0], vm := .statics 17 },
  { cls := 20, slots := #[.null, .null, .null], vm := .statics 20 },
  { cls := 24, slots := #[.int 48, .int 49, .int 50, .int 51, .int 52, .int 53, .int 54, .int 55, .int 56, .int 57, .int 48, .int 49, .int 50, .int 51, .int 52, .int 53, .int 54, .int 55, .int 56, .int 57, .int 48, .int 49, .int 50, .int 51, .int 52, .int 53, .int 54, .int 55, .int 56, .int 57, .int 48, .int 49, .int 50, .int 51, .int 52, .int 53, .int 54, .int 55, .int 56, .int 57, .int 48, .int 49, .int 50, .int 51, .int 52, .int 53, .int 54, .int 55, .int 56, .int 57, .int 48, .int 49, .int 50, .int 51, .int 52, .int 53, .int 54, .int 55, .int 56, .int 57, .int 48, .int 49, .int 50, .int 51, .int 52, .int 53, .int 54, .int 55, .int 56, .int 57, .int 48, .int 49, .int 50, .int 51, .int 52, .int 53, .int 54, .int 55, .int 56, .int 57, .int 48, .int 49, .int 50, .int 51, .int 52, .int 53, .int 54, .int 55, .int 56, .int 57, .int 48, .int 49, .int 50, .int 51, .int 52, .int 53, .int 54, .int 55, .int 56, .int 57], vm := .none },
  { cls := 24, slots := #[.int 48, .int 48, .int 48, .int 48, .int 48, .int 48, .int 48, .int 48, .int 48, .int 48, .int 49, .int 49, .int 49, .int 49, .int 49, .int 49, .int 49, .int 49, .int 49, .int 49, .int 50, .int 50, .int 50, .int 50, .int 50, .int 50, .int 50, .int 50, .int 50, .int 50, .int 51, .int 51, .int 51, .int 51, .int 51, .int 51, .int 51, .int 51, .int 51, .int 51, .int 52, .int 52, .int 52, .int 52, .int 52, .int 52, .int 52, .int 52, .int 52, .int 52, .int 53, .int 53, .int 53, .int 53, .int 53, .int 53, .int 53, .int 53, .int 53, .int 53, .int 54, .int 54, .int 54, .int 54, .int 54, .int 54, .int 54, .int 54, .int 54, .int 54, .int 55, .int 55, .int 55, .int 55, .int 55, .int 55, .int 55, .int 55, .int 55, .int 55, .int 56, .int 56, .int 56, .int 56, .int 56, .int 56, .int 56, .int 56, .int 56, .int 56, .int 57, .int 57, .int 57, .int 57, .int 57, .int 57, .int 57, .int 57, .int 57, .int 57], vm := .none }]
def classes : Array Class := #[k0, k1, k2, k3, k4, k5, k6, k7, k8, k9, k10, k11, k12, k13, k14, k15, k16, k17, k18, k19, k20, k21, k22, k23, k24, k25, k26, k27, k28]
def interned : List (Array UInt16 × Addr) := []
def slotsUsed : Nat := 219
def theMethod : MethodId := ⟨1, 1⟩
def args0 : Array Value := #[.int 0, .int 0, .int 0, .int 0]
def aboutOver (below : List Frame) : State where
  vm := { classes := classes, interned := interned.toArray }
  heap := heap
  slotsUsed := slotsUsed
  threads := #[{ frames := .invoking theMethod args0 :: below }]
def below0 : List Frame := [.native { method := ⟨0, 0⟩, args := #[] }]
def about1 : State := aboutOver below0
def p0 : Program := .bare "" "" ""
def e0 : Env := launch0.env 0 0 0
theorem w_frames : about1.frames = Frame.invoking theMethod args0 :: below0 := rfl
set_option maxRecDepth 65536 in
theorem w_args : argsFit about1.vm theMethod args0 = true := by decide +kernel
set_option maxRecDepth 65536 in
theorem w_heap : heapFits about1 = true := by decide +kernel
set_option maxRecDepth 65536 in
theorem w_runnable : about1.curStatus? = some .runnable := by decide +kernel
set_option maxRecDepth 65536 in
theorem w_alone : about1.alone = true := by decide +kernel
set_option maxRecDepth 65536 in
theorem w_named : about1.methodNamed? x = some theMethod := by decide +kernel
set_option maxRecDepth 65536 in
theorem w_hears : about1.hears theMethod below0 = true := by decide +kernel
set_option maxRecDepth 65536 in
theorem w_ripe : about1.ripe theMethod args0 below0 = true := by decide +kernel
theorem w_running : about1.status = .running := rfl
set_option maxRecDepth 65536 in
theorem w_room : about1.hasRoom e0.platform room_1 = true :=
  launch0.hasRoom_least _ room_1 (by decide +kernel) (by decide +kernel) (by decide +kernel) (by decide +kernel) (by decide +kernel) (by decide +kernel)
theorem allAtoms_all (ts : List Jvm.Cond) (a : Array Jvm.Value) (st : Jvm.State) : (allAtoms ts).before a st = ts.all (fun c => c.before a st) := by
  induction ts with
  | nil => rfl
  | cons c t ih =>
    show (Jvm.Cond.and c (allAtoms t)).before a st = _
    rw [Jvm.Cond.before_and, ih, List.all_cons]
def words1 : List Jvm.Cond := Jvm.Cond.code x code maxLocals ret :: tables_1
/-- a 'code' word, met by the world's own term for the bytes: nothing is compared byte by byte -/
theorem code_word {y : MethodName} {bytes : ByteArray} {mx : Nat} {rt : Option FieldType} {a : Array Value} {s : State} {m : MethodId} {meth : Method} {c : Code} (h1 : s.methodNamed? y = some m) (h2 : s.vm.method? m = some meth) (h3 : meth.code = some c) (h4 : c.code = bytes)
    (h5 : (c.maxLocals == mx && c.exceptionTable.isEmpty && decide (c.maxStack ≤ mostOperands) && decide (meth.sig.returnType = rt) && !meth.locks && decide (parseMethodDescriptor y.desc = some meth.sig)) = true) : (Jvm.Cond.code y bytes mx rt).before a s = true := by
  simp only [Bool.and_eq_true, beq_iff_eq, Bool.not_eq_true', decide_eq_true_eq] at h5
  obtain ⟨⟨⟨⟨⟨g1, g2⟩, g3⟩, g4⟩, g5⟩, g6⟩ := h5
  simp [Cond.before, Cond.holds, Cond.value, h1, h2, h3, h4, g1, g2, g3, g4, g5, g6]
def isCode : Jvm.Cond → Bool
  | .code _ _ _ _ => true
  | _ => false
theorem all_split {L : List Jvm.Cond} {P : Jvm.Cond → Bool} (h1 : L.all (fun c => isCode c || P c) = true) (h2 : ∀ c ∈ L.filter isCode, P c = true) : L.all P = true := by
  refine List.all_eq_true.mpr fun c hc => ?_
  have h := List.all_eq_true.mp h1 c hc
  rcases Bool.eq_false_or_eq_true (isCode c) with hi | hi
  · exact h2 c (List.mem_filter.mpr ⟨hc, hi⟩)
  · simpa [hi] using h
set_option maxRecDepth 65536 in
theorem w_c0 : (Jvm.Cond.code x code maxLocals ret).before args0 about1 = true := code_word (m := ⟨1, 1⟩) (meth := k1m1) (c := k1c1) (by decide +kernel) rfl rfl rfl (by decide +kernel)
set_option maxRecDepth 65536 in
theorem w_c1 : (Jvm.Cond.code ({ cls := "java/lang/String", name := "<init>", desc := "([C)V" } : Jvm.MethodName) jdk_42_method_3_code (2 : Nat) (Option.none : Option Jvm.ClassFile.FieldType)).before args0 about1 = true := code_word (m := ⟨7, 1⟩) (meth := k7m1) (c := k7c1) (by decide +kernel) rfl rfl rfl (by decide +kernel)
set_option maxRecDepth 65536 in
theorem w_c2 : (Jvm.Cond.code ({ cls := "java/lang/String", name := "<init>", desc := "([CIILjava/lang/Void;)V" } : Jvm.MethodName) jdk_42_method_149_code (6 : Nat) (Option.none : Option Jvm.ClassFile.FieldType)).before args0 about1 = true := code_word (m := ⟨7, 9⟩) (meth := k7m9) (c := k7c9) (by decide +kernel) rfl rfl rfl (by decide +kernel)
set_option maxRecDepth 65536 in
theorem w_c3 : (Jvm.Cond.code ({ cls := "java/lang/Object", name := "<init>", desc := "()V" } : Jvm.MethodName) object_method_1_code (1 : Nat) (Option.none : Option Jvm.ClassFile.FieldType)).before args0 about1 = true := code_word (m := ⟨0, 0⟩) (meth := k0m0) (c := k0c0) (by decide +kernel) rfl rfl rfl (by decide +kernel)
set_option maxRecDepth 65536 in
theorem w_c4 : (Jvm.Cond.code ({ cls := "java/lang/StringUTF16", name := "compress", desc := "([CII)[B" } : Jvm.MethodName) jdk_52_method_16_code (6 : Nat) (Option.some (Jvm.ClassFile.FieldType.array Jvm.ClassFile.FieldType.byte))).before args0 about1 = true := code_word (m := ⟨8, 2⟩) (meth := k8m2) (c := k8c2) (by decide +kernel) rfl rfl rfl (by decide +kernel)
set_option maxRecDepth 65536 in
theorem w_c5 : (Jvm.Cond.code ({ cls := "java/lang/StringUTF16", name := "compress", desc := "([CI[BII)I" } : Jvm.MethodName) jdk_52_method_21_code (7 : Nat) (Option.some Jvm.ClassFile.FieldType.int)).before args0 about1 = true := code_word (m := ⟨8, 3⟩) (meth := k8m3) (c := k8c3) (by decide +kernel) rfl rfl rfl (by decide +kernel)
set_option maxRecDepth 65536 in
theorem w_c6 : (Jvm.Cond.code ({ cls := "java/lang/StringUTF16", name := "coderFromArrayLen", desc := "([BI)B" } : Jvm.MethodName) jdk_52_method_15_code (2 : Nat) (Option.some Jvm.ClassFile.FieldType.byte)).before args0 about1 = true := code_word (m := ⟨8, 1⟩) (meth := k8m1) (c := k8c1) (by decide +kernel) rfl rfl rfl (by decide +kernel)
set_option maxRecDepth 65536 in
theorem w_c7 : (Jvm.Cond.code ({ cls := "com/example/traqt/traqt/moqt/MoqtUri", name := "<init>", desc := "(Ljava/lang/String;ILjava/lang/String;)V" } : Jvm.MethodName) prog_6_method_1_code (4 : Nat) (Option.none : Option Jvm.ClassFile.FieldType)).before args0 about1 = true := code_word (m := ⟨10, 0⟩) (meth := k10m0) (c := k10c0) (by decide +kernel) rfl rfl rfl (by decide +kernel)
set_option maxRecDepth 65536 in
theorem w_c8 : (Jvm.Cond.code ({ cls := "java/lang/Record", name := "<init>", desc := "()V" } : Jvm.MethodName) jdk_30_method_1_code (1 : Nat) (Option.none : Option Jvm.ClassFile.FieldType)).before args0 about1 = true := code_word (m := ⟨9, 0⟩) (meth := k9m0) (c := k9c0) (by decide +kernel) rfl rfl rfl (by decide +kernel)
set_option maxRecDepth 65536 in
theorem w_c9 : (Jvm.Cond.code ({ cls := "com/example/traqt/traqt/moqt/MoqtUri", name := "toString", desc := "()Ljava/lang/String;" } : Jvm.MethodName) prog_6_method_4_code (2 : Nat) (Option.some (Jvm.ClassFile.FieldType.object "java/lang/String"))).before args0 about1 = true := code_word (m := ⟨10, 1⟩) (meth := k10m1) (c := k10c1) (by decide +kernel) rfl rfl rfl (by decide +kernel)
set_option maxRecDepth 65536 in
theorem w_c10 : (Jvm.Cond.code ({ cls := "java/lang/String", name := "contains", desc := "(Ljava/lang/CharSequence;)Z" } : Jvm.MethodName) jdk_42_method_97_code (2 : Nat) (Option.some Jvm.ClassFile.FieldType.boolean)).before args0 about1 = true := code_word (m := ⟨7, 6⟩) (meth := k7m6) (c := k7c6) (by decide +kernel) rfl rfl rfl (by decide +kernel)
set_option maxRecDepth 65536 in
theorem w_c11 : (Jvm.Cond.code ({ cls := "java/lang/String", name := "toString", desc := "()Ljava/lang/String;" } : Jvm.MethodName) jdk_42_method_126_code (1 : Nat) (Option.some (Jvm.ClassFile.FieldType.object "java/lang/String"))).before args0 about1 = true := code_word (m := ⟨7, 7⟩) (meth := k7m7) (c := k7c7) (by decide +kernel) rfl rfl rfl (by decide +kernel)
set_option maxRecDepth 65536 in
theorem w_c12 : (Jvm.Cond.code ({ cls := "java/lang/String", name := "indexOf", desc := "(Ljava/lang/String;)I" } : Jvm.MethodName) jdk_42_method_84_code (3 : Nat) (Option.some Jvm.ClassFile.FieldType.int)).before args0 about1 = true := code_word (m := ⟨7, 5⟩) (meth := k7m5) (c := k7c5) (by decide +kernel) rfl rfl rfl (by decide +kernel)
set_option maxRecDepth 65536 in
theorem w_c13 : (Jvm.Cond.code ({ cls := "java/lang/String", name := "coder", desc := "()B" } : Jvm.MethodName) jdk_42_method_152_code (1 : Nat) (Option.some Jvm.ClassFile.FieldType.byte)).before args0 about1 = true := code_word (m := ⟨7, 11⟩) (meth := k7m11) (c := k7c11) (by decide +kernel) rfl rfl rfl (by decide +kernel)
set_option maxRecDepth 65536 in
theorem w_c14 : (Jvm.Cond.code ({ cls := "java/lang/String", name := "isLatin1", desc := "()Z" } : Jvm.MethodName) jdk_42_method_154_code (1 : Nat) (Option.some Jvm.ClassFile.FieldType.boolean)).before args0 about1 = true := code_word (m := ⟨7, 12⟩) (meth := k7m12) (c := k7c12) (by decide +kernel) rfl rfl rfl (by decide +kernel)
set_option maxRecDepth 65536 in
theorem w_c15 : (Jvm.Cond.code ({ cls := "java/lang/StringLatin1", name := "indexOf", desc := "([B[B)I" } : Jvm.MethodName) jdk_43_method_24_code (2 : Nat) (Option.some Jvm.ClassFile.FieldType.int)).before args0 about1 = true := code_word (m := ⟨11, 2⟩) (meth := k11m2) (c := k11c2) (by decide +kernel) rfl rfl rfl (by decide +kernel)
set_option maxRecDepth 65536 in
theorem w_c16 : (Jvm.Cond.code ({ cls := "java/lang/StringLatin1", name := "indexOf", desc := "([BI[BII)I" } : Jvm.MethodName) jdk_43_method_25_code (11 : Nat) (Option.some Jvm.ClassFile.FieldType.int)).before args0 about1 = true := code_word (m := ⟨11, 3⟩) (meth := k11m3) (c := k11c3) (by decide +kernel) rfl rfl rfl (by decide +kernel)
set_option maxRecDepth 65536 in
theorem w_c17 : (Jvm.Cond.code ({ cls := "java/lang/StringBuilder", name := "<init>", desc := "()V" } : Jvm.MethodName) jdk_67_method_1_code (1 : Nat) (Option.none : Option Jvm.ClassFile.FieldType)).before args0 about1 = true := code_word (m := ⟨14, 0⟩) (meth := k14m0) (c := k14c0) (by decide +kernel) rfl rfl rfl (by decide +kernel)
set_option maxRecDepth 65536 in
theorem w_c18 : (Jvm.Cond.code ({ cls := "java/lang/AbstractStringBuilder", name := "<init>", desc := "(I)V" } : Jvm.MethodName) jdk_68_method_2_code (2 : Nat) (Option.none : Option Jvm.ClassFile.FieldType)).before args0 about1 = true := code_word (m := ⟨13, 1⟩) (meth := k13m1) (c := k13c1) (by decide +kernel) rfl rfl rfl (by decide +kernel)
set_option maxRecDepth 65536 in
theorem w_c19 : (Jvm.Cond.code ({ cls := "java/lang/StringBuilder", name := "append", desc := "(Ljava/lang/String;)Ljava/lang/StringBuilder;" } : Jvm.MethodName) jdk_67_method_7_code (2 : Nat) (Option.some (Jvm.ClassFile.FieldType.object "java/lang/StringBuilder"))).before args0 about1 = true := code_word (m := ⟨14, 1⟩) (meth := k14m1) (c := k14c1) (by decide +kernel) rfl rfl rfl (by decide +kernel)
set_option maxRecDepth 65536 in
theorem w_c20 : (Jvm.Cond.code ({ cls := "java/lang/AbstractStringBuilder", name := "append", desc := "(Ljava/lang/String;)Ljava/lang/AbstractStringBuilder;" } : Jvm.MethodName) jdk_68_method_22_code (3 : Nat) (Option.some (Jvm.ClassFile.FieldType.object "java/lang/AbstractStringBuilder"))).before args0 about1 = true := code_word (m := ⟨13, 5⟩) (meth := k13m5) (c := k13c5) (by decide +kernel) rfl rfl rfl (by decide +kernel)
set_option maxRecDepth 65536 in
theorem w_c21 : (Jvm.Cond.code ({ cls := "java/lang/String", name := "length", desc := "()I" } : Jvm.MethodName) jdk_42_method_54_code (1 : Nat) (Option.some Jvm.ClassFile.FieldType.int)).before args0 about1 = true := code_word (m := ⟨7, 3⟩) (meth := k7m3) (c := k7c3) (by decide +kernel) rfl rfl rfl (by decide +kernel)
set_option maxRecDepth 65536 in
theorem w_c22 : (Jvm.Cond.code ({ cls := "java/lang/AbstractStringBuilder", name := "ensureCapacityInternal", desc := "(I)V" } : Jvm.MethodName) jdk_68_method_9_code (3 : Nat) (Option.none : Option Jvm.ClassFile.FieldType)).before args0 about1 = true := code_word (m := ⟨13, 3⟩) (meth := k13m3) (c := k13c3) (by decide +kernel) rfl rfl rfl (by decide +kernel)
set_option maxRecDepth 65536 in
theorem w_c23 : (Jvm.Cond.code ({ cls := "java/lang/AbstractStringBuilder", name := "putStringAt", desc := "(ILjava/lang/String;)V" } : Jvm.MethodName) jdk_68_method_73_code (3 : Nat) (Option.none : Option Jvm.ClassFile.FieldType)).before args0 about1 = true := code_word (m := ⟨13, 10⟩) (meth := k13m10) (c := k13c10) (by decide +kernel) rfl rfl rfl (by decide +kernel)
set_option maxRecDepth 65536 in
theorem w_c24 : (Jvm.Cond.code ({ cls := "java/lang/AbstractStringBuilder", name := "inflateIfNeededFor", desc := "(Ljava/lang/String;)V" } : Jvm.MethodName) jdk_68_method_71_code (2 : Nat) (Option.none : Option Jvm.ClassFile.FieldType)).before args0 about1 = true := code_word (m := ⟨13, 9⟩) (meth := k13m9) (c := k13c9) (by decide +kernel) rfl rfl rfl (by decide +kernel)
set_option maxRecDepth 65536 in
theorem w_c25 : (Jvm.Cond.code ({ cls := "java/lang/String", name := "getBytes", desc := "([BIB)V" } : Jvm.MethodName) jdk_42_method_147_code (4 : Nat) (Option.none : Option Jvm.ClassFile.FieldType)).before args0 about1 = true := code_word (m := ⟨7, 8⟩) (meth := k7m8) (c := k7c8) (by decide +kernel) rfl rfl rfl (by decide +kernel)
set_option maxRecDepth 65536 in
theorem w_c26 : (Jvm.Cond.code ({ cls := "java/lang/StringBuilder", name := "append", desc := "(I)Ljava/lang/StringBuilder;" } : Jvm.MethodName) jdk_67_method_15_code (2 : Nat) (Option.some (Jvm.ClassFile.FieldType.object "java/lang/StringBuilder"))).before args0 about1 = true := code_word (m := ⟨14, 2⟩) (meth := k14m2) (c := k14c2) (by decide +kernel) rfl rfl rfl (by decide +kernel)
set_option maxRecDepth 65536 in
theorem w_c27 : (Jvm.Cond.code ({ cls := "java/lang/AbstractStringBuilder", name := "append", desc := "(I)Ljava/lang/AbstractStringBuilder;" } : Jvm.MethodName) jdk_68_method_32_code (4 : Nat) (Option.some (Jvm.ClassFile.FieldType.object "java/lang/AbstractStringBuilder"))).before args0 about1 = true := code_word (m := ⟨13, 6⟩) (meth := k13m6) (c := k13c6) (by decide +kernel) rfl rfl rfl (by decide +kernel)
set_option maxRecDepth 65536 in
theorem w_c28 : (Jvm.Cond.code ({ cls := "java/lang/Integer", name := "stringSize", desc := "(I)I" } : Jvm.MethodName) jdk_33_method_13_code (4 : Nat) (Option.some Jvm.ClassFile.FieldType.int)).before args0 about1 = true := code_word (m := ⟨17, 1⟩) (meth := k17m1) (c := k17c1) (by decide +kernel) rfl rfl rfl (by decide +kernel)
set_option maxRecDepth 65536 in
theorem w_c29 : (Jvm.Cond.code ({ cls := "java/lang/AbstractStringBuilder", name := "isLatin1", desc := "()Z" } : Jvm.MethodName) jdk_68_method_68_code (1 : Nat) (Option.some Jvm.ClassFile.FieldType.boolean)).before args0 about1 = true := code_word (m := ⟨13, 8⟩) (meth := k13m8) (c := k13c8) (by decide +kernel) rfl rfl rfl (by decide +kernel)
set_option maxRecDepth 65536 in
theorem w_c30 : (Jvm.Cond.code ({ cls := "java/lang/Integer", name := "getChars", desc := "(II[B)I" } : Jvm.MethodName) jdk_33_method_12_code (7 : Nat) (Option.some Jvm.ClassFile.FieldType.int)).before args0 about1 = true := code_word (m := ⟨17, 0⟩) (meth := k17m0) (c := k17c0) (by decide +kernel) rfl rfl rfl (by decide +kernel)
set_option maxRecDepth 65536 in
theorem w_c31 : (Jvm.Cond.code ({ cls := "java/lang/StringBuilder", name := "toString", desc := "()Ljava/lang/String;" } : Jvm.MethodName) jdk_67_method_42_code (1 : Nat) (Option.some (Jvm.ClassFile.FieldType.object "java/lang/String"))).before args0 about1 = true := code_word (m := ⟨14, 3⟩) (meth := k14m3) (c := k14c3) (by decide +kernel) rfl rfl rfl (by decide +kernel)
set_option maxRecDepth 65536 in
theorem w_c32 : (Jvm.Cond.code ({ cls := "java/lang/String", name := "<init>", desc := "(Ljava/lang/StringBuilder;)V" } : Jvm.MethodName) jdk_42_method_53_code (2 : Nat) (Option.none : Option Jvm.ClassFile.FieldType)).before args0 about1 = true := code_word (m := ⟨7, 2⟩) (meth := k7m2) (c := k7c2) (by decide +kernel) rfl rfl rfl (by decide +kernel)
set_option maxRecDepth 65536 in
theorem w_c33 : (Jvm.Cond.code ({ cls := "java/lang/String", name := "<init>", desc := "(Ljava/lang/AbstractStringBuilder;Ljava/lang/Void;)V" } : Jvm.MethodName) jdk_42_method_150_code (5 : Nat) (Option.none : Option Jvm.ClassFile.FieldType)).before args0 about1 = true := code_word (m := ⟨7, 10⟩) (meth := k7m10) (c := k7c10) (by decide +kernel) rfl rfl rfl (by decide +kernel)
set_option maxRecDepth 65536 in
theorem w_c34 : (Jvm.Cond.code ({ cls := "java/lang/AbstractStringBuilder", name := "getValue", desc := "()[B" } : Jvm.MethodName) jdk_68_method_64_code (1 : Nat) (Option.some (Jvm.ClassFile.FieldType.array Jvm.ClassFile.FieldType.byte))).before args0 about1 = true := code_word (m := ⟨13, 7⟩) (meth := k13m7) (c := k13c7) (by decide +kernel) rfl rfl rfl (by decide +kernel)
set_option maxRecDepth 65536 in
theorem w_c35 : (Jvm.Cond.code ({ cls := "java/lang/StringBuilder", name := "length", desc := "()I" } : Jvm.MethodName) jdk_67_method_93_code (1 : Nat) (Option.some Jvm.ClassFile.FieldType.int)).before args0 about1 = true := code_word (m := ⟨14, 4⟩) (meth := k14m4) (c := k14c4) (by decide +kernel) rfl rfl rfl (by decide +kernel)
set_option maxRecDepth 65536 in
theorem w_c36 : (Jvm.Cond.code ({ cls := "java/lang/AbstractStringBuilder", name := "length", desc := "()I" } : Jvm.MethodName) jdk_68_method_6_code (1 : Nat) (Option.some Jvm.ClassFile.FieldType.int)).before args0 about1 = true := code_word (m := ⟨13, 2⟩) (meth := k13m2) (c := k13c2) (by decide +kernel) rfl rfl rfl (by decide +kernel)
set_option maxRecDepth 65536 in
theorem w_c37 : (Jvm.Cond.code ({ cls := "java/util/Arrays", name := "copyOfRange", desc := "([BII)[B" } : Jvm.MethodName) jdk_65_method_132_code (3 : Nat) (Option.some (Jvm.ClassFile.FieldType.array Jvm.ClassFile.FieldType.byte))).before args0 about1 = true := code_word (m := ⟨18, 3⟩) (meth := k18m3) (c := k18c3) (by decide +kernel) rfl rfl rfl (by decide +kernel)
set_option maxRecDepth 65536 in
theorem w_c38 : (Jvm.Cond.code ({ cls := "java/util/Arrays", name := "copyOfRangeByte", desc := "([BII)[B" } : Jvm.MethodName) jdk_65_method_133_code (5 : Nat) (Option.some (Jvm.ClassFile.FieldType.array Jvm.ClassFile.FieldType.byte))).before args0 about1 = true := code_word (m := ⟨18, 4⟩) (meth := k18m4) (c := k18c4) (by decide +kernel) rfl rfl rfl (by decide +kernel)
set_option maxRecDepth 65536 in
theorem w_c39 : (Jvm.Cond.code ({ cls := "java/util/Arrays", name := "checkLength", desc := "(II)V" } : Jvm.MethodName) jdk_65_method_131_code (2 : Nat) (Option.none : Option Jvm.ClassFile.FieldType)).before args0 about1 = true := code_word (m := ⟨18, 2⟩) (meth := k18m2) (c := k18c2) (by decide +kernel) rfl rfl rfl (by decide +kernel)
set_option maxRecDepth 65536 in
theorem w_c40 : (Jvm.Cond.code ({ cls := "java/lang/Math", name := "min", desc := "(II)I" } : Jvm.MethodName) jdk_29_method_69_code (2 : Nat) (Option.some Jvm.ClassFile.FieldType.int)).before args0 about1 = true := code_word (m := ⟨19, 2⟩) (meth := k19m2) (c := k19c2) (by decide +kernel) rfl rfl rfl (by decide +kernel)
set_option maxRecDepth 65536 in
theorem w_c41 : (Jvm.Cond.code ({ cls := "com/example/traqt/traqt/moqt/MoqtUriToStringPinLaw", name := "at", desc := "(Ljava/lang/String;[CII)Z" } : Jvm.MethodName) method_3_code (4 : Nat) (Option.some Jvm.ClassFile.FieldType.boolean)).before args0 about1 = true := code_word (m := ⟨1, 2⟩) (meth := k1m2) (c := k1c2) (by decide +kernel) rfl rfl rfl (by decide +kernel)
set_option maxRecDepth 65536 in
theorem w_c42 : (Jvm.Cond.code ({ cls := "java/lang/String", name := "charAt", desc := "(I)C" } : Jvm.MethodName) jdk_42_method_56_code (2 : Nat) (Option.some Jvm.ClassFile.FieldType.char)).before args0 about1 = true := code_word (m := ⟨7, 4⟩) (meth := k7m4) (c := k7c4) (by decide +kernel) rfl rfl rfl (by decide +kernel)
set_option maxRecDepth 65536 in
theorem w_c43 : (Jvm.Cond.code ({ cls := "java/lang/StringLatin1", name := "charAt", desc := "([BI)C" } : Jvm.MethodName) jdk_43_method_2_code (2 : Nat) (Option.some Jvm.ClassFile.FieldType.char)).before args0 about1 = true := code_word (m := ⟨11, 1⟩) (meth := k11m1) (c := k11c1) (by decide +kernel) rfl rfl rfl (by decide +kernel)
set_option maxRecDepth 65536 in
theorem w_c44 : (Jvm.Cond.code ({ cls := "java/lang/String", name := "checkIndex", desc := "(II)V" } : Jvm.MethodName) jdk_42_method_155_code (2 : Nat) (Option.none : Option Jvm.ClassFile.FieldType)).before args0 about1 = true := code_word (m := ⟨7, 13⟩) (meth := k7m13) (c := k7c13) (by decide +kernel) rfl rfl rfl (by decide +kernel)
set_option maxRecDepth 65536 in
theorem w_c45 : (Jvm.Cond.code ({ cls := "jdk/internal/util/Preconditions", name := "checkIndex", desc := "(IILjava/util/function/BiFunction;)I" } : Jvm.MethodName) jdk_41_method_11_code (3 : Nat) (Option.some Jvm.ClassFile.FieldType.int)).before args0 about1 = true := code_word (m := ⟨20, 1⟩) (meth := k20m1) (c := k20c1) (by decide +kernel) rfl rfl rfl (by decide +kernel)
set_option maxRecDepth 65536 in
theorem w_c46 : (Jvm.Cond.code ({ cls := "java/lang/AbstractStringBuilder", name := "newCapacity", desc := "(I)I" } : Jvm.MethodName) jdk_68_method_10_code (6 : Nat) (Option.some Jvm.ClassFile.FieldType.int)).before args0 about1 = true := code_word (m := ⟨13, 4⟩) (meth := k13m4) (c := k13c4) (by decide +kernel) rfl rfl rfl (by decide +kernel)
set_option maxRecDepth 65536 in
theorem w_c47 : (Jvm.Cond.code ({ cls := "jdk/internal/util/ArraysSupport", name := "newLength", desc := "(III)I" } : Jvm.MethodName) jdk_48_method_27_code (4 : Nat) (Option.some Jvm.ClassFile.FieldType.int)).before args0 about1 = true := code_word (m := ⟨21, 1⟩) (meth := k21m1) (c := k21c1) (by decide +kernel) rfl rfl rfl (by decide +kernel)
set_option maxRecDepth 65536 in
theorem w_c48 : (Jvm.Cond.code ({ cls := "java/lang/Math", name := "max", desc := "(II)I" } : Jvm.MethodName) jdk_29_method_65_code (2 : Nat) (Option.some Jvm.ClassFile.FieldType.int)).before args0 about1 = true := code_word (m := ⟨19, 1⟩) (meth := k19m1) (c := k19c1) (by decide +kernel) rfl rfl rfl (by decide +kernel)
set_option maxRecDepth 65536 in
theorem w_c49 : (Jvm.Cond.code ({ cls := "java/util/Arrays", name := "copyOf", desc := "([BI)[B" } : Jvm.MethodName) jdk_65_method_121_code (3 : Nat) (Option.some (Jvm.ClassFile.FieldType.array Jvm.ClassFile.FieldType.byte))).before args0 about1 = true := code_word (m := ⟨18, 1⟩) (meth := k18m1) (c := k18c1) (by decide +kernel) rfl rfl rfl (by decide +kernel)
def codes1 : List Jvm.Cond := [Jvm.Cond.code x code maxLocals ret, Jvm.Cond.code ({ cls := "java/lang/String", name := "<init>", desc := "([C)V" } : Jvm.MethodName) jdk_42_method_3_code (2 : Nat) (Option.none : Option Jvm.ClassFile.FieldType), Jvm.Cond.code ({ cls := "java/lang/String", name := "<init>", desc := "([CIILjava/lang/Void;)V" } : Jvm.MethodName) jdk_42_method_149_code (6 : Nat) (Option.none : Option Jvm.ClassFile.FieldType), Jvm.Cond.code ({ cls := "java/lang/Object", name := "<init>", desc := "()V" } : Jvm.MethodName) object_method_1_code (1 : Nat) (Option.none : Option Jvm.ClassFile.FieldType), Jvm.Cond.code ({ cls := "java/lang/StringUTF16", name := "compress", desc := "([CII)[B" } : Jvm.MethodName) jdk_52_method_16_code (6 : Nat) (Option.some (Jvm.ClassFile.FieldType.array Jvm.ClassFile.FieldType.byte)), Jvm.Cond.code ({ cls := "java/lang/StringUTF16", name := "compress", desc := "([CI[BII)I" } : Jvm.MethodName) jdk_52_method_21_code (7 : Nat) (Option.some Jvm.ClassFile.FieldType.int), Jvm.Cond.code ({ cls := "java/lang/StringUTF16", name := "coderFromArrayLen", desc := "([BI)B" } : Jvm.MethodName) jdk_52_method_15_code (2 : Nat) (Option.some Jvm.ClassFile.FieldType.byte), Jvm.Cond.code ({ cls := "com/example/traqt/traqt/moqt/MoqtUri", name := "<init>", desc := "(Ljava/lang/String;ILjava/lang/String;)V" } : Jvm.MethodName) prog_6_method_1_code (4 : Nat) (Option.none : Option Jvm.ClassFile.FieldType), Jvm.Cond.code ({ cls := "java/lang/Record", name := "<init>", desc := "()V" } : Jvm.MethodName) jdk_30_method_1_code (1 : Nat) (Option.none : Option Jvm.ClassFile.FieldType), Jvm.Cond.code ({ cls := "com/example/traqt/traqt/moqt/MoqtUri", name := "toString", desc := "()Ljava/lang/String;" } : Jvm.MethodName) prog_6_method_4_code (2 : Nat) (Option.some (Jvm.ClassFile.FieldType.object "java/lang/String")), Jvm.Cond.code ({ cls := "java/lang/String", name := "contains", desc := "(Ljava/lang/CharSequence;)Z" } : Jvm.MethodName) jdk_42_method_97_code (2 : Nat) (Option.some Jvm.ClassFile.FieldType.boolean), Jvm.Cond.code ({ cls := "java/lang/String", name := "toString", desc := "()Ljava/lang/String;" } : Jvm.MethodName) jdk_42_method_126_code (1 : Nat) (Option.some (Jvm.ClassFile.FieldType.object "java/lang/String")), Jvm.Cond.code ({ cls := "java/lang/String", name := "indexOf", desc := "(Ljava/lang/String;)I" } : Jvm.MethodName) jdk_42_method_84_code (3 : Nat) (Option.some Jvm.ClassFile.FieldType.int), Jvm.Cond.code ({ cls := "java/lang/String", name := "coder", desc := "()B" } : Jvm.MethodName) jdk_42_method_152_code (1 : Nat) (Option.some Jvm.ClassFile.FieldType.byte), Jvm.Cond.code ({ cls := "java/lang/String", name := "isLatin1", desc := "()Z" } : Jvm.MethodName) jdk_42_method_154_code (1 : Nat) (Option.some Jvm.ClassFile.FieldType.boolean), Jvm.Cond.code ({ cls := "java/lang/StringLatin1", name := "indexOf", desc := "([B[B)I" } : Jvm.MethodName) jdk_43_method_24_code (2 : Nat) (Option.some Jvm.ClassFile.FieldType.int), Jvm.Cond.code ({ cls := "java/lang/StringLatin1", name := "indexOf", desc := "([BI[BII)I" } : Jvm.MethodName) jdk_43_method_25_code (11 : Nat) (Option.some Jvm.ClassFile.FieldType.int), Jvm.Cond.code ({ cls := "java/lang/StringBuilder", name := "<init>", desc := "()V" } : Jvm.MethodName) jdk_67_method_1_code (1 : Nat) (Option.none : Option Jvm.ClassFile.FieldType), Jvm.Cond.code ({ cls := "java/lang/AbstractStringBuilder", name := "<init>", desc := "(I)V" } : Jvm.MethodName) jdk_68_method_2_code (2 : Nat) (Option.none : Option Jvm.ClassFile.FieldType), Jvm.Cond.code ({ cls := "java/lang/StringBuilder", name := "append", desc := "(Ljava/lang/String;)Ljava/lang/StringBuilder;" } : Jvm.MethodName) jdk_67_method_7_code (2 : Nat) (Option.some (Jvm.ClassFile.FieldType.object "java/lang/StringBuilder")), Jvm.Cond.code ({ cls := "java/lang/AbstractStringBuilder", name := "append", desc := "(Ljava/lang/String;)Ljava/lang/AbstractStringBuilder;" } : Jvm.MethodName) jdk_68_method_22_code (3 : Nat) (Option.some (Jvm.ClassFile.FieldType.object "java/lang/AbstractStringBuilder")), Jvm.Cond.code ({ cls := "java/lang/String", name := "length", desc := "()I" } : Jvm.MethodName) jdk_42_method_54_code (1 : Nat) (Option.some Jvm.ClassFile.FieldType.int), Jvm.Cond.code ({ cls := "java/lang/AbstractStringBuilder", name := "ensureCapacityInternal", desc := "(I)V" } : Jvm.MethodName) jdk_68_method_9_code (3 : Nat) (Option.none : Option Jvm.ClassFile.FieldType), Jvm.Cond.code ({ cls := "java/lang/AbstractStringBuilder", name := "putStringAt", desc := "(ILjava/lang/String;)V" } : Jvm.MethodName) jdk_68_method_73_code (3 : Nat) (Option.none : Option Jvm.ClassFile.FieldType), Jvm.Cond.code ({ cls := "java/lang/AbstractStringBuilder", name := "inflateIfNeededFor", desc := "(Ljava/lang/String;)V" } : Jvm.MethodName) jdk_68_method_71_code (2 : Nat) (Option.none : Option Jvm.ClassFile.FieldType), Jvm.Cond.code ({ cls := "java/lang/String", name := "getBytes", desc := "([BIB)V" } : Jvm.MethodName) jdk_42_method_147_code (4 : Nat) (Option.none : Option Jvm.ClassFile.FieldType), Jvm.Cond.code ({ cls := "java/lang/StringBuilder", name := "append", desc := "(I)Ljava/lang/StringBuilder;" } : Jvm.MethodName) jdk_67_method_15_code (2 : Nat) (Option.some (Jvm.ClassFile.FieldType.object "java/lang/StringBuilder")), Jvm.Cond.code ({ cls := "java/lang/AbstractStringBuilder", name := "append", desc := "(I)Ljava/lang/AbstractStringBuilder;" } : Jvm.MethodName) jdk_68_method_32_code (4 : Nat) (Option.some (Jvm.ClassFile.FieldType.object "java/lang/AbstractStringBuilder")), Jvm.Cond.code ({ cls := "java/lang/Integer", name := "stringSize", desc := "(I)I" } : Jvm.MethodName) jdk_33_method_13_code (4 : Nat) (Option.some Jvm.ClassFile.FieldType.int), Jvm.Cond.code ({ cls := "java/lang/AbstractStringBuilder", name := "isLatin1", desc := "()Z" } : Jvm.MethodName) jdk_68_method_68_code (1 : Nat) (Option.some Jvm.ClassFile.FieldType.boolean), Jvm.Cond.code ({ cls := "java/lang/Integer", name := "getChars", desc := "(II[B)I" } : Jvm.MethodName) jdk_33_method_12_code (7 : Nat) (Option.some Jvm.ClassFile.FieldType.int), Jvm.Cond.code ({ cls := "java/lang/StringBuilder", name := "toString", desc := "()Ljava/lang/String;" } : Jvm.MethodName) jdk_67_method_42_code (1 : Nat) (Option.some (Jvm.ClassFile.FieldType.object "java/lang/String")), Jvm.Cond.code ({ cls := "java/lang/String", name := "<init>", desc := "(Ljava/lang/StringBuilder;)V" } : Jvm.MethodName) jdk_42_method_53_code (2 : Nat) (Option.none : Option Jvm.ClassFile.FieldType), Jvm.Cond.code ({ cls := "java/lang/String", name := "<init>", desc := "(Ljava/lang/AbstractStringBuilder;Ljava/lang/Void;)V" } : Jvm.MethodName) jdk_42_method_150_code (5 : Nat) (Option.none : Option Jvm.ClassFile.FieldType), Jvm.Cond.code ({ cls := "java/lang/AbstractStringBuilder", name := "getValue", desc := "()[B" } : Jvm.MethodName) jdk_68_method_64_code (1 : Nat) (Option.some (Jvm.ClassFile.FieldType.array Jvm.ClassFile.FieldType.byte)), Jvm.Cond.code ({ cls := "java/lang/StringBuilder", name := "length", desc := "()I" } : Jvm.MethodName) jdk_67_method_93_code (1 : Nat) (Option.some Jvm.ClassFile.FieldType.int), Jvm.Cond.code ({ cls := "java/lang/AbstractStringBuilder", name := "length", desc := "()I" } : Jvm.MethodName) jdk_68_method_6_code (1 : Nat) (Option.some Jvm.ClassFile.FieldType.int), Jvm.Cond.code ({ cls := "java/util/Arrays", name := "copyOfRange", desc := "([BII)[B" } : Jvm.MethodName) jdk_65_method_132_code (3 : Nat) (Option.some (Jvm.ClassFile.FieldType.array Jvm.ClassFile.FieldType.byte)), Jvm.Cond.code ({ cls := "java/util/Arrays", name := "copyOfRangeByte", desc := "([BII)[B" } : Jvm.MethodName) jdk_65_method_133_code (5 : Nat) (Option.some (Jvm.ClassFile.FieldType.array Jvm.ClassFile.FieldType.byte)), Jvm.Cond.code ({ cls := "java/util/Arrays", name := "checkLength", desc := "(II)V" } : Jvm.MethodName) jdk_65_method_131_code (2 : Nat) (Option.none : Option Jvm.ClassFile.FieldType), Jvm.Cond.code ({ cls := "java/lang/Math", name := "min", desc := "(II)I" } : Jvm.MethodName) jdk_29_method_69_code (2 : Nat) (Option.some Jvm.ClassFile.FieldType.int), Jvm.Cond.code ({ cls := "com/example/traqt/traqt/moqt/MoqtUriToStringPinLaw", name := "at", desc := "(Ljava/lang/String;[CII)Z" } : Jvm.MethodName) method_3_code (4 : Nat) (Option.some Jvm.ClassFile.FieldType.boolean), Jvm.Cond.code ({ cls := "java/lang/String", name := "charAt", desc := "(I)C" } : Jvm.MethodName) jdk_42_method_56_code (2 : Nat) (Option.some Jvm.ClassFile.FieldType.char), Jvm.Cond.code ({ cls := "java/lang/StringLatin1", name := "charAt", desc := "([BI)C" } : Jvm.MethodName) jdk_43_method_2_code (2 : Nat) (Option.some Jvm.ClassFile.FieldType.char), Jvm.Cond.code ({ cls := "java/lang/String", name := "checkIndex", desc := "(II)V" } : Jvm.MethodName) jdk_42_method_155_code (2 : Nat) (Option.none : Option Jvm.ClassFile.FieldType), Jvm.Cond.code ({ cls := "jdk/internal/util/Preconditions", name := "checkIndex", desc := "(IILjava/util/function/BiFunction;)I" } : Jvm.MethodName) jdk_41_method_11_code (3 : Nat) (Option.some Jvm.ClassFile.FieldType.int), Jvm.Cond.code ({ cls := "java/lang/AbstractStringBuilder", name := "newCapacity", desc := "(I)I" } : Jvm.MethodName) jdk_68_method_10_code (6 : Nat) (Option.some Jvm.ClassFile.FieldType.int), Jvm.Cond.code ({ cls := "jdk/internal/util/ArraysSupport", name := "newLength", desc := "(III)I" } : Jvm.MethodName) jdk_48_method_27_code (4 : Nat) (Option.some Jvm.ClassFile.FieldType.int), Jvm.Cond.code ({ cls := "java/lang/Math", name := "max", desc := "(II)I" } : Jvm.MethodName) jdk_29_method_65_code (2 : Nat) (Option.some Jvm.ClassFile.FieldType.int), Jvm.Cond.code ({ cls := "java/util/Arrays", name := "copyOf", desc := "([BI)[B" } : Jvm.MethodName) jdk_65_method_121_code (3 : Nat) (Option.some (Jvm.ClassFile.FieldType.array Jvm.ClassFile.FieldType.byte))]
set_option maxRecDepth 65536 in
theorem codes_eq : words1.filter isCode = codes1 := rfl
theorem w_codes : ∀ c ∈ words1.filter isCode, c.before args0 about1 = true := by
  rw [codes_eq]
  intro c hc
  simp only [codes1, List.mem_cons, List.not_mem_nil, or_false] at hc
  rcases hc with rfl | rfl | rfl | rfl | rfl | rfl | rfl | rfl | rfl | rfl | rfl | rfl | rfl | rfl | rfl | rfl | rfl | rfl | rfl | rfl | rfl | rfl | rfl | rfl | rfl | rfl | rfl | rfl | rfl | rfl | rfl | rfl | rfl | rfl | rfl | rfl | rfl | rfl | rfl | rfl | rfl | rfl | rfl | rfl | rfl | rfl | rfl | rfl | rfl | rfl
  · exact w_c0
  · exact w_c1
  · exact w_c2
  · exact w_c3
  · exact w_c4
  · exact w_c5
  · exact w_c6
  · exact w_c7
  · exact w_c8
  · exact w_c9
  · exact w_c10
  · exact w_c11
  · exact w_c12
  · exact w_c13
  · exact w_c14
  · exact w_c15
  · exact w_c16
  · exact w_c17
  · exact w_c18
  · exact w_c19
  · exact w_c20
  · exact w_c21
  · exact w_c22
  · exact w_c23
  · exact w_c24
  · exact w_c25
  · exact w_c26
  · exact w_c27
  · exact w_c28
  · exact w_c29
  · exact w_c30
  · exact w_c31
  · exact w_c32
  · exact w_c33
  · exact w_c34
  · exact w_c35
  · exact w_c36
  · exact w_c37
  · exact w_c38
  · exact w_c39
  · exact w_c40
  · exact w_c41
  · exact w_c42
  · exact w_c43
  · exact w_c44
  · exact w_c45
  · exact w_c46
  · exact w_c47
  · exact w_c48
  · exact w_c49
set_option maxRecDepth 65536 in
theorem w_t1 : (words1.take 24).all (fun c => isCode c || c.before args0 about1) = true := by decide +kernel
set_option maxRecDepth 65536 in
theorem w_t2 : ((words1.drop 24).take 24).all (fun c => isCode c || c.before args0 about1) = true := by decide +kernel
set_option maxRecDepth 65536 in
theorem w_t3 : (((words1.drop 24).drop 24).take 24).all (fun c => isCode c || c.before args0 about1) = true := by decide +kernel
set_option maxRecDepth 65536 in
theorem w_t4 : ((((words1.drop 24).drop 24).drop 24).take 24).all (fun c => isCode c || c.before args0 about1) = true := by decide +kernel
set_option maxRecDepth 65536 in
theorem w_t5 : (((((words1.drop 24).drop 24).drop 24).drop 24).take 24).all (fun c => isCode c || c.before args0 about1) = true := by decide +kernel
set_option maxRecDepth 65536 in
theorem w_t6 : ((((((words1.drop 24).drop 24).drop 24).drop 24).drop 24).take 24).all (fun c => isCode c || c.before args0 about1) = true := by decide +kernel
set_option maxRecDepth 65536 in
theorem w_t7 : (((((((words1.drop 24).drop 24).drop 24).drop 24).drop 24).drop 24).take 24).all (fun c => isCode c || c.before args0 about1) = true := by decide +kernel
set_option maxRecDepth 65536 in
theorem w_t8 : ((((((((words1.drop 24).drop 24).drop 24).drop 24).drop 24).drop 24).drop 24).take 24).all (fun c => isCode c || c.before args0 about1) = true := by decide +kernel
set_option maxRecDepth 65536 in
theorem w_t9 : (((((((((words1.drop 24).drop 24).drop 24).drop 24).drop 24).drop 24).drop 24).drop 24).take 24).all (fun c => isCode c || c.before args0 about1) = true := by decide +kernel
set_option maxRecDepth 65536 in
theorem w_t10 : ((((((((((words1.drop 24).drop 24).drop 24).drop 24).drop 24).drop 24).drop 24).drop 24).drop 24).take 24).all (fun c => isCode c || c.before args0 about1) = true := by decide +kernel
set_option maxRecDepth 65536 in
theorem w_t11 : (((((((((((words1.drop 24).drop 24).drop 24).drop 24).drop 24).drop 24).drop 24).drop 24).drop 24).drop 24).take 24).all (fun c => isCode c || c.before args0 about1) = true := by decide +kernel
set_option maxRecDepth 65536 in
theorem w_t12 : (((((((((((words1.drop 24).drop 24).drop 24).drop 24).drop 24).drop 24).drop 24).drop 24).drop 24).drop 24).drop 24).all (fun c => isCode c || c.before args0 about1) = true := by decide +kernel
theorem w_tables : (allAtoms (Jvm.Cond.code x code maxLocals ret :: tables_1)).before args0 about1 = true := by
  rw [allAtoms_all]
  show words1.all (fun c => c.before args0 about1) = true
  refine all_split ?_ w_codes
  rw [← List.take_append_drop 24 words1, List.all_append, w_t1, ← List.take_append_drop 24 (words1.drop 24), List.all_append, w_t2, ← List.take_append_drop 24 ((words1.drop 24).drop 24), List.all_append, w_t3, ← List.take_append_drop 24 (((words1.drop 24).drop 24).drop 24), List.all_append, w_t4, ← List.take_append_drop 24 ((((words1.drop 24).drop 24).drop 24).drop 24), List.all_append, w_t5, ← List.take_append_drop 24 (((((words1.drop 24).drop 24).drop 24).drop 24).drop 24), List.all_append, w_t6, ← List.take_append_drop 24 ((((((words1.drop 24).drop 24).drop 24).drop 24).drop 24).drop 24), List.all_append, w_t7, ← List.take_append_drop 24 (((((((words1.drop 24).drop 24).drop 24).drop 24).drop 24).drop 24).drop 24), List.all_append, w_t8, ← List.take_append_drop 24 ((((((((words1.drop 24).drop 24).drop 24).drop 24).drop 24).drop 24).drop 24).drop 24), List.all_append, w_t9, ← List.take_append_drop 24 (((((((((words1.drop 24).drop 24).drop 24).drop 24).drop 24).drop 24).drop 24).drop 24).drop 24), List.all_append, w_t10, ← List.take_append_drop 24 ((((((((((words1.drop 24).drop 24).drop 24).drop 24).drop 24).drop 24).drop 24).drop 24).drop 24).drop 24), List.all_append, w_t11, w_t12]
  rfl
set_option maxRecDepth 65536 in
theorem w_rest : rest_1_c.before args0 about1 = true := by decide +kernel
set_option maxRecDepth 65536 in
theorem w_case : (Jvm.Cond.and given_1 narrow_1).before args0 about1 = true := by decide +kernel
set_option maxRecDepth 65536 in
theorem w_consts : constsHeld consts_1 about1 := Jvm.Lit.constsHeldB_iff.mp (by decide +kernel)
theorem w_applies : (headSpec (Jvm.Cond.code x code maxLocals ret :: tables_1) room_1).applies x e0.platform about1 = true :=
  (Spec.applies_iff w_frames).mpr ⟨w_running, w_runnable, w_alone, w_named, w_hears, w_ripe, w_room, w_tables⟩
theorem atStart : AtStart classFile x code maxLocals ret World_1 tables_1 room_1 Calls_1 rest_1 Pre_1 launch0 p0 e0 about1 theMethod args0 below0 :=
  ⟨lists_1, trivial, launch0.admits_env _ _ _, launch0.least_env, fairChoices_fair.cas, fairChoices_fair.clock, w_frames, w_args, w_heap, w_applies, ⟨w_consts, trivial⟩, w_rest, w_case⟩
end start1
theorem witness_1 : WitnessClaimed_1 := ⟨start1.p0, start1.e0, start1.about1, start1.theMethod, start1.args0, start1.below0, start1.atStart⟩
end Jvm.Pilot.@@N@@
