import JvmDerived
import JvmDerived.Pilot.@@N@@Statement
import JvmDerived.Pilot.@@N@@Code
set_option linter.unusedVariables false
set_option linter.unusedSimpArgs false
namespace Jvm.RoadKit
open Sem ClassFile Op Lib Jvm.Stand Jvm.Free Jvm.LawKit
theorem own_retI {p : Program} {l : Launch} {e : Env} {R : Room} {s : State} {m : MethodId} {args : Array Value} {below : List Frame} {meth : Method} {c : Code} {T : State} {locs : List Loc} {cells slots : Nat} (X : Stand p l e R s m args below meth c T locs cells slots) (hx : p.tables.exec = Jvm.exec) {pc : Nat} {Ls : Array Slot} {z : Int32} {rest : List Value} (hret : meth.sig.returnType = some .int) (hd : decode c.code pc = .ok (.ireturn, 1)) {fs : List Frame}
    (hl : ∀ (f : JFrame) (acts : List Action), f.method = m → f.locked = none → f.entered = [] → (doReturn e (T.setTop f) acts (some (.int z))).1 = T.setFrames fs) : Steps p.tables e below (T.setTop (mkF m pc Ls (.int z :: rest))) (T.setFrames fs) :=
  retOut X hx hret rfl (Or.inl ⟨rfl, Or.inl rfl, z, rfl⟩) hd hl
theorem own_retR {p : Program} {l : Launch} {e : Env} {R : Room} {s : State} {m : MethodId} {args : Array Value} {below : List Frame} {meth : Method} {c : Code} {T : State} {locs : List Loc} {cells slots : Nat} (X : Stand p l e R s m args below meth c T locs cells slots) (hx : p.tables.exec = Jvm.exec) {pc : Nat} {Ls : Array Slot} {w : Value} {t : FieldType} {rest : List Value} (hret : meth.sig.returnType = some t) (ht : t.isReference = true) (hw : w.isRef = true) (hd : decode c.code pc = .ok (.areturn, 1)) {fs : List Frame}
    (hl : ∀ (f : JFrame) (acts : List Action), f.method = m → f.locked = none → f.entered = [] → (doReturn e (T.setTop f) acts (some w)).1 = T.setFrames fs) : Steps p.tables e below (T.setTop (mkF m pc Ls (w :: rest))) (T.setFrames fs) :=
  retOut X hx hret (by rcases ref_cases hw with rfl | ⟨a, rfl⟩ <;> cases t <;> first | rfl | (cases ht; done)) (Or.inr (Or.inr (Or.inr (Or.inr ⟨rfl, ht, hw⟩)))) hd hl
end Jvm.RoadKit
namespace Jvm.Pilot.@@N@@
open Jvm Jvm.ClassFile Sem Op Lib Jvm.Free Jvm.Stand Jvm.LawKit Jvm.RoadKit Bundle Jvm.Pilot.@@N@@.Jvm.D
set_option maxRecDepth 65536
set_option maxHeartbeats 40000000
def own_lb (c : Int32) : Int32 := (c.toInt8.toInt32).toInt8.toInt32
def own_u0 (c : Int32) : Int32 := ((c >>> ((0 : Int32) &&& 31)).toInt8.toInt32).toInt8.toInt32
def own_u1 (c : Int32) : Int32 := ((c >>> ((8 : Int32) &&& 31)).toInt8.toInt32).toInt8.toInt32
def own_us (cs : List Int32) : List Value := cs.map Value.int
def own_l (cs : List Int32) : List Value := cs.map fun c => .int (own_lb c)
def own_u : List Int32 → List Value
  | [] => []
  | c :: cs => .int (own_u0 c) :: .int (own_u1 c) :: own_u cs
def own_zs (n : Int32) : List Value := List.replicate n.toNatClampNeg (.int 0)
/-- a char's range -/
def own_ch (c : Int32) : Prop := ¬ c < 0 ∧ ¬ (65535 : Int32) < c
/-- how the bytes vs, n of them, spell the chars cs under the coder cd -/
def own_rep (cs : List Int32) (cd n : Int32) (vs : List Value) : Prop :=
  (cd = 0 ∧ n = Int32.ofNat cs.length ∧ (∀ c ∈ cs, ¬ c < 0 ∧ ¬ (255 : Int32) < c) ∧ vs = own_l cs) ∨ (cd = 1 ∧ n = Int32.ofNat (2 * cs.length) ∧ (∀ c ∈ cs, own_ch c) ∧ vs = own_u cs)
/-- at heap h the object x, older than B, is a String of the chars cs, its bytes in an array older than B -/
def own_Str (Z : State) (h : Heap) (B : Nat) (x : Addr) (cs : List Int32) : Prop :=
  x < B ∧ ∃ (t : Addr) (kb : ClassId) (cd n : Int32) (vs : List Value), t < B ∧ Exa Z h x "java/lang/String" ∧ Fld Z h x "java/lang/String" "value" "[B" (.ref t) ∧ Fld Z h x "java/lang/String" "coder" "B" (.int cd) ∧ Arv Z h t kb .byte n vs (.int 0) ∧ own_rep cs cd n vs
theorem own_Str.exa {Z : State} {h : Heap} {B : Nat} {x : Addr} {cs : List Int32} (F : own_Str Z h B x cs) : Exa Z h x "java/lang/String" := by obtain ⟨-, t, kb, cd, n, vs, -, E, -⟩ := F; exact E
theorem own_Str.top {Z : State} {h : Heap} {B : Nat} {x : Addr} {cs : List Int32} (F : own_Str Z h B x cs) : own_Str Z h h.size x cs := by
  obtain ⟨-, t, kb, cd, n, vs, -, E, V, C, A, R⟩ := F
  exact ⟨E.lt, t, kb, cd, n, vs, A.lt, E, V, C, A, R⟩
theorem own_Str.ext {Z : State} {h h' : Heap} {B : Nat} {x : Addr} {cs : List Int32} (F : own_Str Z h B x cs) (X : Ext h h') : own_Str Z h' B x cs := by
  obtain ⟨q, t, kb, cd, n, vs, r, E, V, C, A, R⟩ := F
  exact ⟨q, t, kb, cd, n, vs, r, E.ext X, V.ext X, C.ext X, A.ext X, R⟩
theorem own_Str.keep {Z : State} {h h' : Heap} {B : Nat} {x : Addr} {cs : List Int32} {ws : List Addr} (F : own_Str Z h B x cs) (K : Keep h h' ws) (hb : ∀ a ∈ ws, B ≤ a) : own_Str Z h' B x cs := by
  obtain ⟨q, t, kb, cd, n, vs, r, E, V, C, A, R⟩ := F
  have n1 : x ∉ ws := fun z => Nat.not_lt.mpr (hb x z) q
  have n2 : t ∉ ws := fun z => Nat.not_lt.mpr (hb t z) r
  exact ⟨q, t, kb, cd, n, vs, r, E.keep K, V.keep K n1, C.keep K n1, A.keep K n2, R⟩
theorem own_255 {c : Int32} (h : ¬ c < 0 ∧ ¬ (255 : Int32) < c) : own_ch c := ⟨h.1, fun q => h.2 (by rw [Int32.lt_iff_toInt_lt, show (65535 : Int32).toInt = 65535 from rfl] at q; rw [Int32.lt_iff_toInt_lt, show (255 : Int32).toInt = 255 from rfl]; omega)⟩
theorem own_255b (i : Nat) (hi : i < 32) (h : ¬ i < 8) : (255#32)[i] = false := by
  rw [← BitVec.getLsbD_eq_getElem]
  have q : ∀ j : Fin 32, ¬ j.1 < 8 → (255#32).getLsbD j.1 = false := by decide
  exact q ⟨i, hi⟩ h
theorem own_b8 (x : Int32) : (x.toInt8.toInt32 &&& (255 : Int32)) = x &&& 255 := by
  apply Int32.toBitVec_inj.1
  simp only [Int32.toBitVec_and, Int8.toBitVec_toInt32, Int32.toBitVec_toInt8]
  ext i hi
  by_cases h : i < 8
  · simp [BitVec.getElem_signExtend, h, hi]
  · simp [own_255b i hi h]
theorem own_b88 (x : Int32) : (x.toInt8.toInt32).toInt8.toInt32 &&& (255 : Int32) = x &&& 255 := by rw [own_b8, own_b8]
theorem own_nch (x : Int32) : own_ch (nar .char x) := by
  have hu := x.toUInt32.toUInt16.toNat_lt
  have q : (nar .char x).toInt = (x.toUInt32.toUInt16.toNat : Int) := by
    show (x.toUInt32.toUInt16.toUInt32.toInt32).toInt = _
    generalize x.toUInt32.toUInt16 = u at *
    rw [show u.toUInt32.toInt32 = Int32.ofNat u.toNat from by apply Int32.toBitVec_inj.1; apply BitVec.eq_of_toNat_eq; simp]
    rw [Int32.toInt_ofNat_of_lt (by omega)]
  refine ⟨?_, ?_⟩
  · rw [Int32.lt_iff_toInt_lt, q, show (0 : Int32).toInt = 0 from rfl]; omega
  · rw [Int32.lt_iff_toInt_lt, q, show (65535 : Int32).toInt = 65535 from rfl]; omega
theorem own_i2c {c : Int32} (h : own_ch c) : c.toUInt32.toUInt16.toUInt32.toInt32 = c := by
  obtain ⟨h1, h2⟩ := h
  have q := nat_of h1
  rw [Int32.lt_iff_toInt_lt, show (65535 : Int32).toInt = 65535 from rfl] at h2
  have e : c = Int32.ofNat c.toNatClampNeg := (back32 h1).1.symm
  generalize c.toNatClampNeg = n at *
  subst e
  apply Int32.toBitVec_inj.1
  apply BitVec.eq_of_toNat_eq
  simp
  omega
theorem own_narc {c : Int32} (h : own_ch c) : nar .char c = c := own_i2c h
theorem own_c255 {c : Int32} (h : ¬ c < 0 ∧ ¬ (255 : Int32) < c) : c &&& 255 = c := by
  obtain ⟨h1, h2⟩ := h
  have q := nat_of h1
  rw [Int32.lt_iff_toInt_lt, show (255 : Int32).toInt = 255 from rfl] at h2
  have e : c = Int32.ofNat c.toNatClampNeg := (back32 h1).1.symm
  have k : ∀ j : Fin 256, Int32.ofNat j.1 &&& 255 = Int32.ofNat j.1 := by decide +kernel
  have k2 := k ⟨c.toNatClampNeg, by omega⟩
  rw [← e] at k2
  exact k2
theorem own_l1 {c : Int32} (h : ¬ c < 0 ∧ ¬ (255 : Int32) < c) : nar .char ((own_lb c &&& (255 : Int32)).toUInt32.toUInt16.toUInt32.toInt32) = c := by
  have h' := own_255 h
  rw [own_lb, own_b88, own_c255 h, own_i2c h']
  exact own_i2c h'
theorem own_l2' {c : Int32} (h : own_ch c) : (((own_u0 c &&& (255 : Int32)) <<< ((0 : Int32) &&& 31)) ||| ((own_u1 c &&& (255 : Int32)) <<< ((8 : Int32) &&& 31))) = c := by
  rw [own_u0, own_u1, own_b88, own_b88]
  obtain ⟨h1, h2⟩ := h
  have q := nat_of h1
  rw [Int32.lt_iff_toInt_lt, show (65535 : Int32).toInt = 65535 from rfl] at h2
  have e : c = Int32.ofNat c.toNatClampNeg := (back32 h1).1.symm
  generalize c.toNatClampNeg = n at *
  subst e
  apply Int32.toBitVec_inj.1
  have hn : n < 65536 := by omega
  have m : (BitVec.ofNat 32 n).msb = false := by
    rw [BitVec.msb_eq_decide]
    simp
    omega
  apply BitVec.eq_of_toNat_eq
  simp
  rw [BitVec.sshiftRight_eq_of_msb_false m]
  simp
  rw [Nat.mod_eq_of_lt (show n < 4294967296 by omega), Nat.shiftRight_eq_div_pow, show (255 : Nat) = 2 ^ 8 - 1 from rfl, Nat.and_two_pow_sub_one_eq_mod, Nat.and_two_pow_sub_one_eq_mod, Nat.shiftLeft_eq, Nat.mod_eq_of_lt (show n / 2 ^ 8 % 2 ^ 8 * 2 ^ 8 < 4294967296 by omega), Nat.or_comm, Nat.mul_comm, ← Nat.two_pow_add_eq_or_of_lt (show n % 2 ^ 8 < 2 ^ 8 by omega)]
  omega
theorem own_l2 {c : Int32} (h : own_ch c) : nar .char ((((own_u0 c &&& (255 : Int32)) <<< ((0 : Int32) &&& 31)) ||| ((own_u1 c &&& (255 : Int32)) <<< ((8 : Int32) &&& 31))).toUInt32.toUInt16.toUInt32.toInt32) = c := by
  rw [own_l2' h, own_i2c h]
  exact own_i2c h
theorem own_le8 {n : Nat} (h : n ≤ 8) : n = 0 ∨ n = 1 ∨ n = 2 ∨ n = 3 ∨ n = 4 ∨ n = 5 ∨ n = 6 ∨ n = 7 ∨ n = 8 := by omega
theorem own_ofN {i : Nat} (h : i ≤ 17) : (Int32.ofNat i).toNatClampNeg = i := by
  have q : ∀ j : Fin 18, (Int32.ofNat j.1).toNatClampNeg = j.1 := by decide
  exact q ⟨i, by omega⟩
theorem own_ofNge {i : Nat} (h : i ≤ 17) : ¬ (Int32.ofNat i < (0 : Int32)) := by
  have q : ∀ j : Fin 18, ¬ (Int32.ofNat j.1 < (0 : Int32)) := by decide
  exact q ⟨i, by omega⟩
theorem own_ofNlt {i n : Nat} (h : i < n) (hn : n ≤ 17) : Int32.ofNat i < Int32.ofNat n := by
  have q : ∀ j k : Fin 18, j.1 < k.1 → Int32.ofNat j.1 < Int32.ofNat k.1 := by decide
  exact q ⟨i, by omega⟩ ⟨n, by omega⟩ h
theorem own_ofN1 {i : Nat} (h : i ≤ 17) : Int32.ofNat i + (1 : Int32) = Int32.ofNat (i + 1) := by
  have q : ∀ j : Fin 18, Int32.ofNat j.1 + (1 : Int32) = Int32.ofNat (j.1 + 1) := by decide
  exact q ⟨i, by omega⟩
theorem own_shl {i : Nat} (h : i ≤ 8) : (Int32.ofNat i <<< ((1 : Int32) &&& 31)) = Int32.ofNat (2 * i) := by
  have q : ∀ j : Fin 9, (Int32.ofNat j.1 <<< ((1 : Int32) &&& 31)) = Int32.ofNat (2 * j.1) := by decide
  exact q ⟨i, by omega⟩
theorem own_usAt (cs : List Int32) {i : Nat} (h : i ≤ 17) : (own_us cs).getD (Int32.ofNat i).toNatClampNeg (.int 0) = .int (cs.getD i 0) := by
  rw [own_ofN h, own_us]
  simp only [List.getD_eq_getElem?_getD, List.getElem?_map]
  cases cs[i]? <;> rfl
theorem own_uAt : ∀ (cs : List Int32) (j : Nat), j < cs.length → (own_u cs).getD (2 * j) (.int 0) = .int (own_u0 (cs.getD j 0)) ∧ (own_u cs).getD (2 * j + 1) (.int 0) = .int (own_u1 (cs.getD j 0))
  | [], _, h => absurd h (Nat.not_lt_zero _)
  | _ :: _, 0, _ => ⟨rfl, rfl⟩
  | _ :: cs, j + 1, h => own_uAt cs j (Nat.lt_of_succ_lt_succ h)
theorem own_least (P : Nat → Prop) : ∀ n, (∃ j, j < n ∧ P j) → ∃ j, j < n ∧ P j ∧ ∀ i, i < j → ¬ P i
  | 0, ⟨_, h, _⟩ => absurd h (Nat.not_lt_zero _)
  | n + 1, ⟨j, hj, hp⟩ => by
    by_cases q : ∃ i, i < n ∧ P i
    · obtain ⟨i, a, b, c⟩ := own_least P n q
      exact ⟨i, by omega, b, c⟩
    · have e : j = n := by
        have : ¬ j < n := fun h => q ⟨j, h, hp⟩
        omega
      exact ⟨n, by omega, e ▸ hp, fun i hi hp' => q ⟨i, hi, hp'⟩⟩
def own_fill (cs : List Int32) : Nat → Nat → List Value → List Value
  | _, 0, vs => vs
  | i, k + 1, vs => own_fill cs (i + 1) k (vs.set i (.int (own_lb (cs.getD i 0))))
def own_fil2 (cs : List Int32) : Nat → Nat → List Value → List Value
  | _, 0, vs => vs
  | i, k + 1, vs => own_fil2 cs (i + 1) k ((vs.set (2 * i) (.int (own_u0 (cs.getD i 0)))).set (2 * i + 1) (.int (own_u1 (cs.getD i 0))))
theorem own_fill_all (cs : List Int32) (h : cs.length ≤ 8) : own_fill cs 0 cs.length (own_zs (Int32.ofNat cs.length)) = own_l cs := by
  rw [own_zs, own_ofN (by omega)]
  match cs, h with
  | [], _ => rfl
  | [_], _ => rfl
  | [_, _], _ => rfl
  | [_, _, _], _ => rfl
  | [_, _, _, _], _ => rfl
  | [_, _, _, _, _], _ => rfl
  | [_, _, _, _, _, _], _ => rfl
  | [_, _, _, _, _, _, _], _ => rfl
  | [_, _, _, _, _, _, _, _], _ => rfl
  | _ :: _ :: _ :: _ :: _ :: _ :: _ :: _ :: _ :: _, h => simp at h
theorem own_fil2_all (cs : List Int32) (h : cs.length ≤ 8) : own_fil2 cs 0 cs.length (own_zs (Int32.ofNat cs.length <<< ((1 : Int32) &&& 31))) = own_u cs := by
  rw [own_zs, own_shl h, own_ofN (by omega)]
  match cs, h with
  | [], _ => rfl
  | [_], _ => rfl
  | [_, _], _ => rfl
  | [_, _, _], _ => rfl
  | [_, _, _, _], _ => rfl
  | [_, _, _, _, _], _ => rfl
  | [_, _, _, _, _, _], _ => rfl
  | [_, _, _, _, _, _, _], _ => rfl
  | [_, _, _, _, _, _, _, _], _ => rfl
  | _ :: _ :: _ :: _ :: _ :: _ :: _ :: _ :: _ :: _, h => simp at h
/-- somewhere a char above 255: yy is its place -/
def own_fst (cs : List Int32) (yy : Int32) : Prop := ∃ j, j < cs.length ∧ yy = Int32.ofNat j ∧ (255 : Int32) < cs.getD j 0
theorem own_fst_ne {cs : List Int32} {yy nn : Int32} (hnn : nn = Int32.ofNat cs.length) (h8 : cs.length ≤ 8) (h : own_fst cs yy) : ¬ (yy = nn) := by
  obtain ⟨j, hj, rfl, -⟩ := h
  subst hnn
  intro q
  have q2 := congrArg Int32.toNatClampNeg q
  rw [own_ofN (by omega), own_ofN (by omega)] at q2
  omega
theorem d23_0 : decode jdk_41_method_11_code 0 = .ok (.iload_n 0, 1) := by decide +kernel
theorem d23_1 : decode jdk_41_method_11_code 1 = .ok (.ifCond .lt 8, 3) := by decide +kernel
theorem d23_4 : decode jdk_41_method_11_code 4 = .ok (.iload_n 0, 1) := by decide +kernel
theorem d23_5 : decode jdk_41_method_11_code 5 = .ok (.iload_n 1, 1) := by decide +kernel
theorem d23_6 : decode jdk_41_method_11_code 6 = .ok (.if_icmp .lt 10, 3) := by decide +kernel
theorem d23_16 : decode jdk_41_method_11_code 16 = .ok (.iload_n 0, 1) := by decide +kernel
theorem d23_17 : decode jdk_41_method_11_code 17 = .ok (.ireturn, 1) := by decide +kernel
def Q23n (Z : State) (p1 p2 : Int32) (h0 : Heap) (n0 : Nat) (v : Option Value) (h : Heap) (L : List Loc) : Prop := v = some (.int p1) ∧ Fr n0 L ∧ h = h0
theorem ef_23aan (m : MethodId) (x0 : Int32) (x1 : Int32) : entryFrame m #[(.int x0), (.int x1), .null] 3 = mkF m 0 #[.val (.int x0), .val (.int x1), .val .null] [] := by first | (simp [entryFrame, mkF, argsToLocals, Value.category]; done) | rfl
/-- a narrow contract: the body y, called with as at heap h0, returns what Q says -/
def own_C (l : Launch) (Z : State) (y : MethodName) (b : ByteArray) (k : Nat) (r : Option FieldType) (ws : List Jvm.Cond) (R : Room) (as : Array Value) (h0 : Heap) (Q : Option Value → Heap → List Loc → Prop) : Prop := MetFree l y (head1 (Jvm.Cond.code y b k r :: ws) R) (fun a U => a = as ∧ Z.Warmed39 U.vm ∧ U.heap = h0) (fun _ _ _ _ _ => True) (fun _ U o U' => ∃ v L, o = .returned v ∧ Q v U'.heap L ∧ FrameEnd U o U' L R.cells R.slots)
theorem pnc_jdk_internal_util_Preconditions : plainName "jdk/internal/util/Preconditions" = true := by first | (simp [plainName, overriddenIn]; done) | decide +kernel
theorem rm23n (l : Launch) (Z : State) (a0 : Array Value) (hw : ∀ d ∈ tables_1, d.before a0 Z = true) (ws : List Jvm.Cond) (p1 p2 : Int32) (h0 : Heap) (n0 : Nat) (O0 : Old Z n0 h0) (hc1 : ¬ (p1 < (0 : Int32))) (hc6 : p1 < p2) :
    own_C l Z (⟨"jdk/internal/util/Preconditions", "checkIndex", "(IILjava/util/function/BiFunction;)I"⟩ : MethodName) jdk_41_method_11_code 3 (some .int) ws ({ frames := 0, cells := 0, slots := 0, locals := 0 } : Room) #[(.int p1), (.int p2), .null] h0 (Q23n Z p1 p2 h0 n0) := by
  refine MetFree.of_bodySF (plainFor_of_name pnc_jdk_internal_util_Preconditions) hisR ?_
  intro p e s m args below meth c s₁ Bd hml0 hP hK
  obtain ⟨rfl, hZ, hh⟩ := hP
  have hx := Bd.exec
  have hby := Bd.bytes
  have hml : c.maxLocals = 3 := hml0
  have hown : s.vm.findClass "jdk/internal/util/Preconditions" = some m.cls := findClass_of_methodNamed Bd.named
  have hnm := (name_of_methodNamed Bd.named Bd.method).1
  have X0 : Stand p l e ({ frames := 0, cells := 0, slots := 0, locals := 0 } : Room) s m #[(.int p1), (.int p2), .null] below meth c s₁ [] 0 0 := Stand.of_body Bd
  have e0 : s₁.heap = h0 := by rw [← hh, Bd.state]; rfl
  have N0 := Fr.nil n0
  have Z0 : n0 ≤ h0.size := O0.1 ▸ O0.2.1
  have pre0 : ∀ t, Steps p.tables e below (s₁.setTop (mkF m 0 #[.val (.int p1), .val (.int p2), .val .null] [])) t → Steps p.tables e below (s₁.setTop (entryFrame m #[(.int p1), (.int p2), .null] 3)) t := fun t k => castTop (ef_23aan m p1 p2) k
  obtain ⟨fs, hr, hrun, hended, hW, hsame⟩ := X0.leave (v := some (.int p1)) (fun h => by rw [Bd.returns] at h; cases h)
  refine ⟨_, _, pre0 _ ?_, hrun, hended, _, _, rfl, ?_, ⟨_, rfl⟩, hW, hsame.mono (by decide) (by decide)⟩
  · show Steps p.tables e below (s₁.setTop (mkF m 0 #[.val (.int p1), .val (.int p2), .val .null] [])) _
    refine XS.iloadN X0.here hx rfl (hb hby d23_0) rfl ?_
    refine XS.ifNo X0.here hx rfl (hb hby d23_1) rfl ((if0 _ _).trans (flt hc1).1) ?_
    refine XS.iloadN X0.here hx rfl (hb hby d23_4) rfl ?_
    refine XS.iloadN X0.here hx rfl (hb hby d23_5) rfl ?_
    refine XS.icmpYes X0.here hx rfl (pc0 := 6) (pc' := 16) rfl (hb hby d23_6) rfl (tlt hc6).1 (by decide) (by decide) ?_
    refine XS.iloadN X0.here hx rfl (hb hby d23_16) rfl ?_
    exact own_retI X0 hx Bd.returns (hb hby d23_17) hr
  · show Q23n Z p1 p2 h0 n0 _ s₁.heap _
    rw [e0]
    exact ⟨rfl, N0, rfl⟩
def Q23r (Z : State) (p1 p2 : Int32) (a3 : Addr) (h0 : Heap) (n0 : Nat) (v : Option Value) (h : Heap) (L : List Loc) : Prop := v = some (.int p1) ∧ Fr n0 L ∧ h = h0
theorem ef_23 (m : MethodId) (x0 : Int32) (x1 : Int32) (x2 : Addr) : entryFrame m #[(.int x0), (.int x1), (.ref x2)] 3 = mkF m 0 #[.val (.int x0), .val (.int x1), .val (.ref x2)] [] := by first | (simp [entryFrame, mkF, argsToLocals, Value.category]; done) | rfl
theorem rm23r (l : Launch) (Z : State) (a0 : Array Value) (hw : ∀ d ∈ tables_1, d.before a0 Z = true) (ws : List Jvm.Cond) (p1 p2 : Int32) (a3 : Addr) (h0 : Heap) (n0 : Nat) (O0 : Old Z n0 h0) (hc1 : ¬ (p1 < (0 : Int32))) (hc6 : p1 < p2) :
    own_C l Z (⟨"jdk/internal/util/Preconditions", "checkIndex", "(IILjava/util/function/BiFunction;)I"⟩ : MethodName) jdk_41_method_11_code 3 (some .int) ws ({ frames := 0, cells := 0, slots := 0, locals := 0 } : Room) #[(.int p1), (.int p2), (.ref a3)] h0 (Q23r Z p1 p2 a3 h0 n0) := by
  refine MetFree.of_bodySF (plainFor_of_name pnc_jdk_internal_util_Preconditions) hisR ?_
  intro p e s m args below meth c s₁ Bd hml0 hP hK
  obtain ⟨rfl, hZ, hh⟩ := hP
  have hx := Bd.exec
  have hby := Bd.bytes
  have hml : c.maxLocals = 3 := hml0
  have hown : s.vm.findClass "jdk/internal/util/Preconditions" = some m.cls := findClass_of_methodNamed Bd.named
  have hnm := (name_of_methodNamed Bd.named Bd.method).1
  have X0 : Stand p l e ({ frames := 0, cells := 0, slots := 0, locals := 0 } : Room) s m #[(.int p1), (.int p2), (.ref a3)] below meth c s₁ [] 0 0 := Stand.of_body Bd
  have e0 : s₁.heap = h0 := by rw [← hh, Bd.state]; rfl
  have N0 := Fr.nil n0
  have Z0 : n0 ≤ h0.size := O0.1 ▸ O0.2.1
  have pre0 : ∀ t, Steps p.tables e below (s₁.setTop (mkF m 0 #[.val (.int p1), .val (.int p2), .val (.ref a3)] [])) t → Steps p.tables e below (s₁.setTop (entryFrame m #[(.int p1), (.int p2), (.ref a3)] 3)) t := fun t k => castTop (ef_23 m p1 p2 a3) k
  obtain ⟨fs, hr, hrun, hended, hW, hsame⟩ := X0.leave (v := some (.int p1)) (fun h => by rw [Bd.returns] at h; cases h)
  refine ⟨_, _, pre0 _ ?_, hrun, hended, _, _, rfl, ?_, ⟨_, rfl⟩, hW, hsame.mono (by decide) (by decide)⟩
  · show Steps p.tables e below (s₁.setTop (mkF m 0 #[.val (.int p1), .val (.int p2), .val (.ref a3)] [])) _
    refine XS.iloadN X0.here hx rfl (hb hby d23_0) rfl ?_
    refine XS.ifNo X0.here hx rfl (hb hby d23_1) rfl ((if0 _ _).trans (flt hc1).1) ?_
    refine XS.iloadN X0.here hx rfl (hb hby d23_4) rfl ?_
    refine XS.iloadN X0.here hx rfl (hb hby d23_5) rfl ?_
    refine XS.icmpYes X0.here hx rfl (pc0 := 6) (pc' := 16) rfl (hb hby d23_6) rfl (tlt hc6).1 (by decide) (by decide) ?_
    refine XS.iloadN X0.here hx rfl (hb hby d23_16) rfl ?_
    exact own_retI X0 hx Bd.returns (hb hby d23_17) hr
  · show Q23r Z p1 p2 a3 h0 n0 _ s₁.heap _
    rw [e0]
    exact ⟨rfl, N0, rfl⟩
theorem d22_0 : decode jdk_42_method_155_code 0 = .ok (.iload_n 0, 1) := by decide +kernel
theorem d22_1 : decode jdk_42_method_155_code 1 = .ok (.iload_n 1, 1) := by decide +kernel
theorem d22_2 : decode jdk_42_method_155_code 2 = .ok (.getstatic 1053, 3) := by decide +kernel
theorem own_w {a0 : Array Value} {Z : State} {d : Jvm.Cond} (hw : ∀ d ∈ tables_1, d.before a0 Z = true) (i : Nat) (h : tables_1[i]? = some d) : d.before a0 Z = true := hw d (List.mem_of_getElem? h)
theorem d22_5 : decode jdk_42_method_155_code 5 = .ok (.invokestatic 1059, 3) := by decide +kernel
theorem pd_12 : parseMethodDescriptor "(IILjava/util/function/BiFunction;)I" = some ⟨[.int, .int, (.object "java/util/function/BiFunction")], some .int⟩ := by decide +kernel
theorem d22_8 : decode jdk_42_method_155_code 8 = .ok (.pop, 1) := by decide +kernel
theorem d22_9 : decode jdk_42_method_155_code 9 = .ok (.return_, 1) := by decide +kernel
def Q22n (Z : State) (p1 p2 : Int32) (h0 : Heap) (n0 : Nat) (v : Option Value) (h : Heap) (L : List Loc) : Prop := v = none ∧ Fr n0 L ∧ h = h0
theorem ef_22 (m : MethodId) (x0 : Int32) (x1 : Int32) : entryFrame m #[(.int x0), (.int x1)] 2 = mkF m 0 #[.val (.int x0), .val (.int x1)] [] := by first | (simp [entryFrame, mkF, argsToLocals, Value.category]; done) | rfl
theorem pnc_java_lang_String : plainName "java/lang/String" = true := by first | (simp [plainName, overriddenIn]; done) | decide +kernel
theorem rm22n (l : Launch) (Z : State) (a0 : Array Value) (hw : ∀ d ∈ tables_1, d.before a0 Z = true) (ws : List Jvm.Cond) (p1 p2 : Int32) (h0 : Heap) (n0 : Nat) (O0 : Old Z n0 h0) (S_SIOOBE_FORMATTER : Sta Z Z.heap "jdk/internal/util/Preconditions" "SIOOBE_FORMATTER" "Ljava/util/function/BiFunction;" .null) (h5_hc1 : ¬ (p1 < (0 : Int32))) (h5_hc6 : p1 < p2) :
    own_C l Z (⟨"java/lang/String", "checkIndex", "(II)V"⟩ : MethodName) jdk_42_method_155_code 2 none ws ({ frames := 2, cells := 0, slots := 0, locals := 40 } : Room) #[(.int p1), (.int p2)] h0 (Q22n Z p1 p2 h0 n0) := by
  refine MetFree.of_bodySF (plainFor_of_name pnc_java_lang_String) hisR ?_
  intro p e s m args below meth c s₁ Bd hml0 hP hK
  obtain ⟨rfl, hZ, hh⟩ := hP
  have hx := Bd.exec
  have hby := Bd.bytes
  have hml : c.maxLocals = 2 := hml0
  have hown : s.vm.findClass "java/lang/String" = some m.cls := findClass_of_methodNamed Bd.named
  have hnm := (name_of_methodNamed Bd.named Bd.method).1
  have X0 : Stand p l e ({ frames := 2, cells := 0, slots := 0, locals := 40 } : Room) s m #[(.int p1), (.int p2)] below meth c s₁ [] 0 0 := Stand.of_body Bd
  have e0 : s₁.heap = h0 := by rw [← hh, Bd.state]; rfl
  have N0 := Fr.nil n0
  have Z0 : n0 ≤ h0.size := O0.1 ▸ O0.2.1
  have pre0 : ∀ t, Steps p.tables e below (s₁.setTop (mkF m 0 #[.val (.int p1), .val (.int p2)] [])) t → Steps p.tables e below (s₁.setTop (entryFrame m #[(.int p1), (.int p2)] 2)) t := fun t k => castTop (ef_22 m p1 p2) k
  obtain ⟨T3, X3, e3, st3⟩ := getS2 X0 hx hZ hown (host := "") (Or.inl (own_w hw 93 rfl)) Via.refl e0 (S_SIOOBE_FORMATTER.ext O0.2) (g := (mkF m 2 #[.val (.int p1), .val (.int p2)] [(.int p2), (.int p1)])) rfl (hb hby d22_2)
  obtain ⟨vr4, _, ⟨T4, L4, k4, n4⟩, -, X4, ⟨Lc4, hQ4, l4, y4, z4⟩, st4⟩ := Jvm.LawKit.callS X3 hx (y := (⟨"jdk/internal/util/Preconditions", "checkIndex", "(IILjava/util/function/BiFunction;)I"⟩ : MethodName)) hown (mvT hZ (own_w hw 95 rfl)) (mvT hZ (own_w hw 96 rfl)) (mvT hZ (own_w hw 94 rfl)) (mvT hZ (own_w hw 97 rfl)) (by decide) (backOf (W := 0) (rm23n l Z a0 hw [] p1 p2 h0 n0 O0 h5_hc1 h5_hc6) hZ (own_w hw 97 rfl) (own_w hw 94 rfl) (by decide) (by decide)) (g := (mkF m 5 #[.val (.int p1), .val (.int p2)] [.null, (.int p2), (.int p1)])) rfl (by rw [hml]; rfl) (argsL := [(.int p1), (.int p2), .null]) (rest := []) (lenOf pd_12 rfl) rfl (by show 2 * 0 + _ ≤ _; exact Nat.le_of_eq rfl) (hb hby d22_5) (fun _ _ => ⟨rfl, e3, (by decide : 0 + 0 ≤ _), (by decide : 0 + 0 ≤ _)⟩)
  dsimp only [Pt.U, Pt.locs, Pt.cells, Pt.slots] at X4 l4 y4 z4 st4 hQ4
  subst l4 y4 z4
  obtain ⟨rfl, N4q, e4⟩ := hQ4
  have N4 := Fr.app N0 N4q
  replace X4 := X4.more (cells' := 0) (slots' := 0) (by decide) (by decide)
  obtain ⟨fs, hr, hrun, hended, hW, hsame⟩ := X4.leave (v := none) (fun _ => rfl)
  refine ⟨_, _, pre0 _ ?_, hrun, hended, _, _, rfl, ?_, ⟨_, rfl⟩, hW, hsame.mono (by decide) (by decide)⟩
  · show Steps p.tables e below (s₁.setTop (mkF m 0 #[.val (.int p1), .val (.int p2)] [])) _
    refine XS.iloadN X0.here hx rfl (hb hby d22_0) rfl ?_
    refine XS.iloadN X0.here hx rfl (hb hby d22_1) rfl ?_
    refine st3 _ ?_
    refine st4 _ ?_
    refine XS.pop X4.here hx rfl (hb hby d22_8) rfl rfl ?_
    exact X4.returnOut hx Bd.returns (hb hby d22_9) hr
  · show Q22n Z p1 p2 h0 n0 _ T4.heap _
    rw [e4]
    exact ⟨rfl, N4, rfl⟩
def Q22r (Z : State) (p1 p2 : Int32) (wF : Addr) (h0 : Heap) (n0 : Nat) (v : Option Value) (h : Heap) (L : List Loc) : Prop := v = none ∧ Fr n0 L ∧ h = h0
theorem rm22r (l : Launch) (Z : State) (a0 : Array Value) (hw : ∀ d ∈ tables_1, d.before a0 Z = true) (ws : List Jvm.Cond) (p1 p2 : Int32) (wF : Addr) (h0 : Heap) (n0 : Nat) (O0 : Old Z n0 h0) (S_SIOOBE_FORMATTER : Sta Z Z.heap "jdk/internal/util/Preconditions" "SIOOBE_FORMATTER" "Ljava/util/function/BiFunction;" (.ref wF)) (h5_hc1 : ¬ (p1 < (0 : Int32))) (h5_hc6 : p1 < p2) :
    own_C l Z (⟨"java/lang/String", "checkIndex", "(II)V"⟩ : MethodName) jdk_42_method_155_code 2 none ws ({ frames := 2, cells := 0, slots := 0, locals := 40 } : Room) #[(.int p1), (.int p2)] h0 (Q22r Z p1 p2 wF h0 n0) := by
  refine MetFree.of_bodySF (plainFor_of_name pnc_java_lang_String) hisR ?_
  intro p e s m args below meth c s₁ Bd hml0 hP hK
  obtain ⟨rfl, hZ, hh⟩ := hP
  have hx := Bd.exec
  have hby := Bd.bytes
  have hml : c.maxLocals = 2 := hml0
  have hown : s.vm.findClass "java/lang/String" = some m.cls := findClass_of_methodNamed Bd.named
  have hnm := (name_of_methodNamed Bd.named Bd.method).1
  have X0 : Stand p l e ({ frames := 2, cells := 0, slots := 0, locals := 40 } : Room) s m #[(.int p1), (.int p2)] below meth c s₁ [] 0 0 := Stand.of_body Bd
  have e0 : s₁.heap = h0 := by rw [← hh, Bd.state]; rfl
  have N0 := Fr.nil n0
  have Z0 : n0 ≤ h0.size := O0.1 ▸ O0.2.1
  have pre0 : ∀ t, Steps p.tables e below (s₁.setTop (mkF m 0 #[.val (.int p1), .val (.int p2)] [])) t → Steps p.tables e below (s₁.setTop (entryFrame m #[(.int p1), (.int p2)] 2)) t := fun t k => castTop (ef_22 m p1 p2) k
  obtain ⟨T3, X3, e3, st3⟩ := getS2 X0 hx hZ hown (host := "") (Or.inl (own_w hw 93 rfl)) Via.refl e0 (S_SIOOBE_FORMATTER.ext O0.2) (g := (mkF m 2 #[.val (.int p1), .val (.int p2)] [(.int p2), (.int p1)])) rfl (hb hby d22_2)
  obtain ⟨vr4, _, ⟨T4, L4, k4, n4⟩, -, X4, ⟨Lc4, hQ4, l4, y4, z4⟩, st4⟩ := Jvm.LawKit.callS X3 hx (y := (⟨"jdk/internal/util/Preconditions", "checkIndex", "(IILjava/util/function/BiFunction;)I"⟩ : MethodName)) hown (mvT hZ (own_w hw 95 rfl)) (mvT hZ (own_w hw 96 rfl)) (mvT hZ (own_w hw 94 rfl)) (mvT hZ (own_w hw 97 rfl)) (by decide) (backOf (W := 0) (rm23r l Z a0 hw [] p1 p2 wF h0 n0 O0 h5_hc1 h5_hc6) hZ (own_w hw 97 rfl) (own_w hw 94 rfl) (by decide) (by decide)) (g := (mkF m 5 #[.val (.int p1), .val (.int p2)] [(.ref wF), (.int p2), (.int p1)])) rfl (by rw [hml]; rfl) (argsL := [(.int p1), (.int p2), (.ref wF)]) (rest := []) (lenOf pd_12 rfl) rfl (by show 2 * 0 + _ ≤ _; exact Nat.le_of_eq rfl) (hb hby d22_5) (fun _ _ => ⟨rfl, e3, (by decide : 0 + 0 ≤ _), (by decide : 0 + 0 ≤ _)⟩)
  dsimp only [Pt.U, Pt.locs, Pt.cells, Pt.slots] at X4 l4 y4 z4 st4 hQ4
  subst l4 y4 z4
  obtain ⟨rfl, N4q, e4⟩ := hQ4
  have N4 := Fr.app N0 N4q
  replace X4 := X4.more (cells' := 0) (slots' := 0) (by decide) (by decide)
  obtain ⟨fs, hr, hrun, hended, hW, hsame⟩ := X4.leave (v := none) (fun _ => rfl)
  refine ⟨_, _, pre0 _ ?_, hrun, hended, _, _, rfl, ?_, ⟨_, rfl⟩, hW, hsame.mono (by decide) (by decide)⟩
  · show Steps p.tables e below (s₁.setTop (mkF m 0 #[.val (.int p1), .val (.int p2)] [])) _
    refine XS.iloadN X0.here hx rfl (hb hby d22_0) rfl ?_
    refine XS.iloadN X0.here hx rfl (hb hby d22_1) rfl ?_
    refine st3 _ ?_
    refine st4 _ ?_
    refine XS.pop X4.here hx rfl (hb hby d22_8) rfl rfl ?_
    exact X4.returnOut hx Bd.returns (hb hby d22_9) hr
  · show Q22r Z p1 p2 wF h0 n0 _ T4.heap _
    rw [e4]
    exact ⟨rfl, N4, rfl⟩
def Q22 (Z : State) (p1 p2 : Int32) (fm : Value) (h0 : Heap) (n0 : Nat) (v : Option Value) (h : Heap) (L : List Loc) : Prop := v = none ∧ Fr n0 L ∧ h = h0
theorem rm22 (l : Launch) (Z : State) (a0 : Array Value) (hw : ∀ d ∈ tables_1, d.before a0 Z = true) (ws : List Jvm.Cond) (p1 p2 : Int32) (fm : Value) (h0 : Heap) (n0 : Nat) (O0 : Old Z n0 h0) (h5_hc1 : ¬ (p1 < (0 : Int32))) (h5_hc6 : p1 < p2) (S_SIOOBE_FORMATTER : Sta Z Z.heap "jdk/internal/util/Preconditions" "SIOOBE_FORMATTER" "Ljava/util/function/BiFunction;" fm) (hrfm : fm.isRef = true) :
    own_C l Z (⟨"java/lang/String", "checkIndex", "(II)V"⟩ : MethodName) jdk_42_method_155_code 2 none ws ({ frames := 2, cells := 0, slots := 0, locals := 40 } : Room) #[(.int p1), (.int p2)] h0 (Q22 Z p1 p2 fm h0 n0) := by
  rcases ref_cases hrfm with rfl | ⟨wF, rfl⟩
  · exact rm22n l Z a0 hw ws p1 p2 h0 n0 O0 S_SIOOBE_FORMATTER h5_hc1 h5_hc6
  · exact rm22r l Z a0 hw ws p1 p2 wF h0 n0 O0 S_SIOOBE_FORMATTER h5_hc1 h5_hc6
theorem d10_0 : decode jdk_52_method_3_code 0 = .ok (.iload_n 0, 1) := by decide +kernel
theorem d10_1 : decode jdk_52_method_3_code 1 = .ok (.ifCond .ge 11, 3) := by decide +kernel
theorem d10_12 : decode jdk_52_method_3_code 12 = .ok (.iload_n 0, 1) := by decide +kernel
theorem d10_13 : decode jdk_52_method_3_code 13 = .ok (.ldc 20, 2) := by decide +kernel
theorem d10_15 : decode jdk_52_method_3_code 15 = .ok (.if_icmp .lt 40, 3) := by decide +kernel
theorem d10_55 : decode jdk_52_method_3_code 55 = .ok (.iload_n 0, 1) := by decide +kernel
theorem d10_56 : decode jdk_52_method_3_code 56 = .ok (.iconst 1, 1) := by decide +kernel
theorem d10_57 : decode jdk_52_method_3_code 57 = .ok (.ishl, 1) := by decide +kernel
theorem d10_58 : decode jdk_52_method_3_code 58 = .ok (.ireturn, 1) := by decide +kernel
def Q10 (Z : State) (p1 : Int32) (h0 : Heap) (n0 : Nat) (v : Option Value) (h : Heap) (L : List Loc) : Prop := v = some (.int (p1 <<< ((1 : Int32) &&& 31))) ∧ Fr n0 L ∧ h = h0
theorem ef_10 (m : MethodId) (x0 : Int32) : entryFrame m #[(.int x0)] 1 = mkF m 0 #[.val (.int x0)] [] := by first | (simp [entryFrame, mkF, argsToLocals, Value.category]; done) | rfl
theorem pnc_java_lang_StringUTF16 : plainName "java/lang/StringUTF16" = true := by first | (simp [plainName, overriddenIn]; done) | decide +kernel
theorem rm10 (l : Launch) (Z : State) (a0 : Array Value) (hw : ∀ d ∈ tables_1, d.before a0 Z = true) (ws : List Jvm.Cond) (p1 : Int32) (h0 : Heap) (n0 : Nat) (O0 : Old Z n0 h0) (hc1 : ¬ (p1 < (0 : Int32))) (hc15 : p1 < (1073741823 : Int32)) :
    own_C l Z (⟨"java/lang/StringUTF16", "newBytesLength", "(I)I"⟩ : MethodName) jdk_52_method_3_code 1 (some .int) ws ({ frames := 0, cells := 0, slots := 0, locals := 0 } : Room) #[(.int p1)] h0 (Q10 Z p1 h0 n0) := by
  refine MetFree.of_bodySF (plainFor_of_name pnc_java_lang_StringUTF16) hisR ?_
  intro p e s m args below meth c s₁ Bd hml0 hP hK
  obtain ⟨rfl, hZ, hh⟩ := hP
  have hx := Bd.exec
  have hby := Bd.bytes
  have hml : c.maxLocals = 1 := hml0
  have hown : s.vm.findClass "java/lang/StringUTF16" = some m.cls := findClass_of_methodNamed Bd.named
  have hnm := (name_of_methodNamed Bd.named Bd.method).1
  have X0 : Stand p l e ({ frames := 0, cells := 0, slots := 0, locals := 0 } : Room) s m #[(.int p1)] below meth c s₁ [] 0 0 := Stand.of_body Bd
  have e0 : s₁.heap = h0 := by rw [← hh, Bd.state]; rfl
  have N0 := Fr.nil n0
  have Z0 : n0 ≤ h0.size := O0.1 ▸ O0.2.1
  have pre0 : ∀ t, Steps p.tables e below (s₁.setTop (mkF m 0 #[.val (.int p1)] [])) t → Steps p.tables e below (s₁.setTop (entryFrame m #[(.int p1)] 1)) t := fun t k => castTop (ef_10 m p1) k
  obtain ⟨fs, hr, hrun, hended, hW, hsame⟩ := X0.leave (v := some (.int (p1 <<< ((1 : Int32) &&& 31)))) (fun h => by rw [Bd.returns] at h; cases h)
  refine ⟨_, _, pre0 _ ?_, hrun, hended, _, _, rfl, ?_, ⟨_, rfl⟩, hW, hsame.mono (by decide) (by decide)⟩
  · show Steps p.tables e below (s₁.setTop (mkF m 0 #[.val (.int p1)] [])) _
    refine XS.iloadN X0.here hx rfl (hb hby d10_0) rfl ?_
    refine XS.ifYes X0.here hx rfl (pc0 := 1) (pc' := 12) rfl (hb hby d10_1) rfl ((if0 _ _).trans (flt hc1).2.1) (by decide) (by decide) ?_
    refine XS.iloadN X0.here hx rfl (hb hby d10_12) rfl ?_
    refine X0.ldcInt hx hown (mvT hZ (own_w hw 40 rfl)) (g := (mkF m 13 #[.val (.int p1)] [(.int p1)])) rfl (hb hby d10_13) _ ?_
    refine XS.icmpYes X0.here hx rfl (pc0 := 15) (pc' := 55) rfl (hb hby d10_15) rfl (tlt hc15).1 (by decide) (by decide) ?_
    refine XS.iloadN X0.here hx rfl (hb hby d10_55) rfl ?_
    refine XS.iconst X0.here hx rfl (hb hby d10_56) ?_
    refine XS.ishl X0.here hx rfl (hb hby d10_57) rfl ?_
    exact own_retI X0 hx Bd.returns (hb hby d10_58) hr
  · show Q10 Z p1 h0 n0 _ s₁.heap _
    rw [e0]
    exact ⟨rfl, N0, rfl⟩
theorem d9_0 : decode jdk_52_method_2_code 0 = .ok (.iload_n 0, 1) := by decide +kernel
theorem d9_1 : decode jdk_52_method_2_code 1 = .ok (.invokestatic 11, 3) := by decide +kernel
theorem pd_8 : parseMethodDescriptor "(I)I" = some ⟨[.int], some .int⟩ := by decide +kernel
theorem d9_4 : decode jdk_52_method_2_code 4 = .ok (.newarray .byte, 2) := by decide +kernel
theorem d9_6 : decode jdk_52_method_2_code 6 = .ok (.areturn, 1) := by decide +kernel
def Q9 (Z : State) (p1 : Int32) (h0 : Heap) (n0 : Nat) (v : Option Value) (h : Heap) (L : List Loc) : Prop := ∃ b3 : Addr, ∃ k3 : ClassId, v = some (.ref b3) ∧ Fr n0 L ∧ Keep h0 h [] ∧ h0.size ≤ b3 ∧ Arv Z h b3 k3 .byte (p1 <<< ((1 : Int32) &&& 31)) (own_zs (p1 <<< ((1 : Int32) &&& 31))) (.int 0)
theorem ef_9 (m : MethodId) (x0 : Int32) : entryFrame m #[(.int x0)] 1 = mkF m 0 #[.val (.int x0)] [] := by first | (simp [entryFrame, mkF, argsToLocals, Value.category]; done) | rfl
theorem rm9 (l : Launch) (Z : State) (a0 : Array Value) (hw : ∀ d ∈ tables_1, d.before a0 Z = true) (ws : List Jvm.Cond) (p1 : Int32) (h0 : Heap) (n0 : Nat) (O0 : Old Z n0 h0) (h1_hc1 : ¬ (p1 < (0 : Int32))) (h1_hc15 : p1 < (1073741823 : Int32)) (hng4 : ¬ ((p1 <<< ((1 : Int32) &&& 31)) < (0 : Int32))) (hcap4 : ((p1 <<< ((1 : Int32) &&& 31))).toNatClampNeg ≤ 16) :
    own_C l Z (⟨"java/lang/StringUTF16", "newBytesFor", "(I)[B"⟩ : MethodName) jdk_52_method_2_code 1 (some (.array .byte)) ws ({ frames := 1, cells := 1, slots := 16, locals := 12 } : Room) #[(.int p1)] h0 (Q9 Z p1 h0 n0) := by
  refine MetFree.of_bodySF (plainFor_of_name pnc_java_lang_StringUTF16) hisR ?_
  intro p e s m args below meth c s₁ Bd hml0 hP hK
  obtain ⟨rfl, hZ, hh⟩ := hP
  have hx := Bd.exec
  have hby := Bd.bytes
  have hml : c.maxLocals = 1 := hml0
  have hown : s.vm.findClass "java/lang/StringUTF16" = some m.cls := findClass_of_methodNamed Bd.named
  have hnm := (name_of_methodNamed Bd.named Bd.method).1
  have X0 : Stand p l e ({ frames := 1, cells := 1, slots := 16, locals := 12 } : Room) s m #[(.int p1)] below meth c s₁ [] 0 0 := Stand.of_body Bd
  have e0 : s₁.heap = h0 := by rw [← hh, Bd.state]; rfl
  have N0 := Fr.nil n0
  have Z0 : n0 ≤ h0.size := O0.1 ▸ O0.2.1
  have pre0 : ∀ t, Steps p.tables e below (s₁.setTop (mkF m 0 #[.val (.int p1)] [])) t → Steps p.tables e below (s₁.setTop (entryFrame m #[(.int p1)] 1)) t := fun t k => castTop (ef_9 m p1) k
  obtain ⟨vr2, _, ⟨T2, L2, k2, n2⟩, -, X2, ⟨Lc2, hQ2, l2, y2, z2⟩, st2⟩ := Jvm.LawKit.callS X0 hx (y := (⟨"java/lang/StringUTF16", "newBytesLength", "(I)I"⟩ : MethodName)) hown (mvT hZ (own_w hw 37 rfl)) (mvT hZ (own_w hw 38 rfl)) (mvT hZ (own_w hw 25 rfl)) (mvT hZ (own_w hw 39 rfl)) (by decide) (backOf (W := 0) (rm10 l Z a0 hw [] p1 h0 n0 O0 h1_hc1 h1_hc15) hZ (own_w hw 39 rfl) (own_w hw 25 rfl) (by decide) (by decide)) (g := (mkF m 1 #[.val (.int p1)] [(.int p1)])) rfl (by rw [hml]; rfl) (argsL := [(.int p1)]) (rest := []) (lenOf pd_8 rfl) rfl (by show 2 * 0 + _ ≤ _; exact Nat.le_of_eq rfl) (hb hby d9_1) (fun _ _ => ⟨rfl, e0, (by decide : 0 + 0 ≤ _), (by decide : 0 + 0 ≤ _)⟩)
  dsimp only [Pt.U, Pt.locs, Pt.cells, Pt.slots] at X2 l2 y2 z2 st2 hQ2
  subst l2 y2 z2
  obtain ⟨rfl, N2q, e2⟩ := hQ2
  have N2 := Fr.app N0 N2q
  replace X2 := X2.more (cells' := 0) (slots' := 0) (by decide) (by decide)
  obtain ⟨T3, h3, k3, X3, e3, E3, A3, st3⟩ := newP X2 hx hZ (own_w hw 27 rfl) e2 (g := (mkF m 4 #[.val (.int p1)] [(.int (p1 <<< ((1 : Int32) &&& 31)))])) rfl (hb hby d9_4) rfl hng4 (cap := 16) hcap4 (by decide) (by decide) (by decide)
  obtain ⟨b3, g3⟩ : ∃ z, z = h0.size := ⟨_, rfl⟩
  rw [← g3] at A3 st3
  have g_b3 : n0 ≤ b3 := Nat.le_trans (Nat.le_trans Z0 (Keep.refl h0 []).1) (Nat.le_of_eq g3.symm)
  have sz_b3 : h0.size ≤ b3 := Nat.le_trans (Keep.refl h0 []).1 (Nat.le_of_eq g3.symm)
  have K4 : Keep h0 h3 [] := (Keep.refl h0 []).ext E3
  have O5 : Old Z n0 h3 := O0.ext E3
  have V3 : Arv Z h3 b3 k3 .byte (p1 <<< ((1 : Int32) &&& 31)) (own_zs (p1 <<< ((1 : Int32) &&& 31))) (.int 0) := (Arv.new A3 hng4).pad (pad_rep [] (.int 0) _)
  replace X3 := X3.more (cells' := 1) (slots' := 16) (by decide) (by decide)
  obtain ⟨fs, hr, hrun, hended, hW, hsame⟩ := X3.leave (v := some (.ref b3)) (fun h => by rw [Bd.returns] at h; cases h)
  refine ⟨_, _, pre0 _ ?_, hrun, hended, _, _, rfl, ?_, ⟨_, rfl⟩, hW, hsame.mono (by decide) (by decide)⟩
  · show Steps p.tables e below (s₁.setTop (mkF m 0 #[.val (.int p1)] [])) _
    refine XS.iloadN X0.here hx rfl (hb hby d9_0) rfl ?_
    refine st2 _ ?_
    refine st3 _ ?_
    exact own_retR X3 hx Bd.returns rfl rfl (hb hby d9_6) hr
  · show Q9 Z p1 h0 n0 _ T3.heap _
    rw [e3]
    exact ⟨b3, k3, rfl, N2, K4, sz_b3, V3⟩
theorem d11_0 : decode jdk_52_method_4_code 0 = .ok (.getstatic 44, 3) := by decide +kernel
theorem d11_3 : decode jdk_52_method_4_code 3 = .ok (.ifCond .ne 25, 3) := by decide +kernel
theorem d11_28 : decode jdk_52_method_4_code 28 = .ok (.iload_n 1, 1) := by decide +kernel
theorem d11_29 : decode jdk_52_method_4_code 29 = .ok (.iconst 1, 1) := by decide +kernel
theorem d11_30 : decode jdk_52_method_4_code 30 = .ok (.ishl, 1) := by decide +kernel
theorem d11_31 : decode jdk_52_method_4_code 31 = .ok (.istore_n 1, 1) := by decide +kernel
theorem d11_32 : decode jdk_52_method_4_code 32 = .ok (.aload_n 0, 1) := by decide +kernel
theorem d11_33 : decode jdk_52_method_4_code 33 = .ok (.iload_n 1, 1) := by decide +kernel
theorem d11_34 : decode jdk_52_method_4_code 34 = .ok (.iinc 1 1, 3) := by decide +kernel
theorem d11_37 : decode jdk_52_method_4_code 37 = .ok (.iload_n 2, 1) := by decide +kernel
theorem d11_38 : decode jdk_52_method_4_code 38 = .ok (.getstatic 59, 3) := by decide +kernel
theorem d11_41 : decode jdk_52_method_4_code 41 = .ok (.ishr, 1) := by decide +kernel
theorem d11_42 : decode jdk_52_method_4_code 42 = .ok (.i2b, 1) := by decide +kernel
theorem d11_43 : decode jdk_52_method_4_code 43 = .ok (.bastore, 1) := by decide +kernel
theorem d11_44 : decode jdk_52_method_4_code 44 = .ok (.aload_n 0, 1) := by decide +kernel
theorem d11_45 : decode jdk_52_method_4_code 45 = .ok (.iload_n 1, 1) := by decide +kernel
theorem d11_46 : decode jdk_52_method_4_code 46 = .ok (.iload_n 2, 1) := by decide +kernel
theorem d11_47 : decode jdk_52_method_4_code 47 = .ok (.getstatic 63, 3) := by decide +kernel
theorem d11_50 : decode jdk_52_method_4_code 50 = .ok (.ishr, 1) := by decide +kernel
theorem d11_51 : decode jdk_52_method_4_code 51 = .ok (.i2b, 1) := by decide +kernel
theorem d11_52 : decode jdk_52_method_4_code 52 = .ok (.bastore, 1) := by decide +kernel
theorem d11_53 : decode jdk_52_method_4_code 53 = .ok (.return_, 1) := by decide +kernel
def Q11 (Z : State) (a1 : Addr) (p2 p3 : Int32) (k9 : ClassId) (nn : Int32) (vs : List Value) (h0 : Heap) (n0 : Nat) (v : Option Value) (h : Heap) (L : List Loc) : Prop := v = none ∧ Fr n0 L ∧ Keep h0 h [a1] ∧ Arv Z h a1 k9 .byte nn ((vs.set ((p2 <<< ((1 : Int32) &&& 31))).toNatClampNeg (.int (own_u0 p3))).set (((p2 <<< ((1 : Int32) &&& 31)) + (1 : Int32))).toNatClampNeg (.int (own_u1 p3))) (.int 0)
theorem ef_11 (m : MethodId) (x0 : Addr) (x1 : Int32) (x2 : Int32) : entryFrame m #[(.ref x0), (.int x1), (.int x2)] 3 = mkF m 0 #[.val (.ref x0), .val (.int x1), .val (.int x2)] [] := by first | (simp [entryFrame, mkF, argsToLocals, Value.category]; done) | rfl
theorem rm11 (l : Launch) (Z : State) (a0 : Array Value) (hw : ∀ d ∈ tables_1, d.before a0 Z = true) (ws : List Jvm.Cond) (a1 : Addr) (p2 p3 : Int32) (k9 : ClassId) (nn : Int32) (vs : List Value) (h0 : Heap) (n0 : Nat) (O0 : Old Z n0 h0) (HV_a1 : Arv Z h0 a1 k9 .byte nn vs (.int 0)) (S__assertionsDisabled : Sta Z Z.heap "java/lang/StringUTF16" "$assertionsDisabled" "Z" (.int 1)) (S_HI_BYTE_SHIFT : Sta Z Z.heap "java/lang/StringUTF16" "HI_BYTE_SHIFT" "I" (.int 0)) (hge43 : ¬ ((p2 <<< ((1 : Int32) &&& 31)) < (0 : Int32))) (hlt43 : (p2 <<< ((1 : Int32) &&& 31)) < nn) (g_a1 : n0 ≤ a1) (hln43 : ((p2 <<< ((1 : Int32) &&& 31))).toNatClampNeg < vs.length) (S_LO_BYTE_SHIFT : Sta Z Z.heap "java/lang/StringUTF16" "LO_BYTE_SHIFT" "I" (.int 8)) (hge52 : ¬ (((p2 <<< ((1 : Int32) &&& 31)) + (1 : Int32)) < (0 : Int32))) (hlt52 : ((p2 <<< ((1 : Int32) &&& 31)) + (1 : Int32)) < nn) (hln52 : (((p2 <<< ((1 : Int32) &&& 31)) + (1 : Int32))).toNatClampNeg < vs.length) :
    own_C l Z (⟨"java/lang/StringUTF16", "putChar", "([BII)V"⟩ : MethodName) jdk_52_method_4_code 3 none ws ({ frames := 0, cells := 0, slots := 0, locals := 0 } : Room) #[(.ref a1), (.int p2), (.int p3)] h0 (Q11 Z a1 p2 p3 k9 nn vs h0 n0) := by
  refine MetFree.of_bodySF (plainFor_of_name pnc_java_lang_StringUTF16) hisR ?_
  intro p e s m args below meth c s₁ Bd hml0 hP hK
  obtain ⟨rfl, hZ, hh⟩ := hP
  have hx := Bd.exec
  have hby := Bd.bytes
  have hml : c.maxLocals = 3 := hml0
  have hown : s.vm.findClass "java/lang/StringUTF16" = some m.cls := findClass_of_methodNamed Bd.named
  have hnm := (name_of_methodNamed Bd.named Bd.method).1
  have X0 : Stand p l e ({ frames := 0, cells := 0, slots := 0, locals := 0 } : Room) s m #[(.ref a1), (.int p2), (.int p3)] below meth c s₁ [] 0 0 := Stand.of_body Bd
  have e0 : s₁.heap = h0 := by rw [← hh, Bd.state]; rfl
  have N0 := Fr.nil n0
  have Z0 : n0 ≤ h0.size := O0.1 ▸ O0.2.1
  have pre0 : ∀ t, Steps p.tables e below (s₁.setTop (mkF m 0 #[.val (.ref a1), .val (.int p2), .val (.int p3)] [])) t → Steps p.tables e below (s₁.setTop (entryFrame m #[(.ref a1), (.int p2), (.int p3)] 3)) t := fun t k => castTop (ef_11 m a1 p2 p3) k
  obtain ⟨T4, X4, e4, st4⟩ := getS2 X0 hx hZ hown (host := "") (Or.inl (own_w hw 44 rfl)) Via.refl e0 (S__assertionsDisabled.ext O0.2) (g := (mkF m 0 #[.val (.ref a1), .val (.int p2), .val (.int p3)] [])) rfl (hb hby d11_0)
  obtain ⟨T5, X5, e5, st5⟩ := getS2 X4 hx hZ hown (host := "") (Or.inl (own_w hw 45 rfl)) Via.refl e4 (S_HI_BYTE_SHIFT.ext O0.2) (g := (mkF m 38 #[.val (.ref a1), .val (.int ((p2 <<< ((1 : Int32) &&& 31)) + (1 : Int32))), .val (.int p3)] [(.int p3), (.int (p2 <<< ((1 : Int32) &&& 31))), (.ref a1)])) rfl (hb hby d11_38)
  obtain ⟨cl6, Ar6, q6, S6, Nn6, Hh6, G6⟩ := id HV_a1
  have hin6 : ¬ ((p2 <<< ((1 : Int32) &&& 31)) < 0 ∨ cl6.slots.size ≤ ((p2 <<< ((1 : Int32) &&& 31))).toNatClampNeg) := inb_of S6 ⟨hge43, hlt43⟩
  obtain ⟨T7, h7, X7, e7, W7, st7⟩ := stB X5 hx hZ e5 Ar6 (j := (p2 <<< ((1 : Int32) &&& 31))) hin6 (g := (mkF m 43 #[.val (.ref a1), .val (.int ((p2 <<< ((1 : Int32) &&& 31)) + (1 : Int32))), .val (.int p3)] [(.int ((p3 >>> ((0 : Int32) &&& 31)).toInt8.toInt32)), (.int (p2 <<< ((1 : Int32) &&& 31))), (.ref a1)])) rfl rfl (hb hby d11_43)
  have N7 := Fr.snoc X7 N0 g_a1
  have K8 : Keep h0 h7 [a1] := (Keep.refl h0 [a1]).wr W7 (Or.inl (List.mem_of_getElem? (i := 0) rfl))
  have O9 : Old Z n0 h7 := O0.wr W7 g_a1
  have V7 : Arv Z h7 a1 k9 .byte nn (vs.set ((p2 <<< ((1 : Int32) &&& 31))).toNatClampNeg (.int (own_u0 p3))) (.int 0) := Arv.set Ar6 q6 S6 Nn6 Hh6 G6 (fits_nar_byte _) W7 ((p2 <<< ((1 : Int32) &&& 31))).toNatClampNeg rfl hln43
  obtain ⟨T10, X10, e10, st10⟩ := getS2 X7 hx hZ hown (host := "") (Or.inl (own_w hw 46 rfl)) Via.refl e7 (S_LO_BYTE_SHIFT.ext O9.2) (g := (mkF m 47 #[.val (.ref a1), .val (.int ((p2 <<< ((1 : Int32) &&& 31)) + (1 : Int32))), .val (.int p3)] [(.int p3), (.int ((p2 <<< ((1 : Int32) &&& 31)) + (1 : Int32))), (.ref a1)])) rfl (hb hby d11_47)
  obtain ⟨cl11, Ar11, q11, S11, Nn11, Hh11, G11⟩ := id V7
  have hin11 : ¬ (((p2 <<< ((1 : Int32) &&& 31)) + (1 : Int32)) < 0 ∨ cl11.slots.size ≤ (((p2 <<< ((1 : Int32) &&& 31)) + (1 : Int32))).toNatClampNeg) := inb_of S11 ⟨hge52, hlt52⟩
  obtain ⟨T12, h12, X12, e12, W12, st12⟩ := stB X10 hx hZ e10 Ar11 (j := ((p2 <<< ((1 : Int32) &&& 31)) + (1 : Int32))) hin11 (g := (mkF m 52 #[.val (.ref a1), .val (.int ((p2 <<< ((1 : Int32) &&& 31)) + (1 : Int32))), .val (.int p3)] [(.int ((p3 >>> ((8 : Int32) &&& 31)).toInt8.toInt32)), (.int ((p2 <<< ((1 : Int32) &&& 31)) + (1 : Int32))), (.ref a1)])) rfl rfl (hb hby d11_52)
  have N12 := Fr.snoc X12 N7 g_a1
  have K13 : Keep h0 h12 [a1] := K8.wr W12 (Or.inl (List.mem_of_getElem? (i := 0) rfl))
  have O14 : Old Z n0 h12 := O9.wr W12 g_a1
  have V12 : Arv Z h12 a1 k9 .byte nn ((vs.set ((p2 <<< ((1 : Int32) &&& 31))).toNatClampNeg (.int (own_u0 p3))).set (((p2 <<< ((1 : Int32) &&& 31)) + (1 : Int32))).toNatClampNeg (.int (own_u1 p3))) (.int 0) := Arv.set Ar11 q11 S11 Nn11 Hh11 G11 (fits_nar_byte _) W12 (((p2 <<< ((1 : Int32) &&& 31)) + (1 : Int32))).toNatClampNeg rfl (by simpa using hln52)
  obtain ⟨fs, hr, hrun, hended, hW, hsame⟩ := X12.leave (v := none) (fun _ => rfl)
  refine ⟨_, _, pre0 _ ?_, hrun, hended, _, _, rfl, ?_, ⟨_, rfl⟩, hW, hsame.mono (by decide) (by decide)⟩
  · show Steps p.tables e below (s₁.setTop (mkF m 0 #[.val (.ref a1), .val (.int p2), .val (.int p3)] [])) _
    refine st4 _ ?_
    refine XS.ifYes X4.here hx rfl (pc0 := 3) (pc' := 28) rfl (hb hby d11_3) rfl ((if0 _ _).trans (feq (by decide : ¬ ((1 : Int32) = (0 : Int32)))).2) (by decide) (by decide) ?_
    refine XS.iloadN X4.here hx rfl (hb hby d11_28) rfl ?_
    refine XS.iconst X4.here hx rfl (hb hby d11_29) ?_
    refine XS.ishl X4.here hx rfl (hb hby d11_30) rfl ?_
    refine XS.istoreN X4.here hx rfl (hb hby d11_31) rfl (l' := #[.val (.ref a1), .val (.int (p2 <<< ((1 : Int32) &&& 31))), .val (.int p3)]) rfl ?_
    refine XS.aloadN X4.here hx rfl (hb hby d11_32) rfl rfl ?_
    show Steps p.tables e below (T4.setTop (mkF m 33 #[.val (.ref a1), .val (.int (p2 <<< ((1 : Int32) &&& 31))), .val (.int p3)] [(.ref a1)])) _
    refine XS.iloadN X4.here hx rfl (hb hby d11_33) rfl ?_
    refine XS.iinc X4.here hx rfl (hb hby d11_34) rfl (l' := #[.val (.ref a1), .val (.int ((p2 <<< ((1 : Int32) &&& 31)) + (1 : Int32))), .val (.int p3)]) rfl ?_
    refine XS.iloadN X4.here hx rfl (hb hby d11_37) rfl ?_
    refine st5 _ ?_
    refine XS.ishr X5.here hx rfl (hb hby d11_41) rfl ?_
    refine XS.i2b X5.here hx rfl (hb hby d11_42) rfl ?_
    refine st7 _ ?_
    refine XS.aloadN X7.here hx rfl (hb hby d11_44) rfl rfl ?_
    refine XS.iloadN X7.here hx rfl (hb hby d11_45) rfl ?_
    refine XS.iloadN X7.here hx rfl (hb hby d11_46) rfl ?_
    refine st10 _ ?_
    refine XS.ishr X10.here hx rfl (hb hby d11_50) rfl ?_
    refine XS.i2b X10.here hx rfl (hb hby d11_51) rfl ?_
    refine st12 _ ?_
    exact X12.returnOut hx Bd.returns (hb hby d11_53) hr
  · show Q11 Z a1 p2 p3 k9 nn vs h0 n0 _ T12.heap _
    rw [e12]
    exact ⟨rfl, N12, K13, V12⟩
theorem d12_0 : decode jdk_52_method_5_code 0 = .ok (.getstatic 44, 3) := by decide +kernel
theorem d12_3 : decode jdk_52_method_5_code 3 = .ok (.ifCond .ne 25, 3) := by decide +kernel
theorem d12_28 : decode jdk_52_method_5_code 28 = .ok (.iload_n 1, 1) := by decide +kernel
theorem d12_29 : decode jdk_52_method_5_code 29 = .ok (.iconst 1, 1) := by decide +kernel
theorem d12_30 : decode jdk_52_method_5_code 30 = .ok (.ishl, 1) := by decide +kernel
theorem d12_31 : decode jdk_52_method_5_code 31 = .ok (.istore_n 1, 1) := by decide +kernel
theorem d12_32 : decode jdk_52_method_5_code 32 = .ok (.aload_n 0, 1) := by decide +kernel
theorem d12_33 : decode jdk_52_method_5_code 33 = .ok (.iload_n 1, 1) := by decide +kernel
theorem d12_34 : decode jdk_52_method_5_code 34 = .ok (.iinc 1 1, 3) := by decide +kernel
theorem d12_37 : decode jdk_52_method_5_code 37 = .ok (.baload, 1) := by decide +kernel
theorem d12_38 : decode jdk_52_method_5_code 38 = .ok (.sipush 255, 3) := by decide +kernel
theorem d12_41 : decode jdk_52_method_5_code 41 = .ok (.iand, 1) := by decide +kernel
theorem d12_42 : decode jdk_52_method_5_code 42 = .ok (.getstatic 59, 3) := by decide +kernel
theorem d12_45 : decode jdk_52_method_5_code 45 = .ok (.ishl, 1) := by decide +kernel
theorem d12_46 : decode jdk_52_method_5_code 46 = .ok (.aload_n 0, 1) := by decide +kernel
theorem d12_47 : decode jdk_52_method_5_code 47 = .ok (.iload_n 1, 1) := by decide +kernel
theorem d12_48 : decode jdk_52_method_5_code 48 = .ok (.baload, 1) := by decide +kernel
theorem d12_49 : decode jdk_52_method_5_code 49 = .ok (.sipush 255, 3) := by decide +kernel
theorem d12_52 : decode jdk_52_method_5_code 52 = .ok (.iand, 1) := by decide +kernel
theorem d12_53 : decode jdk_52_method_5_code 53 = .ok (.getstatic 63, 3) := by decide +kernel
theorem d12_56 : decode jdk_52_method_5_code 56 = .ok (.ishl, 1) := by decide +kernel
theorem d12_57 : decode jdk_52_method_5_code 57 = .ok (.ior, 1) := by decide +kernel
theorem d12_58 : decode jdk_52_method_5_code 58 = .ok (.i2c, 1) := by decide +kernel
theorem d12_59 : decode jdk_52_method_5_code 59 = .ok (.ireturn, 1) := by decide +kernel
def Q12 (Z : State) (a1 : Addr) (p2 : Int32) (k9 : ClassId) (nn : Int32) (vs : List Value) (w5 w8 : Int32) (h0 : Heap) (n0 : Nat) (v : Option Value) (h : Heap) (L : List Loc) : Prop := v = some (.int (nar .char ((((w5 &&& (255 : Int32)) <<< ((0 : Int32) &&& 31)) ||| ((w8 &&& (255 : Int32)) <<< ((8 : Int32) &&& 31))).toUInt32.toUInt16.toUInt32.toInt32))) ∧ Fr n0 L ∧ h = h0
theorem ef_12 (m : MethodId) (x0 : Addr) (x1 : Int32) : entryFrame m #[(.ref x0), (.int x1)] 2 = mkF m 0 #[.val (.ref x0), .val (.int x1)] [] := by first | (simp [entryFrame, mkF, argsToLocals, Value.category]; done) | rfl
theorem rm12 (l : Launch) (Z : State) (a0 : Array Value) (hw : ∀ d ∈ tables_1, d.before a0 Z = true) (ws : List Jvm.Cond) (a1 : Addr) (p2 : Int32) (k9 : ClassId) (nn : Int32) (vs : List Value) (w5 w8 : Int32) (h0 : Heap) (n0 : Nat) (O0 : Old Z n0 h0) (HV_a1 : Arv Z h0 a1 k9 .byte nn vs (.int 0)) (S__assertionsDisabled : Sta Z Z.heap "java/lang/StringUTF16" "$assertionsDisabled" "Z" (.int 1)) (hge37 : ¬ ((p2 <<< ((1 : Int32) &&& 31)) < (0 : Int32))) (hlt37 : (p2 <<< ((1 : Int32) &&& 31)) < nn) (hgd37 : vs.getD ((p2 <<< ((1 : Int32) &&& 31))).toNatClampNeg (.int 0) = (.int w5)) (S_HI_BYTE_SHIFT : Sta Z Z.heap "java/lang/StringUTF16" "HI_BYTE_SHIFT" "I" (.int 0)) (hge48 : ¬ (((p2 <<< ((1 : Int32) &&& 31)) + (1 : Int32)) < (0 : Int32))) (hlt48 : ((p2 <<< ((1 : Int32) &&& 31)) + (1 : Int32)) < nn) (hgd48 : vs.getD (((p2 <<< ((1 : Int32) &&& 31)) + (1 : Int32))).toNatClampNeg (.int 0) = (.int w8)) (S_LO_BYTE_SHIFT : Sta Z Z.heap "java/lang/StringUTF16" "LO_BYTE_SHIFT" "I" (.int 8)) :
    own_C l Z (⟨"java/lang/StringUTF16", "getChar", "([BI)C"⟩ : MethodName) jdk_52_method_5_code 2 (some .char) ws ({ frames := 0, cells := 0, slots := 0, locals := 0 } : Room) #[(.ref a1), (.int p2)] h0 (Q12 Z a1 p2 k9 nn vs w5 w8 h0 n0) := by
  refine MetFree.of_bodySF (plainFor_of_name pnc_java_lang_StringUTF16) hisR ?_
  intro p e s m args below meth c s₁ Bd hml0 hP hK
  obtain ⟨rfl, hZ, hh⟩ := hP
  have hx := Bd.exec
  have hby := Bd.bytes
  have hml : c.maxLocals = 2 := hml0
  have hown : s.vm.findClass "java/lang/StringUTF16" = some m.cls := findClass_of_methodNamed Bd.named
  have hnm := (name_of_methodNamed Bd.named Bd.method).1
  have X0 : Stand p l e ({ frames := 0, cells := 0, slots := 0, locals := 0 } : Room) s m #[(.ref a1), (.int p2)] below meth c s₁ [] 0 0 := Stand.of_body Bd
  have e0 : s₁.heap = h0 := by rw [← hh, Bd.state]; rfl
  have N0 := Fr.nil n0
  have Z0 : n0 ≤ h0.size := O0.1 ▸ O0.2.1
  have pre0 : ∀ t, Steps p.tables e below (s₁.setTop (mkF m 0 #[.val (.ref a1), .val (.int p2)] [])) t → Steps p.tables e below (s₁.setTop (entryFrame m #[(.ref a1), (.int p2)] 2)) t := fun t k => castTop (ef_12 m a1 p2) k
  obtain ⟨T3, X3, e3, st3⟩ := getS2 X0 hx hZ hown (host := "") (Or.inl (own_w hw 44 rfl)) Via.refl e0 (S__assertionsDisabled.ext O0.2) (g := (mkF m 0 #[.val (.ref a1), .val (.int p2)] [])) rfl (hb hby d12_0)
  obtain ⟨cl4, Ar4, q4, S4, Nn4, Hh4, G4⟩ := id HV_a1
  have hin4 : ¬ ((p2 <<< ((1 : Int32) &&& 31)) < 0 ∨ cl4.slots.size ≤ ((p2 <<< ((1 : Int32) &&& 31))).toNatClampNeg) := inb_of S4 ⟨hge37, hlt37⟩
  have hat4 : cl4.slots[((p2 <<< ((1 : Int32) &&& 31))).toNatClampNeg]? = some (.int w5) := Has.at Hh4 hin4 hgd37
  obtain ⟨T6, X6, e6, st6⟩ := getS2 X3 hx hZ hown (host := "") (Or.inl (own_w hw 45 rfl)) Via.refl e3 (S_HI_BYTE_SHIFT.ext O0.2) (g := (mkF m 42 #[.val (.ref a1), .val (.int ((p2 <<< ((1 : Int32) &&& 31)) + (1 : Int32)))] [(.int (w5 &&& (255 : Int32)))])) rfl (hb hby d12_42)
  obtain ⟨cl7, Ar7, q7, S7, Nn7, Hh7, G7⟩ := id HV_a1
  have hin7 : ¬ (((p2 <<< ((1 : Int32) &&& 31)) + (1 : Int32)) < 0 ∨ cl7.slots.size ≤ (((p2 <<< ((1 : Int32) &&& 31)) + (1 : Int32))).toNatClampNeg) := inb_of S7 ⟨hge48, hlt48⟩
  have hat7 : cl7.slots[(((p2 <<< ((1 : Int32) &&& 31)) + (1 : Int32))).toNatClampNeg]? = some (.int w8) := Has.at Hh7 hin7 hgd48
  obtain ⟨T9, X9, e9, st9⟩ := getS2 X6 hx hZ hown (host := "") (Or.inl (own_w hw 46 rfl)) Via.refl e6 (S_LO_BYTE_SHIFT.ext O0.2) (g := (mkF m 53 #[.val (.ref a1), .val (.int ((p2 <<< ((1 : Int32) &&& 31)) + (1 : Int32)))] [(.int (w8 &&& (255 : Int32))), (.int ((w5 &&& (255 : Int32)) <<< ((0 : Int32) &&& 31)))])) rfl (hb hby d12_53)
  obtain ⟨fs, hr, hrun, hended, hW, hsame⟩ := X9.leave (v := some (.int (nar .char ((((w5 &&& (255 : Int32)) <<< ((0 : Int32) &&& 31)) ||| ((w8 &&& (255 : Int32)) <<< ((8 : Int32) &&& 31))).toUInt32.toUInt16.toUInt32.toInt32)))) (fun h => by rw [Bd.returns] at h; cases h)
  refine ⟨_, _, pre0 _ ?_, hrun, hended, _, _, rfl, ?_, ⟨_, rfl⟩, hW, hsame.mono (by decide) (by decide)⟩
  · show Steps p.tables e below (s₁.setTop (mkF m 0 #[.val (.ref a1), .val (.int p2)] [])) _
    refine st3 _ ?_
    refine XS.ifYes X3.here hx rfl (pc0 := 3) (pc' := 28) rfl (hb hby d12_3) rfl ((if0 _ _).trans (feq (by decide : ¬ ((1 : Int32) = (0 : Int32)))).2) (by decide) (by decide) ?_
    refine XS.iloadN X3.here hx rfl (hb hby d12_28) rfl ?_
    refine XS.iconst X3.here hx rfl (hb hby d12_29) ?_
    refine XS.ishl X3.here hx rfl (hb hby d12_30) rfl ?_
    refine XS.istoreN X3.here hx rfl (hb hby d12_31) rfl (l' := #[.val (.ref a1), .val (.int (p2 <<< ((1 : Int32) &&& 31)))]) rfl ?_
    refine XS.aloadN X3.here hx rfl (hb hby d12_32) rfl rfl ?_
    show Steps p.tables e below (T3.setTop (mkF m 33 #[.val (.ref a1), .val (.int (p2 <<< ((1 : Int32) &&& 31)))] [(.ref a1)])) _
    refine XS.iloadN X3.here hx rfl (hb hby d12_33) rfl ?_
    refine XS.iinc X3.here hx rfl (hb hby d12_34) rfl (l' := #[.val (.ref a1), .val (.int ((p2 <<< ((1 : Int32) &&& 31)) + (1 : Int32)))]) rfl ?_
    show Steps p.tables e below (T3.setTop (mkF m 37 #[.val (.ref a1), .val (.int ((p2 <<< ((1 : Int32) &&& 31)) + (1 : Int32)))] [(.int (p2 <<< ((1 : Int32) &&& 31))), (.ref a1)])) _
    refine X3.baloadBytes hx (j := (p2 <<< ((1 : Int32) &&& 31))) (v := (.int w5)) (by rw [e3]; exact Ar4.1) (State.isArrayOf_alike hZ.alike Ar4.2.1) Ar4.2.2 hin4 hat4 (g := (mkF m 37 #[.val (.ref a1), .val (.int ((p2 <<< ((1 : Int32) &&& 31)) + (1 : Int32)))] [(.int (p2 <<< ((1 : Int32) &&& 31))), (.ref a1)])) rfl rfl (hb hby d12_37) _ ?_
    refine XS.sipush X3.here hx rfl (hb hby d12_38) ?_
    refine XS.iand X3.here hx rfl (hb hby d12_41) rfl ?_
    refine st6 _ ?_
    refine XS.ishl X6.here hx rfl (hb hby d12_45) rfl ?_
    refine XS.aloadN X6.here hx rfl (hb hby d12_46) rfl rfl ?_
    refine XS.iloadN X6.here hx rfl (hb hby d12_47) rfl ?_
    show Steps p.tables e below (T6.setTop (mkF m 48 #[.val (.ref a1), .val (.int ((p2 <<< ((1 : Int32) &&& 31)) + (1 : Int32)))] [(.int ((p2 <<< ((1 : Int32) &&& 31)) + (1 : Int32))), (.ref a1), (.int ((w5 &&& (255 : Int32)) <<< ((0 : Int32) &&& 31)))])) _
    refine X6.baloadBytes hx (j := ((p2 <<< ((1 : Int32) &&& 31)) + (1 : Int32))) (v := (.int w8)) (by rw [e6]; exact Ar7.1) (State.isArrayOf_alike hZ.alike Ar7.2.1) Ar7.2.2 hin7 hat7 (g := (mkF m 48 #[.val (.ref a1), .val (.int ((p2 <<< ((1 : Int32) &&& 31)) + (1 : Int32)))] [(.int ((p2 <<< ((1 : Int32) &&& 31)) + (1 : Int32))), (.ref a1), (.int ((w5 &&& (255 : Int32)) <<< ((0 : Int32) &&& 31)))])) rfl rfl (hb hby d12_48) _ ?_
    refine XS.sipush X6.here hx rfl (hb hby d12_49) ?_
    refine XS.iand X6.here hx rfl (hb hby d12_52) rfl ?_
    refine st9 _ ?_
    refine XS.ishl X9.here hx rfl (hb hby d12_56) rfl ?_
    refine XS.ior X9.here hx rfl (hb hby d12_57) rfl ?_
    refine XS.i2c X9.here hx rfl (hb hby d12_58) rfl ?_
    exact retN X9 hx (t := .char) Bd.returns (by simp) (hb hby d12_59) hr
  · show Q12 Z a1 p2 k9 nn vs w5 w8 h0 n0 _ T9.heap _
    rw [e9]
    exact ⟨rfl, N0, rfl⟩
theorem d7_3 : decode jdk_52_method_21_code 3 = .ok (.iload 5, 2) := by decide +kernel
theorem d7_5 : decode jdk_52_method_21_code 5 = .ok (.iload 4, 2) := by decide +kernel
theorem d7_7 : decode jdk_52_method_21_code 7 = .ok (.if_icmp .ge 37, 3) := by decide +kernel
theorem d7_10 : decode jdk_52_method_21_code 10 = .ok (.aload_n 0, 1) := by decide +kernel
theorem d7_11 : decode jdk_52_method_21_code 11 = .ok (.iload_n 1, 1) := by decide +kernel
theorem d7_12 : decode jdk_52_method_21_code 12 = .ok (.caload, 1) := by decide +kernel
theorem d7_13 : decode jdk_52_method_21_code 13 = .ok (.istore 6, 2) := by decide +kernel
/-- a local that is unset or holds an int -/
def own_one (x : Slot) : Prop := x = .unset ∨ ∃ v : Int32, x = .val (.int v)
theorem d7_15 : decode jdk_52_method_21_code 15 = .ok (.iload 6, 2) := by decide +kernel
theorem d7_17 : decode jdk_52_method_21_code 17 = .ok (.sipush 255, 3) := by decide +kernel
theorem d7_20 : decode jdk_52_method_21_code 20 = .ok (.if_icmp .le 6, 3) := by decide +kernel
theorem d7_26 : decode jdk_52_method_21_code 26 = .ok (.aload_n 2, 1) := by decide +kernel
theorem d7_27 : decode jdk_52_method_21_code 27 = .ok (.iload_n 3, 1) := by decide +kernel
theorem d7_28 : decode jdk_52_method_21_code 28 = .ok (.iload 6, 2) := by decide +kernel
theorem d7_30 : decode jdk_52_method_21_code 30 = .ok (.i2b, 1) := by decide +kernel
theorem d7_31 : decode jdk_52_method_21_code 31 = .ok (.bastore, 1) := by decide +kernel
theorem d7_32 : decode jdk_52_method_21_code 32 = .ok (.iinc 1 1, 3) := by decide +kernel
theorem d7_35 : decode jdk_52_method_21_code 35 = .ok (.iinc 3 1, 3) := by decide +kernel
theorem d7_38 : decode jdk_52_method_21_code 38 = .ok (.iinc 5 1, 3) := by decide +kernel
theorem d7_41 : decode jdk_52_method_21_code 41 = .ok (.goto (-38), 3) := by decide +kernel
theorem tn7 {p : Program} {l : Launch} {e : Env} {s : State} {m : MethodId} {args : Array Value} {below : List Frame} {meth : Method} {c : Code} {T0 : State} {locs : List Loc} {Z : State} {a0 : Array Value} (hw : ∀ d ∈ tables_1, d.before a0 Z = true) (a1 a2 : Addr) (px nn : Int32) (s6 : Slot) (k0 k9 : ClassId) (us vs : List Value) (w2 : Int32) (h0 : Heap) (n0 : Nat) (X0 : Stand p l e ({ frames := 0, cells := 0, slots := 0, locals := 0 } : Room) s m args below meth c T0 locs 0 0) (N0 : Fr n0 locs) (hx : p.tables.exec = Jvm.exec) (hZ : Z.Warmed39 s.vm) (hby : c.code = jdk_52_method_21_code) (hml : c.maxLocals = 7) (hown : s.vm.findClass "java/lang/StringUTF16" = some m.cls) (e0 : T0.heap = h0) (O0 : Old Z n0 h0) (HV_a1 : Arv Z h0 a1 k0 .char nn us (.int 0)) (HV_a2 : Arv Z h0 a2 k9 .byte nn vs (.int 0)) (hc7 : px < nn) (hge12 : ¬ (px < (0 : Int32))) (hgd12 : us.getD (px).toNatClampNeg (.int 0) = (.int w2)) (hsl13 : own_one s6) (hc20 : ¬ ((255 : Int32) < w2)) (g_a2 : n0 ≤ a2) (hln31 : (px).toNatClampNeg < vs.length) :
    ∃ (T' : State) (locs' : List Loc) (h' : Heap), Stand p l e ({ frames := 0, cells := 0, slots := 0, locals := 0 } : Room) s m args below meth c T' locs' 0 0 ∧ Fr n0 locs' ∧ T'.heap = h' ∧ Keep h0 h' [a2] ∧ Arv Z h' a2 k9 .byte nn (vs.set (px).toNatClampNeg (.int (own_lb w2))) (.int 0) ∧
      ∀ target, Steps p.tables e below (T'.setTop (mkF m 3 #[.val (.ref a1), .val (.int (px + (1 : Int32))), .val (.ref a2), .val (.int (px + (1 : Int32))), .val (.int nn), .val (.int (px + (1 : Int32))), .val (.int w2)] [])) target → Steps p.tables e below (T0.setTop (mkF m 3 #[.val (.ref a1), .val (.int px), .val (.ref a2), .val (.int px), .val (.int nn), .val (.int px), s6] [])) target := by
  have Z0 : n0 ≤ h0.size := O0.1 ▸ O0.2.1
  obtain ⟨cl1, Ar1, q1, S1, Nn1, Hh1, G1⟩ := id HV_a1
  have hin1 : ¬ (px < 0 ∨ cl1.slots.size ≤ (px).toNatClampNeg) := inb_of S1 ⟨hge12, hc7⟩
  have hat1 : cl1.slots[(px).toNatClampNeg]? = some (.int w2) := Has.at Hh1 hin1 hgd12
  obtain ⟨cl3, Ar3, q3, S3, Nn3, Hh3, G3⟩ := id HV_a2
  have hin3 : ¬ (px < 0 ∨ cl3.slots.size ≤ (px).toNatClampNeg) := inb_of S3 ⟨hge12, hc7⟩
  obtain ⟨T4, h4, X4, e4, W4, st4⟩ := stB X0 hx hZ e0 Ar3 (j := px) hin3 (g := (mkF m 31 #[.val (.ref a1), .val (.int px), .val (.ref a2), .val (.int px), .val (.int nn), .val (.int px), .val (.int w2)] [(.int (w2.toInt8.toInt32)), (.int px), (.ref a2)])) rfl rfl (hb hby d7_31)
  have N4 := Fr.snoc X4 N0 g_a2
  have K5 : Keep h0 h4 [a2] := (Keep.refl h0 [a2]).wr W4 (Or.inl (List.mem_of_getElem? (i := 0) rfl))
  have O6 : Old Z n0 h4 := O0.wr W4 g_a2
  have V4 : Arv Z h4 a2 k9 .byte nn (vs.set (px).toNatClampNeg (.int (own_lb w2))) (.int 0) := Arv.set Ar3 q3 S3 Nn3 Hh3 G3 (fits_nar_byte _) W4 (px).toNatClampNeg rfl hln31
  refine ⟨T4, _, _, X4, N4, e4, K5, V4, fun target kt => ?_⟩
  show Steps p.tables e below (T0.setTop (mkF m 3 #[.val (.ref a1), .val (.int px), .val (.ref a2), .val (.int px), .val (.int nn), .val (.int px), s6] [])) _
  refine XS.iload X0.here hx rfl (hb hby d7_3) rfl ?_
  refine XS.iload X0.here hx rfl (hb hby d7_5) rfl ?_
  refine XS.icmpNo X0.here hx rfl (hb hby d7_7) rfl (tlt hc7).2.1 ?_
  refine XS.aloadN X0.here hx rfl (hb hby d7_10) rfl rfl ?_
  refine XS.iloadN X0.here hx rfl (hb hby d7_11) rfl ?_
  show Steps p.tables e below (T0.setTop (mkF m 12 #[.val (.ref a1), .val (.int px), .val (.ref a2), .val (.int px), .val (.int nn), .val (.int px), s6] [(.int px), (.ref a1)])) _
  refine X0.caload hx (j := px) (v := (.int w2)) (by rw [e0]; exact Ar1.1) (State.isArrayOf_alike hZ.alike Ar1.2.1) Ar1.2.2 hin1 hat1 (g := (mkF m 12 #[.val (.ref a1), .val (.int px), .val (.ref a2), .val (.int px), .val (.int nn), .val (.int px), s6] [(.int px), (.ref a1)])) rfl rfl (hb hby d7_12) _ ?_
  refine XS.istore X0.here hx rfl (hb hby d7_13) rfl (l' := #[.val (.ref a1), .val (.int px), .val (.ref a2), .val (.int px), .val (.int nn), .val (.int px), .val (.int w2)]) (by rcases hsl13 with rfl | ⟨_, rfl⟩ <;> rfl) ?_
  refine XS.iload X0.here hx rfl (hb hby d7_15) rfl ?_
  refine XS.sipush X0.here hx rfl (hb hby d7_17) ?_
  refine XS.icmpYes X0.here hx rfl (pc0 := 20) (pc' := 26) rfl (hb hby d7_20) rfl (flt hc20).2.2.2 (by decide) (by decide) ?_
  refine XS.aloadN X0.here hx rfl (hb hby d7_26) rfl rfl ?_
  refine XS.iloadN X0.here hx rfl (hb hby d7_27) rfl ?_
  show Steps p.tables e below (T0.setTop (mkF m 28 #[.val (.ref a1), .val (.int px), .val (.ref a2), .val (.int px), .val (.int nn), .val (.int px), .val (.int w2)] [(.int px), (.ref a2)])) _
  refine XS.iload X0.here hx rfl (hb hby d7_28) rfl ?_
  refine XS.i2b X0.here hx rfl (hb hby d7_30) rfl ?_
  refine st4 _ ?_
  refine XS.iinc X4.here hx rfl (hb hby d7_32) rfl (l' := #[.val (.ref a1), .val (.int (px + (1 : Int32))), .val (.ref a2), .val (.int px), .val (.int nn), .val (.int px), .val (.int w2)]) rfl ?_
  refine XS.iinc X4.here hx rfl (hb hby d7_35) rfl (l' := #[.val (.ref a1), .val (.int (px + (1 : Int32))), .val (.ref a2), .val (.int (px + (1 : Int32))), .val (.int nn), .val (.int px), .val (.int w2)]) rfl ?_
  refine XS.iinc X4.here hx rfl (hb hby d7_38) rfl (l' := #[.val (.ref a1), .val (.int (px + (1 : Int32))), .val (.ref a2), .val (.int (px + (1 : Int32))), .val (.int nn), .val (.int (px + (1 : Int32))), .val (.int w2)]) rfl ?_
  refine XS.goto X4.here hx rfl (pc0 := 41) (pc' := 3) rfl (hb hby d7_41) (by decide) (by decide) ?_
  exact kt
theorem tn7e {p : Program} {l : Launch} {e : Env} {s : State} {m : MethodId} {args : Array Value} {below : List Frame} {meth : Method} {c : Code} {T0 : State} {locs : List Loc} {Z : State} {a0 : Array Value} (hw : ∀ d ∈ tables_1, d.before a0 Z = true) (a1 a2 : Addr) (px nn : Int32) (s6 : Slot) (k0 : ClassId) (us : List Value) (w2 : Int32) (h0 : Heap) (n0 : Nat) (X0 : Stand p l e ({ frames := 0, cells := 0, slots := 0, locals := 0 } : Room) s m args below meth c T0 locs 0 0) (N0 : Fr n0 locs) (hx : p.tables.exec = Jvm.exec) (hZ : Z.Warmed39 s.vm) (hby : c.code = jdk_52_method_21_code) (hml : c.maxLocals = 7) (hown : s.vm.findClass "java/lang/StringUTF16" = some m.cls) (e0 : T0.heap = h0) (O0 : Old Z n0 h0) (HV_a1 : Arv Z h0 a1 k0 .char nn us (.int 0)) (hc7 : px < nn) (hge12 : ¬ (px < (0 : Int32))) (hgd12 : us.getD (px).toNatClampNeg (.int 0) = (.int w2)) (hsl13 : own_one s6) (hc20 : (255 : Int32) < w2) :
    ∃ (T' : State) (locs' : List Loc), Stand p l e ({ frames := 0, cells := 0, slots := 0, locals := 0 } : Room) s m args below meth c T' locs' 0 0 ∧ Fr n0 locs' ∧ T'.heap = h0 ∧
      ∀ target, Steps p.tables e below (T'.setTop (mkF m 23 #[.val (.ref a1), .val (.int px), .val (.ref a2), .val (.int px), .val (.int nn), .val (.int px), .val (.int w2)] [])) target → Steps p.tables e below (T0.setTop (mkF m 3 #[.val (.ref a1), .val (.int px), .val (.ref a2), .val (.int px), .val (.int nn), .val (.int px), s6] [])) target := by
  have Z0 : n0 ≤ h0.size := O0.1 ▸ O0.2.1
  obtain ⟨cl1, Ar1, q1, S1, Nn1, Hh1, G1⟩ := id HV_a1
  have hin1 : ¬ (px < 0 ∨ cl1.slots.size ≤ (px).toNatClampNeg) := inb_of S1 ⟨hge12, hc7⟩
  have hat1 : cl1.slots[(px).toNatClampNeg]? = some (.int w2) := Has.at Hh1 hin1 hgd12
  refine ⟨T0, _, X0, N0, e0, fun target kt => ?_⟩
  show Steps p.tables e below (T0.setTop (mkF m 3 #[.val (.ref a1), .val (.int px), .val (.ref a2), .val (.int px), .val (.int nn), .val (.int px), s6] [])) _
  refine XS.iload X0.here hx rfl (hb hby d7_3) rfl ?_
  refine XS.iload X0.here hx rfl (hb hby d7_5) rfl ?_
  refine XS.icmpNo X0.here hx rfl (hb hby d7_7) rfl (tlt hc7).2.1 ?_
  refine XS.aloadN X0.here hx rfl (hb hby d7_10) rfl rfl ?_
  refine XS.iloadN X0.here hx rfl (hb hby d7_11) rfl ?_
  show Steps p.tables e below (T0.setTop (mkF m 12 #[.val (.ref a1), .val (.int px), .val (.ref a2), .val (.int px), .val (.int nn), .val (.int px), s6] [(.int px), (.ref a1)])) _
  refine X0.caload hx (j := px) (v := (.int w2)) (by rw [e0]; exact Ar1.1) (State.isArrayOf_alike hZ.alike Ar1.2.1) Ar1.2.2 hin1 hat1 (g := (mkF m 12 #[.val (.ref a1), .val (.int px), .val (.ref a2), .val (.int px), .val (.int nn), .val (.int px), s6] [(.int px), (.ref a1)])) rfl rfl (hb hby d7_12) _ ?_
  refine XS.istore X0.here hx rfl (hb hby d7_13) rfl (l' := #[.val (.ref a1), .val (.int px), .val (.ref a2), .val (.int px), .val (.int nn), .val (.int px), .val (.int w2)]) (by rcases hsl13 with rfl | ⟨_, rfl⟩ <;> rfl) ?_
  refine XS.iload X0.here hx rfl (hb hby d7_15) rfl ?_
  refine XS.sipush X0.here hx rfl (hb hby d7_17) ?_
  refine XS.icmpNo X0.here hx rfl (hb hby d7_20) rfl (tlt hc20).2.2.2 ?_
  exact kt
theorem d8_8 : decode jdk_52_method_14_code 8 = .ok (.iload 4, 2) := by decide +kernel
theorem d8_10 : decode jdk_52_method_14_code 10 = .ok (.iload_n 2, 1) := by decide +kernel
theorem d8_11 : decode jdk_52_method_14_code 11 = .ok (.if_icmp .ge 21, 3) := by decide +kernel
theorem d8_14 : decode jdk_52_method_14_code 14 = .ok (.aload_n 3, 1) := by decide +kernel
theorem d8_15 : decode jdk_52_method_14_code 15 = .ok (.iload 4, 2) := by decide +kernel
theorem d8_17 : decode jdk_52_method_14_code 17 = .ok (.aload_n 0, 1) := by decide +kernel
theorem d8_18 : decode jdk_52_method_14_code 18 = .ok (.iload_n 1, 1) := by decide +kernel
theorem d8_19 : decode jdk_52_method_14_code 19 = .ok (.caload, 1) := by decide +kernel
theorem d8_20 : decode jdk_52_method_14_code 20 = .ok (.invokestatic 111, 3) := by decide +kernel
theorem pd_25 : parseMethodDescriptor "([BII)V" = some ⟨[(.array .byte), .int, .int], none⟩ := by decide +kernel
theorem d8_23 : decode jdk_52_method_14_code 23 = .ok (.iinc 1 1, 3) := by decide +kernel
theorem d8_26 : decode jdk_52_method_14_code 26 = .ok (.iinc 4 1, 3) := by decide +kernel
theorem d8_29 : decode jdk_52_method_14_code 29 = .ok (.goto (-21), 3) := by decide +kernel
theorem tn8 {p : Program} {l : Launch} {e : Env} {s : State} {m : MethodId} {args : Array Value} {below : List Frame} {meth : Method} {c : Code} {T0 : State} {locs : List Loc} {Z : State} {a0 : Array Value} (hw : ∀ d ∈ tables_1, d.before a0 Z = true) (a1 b : Addr) (px nc nn : Int32) (k0 k9 : ClassId) (us vs : List Value) (w2 : Int32) (h0 : Heap) (n0 : Nat) (X0 : Stand p l e ({ frames := 3, cells := 1, slots := 16, locals := 60 } : Room) s m args below meth c T0 locs 1 16) (N0 : Fr n0 locs) (hx : p.tables.exec = Jvm.exec) (hZ : Z.Warmed39 s.vm) (hby : c.code = jdk_52_method_14_code) (hml : c.maxLocals = 5) (hown : s.vm.findClass "java/lang/StringUTF16" = some m.cls) (e0 : T0.heap = h0) (O0 : Old Z n0 h0) (HV_a1 : Arv Z h0 a1 k0 .char nc us (.int 0)) (HV_b : Arv Z h0 b k9 .byte nn vs (.int 0)) (hc11 : px < nc) (hge19 : ¬ (px < (0 : Int32))) (hgd19 : us.getD (px).toNatClampNeg (.int 0) = (.int w2)) (S__assertionsDisabled : Sta Z Z.heap "java/lang/StringUTF16" "$assertionsDisabled" "Z" (.int 1)) (S_HI_BYTE_SHIFT : Sta Z Z.heap "java/lang/StringUTF16" "HI_BYTE_SHIFT" "I" (.int 0)) (S_LO_BYTE_SHIFT : Sta Z Z.heap "java/lang/StringUTF16" "LO_BYTE_SHIFT" "I" (.int 8)) (h20_hge43 : ¬ ((px <<< ((1 : Int32) &&& 31)) < (0 : Int32))) (h20_hlt43 : (px <<< ((1 : Int32) &&& 31)) < nn) (g_b : n0 ≤ b) (h20_hln43 : ((px <<< ((1 : Int32) &&& 31))).toNatClampNeg < vs.length) (h20_hge52 : ¬ (((px <<< ((1 : Int32) &&& 31)) + (1 : Int32)) < (0 : Int32))) (h20_hlt52 : ((px <<< ((1 : Int32) &&& 31)) + (1 : Int32)) < nn) (h20_hln52 : (((px <<< ((1 : Int32) &&& 31)) + (1 : Int32))).toNatClampNeg < vs.length) :
    ∃ (T' : State) (locs' : List Loc) (h' : Heap), Stand p l e ({ frames := 3, cells := 1, slots := 16, locals := 60 } : Room) s m args below meth c T' locs' 1 16 ∧ Fr n0 locs' ∧ T'.heap = h' ∧ Keep h0 h' [b] ∧ Arv Z h' b k9 .byte nn ((vs.set ((px <<< ((1 : Int32) &&& 31))).toNatClampNeg (.int (own_u0 w2))).set (((px <<< ((1 : Int32) &&& 31)) + (1 : Int32))).toNatClampNeg (.int (own_u1 w2))) (.int 0) ∧
      ∀ target, Steps p.tables e below (T'.setTop (mkF m 8 #[.val (.ref a1), .val (.int (px + (1 : Int32))), .val (.int nc), .val (.ref b), .val (.int (px + (1 : Int32)))] [])) target → Steps p.tables e below (T0.setTop (mkF m 8 #[.val (.ref a1), .val (.int px), .val (.int nc), .val (.ref b), .val (.int px)] [])) target := by
  have Z0 : n0 ≤ h0.size := O0.1 ▸ O0.2.1
  obtain ⟨cl1, Ar1, q1, S1, Nn1, Hh1, G1⟩ := id HV_a1
  have hin1 : ¬ (px < 0 ∨ cl1.slots.size ≤ (px).toNatClampNeg) := inb_of S1 ⟨hge19, hc11⟩
  have hat1 : cl1.slots[(px).toNatClampNeg]? = some (.int w2) := Has.at Hh1 hin1 hgd19
  obtain ⟨vr3, _, ⟨T3, L3, k3, n3⟩, -, X3, ⟨Lc3, hQ3, l3, y3, z3⟩, st3⟩ := Jvm.LawKit.callS X0 hx (y := (⟨"java/lang/StringUTF16", "putChar", "([BII)V"⟩ : MethodName)) hown (mvT hZ (own_w hw 41 rfl)) (mvT hZ (own_w hw 42 rfl)) (mvT hZ (own_w hw 25 rfl)) (mvT hZ (own_w hw 43 rfl)) (by decide) (backOf (W := 0) (rm11 l Z a0 hw [] b px w2 k9 nn vs h0 n0 O0 HV_b S__assertionsDisabled S_HI_BYTE_SHIFT h20_hge43 h20_hlt43 g_b h20_hln43 S_LO_BYTE_SHIFT h20_hge52 h20_hlt52 h20_hln52) hZ (own_w hw 43 rfl) (own_w hw 25 rfl) (by decide) (by decide)) (g := (mkF m 20 #[.val (.ref a1), .val (.int px), .val (.int nc), .val (.ref b), .val (.int px)] [(.int w2), (.int px), (.ref b)])) rfl (by rw [hml]; rfl) (argsL := [(.ref b), (.int px), (.int w2)]) (rest := []) (lenOf pd_25 rfl) rfl (by show 2 * 0 + _ ≤ _; exact Nat.le_of_eq rfl) (hb hby d8_20) (fun _ _ => ⟨rfl, e0, (by decide : 1 + 0 ≤ _), (by decide : 16 + 0 ≤ _)⟩)
  dsimp only [Pt.U, Pt.locs, Pt.cells, Pt.slots] at X3 l3 y3 z3 st3 hQ3
  subst l3 y3 z3
  obtain ⟨rfl, N3q, K3, Y3_0⟩ := hQ3
  have N3 := Fr.app N0 N3q
  replace X3 := X3.more (cells' := 1) (slots' := 16) (by decide) (by decide)
  have K4 : Keep h0 T3.heap [b] := (Keep.refl h0 [b]).trans K3 (allS (Or.inl (List.mem_of_getElem? (i := 0) rfl)) all0)
  have O5 : Old Z n0 T3.heap := O0.keep K3 (allS g_b all0)
  refine ⟨T3, _, _, X3, N3, rfl, K4, Y3_0, fun target kt => ?_⟩
  show Steps p.tables e below (T0.setTop (mkF m 8 #[.val (.ref a1), .val (.int px), .val (.int nc), .val (.ref b), .val (.int px)] [])) _
  refine XS.iload X0.here hx rfl (hb hby d8_8) rfl ?_
  refine XS.iloadN X0.here hx rfl (hb hby d8_10) rfl ?_
  refine XS.icmpNo X0.here hx rfl (hb hby d8_11) rfl (tlt hc11).2.1 ?_
  refine XS.aloadN X0.here hx rfl (hb hby d8_14) rfl rfl ?_
  refine XS.iload X0.here hx rfl (hb hby d8_15) rfl ?_
  refine XS.aloadN X0.here hx rfl (hb hby d8_17) rfl rfl ?_
  refine XS.iloadN X0.here hx rfl (hb hby d8_18) rfl ?_
  show Steps p.tables e below (T0.setTop (mkF m 19 #[.val (.ref a1), .val (.int px), .val (.int nc), .val (.ref b), .val (.int px)] [(.int px), (.ref a1), (.int px), (.ref b)])) _
  refine X0.caload hx (j := px) (v := (.int w2)) (by rw [e0]; exact Ar1.1) (State.isArrayOf_alike hZ.alike Ar1.2.1) Ar1.2.2 hin1 hat1 (g := (mkF m 19 #[.val (.ref a1), .val (.int px), .val (.int nc), .val (.ref b), .val (.int px)] [(.int px), (.ref a1), (.int px), (.ref b)])) rfl rfl (hb hby d8_19) _ ?_
  refine st3 _ ?_
  refine XS.iinc X3.here hx rfl (hb hby d8_23) rfl (l' := #[.val (.ref a1), .val (.int (px + (1 : Int32))), .val (.int nc), .val (.ref b), .val (.int px)]) rfl ?_
  refine XS.iinc X3.here hx rfl (hb hby d8_26) rfl (l' := #[.val (.ref a1), .val (.int (px + (1 : Int32))), .val (.int nc), .val (.ref b), .val (.int (px + (1 : Int32)))]) rfl ?_
  refine XS.goto X3.here hx rfl (pc0 := 29) (pc' := 8) rfl (hb hby d8_29) (by decide) (by decide) ?_
  exact kt
theorem own_run7 {p : Program} {l : Launch} {e : Env} {s : State} {m : MethodId} {args : Array Value} {below : List Frame} {meth : Method} {c : Code} {Z : State} {a0 : Array Value} (hw : ∀ d ∈ tables_1, d.before a0 Z = true) (a1 a2 : Addr) (k0 k9 : ClassId) (cs : List Int32) (n0 : Nat) (hx : p.tables.exec = Jvm.exec) (hZ : Z.Warmed39 s.vm) (hby : c.code = jdk_52_method_21_code) (hml : c.maxLocals = 7) (hown : s.vm.findClass "java/lang/StringUTF16" = some m.cls) (h8 : cs.length ≤ 8) (ne : a1 ≠ a2) (g_a2 : n0 ≤ a2) (k : Nat) :
    ∀ (i : Nat) {T0 : State} {locs : List Loc} (h0 : Heap) (s6 : Slot) (vs : List Value) (_ : Stand p l e ({ frames := 0, cells := 0, slots := 0, locals := 0 } : Room) s m args below meth c T0 locs 0 0) (_ : Fr n0 locs) (_ : T0.heap = h0) (_ : Old Z n0 h0) (_ : Arv Z h0 a1 k0 .char (Int32.ofNat cs.length) (own_us cs) (.int 0)) (_ : Arv Z h0 a2 k9 .byte (Int32.ofNat cs.length) vs (.int 0)) (_ : vs.length = cs.length) (_ : i + k ≤ cs.length) (_ : own_one s6) (_ : ∀ j, i ≤ j → j < i + k → ¬ ((255 : Int32) < cs.getD j 0)),
      ∃ (T' : State) (locs' : List Loc) (h' : Heap) (s7 : Slot), Stand p l e ({ frames := 0, cells := 0, slots := 0, locals := 0 } : Room) s m args below meth c T' locs' 0 0 ∧ Fr n0 locs' ∧ T'.heap = h' ∧ Keep h0 h' [a2] ∧ Arv Z h' a1 k0 .char (Int32.ofNat cs.length) (own_us cs) (.int 0) ∧ Arv Z h' a2 k9 .byte (Int32.ofNat cs.length) (own_fill cs i k vs) (.int 0) ∧ Old Z n0 h' ∧ own_one s7 ∧ ∀ target, Steps p.tables e below (T'.setTop (mkF m 3 #[.val (.ref a1), .val (.int (Int32.ofNat (i + k))), .val (.ref a2), .val (.int (Int32.ofNat (i + k))), .val (.int (Int32.ofNat cs.length)), .val (.int (Int32.ofNat (i + k))), s7] [])) target → Steps p.tables e below (T0.setTop (mkF m 3 #[.val (.ref a1), .val (.int (Int32.ofNat i)), .val (.ref a2), .val (.int (Int32.ofNat i)), .val (.int (Int32.ofNat cs.length)), .val (.int (Int32.ofNat i)), s6] [])) target := by
  induction k with
  | zero => intro i T0 locs h0 s6 vs X0 N0 e0 O0 V1 V2 hv hik hs hg; exact ⟨T0, locs, h0, s6, X0, N0, e0, Keep.refl h0 [a2], V1, V2, O0, hs, fun _ q => q⟩
  | succ k ih =>
    intro i T0 locs h0 s6 vs X0 N0 e0 O0 V1 V2 hv hik hs hg
    obtain ⟨T1, L1, h1, X1, N1, e1, K1, W1, st1⟩ := tn7 hw a1 a2 (Int32.ofNat i) (Int32.ofNat cs.length) s6 k0 k9 (own_us cs) vs (cs.getD i 0) h0 n0 X0 N0 hx hZ hby hml hown e0 O0 V1 V2 (own_ofNlt (by omega) (by omega)) (own_ofNge (by omega)) (own_usAt cs (by omega)) hs (hg i (by omega) (by omega)) g_a2 (by rw [own_ofN (by omega)]; omega)
    have W2 : Arv Z h1 a2 k9 .byte (Int32.ofNat cs.length) (vs.set i (.int (own_lb (cs.getD i 0)))) (.int 0) := by have q := W1; rw [own_ofN (by omega)] at q; exact q
    obtain ⟨T2, L2, h2, s7, X2, N2, e2, K2, A1, A2, O2, hs7, st2⟩ := ih (i + 1) h1 (.val (.int (cs.getD i 0))) _ X1 N1 e1 (O0.keep K1 (allS g_a2 all0)) (V1.keep K1 (ninS ne nin0)) W2 (by rw [List.length_set]; exact hv) (by omega) (Or.inr ⟨_, rfl⟩) (fun j a b => hg j (by omega) (by omega))
    refine ⟨T2, L2, h2, s7, X2, N2, e2, K1.trans K2 (allS (Or.inl (List.mem_of_getElem? (i := 0) rfl)) all0), A1, A2, O2, hs7, fun target q => st1 _ ?_⟩
    rw [own_ofN1 (by omega)]
    refine st2 _ ?_
    rw [show i + 1 + k = i + (k + 1) by omega]
    exact q
theorem tn7S {p : Program} {l : Launch} {e : Env} {s : State} {m : MethodId} {args : Array Value} {below : List Frame} {meth : Method} {c : Code} {T0 : State} {locs : List Loc} {Z : State} {a0 : Array Value} (hw : ∀ d ∈ tables_1, d.before a0 Z = true) (a1 a2 : Addr) (nn : Int32) (s6 : Slot) (k0 k9 : ClassId) (cs : List Int32) (h0 : Heap) (n0 : Nat) (X0 : Stand p l e ({ frames := 0, cells := 0, slots := 0, locals := 0 } : Room) s m args below meth c T0 locs 0 0) (N0 : Fr n0 locs) (hx : p.tables.exec = Jvm.exec) (hZ : Z.Warmed39 s.vm) (hby : c.code = jdk_52_method_21_code) (hml : c.maxLocals = 7) (hown : s.vm.findClass "java/lang/StringUTF16" = some m.cls) (e0 : T0.heap = h0) (O0 : Old Z n0 h0) (HV_a1 : Arv Z h0 a1 k0 .char nn (own_us cs) (.int 0)) (HV_a2 : Arv Z h0 a2 k9 .byte nn (own_zs nn) (.int 0)) (g_a2 : n0 ≤ a2) (ne_a1_a2 : a1 ≠ a2) (hnn : nn = Int32.ofNat cs.length) (h8 : cs.length ≤ 8) (hs6 : own_one s6) (hs7 : ∀ j, j < cs.length → ¬ ((255 : Int32) < cs.getD j 0)) :
    ∃ (T' : State) (locs' : List Loc) (h' : Heap) (s7 : Slot), Stand p l e ({ frames := 0, cells := 0, slots := 0, locals := 0 } : Room) s m args below meth c T' locs' 0 0 ∧ Fr n0 locs' ∧ T'.heap = h' ∧ Keep h0 h' [a2] ∧ Arv Z h' a2 k9 .byte nn (own_l cs) (.int 0) ∧ ∀ target, Steps p.tables e below (T'.setTop (mkF m 3 #[.val (.ref a1), .val (.int nn), .val (.ref a2), .val (.int nn), .val (.int nn), .val (.int nn), s7] [])) target → Steps p.tables e below (T0.setTop (mkF m 3 #[.val (.ref a1), .val (.int 0), .val (.ref a2), .val (.int 0), .val (.int nn), .val (.int 0), s6] [])) target := by
  subst hnn
  obtain ⟨T2, L2, h2, s7, X2, N2, e2, K2, A1, A2, O2, hs8, st2⟩ := own_run7 hw a1 a2 k0 k9 cs n0 hx hZ hby hml hown h8 ne_a1_a2 g_a2 cs.length 0 h0 s6 _ X0 N0 e0 O0 HV_a1 HV_a2 (by rw [own_zs, List.length_replicate, own_ofN (by omega)]) (by omega) hs6 (fun j _ b => hs7 j (by omega))
  rw [own_fill_all cs h8] at A2
  rw [Nat.zero_add] at st2
  exact ⟨T2, L2, h2, s7, X2, N2, e2, K2, A2, st2⟩
theorem tn7F {p : Program} {l : Launch} {e : Env} {s : State} {m : MethodId} {args : Array Value} {below : List Frame} {meth : Method} {c : Code} {T0 : State} {locs : List Loc} {Z : State} {a0 : Array Value} (hw : ∀ d ∈ tables_1, d.before a0 Z = true) (a1 a2 : Addr) (nn : Int32) (s6 : Slot) (k0 k9 : ClassId) (cs : List Int32) (h0 : Heap) (n0 : Nat) (X0 : Stand p l e ({ frames := 0, cells := 0, slots := 0, locals := 0 } : Room) s m args below meth c T0 locs 0 0) (N0 : Fr n0 locs) (hx : p.tables.exec = Jvm.exec) (hZ : Z.Warmed39 s.vm) (hby : c.code = jdk_52_method_21_code) (hml : c.maxLocals = 7) (hown : s.vm.findClass "java/lang/StringUTF16" = some m.cls) (e0 : T0.heap = h0) (O0 : Old Z n0 h0) (HV_a1 : Arv Z h0 a1 k0 .char nn (own_us cs) (.int 0)) (HV_a2 : Arv Z h0 a2 k9 .byte nn (own_zs nn) (.int 0)) (g_a2 : n0 ≤ a2) (ne_a1_a2 : a1 ≠ a2) (hnn : nn = Int32.ofNat cs.length) (h8 : cs.length ≤ 8) (hs6 : own_one s6) (hu : ∃ j, j < cs.length ∧ (255 : Int32) < cs.getD j 0) :
    ∃ (T' : State) (locs' : List Loc) (h' : Heap) (yy : Int32) (s7 : Slot), Stand p l e ({ frames := 0, cells := 0, slots := 0, locals := 0 } : Room) s m args below meth c T' locs' 0 0 ∧ Fr n0 locs' ∧ T'.heap = h' ∧ Keep h0 h' [a2] ∧ own_fst cs yy ∧ ∀ target, Steps p.tables e below (T'.setTop (mkF m 23 #[.val (.ref a1), .val (.int yy), .val (.ref a2), .val (.int yy), .val (.int nn), .val (.int yy), s7] [])) target → Steps p.tables e below (T0.setTop (mkF m 3 #[.val (.ref a1), .val (.int 0), .val (.ref a2), .val (.int 0), .val (.int nn), .val (.int 0), s6] [])) target := by
  subst hnn
  obtain ⟨j, hj, hb, hl⟩ := own_least (fun j => (255 : Int32) < cs.getD j 0) _ hu
  obtain ⟨T2, L2, h2, s7, X2, N2, e2, K2, A1, A2, O2, hs8, st2⟩ := own_run7 hw a1 a2 k0 k9 cs n0 hx hZ hby hml hown h8 ne_a1_a2 g_a2 j 0 h0 s6 _ X0 N0 e0 O0 HV_a1 HV_a2 (by rw [own_zs, List.length_replicate, own_ofN (by omega)]) (by omega) hs6 (fun i _ b => hl i (by omega))
  rw [Nat.zero_add] at st2
  obtain ⟨T3, L3, X3, N3, e3, st3⟩ := tn7e hw a1 a2 (Int32.ofNat j) (Int32.ofNat cs.length) s7 k0 (own_us cs) (cs.getD j 0) h2 n0 X2 N2 hx hZ hby hml hown e2 O2 A1 (own_ofNlt hj (by omega)) (own_ofNge (by omega)) (own_usAt cs (by omega)) hs8 hb
  exact ⟨T3, L3, h2, _, _, X3, N3, e3, K2, ⟨j, hj, rfl, hb⟩, fun target q => st2 _ (st3 _ q)⟩
theorem d7_0 : decode jdk_52_method_21_code 0 = .ok (.iconst 0, 1) := by decide +kernel
theorem d7_1 : decode jdk_52_method_21_code 1 = .ok (.istore 5, 2) := by decide +kernel
theorem d7_44 : decode jdk_52_method_21_code 44 = .ok (.iload 4, 2) := by decide +kernel
theorem d7_46 : decode jdk_52_method_21_code 46 = .ok (.ireturn, 1) := by decide +kernel
def Q7S (Z : State) (a1 a2 : Addr) (k0 k9 : ClassId) (nn : Int32) (cs : List Int32) (h0 : Heap) (n0 : Nat) (v : Option Value) (h : Heap) (L : List Loc) : Prop := v = some (.int nn) ∧ Fr n0 L ∧ Keep h0 h [a2] ∧ Arv Z h a2 k9 .byte nn (own_l cs) (.int 0)
theorem ef_7a__0___Int32__a__0___Int32__a (m : MethodId) (x0 : Addr) (x2 : Addr) (x4 : Int32) : entryFrame m #[(.ref x0), (.int 0), (.ref x2), (.int 0), (.int x4)] 7 = mkF m 0 #[.val (.ref x0), .val (.int 0), .val (.ref x2), .val (.int 0), .val (.int x4), .unset, .unset] [] := by first | (simp [entryFrame, mkF, argsToLocals, Value.category]; done) | rfl
theorem rm7S (l : Launch) (Z : State) (a0 : Array Value) (hw : ∀ d ∈ tables_1, d.before a0 Z = true) (ws : List Jvm.Cond) (a1 a2 : Addr) (k0 k9 : ClassId) (nn : Int32) (cs : List Int32) (h0 : Heap) (n0 : Nat) (O0 : Old Z n0 h0) (HV_a1 : Arv Z h0 a1 k0 .char nn (own_us cs) (.int 0)) (HV_a2 : Arv Z h0 a2 k9 .byte nn (own_zs nn) (.int 0)) (g_a2 : n0 ≤ a2) (ne_a1_a2 : a1 ≠ a2) (h3_hnn : nn = Int32.ofNat cs.length) (h3_h8 : cs.length ≤ 8) (h3_hs7 : ∀ j, j < cs.length → ¬ ((255 : Int32) < cs.getD j 0)) :
    own_C l Z (⟨"java/lang/StringUTF16", "compress", "([CI[BII)I"⟩ : MethodName) jdk_52_method_21_code 7 (some .int) ws ({ frames := 0, cells := 0, slots := 0, locals := 0 } : Room) #[(.ref a1), (.int 0), (.ref a2), (.int 0), (.int nn)] h0 (Q7S Z a1 a2 k0 k9 nn cs h0 n0) := by
  refine MetFree.of_bodySF (plainFor_of_name pnc_java_lang_StringUTF16) hisR ?_
  intro p e s m args below meth c s₁ Bd hml0 hP hK
  obtain ⟨rfl, hZ, hh⟩ := hP
  have hx := Bd.exec
  have hby := Bd.bytes
  have hml : c.maxLocals = 7 := hml0
  have hown : s.vm.findClass "java/lang/StringUTF16" = some m.cls := findClass_of_methodNamed Bd.named
  have hnm := (name_of_methodNamed Bd.named Bd.method).1
  have X0 : Stand p l e ({ frames := 0, cells := 0, slots := 0, locals := 0 } : Room) s m #[(.ref a1), (.int 0), (.ref a2), (.int 0), (.int nn)] below meth c s₁ [] 0 0 := Stand.of_body Bd
  have e0 : s₁.heap = h0 := by rw [← hh, Bd.state]; rfl
  have N0 := Fr.nil n0
  have Z0 : n0 ≤ h0.size := O0.1 ▸ O0.2.1
  have pre0 : ∀ t, Steps p.tables e below (s₁.setTop (mkF m 0 #[.val (.ref a1), .val (.int 0), .val (.ref a2), .val (.int 0), .val (.int nn), .unset, .unset] [])) t → Steps p.tables e below (s₁.setTop (entryFrame m #[(.ref a1), (.int 0), (.ref a2), (.int 0), (.int nn)] 7)) t := fun t k => castTop (ef_7a__0___Int32__a__0___Int32__a m a1 a2 nn) k
  obtain ⟨T3, L3, h3, k4, X3, N3, e3, K3, Y3_0, st3⟩ := tn7S hw a1 a2 nn ((.unset)) k0 k9 cs h0 n0 X0 N0 hx hZ hby hml hown e0 O0 HV_a1 HV_a2 g_a2 ne_a1_a2 h3_hnn h3_h8 (Or.inl rfl) h3_hs7
  have K5 : Keep h0 h3 [a2] := (Keep.refl h0 [a2]).trans K3 (allS (Or.inl (List.mem_of_getElem? (i := 0) rfl)) all0)
  have O6 : Old Z n0 h3 := O0.keep K3 (allS g_a2 all0)
  obtain ⟨fs, hr, hrun, hended, hW, hsame⟩ := X3.leave (v := some (.int nn)) (fun h => by rw [Bd.returns] at h; cases h)
  refine ⟨_, _, pre0 _ ?_, hrun, hended, _, _, rfl, ?_, ⟨_, rfl⟩, hW, hsame.mono (by decide) (by decide)⟩
  · show Steps p.tables e below (s₁.setTop (mkF m 0 #[.val (.ref a1), .val (.int 0), .val (.ref a2), .val (.int 0), .val (.int nn), .unset, .unset] [])) _
    refine XS.iconst X0.here hx rfl (hb hby d7_0) ?_
    refine XS.istore X0.here hx rfl (hb hby d7_1) rfl (l' := #[.val (.ref a1), .val (.int 0), .val (.ref a2), .val (.int 0), .val (.int nn), .val (.int 0), .unset]) rfl ?_
    show Steps p.tables e below (s₁.setTop (mkF m 3 #[.val (.ref a1), .val (.int 0), .val (.ref a2), .val (.int 0), .val (.int nn), .val (.int 0), .unset] [])) _
    refine st3 _ ?_
    show Steps p.tables e below (T3.setTop (mkF m 3 #[.val (.ref a1), .val (.int nn), .val (.ref a2), .val (.int nn), .val (.int nn), .val (.int nn), k4] [])) _
    refine XS.iload X3.here hx rfl (hb hby d7_3) rfl ?_
    refine XS.iload X3.here hx rfl (hb hby d7_5) rfl ?_
    refine XS.icmpYes X3.here hx rfl (pc0 := 7) (pc' := 44) rfl (hb hby d7_7) rfl (flt ((by intro q; rw [Int32.lt_iff_toInt_lt] at q; omega) : ¬ (nn < nn))).2.1 (by decide) (by decide) ?_
    refine XS.iload X3.here hx rfl (hb hby d7_44) rfl ?_
    exact own_retI X3 hx Bd.returns (hb hby d7_46) hr
  · show Q7S Z a1 a2 k0 k9 nn cs h0 n0 _ T3.heap _
    rw [e3]
    exact ⟨rfl, N3, K5, Y3_0⟩
theorem d7_23 : decode jdk_52_method_21_code 23 = .ok (.iload 5, 2) := by decide +kernel
theorem d7_25 : decode jdk_52_method_21_code 25 = .ok (.ireturn, 1) := by decide +kernel
def Q7F (Z : State) (a1 a2 : Addr) (k0 k9 : ClassId) (nn : Int32) (cs : List Int32) (h0 : Heap) (n0 : Nat) (v : Option Value) (h : Heap) (L : List Loc) : Prop := ∃ k4 : Int32, v = some (.int k4) ∧ Fr n0 L ∧ Keep h0 h [a2] ∧ own_fst cs k4
theorem rm7F (l : Launch) (Z : State) (a0 : Array Value) (hw : ∀ d ∈ tables_1, d.before a0 Z = true) (ws : List Jvm.Cond) (a1 a2 : Addr) (k0 k9 : ClassId) (nn : Int32) (cs : List Int32) (h0 : Heap) (n0 : Nat) (O0 : Old Z n0 h0) (HV_a1 : Arv Z h0 a1 k0 .char nn (own_us cs) (.int 0)) (HV_a2 : Arv Z h0 a2 k9 .byte nn (own_zs nn) (.int 0)) (g_a2 : n0 ≤ a2) (ne_a1_a2 : a1 ≠ a2) (h3_hnn : nn = Int32.ofNat cs.length) (h3_h8 : cs.length ≤ 8) (h3_hu : ∃ j, j < cs.length ∧ (255 : Int32) < cs.getD j 0) :
    own_C l Z (⟨"java/lang/StringUTF16", "compress", "([CI[BII)I"⟩ : MethodName) jdk_52_method_21_code 7 (some .int) ws ({ frames := 0, cells := 0, slots := 0, locals := 0 } : Room) #[(.ref a1), (.int 0), (.ref a2), (.int 0), (.int nn)] h0 (Q7F Z a1 a2 k0 k9 nn cs h0 n0) := by
  refine MetFree.of_bodySF (plainFor_of_name pnc_java_lang_StringUTF16) hisR ?_
  intro p e s m args below meth c s₁ Bd hml0 hP hK
  obtain ⟨rfl, hZ, hh⟩ := hP
  have hx := Bd.exec
  have hby := Bd.bytes
  have hml : c.maxLocals = 7 := hml0
  have hown : s.vm.findClass "java/lang/StringUTF16" = some m.cls := findClass_of_methodNamed Bd.named
  have hnm := (name_of_methodNamed Bd.named Bd.method).1
  have X0 : Stand p l e ({ frames := 0, cells := 0, slots := 0, locals := 0 } : Room) s m #[(.ref a1), (.int 0), (.ref a2), (.int 0), (.int nn)] below meth c s₁ [] 0 0 := Stand.of_body Bd
  have e0 : s₁.heap = h0 := by rw [← hh, Bd.state]; rfl
  have N0 := Fr.nil n0
  have Z0 : n0 ≤ h0.size := O0.1 ▸ O0.2.1
  have pre0 : ∀ t, Steps p.tables e below (s₁.setTop (mkF m 0 #[.val (.ref a1), .val (.int 0), .val (.ref a2), .val (.int 0), .val (.int nn), .unset, .unset] [])) t → Steps p.tables e below (s₁.setTop (entryFrame m #[(.ref a1), (.int 0), (.ref a2), (.int 0), (.int nn)] 7)) t := fun t k => castTop (ef_7a__0___Int32__a__0___Int32__a m a1 a2 nn) k
  obtain ⟨T3, L3, h3, k4, k5, X3, N3, e3, K3, Y3_0, st3⟩ := tn7F hw a1 a2 nn ((.unset)) k0 k9 cs h0 n0 X0 N0 hx hZ hby hml hown e0 O0 HV_a1 HV_a2 g_a2 ne_a1_a2 h3_hnn h3_h8 (Or.inl rfl) h3_hu
  have K6 : Keep h0 h3 [a2] := (Keep.refl h0 [a2]).trans K3 (allS (Or.inl (List.mem_of_getElem? (i := 0) rfl)) all0)
  have O7 : Old Z n0 h3 := O0.keep K3 (allS g_a2 all0)
  obtain ⟨fs, hr, hrun, hended, hW, hsame⟩ := X3.leave (v := some (.int k4)) (fun h => by rw [Bd.returns] at h; cases h)
  refine ⟨_, _, pre0 _ ?_, hrun, hended, _, _, rfl, ?_, ⟨_, rfl⟩, hW, hsame.mono (by decide) (by decide)⟩
  · show Steps p.tables e below (s₁.setTop (mkF m 0 #[.val (.ref a1), .val (.int 0), .val (.ref a2), .val (.int 0), .val (.int nn), .unset, .unset] [])) _
    refine XS.iconst X0.here hx rfl (hb hby d7_0) ?_
    refine XS.istore X0.here hx rfl (hb hby d7_1) rfl (l' := #[.val (.ref a1), .val (.int 0), .val (.ref a2), .val (.int 0), .val (.int nn), .val (.int 0), .unset]) rfl ?_
    show Steps p.tables e below (s₁.setTop (mkF m 3 #[.val (.ref a1), .val (.int 0), .val (.ref a2), .val (.int 0), .val (.int nn), .val (.int 0), .unset] [])) _
    refine st3 _ ?_
    refine XS.iload X3.here hx rfl (hb hby d7_23) rfl ?_
    exact own_retI X3 hx Bd.returns (hb hby d7_25) hr
  · show Q7F Z a1 a2 k0 k9 nn cs h0 n0 _ T3.heap _
    rw [e3]
    exact ⟨k4, rfl, N3, K6, Y3_0⟩
theorem own_run8 {p : Program} {l : Launch} {e : Env} {s : State} {m : MethodId} {args : Array Value} {below : List Frame} {meth : Method} {c : Code} {Z : State} {a0 : Array Value} (hw : ∀ d ∈ tables_1, d.before a0 Z = true) (a1 b : Addr) (k0 k9 : ClassId) (cs : List Int32) (n0 : Nat) (hx : p.tables.exec = Jvm.exec) (hZ : Z.Warmed39 s.vm) (hby : c.code = jdk_52_method_14_code) (hml : c.maxLocals = 5) (hown : s.vm.findClass "java/lang/StringUTF16" = some m.cls) (h8 : cs.length ≤ 8) (ne : a1 ≠ b) (g_b : n0 ≤ b) (S__assertionsDisabled : Sta Z Z.heap "java/lang/StringUTF16" "$assertionsDisabled" "Z" (.int 1)) (S_HI_BYTE_SHIFT : Sta Z Z.heap "java/lang/StringUTF16" "HI_BYTE_SHIFT" "I" (.int 0)) (S_LO_BYTE_SHIFT : Sta Z Z.heap "java/lang/StringUTF16" "LO_BYTE_SHIFT" "I" (.int 8)) (k : Nat) :
    ∀ (i : Nat) {T0 : State} {locs : List Loc} (h0 : Heap) (vs : List Value) (_ : Stand p l e ({ frames := 3, cells := 1, slots := 16, locals := 60 } : Room) s m args below meth c T0 locs 1 16) (_ : Fr n0 locs) (_ : T0.heap = h0) (_ : Old Z n0 h0) (_ : Arv Z h0 a1 k0 .char (Int32.ofNat cs.length) (own_us cs) (.int 0)) (_ : Arv Z h0 b k9 .byte ((Int32.ofNat cs.length) <<< ((1 : Int32) &&& 31)) vs (.int 0)) (_ : vs.length = 2 * cs.length) (_ : i + k ≤ cs.length),
      ∃ (T' : State) (locs' : List Loc) (h' : Heap), Stand p l e ({ frames := 3, cells := 1, slots := 16, locals := 60 } : Room) s m args below meth c T' locs' 1 16 ∧ Fr n0 locs' ∧ T'.heap = h' ∧ Keep h0 h' [b] ∧ Arv Z h' b k9 .byte ((Int32.ofNat cs.length) <<< ((1 : Int32) &&& 31)) (own_fil2 cs i k vs) (.int 0) ∧ ∀ target, Steps p.tables e below (T'.setTop (mkF m 8 #[.val (.ref a1), .val (.int (Int32.ofNat (i + k))), .val (.int (Int32.ofNat cs.length)), .val (.ref b), .val (.int (Int32.ofNat (i + k)))] [])) target → Steps p.tables e below (T0.setTop (mkF m 8 #[.val (.ref a1), .val (.int (Int32.ofNat i)), .val (.int (Int32.ofNat cs.length)), .val (.ref b), .val (.int (Int32.ofNat i))] [])) target := by
  induction k with
  | zero => intro i T0 locs h0 vs X0 N0 e0 O0 V1 V2 hv hik; exact ⟨T0, locs, h0, X0, N0, e0, Keep.refl h0 [b], V2, fun _ q => q⟩
  | succ k ih =>
    intro i T0 locs h0 vs X0 N0 e0 O0 V1 V2 hv hik
    have s1 := own_shl (i := i) (by omega)
    have s2 := own_shl (i := cs.length) h8
    have s3 : (Int32.ofNat i <<< ((1 : Int32) &&& 31)) + (1 : Int32) = Int32.ofNat (2 * i + 1) := by rw [s1, own_ofN1 (by omega)]
    obtain ⟨T1, L1, h1, X1, N1, e1, K1, W1, st1⟩ := tn8 hw a1 b (Int32.ofNat i) (Int32.ofNat cs.length) ((Int32.ofNat cs.length) <<< ((1 : Int32) &&& 31)) k0 k9 (own_us cs) vs (cs.getD i 0) h0 n0 X0 N0 hx hZ hby hml hown e0 O0 V1 V2 (own_ofNlt (by omega) (by omega)) (own_ofNge (by omega)) (own_usAt cs (by omega)) S__assertionsDisabled S_HI_BYTE_SHIFT S_LO_BYTE_SHIFT (by rw [s1]; exact own_ofNge (by omega)) (by rw [s1, s2]; exact own_ofNlt (by omega) (by omega)) g_b (by rw [s1, own_ofN (by omega)]; omega) (by rw [s3]; exact own_ofNge (by omega)) (by rw [s3, s2]; exact own_ofNlt (by omega) (by omega)) (by rw [s3, own_ofN (by omega)]; omega)
    have W2 : Arv Z h1 b k9 .byte ((Int32.ofNat cs.length) <<< ((1 : Int32) &&& 31)) ((vs.set (2 * i) (.int (own_u0 (cs.getD i 0)))).set (2 * i + 1) (.int (own_u1 (cs.getD i 0)))) (.int 0) := by have q := W1; rw [s3, s1, own_ofN (by omega), own_ofN (by omega)] at q; exact q
    obtain ⟨T2, L2, h2, X2, N2, e2, K2, A2, st2⟩ := ih (i + 1) h1 _ X1 N1 e1 (O0.keep K1 (allS g_b all0)) (V1.keep K1 (ninS ne nin0)) W2 (by rw [List.length_set, List.length_set]; exact hv) (by omega)
    refine ⟨T2, L2, h2, X2, N2, e2, K1.trans K2 (allS (Or.inl (List.mem_of_getElem? (i := 0) rfl)) all0), A2, fun target q => st1 _ ?_⟩
    rw [own_ofN1 (by omega)]
    refine st2 _ ?_
    rw [show i + 1 + k = i + (k + 1) by omega]
    exact q
theorem tn8S {p : Program} {l : Launch} {e : Env} {s : State} {m : MethodId} {args : Array Value} {below : List Frame} {meth : Method} {c : Code} {T0 : State} {locs : List Loc} {Z : State} {a0 : Array Value} (hw : ∀ d ∈ tables_1, d.before a0 Z = true) (a1 b : Addr) (nn : Int32) (k0 k9 : ClassId) (cs : List Int32) (h0 : Heap) (n0 : Nat) (X0 : Stand p l e ({ frames := 3, cells := 1, slots := 16, locals := 60 } : Room) s m args below meth c T0 locs 1 16) (N0 : Fr n0 locs) (hx : p.tables.exec = Jvm.exec) (hZ : Z.Warmed39 s.vm) (hby : c.code = jdk_52_method_14_code) (hml : c.maxLocals = 5) (hown : s.vm.findClass "java/lang/StringUTF16" = some m.cls) (e0 : T0.heap = h0) (O0 : Old Z n0 h0) (HV_a1 : Arv Z h0 a1 k0 .char nn (own_us cs) (.int 0)) (HV_b : Arv Z h0 b k9 .byte (nn <<< ((1 : Int32) &&& 31)) (own_zs (nn <<< ((1 : Int32) &&& 31))) (.int 0)) (g_b : n0 ≤ b) (ne_a1_b : a1 ≠ b) (hnn : nn = Int32.ofNat cs.length) (h8 : cs.length ≤ 8) (S__assertionsDisabled : Sta Z Z.heap "java/lang/StringUTF16" "$assertionsDisabled" "Z" (.int 1)) (S_HI_BYTE_SHIFT : Sta Z Z.heap "java/lang/StringUTF16" "HI_BYTE_SHIFT" "I" (.int 0)) (S_LO_BYTE_SHIFT : Sta Z Z.heap "java/lang/StringUTF16" "LO_BYTE_SHIFT" "I" (.int 8)) :
    ∃ (T' : State) (locs' : List Loc) (h' : Heap), Stand p l e ({ frames := 3, cells := 1, slots := 16, locals := 60 } : Room) s m args below meth c T' locs' 1 16 ∧ Fr n0 locs' ∧ T'.heap = h' ∧ Keep h0 h' [b] ∧ Arv Z h' b k9 .byte (nn <<< ((1 : Int32) &&& 31)) (own_u cs) (.int 0) ∧ ∀ target, Steps p.tables e below (T'.setTop (mkF m 8 #[.val (.ref a1), .val (.int nn), .val (.int nn), .val (.ref b), .val (.int nn)] [])) target → Steps p.tables e below (T0.setTop (mkF m 8 #[.val (.ref a1), .val (.int 0), .val (.int nn), .val (.ref b), .val (.int 0)] [])) target := by
  subst hnn
  obtain ⟨T2, L2, h2, X2, N2, e2, K2, A2, st2⟩ := own_run8 hw a1 b k0 k9 cs n0 hx hZ hby hml hown h8 ne_a1_b g_b S__assertionsDisabled S_HI_BYTE_SHIFT S_LO_BYTE_SHIFT cs.length 0 h0 _ X0 N0 e0 O0 HV_a1 HV_b (by rw [own_zs, List.length_replicate, own_shl h8, own_ofN (by omega)]) (by omega)
  rw [own_fil2_all cs h8] at A2
  rw [Nat.zero_add] at st2
  exact ⟨T2, L2, h2, X2, N2, e2, K2, A2, st2⟩
theorem d8_0 : decode jdk_52_method_14_code 0 = .ok (.iload_n 2, 1) := by decide +kernel
theorem d8_1 : decode jdk_52_method_14_code 1 = .ok (.invokestatic 107, 3) := by decide +kernel
theorem pd_9 : parseMethodDescriptor "(I)[B" = some ⟨[.int], some (.array .byte)⟩ := by decide +kernel
theorem d8_4 : decode jdk_52_method_14_code 4 = .ok (.astore_n 3, 1) := by decide +kernel
theorem d8_5 : decode jdk_52_method_14_code 5 = .ok (.iconst 0, 1) := by decide +kernel
theorem d8_6 : decode jdk_52_method_14_code 6 = .ok (.istore 4, 2) := by decide +kernel
theorem d8_32 : decode jdk_52_method_14_code 32 = .ok (.aload_n 3, 1) := by decide +kernel
theorem d8_33 : decode jdk_52_method_14_code 33 = .ok (.areturn, 1) := by decide +kernel
def Q8 (Z : State) (a1 : Addr) (k0 : ClassId) (nn : Int32) (cs : List Int32) (h0 : Heap) (n0 : Nat) (v : Option Value) (h : Heap) (L : List Loc) : Prop := ∃ b3 : Addr, ∃ k4 : ClassId, v = some (.ref b3) ∧ Fr n0 L ∧ Keep h0 h [] ∧ h0.size ≤ b3 ∧ Arv Z h b3 k4 .byte (nn <<< ((1 : Int32) &&& 31)) (own_u cs) (.int 0)
theorem ef_8a__0___Int32__a (m : MethodId) (x0 : Addr) (x2 : Int32) : entryFrame m #[(.ref x0), (.int 0), (.int x2)] 5 = mkF m 0 #[.val (.ref x0), .val (.int 0), .val (.int x2), .unset, .unset] [] := by first | (simp [entryFrame, mkF, argsToLocals, Value.category]; done) | rfl
theorem rm8 (l : Launch) (Z : State) (a0 : Array Value) (hw : ∀ d ∈ tables_1, d.before a0 Z = true) (ws : List Jvm.Cond) (a1 : Addr) (k0 : ClassId) (nn : Int32) (cs : List Int32) (h0 : Heap) (n0 : Nat) (O0 : Old Z n0 h0) (HV_a1 : Arv Z h0 a1 k0 .char nn (own_us cs) (.int 0)) (h1_h1_hc1 : ¬ (nn < (0 : Int32))) (h1_h1_hc15 : nn < (1073741823 : Int32)) (h1_hng4 : ¬ ((nn <<< ((1 : Int32) &&& 31)) < (0 : Int32))) (h1_hcap4 : ((nn <<< ((1 : Int32) &&& 31))).toNatClampNeg ≤ 16) (S__assertionsDisabled : Sta Z Z.heap "java/lang/StringUTF16" "$assertionsDisabled" "Z" (.int 1)) (S_HI_BYTE_SHIFT : Sta Z Z.heap "java/lang/StringUTF16" "HI_BYTE_SHIFT" "I" (.int 0)) (S_LO_BYTE_SHIFT : Sta Z Z.heap "java/lang/StringUTF16" "LO_BYTE_SHIFT" "I" (.int 8)) (h8_hnn : nn = Int32.ofNat cs.length) (h8_h8 : cs.length ≤ 8) :
    own_C l Z (⟨"java/lang/StringUTF16", "toBytes", "([CII)[B"⟩ : MethodName) jdk_52_method_14_code 5 (some (.array .byte)) ws ({ frames := 3, cells := 1, slots := 16, locals := 60 } : Room) #[(.ref a1), (.int 0), (.int nn)] h0 (Q8 Z a1 k0 nn cs h0 n0) := by
  refine MetFree.of_bodySF (plainFor_of_name pnc_java_lang_StringUTF16) hisR ?_
  intro p e s m args below meth c s₁ Bd hml0 hP hK
  obtain ⟨rfl, hZ, hh⟩ := hP
  have hx := Bd.exec
  have hby := Bd.bytes
  have hml : c.maxLocals = 5 := hml0
  have hown : s.vm.findClass "java/lang/StringUTF16" = some m.cls := findClass_of_methodNamed Bd.named
  have hnm := (name_of_methodNamed Bd.named Bd.method).1
  have X0 : Stand p l e ({ frames := 3, cells := 1, slots := 16, locals := 60 } : Room) s m #[(.ref a1), (.int 0), (.int nn)] below meth c s₁ [] 0 0 := Stand.of_body Bd
  have e0 : s₁.heap = h0 := by rw [← hh, Bd.state]; rfl
  have N0 := Fr.nil n0
  have Z0 : n0 ≤ h0.size := O0.1 ▸ O0.2.1
  have pre0 : ∀ t, Steps p.tables e below (s₁.setTop (mkF m 0 #[.val (.ref a1), .val (.int 0), .val (.int nn), .unset, .unset] [])) t → Steps p.tables e below (s₁.setTop (entryFrame m #[(.ref a1), (.int 0), (.int nn)] 5)) t := fun t k => castTop (ef_8a__0___Int32__a m a1 nn) k
  obtain ⟨vr2, _, ⟨T2, L2, k2, n2⟩, -, X2, ⟨Lc2, hQ2, l2, y2, z2⟩, st2⟩ := Jvm.LawKit.callS X0 hx (y := (⟨"java/lang/StringUTF16", "newBytesFor", "(I)[B"⟩ : MethodName)) hown (mvT hZ (own_w hw 34 rfl)) (mvT hZ (own_w hw 35 rfl)) (mvT hZ (own_w hw 25 rfl)) (mvT hZ (own_w hw 36 rfl)) (by decide) (backOf (W := 0) (rm9 l Z a0 hw [] nn h0 n0 O0 h1_h1_hc1 h1_h1_hc15 h1_hng4 h1_hcap4) hZ (own_w hw 36 rfl) (own_w hw 25 rfl) (by decide) (by decide)) (g := (mkF m 1 #[.val (.ref a1), .val (.int 0), .val (.int nn), .unset, .unset] [(.int nn)])) rfl (by rw [hml]; rfl) (argsL := [(.int nn)]) (rest := []) (lenOf pd_9 rfl) rfl (by show 2 * 0 + _ ≤ _; exact Nat.le_of_eq rfl) (hb hby d8_1) (fun _ _ => ⟨rfl, e0, (by decide : 0 + 1 ≤ _), (by decide : 0 + 16 ≤ _)⟩)
  dsimp only [Pt.U, Pt.locs, Pt.cells, Pt.slots] at X2 l2 y2 z2 st2 hQ2
  subst l2 y2 z2
  obtain ⟨b3, k4, rfl, N2q, K2, Y2_z0, Y2_0⟩ := hQ2
  have N2 := Fr.app N0 N2q
  replace X2 := X2.more (cells' := 1) (slots' := 16) (by decide) (by decide)
  have g_b3 : n0 ≤ b3 := Nat.le_trans (Nat.le_trans Z0 (Keep.refl h0 []).1) Y2_z0
  have sz_b3 : h0.size ≤ b3 := Nat.le_trans (Keep.refl h0 []).1 Y2_z0
  have K5 : Keep h0 T2.heap [] := (Keep.refl h0 []).trans K2 all0
  have O6 : Old Z n0 T2.heap := O0.keep K2 all0
  have f7 := (HV_a1.keep K2 nin0)
  obtain ⟨T8, L8, h8, X8, N8, e8, K8, Y8_0, st8⟩ := tn8S hw a1 b3 nn k0 k4 cs T2.heap n0 X2 N2 hx hZ hby hml hown rfl O6 f7 Y2_0 g_b3 (Nat.ne_of_lt (Nat.lt_of_lt_of_le HV_a1.lt Y2_z0)) h8_hnn h8_h8 S__assertionsDisabled S_HI_BYTE_SHIFT S_LO_BYTE_SHIFT
  have K9 : Keep h0 h8 [] := K5.trans K8 (allS (Or.inr sz_b3) all0)
  have O10 : Old Z n0 h8 := O6.keep K8 (allS g_b3 all0)
  obtain ⟨fs, hr, hrun, hended, hW, hsame⟩ := X8.leave (v := some (.ref b3)) (fun h => by rw [Bd.returns] at h; cases h)
  refine ⟨_, _, pre0 _ ?_, hrun, hended, _, _, rfl, ?_, ⟨_, rfl⟩, hW, hsame.mono (by decide) (by decide)⟩
  · show Steps p.tables e below (s₁.setTop (mkF m 0 #[.val (.ref a1), .val (.int 0), .val (.int nn), .unset, .unset] [])) _
    refine XS.iloadN X0.here hx rfl (hb hby d8_0) rfl ?_
    refine st2 _ ?_
    refine XS.astoreN X2.here hx rfl (hb hby d8_4) rfl rfl (l' := #[.val (.ref a1), .val (.int 0), .val (.int nn), .val (.ref b3), .unset]) rfl ?_
    refine XS.iconst X2.here hx rfl (hb hby d8_5) ?_
    refine XS.istore X2.here hx rfl (hb hby d8_6) rfl (l' := #[.val (.ref a1), .val (.int 0), .val (.int nn), .val (.ref b3), .val (.int 0)]) rfl ?_
    show Steps p.tables e below (T2.setTop (mkF m 8 #[.val (.ref a1), .val (.int 0), .val (.int nn), .val (.ref b3), .val (.int 0)] [])) _
    refine st8 _ ?_
    show Steps p.tables e below (T8.setTop (mkF m 8 #[.val (.ref a1), .val (.int nn), .val (.int nn), .val (.ref b3), .val (.int nn)] [])) _
    refine XS.iload X8.here hx rfl (hb hby d8_8) rfl ?_
    refine XS.iloadN X8.here hx rfl (hb hby d8_10) rfl ?_
    refine XS.icmpYes X8.here hx rfl (pc0 := 11) (pc' := 32) rfl (hb hby d8_11) rfl (flt ((by intro q; rw [Int32.lt_iff_toInt_lt] at q; omega) : ¬ (nn < nn))).2.1 (by decide) (by decide) ?_
    refine XS.aloadN X8.here hx rfl (hb hby d8_32) rfl rfl ?_
    exact own_retR X8 hx Bd.returns rfl rfl (hb hby d8_33) hr
  · show Q8 Z a1 k0 nn cs h0 n0 _ T8.heap _
    rw [e8]
    exact ⟨b3, k4, rfl, N8, K9, sz_b3, Y8_0⟩
def Q12F (Z : State) (a1 : Addr) (yy nn : Int32) (k9 : ClassId) (cs : List Int32) (h0 : Heap) (n0 : Nat) (v : Option Value) (h : Heap) (L : List Loc) : Prop := ∃ rr : Int32, v = some (.int rr) ∧ Fr n0 L ∧ h = h0 ∧ (255 : Int32) < rr
theorem rm12F (l : Launch) (Z : State) (a0 : Array Value) (hw : ∀ d ∈ tables_1, d.before a0 Z = true) (ws : List Jvm.Cond) (a1 : Addr) (yy nn : Int32) (k9 : ClassId) (cs : List Int32) (h0 : Heap) (n0 : Nat) (O0 : Old Z n0 h0) (HV_a1 : Arv Z h0 a1 k9 .byte (nn <<< ((1 : Int32) &&& 31)) (own_u cs) (.int 0)) (hnn : nn = Int32.ofNat cs.length) (h8 : cs.length ≤ 8) (hcs : ∀ c ∈ cs, own_ch c) (S__assertionsDisabled : Sta Z Z.heap "java/lang/StringUTF16" "$assertionsDisabled" "Z" (.int 1)) (S_HI_BYTE_SHIFT : Sta Z Z.heap "java/lang/StringUTF16" "HI_BYTE_SHIFT" "I" (.int 0)) (S_LO_BYTE_SHIFT : Sta Z Z.heap "java/lang/StringUTF16" "LO_BYTE_SHIFT" "I" (.int 8)) (hf : own_fst cs yy) :
    own_C l Z (⟨"java/lang/StringUTF16", "getChar", "([BI)C"⟩ : MethodName) jdk_52_method_5_code 2 (some .char) ws ({ frames := 0, cells := 0, slots := 0, locals := 0 } : Room) #[(.ref a1), (.int yy)] h0 (Q12F Z a1 yy nn k9 cs h0 n0) := by
  intro p e ha hc hk s m args below hf_ happ hP hK
  obtain ⟨j, hj, rfl, hb⟩ := hf
  subst hnn
  have s1 := own_shl (i := j) (by omega)
  have s2 := own_shl (i := cs.length) h8
  have s3 : (Int32.ofNat j <<< ((1 : Int32) &&& 31)) + (1 : Int32) = Int32.ofNat (2 * j + 1) := by rw [s1, own_ofN1 (by omega)]
  obtain ⟨q1, q2, q3, q4, q5, v, L, rfl, ⟨rfl, N, K⟩, hF⟩ := rm12 l Z a0 hw ws a1 (Int32.ofNat j) k9 ((Int32.ofNat cs.length) <<< ((1 : Int32) &&& 31)) (own_u cs) (own_u0 (cs.getD j 0)) (own_u1 (cs.getD j 0)) h0 n0 O0 HV_a1 S__assertionsDisabled (by rw [s1]; exact own_ofNge (by omega)) (by rw [s1, s2]; exact own_ofNlt (by omega) (by omega)) (by rw [s1, own_ofN (by omega)]; exact (own_uAt cs j hj).1) S_HI_BYTE_SHIFT (by rw [s3]; exact own_ofNge (by omega)) (by rw [s3, s2]; exact own_ofNlt (by omega) (by omega)) (by rw [s3, own_ofN (by omega)]; exact (own_uAt cs j hj).2) S_LO_BYTE_SHIFT p e ha hc hk s m args below hf_ happ hP hK
  have hm : cs.getD j 0 ∈ cs := by rw [List.getD_eq_getElem?_getD, List.getElem?_eq_getElem hj]; exact List.getElem_mem hj
  exact ⟨q1, _, q3, q4, q5, _, L, rfl, ⟨_, rfl, N, K, by rw [own_l2 (hcs _ hm)]; exact hb⟩, hF⟩
theorem d6_0 : decode jdk_52_method_16_code 0 = .ok (.iload_n 2, 1) := by decide +kernel
theorem d6_1 : decode jdk_52_method_16_code 1 = .ok (.newarray .byte, 2) := by decide +kernel
theorem d6_3 : decode jdk_52_method_16_code 3 = .ok (.astore_n 3, 1) := by decide +kernel
theorem d6_4 : decode jdk_52_method_16_code 4 = .ok (.aload_n 0, 1) := by decide +kernel
theorem d6_5 : decode jdk_52_method_16_code 5 = .ok (.iload_n 1, 1) := by decide +kernel
theorem d6_6 : decode jdk_52_method_16_code 6 = .ok (.aload_n 3, 1) := by decide +kernel
theorem d6_7 : decode jdk_52_method_16_code 7 = .ok (.iconst 0, 1) := by decide +kernel
theorem d6_8 : decode jdk_52_method_16_code 8 = .ok (.iload_n 2, 1) := by decide +kernel
theorem d6_9 : decode jdk_52_method_16_code 9 = .ok (.invokestatic 115, 3) := by decide +kernel
theorem pd_29 : parseMethodDescriptor "([CI[BII)I" = some ⟨[(.array .char), .int, (.array .byte), .int, .int], some .int⟩ := by decide +kernel
theorem d6_12 : decode jdk_52_method_16_code 12 = .ok (.istore 4, 2) := by decide +kernel
theorem d6_14 : decode jdk_52_method_16_code 14 = .ok (.iload 4, 2) := by decide +kernel
theorem d6_16 : decode jdk_52_method_16_code 16 = .ok (.iload_n 2, 1) := by decide +kernel
theorem d6_17 : decode jdk_52_method_16_code 17 = .ok (.if_icmp .eq 40, 3) := by decide +kernel
theorem d6_57 : decode jdk_52_method_16_code 57 = .ok (.aload_n 3, 1) := by decide +kernel
theorem d6_58 : decode jdk_52_method_16_code 58 = .ok (.areturn, 1) := by decide +kernel
def Q6L (Z : State) (a1 : Addr) (k0 : ClassId) (nn : Int32) (cs : List Int32) (h0 : Heap) (n0 : Nat) (v : Option Value) (h : Heap) (L : List Loc) : Prop := ∃ b2 : Addr, ∃ k2 : ClassId, v = some (.ref b2) ∧ Fr n0 L ∧ Keep h0 h [] ∧ h0.size ≤ b2 ∧ Arv Z h b2 k2 .byte nn (own_l cs) (.int 0)
theorem ef_6a__0___Int32__a (m : MethodId) (x0 : Addr) (x2 : Int32) : entryFrame m #[(.ref x0), (.int 0), (.int x2)] 6 = mkF m 0 #[.val (.ref x0), .val (.int 0), .val (.int x2), .unset, .unset, .unset] [] := by first | (simp [entryFrame, mkF, argsToLocals, Value.category]; done) | rfl
theorem rm6L (l : Launch) (Z : State) (a0 : Array Value) (hw : ∀ d ∈ tables_1, d.before a0 Z = true) (ws : List Jvm.Cond) (a1 : Addr) (k0 : ClassId) (nn : Int32) (cs : List Int32) (h0 : Heap) (n0 : Nat) (O0 : Old Z n0 h0) (HV_a1 : Arv Z h0 a1 k0 .char nn (own_us cs) (.int 0)) (hng1 : ¬ (nn < (0 : Int32))) (hcap1 : (nn).toNatClampNeg ≤ 8) (h9_h3_hnn : nn = Int32.ofNat cs.length) (h9_h3_h8 : cs.length ≤ 8) (h9_h3_hs7 : ∀ j, j < cs.length → ¬ ((255 : Int32) < cs.getD j 0)) :
    own_C l Z (⟨"java/lang/StringUTF16", "compress", "([CII)[B"⟩ : MethodName) jdk_52_method_16_code 6 (some (.array .byte)) ws ({ frames := 1, cells := 1, slots := 8, locals := 18 } : Room) #[(.ref a1), (.int 0), (.int nn)] h0 (Q6L Z a1 k0 nn cs h0 n0) := by
  refine MetFree.of_bodySF (plainFor_of_name pnc_java_lang_StringUTF16) hisR ?_
  intro p e s m args below meth c s₁ Bd hml0 hP hK
  obtain ⟨rfl, hZ, hh⟩ := hP
  have hx := Bd.exec
  have hby := Bd.bytes
  have hml : c.maxLocals = 6 := hml0
  have hown : s.vm.findClass "java/lang/StringUTF16" = some m.cls := findClass_of_methodNamed Bd.named
  have hnm := (name_of_methodNamed Bd.named Bd.method).1
  have X0 : Stand p l e ({ frames := 1, cells := 1, slots := 8, locals := 18 } : Room) s m #[(.ref a1), (.int 0), (.int nn)] below meth c s₁ [] 0 0 := Stand.of_body Bd
  have e0 : s₁.heap = h0 := by rw [← hh, Bd.state]; rfl
  have N0 := Fr.nil n0
  have Z0 : n0 ≤ h0.size := O0.1 ▸ O0.2.1
  have pre0 : ∀ t, Steps p.tables e below (s₁.setTop (mkF m 0 #[.val (.ref a1), .val (.int 0), .val (.int nn), .unset, .unset, .unset] [])) t → Steps p.tables e below (s₁.setTop (entryFrame m #[(.ref a1), (.int 0), (.int nn)] 6)) t := fun t k => castTop (ef_6a__0___Int32__a m a1 nn) k
  obtain ⟨T2, h2, k2, X2, e2, E2, A2, st2⟩ := newP X0 hx hZ (own_w hw 27 rfl) e0 (g := (mkF m 1 #[.val (.ref a1), .val (.int 0), .val (.int nn), .unset, .unset, .unset] [(.int nn)])) rfl (hb hby d6_1) rfl hng1 (cap := 8) hcap1 (by decide) (by decide) (by decide)
  obtain ⟨b2, g2⟩ : ∃ z, z = h0.size := ⟨_, rfl⟩
  rw [← g2] at A2 st2
  have g_b2 : n0 ≤ b2 := Nat.le_trans (Nat.le_trans Z0 (Keep.refl h0 []).1) (Nat.le_of_eq g2.symm)
  have sz_b2 : h0.size ≤ b2 := Nat.le_trans (Keep.refl h0 []).1 (Nat.le_of_eq g2.symm)
  have K3 : Keep h0 h2 [] := (Keep.refl h0 []).ext E2
  have O4 : Old Z n0 h2 := O0.ext E2
  have V2 : Arv Z h2 b2 k2 .byte nn (own_zs nn) (.int 0) := (Arv.new A2 hng1).pad (pad_rep [] (.int 0) _)
  replace X2 := X2.more (cells' := 1) (slots' := 8) (by decide) (by decide)
  have f5 := (HV_a1.ext E2)
  obtain ⟨vr6, _, ⟨T6, L6, k6, n6⟩, -, X6, ⟨Lc6, hQ6, l6, y6, z6⟩, st6⟩ := Jvm.LawKit.callS X2 hx (y := (⟨"java/lang/StringUTF16", "compress", "([CI[BII)I"⟩ : MethodName)) hown (mvT hZ (own_w hw 28 rfl)) (mvT hZ (own_w hw 29 rfl)) (mvT hZ (own_w hw 25 rfl)) (mvT hZ (own_w hw 30 rfl)) (by decide) (backOf (W := 0) (rm7S l Z a0 hw [] a1 b2 k0 k2 nn cs h2 n0 O4 f5 V2 g_b2 (Nat.ne_of_lt (Nat.lt_of_lt_of_le HV_a1.lt (Nat.le_of_eq g2.symm))) h9_h3_hnn h9_h3_h8 h9_h3_hs7) hZ (own_w hw 30 rfl) (own_w hw 25 rfl) (by decide) (by decide)) (g := (mkF m 9 #[.val (.ref a1), .val (.int 0), .val (.int nn), .val (.ref b2), .unset, .unset] [(.int nn), (.int 0), (.ref b2), (.int 0), (.ref a1)])) rfl (by rw [hml]; rfl) (argsL := [(.ref a1), (.int 0), (.ref b2), (.int 0), (.int nn)]) (rest := []) (lenOf pd_29 rfl) rfl (by show 2 * 0 + _ ≤ _; exact Nat.le_of_eq rfl) (hb hby d6_9) (fun _ _ => ⟨rfl, e2, (by decide : 1 + 0 ≤ _), (by decide : 8 + 0 ≤ _)⟩)
  dsimp only [Pt.U, Pt.locs, Pt.cells, Pt.slots] at X6 l6 y6 z6 st6 hQ6
  subst l6 y6 z6
  obtain ⟨rfl, N6q, K6, Y6_0⟩ := hQ6
  have N6 := Fr.app N0 N6q
  replace X6 := X6.more (cells' := 1) (slots' := 8) (by decide) (by decide)
  have K7 : Keep h0 T6.heap [] := K3.trans K6 (allS (Or.inr sz_b2) all0)
  have O8 : Old Z n0 T6.heap := O4.keep K6 (allS g_b2 all0)
  obtain ⟨fs, hr, hrun, hended, hW, hsame⟩ := X6.leave (v := some (.ref b2)) (fun h => by rw [Bd.returns] at h; cases h)
  refine ⟨_, _, pre0 _ ?_, hrun, hended, _, _, rfl, ?_, ⟨_, rfl⟩, hW, hsame.mono (by decide) (by decide)⟩
  · show Steps p.tables e below (s₁.setTop (mkF m 0 #[.val (.ref a1), .val (.int 0), .val (.int nn), .unset, .unset, .unset] [])) _
    refine XS.iloadN X0.here hx rfl (hb hby d6_0) rfl ?_
    refine st2 _ ?_
    refine XS.astoreN X2.here hx rfl (hb hby d6_3) rfl rfl (l' := #[.val (.ref a1), .val (.int 0), .val (.int nn), .val (.ref b2), .unset, .unset]) rfl ?_
    refine XS.aloadN X2.here hx rfl (hb hby d6_4) rfl rfl ?_
    refine XS.iloadN X2.here hx rfl (hb hby d6_5) rfl ?_
    refine XS.aloadN X2.here hx rfl (hb hby d6_6) rfl rfl ?_
    refine XS.iconst X2.here hx rfl (hb hby d6_7) ?_
    refine XS.iloadN X2.here hx rfl (hb hby d6_8) rfl ?_
    show Steps p.tables e below (T2.setTop (mkF m 9 #[.val (.ref a1), .val (.int 0), .val (.int nn), .val (.ref b2), .unset, .unset] [(.int nn), (.int 0), (.ref b2), (.int 0), (.ref a1)])) _
    refine st6 _ ?_
    refine XS.istore X6.here hx rfl (hb hby d6_12) rfl (l' := #[.val (.ref a1), .val (.int 0), .val (.int nn), .val (.ref b2), .val (.int nn), .unset]) rfl ?_
    refine XS.iload X6.here hx rfl (hb hby d6_14) rfl ?_
    refine XS.iloadN X6.here hx rfl (hb hby d6_16) rfl ?_
    refine XS.icmpYes X6.here hx rfl (pc0 := 17) (pc' := 57) rfl (hb hby d6_17) rfl (teq (rfl : nn = nn)).1 (by decide) (by decide) ?_
    refine XS.aloadN X6.here hx rfl (hb hby d6_57) rfl rfl ?_
    exact own_retR X6 hx Bd.returns rfl rfl (hb hby d6_58) hr
  · show Q6L Z a1 k0 nn cs h0 n0 _ T6.heap _
    exact ⟨b2, k2, rfl, N6, K7, sz_b2, Y6_0⟩
theorem d6_20 : decode jdk_52_method_16_code 20 = .ok (.aload_n 0, 1) := by decide +kernel
theorem d6_21 : decode jdk_52_method_16_code 21 = .ok (.iload_n 1, 1) := by decide +kernel
theorem d6_22 : decode jdk_52_method_16_code 22 = .ok (.iload_n 2, 1) := by decide +kernel
theorem d6_23 : decode jdk_52_method_16_code 23 = .ok (.invokestatic 119, 3) := by decide +kernel
theorem pd_27 : parseMethodDescriptor "([CII)[B" = some ⟨[(.array .char), .int, .int], some (.array .byte)⟩ := by decide +kernel
theorem d6_26 : decode jdk_52_method_16_code 26 = .ok (.astore 5, 2) := by decide +kernel
theorem d6_28 : decode jdk_52_method_16_code 28 = .ok (.aload 5, 2) := by decide +kernel
theorem d6_30 : decode jdk_52_method_16_code 30 = .ok (.iload 4, 2) := by decide +kernel
theorem d6_32 : decode jdk_52_method_16_code 32 = .ok (.invokestatic 71, 3) := by decide +kernel
theorem pd_24 : parseMethodDescriptor "([BI)C" = some ⟨[(.array .byte), .int], some .char⟩ := by decide +kernel
theorem d6_35 : decode jdk_52_method_16_code 35 = .ok (.sipush 255, 3) := by decide +kernel
theorem d6_38 : decode jdk_52_method_16_code 38 = .ok (.if_icmp .gt 16, 3) := by decide +kernel
theorem d6_54 : decode jdk_52_method_16_code 54 = .ok (.aload 5, 2) := by decide +kernel
theorem d6_56 : decode jdk_52_method_16_code 56 = .ok (.areturn, 1) := by decide +kernel
def Q6U (Z : State) (a1 : Addr) (k0 : ClassId) (nn : Int32) (cs : List Int32) (h0 : Heap) (n0 : Nat) (v : Option Value) (h : Heap) (L : List Loc) : Prop := ∃ b12 : Addr, ∃ k13 : ClassId, v = some (.ref b12) ∧ Fr n0 L ∧ Keep h0 h [] ∧ h0.size ≤ b12 ∧ Arv Z h b12 k13 .byte (nn <<< ((1 : Int32) &&& 31)) (own_u cs) (.int 0)
theorem rm6U (l : Launch) (Z : State) (a0 : Array Value) (hw : ∀ d ∈ tables_1, d.before a0 Z = true) (ws : List Jvm.Cond) (a1 : Addr) (k0 : ClassId) (nn : Int32) (cs : List Int32) (h0 : Heap) (n0 : Nat) (O0 : Old Z n0 h0) (HV_a1 : Arv Z h0 a1 k0 .char nn (own_us cs) (.int 0)) (hng1 : ¬ (nn < (0 : Int32))) (hcap1 : (nn).toNatClampNeg ≤ 8) (h9_h3_hnn : nn = Int32.ofNat cs.length) (h9_h3_h8 : cs.length ≤ 8) (h9_h3_hu : ∃ j, j < cs.length ∧ (255 : Int32) < cs.getD j 0) (S__assertionsDisabled : Sta Z Z.heap "java/lang/StringUTF16" "$assertionsDisabled" "Z" (.int 1)) (S_HI_BYTE_SHIFT : Sta Z Z.heap "java/lang/StringUTF16" "HI_BYTE_SHIFT" "I" (.int 0)) (S_LO_BYTE_SHIFT : Sta Z Z.heap "java/lang/StringUTF16" "LO_BYTE_SHIFT" "I" (.int 8)) (h23_h1_h1_hc15 : nn < (1073741823 : Int32)) (h23_h1_hng4 : ¬ ((nn <<< ((1 : Int32) &&& 31)) < (0 : Int32))) (h23_h1_hcap4 : ((nn <<< ((1 : Int32) &&& 31))).toNatClampNeg ≤ 16) (h32_hcs : ∀ c ∈ cs, own_ch c) :
    own_C l Z (⟨"java/lang/StringUTF16", "compress", "([CII)[B"⟩ : MethodName) jdk_52_method_16_code 6 (some (.array .byte)) ws ({ frames := 4, cells := 2, slots := 24, locals := 80 } : Room) #[(.ref a1), (.int 0), (.int nn)] h0 (Q6U Z a1 k0 nn cs h0 n0) := by
  refine MetFree.of_bodySF (plainFor_of_name pnc_java_lang_StringUTF16) hisR ?_
  intro p e s m args below meth c s₁ Bd hml0 hP hK
  obtain ⟨rfl, hZ, hh⟩ := hP
  have hx := Bd.exec
  have hby := Bd.bytes
  have hml : c.maxLocals = 6 := hml0
  have hown : s.vm.findClass "java/lang/StringUTF16" = some m.cls := findClass_of_methodNamed Bd.named
  have hnm := (name_of_methodNamed Bd.named Bd.method).1
  have X0 : Stand p l e ({ frames := 4, cells := 2, slots := 24, locals := 80 } : Room) s m #[(.ref a1), (.int 0), (.int nn)] below meth c s₁ [] 0 0 := Stand.of_body Bd
  have e0 : s₁.heap = h0 := by rw [← hh, Bd.state]; rfl
  have N0 := Fr.nil n0
  have Z0 : n0 ≤ h0.size := O0.1 ▸ O0.2.1
  have pre0 : ∀ t, Steps p.tables e below (s₁.setTop (mkF m 0 #[.val (.ref a1), .val (.int 0), .val (.int nn), .unset, .unset, .unset] [])) t → Steps p.tables e below (s₁.setTop (entryFrame m #[(.ref a1), (.int 0), (.int nn)] 6)) t := fun t k => castTop (ef_6a__0___Int32__a m a1 nn) k
  obtain ⟨T2, h2, k2, X2, e2, E2, A2, st2⟩ := newP X0 hx hZ (own_w hw 27 rfl) e0 (g := (mkF m 1 #[.val (.ref a1), .val (.int 0), .val (.int nn), .unset, .unset, .unset] [(.int nn)])) rfl (hb hby d6_1) rfl hng1 (cap := 8) hcap1 (by decide) (by decide) (by decide)
  obtain ⟨b2, g2⟩ : ∃ z, z = h0.size := ⟨_, rfl⟩
  rw [← g2] at A2 st2
  have g_b2 : n0 ≤ b2 := Nat.le_trans (Nat.le_trans Z0 (Keep.refl h0 []).1) (Nat.le_of_eq g2.symm)
  have sz_b2 : h0.size ≤ b2 := Nat.le_trans (Keep.refl h0 []).1 (Nat.le_of_eq g2.symm)
  have K3 : Keep h0 h2 [] := (Keep.refl h0 []).ext E2
  have O4 : Old Z n0 h2 := O0.ext E2
  have V2 : Arv Z h2 b2 k2 .byte nn (own_zs nn) (.int 0) := (Arv.new A2 hng1).pad (pad_rep [] (.int 0) _)
  replace X2 := X2.more (cells' := 1) (slots' := 8) (by decide) (by decide)
  have f5 := (HV_a1.ext E2)
  obtain ⟨vr6, _, ⟨T6, L6, k6, n6⟩, -, X6, ⟨Lc6, hQ6, l6, y6, z6⟩, st6⟩ := Jvm.LawKit.callS X2 hx (y := (⟨"java/lang/StringUTF16", "compress", "([CI[BII)I"⟩ : MethodName)) hown (mvT hZ (own_w hw 28 rfl)) (mvT hZ (own_w hw 29 rfl)) (mvT hZ (own_w hw 25 rfl)) (mvT hZ (own_w hw 30 rfl)) (by decide) (backOf (W := 0) (rm7F l Z a0 hw [] a1 b2 k0 k2 nn cs h2 n0 O4 f5 V2 g_b2 (Nat.ne_of_lt (Nat.lt_of_lt_of_le HV_a1.lt (Nat.le_of_eq g2.symm))) h9_h3_hnn h9_h3_h8 h9_h3_hu) hZ (own_w hw 30 rfl) (own_w hw 25 rfl) (by decide) (by decide)) (g := (mkF m 9 #[.val (.ref a1), .val (.int 0), .val (.int nn), .val (.ref b2), .unset, .unset] [(.int nn), (.int 0), (.ref b2), (.int 0), (.ref a1)])) rfl (by rw [hml]; rfl) (argsL := [(.ref a1), (.int 0), (.ref b2), (.int 0), (.int nn)]) (rest := []) (lenOf pd_29 rfl) rfl (by show 2 * 0 + _ ≤ _; exact Nat.le_of_eq rfl) (hb hby d6_9) (fun _ _ => ⟨rfl, e2, (by decide : 1 + 0 ≤ _), (by decide : 8 + 0 ≤ _)⟩)
  dsimp only [Pt.U, Pt.locs, Pt.cells, Pt.slots] at X6 l6 y6 z6 st6 hQ6
  subst l6 y6 z6
  obtain ⟨y7, rfl, N6q, K6, Y6_0⟩ := hQ6
  have N6 := Fr.app N0 N6q
  replace X6 := X6.more (cells' := 1) (slots' := 8) (by decide) (by decide)
  have K8 : Keep h0 T6.heap [] := K3.trans K6 (allS (Or.inr sz_b2) all0)
  have O9 : Old Z n0 T6.heap := O4.keep K6 (allS g_b2 all0)
  have f10 := (f5.keep K6 (ninS (Nat.ne_of_lt (Nat.lt_of_lt_of_le HV_a1.lt (Nat.le_of_eq g2.symm))) nin0))
  obtain ⟨vr11, _, ⟨T11, L11, k11, n11⟩, -, X11, ⟨Lc11, hQ11, l11, y11, z11⟩, st11⟩ := Jvm.LawKit.callS X6 hx (y := (⟨"java/lang/StringUTF16", "toBytes", "([CII)[B"⟩ : MethodName)) hown (mvT hZ (own_w hw 31 rfl)) (mvT hZ (own_w hw 32 rfl)) (mvT hZ (own_w hw 25 rfl)) (mvT hZ (own_w hw 33 rfl)) (by decide) (backOf (W := 0) (rm8 l Z a0 hw [] a1 k0 nn cs T6.heap n0 O9 f10 hng1 h23_h1_h1_hc15 h23_h1_hng4 h23_h1_hcap4 S__assertionsDisabled S_HI_BYTE_SHIFT S_LO_BYTE_SHIFT h9_h3_hnn h9_h3_h8) hZ (own_w hw 33 rfl) (own_w hw 25 rfl) (by decide) (by decide)) (g := (mkF m 23 #[.val (.ref a1), .val (.int 0), .val (.int nn), .val (.ref b2), .val (.int y7), .unset] [(.int nn), (.int 0), (.ref a1)])) rfl (by rw [hml]; rfl) (argsL := [(.ref a1), (.int 0), (.int nn)]) (rest := []) (lenOf pd_27 rfl) rfl (by show 2 * 0 + _ ≤ _; exact Nat.le_of_eq rfl) (hb hby d6_23) (fun _ _ => ⟨rfl, rfl, (by decide : 1 + 1 ≤ _), (by decide : 8 + 16 ≤ _)⟩)
  dsimp only [Pt.U, Pt.locs, Pt.cells, Pt.slots] at X11 l11 y11 z11 st11 hQ11
  subst l11 y11 z11
  obtain ⟨b12, k13, rfl, N11q, K11, Y11_z0, Y11_0⟩ := hQ11
  have N11 := Fr.app N6 N11q
  replace X11 := X11.more (cells' := 2) (slots' := 24) (by decide) (by decide)
  have g_b12 : n0 ≤ b12 := Nat.le_trans (Nat.le_trans Z0 K8.1) Y11_z0
  have sz_b12 : h0.size ≤ b12 := Nat.le_trans K8.1 Y11_z0
  have K14 : Keep h0 T11.heap [] := K8.trans K11 all0
  have O15 : Old Z n0 T11.heap := O9.keep K11 all0
  obtain ⟨vr16, _, ⟨T16, L16, k16, n16⟩, -, X16, ⟨Lc16, hQ16, l16, y16, z16⟩, st16⟩ := Jvm.LawKit.callS X11 hx (y := (⟨"java/lang/StringUTF16", "getChar", "([BI)C"⟩ : MethodName)) hown (mvT hZ (own_w hw 47 rfl)) (mvT hZ (own_w hw 48 rfl)) (mvT hZ (own_w hw 25 rfl)) (mvT hZ (own_w hw 49 rfl)) (by decide) (backOf (W := 0) (rm12F l Z a0 hw [] b12 y7 nn k13 cs T11.heap n0 O15 Y11_0 h9_h3_hnn h9_h3_h8 h32_hcs S__assertionsDisabled S_HI_BYTE_SHIFT S_LO_BYTE_SHIFT Y6_0) hZ (own_w hw 49 rfl) (own_w hw 25 rfl) (by decide) (by decide)) (g := (mkF m 32 #[.val (.ref a1), .val (.int 0), .val (.int nn), .val (.ref b2), .val (.int y7), .val (.ref b12)] [(.int y7), (.ref b12)])) rfl (by rw [hml]; rfl) (argsL := [(.ref b12), (.int y7)]) (rest := []) (lenOf pd_24 rfl) rfl (by show 2 * 0 + _ ≤ _; exact Nat.le_of_eq rfl) (hb hby d6_32) (fun _ _ => ⟨rfl, rfl, (by decide : 2 + 0 ≤ _), (by decide : 24 + 0 ≤ _)⟩)
  dsimp only [Pt.U, Pt.locs, Pt.cells, Pt.slots] at X16 l16 y16 z16 st16 hQ16
  subst l16 y16 z16
  obtain ⟨y17, rfl, N16q, e16, Y16_0⟩ := hQ16
  have N16 := Fr.app N11 N16q
  replace X16 := X16.more (cells' := 2) (slots' := 24) (by decide) (by decide)
  obtain ⟨fs, hr, hrun, hended, hW, hsame⟩ := X16.leave (v := some (.ref b12)) (fun h => by rw [Bd.returns] at h; cases h)
  refine ⟨_, _, pre0 _ ?_, hrun, hended, _, _, rfl, ?_, ⟨_, rfl⟩, hW, hsame.mono (by decide) (by decide)⟩
  · show Steps p.tables e below (s₁.setTop (mkF m 0 #[.val (.ref a1), .val (.int 0), .val (.int nn), .unset, .unset, .unset] [])) _
    refine XS.iloadN X0.here hx rfl (hb hby d6_0) rfl ?_
    refine st2 _ ?_
    refine XS.astoreN X2.here hx rfl (hb hby d6_3) rfl rfl (l' := #[.val (.ref a1), .val (.int 0), .val (.int nn), .val (.ref b2), .unset, .unset]) rfl ?_
    refine XS.aloadN X2.here hx rfl (hb hby d6_4) rfl rfl ?_
    refine XS.iloadN X2.here hx rfl (hb hby d6_5) rfl ?_
    refine XS.aloadN X2.here hx rfl (hb hby d6_6) rfl rfl ?_
    refine XS.iconst X2.here hx rfl (hb hby d6_7) ?_
    refine XS.iloadN X2.here hx rfl (hb hby d6_8) rfl ?_
    show Steps p.tables e below (T2.setTop (mkF m 9 #[.val (.ref a1), .val (.int 0), .val (.int nn), .val (.ref b2), .unset, .unset] [(.int nn), (.int 0), (.ref b2), (.int 0), (.ref a1)])) _
    refine st6 _ ?_
    refine XS.istore X6.here hx rfl (hb hby d6_12) rfl (l' := #[.val (.ref a1), .val (.int 0), .val (.int nn), .val (.ref b2), .val (.int y7), .unset]) rfl ?_
    refine XS.iload X6.here hx rfl (hb hby d6_14) rfl ?_
    refine XS.iloadN X6.here hx rfl (hb hby d6_16) rfl ?_
    refine XS.icmpNo X6.here hx rfl (hb hby d6_17) rfl (feq (own_fst_ne h9_h3_hnn h9_h3_h8 Y6_0 : ¬ (y7 = nn))).1 ?_
    refine XS.aloadN X6.here hx rfl (hb hby d6_20) rfl rfl ?_
    refine XS.iloadN X6.here hx rfl (hb hby d6_21) rfl ?_
    show Steps p.tables e below (T6.setTop (mkF m 22 #[.val (.ref a1), .val (.int 0), .val (.int nn), .val (.ref b2), .val (.int y7), .unset] [(.int 0), (.ref a1)])) _
    refine XS.iloadN X6.here hx rfl (hb hby d6_22) rfl ?_
    refine st11 _ ?_
    refine XS.astore X11.here hx rfl (hb hby d6_26) rfl rfl (l' := #[.val (.ref a1), .val (.int 0), .val (.int nn), .val (.ref b2), .val (.int y7), .val (.ref b12)]) rfl ?_
    refine XS.aload X11.here hx rfl (hb hby d6_28) rfl rfl ?_
    refine XS.iload X11.here hx rfl (hb hby d6_30) rfl ?_
    refine st16 _ ?_
    refine XS.sipush X16.here hx rfl (hb hby d6_35) ?_
    refine XS.icmpYes X16.here hx rfl (pc0 := 38) (pc' := 54) rfl (hb hby d6_38) rfl (tlt Y16_0).2.2.1 (by decide) (by decide) ?_
    refine XS.aload X16.here hx rfl (hb hby d6_54) rfl rfl ?_
    exact own_retR X16 hx Bd.returns rfl rfl (hb hby d6_56) hr
  · show Q6U Z a1 k0 nn cs h0 n0 _ T16.heap _
    rw [e16]
    exact ⟨b12, k13, rfl, N16, K14, sz_b12, Y11_0⟩
theorem own_cd0 (nn : Int32) : nar .byte ((nn - nn).toUInt32 >>> ((31 : Int32) &&& 31).toUInt32).toInt32.toInt8.toInt32 = 0 := by
  rw [Int32.sub_self]; decide
theorem own_cd1 {nn : Int32} {n : Nat} (hnn : nn = Int32.ofNat n) (h1 : 0 < n) (h8 : n ≤ 8) : nar .byte ((nn - (nn <<< ((1 : Int32) &&& 31))).toUInt32 >>> ((31 : Int32) &&& 31).toUInt32).toInt32.toInt8.toInt32 = 1 := by
  subst hnn
  have q : ∀ j : Fin 9, 0 < j.1 → nar .byte ((Int32.ofNat j.1 - (Int32.ofNat j.1 <<< ((1 : Int32) &&& 31))).toUInt32 >>> ((31 : Int32) &&& 31).toUInt32).toInt32.toInt8.toInt32 = 1 := by decide
  exact q ⟨n, by omega⟩ h1
theorem own_good {cs : List Int32} (h : ∀ c ∈ cs, own_ch c) (hu : ¬ ∃ j, j < cs.length ∧ (255 : Int32) < cs.getD j 0) : ∀ c ∈ cs, ¬ c < 0 ∧ ¬ (255 : Int32) < c := fun c hc => ⟨(h c hc).1, fun q => by
  obtain ⟨j, hj, rfl⟩ := List.getElem_of_mem hc
  exact hu ⟨j, hj, by rw [List.getD_eq_getElem?_getD, List.getElem?_eq_getElem hj]; exact q⟩⟩
theorem own_sz {nn : Int32} {n : Nat} (hnn : nn = Int32.ofNat n) (h8 : n ≤ 8) : ¬ (nn < (0 : Int32)) ∧ (nn).toNatClampNeg ≤ 8 ∧ nn < (1073741823 : Int32) ∧ ¬ ((nn <<< ((1 : Int32) &&& 31)) < (0 : Int32)) ∧ ((nn <<< ((1 : Int32) &&& 31))).toNatClampNeg ≤ 16 := by
  subst hnn
  have q : ∀ j : Fin 9, ¬ (Int32.ofNat j.1 < (0 : Int32)) ∧ (Int32.ofNat j.1).toNatClampNeg ≤ 8 ∧ Int32.ofNat j.1 < (1073741823 : Int32) ∧ ¬ ((Int32.ofNat j.1 <<< ((1 : Int32) &&& 31)) < (0 : Int32)) ∧ ((Int32.ofNat j.1 <<< ((1 : Int32) &&& 31))).toNatClampNeg ≤ 16 := by decide
  exact q ⟨n, by omega⟩
theorem own_n0 {nn : Int32} {n : Nat} (hnn : nn = Int32.ofNat n) (h1 : 0 < n) (h8 : n ≤ 8) : ¬ (nn = (0 : Int32)) := by
  subst hnn
  have q : ∀ j : Fin 9, 0 < j.1 → ¬ (Int32.ofNat j.1 = (0 : Int32)) := by decide
  exact q ⟨n, by omega⟩ h1
theorem d13_0 : decode jdk_52_method_15_code 0 = .ok (.iload_n 1, 1) := by decide +kernel
theorem d13_1 : decode jdk_52_method_15_code 1 = .ok (.aload_n 0, 1) := by decide +kernel
theorem d13_2 : decode jdk_52_method_15_code 2 = .ok (.arraylength, 1) := by decide +kernel
theorem d13_3 : decode jdk_52_method_15_code 3 = .ok (.isub, 1) := by decide +kernel
theorem d13_4 : decode jdk_52_method_15_code 4 = .ok (.bipush 31, 2) := by decide +kernel
theorem d13_6 : decode jdk_52_method_15_code 6 = .ok (.iushr, 1) := by decide +kernel
theorem d13_7 : decode jdk_52_method_15_code 7 = .ok (.i2b, 1) := by decide +kernel
theorem d13_8 : decode jdk_52_method_15_code 8 = .ok (.ireturn, 1) := by decide +kernel
def Q13L (Z : State) (a1 : Addr) (nn : Int32) (k9 : ClassId) (vs : List Value) (h0 : Heap) (n0 : Nat) (v : Option Value) (h : Heap) (L : List Loc) : Prop := v = some (.int (nar .byte ((((nn - nn).toUInt32 >>> ((31 : Int32) &&& 31).toUInt32).toInt32).toInt8.toInt32))) ∧ Fr n0 L ∧ h = h0
theorem ef_13 (m : MethodId) (x0 : Addr) (x1 : Int32) : entryFrame m #[(.ref x0), (.int x1)] 2 = mkF m 0 #[.val (.ref x0), .val (.int x1)] [] := by first | (simp [entryFrame, mkF, argsToLocals, Value.category]; done) | rfl
theorem rm13L (l : Launch) (Z : State) (a0 : Array Value) (hw : ∀ d ∈ tables_1, d.before a0 Z = true) (ws : List Jvm.Cond) (a1 : Addr) (nn : Int32) (k9 : ClassId) (vs : List Value) (h0 : Heap) (n0 : Nat) (O0 : Old Z n0 h0) (HV_a1 : Arv Z h0 a1 k9 .byte nn vs (.int 0)) :
    own_C l Z (⟨"java/lang/StringUTF16", "coderFromArrayLen", "([BI)B"⟩ : MethodName) jdk_52_method_15_code 2 (some .byte) ws ({ frames := 0, cells := 0, slots := 0, locals := 0 } : Room) #[(.ref a1), (.int nn)] h0 (Q13L Z a1 nn k9 vs h0 n0) := by
  refine MetFree.of_bodySF (plainFor_of_name pnc_java_lang_StringUTF16) hisR ?_
  intro p e s m args below meth c s₁ Bd hml0 hP hK
  obtain ⟨rfl, hZ, hh⟩ := hP
  have hx := Bd.exec
  have hby := Bd.bytes
  have hml : c.maxLocals = 2 := hml0
  have hown : s.vm.findClass "java/lang/StringUTF16" = some m.cls := findClass_of_methodNamed Bd.named
  have hnm := (name_of_methodNamed Bd.named Bd.method).1
  have X0 : Stand p l e ({ frames := 0, cells := 0, slots := 0, locals := 0 } : Room) s m #[(.ref a1), (.int nn)] below meth c s₁ [] 0 0 := Stand.of_body Bd
  have e0 : s₁.heap = h0 := by rw [← hh, Bd.state]; rfl
  have N0 := Fr.nil n0
  have Z0 : n0 ≤ h0.size := O0.1 ▸ O0.2.1
  have pre0 : ∀ t, Steps p.tables e below (s₁.setTop (mkF m 0 #[.val (.ref a1), .val (.int nn)] [])) t → Steps p.tables e below (s₁.setTop (entryFrame m #[(.ref a1), (.int nn)] 2)) t := fun t k => castTop (ef_13 m a1 nn) k
  obtain ⟨cl2, Ar2, q2, S2, Nn2, Hh2, G2⟩ := id HV_a1
  obtain ⟨fs, hr, hrun, hended, hW, hsame⟩ := X0.leave (v := some (.int (nar .byte ((((nn - nn).toUInt32 >>> ((31 : Int32) &&& 31).toUInt32).toInt32).toInt8.toInt32)))) (fun h => by rw [Bd.returns] at h; cases h)
  refine ⟨_, _, pre0 _ ?_, hrun, hended, _, _, rfl, ?_, ⟨_, rfl⟩, hW, hsame.mono (by decide) (by decide)⟩
  · show Steps p.tables e below (s₁.setTop (mkF m 0 #[.val (.ref a1), .val (.int nn)] [])) _
    refine XS.iloadN X0.here hx rfl (hb hby d13_0) rfl ?_
    refine XS.aloadN X0.here hx rfl (hb hby d13_1) rfl rfl ?_
    show Steps p.tables e below (s₁.setTop (mkF m 2 #[.val (.ref a1), .val (.int nn)] [(.ref a1), (.int nn)])) _
    refine X0.arraylength hx (by rw [e0]; exact Ar2.1) (State.isArrayOf_alike hZ.alike Ar2.2.1) (g := (mkF m 2 #[.val (.ref a1), .val (.int nn)] [(.ref a1), (.int nn)])) rfl rfl (hb hby d13_2) _ ?_
    rw [len_of S2 Nn2]
    refine XS.isub X0.here hx rfl (hb hby d13_3) rfl ?_
    refine XS.bipush X0.here hx rfl (hb hby d13_4) ?_
    refine XS.iushr X0.here hx rfl (hb hby d13_6) rfl ?_
    refine XS.i2b X0.here hx rfl (hb hby d13_7) rfl ?_
    exact retN X0 hx (t := .byte) Bd.returns (by simp) (hb hby d13_8) hr
  · show Q13L Z a1 nn k9 vs h0 n0 _ s₁.heap _
    rw [e0]
    exact ⟨rfl, N0, rfl⟩
theorem d4_0 : decode jdk_42_method_149_code 0 = .ok (.aload_n 0, 1) := by decide +kernel
theorem d4_1 : decode jdk_42_method_149_code 1 = .ok (.invokespecial 1, 3) := by decide +kernel
theorem d4_4 : decode jdk_42_method_149_code 4 = .ok (.iload_n 3, 1) := by decide +kernel
theorem d4_5 : decode jdk_42_method_149_code 5 = .ok (.ifCond .ne 22, 3) := by decide +kernel
theorem d4_27 : decode jdk_42_method_149_code 27 = .ok (.getstatic 38, 3) := by decide +kernel
theorem d4_30 : decode jdk_42_method_149_code 30 = .ok (.ifCond .eq 28, 3) := by decide +kernel
theorem d4_33 : decode jdk_42_method_149_code 33 = .ok (.aload_n 1, 1) := by decide +kernel
theorem d4_34 : decode jdk_42_method_149_code 34 = .ok (.iload_n 2, 1) := by decide +kernel
theorem d4_35 : decode jdk_42_method_149_code 35 = .ok (.iload_n 3, 1) := by decide +kernel
theorem d4_36 : decode jdk_42_method_149_code 36 = .ok (.invokestatic 177, 3) := by decide +kernel
theorem d4_39 : decode jdk_42_method_149_code 39 = .ok (.astore 5, 2) := by decide +kernel
theorem d4_41 : decode jdk_42_method_149_code 41 = .ok (.aload_n 0, 1) := by decide +kernel
theorem d4_42 : decode jdk_42_method_149_code 42 = .ok (.aload 5, 2) := by decide +kernel
theorem d4_44 : decode jdk_42_method_149_code 44 = .ok (.iload_n 3, 1) := by decide +kernel
theorem d4_45 : decode jdk_42_method_149_code 45 = .ok (.invokestatic 47, 3) := by decide +kernel
theorem pd_23 : parseMethodDescriptor "([BI)B" = some ⟨[(.array .byte), .int], some .byte⟩ := by decide +kernel
theorem d4_48 : decode jdk_42_method_149_code 48 = .ok (.putfield 15, 3) := by decide +kernel
theorem d4_51 : decode jdk_42_method_149_code 51 = .ok (.aload_n 0, 1) := by decide +kernel
theorem d4_52 : decode jdk_42_method_149_code 52 = .ok (.aload 5, 2) := by decide +kernel
theorem d4_54 : decode jdk_42_method_149_code 54 = .ok (.putfield 9, 3) := by decide +kernel
theorem d4_57 : decode jdk_42_method_149_code 57 = .ok (.return_, 1) := by decide +kernel
def Q4L (Z : State) (a1 a2 : Addr) (k0 : ClassId) (nn : Int32) (cs : List Int32) (zC : Int32) (h0 : Heap) (n0 : Nat) (v : Option Value) (h : Heap) (L : List Loc) : Prop := ∃ b6 : Addr, ∃ k7 : ClassId, v = none ∧ Fr n0 L ∧ Keep h0 h [a1] ∧ h0.size ≤ b6 ∧ Exa Z h a1 "java/lang/String" ∧ Fld Z h a1 "java/lang/String" "coder" "B" (.int 0) ∧ Fld Z h a1 "java/lang/String" "value" "[B" (.ref b6) ∧ Arv Z h b6 k7 .byte nn (own_l cs) (.int 0)
theorem ef_4aa__0___Int32__an (m : MethodId) (x0 : Addr) (x1 : Addr) (x3 : Int32) : entryFrame m #[(.ref x0), (.ref x1), (.int 0), (.int x3), .null] 6 = mkF m 0 #[.val (.ref x0), .val (.ref x1), .val (.int 0), .val (.int x3), .val .null, .unset] [] := by first | (simp [entryFrame, mkF, argsToLocals, Value.category]; done) | rfl
theorem rm4L (l : Launch) (Z : State) (a0 : Array Value) (hw : ∀ d ∈ tables_1, d.before a0 Z = true) (ws : List Jvm.Cond) (a1 a2 : Addr) (k0 : ClassId) (nn : Int32) (cs : List Int32) (zC : Int32) (h0 : Heap) (n0 : Nat) (O0 : Old Z n0 h0) (HE_a1 : Exa Z h0 a1 "java/lang/String") (HF_a1_value : Fld Z h0 a1 "java/lang/String" "value" "[B" .null) (HF_a1_coder : Fld Z h0 a1 "java/lang/String" "coder" "B" (.int 0)) (HV_a2 : Arv Z h0 a2 k0 .char nn (own_us cs) (.int 0)) (hc5 : ¬ (nn = (0 : Int32))) (S_COMPACT_STRINGS : Sta Z Z.heap "java/lang/String" "COMPACT_STRINGS" "Z" (.int zC)) (hc30 : ¬ (zC = (0 : Int32))) (h36_hng1 : ¬ (nn < (0 : Int32))) (h36_hcap1 : (nn).toNatClampNeg ≤ 8) (h36_h9_h3_hnn : nn = Int32.ofNat cs.length) (h36_h9_h3_h8 : cs.length ≤ 8) (h36_h9_h3_hs7 : ∀ j, j < cs.length → ¬ ((255 : Int32) < cs.getD j 0)) (own_cd48 : (nar .byte ((((nn - nn).toUInt32 >>> ((31 : Int32) &&& 31).toUInt32).toInt32).toInt8.toInt32)) = (0 : Int32)) (g_a1 : n0 ≤ a1) :
    own_C l Z (⟨"java/lang/String", "<init>", "([CIILjava/lang/Void;)V"⟩ : MethodName) jdk_42_method_149_code 6 none ws ({ frames := 5, cells := 2, slots := 24, locals := 105 } : Room) #[(.ref a1), (.ref a2), (.int 0), (.int nn), .null] h0 (Q4L Z a1 a2 k0 nn cs zC h0 n0) := by
  refine MetFree.of_bodySF (plainFor_of_name pnc_java_lang_String) hisR ?_
  intro p e s m args below meth c s₁ Bd hml0 hP hK
  obtain ⟨rfl, hZ, hh⟩ := hP
  have hx := Bd.exec
  have hby := Bd.bytes
  have hml : c.maxLocals = 6 := hml0
  have hown : s.vm.findClass "java/lang/String" = some m.cls := findClass_of_methodNamed Bd.named
  have hnm := (name_of_methodNamed Bd.named Bd.method).1
  have X0 : Stand p l e ({ frames := 5, cells := 2, slots := 24, locals := 105 } : Room) s m #[(.ref a1), (.ref a2), (.int 0), (.int nn), .null] below meth c s₁ [] 0 0 := Stand.of_body Bd
  have e0 : s₁.heap = h0 := by rw [← hh, Bd.state]; rfl
  have N0 := Fr.nil n0
  have Z0 : n0 ≤ h0.size := O0.1 ▸ O0.2.1
  have pre0 : ∀ t, Steps p.tables e below (s₁.setTop (mkF m 0 #[.val (.ref a1), .val (.ref a2), .val (.int 0), .val (.int nn), .val .null, .unset] [])) t → Steps p.tables e below (s₁.setTop (entryFrame m #[(.ref a1), (.ref a2), (.int 0), (.int nn), .null] 6)) t := fun t k => castTop (ef_4aa__0___Int32__an m a1 a2 nn) k
  obtain ⟨T3, X3, e3, st3⟩ := initO X0 hx hZ hown (own_w hw 19 rfl) (own_w hw 20 rfl) (own_w hw 21 rfl) e0 (g := (mkF m 1 #[.val (.ref a1), .val (.ref a2), .val (.int 0), .val (.int nn), .val .null, .unset] [(.ref a1)])) rfl (by rw [hml]; rfl) rfl (hb hby d4_1) (by decide) (W := 0) (by show 2 * 0 + _ ≤ _; exact Nat.le_of_eq rfl) (by decide)
  obtain ⟨T4, X4, e4, st4⟩ := getS2 X3 hx hZ hown (host := "") (Or.inl (own_w hw 22 rfl)) Via.refl e3 (S_COMPACT_STRINGS.ext O0.2) (g := (mkF m 27 #[.val (.ref a1), .val (.ref a2), .val (.int 0), .val (.int nn), .val .null, .unset] [])) rfl (hb hby d4_27)
  obtain ⟨vr5, _, ⟨T5, L5, k5, n5⟩, -, X5, ⟨Lc5, hQ5, l5, y5, z5⟩, st5⟩ := Jvm.LawKit.callS X4 hx (y := (⟨"java/lang/StringUTF16", "compress", "([CII)[B"⟩ : MethodName)) hown (mvT hZ (own_w hw 23 rfl)) (mvT hZ (own_w hw 24 rfl)) (mvT hZ (own_w hw 25 rfl)) (mvT hZ (own_w hw 26 rfl)) (by decide) (backOf (W := 0) (rm6L l Z a0 hw [] a2 k0 nn cs h0 n0 O0 HV_a2 h36_hng1 h36_hcap1 h36_h9_h3_hnn h36_h9_h3_h8 h36_h9_h3_hs7) hZ (own_w hw 26 rfl) (own_w hw 25 rfl) (by decide) (by decide)) (g := (mkF m 36 #[.val (.ref a1), .val (.ref a2), .val (.int 0), .val (.int nn), .val .null, .unset] [(.int nn), (.int 0), (.ref a2)])) rfl (by rw [hml]; rfl) (argsL := [(.ref a2), (.int 0), (.int nn)]) (rest := []) (lenOf pd_27 rfl) rfl (by show 2 * 0 + _ ≤ _; exact Nat.le_of_eq rfl) (hb hby d4_36) (fun _ _ => ⟨rfl, e4, (by decide : 0 + 1 ≤ _), (by decide : 0 + 8 ≤ _)⟩)
  dsimp only [Pt.U, Pt.locs, Pt.cells, Pt.slots] at X5 l5 y5 z5 st5 hQ5
  subst l5 y5 z5
  obtain ⟨b6, k7, rfl, N5q, K5, Y5_z0, Y5_0⟩ := hQ5
  have N5 := Fr.app N0 N5q
  replace X5 := X5.more (cells' := 1) (slots' := 8) (by decide) (by decide)
  have g_b6 : n0 ≤ b6 := Nat.le_trans (Nat.le_trans Z0 (Keep.refl h0 [a1]).1) Y5_z0
  have sz_b6 : h0.size ≤ b6 := Nat.le_trans (Keep.refl h0 [a1]).1 Y5_z0
  have K8 : Keep h0 T5.heap [a1] := (Keep.refl h0 [a1]).trans K5 all0
  have O9 : Old Z n0 T5.heap := O0.keep K5 all0
  obtain ⟨vr10, _, ⟨T10, L10, k10, n10⟩, -, X10, ⟨Lc10, hQ10, l10, y10, z10⟩, st10⟩ := Jvm.LawKit.callS X5 hx (y := (⟨"java/lang/StringUTF16", "coderFromArrayLen", "([BI)B"⟩ : MethodName)) hown (mvT hZ (own_w hw 50 rfl)) (mvT hZ (own_w hw 51 rfl)) (mvT hZ (own_w hw 25 rfl)) (mvT hZ (own_w hw 52 rfl)) (by decide) (backOf (W := 1) (rm13L l Z a0 hw [] b6 nn k7 ((own_l cs)) T5.heap n0 O9 Y5_0) hZ (own_w hw 52 rfl) (own_w hw 25 rfl) (by decide) (by decide)) (g := (mkF m 45 #[.val (.ref a1), .val (.ref a2), .val (.int 0), .val (.int nn), .val .null, .val (.ref b6)] [(.int nn), (.ref b6), (.ref a1)])) rfl (by rw [hml]; rfl) (argsL := [(.ref b6), (.int nn)]) (rest := [(.ref a1)]) (lenOf pd_23 rfl) rfl (by show 2 * 0 + _ ≤ _; exact Nat.le_of_eq rfl) (hb hby d4_45) (fun _ _ => ⟨rfl, rfl, (by decide : 1 + 0 ≤ _), (by decide : 8 + 0 ≤ _)⟩)
  dsimp only [Pt.U, Pt.locs, Pt.cells, Pt.slots] at X10 l10 y10 z10 st10 hQ10
  subst l10 y10 z10
  obtain ⟨rfl, N10q, e10⟩ := hQ10
  have N10 := Fr.app N5 N10q
  replace X10 := X10.more (cells' := 1) (slots' := 8) (by decide) (by decide)
  have f11 := (HE_a1.keep K5)
  have f12 := (HF_a1_coder.keep K5 nin0)
  obtain ⟨T13, h13, X13, e13, W13, st13⟩ := putFN X10 hx hZ hown (own_w hw 53 rfl) Via.refl e10 f12 f11 (Or.inr ⟨(own_w hw 54 rfl), rfl, hnm⟩) (own_w hw 10 rfl) (ty := .byte) (v' := (.int 0)) (by decide) rfl rfl (g := (mkF m 48 #[.val (.ref a1), .val (.ref a2), .val (.int 0), .val (.int nn), .val .null, .val (.ref b6)] [(.int 0), (.ref a1)])) rfl rfl (hb hby d4_48)
  have N13 := Fr.snoc X13 N10 g_a1
  have K14 : Keep h0 h13 [a1] := K8.wr W13 (Or.inl (List.mem_of_getElem? (i := 0) rfl))
  have O15 : Old Z n0 h13 := O9.wr W13 g_a1
  have Fw13 : Fld Z h13 a1 "java/lang/String" "coder" "B" (.int 0) := f12.same W13
  have f16 := (f11.wr W13)
  have f17 := ((HF_a1_value.keep K5 nin0).other W13 (Or.inr (slot_ne (Or.inr (own_w hw 56 rfl)) (Or.inr (own_w hw 54 rfl)) (by decide) (t := (.array .byte)) (t' := .byte) (by decide) (by decide))))
  obtain ⟨T18, h18, X18, e18, W18, st18⟩ := putF X13 hx hZ hown (host := "") (Or.inl (own_w hw 55 rfl)) Via.refl e13 f17 f16 (Or.inr ⟨(own_w hw 56 rfl), rfl, hnm⟩) (own_w hw 10 rfl) (ty := (.array .byte)) (by decide) rfl rfl (g := (mkF m 54 #[.val (.ref a1), .val (.ref a2), .val (.int 0), .val (.int nn), .val .null, .val (.ref b6)] [(.ref b6), (.ref a1)])) rfl rfl (hb hby d4_54)
  have N18 := Fr.snoc X18 N13 g_a1
  have K19 : Keep h0 h18 [a1] := K14.wr W18 (Or.inl (List.mem_of_getElem? (i := 0) rfl))
  have O20 : Old Z n0 h18 := O15.wr W18 g_a1
  have Fw18 : Fld Z h18 a1 "java/lang/String" "value" "[B" (.ref b6) := f17.same W18
  have f21 := (f16.wr W18)
  have f22 := (Fw13.other W18 (Or.inr (slot_ne (Or.inr (own_w hw 54 rfl)) (Or.inr (own_w hw 56 rfl)) (by decide) (t := .byte) (t' := (.array .byte)) (by decide) (by decide))))
  have f23 := ((Y5_0.other W13 (Ne.symm (Nat.ne_of_lt (Nat.lt_of_lt_of_le HE_a1.lt Y5_z0)))).other W18 (Ne.symm (Nat.ne_of_lt (Nat.lt_of_lt_of_le HE_a1.lt Y5_z0))))
  obtain ⟨fs, hr, hrun, hended, hW, hsame⟩ := X18.leave (v := none) (fun _ => rfl)
  refine ⟨_, _, pre0 _ ?_, hrun, hended, _, _, rfl, ?_, ⟨_, rfl⟩, hW, hsame.mono (by decide) (by decide)⟩
  · show Steps p.tables e below (s₁.setTop (mkF m 0 #[.val (.ref a1), .val (.ref a2), .val (.int 0), .val (.int nn), .val .null, .unset] [])) _
    refine XS.aloadN X0.here hx rfl (hb hby d4_0) rfl rfl ?_
    refine st3 _ ?_
    refine XS.iloadN X3.here hx rfl (hb hby d4_4) rfl ?_
    refine XS.ifYes X3.here hx rfl (pc0 := 5) (pc' := 27) rfl (hb hby d4_5) rfl ((if0 _ _).trans (feq hc5).2) (by decide) (by decide) ?_
    refine st4 _ ?_
    refine XS.ifNo X4.here hx rfl (hb hby d4_30) rfl ((if0 _ _).trans (feq hc30).1) ?_
    refine XS.aloadN X4.here hx rfl (hb hby d4_33) rfl rfl ?_
    refine XS.iloadN X4.here hx rfl (hb hby d4_34) rfl ?_
    refine XS.iloadN X4.here hx rfl (hb hby d4_35) rfl ?_
    refine st5 _ ?_
    refine XS.astore X5.here hx rfl (hb hby d4_39) rfl rfl (l' := #[.val (.ref a1), .val (.ref a2), .val (.int 0), .val (.int nn), .val .null, .val (.ref b6)]) rfl ?_
    refine XS.aloadN X5.here hx rfl (hb hby d4_41) rfl rfl ?_
    refine XS.aload X5.here hx rfl (hb hby d4_42) rfl rfl ?_
    refine XS.iloadN X5.here hx rfl (hb hby d4_44) rfl ?_
    refine st10 _ ?_
    show Steps p.tables e below (T10.setTop (mkF m 48 #[.val (.ref a1), .val (.ref a2), .val (.int 0), .val (.int nn), .val .null, .val (.ref b6)] [(.int (nar .byte ((((nn - nn).toUInt32 >>> ((31 : Int32) &&& 31).toUInt32).toInt32).toInt8.toInt32))), (.ref a1)])) _
    rw [own_cd48]
    show Steps p.tables e below (T10.setTop (mkF m 48 #[.val (.ref a1), .val (.ref a2), .val (.int 0), .val (.int nn), .val .null, .val (.ref b6)] [(.int 0), (.ref a1)])) _
    refine st13 _ ?_
    refine XS.aloadN X13.here hx rfl (hb hby d4_51) rfl rfl ?_
    refine XS.aload X13.here hx rfl (hb hby d4_52) rfl rfl ?_
    refine st18 _ ?_
    exact X18.returnOut hx Bd.returns (hb hby d4_57) hr
  · show Q4L Z a1 a2 k0 nn cs zC h0 n0 _ T18.heap _
    rw [e18]
    exact ⟨b6, k7, rfl, N18, K19, sz_b6, f21, f22, Fw18, f23⟩
theorem d3_0 : decode jdk_42_method_3_code 0 = .ok (.aload_n 0, 1) := by decide +kernel
theorem d3_1 : decode jdk_42_method_3_code 1 = .ok (.aload_n 1, 1) := by decide +kernel
theorem d3_2 : decode jdk_42_method_3_code 2 = .ok (.iconst 0, 1) := by decide +kernel
theorem d3_3 : decode jdk_42_method_3_code 3 = .ok (.aload_n 1, 1) := by decide +kernel
theorem d3_4 : decode jdk_42_method_3_code 4 = .ok (.arraylength, 1) := by decide +kernel
theorem d3_5 : decode jdk_42_method_3_code 5 = .ok (.aconst_null, 1) := by decide +kernel
theorem d3_6 : decode jdk_42_method_3_code 6 = .ok (.invokespecial 27, 3) := by decide +kernel
theorem pd_28 : parseMethodDescriptor "([CIILjava/lang/Void;)V" = some ⟨[(.array .char), .int, .int, (.object "java/lang/Void")], none⟩ := by decide +kernel
theorem d3_9 : decode jdk_42_method_3_code 9 = .ok (.return_, 1) := by decide +kernel
def Q3L (Z : State) (a1 a2 : Addr) (k0 : ClassId) (nn : Int32) (cs : List Int32) (zC : Int32) (h0 : Heap) (n0 : Nat) (v : Option Value) (h : Heap) (L : List Loc) : Prop := v = none ∧ Fr n0 L ∧ Keep h0 h [a1] ∧ Exa Z h a1 "java/lang/String" ∧ own_Str Z h h.size a1 cs
theorem ef_3 (m : MethodId) (x0 : Addr) (x1 : Addr) : entryFrame m #[(.ref x0), (.ref x1)] 2 = mkF m 0 #[.val (.ref x0), .val (.ref x1)] [] := by first | (simp [entryFrame, mkF, argsToLocals, Value.category]; done) | rfl
theorem rm3L (l : Launch) (Z : State) (a0 : Array Value) (hw : ∀ d ∈ tables_1, d.before a0 Z = true) (ws : List Jvm.Cond) (a1 a2 : Addr) (k0 : ClassId) (nn : Int32) (cs : List Int32) (zC : Int32) (h0 : Heap) (n0 : Nat) (O0 : Old Z n0 h0) (HE_a1 : Exa Z h0 a1 "java/lang/String") (HF_a1_value : Fld Z h0 a1 "java/lang/String" "value" "[B" .null) (HF_a1_coder : Fld Z h0 a1 "java/lang/String" "coder" "B" (.int 0)) (HV_a2 : Arv Z h0 a2 k0 .char nn (own_us cs) (.int 0)) (S_COMPACT_STRINGS : Sta Z Z.heap "java/lang/String" "COMPACT_STRINGS" "Z" (.int zC)) (h6_hc5 : ¬ (nn = (0 : Int32))) (h6_hc30 : ¬ (zC = (0 : Int32))) (h6_h36_hng1 : ¬ (nn < (0 : Int32))) (h6_h36_hcap1 : (nn).toNatClampNeg ≤ 8) (h6_h36_h9_h3_hnn : nn = Int32.ofNat cs.length) (h6_h36_h9_h3_h8 : cs.length ≤ 8) (h6_h36_h9_h3_hs7 : ∀ j, j < cs.length → ¬ ((255 : Int32) < cs.getD j 0)) (h6_own_cd48 : (nar .byte ((((nn - nn).toUInt32 >>> ((31 : Int32) &&& 31).toUInt32).toInt32).toInt8.toInt32)) = (0 : Int32)) (g_a1 : n0 ≤ a1) (hgd : ∀ c ∈ cs, ¬ c < 0 ∧ ¬ (255 : Int32) < c) :
    own_C l Z (⟨"java/lang/String", "<init>", "([C)V"⟩ : MethodName) jdk_42_method_3_code 2 none ws ({ frames := 6, cells := 2, slots := 24, locals := 130 } : Room) #[(.ref a1), (.ref a2)] h0 (Q3L Z a1 a2 k0 nn cs zC h0 n0) := by
  refine MetFree.of_bodySF (plainFor_of_name pnc_java_lang_String) hisR ?_
  intro p e s m args below meth c s₁ Bd hml0 hP hK
  obtain ⟨rfl, hZ, hh⟩ := hP
  have hx := Bd.exec
  have hby := Bd.bytes
  have hml : c.maxLocals = 2 := hml0
  have hown : s.vm.findClass "java/lang/String" = some m.cls := findClass_of_methodNamed Bd.named
  have hnm := (name_of_methodNamed Bd.named Bd.method).1
  have X0 : Stand p l e ({ frames := 6, cells := 2, slots := 24, locals := 130 } : Room) s m #[(.ref a1), (.ref a2)] below meth c s₁ [] 0 0 := Stand.of_body Bd
  have e0 : s₁.heap = h0 := by rw [← hh, Bd.state]; rfl
  have N0 := Fr.nil n0
  have Z0 : n0 ≤ h0.size := O0.1 ▸ O0.2.1
  have pre0 : ∀ t, Steps p.tables e below (s₁.setTop (mkF m 0 #[.val (.ref a1), .val (.ref a2)] [])) t → Steps p.tables e below (s₁.setTop (entryFrame m #[(.ref a1), (.ref a2)] 2)) t := fun t k => castTop (ef_3 m a1 a2) k
  obtain ⟨cl3, Ar3, q3, S3, Nn3, Hh3, G3⟩ := id HV_a2
  obtain ⟨vr4, _, ⟨T4, L4, k4, n4⟩, -, X4, ⟨Lc4, hQ4, l4, y4, z4⟩, st4⟩ := X0.specialBack hx (y := (⟨"java/lang/String", "<init>", "([CIILjava/lang/Void;)V"⟩ : MethodName)) rfl hown (mvT hZ (own_w hw 15 rfl)) (mvT hZ (own_w hw 16 rfl)) (mvT hZ (own_w hw 18 rfl)) (by decide) (backOf (W := 0) (rm4L l Z a0 hw [] a1 a2 k0 nn cs zC h0 n0 O0 HE_a1 HF_a1_value HF_a1_coder HV_a2 h6_hc5 S_COMPACT_STRINGS h6_hc30 h6_h36_hng1 h6_h36_hcap1 h6_h36_h9_h3_hnn h6_h36_h9_h3_h8 h6_h36_h9_h3_hs7 h6_own_cd48 g_a1) hZ (own_w hw 18 rfl) (own_w hw 11 rfl) (by decide) (by decide)) (g := (mkF m 6 #[.val (.ref a1), .val (.ref a2)] [.null, (.int nn), (.int 0), (.ref a2), (.ref a1)])) rfl (by rw [hml]; rfl) (Steps.refl _) (a := a1) (argsL := [(.ref a2), (.int 0), (.int nn), .null]) (rest := []) (lenOf pd_28 rfl) rfl (by show 2 * 0 + _ ≤ _; exact Nat.le_of_eq rfl) (hb hby d3_6) (fun _ _ => ⟨rfl, e0, (by decide : 0 + 2 ≤ _), (by decide : 0 + 24 ≤ _)⟩)
  dsimp only [Pt.U, Pt.locs, Pt.cells, Pt.slots] at X4 l4 y4 z4 st4 hQ4
  subst l4 y4 z4
  obtain ⟨b5, k6, rfl, N4q, K4, Y4_z0, Y4_0, Y4_1, Y4_2, Y4_3⟩ := hQ4
  have N4 := Fr.app N0 N4q
  replace X4 := X4.more (cells' := 2) (slots' := 24) (by decide) (by decide)
  have g_b5 : n0 ≤ b5 := Nat.le_trans (Nat.le_trans Z0 (Keep.refl h0 [a1]).1) Y4_z0
  have sz_b5 : h0.size ≤ b5 := Nat.le_trans (Keep.refl h0 [a1]).1 Y4_z0
  have K7 : Keep h0 T4.heap [a1] := (Keep.refl h0 [a1]).trans K4 (allS (Or.inl (List.mem_of_getElem? (i := 0) rfl)) all0)
  have O8 : Old Z n0 T4.heap := O0.keep K4 (allS g_a1 all0)
  have tS9 : own_Str Z T4.heap T4.heap.size a1 cs := ⟨Y4_0.lt, b5, _, _, _, _, Y4_3.lt, Y4_0, Y4_2, Y4_1, Y4_3, Or.inl ⟨rfl, h6_h36_h9_h3_hnn, hgd, rfl⟩⟩
  obtain ⟨fs, hr, hrun, hended, hW, hsame⟩ := X4.leave (v := none) (fun _ => rfl)
  refine ⟨_, _, pre0 _ ?_, hrun, hended, _, _, rfl, ?_, ⟨_, rfl⟩, hW, hsame.mono (by decide) (by decide)⟩
  · show Steps p.tables e below (s₁.setTop (mkF m 0 #[.val (.ref a1), .val (.ref a2)] [])) _
    refine XS.aloadN X0.here hx rfl (hb hby d3_0) rfl rfl ?_
    refine XS.aloadN X0.here hx rfl (hb hby d3_1) rfl rfl ?_
    refine XS.iconst X0.here hx rfl (hb hby d3_2) ?_
    refine XS.aloadN X0.here hx rfl (hb hby d3_3) rfl rfl ?_
    show Steps p.tables e below (s₁.setTop (mkF m 4 #[.val (.ref a1), .val (.ref a2)] [(.ref a2), (.int 0), (.ref a2), (.ref a1)])) _
    refine X0.arraylength hx (by rw [e0]; exact Ar3.1) (State.isArrayOf_alike hZ.alike Ar3.2.1) (g := (mkF m 4 #[.val (.ref a1), .val (.ref a2)] [(.ref a2), (.int 0), (.ref a2), (.ref a1)])) rfl rfl (hb hby d3_4) _ ?_
    rw [len_of S3 Nn3]
    refine XS.aconstNull X0.here hx rfl (hb hby d3_5) ?_
    refine st4.trans ?_
    exact X4.returnOut hx Bd.returns (hb hby d3_9) hr
  · show Q3L Z a1 a2 k0 nn cs zC h0 n0 _ T4.heap _
    exact ⟨rfl, N4, K7, Y4_0, (own_Str.top tS9)⟩
def Q13U (Z : State) (a1 : Addr) (nn : Int32) (k9 : ClassId) (vs : List Value) (h0 : Heap) (n0 : Nat) (v : Option Value) (h : Heap) (L : List Loc) : Prop := v = some (.int (nar .byte ((((nn - (nn <<< ((1 : Int32) &&& 31))).toUInt32 >>> ((31 : Int32) &&& 31).toUInt32).toInt32).toInt8.toInt32))) ∧ Fr n0 L ∧ h = h0
theorem rm13U (l : Launch) (Z : State) (a0 : Array Value) (hw : ∀ d ∈ tables_1, d.before a0 Z = true) (ws : List Jvm.Cond) (a1 : Addr) (nn : Int32) (k9 : ClassId) (vs : List Value) (h0 : Heap) (n0 : Nat) (O0 : Old Z n0 h0) (HV_a1 : Arv Z h0 a1 k9 .byte (nn <<< ((1 : Int32) &&& 31)) vs (.int 0)) :
    own_C l Z (⟨"java/lang/StringUTF16", "coderFromArrayLen", "([BI)B"⟩ : MethodName) jdk_52_method_15_code 2 (some .byte) ws ({ frames := 0, cells := 0, slots := 0, locals := 0 } : Room) #[(.ref a1), (.int nn)] h0 (Q13U Z a1 nn k9 vs h0 n0) := by
  refine MetFree.of_bodySF (plainFor_of_name pnc_java_lang_StringUTF16) hisR ?_
  intro p e s m args below meth c s₁ Bd hml0 hP hK
  obtain ⟨rfl, hZ, hh⟩ := hP
  have hx := Bd.exec
  have hby := Bd.bytes
  have hml : c.maxLocals = 2 := hml0
  have hown : s.vm.findClass "java/lang/StringUTF16" = some m.cls := findClass_of_methodNamed Bd.named
  have hnm := (name_of_methodNamed Bd.named Bd.method).1
  have X0 : Stand p l e ({ frames := 0, cells := 0, slots := 0, locals := 0 } : Room) s m #[(.ref a1), (.int nn)] below meth c s₁ [] 0 0 := Stand.of_body Bd
  have e0 : s₁.heap = h0 := by rw [← hh, Bd.state]; rfl
  have N0 := Fr.nil n0
  have Z0 : n0 ≤ h0.size := O0.1 ▸ O0.2.1
  have pre0 : ∀ t, Steps p.tables e below (s₁.setTop (mkF m 0 #[.val (.ref a1), .val (.int nn)] [])) t → Steps p.tables e below (s₁.setTop (entryFrame m #[(.ref a1), (.int nn)] 2)) t := fun t k => castTop (ef_13 m a1 nn) k
  obtain ⟨cl2, Ar2, q2, S2, Nn2, Hh2, G2⟩ := id HV_a1
  obtain ⟨fs, hr, hrun, hended, hW, hsame⟩ := X0.leave (v := some (.int (nar .byte ((((nn - (nn <<< ((1 : Int32) &&& 31))).toUInt32 >>> ((31 : Int32) &&& 31).toUInt32).toInt32).toInt8.toInt32)))) (fun h => by rw [Bd.returns] at h; cases h)
  refine ⟨_, _, pre0 _ ?_, hrun, hended, _, _, rfl, ?_, ⟨_, rfl⟩, hW, hsame.mono (by decide) (by decide)⟩
  · show Steps p.tables e below (s₁.setTop (mkF m 0 #[.val (.ref a1), .val (.int nn)] [])) _
    refine XS.iloadN X0.here hx rfl (hb hby d13_0) rfl ?_
    refine XS.aloadN X0.here hx rfl (hb hby d13_1) rfl rfl ?_
    show Steps p.tables e below (s₁.setTop (mkF m 2 #[.val (.ref a1), .val (.int nn)] [(.ref a1), (.int nn)])) _
    refine X0.arraylength hx (by rw [e0]; exact Ar2.1) (State.isArrayOf_alike hZ.alike Ar2.2.1) (g := (mkF m 2 #[.val (.ref a1), .val (.int nn)] [(.ref a1), (.int nn)])) rfl rfl (hb hby d13_2) _ ?_
    rw [len_of S2 Nn2]
    refine XS.isub X0.here hx rfl (hb hby d13_3) rfl ?_
    refine XS.bipush X0.here hx rfl (hb hby d13_4) ?_
    refine XS.iushr X0.here hx rfl (hb hby d13_6) rfl ?_
    refine XS.i2b X0.here hx rfl (hb hby d13_7) rfl ?_
    exact retN X0 hx (t := .byte) Bd.returns (by simp) (hb hby d13_8) hr
  · show Q13U Z a1 nn k9 vs h0 n0 _ s₁.heap _
    rw [e0]
    exact ⟨rfl, N0, rfl⟩
def Q4U (Z : State) (a1 a2 : Addr) (k0 : ClassId) (nn : Int32) (cs : List Int32) (zC : Int32) (h0 : Heap) (n0 : Nat) (v : Option Value) (h : Heap) (L : List Loc) : Prop := ∃ b6 : Addr, ∃ k7 : ClassId, v = none ∧ Fr n0 L ∧ Keep h0 h [a1] ∧ h0.size ≤ b6 ∧ Exa Z h a1 "java/lang/String" ∧ Fld Z h a1 "java/lang/String" "coder" "B" (.int 1) ∧ Fld Z h a1 "java/lang/String" "value" "[B" (.ref b6) ∧ Arv Z h b6 k7 .byte (nn <<< ((1 : Int32) &&& 31)) (own_u cs) (.int 0)
theorem rm4U (l : Launch) (Z : State) (a0 : Array Value) (hw : ∀ d ∈ tables_1, d.before a0 Z = true) (ws : List Jvm.Cond) (a1 a2 : Addr) (k0 : ClassId) (nn : Int32) (cs : List Int32) (zC : Int32) (h0 : Heap) (n0 : Nat) (O0 : Old Z n0 h0) (HE_a1 : Exa Z h0 a1 "java/lang/String") (HF_a1_value : Fld Z h0 a1 "java/lang/String" "value" "[B" .null) (HF_a1_coder : Fld Z h0 a1 "java/lang/String" "coder" "B" (.int 0)) (HV_a2 : Arv Z h0 a2 k0 .char nn (own_us cs) (.int 0)) (hc5 : ¬ (nn = (0 : Int32))) (S_COMPACT_STRINGS : Sta Z Z.heap "java/lang/String" "COMPACT_STRINGS" "Z" (.int zC)) (hc30 : ¬ (zC = (0 : Int32))) (S__assertionsDisabled : Sta Z Z.heap "java/lang/StringUTF16" "$assertionsDisabled" "Z" (.int 1)) (S_HI_BYTE_SHIFT : Sta Z Z.heap "java/lang/StringUTF16" "HI_BYTE_SHIFT" "I" (.int 0)) (S_LO_BYTE_SHIFT : Sta Z Z.heap "java/lang/StringUTF16" "LO_BYTE_SHIFT" "I" (.int 8)) (h36_hng1 : ¬ (nn < (0 : Int32))) (h36_hcap1 : (nn).toNatClampNeg ≤ 8) (h36_h9_h3_hnn : nn = Int32.ofNat cs.length) (h36_h9_h3_h8 : cs.length ≤ 8) (h36_h9_h3_hu : ∃ j, j < cs.length ∧ (255 : Int32) < cs.getD j 0) (h36_h23_h1_h1_hc15 : nn < (1073741823 : Int32)) (h36_h23_h1_hng4 : ¬ ((nn <<< ((1 : Int32) &&& 31)) < (0 : Int32))) (h36_h23_h1_hcap4 : ((nn <<< ((1 : Int32) &&& 31))).toNatClampNeg ≤ 16) (h36_h32_hcs : ∀ c ∈ cs, own_ch c) (own_cd48 : (nar .byte ((((nn - (nn <<< ((1 : Int32) &&& 31))).toUInt32 >>> ((31 : Int32) &&& 31).toUInt32).toInt32).toInt8.toInt32)) = (1 : Int32)) (g_a1 : n0 ≤ a1) :
    own_C l Z (⟨"java/lang/String", "<init>", "([CIILjava/lang/Void;)V"⟩ : MethodName) jdk_42_method_149_code 6 none ws ({ frames := 5, cells := 2, slots := 24, locals := 105 } : Room) #[(.ref a1), (.ref a2), (.int 0), (.int nn), .null] h0 (Q4U Z a1 a2 k0 nn cs zC h0 n0) := by
  refine MetFree.of_bodySF (plainFor_of_name pnc_java_lang_String) hisR ?_
  intro p e s m args below meth c s₁ Bd hml0 hP hK
  obtain ⟨rfl, hZ, hh⟩ := hP
  have hx := Bd.exec
  have hby := Bd.bytes
  have hml : c.maxLocals = 6 := hml0
  have hown : s.vm.findClass "java/lang/String" = some m.cls := findClass_of_methodNamed Bd.named
  have hnm := (name_of_methodNamed Bd.named Bd.method).1
  have X0 : Stand p l e ({ frames := 5, cells := 2, slots := 24, locals := 105 } : Room) s m #[(.ref a1), (.ref a2), (.int 0), (.int nn), .null] below meth c s₁ [] 0 0 := Stand.of_body Bd
  have e0 : s₁.heap = h0 := by rw [← hh, Bd.state]; rfl
  have N0 := Fr.nil n0
  have Z0 : n0 ≤ h0.size := O0.1 ▸ O0.2.1
  have pre0 : ∀ t, Steps p.tables e below (s₁.setTop (mkF m 0 #[.val (.ref a1), .val (.ref a2), .val (.int 0), .val (.int nn), .val .null, .unset] [])) t → Steps p.tables e below (s₁.setTop (entryFrame m #[(.ref a1), (.ref a2), (.int 0), (.int nn), .null] 6)) t := fun t k => castTop (ef_4aa__0___Int32__an m a1 a2 nn) k
  obtain ⟨T3, X3, e3, st3⟩ := initO X0 hx hZ hown (own_w hw 19 rfl) (own_w hw 20 rfl) (own_w hw 21 rfl) e0 (g := (mkF m 1 #[.val (.ref a1), .val (.ref a2), .val (.int 0), .val (.int nn), .val .null, .unset] [(.ref a1)])) rfl (by rw [hml]; rfl) rfl (hb hby d4_1) (by decide) (W := 0) (by show 2 * 0 + _ ≤ _; exact Nat.le_of_eq rfl) (by decide)
  obtain ⟨T4, X4, e4, st4⟩ := getS2 X3 hx hZ hown (host := "") (Or.inl (own_w hw 22 rfl)) Via.refl e3 (S_COMPACT_STRINGS.ext O0.2) (g := (mkF m 27 #[.val (.ref a1), .val (.ref a2), .val (.int 0), .val (.int nn), .val .null, .unset] [])) rfl (hb hby d4_27)
  obtain ⟨vr5, _, ⟨T5, L5, k5, n5⟩, -, X5, ⟨Lc5, hQ5, l5, y5, z5⟩, st5⟩ := Jvm.LawKit.callS X4 hx (y := (⟨"java/lang/StringUTF16", "compress", "([CII)[B"⟩ : MethodName)) hown (mvT hZ (own_w hw 23 rfl)) (mvT hZ (own_w hw 24 rfl)) (mvT hZ (own_w hw 25 rfl)) (mvT hZ (own_w hw 26 rfl)) (by decide) (backOf (W := 0) (rm6U l Z a0 hw [] a2 k0 nn cs h0 n0 O0 HV_a2 h36_hng1 h36_hcap1 h36_h9_h3_hnn h36_h9_h3_h8 h36_h9_h3_hu S__assertionsDisabled S_HI_BYTE_SHIFT S_LO_BYTE_SHIFT h36_h23_h1_h1_hc15 h36_h23_h1_hng4 h36_h23_h1_hcap4 h36_h32_hcs) hZ (own_w hw 26 rfl) (own_w hw 25 rfl) (by decide) (by decide)) (g := (mkF m 36 #[.val (.ref a1), .val (.ref a2), .val (.int 0), .val (.int nn), .val .null, .unset] [(.int nn), (.int 0), (.ref a2)])) rfl (by rw [hml]; rfl) (argsL := [(.ref a2), (.int 0), (.int nn)]) (rest := []) (lenOf pd_27 rfl) rfl (by show 2 * 0 + _ ≤ _; exact Nat.le_of_eq rfl) (hb hby d4_36) (fun _ _ => ⟨rfl, e4, (by decide : 0 + 2 ≤ _), (by decide : 0 + 24 ≤ _)⟩)
  dsimp only [Pt.U, Pt.locs, Pt.cells, Pt.slots] at X5 l5 y5 z5 st5 hQ5
  subst l5 y5 z5
  obtain ⟨b6, k7, rfl, N5q, K5, Y5_z0, Y5_0⟩ := hQ5
  have N5 := Fr.app N0 N5q
  replace X5 := X5.more (cells' := 2) (slots' := 24) (by decide) (by decide)
  have g_b6 : n0 ≤ b6 := Nat.le_trans (Nat.le_trans Z0 (Keep.refl h0 [a1]).1) Y5_z0
  have sz_b6 : h0.size ≤ b6 := Nat.le_trans (Keep.refl h0 [a1]).1 Y5_z0
  have K8 : Keep h0 T5.heap [a1] := (Keep.refl h0 [a1]).trans K5 all0
  have O9 : Old Z n0 T5.heap := O0.keep K5 all0
  obtain ⟨vr10, _, ⟨T10, L10, k10, n10⟩, -, X10, ⟨Lc10, hQ10, l10, y10, z10⟩, st10⟩ := Jvm.LawKit.callS X5 hx (y := (⟨"java/lang/StringUTF16", "coderFromArrayLen", "([BI)B"⟩ : MethodName)) hown (mvT hZ (own_w hw 50 rfl)) (mvT hZ (own_w hw 51 rfl)) (mvT hZ (own_w hw 25 rfl)) (mvT hZ (own_w hw 52 rfl)) (by decide) (backOf (W := 1) (rm13U l Z a0 hw [] b6 nn k7 ((own_u cs)) T5.heap n0 O9 Y5_0) hZ (own_w hw 52 rfl) (own_w hw 25 rfl) (by decide) (by decide)) (g := (mkF m 45 #[.val (.ref a1), .val (.ref a2), .val (.int 0), .val (.int nn), .val .null, .val (.ref b6)] [(.int nn), (.ref b6), (.ref a1)])) rfl (by rw [hml]; rfl) (argsL := [(.ref b6), (.int nn)]) (rest := [(.ref a1)]) (lenOf pd_23 rfl) rfl (by show 2 * 0 + _ ≤ _; exact Nat.le_of_eq rfl) (hb hby d4_45) (fun _ _ => ⟨rfl, rfl, (by decide : 2 + 0 ≤ _), (by decide : 24 + 0 ≤ _)⟩)
  dsimp only [Pt.U, Pt.locs, Pt.cells, Pt.slots] at X10 l10 y10 z10 st10 hQ10
  subst l10 y10 z10
  obtain ⟨rfl, N10q, e10⟩ := hQ10
  have N10 := Fr.app N5 N10q
  replace X10 := X10.more (cells' := 2) (slots' := 24) (by decide) (by decide)
  have f11 := (HE_a1.keep K5)
  have f12 := (HF_a1_coder.keep K5 nin0)
  obtain ⟨T13, h13, X13, e13, W13, st13⟩ := putFN X10 hx hZ hown (own_w hw 53 rfl) Via.refl e10 f12 f11 (Or.inr ⟨(own_w hw 54 rfl), rfl, hnm⟩) (own_w hw 10 rfl) (ty := .byte) (v' := (.int 1)) (by decide) rfl rfl (g := (mkF m 48 #[.val (.ref a1), .val (.ref a2), .val (.int 0), .val (.int nn), .val .null, .val (.ref b6)] [(.int 1), (.ref a1)])) rfl rfl (hb hby d4_48)
  have N13 := Fr.snoc X13 N10 g_a1
  have K14 : Keep h0 h13 [a1] := K8.wr W13 (Or.inl (List.mem_of_getElem? (i := 0) rfl))
  have O15 : Old Z n0 h13 := O9.wr W13 g_a1
  have Fw13 : Fld Z h13 a1 "java/lang/String" "coder" "B" (.int 1) := f12.same W13
  have f16 := (f11.wr W13)
  have f17 := ((HF_a1_value.keep K5 nin0).other W13 (Or.inr (slot_ne (Or.inr (own_w hw 56 rfl)) (Or.inr (own_w hw 54 rfl)) (by decide) (t := (.array .byte)) (t' := .byte) (by decide) (by decide))))
  obtain ⟨T18, h18, X18, e18, W18, st18⟩ := putF X13 hx hZ hown (host := "") (Or.inl (own_w hw 55 rfl)) Via.refl e13 f17 f16 (Or.inr ⟨(own_w hw 56 rfl), rfl, hnm⟩) (own_w hw 10 rfl) (ty := (.array .byte)) (by decide) rfl rfl (g := (mkF m 54 #[.val (.ref a1), .val (.ref a2), .val (.int 0), .val (.int nn), .val .null, .val (.ref b6)] [(.ref b6), (.ref a1)])) rfl rfl (hb hby d4_54)
  have N18 := Fr.snoc X18 N13 g_a1
  have K19 : Keep h0 h18 [a1] := K14.wr W18 (Or.inl (List.mem_of_getElem? (i := 0) rfl))
  have O20 : Old Z n0 h18 := O15.wr W18 g_a1
  have Fw18 : Fld Z h18 a1 "java/lang/String" "value" "[B" (.ref b6) := f17.same W18
  have f21 := (f16.wr W18)
  have f22 := (Fw13.other W18 (Or.inr (slot_ne (Or.inr (own_w hw 54 rfl)) (Or.inr (own_w hw 56 rfl)) (by decide) (t := .byte) (t' := (.array .byte)) (by decide) (by decide))))
  have f23 := ((Y5_0.other W13 (Ne.symm (Nat.ne_of_lt (Nat.lt_of_lt_of_le HE_a1.lt Y5_z0)))).other W18 (Ne.symm (Nat.ne_of_lt (Nat.lt_of_lt_of_le HE_a1.lt Y5_z0))))
  obtain ⟨fs, hr, hrun, hended, hW, hsame⟩ := X18.leave (v := none) (fun _ => rfl)
  refine ⟨_, _, pre0 _ ?_, hrun, hended, _, _, rfl, ?_, ⟨_, rfl⟩, hW, hsame.mono (by decide) (by decide)⟩
  · show Steps p.tables e below (s₁.setTop (mkF m 0 #[.val (.ref a1), .val (.ref a2), .val (.int 0), .val (.int nn), .val .null, .unset] [])) _
    refine XS.aloadN X0.here hx rfl (hb hby d4_0) rfl rfl ?_
    refine st3 _ ?_
    refine XS.iloadN X3.here hx rfl (hb hby d4_4) rfl ?_
    refine XS.ifYes X3.here hx rfl (pc0 := 5) (pc' := 27) rfl (hb hby d4_5) rfl ((if0 _ _).trans (feq hc5).2) (by decide) (by decide) ?_
    refine st4 _ ?_
    refine XS.ifNo X4.here hx rfl (hb hby d4_30) rfl ((if0 _ _).trans (feq hc30).1) ?_
    refine XS.aloadN X4.here hx rfl (hb hby d4_33) rfl rfl ?_
    refine XS.iloadN X4.here hx rfl (hb hby d4_34) rfl ?_
    refine XS.iloadN X4.here hx rfl (hb hby d4_35) rfl ?_
    refine st5 _ ?_
    refine XS.astore X5.here hx rfl (hb hby d4_39) rfl rfl (l' := #[.val (.ref a1), .val (.ref a2), .val (.int 0), .val (.int nn), .val .null, .val (.ref b6)]) rfl ?_
    refine XS.aloadN X5.here hx rfl (hb hby d4_41) rfl rfl ?_
    refine XS.aload X5.here hx rfl (hb hby d4_42) rfl rfl ?_
    refine XS.iloadN X5.here hx rfl (hb hby d4_44) rfl ?_
    refine st10 _ ?_
    show Steps p.tables e below (T10.setTop (mkF m 48 #[.val (.ref a1), .val (.ref a2), .val (.int 0), .val (.int nn), .val .null, .val (.ref b6)] [(.int (nar .byte ((((nn - (nn <<< ((1 : Int32) &&& 31))).toUInt32 >>> ((31 : Int32) &&& 31).toUInt32).toInt32).toInt8.toInt32))), (.ref a1)])) _
    rw [own_cd48]
    show Steps p.tables e below (T10.setTop (mkF m 48 #[.val (.ref a1), .val (.ref a2), .val (.int 0), .val (.int nn), .val .null, .val (.ref b6)] [(.int 1), (.ref a1)])) _
    refine st13 _ ?_
    refine XS.aloadN X13.here hx rfl (hb hby d4_51) rfl rfl ?_
    refine XS.aload X13.here hx rfl (hb hby d4_52) rfl rfl ?_
    refine st18 _ ?_
    exact X18.returnOut hx Bd.returns (hb hby d4_57) hr
  · show Q4U Z a1 a2 k0 nn cs zC h0 n0 _ T18.heap _
    rw [e18]
    exact ⟨b6, k7, rfl, N18, K19, sz_b6, f21, f22, Fw18, f23⟩
def Q3U (Z : State) (a1 a2 : Addr) (k0 : ClassId) (nn : Int32) (cs : List Int32) (zC : Int32) (h0 : Heap) (n0 : Nat) (v : Option Value) (h : Heap) (L : List Loc) : Prop := v = none ∧ Fr n0 L ∧ Keep h0 h [a1] ∧ Exa Z h a1 "java/lang/String" ∧ own_Str Z h h.size a1 cs
theorem rm3U (l : Launch) (Z : State) (a0 : Array Value) (hw : ∀ d ∈ tables_1, d.before a0 Z = true) (ws : List Jvm.Cond) (a1 a2 : Addr) (k0 : ClassId) (nn : Int32) (cs : List Int32) (zC : Int32) (h0 : Heap) (n0 : Nat) (O0 : Old Z n0 h0) (HE_a1 : Exa Z h0 a1 "java/lang/String") (HF_a1_value : Fld Z h0 a1 "java/lang/String" "value" "[B" .null) (HF_a1_coder : Fld Z h0 a1 "java/lang/String" "coder" "B" (.int 0)) (HV_a2 : Arv Z h0 a2 k0 .char nn (own_us cs) (.int 0)) (S_COMPACT_STRINGS : Sta Z Z.heap "java/lang/String" "COMPACT_STRINGS" "Z" (.int zC)) (S__assertionsDisabled : Sta Z Z.heap "java/lang/StringUTF16" "$assertionsDisabled" "Z" (.int 1)) (S_HI_BYTE_SHIFT : Sta Z Z.heap "java/lang/StringUTF16" "HI_BYTE_SHIFT" "I" (.int 0)) (S_LO_BYTE_SHIFT : Sta Z Z.heap "java/lang/StringUTF16" "LO_BYTE_SHIFT" "I" (.int 8)) (h6_hc5 : ¬ (nn = (0 : Int32))) (h6_hc30 : ¬ (zC = (0 : Int32))) (h6_h36_hng1 : ¬ (nn < (0 : Int32))) (h6_h36_hcap1 : (nn).toNatClampNeg ≤ 8) (h6_h36_h9_h3_hnn : nn = Int32.ofNat cs.length) (h6_h36_h9_h3_h8 : cs.length ≤ 8) (h6_h36_h9_h3_hu : ∃ j, j < cs.length ∧ (255 : Int32) < cs.getD j 0) (h6_h36_h23_h1_h1_hc15 : nn < (1073741823 : Int32)) (h6_h36_h23_h1_hng4 : ¬ ((nn <<< ((1 : Int32) &&& 31)) < (0 : Int32))) (h6_h36_h23_h1_hcap4 : ((nn <<< ((1 : Int32) &&& 31))).toNatClampNeg ≤ 16) (h6_h36_h32_hcs : ∀ c ∈ cs, own_ch c) (h6_own_cd48 : (nar .byte ((((nn - (nn <<< ((1 : Int32) &&& 31))).toUInt32 >>> ((31 : Int32) &&& 31).toUInt32).toInt32).toInt8.toInt32)) = (1 : Int32)) (g_a1 : n0 ≤ a1) :
    own_C l Z (⟨"java/lang/String", "<init>", "([C)V"⟩ : MethodName) jdk_42_method_3_code 2 none ws ({ frames := 6, cells := 2, slots := 24, locals := 130 } : Room) #[(.ref a1), (.ref a2)] h0 (Q3U Z a1 a2 k0 nn cs zC h0 n0) := by
  refine MetFree.of_bodySF (plainFor_of_name pnc_java_lang_String) hisR ?_
  intro p e s m args below meth c s₁ Bd hml0 hP hK
  obtain ⟨rfl, hZ, hh⟩ := hP
  have hx := Bd.exec
  have hby := Bd.bytes
  have hml : c.maxLocals = 2 := hml0
  have hown : s.vm.findClass "java/lang/String" = some m.cls := findClass_of_methodNamed Bd.named
  have hnm := (name_of_methodNamed Bd.named Bd.method).1
  have X0 : Stand p l e ({ frames := 6, cells := 2, slots := 24, locals := 130 } : Room) s m #[(.ref a1), (.ref a2)] below meth c s₁ [] 0 0 := Stand.of_body Bd
  have e0 : s₁.heap = h0 := by rw [← hh, Bd.state]; rfl
  have N0 := Fr.nil n0
  have Z0 : n0 ≤ h0.size := O0.1 ▸ O0.2.1
  have pre0 : ∀ t, Steps p.tables e below (s₁.setTop (mkF m 0 #[.val (.ref a1), .val (.ref a2)] [])) t → Steps p.tables e below (s₁.setTop (entryFrame m #[(.ref a1), (.ref a2)] 2)) t := fun t k => castTop (ef_3 m a1 a2) k
  obtain ⟨cl3, Ar3, q3, S3, Nn3, Hh3, G3⟩ := id HV_a2
  obtain ⟨vr4, _, ⟨T4, L4, k4, n4⟩, -, X4, ⟨Lc4, hQ4, l4, y4, z4⟩, st4⟩ := X0.specialBack hx (y := (⟨"java/lang/String", "<init>", "([CIILjava/lang/Void;)V"⟩ : MethodName)) rfl hown (mvT hZ (own_w hw 15 rfl)) (mvT hZ (own_w hw 16 rfl)) (mvT hZ (own_w hw 18 rfl)) (by decide) (backOf (W := 0) (rm4U l Z a0 hw [] a1 a2 k0 nn cs zC h0 n0 O0 HE_a1 HF_a1_value HF_a1_coder HV_a2 h6_hc5 S_COMPACT_STRINGS h6_hc30 S__assertionsDisabled S_HI_BYTE_SHIFT S_LO_BYTE_SHIFT h6_h36_hng1 h6_h36_hcap1 h6_h36_h9_h3_hnn h6_h36_h9_h3_h8 h6_h36_h9_h3_hu h6_h36_h23_h1_h1_hc15 h6_h36_h23_h1_hng4 h6_h36_h23_h1_hcap4 h6_h36_h32_hcs h6_own_cd48 g_a1) hZ (own_w hw 18 rfl) (own_w hw 11 rfl) (by decide) (by decide)) (g := (mkF m 6 #[.val (.ref a1), .val (.ref a2)] [.null, (.int nn), (.int 0), (.ref a2), (.ref a1)])) rfl (by rw [hml]; rfl) (Steps.refl _) (a := a1) (argsL := [(.ref a2), (.int 0), (.int nn), .null]) (rest := []) (lenOf pd_28 rfl) rfl (by show 2 * 0 + _ ≤ _; exact Nat.le_of_eq rfl) (hb hby d3_6) (fun _ _ => ⟨rfl, e0, (by decide : 0 + 2 ≤ _), (by decide : 0 + 24 ≤ _)⟩)
  dsimp only [Pt.U, Pt.locs, Pt.cells, Pt.slots] at X4 l4 y4 z4 st4 hQ4
  subst l4 y4 z4
  obtain ⟨b5, k6, rfl, N4q, K4, Y4_z0, Y4_0, Y4_1, Y4_2, Y4_3⟩ := hQ4
  have N4 := Fr.app N0 N4q
  replace X4 := X4.more (cells' := 2) (slots' := 24) (by decide) (by decide)
  have g_b5 : n0 ≤ b5 := Nat.le_trans (Nat.le_trans Z0 (Keep.refl h0 [a1]).1) Y4_z0
  have sz_b5 : h0.size ≤ b5 := Nat.le_trans (Keep.refl h0 [a1]).1 Y4_z0
  have K7 : Keep h0 T4.heap [a1] := (Keep.refl h0 [a1]).trans K4 (allS (Or.inl (List.mem_of_getElem? (i := 0) rfl)) all0)
  have O8 : Old Z n0 T4.heap := O0.keep K4 (allS g_a1 all0)
  have tS9 : own_Str Z T4.heap T4.heap.size a1 cs := ⟨Y4_0.lt, b5, _, _, _, _, Y4_3.lt, Y4_0, Y4_2, Y4_1, Y4_3, Or.inr ⟨rfl, (by rw [h6_h36_h9_h3_hnn]; exact own_shl h6_h36_h9_h3_h8), h6_h36_h32_hcs, rfl⟩⟩
  obtain ⟨fs, hr, hrun, hended, hW, hsame⟩ := X4.leave (v := none) (fun _ => rfl)
  refine ⟨_, _, pre0 _ ?_, hrun, hended, _, _, rfl, ?_, ⟨_, rfl⟩, hW, hsame.mono (by decide) (by decide)⟩
  · show Steps p.tables e below (s₁.setTop (mkF m 0 #[.val (.ref a1), .val (.ref a2)] [])) _
    refine XS.aloadN X0.here hx rfl (hb hby d3_0) rfl rfl ?_
    refine XS.aloadN X0.here hx rfl (hb hby d3_1) rfl rfl ?_
    refine XS.iconst X0.here hx rfl (hb hby d3_2) ?_
    refine XS.aloadN X0.here hx rfl (hb hby d3_3) rfl rfl ?_
    show Steps p.tables e below (s₁.setTop (mkF m 4 #[.val (.ref a1), .val (.ref a2)] [(.ref a2), (.int 0), (.ref a2), (.ref a1)])) _
    refine X0.arraylength hx (by rw [e0]; exact Ar3.1) (State.isArrayOf_alike hZ.alike Ar3.2.1) (g := (mkF m 4 #[.val (.ref a1), .val (.ref a2)] [(.ref a2), (.int 0), (.ref a2), (.ref a1)])) rfl rfl (hb hby d3_4) _ ?_
    rw [len_of S3 Nn3]
    refine XS.aconstNull X0.here hx rfl (hb hby d3_5) ?_
    refine st4.trans ?_
    exact X4.returnOut hx Bd.returns (hb hby d3_9) hr
  · show Q3U Z a1 a2 k0 nn cs zC h0 n0 _ T4.heap _
    exact ⟨rfl, N4, K7, Y4_0, (own_Str.top tS9)⟩
def Q3 (Z : State) (a1 a2 : Addr) (k0 : ClassId) (nn : Int32) (cs : List Int32) (zC : Int32) (h0 : Heap) (n0 : Nat) (v : Option Value) (h : Heap) (L : List Loc) : Prop := v = none ∧ Fr n0 L ∧ Keep h0 h [a1] ∧ Exa Z h a1 "java/lang/String" ∧ own_Str Z h h.size a1 cs
theorem rm3 (l : Launch) (Z : State) (a0 : Array Value) (hw : ∀ d ∈ tables_1, d.before a0 Z = true) (ws : List Jvm.Cond) (a1 a2 : Addr) (k0 : ClassId) (nn : Int32) (cs : List Int32) (zC : Int32) (h0 : Heap) (n0 : Nat) (O0 : Old Z n0 h0) (HE_a1 : Exa Z h0 a1 "java/lang/String") (HF_a1_value : Fld Z h0 a1 "java/lang/String" "value" "[B" .null) (HF_a1_coder : Fld Z h0 a1 "java/lang/String" "coder" "B" (.int 0)) (HV_a2 : Arv Z h0 a2 k0 .char nn (own_us cs) (.int 0)) (S_COMPACT_STRINGS : Sta Z Z.heap "java/lang/String" "COMPACT_STRINGS" "Z" (.int zC)) (S__assertionsDisabled : Sta Z Z.heap "java/lang/StringUTF16" "$assertionsDisabled" "Z" (.int 1)) (S_HI_BYTE_SHIFT : Sta Z Z.heap "java/lang/StringUTF16" "HI_BYTE_SHIFT" "I" (.int 0)) (S_LO_BYTE_SHIFT : Sta Z Z.heap "java/lang/StringUTF16" "LO_BYTE_SHIFT" "I" (.int 8)) (g_a1 : n0 ≤ a1) (hz : ¬ (zC = (0 : Int32))) (hnn : nn = Int32.ofNat cs.length) (h1 : 0 < cs.length) (h8 : cs.length ≤ 8) (hcs : ∀ c ∈ cs, own_ch c) :
    own_C l Z (⟨"java/lang/String", "<init>", "([C)V"⟩ : MethodName) jdk_42_method_3_code 2 none ws ({ frames := 6, cells := 2, slots := 24, locals := 130 } : Room) #[(.ref a1), (.ref a2)] h0 (Q3 Z a1 a2 k0 nn cs zC h0 n0) := by
  by_cases hu : ∃ j, j < cs.length ∧ (255 : Int32) < cs.getD j 0
  · exact rm3U l Z a0 hw ws a1 a2 k0 nn cs zC h0 n0 O0 HE_a1 HF_a1_value HF_a1_coder HV_a2 S_COMPACT_STRINGS S__assertionsDisabled S_HI_BYTE_SHIFT S_LO_BYTE_SHIFT (own_n0 hnn h1 h8) hz (own_sz hnn h8).1 (own_sz hnn h8).2.1 hnn h8 hu (own_sz hnn h8).2.2.1 (own_sz hnn h8).2.2.2.1 (own_sz hnn h8).2.2.2.2 hcs (own_cd1 hnn h1 h8) g_a1
  · exact rm3L l Z a0 hw ws a1 a2 k0 nn cs zC h0 n0 O0 HE_a1 HF_a1_value HF_a1_coder HV_a2 S_COMPACT_STRINGS (own_n0 hnn h1 h8) hz (own_sz hnn h8).1 (own_sz hnn h8).2.1 hnn h8 (fun j hj q => hu ⟨j, hj, q⟩) (own_cd0 nn) g_a1 (own_good hcs hu)
theorem d16_0 : decode jdk_42_method_152_code 0 = .ok (.getstatic 38, 3) := by decide +kernel
theorem d16_3 : decode jdk_42_method_152_code 3 = .ok (.ifCond .eq 10, 3) := by decide +kernel
theorem d16_6 : decode jdk_42_method_152_code 6 = .ok (.aload_n 0, 1) := by decide +kernel
theorem d16_7 : decode jdk_42_method_152_code 7 = .ok (.getfield 15, 3) := by decide +kernel
theorem d16_10 : decode jdk_42_method_152_code 10 = .ok (.goto 4, 3) := by decide +kernel
theorem d16_14 : decode jdk_42_method_152_code 14 = .ok (.ireturn, 1) := by decide +kernel
def Q16v0 (Z : State) (a1 : Addr) (zC : Int32) (h0 : Heap) (n0 : Nat) (v : Option Value) (h : Heap) (L : List Loc) : Prop := v = some (.int 0) ∧ Fr n0 L ∧ h = h0
theorem ef_16 (m : MethodId) (x0 : Addr) : entryFrame m #[(.ref x0)] 1 = mkF m 0 #[.val (.ref x0)] [] := by first | (simp [entryFrame, mkF, argsToLocals, Value.category]; done) | rfl
theorem rm16v0 (l : Launch) (Z : State) (a0 : Array Value) (hw : ∀ d ∈ tables_1, d.before a0 Z = true) (ws : List Jvm.Cond) (a1 : Addr) (zC : Int32) (h0 : Heap) (n0 : Nat) (O0 : Old Z n0 h0) (S_COMPACT_STRINGS : Sta Z Z.heap "java/lang/String" "COMPACT_STRINGS" "Z" (.int zC)) (hc3 : ¬ (zC = (0 : Int32))) (HF_a1_coder : Fld Z h0 a1 "java/lang/String" "coder" "B" (.int 0)) :
    own_C l Z (⟨"java/lang/String", "coder", "()B"⟩ : MethodName) jdk_42_method_152_code 1 (some .byte) ws ({ frames := 0, cells := 0, slots := 0, locals := 0 } : Room) #[(.ref a1)] h0 (Q16v0 Z a1 zC h0 n0) := by
  refine MetFree.of_bodySF (plainFor_of_name pnc_java_lang_String) hisR ?_
  intro p e s m args below meth c s₁ Bd hml0 hP hK
  obtain ⟨rfl, hZ, hh⟩ := hP
  have hx := Bd.exec
  have hby := Bd.bytes
  have hml : c.maxLocals = 1 := hml0
  have hown : s.vm.findClass "java/lang/String" = some m.cls := findClass_of_methodNamed Bd.named
  have hnm := (name_of_methodNamed Bd.named Bd.method).1
  have X0 : Stand p l e ({ frames := 0, cells := 0, slots := 0, locals := 0 } : Room) s m #[(.ref a1)] below meth c s₁ [] 0 0 := Stand.of_body Bd
  have e0 : s₁.heap = h0 := by rw [← hh, Bd.state]; rfl
  have N0 := Fr.nil n0
  have Z0 : n0 ≤ h0.size := O0.1 ▸ O0.2.1
  have pre0 : ∀ t, Steps p.tables e below (s₁.setTop (mkF m 0 #[.val (.ref a1)] [])) t → Steps p.tables e below (s₁.setTop (entryFrame m #[(.ref a1)] 1)) t := fun t k => castTop (ef_16 m a1) k
  obtain ⟨T2, X2, e2, st2⟩ := getS2 X0 hx hZ hown (host := "") (Or.inl (own_w hw 22 rfl)) Via.refl e0 (S_COMPACT_STRINGS.ext O0.2) (g := (mkF m 0 #[.val (.ref a1)] [])) rfl (hb hby d16_0)
  obtain ⟨T3, X3, e3, st3⟩ := getF X2 hx hZ hown (host := "") (Or.inl (own_w hw 53 rfl)) Via.refl e2 HF_a1_coder (g := (mkF m 7 #[.val (.ref a1)] [(.ref a1)])) rfl rfl (hb hby d16_7)
  obtain ⟨fs, hr, hrun, hended, hW, hsame⟩ := X3.leave (v := some (.int 0)) (fun h => by rw [Bd.returns] at h; cases h)
  refine ⟨_, _, pre0 _ ?_, hrun, hended, _, _, rfl, ?_, ⟨_, rfl⟩, hW, hsame.mono (by decide) (by decide)⟩
  · show Steps p.tables e below (s₁.setTop (mkF m 0 #[.val (.ref a1)] [])) _
    refine st2 _ ?_
    refine XS.ifNo X2.here hx rfl (hb hby d16_3) rfl ((if0 _ _).trans (feq hc3).1) ?_
    refine XS.aloadN X2.here hx rfl (hb hby d16_6) rfl rfl ?_
    refine st3 _ ?_
    refine XS.goto X3.here hx rfl (pc0 := 10) (pc' := 14) rfl (hb hby d16_10) (by decide) (by decide) ?_
    exact retN X3 hx (t := .byte) Bd.returns (by simp) (hb hby d16_14) hr
  · show Q16v0 Z a1 zC h0 n0 _ T3.heap _
    rw [e3]
    exact ⟨rfl, N0, rfl⟩
def Q16v1 (Z : State) (a1 : Addr) (zC : Int32) (h0 : Heap) (n0 : Nat) (v : Option Value) (h : Heap) (L : List Loc) : Prop := v = some (.int 1) ∧ Fr n0 L ∧ h = h0
theorem rm16v1 (l : Launch) (Z : State) (a0 : Array Value) (hw : ∀ d ∈ tables_1, d.before a0 Z = true) (ws : List Jvm.Cond) (a1 : Addr) (zC : Int32) (h0 : Heap) (n0 : Nat) (O0 : Old Z n0 h0) (S_COMPACT_STRINGS : Sta Z Z.heap "java/lang/String" "COMPACT_STRINGS" "Z" (.int zC)) (hc3 : ¬ (zC = (0 : Int32))) (HF_a1_coder : Fld Z h0 a1 "java/lang/String" "coder" "B" (.int 1)) :
    own_C l Z (⟨"java/lang/String", "coder", "()B"⟩ : MethodName) jdk_42_method_152_code 1 (some .byte) ws ({ frames := 0, cells := 0, slots := 0, locals := 0 } : Room) #[(.ref a1)] h0 (Q16v1 Z a1 zC h0 n0) := by
  refine MetFree.of_bodySF (plainFor_of_name pnc_java_lang_String) hisR ?_
  intro p e s m args below meth c s₁ Bd hml0 hP hK
  obtain ⟨rfl, hZ, hh⟩ := hP
  have hx := Bd.exec
  have hby := Bd.bytes
  have hml : c.maxLocals = 1 := hml0
  have hown : s.vm.findClass "java/lang/String" = some m.cls := findClass_of_methodNamed Bd.named
  have hnm := (name_of_methodNamed Bd.named Bd.method).1
  have X0 : Stand p l e ({ frames := 0, cells := 0, slots := 0, locals := 0 } : Room) s m #[(.ref a1)] below meth c s₁ [] 0 0 := Stand.of_body Bd
  have e0 : s₁.heap = h0 := by rw [← hh, Bd.state]; rfl
  have N0 := Fr.nil n0
  have Z0 : n0 ≤ h0.size := O0.1 ▸ O0.2.1
  have pre0 : ∀ t, Steps p.tables e below (s₁.setTop (mkF m 0 #[.val (.ref a1)] [])) t → Steps p.tables e below (s₁.setTop (entryFrame m #[(.ref a1)] 1)) t := fun t k => castTop (ef_16 m a1) k
  obtain ⟨T2, X2, e2, st2⟩ := getS2 X0 hx hZ hown (host := "") (Or.inl (own_w hw 22 rfl)) Via.refl e0 (S_COMPACT_STRINGS.ext O0.2) (g := (mkF m 0 #[.val (.ref a1)] [])) rfl (hb hby d16_0)
  obtain ⟨T3, X3, e3, st3⟩ := getF X2 hx hZ hown (host := "") (Or.inl (own_w hw 53 rfl)) Via.refl e2 HF_a1_coder (g := (mkF m 7 #[.val (.ref a1)] [(.ref a1)])) rfl rfl (hb hby d16_7)
  obtain ⟨fs, hr, hrun, hended, hW, hsame⟩ := X3.leave (v := some (.int 1)) (fun h => by rw [Bd.returns] at h; cases h)
  refine ⟨_, _, pre0 _ ?_, hrun, hended, _, _, rfl, ?_, ⟨_, rfl⟩, hW, hsame.mono (by decide) (by decide)⟩
  · show Steps p.tables e below (s₁.setTop (mkF m 0 #[.val (.ref a1)] [])) _
    refine st2 _ ?_
    refine XS.ifNo X2.here hx rfl (hb hby d16_3) rfl ((if0 _ _).trans (feq hc3).1) ?_
    refine XS.aloadN X2.here hx rfl (hb hby d16_6) rfl rfl ?_
    refine st3 _ ?_
    refine XS.goto X3.here hx rfl (pc0 := 10) (pc' := 14) rfl (hb hby d16_10) (by decide) (by decide) ?_
    exact retN X3 hx (t := .byte) Bd.returns (by simp) (hb hby d16_14) hr
  · show Q16v1 Z a1 zC h0 n0 _ T3.heap _
    rw [e3]
    exact ⟨rfl, N0, rfl⟩
theorem d15_0 : decode jdk_42_method_54_code 0 = .ok (.aload_n 0, 1) := by decide +kernel
theorem d15_1 : decode jdk_42_method_54_code 1 = .ok (.getfield 9, 3) := by decide +kernel
theorem d15_4 : decode jdk_42_method_54_code 4 = .ok (.arraylength, 1) := by decide +kernel
theorem d15_5 : decode jdk_42_method_54_code 5 = .ok (.aload_n 0, 1) := by decide +kernel
theorem d15_6 : decode jdk_42_method_54_code 6 = .ok (.invokevirtual 335, 3) := by decide +kernel
theorem pd_0 : parseMethodDescriptor "()B" = some ⟨[], some .byte⟩ := by decide +kernel
theorem d15_9 : decode jdk_42_method_54_code 9 = .ok (.ishr, 1) := by decide +kernel
theorem d15_10 : decode jdk_42_method_54_code 10 = .ok (.ireturn, 1) := by decide +kernel
def Q15v0 (Z : State) (a1 t0 : Addr) (k9 : ClassId) (nn : Int32) (vs : List Value) (zC : Int32) (h0 : Heap) (n0 : Nat) (v : Option Value) (h : Heap) (L : List Loc) : Prop := v = some (.int (nn >>> ((0 : Int32) &&& 31))) ∧ Fr n0 L ∧ h = h0
theorem ef_15 (m : MethodId) (x0 : Addr) : entryFrame m #[(.ref x0)] 1 = mkF m 0 #[.val (.ref x0)] [] := by first | (simp [entryFrame, mkF, argsToLocals, Value.category]; done) | rfl
theorem rm15v0 (l : Launch) (Z : State) (a0 : Array Value) (hw : ∀ d ∈ tables_1, d.before a0 Z = true) (ws : List Jvm.Cond) (a1 t0 : Addr) (k9 : ClassId) (nn : Int32) (vs : List Value) (zC : Int32) (h0 : Heap) (n0 : Nat) (O0 : Old Z n0 h0) (HE_a1 : Exa Z h0 a1 "java/lang/String") (HV_t0 : Arv Z h0 t0 k9 .byte nn vs (.int 0)) (HF_a1_value : Fld Z h0 a1 "java/lang/String" "value" "[B" (.ref t0)) (S_COMPACT_STRINGS : Sta Z Z.heap "java/lang/String" "COMPACT_STRINGS" "Z" (.int zC)) (HF_a1_coder : Fld Z h0 a1 "java/lang/String" "coder" "B" (.int 0)) (h6_hc3 : ¬ (zC = (0 : Int32))) :
    own_C l Z (⟨"java/lang/String", "length", "()I"⟩ : MethodName) jdk_42_method_54_code 1 (some .int) ws ({ frames := 2, cells := 0, slots := 0, locals := 40 } : Room) #[(.ref a1)] h0 (Q15v0 Z a1 t0 k9 nn vs zC h0 n0) := by
  refine MetFree.of_bodySF (plainFor_of_name pnc_java_lang_String) hisR ?_
  intro p e s m args below meth c s₁ Bd hml0 hP hK
  obtain ⟨rfl, hZ, hh⟩ := hP
  have hx := Bd.exec
  have hby := Bd.bytes
  have hml : c.maxLocals = 1 := hml0
  have hown : s.vm.findClass "java/lang/String" = some m.cls := findClass_of_methodNamed Bd.named
  have hnm := (name_of_methodNamed Bd.named Bd.method).1
  have X0 : Stand p l e ({ frames := 2, cells := 0, slots := 0, locals := 40 } : Room) s m #[(.ref a1)] below meth c s₁ [] 0 0 := Stand.of_body Bd
  have e0 : s₁.heap = h0 := by rw [← hh, Bd.state]; rfl
  have N0 := Fr.nil n0
  have Z0 : n0 ≤ h0.size := O0.1 ▸ O0.2.1
  have pre0 : ∀ t, Steps p.tables e below (s₁.setTop (mkF m 0 #[.val (.ref a1)] [])) t → Steps p.tables e below (s₁.setTop (entryFrame m #[(.ref a1)] 1)) t := fun t k => castTop (ef_15 m a1) k
  obtain ⟨T2, X2, e2, st2⟩ := getF X0 hx hZ hown (host := "") (Or.inl (own_w hw 55 rfl)) Via.refl e0 HF_a1_value (g := (mkF m 1 #[.val (.ref a1)] [(.ref a1)])) rfl rfl (hb hby d15_1)
  obtain ⟨cl3, Ar3, q3, S3, Nn3, Hh3, G3⟩ := id HV_t0
  obtain ⟨cq4, kq4, q4a, q4b, q4c⟩ := isOf hZ e2 HE_a1
  obtain ⟨vr4, _, ⟨T4, L4, k4, n4⟩, -, X4, ⟨Lc4, hQ4, l4, y4, z4⟩, st4⟩ := X2.virtualBack hx (y := (⟨"java/lang/String", "coder", "()B"⟩ : MethodName)) (z := (⟨"java/lang/String", "coder", "()B"⟩ : MethodName)) hown (mvT hZ (own_w hw 66 rfl)) (mvT hZ (own_w hw 67 rfl)) (notFace_of_selects (args := #[]) (mvT hZ (own_w hw 69 rfl))) (mvT hZ (own_w hw 69 rfl)) (mvT hZ (own_w hw 68 rfl)) (by decide) (backOf (W := 1) (rm16v0 l Z a0 hw [] a1 zC h0 n0 O0 S_COMPACT_STRINGS h6_hc3 HF_a1_coder) hZ (own_w hw 70 rfl) (own_w hw 11 rfl) (by decide) (by decide)) q4a q4c (g := (mkF m 6 #[.val (.ref a1)] [(.ref a1), (.int nn)])) rfl (by rw [hml]; rfl) (Steps.refl _) (argsL := []) (rest := [(.int nn)]) (lenOf pd_0 rfl) rfl (by show 2 * 0 + _ ≤ _; exact Nat.le_of_eq rfl) (hb hby d15_6) (fun _ _ => ⟨rfl, e2, (by decide : 0 + 0 ≤ _), (by decide : 0 + 0 ≤ _)⟩)
  dsimp only [Pt.U, Pt.locs, Pt.cells, Pt.slots] at X4 l4 y4 z4 st4 hQ4
  subst l4 y4 z4
  obtain ⟨rfl, N4q, e4⟩ := hQ4
  have N4 := Fr.app N0 N4q
  replace X4 := X4.more (cells' := 0) (slots' := 0) (by decide) (by decide)
  obtain ⟨fs, hr, hrun, hended, hW, hsame⟩ := X4.leave (v := some (.int (nn >>> ((0 : Int32) &&& 31)))) (fun h => by rw [Bd.returns] at h; cases h)
  refine ⟨_, _, pre0 _ ?_, hrun, hended, _, _, rfl, ?_, ⟨_, rfl⟩, hW, hsame.mono (by decide) (by decide)⟩
  · show Steps p.tables e below (s₁.setTop (mkF m 0 #[.val (.ref a1)] [])) _
    refine XS.aloadN X0.here hx rfl (hb hby d15_0) rfl rfl ?_
    refine st2 _ ?_
    show Steps p.tables e below (T2.setTop (mkF m 4 #[.val (.ref a1)] [(.ref t0)])) _
    refine X2.arraylength hx (by rw [e2]; exact Ar3.1) (State.isArrayOf_alike hZ.alike Ar3.2.1) (g := (mkF m 4 #[.val (.ref a1)] [(.ref t0)])) rfl rfl (hb hby d15_4) _ ?_
    rw [len_of S3 Nn3]
    refine XS.aloadN X2.here hx rfl (hb hby d15_5) rfl rfl ?_
    refine st4.trans ?_
    refine XS.ishr X4.here hx rfl (hb hby d15_9) rfl ?_
    exact own_retI X4 hx Bd.returns (hb hby d15_10) hr
  · show Q15v0 Z a1 t0 k9 nn vs zC h0 n0 _ T4.heap _
    rw [e4]
    exact ⟨rfl, N4, rfl⟩
def Q15v1 (Z : State) (a1 t0 : Addr) (k9 : ClassId) (nn : Int32) (vs : List Value) (zC : Int32) (h0 : Heap) (n0 : Nat) (v : Option Value) (h : Heap) (L : List Loc) : Prop := v = some (.int (nn >>> ((1 : Int32) &&& 31))) ∧ Fr n0 L ∧ h = h0
theorem rm15v1 (l : Launch) (Z : State) (a0 : Array Value) (hw : ∀ d ∈ tables_1, d.before a0 Z = true) (ws : List Jvm.Cond) (a1 t0 : Addr) (k9 : ClassId) (nn : Int32) (vs : List Value) (zC : Int32) (h0 : Heap) (n0 : Nat) (O0 : Old Z n0 h0) (HE_a1 : Exa Z h0 a1 "java/lang/String") (HV_t0 : Arv Z h0 t0 k9 .byte nn vs (.int 0)) (HF_a1_value : Fld Z h0 a1 "java/lang/String" "value" "[B" (.ref t0)) (S_COMPACT_STRINGS : Sta Z Z.heap "java/lang/String" "COMPACT_STRINGS" "Z" (.int zC)) (HF_a1_coder : Fld Z h0 a1 "java/lang/String" "coder" "B" (.int 1)) (h6_hc3 : ¬ (zC = (0 : Int32))) :
    own_C l Z (⟨"java/lang/String", "length", "()I"⟩ : MethodName) jdk_42_method_54_code 1 (some .int) ws ({ frames := 2, cells := 0, slots := 0, locals := 40 } : Room) #[(.ref a1)] h0 (Q15v1 Z a1 t0 k9 nn vs zC h0 n0) := by
  refine MetFree.of_bodySF (plainFor_of_name pnc_java_lang_String) hisR ?_
  intro p e s m args below meth c s₁ Bd hml0 hP hK
  obtain ⟨rfl, hZ, hh⟩ := hP
  have hx := Bd.exec
  have hby := Bd.bytes
  have hml : c.maxLocals = 1 := hml0
  have hown : s.vm.findClass "java/lang/String" = some m.cls := findClass_of_methodNamed Bd.named
  have hnm := (name_of_methodNamed Bd.named Bd.method).1
  have X0 : Stand p l e ({ frames := 2, cells := 0, slots := 0, locals := 40 } : Room) s m #[(.ref a1)] below meth c s₁ [] 0 0 := Stand.of_body Bd
  have e0 : s₁.heap = h0 := by rw [← hh, Bd.state]; rfl
  have N0 := Fr.nil n0
  have Z0 : n0 ≤ h0.size := O0.1 ▸ O0.2.1
  have pre0 : ∀ t, Steps p.tables e below (s₁.setTop (mkF m 0 #[.val (.ref a1)] [])) t → Steps p.tables e below (s₁.setTop (entryFrame m #[(.ref a1)] 1)) t := fun t k => castTop (ef_15 m a1) k
  obtain ⟨T2, X2, e2, st2⟩ := getF X0 hx hZ hown (host := "") (Or.inl (own_w hw 55 rfl)) Via.refl e0 HF_a1_value (g := (mkF m 1 #[.val (.ref a1)] [(.ref a1)])) rfl rfl (hb hby d15_1)
  obtain ⟨cl3, Ar3, q3, S3, Nn3, Hh3, G3⟩ := id HV_t0
  obtain ⟨cq4, kq4, q4a, q4b, q4c⟩ := isOf hZ e2 HE_a1
  obtain ⟨vr4, _, ⟨T4, L4, k4, n4⟩, -, X4, ⟨Lc4, hQ4, l4, y4, z4⟩, st4⟩ := X2.virtualBack hx (y := (⟨"java/lang/String", "coder", "()B"⟩ : MethodName)) (z := (⟨"java/lang/String", "coder", "()B"⟩ : MethodName)) hown (mvT hZ (own_w hw 66 rfl)) (mvT hZ (own_w hw 67 rfl)) (notFace_of_selects (args := #[]) (mvT hZ (own_w hw 69 rfl))) (mvT hZ (own_w hw 69 rfl)) (mvT hZ (own_w hw 68 rfl)) (by decide) (backOf (W := 1) (rm16v1 l Z a0 hw [] a1 zC h0 n0 O0 S_COMPACT_STRINGS h6_hc3 HF_a1_coder) hZ (own_w hw 70 rfl) (own_w hw 11 rfl) (by decide) (by decide)) q4a q4c (g := (mkF m 6 #[.val (.ref a1)] [(.ref a1), (.int nn)])) rfl (by rw [hml]; rfl) (Steps.refl _) (argsL := []) (rest := [(.int nn)]) (lenOf pd_0 rfl) rfl (by show 2 * 0 + _ ≤ _; exact Nat.le_of_eq rfl) (hb hby d15_6) (fun _ _ => ⟨rfl, e2, (by decide : 0 + 0 ≤ _), (by decide : 0 + 0 ≤ _)⟩)
  dsimp only [Pt.U, Pt.locs, Pt.cells, Pt.slots] at X4 l4 y4 z4 st4 hQ4
  subst l4 y4 z4
  obtain ⟨rfl, N4q, e4⟩ := hQ4
  have N4 := Fr.app N0 N4q
  replace X4 := X4.more (cells' := 0) (slots' := 0) (by decide) (by decide)
  obtain ⟨fs, hr, hrun, hended, hW, hsame⟩ := X4.leave (v := some (.int (nn >>> ((1 : Int32) &&& 31)))) (fun h => by rw [Bd.returns] at h; cases h)
  refine ⟨_, _, pre0 _ ?_, hrun, hended, _, _, rfl, ?_, ⟨_, rfl⟩, hW, hsame.mono (by decide) (by decide)⟩
  · show Steps p.tables e below (s₁.setTop (mkF m 0 #[.val (.ref a1)] [])) _
    refine XS.aloadN X0.here hx rfl (hb hby d15_0) rfl rfl ?_
    refine st2 _ ?_
    show Steps p.tables e below (T2.setTop (mkF m 4 #[.val (.ref a1)] [(.ref t0)])) _
    refine X2.arraylength hx (by rw [e2]; exact Ar3.1) (State.isArrayOf_alike hZ.alike Ar3.2.1) (g := (mkF m 4 #[.val (.ref a1)] [(.ref t0)])) rfl rfl (hb hby d15_4) _ ?_
    rw [len_of S3 Nn3]
    refine XS.aloadN X2.here hx rfl (hb hby d15_5) rfl rfl ?_
    refine st4.trans ?_
    refine XS.ishr X4.here hx rfl (hb hby d15_9) rfl ?_
    exact own_retI X4 hx Bd.returns (hb hby d15_10) hr
  · show Q15v1 Z a1 t0 k9 nn vs zC h0 n0 _ T4.heap _
    rw [e4]
    exact ⟨rfl, N4, rfl⟩
def Q15n0 (Z : State) (a1 : Addr) (zC : Int32) (h0 : Heap) (n0 : Nat) (v : Option Value) (h : Heap) (L : List Loc) : Prop := v = some (.int 0) ∧ Fr n0 L ∧ h = h0
theorem rm15n0 (l : Launch) (Z : State) (a0 : Array Value) (hw : ∀ d ∈ tables_1, d.before a0 Z = true) (ws : List Jvm.Cond) (a1 : Addr) (zC : Int32) (h0 : Heap) (n0 : Nat) (O0 : Old Z n0 h0) (HT_a1 : own_Str Z h0 h0.size a1 []) (S_COMPACT_STRINGS : Sta Z Z.heap "java/lang/String" "COMPACT_STRINGS" "Z" (.int zC)) (hz : ¬ (zC = (0 : Int32))) :
    own_C l Z (⟨"java/lang/String", "length", "()I"⟩ : MethodName) jdk_42_method_54_code 1 (some .int) ws ({ frames := 2, cells := 0, slots := 0, locals := 40 } : Room) #[(.ref a1)] h0 (Q15n0 Z a1 zC h0 n0) := by
  obtain ⟨xl, t, kb, cd, bn, vs, xt, E, V_, C_, A_, R_⟩ := HT_a1
  rcases R_ with ⟨rfl, rfl, hp, rfl⟩ | ⟨rfl, rfl, hp, rfl⟩
  · exact rm15v0 l Z a0 hw ws a1 t kb (0 : Int32) [] zC h0 n0 O0 E A_ V_ S_COMPACT_STRINGS C_ hz
  · exact rm15v1 l Z a0 hw ws a1 t kb (0 : Int32) [] zC h0 n0 O0 E A_ V_ S_COMPACT_STRINGS C_ hz
def Q15n6 (Z : State) (a1 : Addr) (c0 c1 c2 c3 c4 c5 zC : Int32) (h0 : Heap) (n0 : Nat) (v : Option Value) (h : Heap) (L : List Loc) : Prop := v = some (.int 6) ∧ Fr n0 L ∧ h = h0
theorem rm15n6 (l : Launch) (Z : State) (a0 : Array Value) (hw : ∀ d ∈ tables_1, d.before a0 Z = true) (ws : List Jvm.Cond) (a1 : Addr) (c0 c1 c2 c3 c4 c5 zC : Int32) (h0 : Heap) (n0 : Nat) (O0 : Old Z n0 h0) (HT_a1 : own_Str Z h0 h0.size a1 [c0, c1, c2, c3, c4, c5]) (S_COMPACT_STRINGS : Sta Z Z.heap "java/lang/String" "COMPACT_STRINGS" "Z" (.int zC)) (hz : ¬ (zC = (0 : Int32))) :
    own_C l Z (⟨"java/lang/String", "length", "()I"⟩ : MethodName) jdk_42_method_54_code 1 (some .int) ws ({ frames := 2, cells := 0, slots := 0, locals := 40 } : Room) #[(.ref a1)] h0 (Q15n6 Z a1 c0 c1 c2 c3 c4 c5 zC h0 n0) := by
  obtain ⟨xl, t, kb, cd, bn, vs, xt, E, V_, C_, A_, R_⟩ := HT_a1
  rcases R_ with ⟨rfl, rfl, hp, rfl⟩ | ⟨rfl, rfl, hp, rfl⟩
  · exact rm15v0 l Z a0 hw ws a1 t kb (6 : Int32) [(.int (own_lb c0)), (.int (own_lb c1)), (.int (own_lb c2)), (.int (own_lb c3)), (.int (own_lb c4)), (.int (own_lb c5))] zC h0 n0 O0 E A_ V_ S_COMPACT_STRINGS C_ hz
  · exact rm15v1 l Z a0 hw ws a1 t kb (12 : Int32) [(.int (own_u0 c0)), (.int (own_u1 c0)), (.int (own_u0 c1)), (.int (own_u1 c1)), (.int (own_u0 c2)), (.int (own_u1 c2)), (.int (own_u0 c3)), (.int (own_u1 c3)), (.int (own_u0 c4)), (.int (own_u1 c4)), (.int (own_u0 c5)), (.int (own_u1 c5))] zC h0 n0 O0 E A_ V_ S_COMPACT_STRINGS C_ hz
def Q15n7 (Z : State) (a1 : Addr) (c0 c1 c2 c3 c4 c5 c6 zC : Int32) (h0 : Heap) (n0 : Nat) (v : Option Value) (h : Heap) (L : List Loc) : Prop := v = some (.int 7) ∧ Fr n0 L ∧ h = h0
theorem rm15n7 (l : Launch) (Z : State) (a0 : Array Value) (hw : ∀ d ∈ tables_1, d.before a0 Z = true) (ws : List Jvm.Cond) (a1 : Addr) (c0 c1 c2 c3 c4 c5 c6 zC : Int32) (h0 : Heap) (n0 : Nat) (O0 : Old Z n0 h0) (HT_a1 : own_Str Z h0 h0.size a1 [c0, c1, c2, c3, c4, c5, c6]) (S_COMPACT_STRINGS : Sta Z Z.heap "java/lang/String" "COMPACT_STRINGS" "Z" (.int zC)) (hz : ¬ (zC = (0 : Int32))) :
    own_C l Z (⟨"java/lang/String", "length", "()I"⟩ : MethodName) jdk_42_method_54_code 1 (some .int) ws ({ frames := 2, cells := 0, slots := 0, locals := 40 } : Room) #[(.ref a1)] h0 (Q15n7 Z a1 c0 c1 c2 c3 c4 c5 c6 zC h0 n0) := by
  obtain ⟨xl, t, kb, cd, bn, vs, xt, E, V_, C_, A_, R_⟩ := HT_a1
  rcases R_ with ⟨rfl, rfl, hp, rfl⟩ | ⟨rfl, rfl, hp, rfl⟩
  · exact rm15v0 l Z a0 hw ws a1 t kb (7 : Int32) [(.int (own_lb c0)), (.int (own_lb c1)), (.int (own_lb c2)), (.int (own_lb c3)), (.int (own_lb c4)), (.int (own_lb c5)), (.int (own_lb c6))] zC h0 n0 O0 E A_ V_ S_COMPACT_STRINGS C_ hz
  · exact rm15v1 l Z a0 hw ws a1 t kb (14 : Int32) [(.int (own_u0 c0)), (.int (own_u1 c0)), (.int (own_u0 c1)), (.int (own_u1 c1)), (.int (own_u0 c2)), (.int (own_u1 c2)), (.int (own_u0 c3)), (.int (own_u1 c3)), (.int (own_u0 c4)), (.int (own_u1 c4)), (.int (own_u0 c5)), (.int (own_u1 c5)), (.int (own_u0 c6)), (.int (own_u1 c6))] zC h0 n0 O0 E A_ V_ S_COMPACT_STRINGS C_ hz
def Q15n8 (Z : State) (a1 : Addr) (c0 c1 c2 c3 c4 c5 c6 c7 zC : Int32) (h0 : Heap) (n0 : Nat) (v : Option Value) (h : Heap) (L : List Loc) : Prop := v = some (.int 8) ∧ Fr n0 L ∧ h = h0
theorem rm15n8 (l : Launch) (Z : State) (a0 : Array Value) (hw : ∀ d ∈ tables_1, d.before a0 Z = true) (ws : List Jvm.Cond) (a1 : Addr) (c0 c1 c2 c3 c4 c5 c6 c7 zC : Int32) (h0 : Heap) (n0 : Nat) (O0 : Old Z n0 h0) (HT_a1 : own_Str Z h0 h0.size a1 [c0, c1, c2, c3, c4, c5, c6, c7]) (S_COMPACT_STRINGS : Sta Z Z.heap "java/lang/String" "COMPACT_STRINGS" "Z" (.int zC)) (hz : ¬ (zC = (0 : Int32))) :
    own_C l Z (⟨"java/lang/String", "length", "()I"⟩ : MethodName) jdk_42_method_54_code 1 (some .int) ws ({ frames := 2, cells := 0, slots := 0, locals := 40 } : Room) #[(.ref a1)] h0 (Q15n8 Z a1 c0 c1 c2 c3 c4 c5 c6 c7 zC h0 n0) := by
  obtain ⟨xl, t, kb, cd, bn, vs, xt, E, V_, C_, A_, R_⟩ := HT_a1
  rcases R_ with ⟨rfl, rfl, hp, rfl⟩ | ⟨rfl, rfl, hp, rfl⟩
  · exact rm15v0 l Z a0 hw ws a1 t kb (8 : Int32) [(.int (own_lb c0)), (.int (own_lb c1)), (.int (own_lb c2)), (.int (own_lb c3)), (.int (own_lb c4)), (.int (own_lb c5)), (.int (own_lb c6)), (.int (own_lb c7))] zC h0 n0 O0 E A_ V_ S_COMPACT_STRINGS C_ hz
  · exact rm15v1 l Z a0 hw ws a1 t kb (16 : Int32) [(.int (own_u0 c0)), (.int (own_u1 c0)), (.int (own_u0 c1)), (.int (own_u1 c1)), (.int (own_u0 c2)), (.int (own_u1 c2)), (.int (own_u0 c3)), (.int (own_u1 c3)), (.int (own_u0 c4)), (.int (own_u1 c4)), (.int (own_u0 c5)), (.int (own_u1 c5)), (.int (own_u0 c6)), (.int (own_u1 c6)), (.int (own_u0 c7)), (.int (own_u1 c7))] zC h0 n0 O0 E A_ V_ S_COMPACT_STRINGS C_ hz
theorem d18_0 : decode jdk_42_method_154_code 0 = .ok (.getstatic 38, 3) := by decide +kernel
theorem d18_3 : decode jdk_42_method_154_code 3 = .ok (.ifCond .eq 14, 3) := by decide +kernel
theorem d18_6 : decode jdk_42_method_154_code 6 = .ok (.aload_n 0, 1) := by decide +kernel
theorem d18_7 : decode jdk_42_method_154_code 7 = .ok (.getfield 15, 3) := by decide +kernel
theorem d18_10 : decode jdk_42_method_154_code 10 = .ok (.ifCond .ne 7, 3) := by decide +kernel
theorem d18_13 : decode jdk_42_method_154_code 13 = .ok (.iconst 1, 1) := by decide +kernel
theorem d18_14 : decode jdk_42_method_154_code 14 = .ok (.goto 4, 3) := by decide +kernel
theorem d18_18 : decode jdk_42_method_154_code 18 = .ok (.ireturn, 1) := by decide +kernel
def Q18v0 (Z : State) (a1 : Addr) (zC : Int32) (h0 : Heap) (n0 : Nat) (v : Option Value) (h : Heap) (L : List Loc) : Prop := v = some (.int 1) ∧ Fr n0 L ∧ h = h0
theorem ef_18 (m : MethodId) (x0 : Addr) : entryFrame m #[(.ref x0)] 1 = mkF m 0 #[.val (.ref x0)] [] := by first | (simp [entryFrame, mkF, argsToLocals, Value.category]; done) | rfl
theorem rm18v0 (l : Launch) (Z : State) (a0 : Array Value) (hw : ∀ d ∈ tables_1, d.before a0 Z = true) (ws : List Jvm.Cond) (a1 : Addr) (zC : Int32) (h0 : Heap) (n0 : Nat) (O0 : Old Z n0 h0) (S_COMPACT_STRINGS : Sta Z Z.heap "java/lang/String" "COMPACT_STRINGS" "Z" (.int zC)) (hc3 : ¬ (zC = (0 : Int32))) (HF_a1_coder : Fld Z h0 a1 "java/lang/String" "coder" "B" (.int 0)) :
    own_C l Z (⟨"java/lang/String", "isLatin1", "()Z"⟩ : MethodName) jdk_42_method_154_code 1 (some .boolean) ws ({ frames := 0, cells := 0, slots := 0, locals := 0 } : Room) #[(.ref a1)] h0 (Q18v0 Z a1 zC h0 n0) := by
  refine MetFree.of_bodySF (plainFor_of_name pnc_java_lang_String) hisR ?_
  intro p e s m args below meth c s₁ Bd hml0 hP hK
  obtain ⟨rfl, hZ, hh⟩ := hP
  have hx := Bd.exec
  have hby := Bd.bytes
  have hml : c.maxLocals = 1 := hml0
  have hown : s.vm.findClass "java/lang/String" = some m.cls := findClass_of_methodNamed Bd.named
  have hnm := (name_of_methodNamed Bd.named Bd.method).1
  have X0 : Stand p l e ({ frames := 0, cells := 0, slots := 0, locals := 0 } : Room) s m #[(.ref a1)] below meth c s₁ [] 0 0 := Stand.of_body Bd
  have e0 : s₁.heap = h0 := by rw [← hh, Bd.state]; rfl
  have N0 := Fr.nil n0
  have Z0 : n0 ≤ h0.size := O0.1 ▸ O0.2.1
  have pre0 : ∀ t, Steps p.tables e below (s₁.setTop (mkF m 0 #[.val (.ref a1)] [])) t → Steps p.tables e below (s₁.setTop (entryFrame m #[(.ref a1)] 1)) t := fun t k => castTop (ef_18 m a1) k
  obtain ⟨T2, X2, e2, st2⟩ := getS2 X0 hx hZ hown (host := "") (Or.inl (own_w hw 22 rfl)) Via.refl e0 (S_COMPACT_STRINGS.ext O0.2) (g := (mkF m 0 #[.val (.ref a1)] [])) rfl (hb hby d18_0)
  obtain ⟨T3, X3, e3, st3⟩ := getF X2 hx hZ hown (host := "") (Or.inl (own_w hw 53 rfl)) Via.refl e2 HF_a1_coder (g := (mkF m 7 #[.val (.ref a1)] [(.ref a1)])) rfl rfl (hb hby d18_7)
  obtain ⟨fs, hr, hrun, hended, hW, hsame⟩ := X3.leave (v := some (.int 1)) (fun h => by rw [Bd.returns] at h; cases h)
  refine ⟨_, _, pre0 _ ?_, hrun, hended, _, _, rfl, ?_, ⟨_, rfl⟩, hW, hsame.mono (by decide) (by decide)⟩
  · show Steps p.tables e below (s₁.setTop (mkF m 0 #[.val (.ref a1)] [])) _
    refine st2 _ ?_
    refine XS.ifNo X2.here hx rfl (hb hby d18_3) rfl ((if0 _ _).trans (feq hc3).1) ?_
    refine XS.aloadN X2.here hx rfl (hb hby d18_6) rfl rfl ?_
    refine st3 _ ?_
    refine XS.ifNo X3.here hx rfl (hb hby d18_10) rfl ((if0 _ _).trans (teq (by decide : (0 : Int32) = (0 : Int32))).2) ?_
    refine XS.iconst X3.here hx rfl (hb hby d18_13) ?_
    refine XS.goto X3.here hx rfl (pc0 := 14) (pc' := 18) rfl (hb hby d18_14) (by decide) (by decide) ?_
    exact retN X3 hx (t := .boolean) Bd.returns (by simp) (hb hby d18_18) hr
  · show Q18v0 Z a1 zC h0 n0 _ T3.heap _
    rw [e3]
    exact ⟨rfl, N0, rfl⟩
theorem d18_17 : decode jdk_42_method_154_code 17 = .ok (.iconst 0, 1) := by decide +kernel
def Q18v1 (Z : State) (a1 : Addr) (zC : Int32) (h0 : Heap) (n0 : Nat) (v : Option Value) (h : Heap) (L : List Loc) : Prop := v = some (.int 0) ∧ Fr n0 L ∧ h = h0
theorem rm18v1 (l : Launch) (Z : State) (a0 : Array Value) (hw : ∀ d ∈ tables_1, d.before a0 Z = true) (ws : List Jvm.Cond) (a1 : Addr) (zC : Int32) (h0 : Heap) (n0 : Nat) (O0 : Old Z n0 h0) (S_COMPACT_STRINGS : Sta Z Z.heap "java/lang/String" "COMPACT_STRINGS" "Z" (.int zC)) (hc3 : ¬ (zC = (0 : Int32))) (HF_a1_coder : Fld Z h0 a1 "java/lang/String" "coder" "B" (.int 1)) :
    own_C l Z (⟨"java/lang/String", "isLatin1", "()Z"⟩ : MethodName) jdk_42_method_154_code 1 (some .boolean) ws ({ frames := 0, cells := 0, slots := 0, locals := 0 } : Room) #[(.ref a1)] h0 (Q18v1 Z a1 zC h0 n0) := by
  refine MetFree.of_bodySF (plainFor_of_name pnc_java_lang_String) hisR ?_
  intro p e s m args below meth c s₁ Bd hml0 hP hK
  obtain ⟨rfl, hZ, hh⟩ := hP
  have hx := Bd.exec
  have hby := Bd.bytes
  have hml : c.maxLocals = 1 := hml0
  have hown : s.vm.findClass "java/lang/String" = some m.cls := findClass_of_methodNamed Bd.named
  have hnm := (name_of_methodNamed Bd.named Bd.method).1
  have X0 : Stand p l e ({ frames := 0, cells := 0, slots := 0, locals := 0 } : Room) s m #[(.ref a1)] below meth c s₁ [] 0 0 := Stand.of_body Bd
  have e0 : s₁.heap = h0 := by rw [← hh, Bd.state]; rfl
  have N0 := Fr.nil n0
  have Z0 : n0 ≤ h0.size := O0.1 ▸ O0.2.1
  have pre0 : ∀ t, Steps p.tables e below (s₁.setTop (mkF m 0 #[.val (.ref a1)] [])) t → Steps p.tables e below (s₁.setTop (entryFrame m #[(.ref a1)] 1)) t := fun t k => castTop (ef_18 m a1) k
  obtain ⟨T2, X2, e2, st2⟩ := getS2 X0 hx hZ hown (host := "") (Or.inl (own_w hw 22 rfl)) Via.refl e0 (S_COMPACT_STRINGS.ext O0.2) (g := (mkF m 0 #[.val (.ref a1)] [])) rfl (hb hby d18_0)
  obtain ⟨T3, X3, e3, st3⟩ := getF X2 hx hZ hown (host := "") (Or.inl (own_w hw 53 rfl)) Via.refl e2 HF_a1_coder (g := (mkF m 7 #[.val (.ref a1)] [(.ref a1)])) rfl rfl (hb hby d18_7)
  obtain ⟨fs, hr, hrun, hended, hW, hsame⟩ := X3.leave (v := some (.int 0)) (fun h => by rw [Bd.returns] at h; cases h)
  refine ⟨_, _, pre0 _ ?_, hrun, hended, _, _, rfl, ?_, ⟨_, rfl⟩, hW, hsame.mono (by decide) (by decide)⟩
  · show Steps p.tables e below (s₁.setTop (mkF m 0 #[.val (.ref a1)] [])) _
    refine st2 _ ?_
    refine XS.ifNo X2.here hx rfl (hb hby d18_3) rfl ((if0 _ _).trans (feq hc3).1) ?_
    refine XS.aloadN X2.here hx rfl (hb hby d18_6) rfl rfl ?_
    refine st3 _ ?_
    refine XS.ifYes X3.here hx rfl (pc0 := 10) (pc' := 17) rfl (hb hby d18_10) rfl ((if0 _ _).trans (feq (by decide : ¬ ((1 : Int32) = (0 : Int32)))).2) (by decide) (by decide) ?_
    refine XS.iconst X3.here hx rfl (hb hby d18_17) ?_
    exact retN X3 hx (t := .boolean) Bd.returns (by simp) (hb hby d18_18) hr
  · show Q18v1 Z a1 zC h0 n0 _ T3.heap _
    rw [e3]
    exact ⟨rfl, N0, rfl⟩
theorem d21_0 : decode jdk_52_method_6_code 0 = .ok (.aload_n 0, 1) := by decide +kernel
theorem d21_1 : decode jdk_52_method_6_code 1 = .ok (.arraylength, 1) := by decide +kernel
theorem d21_2 : decode jdk_52_method_6_code 2 = .ok (.iconst 1, 1) := by decide +kernel
theorem d21_3 : decode jdk_52_method_6_code 3 = .ok (.ishr, 1) := by decide +kernel
theorem d21_4 : decode jdk_52_method_6_code 4 = .ok (.ireturn, 1) := by decide +kernel
def Q21 (Z : State) (a1 : Addr) (k9 : ClassId) (nn : Int32) (vs : List Value) (h0 : Heap) (n0 : Nat) (v : Option Value) (h : Heap) (L : List Loc) : Prop := v = some (.int (nn >>> ((1 : Int32) &&& 31))) ∧ Fr n0 L ∧ h = h0
theorem ef_21 (m : MethodId) (x0 : Addr) : entryFrame m #[(.ref x0)] 1 = mkF m 0 #[.val (.ref x0)] [] := by first | (simp [entryFrame, mkF, argsToLocals, Value.category]; done) | rfl
theorem rm21 (l : Launch) (Z : State) (a0 : Array Value) (hw : ∀ d ∈ tables_1, d.before a0 Z = true) (ws : List Jvm.Cond) (a1 : Addr) (k9 : ClassId) (nn : Int32) (vs : List Value) (h0 : Heap) (n0 : Nat) (O0 : Old Z n0 h0) (HV_a1 : Arv Z h0 a1 k9 .byte nn vs (.int 0)) :
    own_C l Z (⟨"java/lang/StringUTF16", "length", "([B)I"⟩ : MethodName) jdk_52_method_6_code 1 (some .int) ws ({ frames := 0, cells := 0, slots := 0, locals := 0 } : Room) #[(.ref a1)] h0 (Q21 Z a1 k9 nn vs h0 n0) := by
  refine MetFree.of_bodySF (plainFor_of_name pnc_java_lang_StringUTF16) hisR ?_
  intro p e s m args below meth c s₁ Bd hml0 hP hK
  obtain ⟨rfl, hZ, hh⟩ := hP
  have hx := Bd.exec
  have hby := Bd.bytes
  have hml : c.maxLocals = 1 := hml0
  have hown : s.vm.findClass "java/lang/StringUTF16" = some m.cls := findClass_of_methodNamed Bd.named
  have hnm := (name_of_methodNamed Bd.named Bd.method).1
  have X0 : Stand p l e ({ frames := 0, cells := 0, slots := 0, locals := 0 } : Room) s m #[(.ref a1)] below meth c s₁ [] 0 0 := Stand.of_body Bd
  have e0 : s₁.heap = h0 := by rw [← hh, Bd.state]; rfl
  have N0 := Fr.nil n0
  have Z0 : n0 ≤ h0.size := O0.1 ▸ O0.2.1
  have pre0 : ∀ t, Steps p.tables e below (s₁.setTop (mkF m 0 #[.val (.ref a1)] [])) t → Steps p.tables e below (s₁.setTop (entryFrame m #[(.ref a1)] 1)) t := fun t k => castTop (ef_21 m a1) k
  obtain ⟨cl2, Ar2, q2, S2, Nn2, Hh2, G2⟩ := id HV_a1
  obtain ⟨fs, hr, hrun, hended, hW, hsame⟩ := X0.leave (v := some (.int (nn >>> ((1 : Int32) &&& 31)))) (fun h => by rw [Bd.returns] at h; cases h)
  refine ⟨_, _, pre0 _ ?_, hrun, hended, _, _, rfl, ?_, ⟨_, rfl⟩, hW, hsame.mono (by decide) (by decide)⟩
  · show Steps p.tables e below (s₁.setTop (mkF m 0 #[.val (.ref a1)] [])) _
    refine XS.aloadN X0.here hx rfl (hb hby d21_0) rfl rfl ?_
    show Steps p.tables e below (s₁.setTop (mkF m 1 #[.val (.ref a1)] [(.ref a1)])) _
    refine X0.arraylength hx (by rw [e0]; exact Ar2.1) (State.isArrayOf_alike hZ.alike Ar2.2.1) (g := (mkF m 1 #[.val (.ref a1)] [(.ref a1)])) rfl rfl (hb hby d21_1) _ ?_
    rw [len_of S2 Nn2]
    refine XS.iconst X0.here hx rfl (hb hby d21_2) ?_
    refine XS.ishr X0.here hx rfl (hb hby d21_3) rfl ?_
    exact own_retI X0 hx Bd.returns (hb hby d21_4) hr
  · show Q21 Z a1 k9 nn vs h0 n0 _ s₁.heap _
    rw [e0]
    exact ⟨rfl, N0, rfl⟩
theorem d24_0 : decode jdk_43_method_2_code 0 = .ok (.iload_n 1, 1) := by decide +kernel
theorem d24_1 : decode jdk_43_method_2_code 1 = .ok (.aload_n 0, 1) := by decide +kernel
theorem d24_2 : decode jdk_43_method_2_code 2 = .ok (.arraylength, 1) := by decide +kernel
theorem d24_3 : decode jdk_43_method_2_code 3 = .ok (.invokestatic 9, 3) := by decide +kernel
theorem pd_11 : parseMethodDescriptor "(II)V" = some ⟨[.int, .int], none⟩ := by decide +kernel
theorem d24_6 : decode jdk_43_method_2_code 6 = .ok (.aload_n 0, 1) := by decide +kernel
theorem d24_7 : decode jdk_43_method_2_code 7 = .ok (.iload_n 1, 1) := by decide +kernel
theorem d24_8 : decode jdk_43_method_2_code 8 = .ok (.baload, 1) := by decide +kernel
theorem d24_9 : decode jdk_43_method_2_code 9 = .ok (.sipush 255, 3) := by decide +kernel
theorem d24_12 : decode jdk_43_method_2_code 12 = .ok (.iand, 1) := by decide +kernel
theorem d24_13 : decode jdk_43_method_2_code 13 = .ok (.i2c, 1) := by decide +kernel
theorem d24_14 : decode jdk_43_method_2_code 14 = .ok (.ireturn, 1) := by decide +kernel
def Q24 (Z : State) (a1 : Addr) (p2 : Int32) (k9 : ClassId) (nn : Int32) (vs : List Value) (fm : Value) (w6 : Int32) (h0 : Heap) (n0 : Nat) (v : Option Value) (h : Heap) (L : List Loc) : Prop := v = some (.int (nar .char ((w6 &&& (255 : Int32)).toUInt32.toUInt16.toUInt32.toInt32))) ∧ Fr n0 L ∧ h = h0
theorem ef_24 (m : MethodId) (x0 : Addr) (x1 : Int32) : entryFrame m #[(.ref x0), (.int x1)] 2 = mkF m 0 #[.val (.ref x0), .val (.int x1)] [] := by first | (simp [entryFrame, mkF, argsToLocals, Value.category]; done) | rfl
theorem pnc_java_lang_StringLatin1 : plainName "java/lang/StringLatin1" = true := by first | (simp [plainName, overriddenIn]; done) | decide +kernel
theorem rm24 (l : Launch) (Z : State) (a0 : Array Value) (hw : ∀ d ∈ tables_1, d.before a0 Z = true) (ws : List Jvm.Cond) (a1 : Addr) (p2 : Int32) (k9 : ClassId) (nn : Int32) (vs : List Value) (fm : Value) (w6 : Int32) (h0 : Heap) (n0 : Nat) (O0 : Old Z n0 h0) (HV_a1 : Arv Z h0 a1 k9 .byte nn vs (.int 0)) (S_SIOOBE_FORMATTER : Sta Z Z.heap "jdk/internal/util/Preconditions" "SIOOBE_FORMATTER" "Ljava/util/function/BiFunction;" fm) (h3_h5_hc1 : ¬ (p2 < (0 : Int32))) (h3_h5_hc6 : p2 < nn) (h3_hrfm : fm.isRef = true) (hgd8 : vs.getD (p2).toNatClampNeg (.int 0) = (.int w6)) :
    own_C l Z (⟨"java/lang/StringLatin1", "charAt", "([BI)C"⟩ : MethodName) jdk_43_method_2_code 2 (some .char) ws ({ frames := 3, cells := 0, slots := 0, locals := 53 } : Room) #[(.ref a1), (.int p2)] h0 (Q24 Z a1 p2 k9 nn vs fm w6 h0 n0) := by
  refine MetFree.of_bodySF (plainFor_of_name pnc_java_lang_StringLatin1) hisR ?_
  intro p e s m args below meth c s₁ Bd hml0 hP hK
  obtain ⟨rfl, hZ, hh⟩ := hP
  have hx := Bd.exec
  have hby := Bd.bytes
  have hml : c.maxLocals = 2 := hml0
  have hown : s.vm.findClass "java/lang/StringLatin1" = some m.cls := findClass_of_methodNamed Bd.named
  have hnm := (name_of_methodNamed Bd.named Bd.method).1
  have X0 : Stand p l e ({ frames := 3, cells := 0, slots := 0, locals := 53 } : Room) s m #[(.ref a1), (.int p2)] below meth c s₁ [] 0 0 := Stand.of_body Bd
  have e0 : s₁.heap = h0 := by rw [← hh, Bd.state]; rfl
  have N0 := Fr.nil n0
  have Z0 : n0 ≤ h0.size := O0.1 ▸ O0.2.1
  have pre0 : ∀ t, Steps p.tables e below (s₁.setTop (mkF m 0 #[.val (.ref a1), .val (.int p2)] [])) t → Steps p.tables e below (s₁.setTop (entryFrame m #[(.ref a1), (.int p2)] 2)) t := fun t k => castTop (ef_24 m a1 p2) k
  obtain ⟨cl3, Ar3, q3, S3, Nn3, Hh3, G3⟩ := id HV_a1
  obtain ⟨vr4, _, ⟨T4, L4, k4, n4⟩, -, X4, ⟨Lc4, hQ4, l4, y4, z4⟩, st4⟩ := Jvm.LawKit.callS X0 hx (y := (⟨"java/lang/String", "checkIndex", "(II)V"⟩ : MethodName)) hown (mvT hZ (own_w hw 105 rfl)) (mvT hZ (own_w hw 91 rfl)) (mvT hZ (own_w hw 11 rfl)) (mvT hZ (own_w hw 92 rfl)) (by decide) (backOf (W := 0) (rm22 l Z a0 hw [] p2 nn fm h0 n0 O0 h3_h5_hc1 h3_h5_hc6 S_SIOOBE_FORMATTER h3_hrfm) hZ (own_w hw 92 rfl) (own_w hw 11 rfl) (by decide) (by decide)) (g := (mkF m 3 #[.val (.ref a1), .val (.int p2)] [(.int nn), (.int p2)])) rfl (by rw [hml]; rfl) (argsL := [(.int p2), (.int nn)]) (rest := []) (lenOf pd_11 rfl) rfl (by show 2 * 0 + _ ≤ _; exact Nat.le_of_eq rfl) (hb hby d24_3) (fun _ _ => ⟨rfl, e0, (by decide : 0 + 0 ≤ _), (by decide : 0 + 0 ≤ _)⟩)
  dsimp only [Pt.U, Pt.locs, Pt.cells, Pt.slots] at X4 l4 y4 z4 st4 hQ4
  subst l4 y4 z4
  obtain ⟨rfl, N4q, e4⟩ := hQ4
  have N4 := Fr.app N0 N4q
  replace X4 := X4.more (cells' := 0) (slots' := 0) (by decide) (by decide)
  obtain ⟨cl5, Ar5, q5, S5, Nn5, Hh5, G5⟩ := id HV_a1
  have hin5 : ¬ (p2 < 0 ∨ cl5.slots.size ≤ (p2).toNatClampNeg) := inb_of S5 ⟨h3_h5_hc1, h3_h5_hc6⟩
  have hat5 : cl5.slots[(p2).toNatClampNeg]? = some (.int w6) := Has.at Hh5 hin5 hgd8
  obtain ⟨fs, hr, hrun, hended, hW, hsame⟩ := X4.leave (v := some (.int (nar .char ((w6 &&& (255 : Int32)).toUInt32.toUInt16.toUInt32.toInt32)))) (fun h => by rw [Bd.returns] at h; cases h)
  refine ⟨_, _, pre0 _ ?_, hrun, hended, _, _, rfl, ?_, ⟨_, rfl⟩, hW, hsame.mono (by decide) (by decide)⟩
  · show Steps p.tables e below (s₁.setTop (mkF m 0 #[.val (.ref a1), .val (.int p2)] [])) _
    refine XS.iloadN X0.here hx rfl (hb hby d24_0) rfl ?_
    refine XS.aloadN X0.here hx rfl (hb hby d24_1) rfl rfl ?_
    show Steps p.tables e below (s₁.setTop (mkF m 2 #[.val (.ref a1), .val (.int p2)] [(.ref a1), (.int p2)])) _
    refine X0.arraylength hx (by rw [e0]; exact Ar3.1) (State.isArrayOf_alike hZ.alike Ar3.2.1) (g := (mkF m 2 #[.val (.ref a1), .val (.int p2)] [(.ref a1), (.int p2)])) rfl rfl (hb hby d24_2) _ ?_
    rw [len_of S3 Nn3]
    refine st4 _ ?_
    refine XS.aloadN X4.here hx rfl (hb hby d24_6) rfl rfl ?_
    refine XS.iloadN X4.here hx rfl (hb hby d24_7) rfl ?_
    show Steps p.tables e below (T4.setTop (mkF m 8 #[.val (.ref a1), .val (.int p2)] [(.int p2), (.ref a1)])) _
    refine X4.baloadBytes hx (j := p2) (v := (.int w6)) (by rw [e4]; exact Ar5.1) (State.isArrayOf_alike hZ.alike Ar5.2.1) Ar5.2.2 hin5 hat5 (g := (mkF m 8 #[.val (.ref a1), .val (.int p2)] [(.int p2), (.ref a1)])) rfl rfl (hb hby d24_8) _ ?_
    refine XS.sipush X4.here hx rfl (hb hby d24_9) ?_
    refine XS.iand X4.here hx rfl (hb hby d24_12) rfl ?_
    refine XS.i2c X4.here hx rfl (hb hby d24_13) rfl ?_
    exact retN X4 hx (t := .char) Bd.returns (by simp) (hb hby d24_14) hr
  · show Q24 Z a1 p2 k9 nn vs fm w6 h0 n0 _ T4.heap _
    rw [e4]
    exact ⟨rfl, N4, rfl⟩
theorem d20_0 : decode jdk_52_method_91_code 0 = .ok (.iload_n 0, 1) := by decide +kernel
theorem d20_1 : decode jdk_52_method_91_code 1 = .ok (.aload_n 1, 1) := by decide +kernel
theorem d20_2 : decode jdk_52_method_91_code 2 = .ok (.invokestatic 48, 3) := by decide +kernel
theorem pd_22 : parseMethodDescriptor "([B)I" = some ⟨[(.array .byte)], some .int⟩ := by decide +kernel
theorem d20_5 : decode jdk_52_method_91_code 5 = .ok (.invokestatic 414, 3) := by decide +kernel
theorem d20_8 : decode jdk_52_method_91_code 8 = .ok (.return_, 1) := by decide +kernel
def Q20 (Z : State) (p1 : Int32) (a2 : Addr) (k9 : ClassId) (nn : Int32) (vs : List Value) (fm : Value) (h0 : Heap) (n0 : Nat) (v : Option Value) (h : Heap) (L : List Loc) : Prop := v = none ∧ Fr n0 L ∧ h = h0
theorem ef_20 (m : MethodId) (x0 : Int32) (x1 : Addr) : entryFrame m #[(.int x0), (.ref x1)] 2 = mkF m 0 #[.val (.int x0), .val (.ref x1)] [] := by first | (simp [entryFrame, mkF, argsToLocals, Value.category]; done) | rfl
theorem rm20 (l : Launch) (Z : State) (a0 : Array Value) (hw : ∀ d ∈ tables_1, d.before a0 Z = true) (ws : List Jvm.Cond) (p1 : Int32) (a2 : Addr) (k9 : ClassId) (nn : Int32) (vs : List Value) (fm : Value) (h0 : Heap) (n0 : Nat) (O0 : Old Z n0 h0) (HV_a2 : Arv Z h0 a2 k9 .byte nn vs (.int 0)) (S_SIOOBE_FORMATTER : Sta Z Z.heap "jdk/internal/util/Preconditions" "SIOOBE_FORMATTER" "Ljava/util/function/BiFunction;" fm) (h5_h5_hc1 : ¬ (p1 < (0 : Int32))) (h5_h5_hc6 : p1 < (nn >>> ((1 : Int32) &&& 31))) (h5_hrfm : fm.isRef = true) :
    own_C l Z (⟨"java/lang/StringUTF16", "checkIndex", "(I[B)V"⟩ : MethodName) jdk_52_method_91_code 2 none ws ({ frames := 3, cells := 0, slots := 0, locals := 53 } : Room) #[(.int p1), (.ref a2)] h0 (Q20 Z p1 a2 k9 nn vs fm h0 n0) := by
  refine MetFree.of_bodySF (plainFor_of_name pnc_java_lang_StringUTF16) hisR ?_
  intro p e s m args below meth c s₁ Bd hml0 hP hK
  obtain ⟨rfl, hZ, hh⟩ := hP
  have hx := Bd.exec
  have hby := Bd.bytes
  have hml : c.maxLocals = 2 := hml0
  have hown : s.vm.findClass "java/lang/StringUTF16" = some m.cls := findClass_of_methodNamed Bd.named
  have hnm := (name_of_methodNamed Bd.named Bd.method).1
  have X0 : Stand p l e ({ frames := 3, cells := 0, slots := 0, locals := 53 } : Room) s m #[(.int p1), (.ref a2)] below meth c s₁ [] 0 0 := Stand.of_body Bd
  have e0 : s₁.heap = h0 := by rw [← hh, Bd.state]; rfl
  have N0 := Fr.nil n0
  have Z0 : n0 ≤ h0.size := O0.1 ▸ O0.2.1
  have pre0 : ∀ t, Steps p.tables e below (s₁.setTop (mkF m 0 #[.val (.int p1), .val (.ref a2)] [])) t → Steps p.tables e below (s₁.setTop (entryFrame m #[(.int p1), (.ref a2)] 2)) t := fun t k => castTop (ef_20 m p1 a2) k
  obtain ⟨vr3, _, ⟨T3, L3, k3, n3⟩, -, X3, ⟨Lc3, hQ3, l3, y3, z3⟩, st3⟩ := Jvm.LawKit.callS X0 hx (y := (⟨"java/lang/StringUTF16", "length", "([B)I"⟩ : MethodName)) hown (mvT hZ (own_w hw 87 rfl)) (mvT hZ (own_w hw 88 rfl)) (mvT hZ (own_w hw 25 rfl)) (mvT hZ (own_w hw 89 rfl)) (by decide) (backOf (W := 1) (rm21 l Z a0 hw [] a2 k9 nn vs h0 n0 O0 HV_a2) hZ (own_w hw 89 rfl) (own_w hw 25 rfl) (by decide) (by decide)) (g := (mkF m 2 #[.val (.int p1), .val (.ref a2)] [(.ref a2), (.int p1)])) rfl (by rw [hml]; rfl) (argsL := [(.ref a2)]) (rest := [(.int p1)]) (lenOf pd_22 rfl) rfl (by show 2 * 0 + _ ≤ _; exact Nat.le_of_eq rfl) (hb hby d20_2) (fun _ _ => ⟨rfl, e0, (by decide : 0 + 0 ≤ _), (by decide : 0 + 0 ≤ _)⟩)
  dsimp only [Pt.U, Pt.locs, Pt.cells, Pt.slots] at X3 l3 y3 z3 st3 hQ3
  subst l3 y3 z3
  obtain ⟨rfl, N3q, e3⟩ := hQ3
  have N3 := Fr.app N0 N3q
  replace X3 := X3.more (cells' := 0) (slots' := 0) (by decide) (by decide)
  obtain ⟨vr4, _, ⟨T4, L4, k4, n4⟩, -, X4, ⟨Lc4, hQ4, l4, y4, z4⟩, st4⟩ := Jvm.LawKit.callS X3 hx (y := (⟨"java/lang/String", "checkIndex", "(II)V"⟩ : MethodName)) hown (mvT hZ (own_w hw 90 rfl)) (mvT hZ (own_w hw 91 rfl)) (mvT hZ (own_w hw 11 rfl)) (mvT hZ (own_w hw 92 rfl)) (by decide) (backOf (W := 0) (rm22 l Z a0 hw [] p1 ((nn >>> ((1 : Int32) &&& 31))) fm h0 n0 O0 h5_h5_hc1 h5_h5_hc6 S_SIOOBE_FORMATTER h5_hrfm) hZ (own_w hw 92 rfl) (own_w hw 11 rfl) (by decide) (by decide)) (g := (mkF m 5 #[.val (.int p1), .val (.ref a2)] [(.int (nn >>> ((1 : Int32) &&& 31))), (.int p1)])) rfl (by rw [hml]; rfl) (argsL := [(.int p1), (.int (nn >>> ((1 : Int32) &&& 31)))]) (rest := []) (lenOf pd_11 rfl) rfl (by show 2 * 0 + _ ≤ _; exact Nat.le_of_eq rfl) (hb hby d20_5) (fun _ _ => ⟨rfl, e3, (by decide : 0 + 0 ≤ _), (by decide : 0 + 0 ≤ _)⟩)
  dsimp only [Pt.U, Pt.locs, Pt.cells, Pt.slots] at X4 l4 y4 z4 st4 hQ4
  subst l4 y4 z4
  obtain ⟨rfl, N4q, e4⟩ := hQ4
  have N4 := Fr.app N3 N4q
  replace X4 := X4.more (cells' := 0) (slots' := 0) (by decide) (by decide)
  obtain ⟨fs, hr, hrun, hended, hW, hsame⟩ := X4.leave (v := none) (fun _ => rfl)
  refine ⟨_, _, pre0 _ ?_, hrun, hended, _, _, rfl, ?_, ⟨_, rfl⟩, hW, hsame.mono (by decide) (by decide)⟩
  · show Steps p.tables e below (s₁.setTop (mkF m 0 #[.val (.int p1), .val (.ref a2)] [])) _
    refine XS.iloadN X0.here hx rfl (hb hby d20_0) rfl ?_
    refine XS.aloadN X0.here hx rfl (hb hby d20_1) rfl rfl ?_
    refine st3 _ ?_
    refine st4 _ ?_
    exact X4.returnOut hx Bd.returns (hb hby d20_8) hr
  · show Q20 Z p1 a2 k9 nn vs fm h0 n0 _ T4.heap _
    rw [e4]
    exact ⟨rfl, N4, rfl⟩
theorem d19_0 : decode jdk_52_method_83_code 0 = .ok (.iload_n 1, 1) := by decide +kernel
theorem d19_1 : decode jdk_52_method_83_code 1 = .ok (.aload_n 0, 1) := by decide +kernel
theorem d19_2 : decode jdk_52_method_83_code 2 = .ok (.invokestatic 67, 3) := by decide +kernel
theorem pd_13 : parseMethodDescriptor "(I[B)V" = some ⟨[.int, (.array .byte)], none⟩ := by decide +kernel
theorem d19_5 : decode jdk_52_method_83_code 5 = .ok (.aload_n 0, 1) := by decide +kernel
theorem d19_6 : decode jdk_52_method_83_code 6 = .ok (.iload_n 1, 1) := by decide +kernel
theorem d19_7 : decode jdk_52_method_83_code 7 = .ok (.invokestatic 71, 3) := by decide +kernel
theorem d19_10 : decode jdk_52_method_83_code 10 = .ok (.ireturn, 1) := by decide +kernel
def Q19 (Z : State) (a1 : Addr) (p2 : Int32) (k9 : ClassId) (nn : Int32) (vs : List Value) (fm : Value) (w4 w5 : Int32) (h0 : Heap) (n0 : Nat) (v : Option Value) (h : Heap) (L : List Loc) : Prop := v = some (.int (nar .char (nar .char ((((w4 &&& (255 : Int32)) <<< ((0 : Int32) &&& 31)) ||| ((w5 &&& (255 : Int32)) <<< ((8 : Int32) &&& 31))).toUInt32.toUInt16.toUInt32.toInt32)))) ∧ Fr n0 L ∧ h = h0
theorem ef_19 (m : MethodId) (x0 : Addr) (x1 : Int32) : entryFrame m #[(.ref x0), (.int x1)] 2 = mkF m 0 #[.val (.ref x0), .val (.int x1)] [] := by first | (simp [entryFrame, mkF, argsToLocals, Value.category]; done) | rfl
theorem rm19 (l : Launch) (Z : State) (a0 : Array Value) (hw : ∀ d ∈ tables_1, d.before a0 Z = true) (ws : List Jvm.Cond) (a1 : Addr) (p2 : Int32) (k9 : ClassId) (nn : Int32) (vs : List Value) (fm : Value) (w4 w5 : Int32) (h0 : Heap) (n0 : Nat) (O0 : Old Z n0 h0) (HV_a1 : Arv Z h0 a1 k9 .byte nn vs (.int 0)) (S_SIOOBE_FORMATTER : Sta Z Z.heap "jdk/internal/util/Preconditions" "SIOOBE_FORMATTER" "Ljava/util/function/BiFunction;" fm) (h2_h5_h5_hc1 : ¬ (p2 < (0 : Int32))) (h2_h5_h5_hc6 : p2 < (nn >>> ((1 : Int32) &&& 31))) (h2_h5_hrfm : fm.isRef = true) (S__assertionsDisabled : Sta Z Z.heap "java/lang/StringUTF16" "$assertionsDisabled" "Z" (.int 1)) (S_HI_BYTE_SHIFT : Sta Z Z.heap "java/lang/StringUTF16" "HI_BYTE_SHIFT" "I" (.int 0)) (S_LO_BYTE_SHIFT : Sta Z Z.heap "java/lang/StringUTF16" "LO_BYTE_SHIFT" "I" (.int 8)) (h7_hge37 : ¬ ((p2 <<< ((1 : Int32) &&& 31)) < (0 : Int32))) (h7_hlt37 : (p2 <<< ((1 : Int32) &&& 31)) < nn) (h7_hgd37 : vs.getD ((p2 <<< ((1 : Int32) &&& 31))).toNatClampNeg (.int 0) = (.int w4)) (h7_hge48 : ¬ (((p2 <<< ((1 : Int32) &&& 31)) + (1 : Int32)) < (0 : Int32))) (h7_hlt48 : ((p2 <<< ((1 : Int32) &&& 31)) + (1 : Int32)) < nn) (h7_hgd48 : vs.getD (((p2 <<< ((1 : Int32) &&& 31)) + (1 : Int32))).toNatClampNeg (.int 0) = (.int w5)) :
    own_C l Z (⟨"java/lang/StringUTF16", "charAt", "([BI)C"⟩ : MethodName) jdk_52_method_83_code 2 (some .char) ws ({ frames := 4, cells := 0, slots := 0, locals := 66 } : Room) #[(.ref a1), (.int p2)] h0 (Q19 Z a1 p2 k9 nn vs fm w4 w5 h0 n0) := by
  refine MetFree.of_bodySF (plainFor_of_name pnc_java_lang_StringUTF16) hisR ?_
  intro p e s m args below meth c s₁ Bd hml0 hP hK
  obtain ⟨rfl, hZ, hh⟩ := hP
  have hx := Bd.exec
  have hby := Bd.bytes
  have hml : c.maxLocals = 2 := hml0
  have hown : s.vm.findClass "java/lang/StringUTF16" = some m.cls := findClass_of_methodNamed Bd.named
  have hnm := (name_of_methodNamed Bd.named Bd.method).1
  have X0 : Stand p l e ({ frames := 4, cells := 0, slots := 0, locals := 66 } : Room) s m #[(.ref a1), (.int p2)] below meth c s₁ [] 0 0 := Stand.of_body Bd
  have e0 : s₁.heap = h0 := by rw [← hh, Bd.state]; rfl
  have N0 := Fr.nil n0
  have Z0 : n0 ≤ h0.size := O0.1 ▸ O0.2.1
  have pre0 : ∀ t, Steps p.tables e below (s₁.setTop (mkF m 0 #[.val (.ref a1), .val (.int p2)] [])) t → Steps p.tables e below (s₁.setTop (entryFrame m #[(.ref a1), (.int p2)] 2)) t := fun t k => castTop (ef_19 m a1 p2) k
  obtain ⟨vr3, _, ⟨T3, L3, k3, n3⟩, -, X3, ⟨Lc3, hQ3, l3, y3, z3⟩, st3⟩ := Jvm.LawKit.callS X0 hx (y := (⟨"java/lang/StringUTF16", "checkIndex", "(I[B)V"⟩ : MethodName)) hown (mvT hZ (own_w hw 84 rfl)) (mvT hZ (own_w hw 85 rfl)) (mvT hZ (own_w hw 25 rfl)) (mvT hZ (own_w hw 86 rfl)) (by decide) (backOf (W := 0) (rm20 l Z a0 hw [] p2 a1 k9 nn vs fm h0 n0 O0 HV_a1 S_SIOOBE_FORMATTER h2_h5_h5_hc1 h2_h5_h5_hc6 h2_h5_hrfm) hZ (own_w hw 86 rfl) (own_w hw 25 rfl) (by decide) (by decide)) (g := (mkF m 2 #[.val (.ref a1), .val (.int p2)] [(.ref a1), (.int p2)])) rfl (by rw [hml]; rfl) (argsL := [(.int p2), (.ref a1)]) (rest := []) (lenOf pd_13 rfl) rfl (by show 2 * 0 + _ ≤ _; exact Nat.le_of_eq rfl) (hb hby d19_2) (fun _ _ => ⟨rfl, e0, (by decide : 0 + 0 ≤ _), (by decide : 0 + 0 ≤ _)⟩)
  dsimp only [Pt.U, Pt.locs, Pt.cells, Pt.slots] at X3 l3 y3 z3 st3 hQ3
  subst l3 y3 z3
  obtain ⟨rfl, N3q, e3⟩ := hQ3
  have N3 := Fr.app N0 N3q
  replace X3 := X3.more (cells' := 0) (slots' := 0) (by decide) (by decide)
  obtain ⟨vr6, _, ⟨T6, L6, k6, n6⟩, -, X6, ⟨Lc6, hQ6, l6, y6, z6⟩, st6⟩ := Jvm.LawKit.callS X3 hx (y := (⟨"java/lang/StringUTF16", "getChar", "([BI)C"⟩ : MethodName)) hown (mvT hZ (own_w hw 47 rfl)) (mvT hZ (own_w hw 48 rfl)) (mvT hZ (own_w hw 25 rfl)) (mvT hZ (own_w hw 49 rfl)) (by decide) (backOf (W := 0) (rm12 l Z a0 hw [] a1 p2 k9 nn vs w4 w5 h0 n0 O0 HV_a1 S__assertionsDisabled h7_hge37 h7_hlt37 h7_hgd37 S_HI_BYTE_SHIFT h7_hge48 h7_hlt48 h7_hgd48 S_LO_BYTE_SHIFT) hZ (own_w hw 49 rfl) (own_w hw 25 rfl) (by decide) (by decide)) (g := (mkF m 7 #[.val (.ref a1), .val (.int p2)] [(.int p2), (.ref a1)])) rfl (by rw [hml]; rfl) (argsL := [(.ref a1), (.int p2)]) (rest := []) (lenOf pd_24 rfl) rfl (by show 2 * 0 + _ ≤ _; exact Nat.le_of_eq rfl) (hb hby d19_7) (fun _ _ => ⟨rfl, e3, (by decide : 0 + 0 ≤ _), (by decide : 0 + 0 ≤ _)⟩)
  dsimp only [Pt.U, Pt.locs, Pt.cells, Pt.slots] at X6 l6 y6 z6 st6 hQ6
  subst l6 y6 z6
  obtain ⟨rfl, N6q, e6⟩ := hQ6
  have N6 := Fr.app N3 N6q
  replace X6 := X6.more (cells' := 0) (slots' := 0) (by decide) (by decide)
  obtain ⟨fs, hr, hrun, hended, hW, hsame⟩ := X6.leave (v := some (.int (nar .char (nar .char ((((w4 &&& (255 : Int32)) <<< ((0 : Int32) &&& 31)) ||| ((w5 &&& (255 : Int32)) <<< ((8 : Int32) &&& 31))).toUInt32.toUInt16.toUInt32.toInt32))))) (fun h => by rw [Bd.returns] at h; cases h)
  refine ⟨_, _, pre0 _ ?_, hrun, hended, _, _, rfl, ?_, ⟨_, rfl⟩, hW, hsame.mono (by decide) (by decide)⟩
  · show Steps p.tables e below (s₁.setTop (mkF m 0 #[.val (.ref a1), .val (.int p2)] [])) _
    refine XS.iloadN X0.here hx rfl (hb hby d19_0) rfl ?_
    refine XS.aloadN X0.here hx rfl (hb hby d19_1) rfl rfl ?_
    refine st3 _ ?_
    refine XS.aloadN X3.here hx rfl (hb hby d19_5) rfl rfl ?_
    refine XS.iloadN X3.here hx rfl (hb hby d19_6) rfl ?_
    refine st6 _ ?_
    exact retN X6 hx (t := .char) Bd.returns (by simp) (hb hby d19_10) hr
  · show Q19 Z a1 p2 k9 nn vs fm w4 w5 h0 n0 _ T6.heap _
    rw [e6]
    exact ⟨rfl, N6, rfl⟩
theorem d17_0 : decode jdk_42_method_56_code 0 = .ok (.aload_n 0, 1) := by decide +kernel
theorem d17_1 : decode jdk_42_method_56_code 1 = .ok (.invokevirtual 492, 3) := by decide +kernel
theorem pd_5 : parseMethodDescriptor "()Z" = some ⟨[], some .boolean⟩ := by decide +kernel
theorem d17_4 : decode jdk_42_method_56_code 4 = .ok (.ifCond .eq 12, 3) := by decide +kernel
theorem d17_7 : decode jdk_42_method_56_code 7 = .ok (.aload_n 0, 1) := by decide +kernel
theorem d17_8 : decode jdk_42_method_56_code 8 = .ok (.getfield 9, 3) := by decide +kernel
theorem d17_11 : decode jdk_42_method_56_code 11 = .ok (.iload_n 1, 1) := by decide +kernel
theorem d17_12 : decode jdk_42_method_56_code 12 = .ok (.invokestatic 495, 3) := by decide +kernel
theorem d17_15 : decode jdk_42_method_56_code 15 = .ok (.ireturn, 1) := by decide +kernel
def Q17L (Z : State) (a1 : Addr) (p2 : Int32) (t0 : Addr) (k9 : ClassId) (nn : Int32) (vs : List Value) (zC : Int32) (fm : Value) (w5 : Int32) (h0 : Heap) (n0 : Nat) (v : Option Value) (h : Heap) (L : List Loc) : Prop := v = some (.int (nar .char (nar .char ((w5 &&& (255 : Int32)).toUInt32.toUInt16.toUInt32.toInt32)))) ∧ Fr n0 L ∧ h = h0
theorem ef_17 (m : MethodId) (x0 : Addr) (x1 : Int32) : entryFrame m #[(.ref x0), (.int x1)] 2 = mkF m 0 #[.val (.ref x0), .val (.int x1)] [] := by first | (simp [entryFrame, mkF, argsToLocals, Value.category]; done) | rfl
theorem rm17L (l : Launch) (Z : State) (a0 : Array Value) (hw : ∀ d ∈ tables_1, d.before a0 Z = true) (ws : List Jvm.Cond) (a1 : Addr) (p2 : Int32) (t0 : Addr) (k9 : ClassId) (nn : Int32) (vs : List Value) (zC : Int32) (fm : Value) (w5 : Int32) (h0 : Heap) (n0 : Nat) (O0 : Old Z n0 h0) (HE_a1 : Exa Z h0 a1 "java/lang/String") (HV_t0 : Arv Z h0 t0 k9 .byte nn vs (.int 0)) (S_COMPACT_STRINGS : Sta Z Z.heap "java/lang/String" "COMPACT_STRINGS" "Z" (.int zC)) (HF_a1_coder : Fld Z h0 a1 "java/lang/String" "coder" "B" (.int 0)) (h1_hc3 : ¬ (zC = (0 : Int32))) (HF_a1_value : Fld Z h0 a1 "java/lang/String" "value" "[B" (.ref t0)) (S_SIOOBE_FORMATTER : Sta Z Z.heap "jdk/internal/util/Preconditions" "SIOOBE_FORMATTER" "Ljava/util/function/BiFunction;" fm) (h12_h3_h5_hc1 : ¬ (p2 < (0 : Int32))) (h12_h3_h5_hc6 : p2 < nn) (h12_h3_hrfm : fm.isRef = true) (h12_hgd8 : vs.getD (p2).toNatClampNeg (.int 0) = (.int w5)) :
    own_C l Z (⟨"java/lang/String", "charAt", "(I)C"⟩ : MethodName) jdk_42_method_56_code 2 (some .char) ws ({ frames := 6, cells := 0, slots := 0, locals := 110 } : Room) #[(.ref a1), (.int p2)] h0 (Q17L Z a1 p2 t0 k9 nn vs zC fm w5 h0 n0) := by
  refine MetFree.of_bodySF (plainFor_of_name pnc_java_lang_String) hisR ?_
  intro p e s m args below meth c s₁ Bd hml0 hP hK
  obtain ⟨rfl, hZ, hh⟩ := hP
  have hx := Bd.exec
  have hby := Bd.bytes
  have hml : c.maxLocals = 2 := hml0
  have hown : s.vm.findClass "java/lang/String" = some m.cls := findClass_of_methodNamed Bd.named
  have hnm := (name_of_methodNamed Bd.named Bd.method).1
  have X0 : Stand p l e ({ frames := 6, cells := 0, slots := 0, locals := 110 } : Room) s m #[(.ref a1), (.int p2)] below meth c s₁ [] 0 0 := Stand.of_body Bd
  have e0 : s₁.heap = h0 := by rw [← hh, Bd.state]; rfl
  have N0 := Fr.nil n0
  have Z0 : n0 ≤ h0.size := O0.1 ▸ O0.2.1
  have pre0 : ∀ t, Steps p.tables e below (s₁.setTop (mkF m 0 #[.val (.ref a1), .val (.int p2)] [])) t → Steps p.tables e below (s₁.setTop (entryFrame m #[(.ref a1), (.int p2)] 2)) t := fun t k => castTop (ef_17 m a1 p2) k
  obtain ⟨cq3, kq3, q3a, q3b, q3c⟩ := isOf hZ e0 HE_a1
  obtain ⟨vr3, _, ⟨T3, L3, k3, n3⟩, -, X3, ⟨Lc3, hQ3, l3, y3, z3⟩, st3⟩ := X0.virtualBack hx (y := (⟨"java/lang/String", "isLatin1", "()Z"⟩ : MethodName)) (z := (⟨"java/lang/String", "isLatin1", "()Z"⟩ : MethodName)) hown (mvT hZ (own_w hw 76 rfl)) (mvT hZ (own_w hw 77 rfl)) (notFace_of_selects (args := #[]) (mvT hZ (own_w hw 79 rfl))) (mvT hZ (own_w hw 79 rfl)) (mvT hZ (own_w hw 78 rfl)) (by decide) (backOf (W := 0) (rm18v0 l Z a0 hw [] a1 zC h0 n0 O0 S_COMPACT_STRINGS h1_hc3 HF_a1_coder) hZ (own_w hw 80 rfl) (own_w hw 11 rfl) (by decide) (by decide)) q3a q3c (g := (mkF m 1 #[.val (.ref a1), .val (.int p2)] [(.ref a1)])) rfl (by rw [hml]; rfl) (Steps.refl _) (argsL := []) (rest := []) (lenOf pd_5 rfl) rfl (by show 2 * 0 + _ ≤ _; exact Nat.le_of_eq rfl) (hb hby d17_1) (fun _ _ => ⟨rfl, e0, (by decide : 0 + 0 ≤ _), (by decide : 0 + 0 ≤ _)⟩)
  dsimp only [Pt.U, Pt.locs, Pt.cells, Pt.slots] at X3 l3 y3 z3 st3 hQ3
  subst l3 y3 z3
  obtain ⟨rfl, N3q, e3⟩ := hQ3
  have N3 := Fr.app N0 N3q
  replace X3 := X3.more (cells' := 0) (slots' := 0) (by decide) (by decide)
  obtain ⟨T4, X4, e4, st4⟩ := getF X3 hx hZ hown (host := "") (Or.inl (own_w hw 55 rfl)) Via.refl e3 HF_a1_value (g := (mkF m 8 #[.val (.ref a1), .val (.int p2)] [(.ref a1)])) rfl rfl (hb hby d17_8)
  obtain ⟨vr6, _, ⟨T6, L6, k6, n6⟩, -, X6, ⟨Lc6, hQ6, l6, y6, z6⟩, st6⟩ := Jvm.LawKit.callS X4 hx (y := (⟨"java/lang/StringLatin1", "charAt", "([BI)C"⟩ : MethodName)) hown (mvT hZ (own_w hw 101 rfl)) (mvT hZ (own_w hw 102 rfl)) (mvT hZ (own_w hw 103 rfl)) (mvT hZ (own_w hw 104 rfl)) (by decide) (backOf (W := 0) (rm24 l Z a0 hw [] t0 p2 k9 nn vs fm w5 h0 n0 O0 HV_t0 S_SIOOBE_FORMATTER h12_h3_h5_hc1 h12_h3_h5_hc6 h12_h3_hrfm h12_hgd8) hZ (own_w hw 104 rfl) (own_w hw 103 rfl) (by decide) (by decide)) (g := (mkF m 12 #[.val (.ref a1), .val (.int p2)] [(.int p2), (.ref t0)])) rfl (by rw [hml]; rfl) (argsL := [(.ref t0), (.int p2)]) (rest := []) (lenOf pd_24 rfl) rfl (by show 2 * 0 + _ ≤ _; exact Nat.le_of_eq rfl) (hb hby d17_12) (fun _ _ => ⟨rfl, e4, (by decide : 0 + 0 ≤ _), (by decide : 0 + 0 ≤ _)⟩)
  dsimp only [Pt.U, Pt.locs, Pt.cells, Pt.slots] at X6 l6 y6 z6 st6 hQ6
  subst l6 y6 z6
  obtain ⟨rfl, N6q, e6⟩ := hQ6
  have N6 := Fr.app N3 N6q
  replace X6 := X6.more (cells' := 0) (slots' := 0) (by decide) (by decide)
  obtain ⟨fs, hr, hrun, hended, hW, hsame⟩ := X6.leave (v := some (.int (nar .char (nar .char ((w5 &&& (255 : Int32)).toUInt32.toUInt16.toUInt32.toInt32))))) (fun h => by rw [Bd.returns] at h; cases h)
  refine ⟨_, _, pre0 _ ?_, hrun, hended, _, _, rfl, ?_, ⟨_, rfl⟩, hW, hsame.mono (by decide) (by decide)⟩
  · show Steps p.tables e below (s₁.setTop (mkF m 0 #[.val (.ref a1), .val (.int p2)] [])) _
    refine XS.aloadN X0.here hx rfl (hb hby d17_0) rfl rfl ?_
    refine st3.trans ?_
    refine XS.ifNo X3.here hx rfl (hb hby d17_4) rfl ((if0 _ _).trans (feq (by decide : ¬ ((1 : Int32) = (0 : Int32)))).1) ?_
    refine XS.aloadN X3.here hx rfl (hb hby d17_7) rfl rfl ?_
    refine st4 _ ?_
    refine XS.iloadN X4.here hx rfl (hb hby d17_11) rfl ?_
    refine st6 _ ?_
    exact retN X6 hx (t := .char) Bd.returns (by simp) (hb hby d17_15) hr
  · show Q17L Z a1 p2 t0 k9 nn vs zC fm w5 h0 n0 _ T6.heap _
    rw [e6]
    exact ⟨rfl, N6, rfl⟩
theorem d17_16 : decode jdk_42_method_56_code 16 = .ok (.aload_n 0, 1) := by decide +kernel
theorem d17_17 : decode jdk_42_method_56_code 17 = .ok (.getfield 9, 3) := by decide +kernel
theorem d17_20 : decode jdk_42_method_56_code 20 = .ok (.iload_n 1, 1) := by decide +kernel
theorem d17_21 : decode jdk_42_method_56_code 21 = .ok (.invokestatic 498, 3) := by decide +kernel
theorem d17_24 : decode jdk_42_method_56_code 24 = .ok (.ireturn, 1) := by decide +kernel
def Q17U (Z : State) (a1 : Addr) (p2 : Int32) (t0 : Addr) (k9 : ClassId) (nn : Int32) (vs : List Value) (zC : Int32) (fm : Value) (w5 w6 : Int32) (h0 : Heap) (n0 : Nat) (v : Option Value) (h : Heap) (L : List Loc) : Prop := v = some (.int (nar .char (nar .char (nar .char ((((w5 &&& (255 : Int32)) <<< ((0 : Int32) &&& 31)) ||| ((w6 &&& (255 : Int32)) <<< ((8 : Int32) &&& 31))).toUInt32.toUInt16.toUInt32.toInt32))))) ∧ Fr n0 L ∧ h = h0
theorem rm17U (l : Launch) (Z : State) (a0 : Array Value) (hw : ∀ d ∈ tables_1, d.before a0 Z = true) (ws : List Jvm.Cond) (a1 : Addr) (p2 : Int32) (t0 : Addr) (k9 : ClassId) (nn : Int32) (vs : List Value) (zC : Int32) (fm : Value) (w5 w6 : Int32) (h0 : Heap) (n0 : Nat) (O0 : Old Z n0 h0) (HE_a1 : Exa Z h0 a1 "java/lang/String") (HV_t0 : Arv Z h0 t0 k9 .byte nn vs (.int 0)) (S_COMPACT_STRINGS : Sta Z Z.heap "java/lang/String" "COMPACT_STRINGS" "Z" (.int zC)) (HF_a1_coder : Fld Z h0 a1 "java/lang/String" "coder" "B" (.int 1)) (h1_hc3 : ¬ (zC = (0 : Int32))) (HF_a1_value : Fld Z h0 a1 "java/lang/String" "value" "[B" (.ref t0)) (S_SIOOBE_FORMATTER : Sta Z Z.heap "jdk/internal/util/Preconditions" "SIOOBE_FORMATTER" "Ljava/util/function/BiFunction;" fm) (S__assertionsDisabled : Sta Z Z.heap "java/lang/StringUTF16" "$assertionsDisabled" "Z" (.int 1)) (S_HI_BYTE_SHIFT : Sta Z Z.heap "java/lang/StringUTF16" "HI_BYTE_SHIFT" "I" (.int 0)) (S_LO_BYTE_SHIFT : Sta Z Z.heap "java/lang/StringUTF16" "LO_BYTE_SHIFT" "I" (.int 8)) (h21_h2_h5_h5_hc1 : ¬ (p2 < (0 : Int32))) (h21_h2_h5_h5_hc6 : p2 < (nn >>> ((1 : Int32) &&& 31))) (h21_h2_h5_hrfm : fm.isRef = true) (h21_h7_hge37 : ¬ ((p2 <<< ((1 : Int32) &&& 31)) < (0 : Int32))) (h21_h7_hlt37 : (p2 <<< ((1 : Int32) &&& 31)) < nn) (h21_h7_hgd37 : vs.getD ((p2 <<< ((1 : Int32) &&& 31))).toNatClampNeg (.int 0) = (.int w5)) (h21_h7_hge48 : ¬ (((p2 <<< ((1 : Int32) &&& 31)) + (1 : Int32)) < (0 : Int32))) (h21_h7_hlt48 : ((p2 <<< ((1 : Int32) &&& 31)) + (1 : Int32)) < nn) (h21_h7_hgd48 : vs.getD (((p2 <<< ((1 : Int32) &&& 31)) + (1 : Int32))).toNatClampNeg (.int 0) = (.int w6)) :
    own_C l Z (⟨"java/lang/String", "charAt", "(I)C"⟩ : MethodName) jdk_42_method_56_code 2 (some .char) ws ({ frames := 6, cells := 0, slots := 0, locals := 110 } : Room) #[(.ref a1), (.int p2)] h0 (Q17U Z a1 p2 t0 k9 nn vs zC fm w5 w6 h0 n0) := by
  refine MetFree.of_bodySF (plainFor_of_name pnc_java_lang_String) hisR ?_
  intro p e s m args below meth c s₁ Bd hml0 hP hK
  obtain ⟨rfl, hZ, hh⟩ := hP
  have hx := Bd.exec
  have hby := Bd.bytes
  have hml : c.maxLocals = 2 := hml0
  have hown : s.vm.findClass "java/lang/String" = some m.cls := findClass_of_methodNamed Bd.named
  have hnm := (name_of_methodNamed Bd.named Bd.method).1
  have X0 : Stand p l e ({ frames := 6, cells := 0, slots := 0, locals := 110 } : Room) s m #[(.ref a1), (.int p2)] below meth c s₁ [] 0 0 := Stand.of_body Bd
  have e0 : s₁.heap = h0 := by rw [← hh, Bd.state]; rfl
  have N0 := Fr.nil n0
  have Z0 : n0 ≤ h0.size := O0.1 ▸ O0.2.1
  have pre0 : ∀ t, Steps p.tables e below (s₁.setTop (mkF m 0 #[.val (.ref a1), .val (.int p2)] [])) t → Steps p.tables e below (s₁.setTop (entryFrame m #[(.ref a1), (.int p2)] 2)) t := fun t k => castTop (ef_17 m a1 p2) k
  obtain ⟨cq3, kq3, q3a, q3b, q3c⟩ := isOf hZ e0 HE_a1
  obtain ⟨vr3, _, ⟨T3, L3, k3, n3⟩, -, X3, ⟨Lc3, hQ3, l3, y3, z3⟩, st3⟩ := X0.virtualBack hx (y := (⟨"java/lang/String", "isLatin1", "()Z"⟩ : MethodName)) (z := (⟨"java/lang/String", "isLatin1", "()Z"⟩ : MethodName)) hown (mvT hZ (own_w hw 76 rfl)) (mvT hZ (own_w hw 77 rfl)) (notFace_of_selects (args := #[]) (mvT hZ (own_w hw 79 rfl))) (mvT hZ (own_w hw 79 rfl)) (mvT hZ (own_w hw 78 rfl)) (by decide) (backOf (W := 0) (rm18v1 l Z a0 hw [] a1 zC h0 n0 O0 S_COMPACT_STRINGS h1_hc3 HF_a1_coder) hZ (own_w hw 80 rfl) (own_w hw 11 rfl) (by decide) (by decide)) q3a q3c (g := (mkF m 1 #[.val (.ref a1), .val (.int p2)] [(.ref a1)])) rfl (by rw [hml]; rfl) (Steps.refl _) (argsL := []) (rest := []) (lenOf pd_5 rfl) rfl (by show 2 * 0 + _ ≤ _; exact Nat.le_of_eq rfl) (hb hby d17_1) (fun _ _ => ⟨rfl, e0, (by decide : 0 + 0 ≤ _), (by decide : 0 + 0 ≤ _)⟩)
  dsimp only [Pt.U, Pt.locs, Pt.cells, Pt.slots] at X3 l3 y3 z3 st3 hQ3
  subst l3 y3 z3
  obtain ⟨rfl, N3q, e3⟩ := hQ3
  have N3 := Fr.app N0 N3q
  replace X3 := X3.more (cells' := 0) (slots' := 0) (by decide) (by decide)
  obtain ⟨T4, X4, e4, st4⟩ := getF X3 hx hZ hown (host := "") (Or.inl (own_w hw 55 rfl)) Via.refl e3 HF_a1_value (g := (mkF m 17 #[.val (.ref a1), .val (.int p2)] [(.ref a1)])) rfl rfl (hb hby d17_17)
  obtain ⟨vr7, _, ⟨T7, L7, k7, n7⟩, -, X7, ⟨Lc7, hQ7, l7, y7, z7⟩, st7⟩ := Jvm.LawKit.callS X4 hx (y := (⟨"java/lang/StringUTF16", "charAt", "([BI)C"⟩ : MethodName)) hown (mvT hZ (own_w hw 81 rfl)) (mvT hZ (own_w hw 82 rfl)) (mvT hZ (own_w hw 25 rfl)) (mvT hZ (own_w hw 83 rfl)) (by decide) (backOf (W := 0) (rm19 l Z a0 hw [] t0 p2 k9 nn vs fm w5 w6 h0 n0 O0 HV_t0 S_SIOOBE_FORMATTER h21_h2_h5_h5_hc1 h21_h2_h5_h5_hc6 h21_h2_h5_hrfm S__assertionsDisabled S_HI_BYTE_SHIFT S_LO_BYTE_SHIFT h21_h7_hge37 h21_h7_hlt37 h21_h7_hgd37 h21_h7_hge48 h21_h7_hlt48 h21_h7_hgd48) hZ (own_w hw 83 rfl) (own_w hw 25 rfl) (by decide) (by decide)) (g := (mkF m 21 #[.val (.ref a1), .val (.int p2)] [(.int p2), (.ref t0)])) rfl (by rw [hml]; rfl) (argsL := [(.ref t0), (.int p2)]) (rest := []) (lenOf pd_24 rfl) rfl (by show 2 * 0 + _ ≤ _; exact Nat.le_of_eq rfl) (hb hby d17_21) (fun _ _ => ⟨rfl, e4, (by decide : 0 + 0 ≤ _), (by decide : 0 + 0 ≤ _)⟩)
  dsimp only [Pt.U, Pt.locs, Pt.cells, Pt.slots] at X7 l7 y7 z7 st7 hQ7
  subst l7 y7 z7
  obtain ⟨rfl, N7q, e7⟩ := hQ7
  have N7 := Fr.app N3 N7q
  replace X7 := X7.more (cells' := 0) (slots' := 0) (by decide) (by decide)
  obtain ⟨fs, hr, hrun, hended, hW, hsame⟩ := X7.leave (v := some (.int (nar .char (nar .char (nar .char ((((w5 &&& (255 : Int32)) <<< ((0 : Int32) &&& 31)) ||| ((w6 &&& (255 : Int32)) <<< ((8 : Int32) &&& 31))).toUInt32.toUInt16.toUInt32.toInt32)))))) (fun h => by rw [Bd.returns] at h; cases h)
  refine ⟨_, _, pre0 _ ?_, hrun, hended, _, _, rfl, ?_, ⟨_, rfl⟩, hW, hsame.mono (by decide) (by decide)⟩
  · show Steps p.tables e below (s₁.setTop (mkF m 0 #[.val (.ref a1), .val (.int p2)] [])) _
    refine XS.aloadN X0.here hx rfl (hb hby d17_0) rfl rfl ?_
    refine st3.trans ?_
    refine XS.ifYes X3.here hx rfl (pc0 := 4) (pc' := 16) rfl (hb hby d17_4) rfl ((if0 _ _).trans (teq (by decide : (0 : Int32) = (0 : Int32))).1) (by decide) (by decide) ?_
    refine XS.aloadN X3.here hx rfl (hb hby d17_16) rfl rfl ?_
    refine st4 _ ?_
    refine XS.iloadN X4.here hx rfl (hb hby d17_20) rfl ?_
    refine st7 _ ?_
    exact retN X7 hx (t := .char) Bd.returns (by simp) (hb hby d17_24) hr
  · show Q17U Z a1 p2 t0 k9 nn vs zC fm w5 w6 h0 n0 _ T7.heap _
    rw [e7]
    exact ⟨rfl, N7, rfl⟩
def Q17i0 (Z : State) (a1 : Addr) (c0 c1 c2 c3 c4 c5 c6 zC : Int32) (fm : Value) (h0 : Heap) (n0 : Nat) (v : Option Value) (h : Heap) (L : List Loc) : Prop := v = some (.int c0) ∧ Fr n0 L ∧ h = h0
theorem rm17i0 (l : Launch) (Z : State) (a0 : Array Value) (hw : ∀ d ∈ tables_1, d.before a0 Z = true) (ws : List Jvm.Cond) (a1 : Addr) (c0 c1 c2 c3 c4 c5 c6 zC : Int32) (fm : Value) (h0 : Heap) (n0 : Nat) (O0 : Old Z n0 h0) (HT_a1 : own_Str Z h0 h0.size a1 [c0, c1, c2, c3, c4, c5, c6]) (S_COMPACT_STRINGS : Sta Z Z.heap "java/lang/String" "COMPACT_STRINGS" "Z" (.int zC)) (S_SIOOBE_FORMATTER : Sta Z Z.heap "jdk/internal/util/Preconditions" "SIOOBE_FORMATTER" "Ljava/util/function/BiFunction;" fm) (S__assertionsDisabled : Sta Z Z.heap "java/lang/StringUTF16" "$assertionsDisabled" "Z" (.int 1)) (S_HI_BYTE_SHIFT : Sta Z Z.heap "java/lang/StringUTF16" "HI_BYTE_SHIFT" "I" (.int 0)) (S_LO_BYTE_SHIFT : Sta Z Z.heap "java/lang/StringUTF16" "LO_BYTE_SHIFT" "I" (.int 8)) (hz : ¬ (zC = (0 : Int32))) (hrfm : fm.isRef = true) :
    own_C l Z (⟨"java/lang/String", "charAt", "(I)C"⟩ : MethodName) jdk_42_method_56_code 2 (some .char) ws ({ frames := 6, cells := 0, slots := 0, locals := 110 } : Room) #[(.ref a1), (.int 0)] h0 (Q17i0 Z a1 c0 c1 c2 c3 c4 c5 c6 zC fm h0 n0) := by
  obtain ⟨xl, t, kb, cd, bn, vs, xt, E, V_, C_, A_, R_⟩ := HT_a1
  rcases R_ with ⟨rfl, rfl, hp, rfl⟩ | ⟨rfl, rfl, hp, rfl⟩
  · have q := rm17L l Z a0 hw ws a1 (0 : Int32) t kb (7 : Int32) [(.int (own_lb c0)), (.int (own_lb c1)), (.int (own_lb c2)), (.int (own_lb c3)), (.int (own_lb c4)), (.int (own_lb c5)), (.int (own_lb c6))] zC fm (own_lb c0) h0 n0 O0 E A_ S_COMPACT_STRINGS C_ hz V_ S_SIOOBE_FORMATTER (by decide) (by decide) hrfm rfl
    have hi := hp c0 (List.mem_of_getElem? (i := 0) rfl)
    have e : (nar .char (nar .char (((own_lb c0) &&& (255 : Int32)).toUInt32.toUInt16.toUInt32.toInt32))) = c0 := by rw [own_l1 hi, own_narc (own_255 hi)]
    unfold Q17L at q
    rw [e] at q
    exact q
  · have q := rm17U l Z a0 hw ws a1 (0 : Int32) t kb (14 : Int32) [(.int (own_u0 c0)), (.int (own_u1 c0)), (.int (own_u0 c1)), (.int (own_u1 c1)), (.int (own_u0 c2)), (.int (own_u1 c2)), (.int (own_u0 c3)), (.int (own_u1 c3)), (.int (own_u0 c4)), (.int (own_u1 c4)), (.int (own_u0 c5)), (.int (own_u1 c5)), (.int (own_u0 c6)), (.int (own_u1 c6))] zC fm (own_u0 c0) (own_u1 c0) h0 n0 O0 E A_ S_COMPACT_STRINGS C_ hz V_ S_SIOOBE_FORMATTER S__assertionsDisabled S_HI_BYTE_SHIFT S_LO_BYTE_SHIFT (by decide) (by decide) hrfm (by decide) (by decide) rfl (by decide) (by decide) rfl
    have hi := hp c0 (List.mem_of_getElem? (i := 0) rfl)
    have e : (nar .char (nar .char (nar .char (((((own_u0 c0) &&& (255 : Int32)) <<< ((0 : Int32) &&& 31)) ||| (((own_u1 c0) &&& (255 : Int32)) <<< ((8 : Int32) &&& 31))).toUInt32.toUInt16.toUInt32.toInt32)))) = c0 := by rw [own_l2 hi, own_narc hi, own_narc hi]
    unfold Q17U at q
    rw [e] at q
    exact q
def Q17i1 (Z : State) (a1 : Addr) (c0 c1 c2 c3 c4 c5 c6 zC : Int32) (fm : Value) (h0 : Heap) (n0 : Nat) (v : Option Value) (h : Heap) (L : List Loc) : Prop := v = some (.int c1) ∧ Fr n0 L ∧ h = h0
theorem rm17i1 (l : Launch) (Z : State) (a0 : Array Value) (hw : ∀ d ∈ tables_1, d.before a0 Z = true) (ws : List Jvm.Cond) (a1 : Addr) (c0 c1 c2 c3 c4 c5 c6 zC : Int32) (fm : Value) (h0 : Heap) (n0 : Nat) (O0 : Old Z n0 h0) (HT_a1 : own_Str Z h0 h0.size a1 [c0, c1, c2, c3, c4, c5, c6]) (S_COMPACT_STRINGS : Sta Z Z.heap "java/lang/String" "COMPACT_STRINGS" "Z" (.int zC)) (S_SIOOBE_FORMATTER : Sta Z Z.heap "jdk/internal/util/Preconditions" "SIOOBE_FORMATTER" "Ljava/util/function/BiFunction;" fm) (S__assertionsDisabled : Sta Z Z.heap "java/lang/StringUTF16" "$assertionsDisabled" "Z" (.int 1)) (S_HI_BYTE_SHIFT : Sta Z Z.heap "java/lang/StringUTF16" "HI_BYTE_SHIFT" "I" (.int 0)) (S_LO_BYTE_SHIFT : Sta Z Z.heap "java/lang/StringUTF16" "LO_BYTE_SHIFT" "I" (.int 8)) (hz : ¬ (zC = (0 : Int32))) (hrfm : fm.isRef = true) :
    own_C l Z (⟨"java/lang/String", "charAt", "(I)C"⟩ : MethodName) jdk_42_method_56_code 2 (some .char) ws ({ frames := 6, cells := 0, slots := 0, locals := 110 } : Room) #[(.ref a1), (.int 1)] h0 (Q17i1 Z a1 c0 c1 c2 c3 c4 c5 c6 zC fm h0 n0) := by
  obtain ⟨xl, t, kb, cd, bn, vs, xt, E, V_, C_, A_, R_⟩ := HT_a1
  rcases R_ with ⟨rfl, rfl, hp, rfl⟩ | ⟨rfl, rfl, hp, rfl⟩
  · have q := rm17L l Z a0 hw ws a1 (1 : Int32) t kb (7 : Int32) [(.int (own_lb c0)), (.int (own_lb c1)), (.int (own_lb c2)), (.int (own_lb c3)), (.int (own_lb c4)), (.int (own_lb c5)), (.int (own_lb c6))] zC fm (own_lb c1) h0 n0 O0 E A_ S_COMPACT_STRINGS C_ hz V_ S_SIOOBE_FORMATTER (by decide) (by decide) hrfm rfl
    have hi := hp c1 (List.mem_of_getElem? (i := 1) rfl)
    have e : (nar .char (nar .char (((own_lb c1) &&& (255 : Int32)).toUInt32.toUInt16.toUInt32.toInt32))) = c1 := by rw [own_l1 hi, own_narc (own_255 hi)]
    unfold Q17L at q
    rw [e] at q
    exact q
  · have q := rm17U l Z a0 hw ws a1 (1 : Int32) t kb (14 : Int32) [(.int (own_u0 c0)), (.int (own_u1 c0)), (.int (own_u0 c1)), (.int (own_u1 c1)), (.int (own_u0 c2)), (.int (own_u1 c2)), (.int (own_u0 c3)), (.int (own_u1 c3)), (.int (own_u0 c4)), (.int (own_u1 c4)), (.int (own_u0 c5)), (.int (own_u1 c5)), (.int (own_u0 c6)), (.int (own_u1 c6))] zC fm (own_u0 c1) (own_u1 c1) h0 n0 O0 E A_ S_COMPACT_STRINGS C_ hz V_ S_SIOOBE_FORMATTER S__assertionsDisabled S_HI_BYTE_SHIFT S_LO_BYTE_SHIFT (by decide) (by decide) hrfm (by decide) (by decide) rfl (by decide) (by decide) rfl
    have hi := hp c1 (List.mem_of_getElem? (i := 1) rfl)
    have e : (nar .char (nar .char (nar .char (((((own_u0 c1) &&& (255 : Int32)) <<< ((0 : Int32) &&& 31)) ||| (((own_u1 c1) &&& (255 : Int32)) <<< ((8 : Int32) &&& 31))).toUInt32.toUInt16.toUInt32.toInt32)))) = c1 := by rw [own_l2 hi, own_narc hi, own_narc hi]
    unfold Q17U at q
    rw [e] at q
    exact q
def Q17i2 (Z : State) (a1 : Addr) (c0 c1 c2 c3 c4 c5 c6 zC : Int32) (fm : Value) (h0 : Heap) (n0 : Nat) (v : Option Value) (h : Heap) (L : List Loc) : Prop := v = some (.int c2) ∧ Fr n0 L ∧ h = h0
theorem rm17i2 (l : Launch) (Z : State) (a0 : Array Value) (hw : ∀ d ∈ tables_1, d.before a0 Z = true) (ws : List Jvm.Cond) (a1 : Addr) (c0 c1 c2 c3 c4 c5 c6 zC : Int32) (fm : Value) (h0 : Heap) (n0 : Nat) (O0 : Old Z n0 h0) (HT_a1 : own_Str Z h0 h0.size a1 [c0, c1, c2, c3, c4, c5, c6]) (S_COMPACT_STRINGS : Sta Z Z.heap "java/lang/String" "COMPACT_STRINGS" "Z" (.int zC)) (S_SIOOBE_FORMATTER : Sta Z Z.heap "jdk/internal/util/Preconditions" "SIOOBE_FORMATTER" "Ljava/util/function/BiFunction;" fm) (S__assertionsDisabled : Sta Z Z.heap "java/lang/StringUTF16" "$assertionsDisabled" "Z" (.int 1)) (S_HI_BYTE_SHIFT : Sta Z Z.heap "java/lang/StringUTF16" "HI_BYTE_SHIFT" "I" (.int 0)) (S_LO_BYTE_SHIFT : Sta Z Z.heap "java/lang/StringUTF16" "LO_BYTE_SHIFT" "I" (.int 8)) (hz : ¬ (zC = (0 : Int32))) (hrfm : fm.isRef = true) :
    own_C l Z (⟨"java/lang/String", "charAt", "(I)C"⟩ : MethodName) jdk_42_method_56_code 2 (some .char) ws ({ frames := 6, cells := 0, slots := 0, locals := 110 } : Room) #[(.ref a1), (.int 2)] h0 (Q17i2 Z a1 c0 c1 c2 c3 c4 c5 c6 zC fm h0 n0) := by
  obtain ⟨xl, t, kb, cd, bn, vs, xt, E, V_, C_, A_, R_⟩ := HT_a1
  rcases R_ with ⟨rfl, rfl, hp, rfl⟩ | ⟨rfl, rfl, hp, rfl⟩
  · have q := rm17L l Z a0 hw ws a1 (2 : Int32) t kb (7 : Int32) [(.int (own_lb c0)), (.int (own_lb c1)), (.int (own_lb c2)), (.int (own_lb c3)), (.int (own_lb c4)), (.int (own_lb c5)), (.int (own_lb c6))] zC fm (own_lb c2) h0 n0 O0 E A_ S_COMPACT_STRINGS C_ hz V_ S_SIOOBE_FORMATTER (by decide) (by decide) hrfm rfl
    have hi := hp c2 (List.mem_of_getElem? (i := 2) rfl)
    have e : (nar .char (nar .char (((own_lb c2) &&& (255 : Int32)).toUInt32.toUInt16.toUInt32.toInt32))) = c2 := by rw [own_l1 hi, own_narc (own_255 hi)]
    unfold Q17L at q
    rw [e] at q
    exact q
  · have q := rm17U l Z a0 hw ws a1 (2 : Int32) t kb (14 : Int32) [(.int (own_u0 c0)), (.int (own_u1 c0)), (.int (own_u0 c1)), (.int (own_u1 c1)), (.int (own_u0 c2)), (.int (own_u1 c2)), (.int (own_u0 c3)), (.int (own_u1 c3)), (.int (own_u0 c4)), (.int (own_u1 c4)), (.int (own_u0 c5)), (.int (own_u1 c5)), (.int (own_u0 c6)), (.int (own_u1 c6))] zC fm (own_u0 c2) (own_u1 c2) h0 n0 O0 E A_ S_COMPACT_STRINGS C_ hz V_ S_SIOOBE_FORMATTER S__assertionsDisabled S_HI_BYTE_SHIFT S_LO_BYTE_SHIFT (by decide) (by decide) hrfm (by decide) (by decide) rfl (by decide) (by decide) rfl
    have hi := hp c2 (List.mem_of_getElem? (i := 2) rfl)
    have e : (nar .char (nar .char (nar .char (((((own_u0 c2) &&& (255 : Int32)) <<< ((0 : Int32) &&& 31)) ||| (((own_u1 c2) &&& (255 : Int32)) <<< ((8 : Int32) &&& 31))).toUInt32.toUInt16.toUInt32.toInt32)))) = c2 := by rw [own_l2 hi, own_narc hi, own_narc hi]
    unfold Q17U at q
    rw [e] at q
    exact q
def Q17i3 (Z : State) (a1 : Addr) (c0 c1 c2 c3 c4 c5 c6 zC : Int32) (fm : Value) (h0 : Heap) (n0 : Nat) (v : Option Value) (h : Heap) (L : List Loc) : Prop := v = some (.int c3) ∧ Fr n0 L ∧ h = h0
theorem rm17i3 (l : Launch) (Z : State) (a0 : Array Value) (hw : ∀ d ∈ tables_1, d.before a0 Z = true) (ws : List Jvm.Cond) (a1 : Addr) (c0 c1 c2 c3 c4 c5 c6 zC : Int32) (fm : Value) (h0 : Heap) (n0 : Nat) (O0 : Old Z n0 h0) (HT_a1 : own_Str Z h0 h0.size a1 [c0, c1, c2, c3, c4, c5, c6]) (S_COMPACT_STRINGS : Sta Z Z.heap "java/lang/String" "COMPACT_STRINGS" "Z" (.int zC)) (S_SIOOBE_FORMATTER : Sta Z Z.heap "jdk/internal/util/Preconditions" "SIOOBE_FORMATTER" "Ljava/util/function/BiFunction;" fm) (S__assertionsDisabled : Sta Z Z.heap "java/lang/StringUTF16" "$assertionsDisabled" "Z" (.int 1)) (S_HI_BYTE_SHIFT : Sta Z Z.heap "java/lang/StringUTF16" "HI_BYTE_SHIFT" "I" (.int 0)) (S_LO_BYTE_SHIFT : Sta Z Z.heap "java/lang/StringUTF16" "LO_BYTE_SHIFT" "I" (.int 8)) (hz : ¬ (zC = (0 : Int32))) (hrfm : fm.isRef = true) :
    own_C l Z (⟨"java/lang/String", "charAt", "(I)C"⟩ : MethodName) jdk_42_method_56_code 2 (some .char) ws ({ frames := 6, cells := 0, slots := 0, locals := 110 } : Room) #[(.ref a1), (.int 3)] h0 (Q17i3 Z a1 c0 c1 c2 c3 c4 c5 c6 zC fm h0 n0) := by
  obtain ⟨xl, t, kb, cd, bn, vs, xt, E, V_, C_, A_, R_⟩ := HT_a1
  rcases R_ with ⟨rfl, rfl, hp, rfl⟩ | ⟨rfl, rfl, hp, rfl⟩
  · have q := rm17L l Z a0 hw ws a1 (3 : Int32) t kb (7 : Int32) [(.int (own_lb c0)), (.int (own_lb c1)), (.int (own_lb c2)), (.int (own_lb c3)), (.int (own_lb c4)), (.int (own_lb c5)), (.int (own_lb c6))] zC fm (own_lb c3) h0 n0 O0 E A_ S_COMPACT_STRINGS C_ hz V_ S_SIOOBE_FORMATTER (by decide) (by decide) hrfm rfl
    have hi := hp c3 (List.mem_of_getElem? (i := 3) rfl)
    have e : (nar .char (nar .char (((own_lb c3) &&& (255 : Int32)).toUInt32.toUInt16.toUInt32.toInt32))) = c3 := by rw [own_l1 hi, own_narc (own_255 hi)]
    unfold Q17L at q
    rw [e] at q
    exact q
  · have q := rm17U l Z a0 hw ws a1 (3 : Int32) t kb (14 : Int32) [(.int (own_u0 c0)), (.int (own_u1 c0)), (.int (own_u0 c1)), (.int (own_u1 c1)), (.int (own_u0 c2)), (.int (own_u1 c2)), (.int (own_u0 c3)), (.int (own_u1 c3)), (.int (own_u0 c4)), (.int (own_u1 c4)), (.int (own_u0 c5)), (.int (own_u1 c5)), (.int (own_u0 c6)), (.int (own_u1 c6))] zC fm (own_u0 c3) (own_u1 c3) h0 n0 O0 E A_ S_COMPACT_STRINGS C_ hz V_ S_SIOOBE_FORMATTER S__assertionsDisabled S_HI_BYTE_SHIFT S_LO_BYTE_SHIFT (by decide) (by decide) hrfm (by decide) (by decide) rfl (by decide) (by decide) rfl
    have hi := hp c3 (List.mem_of_getElem? (i := 3) rfl)
    have e : (nar .char (nar .char (nar .char (((((own_u0 c3) &&& (255 : Int32)) <<< ((0 : Int32) &&& 31)) ||| (((own_u1 c3) &&& (255 : Int32)) <<< ((8 : Int32) &&& 31))).toUInt32.toUInt16.toUInt32.toInt32)))) = c3 := by rw [own_l2 hi, own_narc hi, own_narc hi]
    unfold Q17U at q
    rw [e] at q
    exact q
def Q17i4 (Z : State) (a1 : Addr) (c0 c1 c2 c3 c4 c5 c6 zC : Int32) (fm : Value) (h0 : Heap) (n0 : Nat) (v : Option Value) (h : Heap) (L : List Loc) : Prop := v = some (.int c4) ∧ Fr n0 L ∧ h = h0
theorem rm17i4 (l : Launch) (Z : State) (a0 : Array Value) (hw : ∀ d ∈ tables_1, d.before a0 Z = true) (ws : List Jvm.Cond) (a1 : Addr) (c0 c1 c2 c3 c4 c5 c6 zC : Int32) (fm : Value) (h0 : Heap) (n0 : Nat) (O0 : Old Z n0 h0) (HT_a1 : own_Str Z h0 h0.size a1 [c0, c1, c2, c3, c4, c5, c6]) (S_COMPACT_STRINGS : Sta Z Z.heap "java/lang/String" "COMPACT_STRINGS" "Z" (.int zC)) (S_SIOOBE_FORMATTER : Sta Z Z.heap "jdk/internal/util/Preconditions" "SIOOBE_FORMATTER" "Ljava/util/function/BiFunction;" fm) (S__assertionsDisabled : Sta Z Z.heap "java/lang/StringUTF16" "$assertionsDisabled" "Z" (.int 1)) (S_HI_BYTE_SHIFT : Sta Z Z.heap "java/lang/StringUTF16" "HI_BYTE_SHIFT" "I" (.int 0)) (S_LO_BYTE_SHIFT : Sta Z Z.heap "java/lang/StringUTF16" "LO_BYTE_SHIFT" "I" (.int 8)) (hz : ¬ (zC = (0 : Int32))) (hrfm : fm.isRef = true) :
    own_C l Z (⟨"java/lang/String", "charAt", "(I)C"⟩ : MethodName) jdk_42_method_56_code 2 (some .char) ws ({ frames := 6, cells := 0, slots := 0, locals := 110 } : Room) #[(.ref a1), (.int 4)] h0 (Q17i4 Z a1 c0 c1 c2 c3 c4 c5 c6 zC fm h0 n0) := by
  obtain ⟨xl, t, kb, cd, bn, vs, xt, E, V_, C_, A_, R_⟩ := HT_a1
  rcases R_ with ⟨rfl, rfl, hp, rfl⟩ | ⟨rfl, rfl, hp, rfl⟩
  · have q := rm17L l Z a0 hw ws a1 (4 : Int32) t kb (7 : Int32) [(.int (own_lb c0)), (.int (own_lb c1)), (.int (own_lb c2)), (.int (own_lb c3)), (.int (own_lb c4)), (.int (own_lb c5)), (.int (own_lb c6))] zC fm (own_lb c4) h0 n0 O0 E A_ S_COMPACT_STRINGS C_ hz V_ S_SIOOBE_FORMATTER (by decide) (by decide) hrfm rfl
    have hi := hp c4 (List.mem_of_getElem? (i := 4) rfl)
    have e : (nar .char (nar .char (((own_lb c4) &&& (255 : Int32)).toUInt32.toUInt16.toUInt32.toInt32))) = c4 := by rw [own_l1 hi, own_narc (own_255 hi)]
    unfold Q17L at q
    rw [e] at q
    exact q
  · have q := rm17U l Z a0 hw ws a1 (4 : Int32) t kb (14 : Int32) [(.int (own_u0 c0)), (.int (own_u1 c0)), (.int (own_u0 c1)), (.int (own_u1 c1)), (.int (own_u0 c2)), (.int (own_u1 c2)), (.int (own_u0 c3)), (.int (own_u1 c3)), (.int (own_u0 c4)), (.int (own_u1 c4)), (.int (own_u0 c5)), (.int (own_u1 c5)), (.int (own_u0 c6)), (.int (own_u1 c6))] zC fm (own_u0 c4) (own_u1 c4) h0 n0 O0 E A_ S_COMPACT_STRINGS C_ hz V_ S_SIOOBE_FORMATTER S__assertionsDisabled S_HI_BYTE_SHIFT S_LO_BYTE_SHIFT (by decide) (by decide) hrfm (by decide) (by decide) rfl (by decide) (by decide) rfl
    have hi := hp c4 (List.mem_of_getElem? (i := 4) rfl)
    have e : (nar .char (nar .char (nar .char (((((own_u0 c4) &&& (255 : Int32)) <<< ((0 : Int32) &&& 31)) ||| (((own_u1 c4) &&& (255 : Int32)) <<< ((8 : Int32) &&& 31))).toUInt32.toUInt16.toUInt32.toInt32)))) = c4 := by rw [own_l2 hi, own_narc hi, own_narc hi]
    unfold Q17U at q
    rw [e] at q
    exact q
def Q17i5 (Z : State) (a1 : Addr) (c0 c1 c2 c3 c4 c5 c6 zC : Int32) (fm : Value) (h0 : Heap) (n0 : Nat) (v : Option Value) (h : Heap) (L : List Loc) : Prop := v = some (.int c5) ∧ Fr n0 L ∧ h = h0
theorem rm17i5 (l : Launch) (Z : State) (a0 : Array Value) (hw : ∀ d ∈ tables_1, d.before a0 Z = true) (ws : List Jvm.Cond) (a1 : Addr) (c0 c1 c2 c3 c4 c5 c6 zC : Int32) (fm : Value) (h0 : Heap) (n0 : Nat) (O0 : Old Z n0 h0) (HT_a1 : own_Str Z h0 h0.size a1 [c0, c1, c2, c3, c4, c5, c6]) (S_COMPACT_STRINGS : Sta Z Z.heap "java/lang/String" "COMPACT_STRINGS" "Z" (.int zC)) (S_SIOOBE_FORMATTER : Sta Z Z.heap "jdk/internal/util/Preconditions" "SIOOBE_FORMATTER" "Ljava/util/function/BiFunction;" fm) (S__assertionsDisabled : Sta Z Z.heap "java/lang/StringUTF16" "$assertionsDisabled" "Z" (.int 1)) (S_HI_BYTE_SHIFT : Sta Z Z.heap "java/lang/StringUTF16" "HI_BYTE_SHIFT" "I" (.int 0)) (S_LO_BYTE_SHIFT : Sta Z Z.heap "java/lang/StringUTF16" "LO_BYTE_SHIFT" "I" (.int 8)) (hz : ¬ (zC = (0 : Int32))) (hrfm : fm.isRef = true) :
    own_C l Z (⟨"java/lang/String", "charAt", "(I)C"⟩ : MethodName) jdk_42_method_56_code 2 (some .char) ws ({ frames := 6, cells := 0, slots := 0, locals := 110 } : Room) #[(.ref a1), (.int 5)] h0 (Q17i5 Z a1 c0 c1 c2 c3 c4 c5 c6 zC fm h0 n0) := by
  obtain ⟨xl, t, kb, cd, bn, vs, xt, E, V_, C_, A_, R_⟩ := HT_a1
  rcases R_ with ⟨rfl, rfl, hp, rfl⟩ | ⟨rfl, rfl, hp, rfl⟩
  · have q := rm17L l Z a0 hw ws a1 (5 : Int32) t kb (7 : Int32) [(.int (own_lb c0)), (.int (own_lb c1)), (.int (own_lb c2)), (.int (own_lb c3)), (.int (own_lb c4)), (.int (own_lb c5)), (.int (own_lb c6))] zC fm (own_lb c5) h0 n0 O0 E A_ S_COMPACT_STRINGS C_ hz V_ S_SIOOBE_FORMATTER (by decide) (by decide) hrfm rfl
    have hi := hp c5 (List.mem_of_getElem? (i := 5) rfl)
    have e : (nar .char (nar .char (((own_lb c5) &&& (255 : Int32)).toUInt32.toUInt16.toUInt32.toInt32))) = c5 := by rw [own_l1 hi, own_narc (own_255 hi)]
    unfold Q17L at q
    rw [e] at q
    exact q
  · have q := rm17U l Z a0 hw ws a1 (5 : Int32) t kb (14 : Int32) [(.int (own_u0 c0)), (.int (own_u1 c0)), (.int (own_u0 c1)), (.int (own_u1 c1)), (.int (own_u0 c2)), (.int (own_u1 c2)), (.int (own_u0 c3)), (.int (own_u1 c3)), (.int (own_u0 c4)), (.int (own_u1 c4)), (.int (own_u0 c5)), (.int (own_u1 c5)), (.int (own_u0 c6)), (.int (own_u1 c6))] zC fm (own_u0 c5) (own_u1 c5) h0 n0 O0 E A_ S_COMPACT_STRINGS C_ hz V_ S_SIOOBE_FORMATTER S__assertionsDisabled S_HI_BYTE_SHIFT S_LO_BYTE_SHIFT (by decide) (by decide) hrfm (by decide) (by decide) rfl (by decide) (by decide) rfl
    have hi := hp c5 (List.mem_of_getElem? (i := 5) rfl)
    have e : (nar .char (nar .char (nar .char (((((own_u0 c5) &&& (255 : Int32)) <<< ((0 : Int32) &&& 31)) ||| (((own_u1 c5) &&& (255 : Int32)) <<< ((8 : Int32) &&& 31))).toUInt32.toUInt16.toUInt32.toInt32)))) = c5 := by rw [own_l2 hi, own_narc hi, own_narc hi]
    unfold Q17U at q
    rw [e] at q
    exact q
def Q17i6 (Z : State) (a1 : Addr) (c0 c1 c2 c3 c4 c5 c6 zC : Int32) (fm : Value) (h0 : Heap) (n0 : Nat) (v : Option Value) (h : Heap) (L : List Loc) : Prop := v = some (.int c6) ∧ Fr n0 L ∧ h = h0
theorem rm17i6 (l : Launch) (Z : State) (a0 : Array Value) (hw : ∀ d ∈ tables_1, d.before a0 Z = true) (ws : List Jvm.Cond) (a1 : Addr) (c0 c1 c2 c3 c4 c5 c6 zC : Int32) (fm : Value) (h0 : Heap) (n0 : Nat) (O0 : Old Z n0 h0) (HT_a1 : own_Str Z h0 h0.size a1 [c0, c1, c2, c3, c4, c5, c6]) (S_COMPACT_STRINGS : Sta Z Z.heap "java/lang/String" "COMPACT_STRINGS" "Z" (.int zC)) (S_SIOOBE_FORMATTER : Sta Z Z.heap "jdk/internal/util/Preconditions" "SIOOBE_FORMATTER" "Ljava/util/function/BiFunction;" fm) (S__assertionsDisabled : Sta Z Z.heap "java/lang/StringUTF16" "$assertionsDisabled" "Z" (.int 1)) (S_HI_BYTE_SHIFT : Sta Z Z.heap "java/lang/StringUTF16" "HI_BYTE_SHIFT" "I" (.int 0)) (S_LO_BYTE_SHIFT : Sta Z Z.heap "java/lang/StringUTF16" "LO_BYTE_SHIFT" "I" (.int 8)) (hz : ¬ (zC = (0 : Int32))) (hrfm : fm.isRef = true) :
    own_C l Z (⟨"java/lang/String", "charAt", "(I)C"⟩ : MethodName) jdk_42_method_56_code 2 (some .char) ws ({ frames := 6, cells := 0, slots := 0, locals := 110 } : Room) #[(.ref a1), (.int 6)] h0 (Q17i6 Z a1 c0 c1 c2 c3 c4 c5 c6 zC fm h0 n0) := by
  obtain ⟨xl, t, kb, cd, bn, vs, xt, E, V_, C_, A_, R_⟩ := HT_a1
  rcases R_ with ⟨rfl, rfl, hp, rfl⟩ | ⟨rfl, rfl, hp, rfl⟩
  · have q := rm17L l Z a0 hw ws a1 (6 : Int32) t kb (7 : Int32) [(.int (own_lb c0)), (.int (own_lb c1)), (.int (own_lb c2)), (.int (own_lb c3)), (.int (own_lb c4)), (.int (own_lb c5)), (.int (own_lb c6))] zC fm (own_lb c6) h0 n0 O0 E A_ S_COMPACT_STRINGS C_ hz V_ S_SIOOBE_FORMATTER (by decide) (by decide) hrfm rfl
    have hi := hp c6 (List.mem_of_getElem? (i := 6) rfl)
    have e : (nar .char (nar .char (((own_lb c6) &&& (255 : Int32)).toUInt32.toUInt16.toUInt32.toInt32))) = c6 := by rw [own_l1 hi, own_narc (own_255 hi)]
    unfold Q17L at q
    rw [e] at q
    exact q
  · have q := rm17U l Z a0 hw ws a1 (6 : Int32) t kb (14 : Int32) [(.int (own_u0 c0)), (.int (own_u1 c0)), (.int (own_u0 c1)), (.int (own_u1 c1)), (.int (own_u0 c2)), (.int (own_u1 c2)), (.int (own_u0 c3)), (.int (own_u1 c3)), (.int (own_u0 c4)), (.int (own_u1 c4)), (.int (own_u0 c5)), (.int (own_u1 c5)), (.int (own_u0 c6)), (.int (own_u1 c6))] zC fm (own_u0 c6) (own_u1 c6) h0 n0 O0 E A_ S_COMPACT_STRINGS C_ hz V_ S_SIOOBE_FORMATTER S__assertionsDisabled S_HI_BYTE_SHIFT S_LO_BYTE_SHIFT (by decide) (by decide) hrfm (by decide) (by decide) rfl (by decide) (by decide) rfl
    have hi := hp c6 (List.mem_of_getElem? (i := 6) rfl)
    have e : (nar .char (nar .char (nar .char (((((own_u0 c6) &&& (255 : Int32)) <<< ((0 : Int32) &&& 31)) ||| (((own_u1 c6) &&& (255 : Int32)) <<< ((8 : Int32) &&& 31))).toUInt32.toUInt16.toUInt32.toInt32)))) = c6 := by rw [own_l2 hi, own_narc hi, own_narc hi]
    unfold Q17U at q
    rw [e] at q
    exact q
def own_dg (c : Int32) : Prop := ¬ (c < (48 : Int32)) ∧ ¬ ((57 : Int32) < c)
theorem d25_12 : decode prog_6_method_13_code 12 = .ok (.istore 4, 2) := by decide +kernel
theorem d25_14 : decode prog_6_method_13_code 14 = .ok (.iload 4, 2) := by decide +kernel
theorem d25_16 : decode prog_6_method_13_code 16 = .ok (.bipush 48, 2) := by decide +kernel
theorem d25_18 : decode prog_6_method_13_code 18 = .ok (.if_icmp .lt 10, 3) := by decide +kernel
theorem d25_21 : decode prog_6_method_13_code 21 = .ok (.iload 4, 2) := by decide +kernel
theorem d25_23 : decode prog_6_method_13_code 23 = .ok (.bipush 57, 2) := by decide +kernel
theorem d25_25 : decode prog_6_method_13_code 25 = .ok (.if_icmp .le 5, 3) := by decide +kernel
theorem d25_30 : decode prog_6_method_13_code 30 = .ok (.iinc 3 1, 3) := by decide +kernel
theorem d25_33 : decode prog_6_method_13_code 33 = .ok (.goto (-31), 3) := by decide +kernel
theorem td_p {p : Program} {l : Launch} {e : Env} {s : State} {m : MethodId} {args : Array Value} {below : List Frame} {meth : Method} {c : Code} {T0 : State} {locs : List Loc} {Z : State} {a0 : Array Value} (hw : ∀ d ∈ tables_1, d.before a0 Z = true) (a1 : Addr) (xa xb xi : Int32) (s4 : Slot) (cc : Int32) (h0 : Heap) (n0 : Nat) (X0 : Stand p l e ({ frames := 7, cells := 0, slots := 0, locals := 140 } : Room) s m args below meth c T0 locs 0 0) (N0 : Fr n0 locs) (hx : p.tables.exec = Jvm.exec) (hZ : Z.Warmed39 s.vm) (hby : c.code = prog_6_method_13_code) (hml : c.maxLocals = 5) (hown : s.vm.findClass "com/example/vestwright/vestwright/Values" = some m.cls) (e0 : T0.heap = h0) (O0 : Old Z n0 h0) (hsl12 : own_one s4) (hc18 : ¬ (cc < (48 : Int32))) (hc25 : ¬ ((57 : Int32) < cc)) :
    ∃ (T' : State) (locs' : List Loc), Stand p l e ({ frames := 7, cells := 0, slots := 0, locals := 140 } : Room) s m args below meth c T' locs' 0 0 ∧ Fr n0 locs' ∧ T'.heap = h0 ∧
      ∀ target, Steps p.tables e below (T'.setTop (mkF m 2 #[.val (.ref a1), .val (.int xa), .val (.int xb), .val (.int (xi + (1 : Int32))), .val (.int cc)] [])) target → Steps p.tables e below (T0.setTop (mkF m 12 #[.val (.ref a1), .val (.int xa), .val (.int xb), .val (.int xi), s4] [(.int cc)])) target := by
  have Z0 : n0 ≤ h0.size := O0.1 ▸ O0.2.1
  refine ⟨T0, _, X0, N0, e0, fun target kt => ?_⟩
  show Steps p.tables e below (T0.setTop (mkF m 12 #[.val (.ref a1), .val (.int xa), .val (.int xb), .val (.int xi), s4] [(.int cc)])) _
  refine XS.istore X0.here hx rfl (hb hby d25_12) rfl (l' := #[.val (.ref a1), .val (.int xa), .val (.int xb), .val (.int xi), .val (.int cc)]) (by rcases hsl12 with rfl | ⟨_, rfl⟩ <;> rfl) ?_
  refine XS.iload X0.here hx rfl (hb hby d25_14) rfl ?_
  refine XS.bipush X0.here hx rfl (hb hby d25_16) ?_
  refine XS.icmpNo X0.here hx rfl (hb hby d25_18) rfl (flt hc18).1 ?_
  refine XS.iload X0.here hx rfl (hb hby d25_21) rfl ?_
  refine XS.bipush X0.here hx rfl (hb hby d25_23) ?_
  refine XS.icmpYes X0.here hx rfl (pc0 := 25) (pc' := 30) rfl (hb hby d25_25) rfl (flt hc25).2.2.2 (by decide) (by decide) ?_
  show Steps p.tables e below (T0.setTop (mkF m 30 #[.val (.ref a1), .val (.int xa), .val (.int xb), .val (.int xi), .val (.int cc)] [])) _
  refine XS.iinc X0.here hx rfl (hb hby d25_30) rfl (l' := #[.val (.ref a1), .val (.int xa), .val (.int xb), .val (.int (xi + (1 : Int32))), .val (.int cc)]) rfl ?_
  refine XS.goto X0.here hx rfl (pc0 := 33) (pc' := 2) rfl (hb hby d25_33) (by decide) (by decide) ?_
  exact kt
theorem td_a {p : Program} {l : Launch} {e : Env} {s : State} {m : MethodId} {args : Array Value} {below : List Frame} {meth : Method} {c : Code} {T0 : State} {locs : List Loc} {Z : State} {a0 : Array Value} (hw : ∀ d ∈ tables_1, d.before a0 Z = true) (a1 : Addr) (xa xb xi : Int32) (s4 : Slot) (cc : Int32) (h0 : Heap) (n0 : Nat) (X0 : Stand p l e ({ frames := 7, cells := 0, slots := 0, locals := 140 } : Room) s m args below meth c T0 locs 0 0) (N0 : Fr n0 locs) (hx : p.tables.exec = Jvm.exec) (hZ : Z.Warmed39 s.vm) (hby : c.code = prog_6_method_13_code) (hml : c.maxLocals = 5) (hown : s.vm.findClass "com/example/vestwright/vestwright/Values" = some m.cls) (e0 : T0.heap = h0) (O0 : Old Z n0 h0) (hsl12 : own_one s4) (hc18 : cc < (48 : Int32)) :
    ∃ (T' : State) (locs' : List Loc), Stand p l e ({ frames := 7, cells := 0, slots := 0, locals := 140 } : Room) s m args below meth c T' locs' 0 0 ∧ Fr n0 locs' ∧ T'.heap = h0 ∧
      ∀ target, Steps p.tables e below (T'.setTop (mkF m 28 #[.val (.ref a1), .val (.int xa), .val (.int xb), .val (.int xi), .val (.int cc)] [])) target → Steps p.tables e below (T0.setTop (mkF m 12 #[.val (.ref a1), .val (.int xa), .val (.int xb), .val (.int xi), s4] [(.int cc)])) target := by
  have Z0 : n0 ≤ h0.size := O0.1 ▸ O0.2.1
  refine ⟨T0, _, X0, N0, e0, fun target kt => ?_⟩
  show Steps p.tables e below (T0.setTop (mkF m 12 #[.val (.ref a1), .val (.int xa), .val (.int xb), .val (.int xi), s4] [(.int cc)])) _
  refine XS.istore X0.here hx rfl (hb hby d25_12) rfl (l' := #[.val (.ref a1), .val (.int xa), .val (.int xb), .val (.int xi), .val (.int cc)]) (by rcases hsl12 with rfl | ⟨_, rfl⟩ <;> rfl) ?_
  refine XS.iload X0.here hx rfl (hb hby d25_14) rfl ?_
  refine XS.bipush X0.here hx rfl (hb hby d25_16) ?_
  refine XS.icmpYes X0.here hx rfl (pc0 := 18) (pc' := 28) rfl (hb hby d25_18) rfl (tlt hc18).1 (by decide) (by decide) ?_
  exact kt
theorem td_b {p : Program} {l : Launch} {e : Env} {s : State} {m : MethodId} {args : Array Value} {below : List Frame} {meth : Method} {c : Code} {T0 : State} {locs : List Loc} {Z : State} {a0 : Array Value} (hw : ∀ d ∈ tables_1, d.before a0 Z = true) (a1 : Addr) (xa xb xi : Int32) (s4 : Slot) (cc : Int32) (h0 : Heap) (n0 : Nat) (X0 : Stand p l e ({ frames := 7, cells := 0, slots := 0, locals := 140 } : Room) s m args below meth c T0 locs 0 0) (N0 : Fr n0 locs) (hx : p.tables.exec = Jvm.exec) (hZ : Z.Warmed39 s.vm) (hby : c.code = prog_6_method_13_code) (hml : c.maxLocals = 5) (hown : s.vm.findClass "com/example/vestwright/vestwright/Values" = some m.cls) (e0 : T0.heap = h0) (O0 : Old Z n0 h0) (hsl12 : own_one s4) (hc18 : ¬ (cc < (48 : Int32))) (hc25 : (57 : Int32) < cc) :
    ∃ (T' : State) (locs' : List Loc), Stand p l e ({ frames := 7, cells := 0, slots := 0, locals := 140 } : Room) s m args below meth c T' locs' 0 0 ∧ Fr n0 locs' ∧ T'.heap = h0 ∧
      ∀ target, Steps p.tables e below (T'.setTop (mkF m 28 #[.val (.ref a1), .val (.int xa), .val (.int xb), .val (.int xi), .val (.int cc)] [])) target → Steps p.tables e below (T0.setTop (mkF m 12 #[.val (.ref a1), .val (.int xa), .val (.int xb), .val (.int xi), s4] [(.int cc)])) target := by
  have Z0 : n0 ≤ h0.size := O0.1 ▸ O0.2.1
  refine ⟨T0, _, X0, N0, e0, fun target kt => ?_⟩
  show Steps p.tables e below (T0.setTop (mkF m 12 #[.val (.ref a1), .val (.int xa), .val (.int xb), .val (.int xi), s4] [(.int cc)])) _
  refine XS.istore X0.here hx rfl (hb hby d25_12) rfl (l' := #[.val (.ref a1), .val (.int xa), .val (.int xb), .val (.int xi), .val (.int cc)]) (by rcases hsl12 with rfl | ⟨_, rfl⟩ <;> rfl) ?_
  refine XS.iload X0.here hx rfl (hb hby d25_14) rfl ?_
  refine XS.bipush X0.here hx rfl (hb hby d25_16) ?_
  refine XS.icmpNo X0.here hx rfl (hb hby d25_18) rfl (flt hc18).1 ?_
  refine XS.iload X0.here hx rfl (hb hby d25_21) rfl ?_
  refine XS.bipush X0.here hx rfl (hb hby d25_23) ?_
  refine XS.icmpNo X0.here hx rfl (hb hby d25_25) rfl (tlt hc25).2.2.2 ?_
  exact kt
theorem d25_2 : decode prog_6_method_13_code 2 = .ok (.iload_n 3, 1) := by decide +kernel
theorem d25_3 : decode prog_6_method_13_code 3 = .ok (.iload_n 2, 1) := by decide +kernel
theorem d25_4 : decode prog_6_method_13_code 4 = .ok (.if_icmp .ge 32, 3) := by decide +kernel
theorem d25_7 : decode prog_6_method_13_code 7 = .ok (.aload_n 0, 1) := by decide +kernel
theorem d25_8 : decode prog_6_method_13_code 8 = .ok (.iload_n 3, 1) := by decide +kernel
theorem d25_9 : decode prog_6_method_13_code 9 = .ok (.invokevirtual 15, 3) := by decide +kernel
theorem pd_7 : parseMethodDescriptor "(I)C" = some ⟨[.int], some .char⟩ := by decide +kernel
theorem td_0 {p : Program} {l : Launch} {e : Env} {s : State} {m : MethodId} {args : Array Value} {below : List Frame} {meth : Method} {c : Code} {T0 : State} {locs : List Loc} {Z : State} {a0 : Array Value} (hw : ∀ d ∈ tables_1, d.before a0 Z = true) (a1 : Addr) (s4 : Slot) (c0 c1 c2 c3 c4 c5 c6 zC : Int32) (fm : Value) (h0 : Heap) (n0 : Nat) (X0 : Stand p l e ({ frames := 7, cells := 0, slots := 0, locals := 140 } : Room) s m args below meth c T0 locs 0 0) (N0 : Fr n0 locs) (hx : p.tables.exec = Jvm.exec) (hZ : Z.Warmed39 s.vm) (hby : c.code = prog_6_method_13_code) (hml : c.maxLocals = 5) (hown : s.vm.findClass "com/example/vestwright/vestwright/Values" = some m.cls) (e0 : T0.heap = h0) (O0 : Old Z n0 h0) (HT_a1 : own_Str Z h0 h0.size a1 [c0, c1, c2, c3, c4, c5, c6]) (S_COMPACT_STRINGS : Sta Z Z.heap "java/lang/String" "COMPACT_STRINGS" "Z" (.int zC)) (S_SIOOBE_FORMATTER : Sta Z Z.heap "jdk/internal/util/Preconditions" "SIOOBE_FORMATTER" "Ljava/util/function/BiFunction;" fm) (S__assertionsDisabled : Sta Z Z.heap "java/lang/StringUTF16" "$assertionsDisabled" "Z" (.int 1)) (S_HI_BYTE_SHIFT : Sta Z Z.heap "java/lang/StringUTF16" "HI_BYTE_SHIFT" "I" (.int 0)) (S_LO_BYTE_SHIFT : Sta Z Z.heap "java/lang/StringUTF16" "LO_BYTE_SHIFT" "I" (.int 8)) (h9_hz : ¬ (zC = (0 : Int32))) (h9_hrfm : fm.isRef = true) :
    ∃ (T' : State) (locs' : List Loc), Stand p l e ({ frames := 7, cells := 0, slots := 0, locals := 140 } : Room) s m args below meth c T' locs' 0 0 ∧ Fr n0 locs' ∧ T'.heap = h0 ∧
      ∀ target, Steps p.tables e below (T'.setTop (mkF m 12 #[.val (.ref a1), .val (.int 0), .val (.int 4), .val (.int 0), s4] [(.int c0)])) target → Steps p.tables e below (T0.setTop (mkF m 2 #[.val (.ref a1), .val (.int 0), .val (.int 4), .val (.int 0), s4] [])) target := by
  have Z0 : n0 ≤ h0.size := O0.1 ▸ O0.2.1
  obtain ⟨cq1, kq1, q1a, q1b, q1c⟩ := isOf hZ e0 (own_Str.exa HT_a1)
  obtain ⟨vr1, _, ⟨T1, L1, k1, n1⟩, -, X1, ⟨Lc1, hQ1, l1, y1, z1⟩, st1⟩ := X0.virtualBack hx (y := (⟨"java/lang/String", "charAt", "(I)C"⟩ : MethodName)) (z := (⟨"java/lang/String", "charAt", "(I)C"⟩ : MethodName)) hown (mvT hZ (own_w hw 71 rfl)) (mvT hZ (own_w hw 72 rfl)) (notFace_of_selects (args := #[]) (mvT hZ (own_w hw 74 rfl))) (mvT hZ (own_w hw 74 rfl)) (mvT hZ (own_w hw 73 rfl)) (by decide) (backOf (W := 0) (rm17i0 l Z a0 hw [] a1 c0 c1 c2 c3 c4 c5 c6 zC fm h0 n0 O0 (own_Str.top HT_a1) S_COMPACT_STRINGS S_SIOOBE_FORMATTER S__assertionsDisabled S_HI_BYTE_SHIFT S_LO_BYTE_SHIFT h9_hz h9_hrfm) hZ (own_w hw 75 rfl) (own_w hw 11 rfl) (by decide) (by decide)) q1a q1c (g := (mkF m 9 #[.val (.ref a1), .val (.int 0), .val (.int 4), .val (.int 0), s4] [(.int 0), (.ref a1)])) rfl (by rw [hml]; rfl) (Steps.refl _) (argsL := [(.int 0)]) (rest := []) (lenOf pd_7 rfl) rfl (by show 2 * 0 + _ ≤ _; exact Nat.le_of_eq rfl) (hb hby d25_9) (fun _ _ => ⟨rfl, e0, (by decide : 0 + 0 ≤ _), (by decide : 0 + 0 ≤ _)⟩)
  dsimp only [Pt.U, Pt.locs, Pt.cells, Pt.slots] at X1 l1 y1 z1 st1 hQ1
  subst l1 y1 z1
  obtain ⟨rfl, N1q, e1⟩ := hQ1
  have N1 := Fr.app N0 N1q
  replace X1 := X1.more (cells' := 0) (slots' := 0) (by decide) (by decide)
  refine ⟨T1, _, X1, N1, e1, fun target kt => ?_⟩
  show Steps p.tables e below (T0.setTop (mkF m 2 #[.val (.ref a1), .val (.int 0), .val (.int 4), .val (.int 0), s4] [])) _
  refine XS.iloadN X0.here hx rfl (hb hby d25_2) rfl ?_
  refine XS.iloadN X0.here hx rfl (hb hby d25_3) rfl ?_
  refine XS.icmpNo X0.here hx rfl (hb hby d25_4) rfl (tlt (by decide : (0 : Int32) < (4 : Int32))).2.1 ?_
  refine XS.aloadN X0.here hx rfl (hb hby d25_7) rfl rfl ?_
  refine XS.iloadN X0.here hx rfl (hb hby d25_8) rfl ?_
  refine st1.trans ?_
  exact kt
theorem td_1 {p : Program} {l : Launch} {e : Env} {s : State} {m : MethodId} {args : Array Value} {below : List Frame} {meth : Method} {c : Code} {T0 : State} {locs : List Loc} {Z : State} {a0 : Array Value} (hw : ∀ d ∈ tables_1, d.before a0 Z = true) (a1 : Addr) (s4 : Slot) (c0 c1 c2 c3 c4 c5 c6 zC : Int32) (fm : Value) (h0 : Heap) (n0 : Nat) (X0 : Stand p l e ({ frames := 7, cells := 0, slots := 0, locals := 140 } : Room) s m args below meth c T0 locs 0 0) (N0 : Fr n0 locs) (hx : p.tables.exec = Jvm.exec) (hZ : Z.Warmed39 s.vm) (hby : c.code = prog_6_method_13_code) (hml : c.maxLocals = 5) (hown : s.vm.findClass "com/example/vestwright/vestwright/Values" = some m.cls) (e0 : T0.heap = h0) (O0 : Old Z n0 h0) (HT_a1 : own_Str Z h0 h0.size a1 [c0, c1, c2, c3, c4, c5, c6]) (S_COMPACT_STRINGS : Sta Z Z.heap "java/lang/String" "COMPACT_STRINGS" "Z" (.int zC)) (S_SIOOBE_FORMATTER : Sta Z Z.heap "jdk/internal/util/Preconditions" "SIOOBE_FORMATTER" "Ljava/util/function/BiFunction;" fm) (S__assertionsDisabled : Sta Z Z.heap "java/lang/StringUTF16" "$assertionsDisabled" "Z" (.int 1)) (S_HI_BYTE_SHIFT : Sta Z Z.heap "java/lang/StringUTF16" "HI_BYTE_SHIFT" "I" (.int 0)) (S_LO_BYTE_SHIFT : Sta Z Z.heap "java/lang/StringUTF16" "LO_BYTE_SHIFT" "I" (.int 8)) (h9_hz : ¬ (zC = (0 : Int32))) (h9_hrfm : fm.isRef = true) :
    ∃ (T' : State) (locs' : List Loc), Stand p l e ({ frames := 7, cells := 0, slots := 0, locals := 140 } : Room) s m args below meth c T' locs' 0 0 ∧ Fr n0 locs' ∧ T'.heap = h0 ∧
      ∀ target, Steps p.tables e below (T'.setTop (mkF m 12 #[.val (.ref a1), .val (.int 0), .val (.int 4), .val (.int 1), s4] [(.int c1)])) target → Steps p.tables e below (T0.setTop (mkF m 2 #[.val (.ref a1), .val (.int 0), .val (.int 4), .val (.int 1), s4] [])) target := by
  have Z0 : n0 ≤ h0.size := O0.1 ▸ O0.2.1
  obtain ⟨cq1, kq1, q1a, q1b, q1c⟩ := isOf hZ e0 (own_Str.exa HT_a1)
  obtain ⟨vr1, _, ⟨T1, L1, k1, n1⟩, -, X1, ⟨Lc1, hQ1, l1, y1, z1⟩, st1⟩ := X0.virtualBack hx (y := (⟨"java/lang/String", "charAt", "(I)C"⟩ : MethodName)) (z := (⟨"java/lang/String", "charAt", "(I)C"⟩ : MethodName)) hown (mvT hZ (own_w hw 71 rfl)) (mvT hZ (own_w hw 72 rfl)) (notFace_of_selects (args := #[]) (mvT hZ (own_w hw 74 rfl))) (mvT hZ (own_w hw 74 rfl)) (mvT hZ (own_w hw 73 rfl)) (by decide) (backOf (W := 0) (rm17i1 l Z a0 hw [] a1 c0 c1 c2 c3 c4 c5 c6 zC fm h0 n0 O0 (own_Str.top HT_a1) S_COMPACT_STRINGS S_SIOOBE_FORMATTER S__assertionsDisabled S_HI_BYTE_SHIFT S_LO_BYTE_SHIFT h9_hz h9_hrfm) hZ (own_w hw 75 rfl) (own_w hw 11 rfl) (by decide) (by decide)) q1a q1c (g := (mkF m 9 #[.val (.ref a1), .val (.int 0), .val (.int 4), .val (.int 1), s4] [(.int 1), (.ref a1)])) rfl (by rw [hml]; rfl) (Steps.refl _) (argsL := [(.int 1)]) (rest := []) (lenOf pd_7 rfl) rfl (by show 2 * 0 + _ ≤ _; exact Nat.le_of_eq rfl) (hb hby d25_9) (fun _ _ => ⟨rfl, e0, (by decide : 0 + 0 ≤ _), (by decide : 0 + 0 ≤ _)⟩)
  dsimp only [Pt.U, Pt.locs, Pt.cells, Pt.slots] at X1 l1 y1 z1 st1 hQ1
  subst l1 y1 z1
  obtain ⟨rfl, N1q, e1⟩ := hQ1
  have N1 := Fr.app N0 N1q
  replace X1 := X1.more (cells' := 0) (slots' := 0) (by decide) (by decide)
  refine ⟨T1, _, X1, N1, e1, fun target kt => ?_⟩
  show Steps p.tables e below (T0.setTop (mkF m 2 #[.val (.ref a1), .val (.int 0), .val (.int 4), .val (.int 1), s4] [])) _
  refine XS.iloadN X0.here hx rfl (hb hby d25_2) rfl ?_
  refine XS.iloadN X0.here hx rfl (hb hby d25_3) rfl ?_
  refine XS.icmpNo X0.here hx rfl (hb hby d25_4) rfl (tlt (by decide : (1 : Int32) < (4 : Int32))).2.1 ?_
  refine XS.aloadN X0.here hx rfl (hb hby d25_7) rfl rfl ?_
  refine XS.iloadN X0.here hx rfl (hb hby d25_8) rfl ?_
  refine st1.trans ?_
  exact kt
theorem td_2 {p : Program} {l : Launch} {e : Env} {s : State} {m : MethodId} {args : Array Value} {below : List Frame} {meth : Method} {c : Code} {T0 : State} {locs : List Loc} {Z : State} {a0 : Array Value} (hw : ∀ d ∈ tables_1, d.before a0 Z = true) (a1 : Addr) (s4 : Slot) (c0 c1 c2 c3 c4 c5 c6 zC : Int32) (fm : Value) (h0 : Heap) (n0 : Nat) (X0 : Stand p l e ({ frames := 7, cells := 0, slots := 0, locals := 140 } : Room) s m args below meth c T0 locs 0 0) (N0 : Fr n0 locs) (hx : p.tables.exec = Jvm.exec) (hZ : Z.Warmed39 s.vm) (hby : c.code = prog_6_method_13_code) (hml : c.maxLocals = 5) (hown : s.vm.findClass "com/example/vestwright/vestwright/Values" = some m.cls) (e0 : T0.heap = h0) (O0 : Old Z n0 h0) (HT_a1 : own_Str Z h0 h0.size a1 [c0, c1, c2, c3, c4, c5, c6]) (S_COMPACT_STRINGS : Sta Z Z.heap "java/lang/String" "COMPACT_STRINGS" "Z" (.int zC)) (S_SIOOBE_FORMATTER : Sta Z Z.heap "jdk/internal/util/Preconditions" "SIOOBE_FORMATTER" "Ljava/util/function/BiFunction;" fm) (S__assertionsDisabled : Sta Z Z.heap "java/lang/StringUTF16" "$assertionsDisabled" "Z" (.int 1)) (S_HI_BYTE_SHIFT : Sta Z Z.heap "java/lang/StringUTF16" "HI_BYTE_SHIFT" "I" (.int 0)) (S_LO_BYTE_SHIFT : Sta Z Z.heap "java/lang/StringUTF16" "LO_BYTE_SHIFT" "I" (.int 8)) (h9_hz : ¬ (zC = (0 : Int32))) (h9_hrfm : fm.isRef = true) :
    ∃ (T' : State) (locs' : List Loc), Stand p l e ({ frames := 7, cells := 0, slots := 0, locals := 140 } : Room) s m args below meth c T' locs' 0 0 ∧ Fr n0 locs' ∧ T'.heap = h0 ∧
      ∀ target, Steps p.tables e below (T'.setTop (mkF m 12 #[.val (.ref a1), .val (.int 0), .val (.int 4), .val (.int 2), s4] [(.int c2)])) target → Steps p.tables e below (T0.setTop (mkF m 2 #[.val (.ref a1), .val (.int 0), .val (.int 4), .val (.int 2), s4] [])) target := by
  have Z0 : n0 ≤ h0.size := O0.1 ▸ O0.2.1
  obtain ⟨cq1, kq1, q1a, q1b, q1c⟩ := isOf hZ e0 (own_Str.exa HT_a1)
  obtain ⟨vr1, _, ⟨T1, L1, k1, n1⟩, -, X1, ⟨Lc1, hQ1, l1, y1, z1⟩, st1⟩ := X0.virtualBack hx (y := (⟨"java/lang/String", "charAt", "(I)C"⟩ : MethodName)) (z := (⟨"java/lang/String", "charAt", "(I)C"⟩ : MethodName)) hown (mvT hZ (own_w hw 71 rfl)) (mvT hZ (own_w hw 72 rfl)) (notFace_of_selects (args := #[]) (mvT hZ (own_w hw 74 rfl))) (mvT hZ (own_w hw 74 rfl)) (mvT hZ (own_w hw 73 rfl)) (by decide) (backOf (W := 0) (rm17i2 l Z a0 hw [] a1 c0 c1 c2 c3 c4 c5 c6 zC fm h0 n0 O0 (own_Str.top HT_a1) S_COMPACT_STRINGS S_SIOOBE_FORMATTER S__assertionsDisabled S_HI_BYTE_SHIFT S_LO_BYTE_SHIFT h9_hz h9_hrfm) hZ (own_w hw 75 rfl) (own_w hw 11 rfl) (by decide) (by decide)) q1a q1c (g := (mkF m 9 #[.val (.ref a1), .val (.int 0), .val (.int 4), .val (.int 2), s4] [(.int 2), (.ref a1)])) rfl (by rw [hml]; rfl) (Steps.refl _) (argsL := [(.int 2)]) (rest := []) (lenOf pd_7 rfl) rfl (by show 2 * 0 + _ ≤ _; exact Nat.le_of_eq rfl) (hb hby d25_9) (fun _ _ => ⟨rfl, e0, (by decide : 0 + 0 ≤ _), (by decide : 0 + 0 ≤ _)⟩)
  dsimp only [Pt.U, Pt.locs, Pt.cells, Pt.slots] at X1 l1 y1 z1 st1 hQ1
  subst l1 y1 z1
  obtain ⟨rfl, N1q, e1⟩ := hQ1
  have N1 := Fr.app N0 N1q
  replace X1 := X1.more (cells' := 0) (slots' := 0) (by decide) (by decide)
  refine ⟨T1, _, X1, N1, e1, fun target kt => ?_⟩
  show Steps p.tables e below (T0.setTop (mkF m 2 #[.val (.ref a1), .val (.int 0), .val (.int 4), .val (.int 2), s4] [])) _
  refine XS.iloadN X0.here hx rfl (hb hby d25_2) rfl ?_
  refine XS.iloadN X0.here hx rfl (hb hby d25_3) rfl ?_
  refine XS.icmpNo X0.here hx rfl (hb hby d25_4) rfl (tlt (by decide : (2 : Int32) < (4 : Int32))).2.1 ?_
  refine XS.aloadN X0.here hx rfl (hb hby d25_7) rfl rfl ?_
  refine XS.iloadN X0.here hx rfl (hb hby d25_8) rfl ?_
  refine st1.trans ?_
  exact kt
theorem td_3 {p : Program} {l : Launch} {e : Env} {s : State} {m : MethodId} {args : Array Value} {below : List Frame} {meth : Method} {c : Code} {T0 : State} {locs : List Loc} {Z : State} {a0 : Array Value} (hw : ∀ d ∈ tables_1, d.before a0 Z = true) (a1 : Addr) (s4 : Slot) (c0 c1 c2 c3 c4 c5 c6 zC : Int32) (fm : Value) (h0 : Heap) (n0 : Nat) (X0 : Stand p l e ({ frames := 7, cells := 0, slots := 0, locals := 140 } : Room) s m args below meth c T0 locs 0 0) (N0 : Fr n0 locs) (hx : p.tables.exec = Jvm.exec) (hZ : Z.Warmed39 s.vm) (hby : c.code = prog_6_method_13_code) (hml : c.maxLocals = 5) (hown : s.vm.findClass "com/example/vestwright/vestwright/Values" = some m.cls) (e0 : T0.heap = h0) (O0 : Old Z n0 h0) (HT_a1 : own_Str Z h0 h0.size a1 [c0, c1, c2, c3, c4, c5, c6]) (S_COMPACT_STRINGS : Sta Z Z.heap "java/lang/String" "COMPACT_STRINGS" "Z" (.int zC)) (S_SIOOBE_FORMATTER : Sta Z Z.heap "jdk/internal/util/Preconditions" "SIOOBE_FORMATTER" "Ljava/util/function/BiFunction;" fm) (S__assertionsDisabled : Sta Z Z.heap "java/lang/StringUTF16" "$assertionsDisabled" "Z" (.int 1)) (S_HI_BYTE_SHIFT : Sta Z Z.heap "java/lang/StringUTF16" "HI_BYTE_SHIFT" "I" (.int 0)) (S_LO_BYTE_SHIFT : Sta Z Z.heap "java/lang/StringUTF16" "LO_BYTE_SHIFT" "I" (.int 8)) (h9_hz : ¬ (zC = (0 : Int32))) (h9_hrfm : fm.isRef = true) :
    ∃ (T' : State) (locs' : List Loc), Stand p l e ({ frames := 7, cells := 0, slots := 0, locals := 140 } : Room) s m args below meth c T' locs' 0 0 ∧ Fr n0 locs' ∧ T'.heap = h0 ∧
      ∀ target, Steps p.tables e below (T'.setTop (mkF m 12 #[.val (.ref a1), .val (.int 0), .val (.int 4), .val (.int 3), s4] [(.int c3)])) target → Steps p.tables e below (T0.setTop (mkF m 2 #[.val (.ref a1), .val (.int 0), .val (.int 4), .val (.int 3), s4] [])) target := by
  have Z0 : n0 ≤ h0.size := O0.1 ▸ O0.2.1
  obtain ⟨cq1, kq1, q1a, q1b, q1c⟩ := isOf hZ e0 (own_Str.exa HT_a1)
  obtain ⟨vr1, _, ⟨T1, L1, k1, n1⟩, -, X1, ⟨Lc1, hQ1, l1, y1, z1⟩, st1⟩ := X0.virtualBack hx (y := (⟨"java/lang/String", "charAt", "(I)C"⟩ : MethodName)) (z := (⟨"java/lang/String", "charAt", "(I)C"⟩ : MethodName)) hown (mvT hZ (own_w hw 71 rfl)) (mvT hZ (own_w hw 72 rfl)) (notFace_of_selects (args := #[]) (mvT hZ (own_w hw 74 rfl))) (mvT hZ (own_w hw 74 rfl)) (mvT hZ (own_w hw 73 rfl)) (by decide) (backOf (W := 0) (rm17i3 l Z a0 hw [] a1 c0 c1 c2 c3 c4 c5 c6 zC fm h0 n0 O0 (own_Str.top HT_a1) S_COMPACT_STRINGS S_SIOOBE_FORMATTER S__assertionsDisabled S_HI_BYTE_SHIFT S_LO_BYTE_SHIFT h9_hz h9_hrfm) hZ (own_w hw 75 rfl) (own_w hw 11 rfl) (by decide) (by decide)) q1a q1c (g := (mkF m 9 #[.val (.ref a1), .val (.int 0), .val (.int 4), .val (.int 3), s4] [(.int 3), (.ref a1)])) rfl (by rw [hml]; rfl) (Steps.refl _) (argsL := [(.int 3)]) (rest := []) (lenOf pd_7 rfl) rfl (by show 2 * 0 + _ ≤ _; exact Nat.le_of_eq rfl) (hb hby d25_9) (fun _ _ => ⟨rfl, e0, (by decide : 0 + 0 ≤ _), (by decide : 0 + 0 ≤ _)⟩)
  dsimp only [Pt.U, Pt.locs, Pt.cells, Pt.slots] at X1 l1 y1 z1 st1 hQ1
  subst l1 y1 z1
  obtain ⟨rfl, N1q, e1⟩ := hQ1
  have N1 := Fr.app N0 N1q
  replace X1 := X1.more (cells' := 0) (slots' := 0) (by decide) (by decide)
  refine ⟨T1, _, X1, N1, e1, fun target kt => ?_⟩
  show Steps p.tables e below (T0.setTop (mkF m 2 #[.val (.ref a1), .val (.int 0), .val (.int 4), .val (.int 3), s4] [])) _
  refine XS.iloadN X0.here hx rfl (hb hby d25_2) rfl ?_
  refine XS.iloadN X0.here hx rfl (hb hby d25_3) rfl ?_
  refine XS.icmpNo X0.here hx rfl (hb hby d25_4) rfl (tlt (by decide : (3 : Int32) < (4 : Int32))).2.1 ?_
  refine XS.aloadN X0.here hx rfl (hb hby d25_7) rfl rfl ?_
  refine XS.iloadN X0.here hx rfl (hb hby d25_8) rfl ?_
  refine st1.trans ?_
  exact kt
theorem d25_0 : decode prog_6_method_13_code 0 = .ok (.iload_n 1, 1) := by decide +kernel
theorem d25_1 : decode prog_6_method_13_code 1 = .ok (.istore_n 3, 1) := by decide +kernel
theorem d25_36 : decode prog_6_method_13_code 36 = .ok (.iconst 1, 1) := by decide +kernel
theorem d25_37 : decode prog_6_method_13_code 37 = .ok (.ireturn, 1) := by decide +kernel
def Q25a0T (Z : State) (a1 : Addr) (c0 c1 c2 c3 c4 c5 c6 zC : Int32) (fm : Value) (h0 : Heap) (n0 : Nat) (v : Option Value) (h : Heap) (L : List Loc) : Prop := v = some (.int 1) ∧ Fr n0 L ∧ h = h0
theorem ef_25a__0___Int32____4___Int32__ (m : MethodId) (x0 : Addr) : entryFrame m #[(.ref x0), (.int 0), (.int 4)] 5 = mkF m 0 #[.val (.ref x0), .val (.int 0), .val (.int 4), .unset, .unset] [] := by first | (simp [entryFrame, mkF, argsToLocals, Value.category]; done) | rfl
theorem pnc_com_example_vestwright_vestwright_Values : plainName "com/example/vestwright/vestwright/Values" = true := by first | (simp [plainName, overriddenIn]; done) | decide +kernel
theorem rm25a0T (l : Launch) (Z : State) (a0 : Array Value) (hw : ∀ d ∈ tables_1, d.before a0 Z = true) (ws : List Jvm.Cond) (a1 : Addr) (c0 c1 c2 c3 c4 c5 c6 zC : Int32) (fm : Value) (h0 : Heap) (n0 : Nat) (O0 : Old Z n0 h0) (HT_a1 : own_Str Z h0 h0.size a1 [c0, c1, c2, c3, c4, c5, c6]) (S_COMPACT_STRINGS : Sta Z Z.heap "java/lang/String" "COMPACT_STRINGS" "Z" (.int zC)) (S_SIOOBE_FORMATTER : Sta Z Z.heap "jdk/internal/util/Preconditions" "SIOOBE_FORMATTER" "Ljava/util/function/BiFunction;" fm) (S__assertionsDisabled : Sta Z Z.heap "java/lang/StringUTF16" "$assertionsDisabled" "Z" (.int 1)) (S_HI_BYTE_SHIFT : Sta Z Z.heap "java/lang/StringUTF16" "HI_BYTE_SHIFT" "I" (.int 0)) (S_LO_BYTE_SHIFT : Sta Z Z.heap "java/lang/StringUTF16" "LO_BYTE_SHIFT" "I" (.int 8)) (h2_h9_hz : ¬ (zC = (0 : Int32))) (h2_h9_hrfm : fm.isRef = true) (h12_hc18 : ¬ (c0 < (48 : Int32))) (h12_hc25 : ¬ ((57 : Int32) < c0)) (h12_hc18_1 : ¬ (c1 < (48 : Int32))) (h12_hc25_1 : ¬ ((57 : Int32) < c1)) (h12_hc18_2 : ¬ (c2 < (48 : Int32))) (h12_hc25_2 : ¬ ((57 : Int32) < c2)) (h12_hc18_3 : ¬ (c3 < (48 : Int32))) (h12_hc25_3 : ¬ ((57 : Int32) < c3)) :
    own_C l Z (⟨"com/example/vestwright/vestwright/Values", "digits", "(Ljava/lang/String;II)Z"⟩ : MethodName) prog_6_method_13_code 5 (some .boolean) ws ({ frames := 7, cells := 0, slots := 0, locals := 140 } : Room) #[(.ref a1), (.int 0), (.int 4)] h0 (Q25a0T Z a1 c0 c1 c2 c3 c4 c5 c6 zC fm h0 n0) := by
  refine MetFree.of_bodySF (plainFor_of_name pnc_com_example_vestwright_vestwright_Values) hisR ?_
  intro p e s m args below meth c s₁ Bd hml0 hP hK
  obtain ⟨rfl, hZ, hh⟩ := hP
  have hx := Bd.exec
  have hby := Bd.bytes
  have hml : c.maxLocals = 5 := hml0
  have hown : s.vm.findClass "com/example/vestwright/vestwright/Values" = some m.cls := findClass_of_methodNamed Bd.named
  have hnm := (name_of_methodNamed Bd.named Bd.method).1
  have X0 : Stand p l e ({ frames := 7, cells := 0, slots := 0, locals := 140 } : Room) s m #[(.ref a1), (.int 0), (.int 4)] below meth c s₁ [] 0 0 := Stand.of_body Bd
  have e0 : s₁.heap = h0 := by rw [← hh, Bd.state]; rfl
  have N0 := Fr.nil n0
  have Z0 : n0 ≤ h0.size := O0.1 ▸ O0.2.1
  have pre0 : ∀ t, Steps p.tables e below (s₁.setTop (mkF m 0 #[.val (.ref a1), .val (.int 0), .val (.int 4), .unset, .unset] [])) t → Steps p.tables e below (s₁.setTop (entryFrame m #[(.ref a1), (.int 0), (.int 4)] 5)) t := fun t k => castTop (ef_25a__0___Int32____4___Int32__ m a1) k
  obtain ⟨T2, L2, X2, N2, e2, st2⟩ := td_0 hw a1 ((.unset)) c0 c1 c2 c3 c4 c5 c6 zC fm h0 n0 X0 N0 hx hZ hby hml hown e0 O0 (own_Str.top HT_a1) S_COMPACT_STRINGS S_SIOOBE_FORMATTER S__assertionsDisabled S_HI_BYTE_SHIFT S_LO_BYTE_SHIFT h2_h9_hz h2_h9_hrfm
  obtain ⟨T3, L3, X3, N3, e3, st3⟩ := td_p hw a1 ((0 : Int32)) ((4 : Int32)) ((0 : Int32)) ((.unset)) c0 h0 n0 X2 N2 hx hZ hby hml hown e2 O0 (Or.inl rfl) h12_hc18 h12_hc25
  obtain ⟨T4, L4, X4, N4, e4, st4⟩ := td_1 hw a1 ((.val (.int c0))) c0 c1 c2 c3 c4 c5 c6 zC fm h0 n0 X3 N3 hx hZ hby hml hown e3 O0 (own_Str.top HT_a1) S_COMPACT_STRINGS S_SIOOBE_FORMATTER S__assertionsDisabled S_HI_BYTE_SHIFT S_LO_BYTE_SHIFT h2_h9_hz h2_h9_hrfm
  obtain ⟨T5, L5, X5, N5, e5, st5⟩ := td_p hw a1 ((0 : Int32)) ((4 : Int32)) ((1 : Int32)) ((.val (.int c0))) c1 h0 n0 X4 N4 hx hZ hby hml hown e4 O0 (Or.inr ⟨_, rfl⟩) h12_hc18_1 h12_hc25_1
  obtain ⟨T6, L6, X6, N6, e6, st6⟩ := td_2 hw a1 ((.val (.int c1))) c0 c1 c2 c3 c4 c5 c6 zC fm h0 n0 X5 N5 hx hZ hby hml hown e5 O0 (own_Str.top HT_a1) S_COMPACT_STRINGS S_SIOOBE_FORMATTER S__assertionsDisabled S_HI_BYTE_SHIFT S_LO_BYTE_SHIFT h2_h9_hz h2_h9_hrfm
  obtain ⟨T7, L7, X7, N7, e7, st7⟩ := td_p hw a1 ((0 : Int32)) ((4 : Int32)) ((2 : Int32)) ((.val (.int c1))) c2 h0 n0 X6 N6 hx hZ hby hml hown e6 O0 (Or.inr ⟨_, rfl⟩) h12_hc18_2 h12_hc25_2
  obtain ⟨T8, L8, X8, N8, e8, st8⟩ := td_3 hw a1 ((.val (.int c2))) c0 c1 c2 c3 c4 c5 c6 zC fm h0 n0 X7 N7 hx hZ hby hml hown e7 O0 (own_Str.top HT_a1) S_COMPACT_STRINGS S_SIOOBE_FORMATTER S__assertionsDisabled S_HI_BYTE_SHIFT S_LO_BYTE_SHIFT h2_h9_hz h2_h9_hrfm
  obtain ⟨T9, L9, X9, N9, e9, st9⟩ := td_p hw a1 ((0 : Int32)) ((4 : Int32)) ((3 : Int32)) ((.val (.int c2))) c3 h0 n0 X8 N8 hx hZ hby hml hown e8 O0 (Or.inr ⟨_, rfl⟩) h12_hc18_3 h12_hc25_3
  obtain ⟨fs, hr, hrun, hended, hW, hsame⟩ := X9.leave (v := some (.int 1)) (fun h => by rw [Bd.returns] at h; cases h)
  refine ⟨_, _, pre0 _ ?_, hrun, hended, _, _, rfl, ?_, ⟨_, rfl⟩, hW, hsame.mono (by decide) (by decide)⟩
  · show Steps p.tables e below (s₁.setTop (mkF m 0 #[.val (.ref a1), .val (.int 0), .val (.int 4), .unset, .unset] [])) _
    refine XS.iloadN X0.here hx rfl (hb hby d25_0) rfl ?_
    refine XS.istoreN X0.here hx rfl (hb hby d25_1) rfl (l' := #[.val (.ref a1), .val (.int 0), .val (.int 4), .val (.int 0), .unset]) rfl ?_
    show Steps p.tables e below (s₁.setTop (mkF m 2 #[.val (.ref a1), .val (.int 0), .val (.int 4), .val (.int 0), .unset] [])) _
    refine st2 _ ?_
    show Steps p.tables e below (T2.setTop (mkF m 12 #[.val (.ref a1), .val (.int 0), .val (.int 4), .val (.int 0), .unset] [(.int c0)])) _
    refine st3 _ ?_
    show Steps p.tables e below (T3.setTop (mkF m 2 #[.val (.ref a1), .val (.int 0), .val (.int 4), .val (.int 1), .val (.int c0)] [])) _
    refine st4 _ ?_
    show Steps p.tables e below (T4.setTop (mkF m 12 #[.val (.ref a1), .val (.int 0), .val (.int 4), .val (.int 1), .val (.int c0)] [(.int c1)])) _
    refine st5 _ ?_
    show Steps p.tables e below (T5.setTop (mkF m 2 #[.val (.ref a1), .val (.int 0), .val (.int 4), .val (.int 2), .val (.int c1)] [])) _
    refine st6 _ ?_
    show Steps p.tables e below (T6.setTop (mkF m 12 #[.val (.ref a1), .val (.int 0), .val (.int 4), .val (.int 2), .val (.int c1)] [(.int c2)])) _
    refine st7 _ ?_
    show Steps p.tables e below (T7.setTop (mkF m 2 #[.val (.ref a1), .val (.int 0), .val (.int 4), .val (.int 3), .val (.int c2)] [])) _
    refine st8 _ ?_
    show Steps p.tables e below (T8.setTop (mkF m 12 #[.val (.ref a1), .val (.int 0), .val (.int 4), .val (.int 3), .val (.int c2)] [(.int c3)])) _
    refine st9 _ ?_
    show Steps p.tables e below (T9.setTop (mkF m 2 #[.val (.ref a1), .val (.int 0), .val (.int 4), .val (.int 4), .val (.int c3)] [])) _
    refine XS.iloadN X9.here hx rfl (hb hby d25_2) rfl ?_
    refine XS.iloadN X9.here hx rfl (hb hby d25_3) rfl ?_
    refine XS.icmpYes X9.here hx rfl (pc0 := 4) (pc' := 36) rfl (hb hby d25_4) rfl (flt (by decide : ¬ ((4 : Int32) < (4 : Int32)))).2.1 (by decide) (by decide) ?_
    refine XS.iconst X9.here hx rfl (hb hby d25_36) ?_
    exact retN X9 hx (t := .boolean) Bd.returns (by simp) (hb hby d25_37) hr
  · show Q25a0T Z a1 c0 c1 c2 c3 c4 c5 c6 zC fm h0 n0 _ T9.heap _
    rw [e9]
    exact ⟨rfl, N9, rfl⟩
theorem d27_0 : decode prog_6_method_12_code 0 = .ok (.iconst 0, 1) := by decide +kernel
theorem d27_1 : decode prog_6_method_12_code 1 = .ok (.istore_n 3, 1) := by decide +kernel
theorem d27_2 : decode prog_6_method_12_code 2 = .ok (.iload_n 1, 1) := by decide +kernel
theorem d27_3 : decode prog_6_method_12_code 3 = .ok (.istore 4, 2) := by decide +kernel
theorem d27_5 : decode prog_6_method_12_code 5 = .ok (.iload 4, 2) := by decide +kernel
theorem d27_7 : decode prog_6_method_12_code 7 = .ok (.iload_n 2, 1) := by decide +kernel
theorem d27_8 : decode prog_6_method_12_code 8 = .ok (.if_icmp .ge 24, 3) := by decide +kernel
theorem d27_11 : decode prog_6_method_12_code 11 = .ok (.iload_n 3, 1) := by decide +kernel
theorem d27_12 : decode prog_6_method_12_code 12 = .ok (.bipush 10, 2) := by decide +kernel
theorem d27_14 : decode prog_6_method_12_code 14 = .ok (.imul, 1) := by decide +kernel
theorem d27_15 : decode prog_6_method_12_code 15 = .ok (.aload_n 0, 1) := by decide +kernel
theorem d27_16 : decode prog_6_method_12_code 16 = .ok (.iload 4, 2) := by decide +kernel
theorem d27_18 : decode prog_6_method_12_code 18 = .ok (.invokevirtual 15, 3) := by decide +kernel
theorem d27_21 : decode prog_6_method_12_code 21 = .ok (.bipush 48, 2) := by decide +kernel
theorem d27_23 : decode prog_6_method_12_code 23 = .ok (.isub, 1) := by decide +kernel
theorem d27_24 : decode prog_6_method_12_code 24 = .ok (.iadd, 1) := by decide +kernel
theorem d27_25 : decode prog_6_method_12_code 25 = .ok (.istore_n 3, 1) := by decide +kernel
theorem d27_26 : decode prog_6_method_12_code 26 = .ok (.iinc 4 1, 3) := by decide +kernel
theorem d27_29 : decode prog_6_method_12_code 29 = .ok (.goto (-24), 3) := by decide +kernel
theorem d27_32 : decode prog_6_method_12_code 32 = .ok (.iload_n 3, 1) := by decide +kernel
theorem d27_33 : decode prog_6_method_12_code 33 = .ok (.ireturn, 1) := by decide +kernel
def Q27a0 (Z : State) (a1 : Addr) (c0 c1 c2 c3 c4 c5 c6 zC : Int32) (fm : Value) (h0 : Heap) (n0 : Nat) (v : Option Value) (h : Heap) (L : List Loc) : Prop := v = some (.int ((((((((0 : Int32) + (c0 - (48 : Int32))) * (10 : Int32)) + (c1 - (48 : Int32))) * (10 : Int32)) + (c2 - (48 : Int32))) * (10 : Int32)) + (c3 - (48 : Int32)))) ∧ Fr n0 L ∧ h = h0
theorem ef_27a__0___Int32____4___Int32__ (m : MethodId) (x0 : Addr) : entryFrame m #[(.ref x0), (.int 0), (.int 4)] 5 = mkF m 0 #[.val (.ref x0), .val (.int 0), .val (.int 4), .unset, .unset] [] := by first | (simp [entryFrame, mkF, argsToLocals, Value.category]; done) | rfl
theorem rm27a0 (l : Launch) (Z : State) (a0 : Array Value) (hw : ∀ d ∈ tables_1, d.before a0 Z = true) (ws : List Jvm.Cond) (a1 : Addr) (c0 c1 c2 c3 c4 c5 c6 zC : Int32) (fm : Value) (h0 : Heap) (n0 : Nat) (O0 : Old Z n0 h0) (HT_a1 : own_Str Z h0 h0.size a1 [c0, c1, c2, c3, c4, c5, c6]) (S_COMPACT_STRINGS : Sta Z Z.heap "java/lang/String" "COMPACT_STRINGS" "Z" (.int zC)) (S_SIOOBE_FORMATTER : Sta Z Z.heap "jdk/internal/util/Preconditions" "SIOOBE_FORMATTER" "Ljava/util/function/BiFunction;" fm) (S__assertionsDisabled : Sta Z Z.heap "java/lang/StringUTF16" "$assertionsDisabled" "Z" (.int 1)) (S_HI_BYTE_SHIFT : Sta Z Z.heap "java/lang/StringUTF16" "HI_BYTE_SHIFT" "I" (.int 0)) (S_LO_BYTE_SHIFT : Sta Z Z.heap "java/lang/StringUTF16" "LO_BYTE_SHIFT" "I" (.int 8)) (h18_hz : ¬ (zC = (0 : Int32))) (h18_hrfm : fm.isRef = true) :
    own_C l Z (⟨"com/example/vestwright/vestwright/Values", "number", "(Ljava/lang/String;II)I"⟩ : MethodName) prog_6_method_12_code 5 (some .int) ws ({ frames := 7, cells := 0, slots := 0, locals := 140 } : Room) #[(.ref a1), (.int 0), (.int 4)] h0 (Q27a0 Z a1 c0 c1 c2 c3 c4 c5 c6 zC fm h0 n0) := by
  refine MetFree.of_bodySF (plainFor_of_name pnc_com_example_vestwright_vestwright_Values) hisR ?_
  intro p e s m args below meth c s₁ Bd hml0 hP hK
  obtain ⟨rfl, hZ, hh⟩ := hP
  have hx := Bd.exec
  have hby := Bd.bytes
  have hml : c.maxLocals = 5 := hml0
  have hown : s.vm.findClass "com/example/vestwright/vestwright/Values" = some m.cls := findClass_of_methodNamed Bd.named
  have hnm := (name_of_methodNamed Bd.named Bd.method).1
  have X0 : Stand p l e ({ frames := 7, cells := 0, slots := 0, locals := 140 } : Room) s m #[(.ref a1), (.int 0), (.int 4)] below meth c s₁ [] 0 0 := Stand.of_body Bd
  have e0 : s₁.heap = h0 := by rw [← hh, Bd.state]; rfl
  have N0 := Fr.nil n0
  have Z0 : n0 ≤ h0.size := O0.1 ▸ O0.2.1
  have pre0 : ∀ t, Steps p.tables e below (s₁.setTop (mkF m 0 #[.val (.ref a1), .val (.int 0), .val (.int 4), .unset, .unset] [])) t → Steps p.tables e below (s₁.setTop (entryFrame m #[(.ref a1), (.int 0), (.int 4)] 5)) t := fun t k => castTop (ef_27a__0___Int32____4___Int32__ m a1) k
  obtain ⟨cq2, kq2, q2a, q2b, q2c⟩ := isOf hZ e0 (own_Str.exa HT_a1)
  obtain ⟨vr2, _, ⟨T2, L2, k2, n2⟩, -, X2, ⟨Lc2, hQ2, l2, y2, z2⟩, st2⟩ := X0.virtualBack hx (y := (⟨"java/lang/String", "charAt", "(I)C"⟩ : MethodName)) (z := (⟨"java/lang/String", "charAt", "(I)C"⟩ : MethodName)) hown (mvT hZ (own_w hw 71 rfl)) (mvT hZ (own_w hw 72 rfl)) (notFace_of_selects (args := #[]) (mvT hZ (own_w hw 74 rfl))) (mvT hZ (own_w hw 74 rfl)) (mvT hZ (own_w hw 73 rfl)) (by decide) (backOf (W := 1) (rm17i0 l Z a0 hw [] a1 c0 c1 c2 c3 c4 c5 c6 zC fm h0 n0 O0 (own_Str.top HT_a1) S_COMPACT_STRINGS S_SIOOBE_FORMATTER S__assertionsDisabled S_HI_BYTE_SHIFT S_LO_BYTE_SHIFT h18_hz h18_hrfm) hZ (own_w hw 75 rfl) (own_w hw 11 rfl) (by decide) (by decide)) q2a q2c (g := (mkF m 18 #[.val (.ref a1), .val (.int 0), .val (.int 4), .val (.int 0), .val (.int 0)] [(.int 0), (.ref a1), (.int 0)])) rfl (by rw [hml]; rfl) (Steps.refl _) (argsL := [(.int 0)]) (rest := [(.int 0)]) (lenOf pd_7 rfl) rfl (by show 2 * 0 + _ ≤ _; exact Nat.le_of_eq rfl) (hb hby d27_18) (fun _ _ => ⟨rfl, e0, (by decide : 0 + 0 ≤ _), (by decide : 0 + 0 ≤ _)⟩)
  dsimp only [Pt.U, Pt.locs, Pt.cells, Pt.slots] at X2 l2 y2 z2 st2 hQ2
  subst l2 y2 z2
  obtain ⟨rfl, N2q, e2⟩ := hQ2
  have N2 := Fr.app N0 N2q
  replace X2 := X2.more (cells' := 0) (slots' := 0) (by decide) (by decide)
  obtain ⟨cq3, kq3, q3a, q3b, q3c⟩ := isOf hZ e2 (own_Str.exa HT_a1)
  obtain ⟨vr3, _, ⟨T3, L3, k3, n3⟩, -, X3, ⟨Lc3, hQ3, l3, y3, z3⟩, st3⟩ := X2.virtualBack hx (y := (⟨"java/lang/String", "charAt", "(I)C"⟩ : MethodName)) (z := (⟨"java/lang/String", "charAt", "(I)C"⟩ : MethodName)) hown (mvT hZ (own_w hw 71 rfl)) (mvT hZ (own_w hw 72 rfl)) (notFace_of_selects (args := #[]) (mvT hZ (own_w hw 74 rfl))) (mvT hZ (own_w hw 74 rfl)) (mvT hZ (own_w hw 73 rfl)) (by decide) (backOf (W := 1) (rm17i1 l Z a0 hw [] a1 c0 c1 c2 c3 c4 c5 c6 zC fm h0 n0 O0 (own_Str.top HT_a1) S_COMPACT_STRINGS S_SIOOBE_FORMATTER S__assertionsDisabled S_HI_BYTE_SHIFT S_LO_BYTE_SHIFT h18_hz h18_hrfm) hZ (own_w hw 75 rfl) (own_w hw 11 rfl) (by decide) (by decide)) q3a q3c (g := (mkF m 18 #[.val (.ref a1), .val (.int 0), .val (.int 4), .val (.int ((0 : Int32) + (c0 - (48 : Int32)))), .val (.int 1)] [(.int 1), (.ref a1), (.int (((0 : Int32) + (c0 - (48 : Int32))) * (10 : Int32)))])) rfl (by rw [hml]; rfl) (Steps.refl _) (argsL := [(.int 1)]) (rest := [(.int (((0 : Int32) + (c0 - (48 : Int32))) * (10 : Int32)))]) (lenOf pd_7 rfl) rfl (by show 2 * 0 + _ ≤ _; exact Nat.le_of_eq rfl) (hb hby d27_18) (fun _ _ => ⟨rfl, e2, (by decide : 0 + 0 ≤ _), (by decide : 0 + 0 ≤ _)⟩)
  dsimp only [Pt.U, Pt.locs, Pt.cells, Pt.slots] at X3 l3 y3 z3 st3 hQ3
  subst l3 y3 z3
  obtain ⟨rfl, N3q, e3⟩ := hQ3
  have N3 := Fr.app N2 N3q
  replace X3 := X3.more (cells' := 0) (slots' := 0) (by decide) (by decide)
  obtain ⟨cq4, kq4, q4a, q4b, q4c⟩ := isOf hZ e3 (own_Str.exa HT_a1)
  obtain ⟨vr4, _, ⟨T4, L4, k4, n4⟩, -, X4, ⟨Lc4, hQ4, l4, y4, z4⟩, st4⟩ := X3.virtualBack hx (y := (⟨"java/lang/String", "charAt", "(I)C"⟩ : MethodName)) (z := (⟨"java/lang/String", "charAt", "(I)C"⟩ : MethodName)) hown (mvT hZ (own_w hw 71 rfl)) (mvT hZ (own_w hw 72 rfl)) (notFace_of_selects (args := #[]) (mvT hZ (own_w hw 74 rfl))) (mvT hZ (own_w hw 74 rfl)) (mvT hZ (own_w hw 73 rfl)) (by decide) (backOf (W := 1) (rm17i2 l Z a0 hw [] a1 c0 c1 c2 c3 c4 c5 c6 zC fm h0 n0 O0 (own_Str.top HT_a1) S_COMPACT_STRINGS S_SIOOBE_FORMATTER S__assertionsDisabled S_HI_BYTE_SHIFT S_LO_BYTE_SHIFT h18_hz h18_hrfm) hZ (own_w hw 75 rfl) (own_w hw 11 rfl) (by decide) (by decide)) q4a q4c (g := (mkF m 18 #[.val (.ref a1), .val (.int 0), .val (.int 4), .val (.int ((((0 : Int32) + (c0 - (48 : Int32))) * (10 : Int32)) + (c1 - (48 : Int32)))), .val (.int 2)] [(.int 2), (.ref a1), (.int (((((0 : Int32) + (c0 - (48 : Int32))) * (10 : Int32)) + (c1 - (48 : Int32))) * (10 : Int32)))])) rfl (by rw [hml]; rfl) (Steps.refl _) (argsL := [(.int 2)]) (rest := [(.int (((((0 : Int32) + (c0 - (48 : Int32))) * (10 : Int32)) + (c1 - (48 : Int32))) * (10 : Int32)))]) (lenOf pd_7 rfl) rfl (by show 2 * 0 + _ ≤ _; exact Nat.le_of_eq rfl) (hb hby d27_18) (fun _ _ => ⟨rfl, e3, (by decide : 0 + 0 ≤ _), (by decide : 0 + 0 ≤ _)⟩)
  dsimp only [Pt.U, Pt.locs, Pt.cells, Pt.slots] at X4 l4 y4 z4 st4 hQ4
  subst l4 y4 z4
  obtain ⟨rfl, N4q, e4⟩ := hQ4
  have N4 := Fr.app N3 N4q
  replace X4 := X4.more (cells' := 0) (slots' := 0) (by decide) (by decide)
  obtain ⟨cq5, kq5, q5a, q5b, q5c⟩ := isOf hZ e4 (own_Str.exa HT_a1)
  obtain ⟨vr5, _, ⟨T5, L5, k5, n5⟩, -, X5, ⟨Lc5, hQ5, l5, y5, z5⟩, st5⟩ := X4.virtualBack hx (y := (⟨"java/lang/String", "charAt", "(I)C"⟩ : MethodName)) (z := (⟨"java/lang/String", "charAt", "(I)C"⟩ : MethodName)) hown (mvT hZ (own_w hw 71 rfl)) (mvT hZ (own_w hw 72 rfl)) (notFace_of_selects (args := #[]) (mvT hZ (own_w hw 74 rfl))) (mvT hZ (own_w hw 74 rfl)) (mvT hZ (own_w hw 73 rfl)) (by decide) (backOf (W := 1) (rm17i3 l Z a0 hw [] a1 c0 c1 c2 c3 c4 c5 c6 zC fm h0 n0 O0 (own_Str.top HT_a1) S_COMPACT_STRINGS S_SIOOBE_FORMATTER S__assertionsDisabled S_HI_BYTE_SHIFT S_LO_BYTE_SHIFT h18_hz h18_hrfm) hZ (own_w hw 75 rfl) (own_w hw 11 rfl) (by decide) (by decide)) q5a q5c (g := (mkF m 18 #[.val (.ref a1), .val (.int 0), .val (.int 4), .val (.int ((((((0 : Int32) + (c0 - (48 : Int32))) * (10 : Int32)) + (c1 - (48 : Int32))) * (10 : Int32)) + (c2 - (48 : Int32)))), .val (.int 3)] [(.int 3), (.ref a1), (.int (((((((0 : Int32) + (c0 - (48 : Int32))) * (10 : Int32)) + (c1 - (48 : Int32))) * (10 : Int32)) + (c2 - (48 : Int32))) * (10 : Int32)))])) rfl (by rw [hml]; rfl) (Steps.refl _) (argsL := [(.int 3)]) (rest := [(.int (((((((0 : Int32) + (c0 - (48 : Int32))) * (10 : Int32)) + (c1 - (48 : Int32))) * (10 : Int32)) + (c2 - (48 : Int32))) * (10 : Int32)))]) (lenOf pd_7 rfl) rfl (by show 2 * 0 + _ ≤ _; exact Nat.le_of_eq rfl) (hb hby d27_18) (fun _ _ => ⟨rfl, e4, (by decide : 0 + 0 ≤ _), (by decide : 0 + 0 ≤ _)⟩)
  dsimp only [Pt.U, Pt.locs, Pt.cells, Pt.slots] at X5 l5 y5 z5 st5 hQ5
  subst l5 y5 z5
  obtain ⟨rfl, N5q, e5⟩ := hQ5
  have N5 := Fr.app N4 N5q
  replace X5 := X5.more (cells' := 0) (slots' := 0) (by decide) (by decide)
  obtain ⟨fs, hr, hrun, hended, hW, hsame⟩ := X5.leave (v := some (.int ((((((((0 : Int32) + (c0 - (48 : Int32))) * (10 : Int32)) + (c1 - (48 : Int32))) * (10 : Int32)) + (c2 - (48 : Int32))) * (10 : Int32)) + (c3 - (48 : Int32))))) (fun h => by rw [Bd.returns] at h; cases h)
  refine ⟨_, _, pre0 _ ?_, hrun, hended, _, _, rfl, ?_, ⟨_, rfl⟩, hW, hsame.mono (by decide) (by decide)⟩
  · show Steps p.tables e below (s₁.setTop (mkF m 0 #[.val (.ref a1), .val (.int 0), .val (.int 4), .unset, .unset] [])) _
    refine XS.iconst X0.here hx rfl (hb hby d27_0) ?_
    refine XS.istoreN X0.here hx rfl (hb hby d27_1) rfl (l' := #[.val (.ref a1), .val (.int 0), .val (.int 4), .val (.int 0), .unset]) rfl ?_
    refine XS.iloadN X0.here hx rfl (hb hby d27_2) rfl ?_
    refine XS.istore X0.here hx rfl (hb hby d27_3) rfl (l' := #[.val (.ref a1), .val (.int 0), .val (.int 4), .val (.int 0), .val (.int 0)]) rfl ?_
    refine XS.iload X0.here hx rfl (hb hby d27_5) rfl ?_
    refine XS.iloadN X0.here hx rfl (hb hby d27_7) rfl ?_
    refine XS.icmpNo X0.here hx rfl (hb hby d27_8) rfl (tlt (by decide : (0 : Int32) < (4 : Int32))).2.1 ?_
    show Steps p.tables e below (s₁.setTop (mkF m 11 #[.val (.ref a1), .val (.int 0), .val (.int 4), .val (.int 0), .val (.int 0)] [])) _
    refine XS.iloadN X0.here hx rfl (hb hby d27_11) rfl ?_
    refine XS.bipush X0.here hx rfl (hb hby d27_12) ?_
    refine XS.imul X0.here hx rfl (hb hby d27_14) rfl ?_
    refine XS.aloadN X0.here hx rfl (hb hby d27_15) rfl rfl ?_
    refine XS.iload X0.here hx rfl (hb hby d27_16) rfl ?_
    refine st2.trans ?_
    refine XS.bipush X2.here hx rfl (hb hby d27_21) ?_
    refine XS.isub X2.here hx rfl (hb hby d27_23) rfl ?_
    refine XS.iadd X2.here hx rfl (hb hby d27_24) rfl ?_
    refine XS.istoreN X2.here hx rfl (hb hby d27_25) rfl (l' := #[.val (.ref a1), .val (.int 0), .val (.int 4), .val (.int ((0 : Int32) + (c0 - (48 : Int32)))), .val (.int 0)]) rfl ?_
    refine XS.iinc X2.here hx rfl (hb hby d27_26) rfl (l' := #[.val (.ref a1), .val (.int 0), .val (.int 4), .val (.int ((0 : Int32) + (c0 - (48 : Int32)))), .val (.int 1)]) rfl ?_
    refine XS.goto X2.here hx rfl (pc0 := 29) (pc' := 5) rfl (hb hby d27_29) (by decide) (by decide) ?_
    show Steps p.tables e below (T2.setTop (mkF m 5 #[.val (.ref a1), .val (.int 0), .val (.int 4), .val (.int ((0 : Int32) + (c0 - (48 : Int32)))), .val (.int 1)] [])) _
    refine XS.iload X2.here hx rfl (hb hby d27_5) rfl ?_
    refine XS.iloadN X2.here hx rfl (hb hby d27_7) rfl ?_
    refine XS.icmpNo X2.here hx rfl (hb hby d27_8) rfl (tlt (by decide : (1 : Int32) < (4 : Int32))).2.1 ?_
    refine XS.iloadN X2.here hx rfl (hb hby d27_11) rfl ?_
    refine XS.bipush X2.here hx rfl (hb hby d27_12) ?_
    refine XS.imul X2.here hx rfl (hb hby d27_14) rfl ?_
    refine XS.aloadN X2.here hx rfl (hb hby d27_15) rfl rfl ?_
    show Steps p.tables e below (T2.setTop (mkF m 16 #[.val (.ref a1), .val (.int 0), .val (.int 4), .val (.int ((0 : Int32) + (c0 - (48 : Int32)))), .val (.int 1)] [(.ref a1), (.int (((0 : Int32) + (c0 - (48 : Int32))) * (10 : Int32)))])) _
    refine XS.iload X2.here hx rfl (hb hby d27_16) rfl ?_
    refine st3.trans ?_
    refine XS.bipush X3.here hx rfl (hb hby d27_21) ?_
    refine XS.isub X3.here hx rfl (hb hby d27_23) rfl ?_
    refine XS.iadd X3.here hx rfl (hb hby d27_24) rfl ?_
    refine XS.istoreN X3.here hx rfl (hb hby d27_25) rfl (l' := #[.val (.ref a1), .val (.int 0), .val (.int 4), .val (.int ((((0 : Int32) + (c0 - (48 : Int32))) * (10 : Int32)) + (c1 - (48 : Int32)))), .val (.int 1)]) rfl ?_
    refine XS.iinc X3.here hx rfl (hb hby d27_26) rfl (l' := #[.val (.ref a1), .val (.int 0), .val (.int 4), .val (.int ((((0 : Int32) + (c0 - (48 : Int32))) * (10 : Int32)) + (c1 - (48 : Int32)))), .val (.int 2)]) rfl ?_
    refine XS.goto X3.here hx rfl (pc0 := 29) (pc' := 5) rfl (hb hby d27_29) (by decide) (by decide) ?_
    show Steps p.tables e below (T3.setTop (mkF m 5 #[.val (.ref a1), .val (.int 0), .val (.int 4), .val (.int ((((0 : Int32) + (c0 - (48 : Int32))) * (10 : Int32)) + (c1 - (48 : Int32)))), .val (.int 2)] [])) _
    refine XS.iload X3.here hx rfl (hb hby d27_5) rfl ?_
    refine XS.iloadN X3.here hx rfl (hb hby d27_7) rfl ?_
    refine XS.icmpNo X3.here hx rfl (hb hby d27_8) rfl (tlt (by decide : (2 : Int32) < (4 : Int32))).2.1 ?_
    refine XS.iloadN X3.here hx rfl (hb hby d27_11) rfl ?_
    refine XS.bipush X3.here hx rfl (hb hby d27_12) ?_
    refine XS.imul X3.here hx rfl (hb hby d27_14) rfl ?_
    refine XS.aloadN X3.here hx rfl (hb hby d27_15) rfl rfl ?_
    show Steps p.tables e below (T3.setTop (mkF m 16 #[.val (.ref a1), .val (.int 0), .val (.int 4), .val (.int ((((0 : Int32) + (c0 - (48 : Int32))) * (10 : Int32)) + (c1 - (48 : Int32)))), .val (.int 2)] [(.ref a1), (.int (((((0 : Int32) + (c0 - (48 : Int32))) * (10 : Int32)) + (c1 - (48 : Int32))) * (10 : Int32)))])) _
    refine XS.iload X3.here hx rfl (hb hby d27_16) rfl ?_
    refine st4.trans ?_
    refine XS.bipush X4.here hx rfl (hb hby d27_21) ?_
    refine XS.isub X4.here hx rfl (hb hby d27_23) rfl ?_
    refine XS.iadd X4.here hx rfl (hb hby d27_24) rfl ?_
    refine XS.istoreN X4.here hx rfl (hb hby d27_25) rfl (l' := #[.val (.ref a1), .val (.int 0), .val (.int 4), .val (.int ((((((0 : Int32) + (c0 - (48 : Int32))) * (10 : Int32)) + (c1 - (48 : Int32))) * (10 : Int32)) + (c2 - (48 : Int32)))), .val (.int 2)]) rfl ?_
    refine XS.iinc X4.here hx rfl (hb hby d27_26) rfl (l' := #[.val (.ref a1), .val (.int 0), .val (.int 4), .val (.int ((((((0 : Int32) + (c0 - (48 : Int32))) * (10 : Int32)) + (c1 - (48 : Int32))) * (10 : Int32)) + (c2 - (48 : Int32)))), .val (.int 3)]) rfl ?_
    refine XS.goto X4.here hx rfl (pc0 := 29) (pc' := 5) rfl (hb hby d27_29) (by decide) (by decide) ?_
    show Steps p.tables e below (T4.setTop (mkF m 5 #[.val (.ref a1), .val (.int 0), .val (.int 4), .val (.int ((((((0 : Int32) + (c0 - (48 : Int32))) * (10 : Int32)) + (c1 - (48 : Int32))) * (10 : Int32)) + (c2 - (48 : Int32)))), .val (.int 3)] [])) _
    refine XS.iload X4.here hx rfl (hb hby d27_5) rfl ?_
    refine XS.iloadN X4.here hx rfl (hb hby d27_7) rfl ?_
    refine XS.icmpNo X4.here hx rfl (hb hby d27_8) rfl (tlt (by decide : (3 : Int32) < (4 : Int32))).2.1 ?_
    refine XS.iloadN X4.here hx rfl (hb hby d27_11) rfl ?_
    refine XS.bipush X4.here hx rfl (hb hby d27_12) ?_
    refine XS.imul X4.here hx rfl (hb hby d27_14) rfl ?_
    refine XS.aloadN X4.here hx rfl (hb hby d27_15) rfl rfl ?_
    show Steps p.tables e below (T4.setTop (mkF m 16 #[.val (.ref a1), .val (.int 0), .val (.int 4), .val (.int ((((((0 : Int32) + (c0 - (48 : Int32))) * (10 : Int32)) + (c1 - (48 : Int32))) * (10 : Int32)) + (c2 - (48 : Int32)))), .val (.int 3)] [(.ref a1), (.int (((((((0 : Int32) + (c0 - (48 : Int32))) * (10 : Int32)) + (c1 - (48 : Int32))) * (10 : Int32)) + (c2 - (48 : Int32))) * (10 : Int32)))])) _
    refine XS.iload X4.here hx rfl (hb hby d27_16) rfl ?_
    refine st5.trans ?_
    refine XS.bipush X5.here hx rfl (hb hby d27_21) ?_
    refine XS.isub X5.here hx rfl (hb hby d27_23) rfl ?_
    refine XS.iadd X5.here hx rfl (hb hby d27_24) rfl ?_
    refine XS.istoreN X5.here hx rfl (hb hby d27_25) rfl (l' := #[.val (.ref a1), .val (.int 0), .val (.int 4), .val (.int ((((((((0 : Int32) + (c0 - (48 : Int32))) * (10 : Int32)) + (c1 - (48 : Int32))) * (10 : Int32)) + (c2 - (48 : Int32))) * (10 : Int32)) + (c3 - (48 : Int32)))), .val (.int 3)]) rfl ?_
    refine XS.iinc X5.here hx rfl (hb hby d27_26) rfl (l' := #[.val (.ref a1), .val (.int 0), .val (.int 4), .val (.int ((((((((0 : Int32) + (c0 - (48 : Int32))) * (10 : Int32)) + (c1 - (48 : Int32))) * (10 : Int32)) + (c2 - (48 : Int32))) * (10 : Int32)) + (c3 - (48 : Int32)))), .val (.int 4)]) rfl ?_
    refine XS.goto X5.here hx rfl (pc0 := 29) (pc' := 5) rfl (hb hby d27_29) (by decide) (by decide) ?_
    show Steps p.tables e below (T5.setTop (mkF m 5 #[.val (.ref a1), .val (.int 0), .val (.int 4), .val (.int ((((((((0 : Int32) + (c0 - (48 : Int32))) * (10 : Int32)) + (c1 - (48 : Int32))) * (10 : Int32)) + (c2 - (48 : Int32))) * (10 : Int32)) + (c3 - (48 : Int32)))), .val (.int 4)] [])) _
    refine XS.iload X5.here hx rfl (hb hby d27_5) rfl ?_
    refine XS.iloadN X5.here hx rfl (hb hby d27_7) rfl ?_
    refine XS.icmpYes X5.here hx rfl (pc0 := 8) (pc' := 32) rfl (hb hby d27_8) rfl (flt (by decide : ¬ ((4 : Int32) < (4 : Int32)))).2.1 (by decide) (by decide) ?_
    refine XS.iloadN X5.here hx rfl (hb hby d27_32) rfl ?_
    exact own_retI X5 hx Bd.returns (hb hby d27_33) hr
  · show Q27a0 Z a1 c0 c1 c2 c3 c4 c5 c6 zC fm h0 n0 _ T5.heap _
    rw [e5]
    exact ⟨rfl, N5, rfl⟩
theorem td_F0 {p : Program} {l : Launch} {e : Env} {s : State} {m : MethodId} {args : Array Value} {below : List Frame} {meth : Method} {c : Code} {T0 : State} {locs : List Loc} {Z : State} {a0 : Array Value} (hw : ∀ d ∈ tables_1, d.before a0 Z = true) (a1 : Addr) (s4 : Slot) (c0 c1 c2 c3 c4 c5 c6 zC : Int32) (fm : Value) (h0 : Heap) (n0 : Nat) (X0 : Stand p l e ({ frames := 7, cells := 0, slots := 0, locals := 140 } : Room) s m args below meth c T0 locs 0 0) (N0 : Fr n0 locs) (hx : p.tables.exec = Jvm.exec) (hZ : Z.Warmed39 s.vm) (hby : c.code = prog_6_method_13_code) (hml : c.maxLocals = 5) (hown : s.vm.findClass "com/example/vestwright/vestwright/Values" = some m.cls) (e0 : T0.heap = h0) (O0 : Old Z n0 h0) (HT_a1 : own_Str Z h0 h0.size a1 [c0, c1, c2, c3, c4, c5, c6]) (S_COMPACT_STRINGS : Sta Z Z.heap "java/lang/String" "COMPACT_STRINGS" "Z" (.int zC)) (S_SIOOBE_FORMATTER : Sta Z Z.heap "jdk/internal/util/Preconditions" "SIOOBE_FORMATTER" "Ljava/util/function/BiFunction;" fm) (S__assertionsDisabled : Sta Z Z.heap "java/lang/StringUTF16" "$assertionsDisabled" "Z" (.int 1)) (S_HI_BYTE_SHIFT : Sta Z Z.heap "java/lang/StringUTF16" "HI_BYTE_SHIFT" "I" (.int 0)) (S_LO_BYTE_SHIFT : Sta Z Z.heap "java/lang/StringUTF16" "LO_BYTE_SHIFT" "I" (.int 8)) (h9_hz : ¬ (zC = (0 : Int32))) (h9_hrfm : fm.isRef = true) (hbad : ¬ (own_dg c0 ∧ own_dg c1 ∧ own_dg c2 ∧ own_dg c3)) (hs4 : own_one s4) :
    ∃ (T' : State) (locs' : List Loc) (yy : Int32) (s5 : Slot), Stand p l e ({ frames := 7, cells := 0, slots := 0, locals := 140 } : Room) s m args below meth c T' locs' 0 0 ∧ Fr n0 locs' ∧ T'.heap = h0 ∧ ∀ target, Steps p.tables e below (T'.setTop (mkF m 28 #[.val (.ref a1), .val (.int 0), .val (.int 4), .val (.int yy), s5] [])) target → Steps p.tables e below (T0.setTop (mkF m 2 #[.val (.ref a1), .val (.int 0), .val (.int 4), .val (.int 0), s4] [])) target := by
  obtain ⟨A0, B0, C0, D0, E0, st0⟩ := td_0 hw a1 s4 c0 c1 c2 c3 c4 c5 c6 zC fm h0 n0 X0 N0 hx hZ hby hml hown e0 O0 HT_a1 S_COMPACT_STRINGS S_SIOOBE_FORMATTER S__assertionsDisabled S_HI_BYTE_SHIFT S_LO_BYTE_SHIFT h9_hz h9_hrfm
  by_cases u0 : c0 < (48 : Int32)
  · obtain ⟨T', L', X', N', e', st'⟩ := td_a hw a1 (0 : Int32) (4 : Int32) (0 : Int32) s4 c0 h0 n0 C0 D0 hx hZ hby hml hown E0 O0 hs4 u0
    exact ⟨T', L', (0 : Int32), _, X', N', e', fun target kt => (st0 _ (st' _ kt))⟩
  by_cases v0 : (57 : Int32) < c0
  · obtain ⟨T', L', X', N', e', st'⟩ := td_b hw a1 (0 : Int32) (4 : Int32) (0 : Int32) s4 c0 h0 n0 C0 D0 hx hZ hby hml hown E0 O0 hs4 u0 v0
    exact ⟨T', L', (0 : Int32), _, X', N', e', fun target kt => (st0 _ (st' _ kt))⟩
  obtain ⟨F0, G0, H0, I0, J0, su0⟩ := td_p hw a1 (0 : Int32) (4 : Int32) (0 : Int32) s4 c0 h0 n0 C0 D0 hx hZ hby hml hown E0 O0 hs4 u0 v0
  obtain ⟨A1, B1, C1, D1, E1, st1⟩ := td_1 hw a1 (.val (.int c0)) c0 c1 c2 c3 c4 c5 c6 zC fm h0 n0 H0 I0 hx hZ hby hml hown J0 O0 HT_a1 S_COMPACT_STRINGS S_SIOOBE_FORMATTER S__assertionsDisabled S_HI_BYTE_SHIFT S_LO_BYTE_SHIFT h9_hz h9_hrfm
  by_cases u1 : c1 < (48 : Int32)
  · obtain ⟨T', L', X', N', e', st'⟩ := td_a hw a1 (0 : Int32) (4 : Int32) (1 : Int32) (.val (.int c0)) c1 h0 n0 C1 D1 hx hZ hby hml hown E1 O0 (Or.inr ⟨_, rfl⟩) u1
    exact ⟨T', L', (1 : Int32), _, X', N', e', fun target kt => (st0 _ (su0 _ (st1 _ (st' _ kt))))⟩
  by_cases v1 : (57 : Int32) < c1
  · obtain ⟨T', L', X', N', e', st'⟩ := td_b hw a1 (0 : Int32) (4 : Int32) (1 : Int32) (.val (.int c0)) c1 h0 n0 C1 D1 hx hZ hby hml hown E1 O0 (Or.inr ⟨_, rfl⟩) u1 v1
    exact ⟨T', L', (1 : Int32), _, X', N', e', fun target kt => (st0 _ (su0 _ (st1 _ (st' _ kt))))⟩
  obtain ⟨F1, G1, H1, I1, J1, su1⟩ := td_p hw a1 (0 : Int32) (4 : Int32) (1 : Int32) (.val (.int c0)) c1 h0 n0 C1 D1 hx hZ hby hml hown E1 O0 (Or.inr ⟨_, rfl⟩) u1 v1
  obtain ⟨A2, B2, C2, D2, E2, st2⟩ := td_2 hw a1 (.val (.int c1)) c0 c1 c2 c3 c4 c5 c6 zC fm h0 n0 H1 I1 hx hZ hby hml hown J1 O0 HT_a1 S_COMPACT_STRINGS S_SIOOBE_FORMATTER S__assertionsDisabled S_HI_BYTE_SHIFT S_LO_BYTE_SHIFT h9_hz h9_hrfm
  by_cases u2 : c2 < (48 : Int32)
  · obtain ⟨T', L', X', N', e', st'⟩ := td_a hw a1 (0 : Int32) (4 : Int32) (2 : Int32) (.val (.int c1)) c2 h0 n0 C2 D2 hx hZ hby hml hown E2 O0 (Or.inr ⟨_, rfl⟩) u2
    exact ⟨T', L', (2 : Int32), _, X', N', e', fun target kt => (st0 _ (su0 _ (st1 _ (su1 _ (st2 _ (st' _ kt))))))⟩
  by_cases v2 : (57 : Int32) < c2
  · obtain ⟨T', L', X', N', e', st'⟩ := td_b hw a1 (0 : Int32) (4 : Int32) (2 : Int32) (.val (.int c1)) c2 h0 n0 C2 D2 hx hZ hby hml hown E2 O0 (Or.inr ⟨_, rfl⟩) u2 v2
    exact ⟨T', L', (2 : Int32), _, X', N', e', fun target kt => (st0 _ (su0 _ (st1 _ (su1 _ (st2 _ (st' _ kt))))))⟩
  obtain ⟨F2, G2, H2, I2, J2, su2⟩ := td_p hw a1 (0 : Int32) (4 : Int32) (2 : Int32) (.val (.int c1)) c2 h0 n0 C2 D2 hx hZ hby hml hown E2 O0 (Or.inr ⟨_, rfl⟩) u2 v2
  obtain ⟨A3, B3, C3, D3, E3, st3⟩ := td_3 hw a1 (.val (.int c2)) c0 c1 c2 c3 c4 c5 c6 zC fm h0 n0 H2 I2 hx hZ hby hml hown J2 O0 HT_a1 S_COMPACT_STRINGS S_SIOOBE_FORMATTER S__assertionsDisabled S_HI_BYTE_SHIFT S_LO_BYTE_SHIFT h9_hz h9_hrfm
  by_cases u3 : c3 < (48 : Int32)
  · obtain ⟨T', L', X', N', e', st'⟩ := td_a hw a1 (0 : Int32) (4 : Int32) (3 : Int32) (.val (.int c2)) c3 h0 n0 C3 D3 hx hZ hby hml hown E3 O0 (Or.inr ⟨_, rfl⟩) u3
    exact ⟨T', L', (3 : Int32), _, X', N', e', fun target kt => (st0 _ (su0 _ (st1 _ (su1 _ (st2 _ (su2 _ (st3 _ (st' _ kt))))))))⟩
  by_cases v3 : (57 : Int32) < c3
  · obtain ⟨T', L', X', N', e', st'⟩ := td_b hw a1 (0 : Int32) (4 : Int32) (3 : Int32) (.val (.int c2)) c3 h0 n0 C3 D3 hx hZ hby hml hown E3 O0 (Or.inr ⟨_, rfl⟩) u3 v3
    exact ⟨T', L', (3 : Int32), _, X', N', e', fun target kt => (st0 _ (su0 _ (st1 _ (su1 _ (st2 _ (su2 _ (st3 _ (st' _ kt))))))))⟩
  exact absurd ⟨⟨u0, v0⟩, ⟨u1, v1⟩, ⟨u2, v2⟩, ⟨u3, v3⟩⟩ hbad
theorem d25_28 : decode prog_6_method_13_code 28 = .ok (.iconst 0, 1) := by decide +kernel
theorem d25_29 : decode prog_6_method_13_code 29 = .ok (.ireturn, 1) := by decide +kernel
def Q25a0F (Z : State) (a1 : Addr) (c0 c1 c2 c3 c4 c5 c6 zC : Int32) (fm : Value) (h0 : Heap) (n0 : Nat) (v : Option Value) (h : Heap) (L : List Loc) : Prop := v = some (.int 0) ∧ Fr n0 L ∧ h = h0
theorem rm25a0F (l : Launch) (Z : State) (a0 : Array Value) (hw : ∀ d ∈ tables_1, d.before a0 Z = true) (ws : List Jvm.Cond) (a1 : Addr) (c0 c1 c2 c3 c4 c5 c6 zC : Int32) (fm : Value) (h0 : Heap) (n0 : Nat) (O0 : Old Z n0 h0) (HT_a1 : own_Str Z h0 h0.size a1 [c0, c1, c2, c3, c4, c5, c6]) (S_COMPACT_STRINGS : Sta Z Z.heap "java/lang/String" "COMPACT_STRINGS" "Z" (.int zC)) (S_SIOOBE_FORMATTER : Sta Z Z.heap "jdk/internal/util/Preconditions" "SIOOBE_FORMATTER" "Ljava/util/function/BiFunction;" fm) (S__assertionsDisabled : Sta Z Z.heap "java/lang/StringUTF16" "$assertionsDisabled" "Z" (.int 1)) (S_HI_BYTE_SHIFT : Sta Z Z.heap "java/lang/StringUTF16" "HI_BYTE_SHIFT" "I" (.int 0)) (S_LO_BYTE_SHIFT : Sta Z Z.heap "java/lang/StringUTF16" "LO_BYTE_SHIFT" "I" (.int 8)) (h2_h9_hz : ¬ (zC = (0 : Int32))) (h2_h9_hrfm : fm.isRef = true) (h2_hbad : ¬ (own_dg c0 ∧ own_dg c1 ∧ own_dg c2 ∧ own_dg c3)) :
    own_C l Z (⟨"com/example/vestwright/vestwright/Values", "digits", "(Ljava/lang/String;II)Z"⟩ : MethodName) prog_6_method_13_code 5 (some .boolean) ws ({ frames := 7, cells := 0, slots := 0, locals := 140 } : Room) #[(.ref a1), (.int 0), (.int 4)] h0 (Q25a0F Z a1 c0 c1 c2 c3 c4 c5 c6 zC fm h0 n0) := by
  refine MetFree.of_bodySF (plainFor_of_name pnc_com_example_vestwright_vestwright_Values) hisR ?_
  intro p e s m args below meth c s₁ Bd hml0 hP hK
  obtain ⟨rfl, hZ, hh⟩ := hP
  have hx := Bd.exec
  have hby := Bd.bytes
  have hml : c.maxLocals = 5 := hml0
  have hown : s.vm.findClass "com/example/vestwright/vestwright/Values" = some m.cls := findClass_of_methodNamed Bd.named
  have hnm := (name_of_methodNamed Bd.named Bd.method).1
  have X0 : Stand p l e ({ frames := 7, cells := 0, slots := 0, locals := 140 } : Room) s m #[(.ref a1), (.int 0), (.int 4)] below meth c s₁ [] 0 0 := Stand.of_body Bd
  have e0 : s₁.heap = h0 := by rw [← hh, Bd.state]; rfl
  have N0 := Fr.nil n0
  have Z0 : n0 ≤ h0.size := O0.1 ▸ O0.2.1
  have pre0 : ∀ t, Steps p.tables e below (s₁.setTop (mkF m 0 #[.val (.ref a1), .val (.int 0), .val (.int 4), .unset, .unset] [])) t → Steps p.tables e below (s₁.setTop (entryFrame m #[(.ref a1), (.int 0), (.int 4)] 5)) t := fun t k => castTop (ef_25a__0___Int32____4___Int32__ m a1) k
  obtain ⟨T2, L2, k3, k4, X2, N2, e2, st2⟩ := td_F0 hw a1 ((.unset)) c0 c1 c2 c3 c4 c5 c6 zC fm h0 n0 X0 N0 hx hZ hby hml hown e0 O0 (own_Str.top HT_a1) S_COMPACT_STRINGS S_SIOOBE_FORMATTER S__assertionsDisabled S_HI_BYTE_SHIFT S_LO_BYTE_SHIFT h2_h9_hz h2_h9_hrfm h2_hbad (Or.inl rfl)
  obtain ⟨fs, hr, hrun, hended, hW, hsame⟩ := X2.leave (v := some (.int 0)) (fun h => by rw [Bd.returns] at h; cases h)
  refine ⟨_, _, pre0 _ ?_, hrun, hended, _, _, rfl, ?_, ⟨_, rfl⟩, hW, hsame.mono (by decide) (by decide)⟩
  · show Steps p.tables e below (s₁.setTop (mkF m 0 #[.val (.ref a1), .val (.int 0), .val (.int 4), .unset, .unset] [])) _
    refine XS.iloadN X0.here hx rfl (hb hby d25_0) rfl ?_
    refine XS.istoreN X0.here hx rfl (hb hby d25_1) rfl (l' := #[.val (.ref a1), .val (.int 0), .val (.int 4), .val (.int 0), .unset]) rfl ?_
    show Steps p.tables e below (s₁.setTop (mkF m 2 #[.val (.ref a1), .val (.int 0), .val (.int 4), .val (.int 0), .unset] [])) _
    refine st2 _ ?_
    refine XS.iconst X2.here hx rfl (hb hby d25_28) ?_
    exact retN X2 hx (t := .boolean) Bd.returns (by simp) (hb hby d25_29) hr
  · show Q25a0F Z a1 c0 c1 c2 c3 c4 c5 c6 zC fm h0 n0 _ T2.heap _
    rw [e2]
    exact ⟨rfl, N2, rfl⟩
theorem td_5 {p : Program} {l : Launch} {e : Env} {s : State} {m : MethodId} {args : Array Value} {below : List Frame} {meth : Method} {c : Code} {T0 : State} {locs : List Loc} {Z : State} {a0 : Array Value} (hw : ∀ d ∈ tables_1, d.before a0 Z = true) (a1 : Addr) (s4 : Slot) (c0 c1 c2 c3 c4 c5 c6 zC : Int32) (fm : Value) (h0 : Heap) (n0 : Nat) (X0 : Stand p l e ({ frames := 7, cells := 0, slots := 0, locals := 140 } : Room) s m args below meth c T0 locs 0 0) (N0 : Fr n0 locs) (hx : p.tables.exec = Jvm.exec) (hZ : Z.Warmed39 s.vm) (hby : c.code = prog_6_method_13_code) (hml : c.maxLocals = 5) (hown : s.vm.findClass "com/example/vestwright/vestwright/Values" = some m.cls) (e0 : T0.heap = h0) (O0 : Old Z n0 h0) (HT_a1 : own_Str Z h0 h0.size a1 [c0, c1, c2, c3, c4, c5, c6]) (S_COMPACT_STRINGS : Sta Z Z.heap "java/lang/String" "COMPACT_STRINGS" "Z" (.int zC)) (S_SIOOBE_FORMATTER : Sta Z Z.heap "jdk/internal/util/Preconditions" "SIOOBE_FORMATTER" "Ljava/util/function/BiFunction;" fm) (S__assertionsDisabled : Sta Z Z.heap "java/lang/StringUTF16" "$assertionsDisabled" "Z" (.int 1)) (S_HI_BYTE_SHIFT : Sta Z Z.heap "java/lang/StringUTF16" "HI_BYTE_SHIFT" "I" (.int 0)) (S_LO_BYTE_SHIFT : Sta Z Z.heap "java/lang/StringUTF16" "LO_BYTE_SHIFT" "I" (.int 8)) (h9_hz : ¬ (zC = (0 : Int32))) (h9_hrfm : fm.isRef = true) :
    ∃ (T' : State) (locs' : List Loc), Stand p l e ({ frames := 7, cells := 0, slots := 0, locals := 140 } : Room) s m args below meth c T' locs' 0 0 ∧ Fr n0 locs' ∧ T'.heap = h0 ∧
      ∀ target, Steps p.tables e below (T'.setTop (mkF m 12 #[.val (.ref a1), .val (.int 5), .val (.int 7), .val (.int 5), s4] [(.int c5)])) target → Steps p.tables e below (T0.setTop (mkF m 2 #[.val (.ref a1), .val (.int 5), .val (.int 7), .val (.int 5), s4] [])) target := by
  have Z0 : n0 ≤ h0.size := O0.1 ▸ O0.2.1
  obtain ⟨cq1, kq1, q1a, q1b, q1c⟩ := isOf hZ e0 (own_Str.exa HT_a1)
  obtain ⟨vr1, _, ⟨T1, L1, k1, n1⟩, -, X1, ⟨Lc1, hQ1, l1, y1, z1⟩, st1⟩ := X0.virtualBack hx (y := (⟨"java/lang/String", "charAt", "(I)C"⟩ : MethodName)) (z := (⟨"java/lang/String", "charAt", "(I)C"⟩ : MethodName)) hown (mvT hZ (own_w hw 71 rfl)) (mvT hZ (own_w hw 72 rfl)) (notFace_of_selects (args := #[]) (mvT hZ (own_w hw 74 rfl))) (mvT hZ (own_w hw 74 rfl)) (mvT hZ (own_w hw 73 rfl)) (by decide) (backOf (W := 0) (rm17i5 l Z a0 hw [] a1 c0 c1 c2 c3 c4 c5 c6 zC fm h0 n0 O0 (own_Str.top HT_a1) S_COMPACT_STRINGS S_SIOOBE_FORMATTER S__assertionsDisabled S_HI_BYTE_SHIFT S_LO_BYTE_SHIFT h9_hz h9_hrfm) hZ (own_w hw 75 rfl) (own_w hw 11 rfl) (by decide) (by decide)) q1a q1c (g := (mkF m 9 #[.val (.ref a1), .val (.int 5), .val (.int 7), .val (.int 5), s4] [(.int 5), (.ref a1)])) rfl (by rw [hml]; rfl) (Steps.refl _) (argsL := [(.int 5)]) (rest := []) (lenOf pd_7 rfl) rfl (by show 2 * 0 + _ ≤ _; exact Nat.le_of_eq rfl) (hb hby d25_9) (fun _ _ => ⟨rfl, e0, (by decide : 0 + 0 ≤ _), (by decide : 0 + 0 ≤ _)⟩)
  dsimp only [Pt.U, Pt.locs, Pt.cells, Pt.slots] at X1 l1 y1 z1 st1 hQ1
  subst l1 y1 z1
  obtain ⟨rfl, N1q, e1⟩ := hQ1
  have N1 := Fr.app N0 N1q
  replace X1 := X1.more (cells' := 0) (slots' := 0) (by decide) (by decide)
  refine ⟨T1, _, X1, N1, e1, fun target kt => ?_⟩
  show Steps p.tables e below (T0.setTop (mkF m 2 #[.val (.ref a1), .val (.int 5), .val (.int 7), .val (.int 5), s4] [])) _
  refine XS.iloadN X0.here hx rfl (hb hby d25_2) rfl ?_
  refine XS.iloadN X0.here hx rfl (hb hby d25_3) rfl ?_
  refine XS.icmpNo X0.here hx rfl (hb hby d25_4) rfl (tlt (by decide : (5 : Int32) < (7 : Int32))).2.1 ?_
  refine XS.aloadN X0.here hx rfl (hb hby d25_7) rfl rfl ?_
  refine XS.iloadN X0.here hx rfl (hb hby d25_8) rfl ?_
  refine st1.trans ?_
  exact kt
theorem td_6 {p : Program} {l : Launch} {e : Env} {s : State} {m : MethodId} {args : Array Value} {below : List Frame} {meth : Method} {c : Code} {T0 : State} {locs : List Loc} {Z : State} {a0 : Array Value} (hw : ∀ d ∈ tables_1, d.before a0 Z = true) (a1 : Addr) (s4 : Slot) (c0 c1 c2 c3 c4 c5 c6 zC : Int32) (fm : Value) (h0 : Heap) (n0 : Nat) (X0 : Stand p l e ({ frames := 7, cells := 0, slots := 0, locals := 140 } : Room) s m args below meth c T0 locs 0 0) (N0 : Fr n0 locs) (hx : p.tables.exec = Jvm.exec) (hZ : Z.Warmed39 s.vm) (hby : c.code = prog_6_method_13_code) (hml : c.maxLocals = 5) (hown : s.vm.findClass "com/example/vestwright/vestwright/Values" = some m.cls) (e0 : T0.heap = h0) (O0 : Old Z n0 h0) (HT_a1 : own_Str Z h0 h0.size a1 [c0, c1, c2, c3, c4, c5, c6]) (S_COMPACT_STRINGS : Sta Z Z.heap "java/lang/String" "COMPACT_STRINGS" "Z" (.int zC)) (S_SIOOBE_FORMATTER : Sta Z Z.heap "jdk/internal/util/Preconditions" "SIOOBE_FORMATTER" "Ljava/util/function/BiFunction;" fm) (S__assertionsDisabled : Sta Z Z.heap "java/lang/StringUTF16" "$assertionsDisabled" "Z" (.int 1)) (S_HI_BYTE_SHIFT : Sta Z Z.heap "java/lang/StringUTF16" "HI_BYTE_SHIFT" "I" (.int 0)) (S_LO_BYTE_SHIFT : Sta Z Z.heap "java/lang/StringUTF16" "LO_BYTE_SHIFT" "I" (.int 8)) (h9_hz : ¬ (zC = (0 : Int32))) (h9_hrfm : fm.isRef = true) :
    ∃ (T' : State) (locs' : List Loc), Stand p l e ({ frames := 7, cells := 0, slots := 0, locals := 140 } : Room) s m args below meth c T' locs' 0 0 ∧ Fr n0 locs' ∧ T'.heap = h0 ∧
      ∀ target, Steps p.tables e below (T'.setTop (mkF m 12 #[.val (.ref a1), .val (.int 5), .val (.int 7), .val (.int 6), s4] [(.int c6)])) target → Steps p.tables e below (T0.setTop (mkF m 2 #[.val (.ref a1), .val (.int 5), .val (.int 7), .val (.int 6), s4] [])) target := by
  have Z0 : n0 ≤ h0.size := O0.1 ▸ O0.2.1
  obtain ⟨cq1, kq1, q1a, q1b, q1c⟩ := isOf hZ e0 (own_Str.exa HT_a1)
  obtain ⟨vr1, _, ⟨T1, L1, k1, n1⟩, -, X1, ⟨Lc1, hQ1, l1, y1, z1⟩, st1⟩ := X0.virtualBack hx (y := (⟨"java/lang/String", "charAt", "(I)C"⟩ : MethodName)) (z := (⟨"java/lang/String", "charAt", "(I)C"⟩ : MethodName)) hown (mvT hZ (own_w hw 71 rfl)) (mvT hZ (own_w hw 72 rfl)) (notFace_of_selects (args := #[]) (mvT hZ (own_w hw 74 rfl))) (mvT hZ (own_w hw 74 rfl)) (mvT hZ (own_w hw 73 rfl)) (by decide) (backOf (W := 0) (rm17i6 l Z a0 hw [] a1 c0 c1 c2 c3 c4 c5 c6 zC fm h0 n0 O0 (own_Str.top HT_a1) S_COMPACT_STRINGS S_SIOOBE_FORMATTER S__assertionsDisabled S_HI_BYTE_SHIFT S_LO_BYTE_SHIFT h9_hz h9_hrfm) hZ (own_w hw 75 rfl) (own_w hw 11 rfl) (by decide) (by decide)) q1a q1c (g := (mkF m 9 #[.val (.ref a1), .val (.int 5), .val (.int 7), .val (.int 6), s4] [(.int 6), (.ref a1)])) rfl (by rw [hml]; rfl) (Steps.refl _) (argsL := [(.int 6)]) (rest := []) (lenOf pd_7 rfl) rfl (by show 2 * 0 + _ ≤ _; exact Nat.le_of_eq rfl) (hb hby d25_9) (fun _ _ => ⟨rfl, e0, (by decide : 0 + 0 ≤ _), (by decide : 0 + 0 ≤ _)⟩)
  dsimp only [Pt.U, Pt.locs, Pt.cells, Pt.slots] at X1 l1 y1 z1 st1 hQ1
  subst l1 y1 z1
  obtain ⟨rfl, N1q, e1⟩ := hQ1
  have N1 := Fr.app N0 N1q
  replace X1 := X1.more (cells' := 0) (slots' := 0) (by decide) (by decide)
  refine ⟨T1, _, X1, N1, e1, fun target kt => ?_⟩
  show Steps p.tables e below (T0.setTop (mkF m 2 #[.val (.ref a1), .val (.int 5), .val (.int 7), .val (.int 6), s4] [])) _
  refine XS.iloadN X0.here hx rfl (hb hby d25_2) rfl ?_
  refine XS.iloadN X0.here hx rfl (hb hby d25_3) rfl ?_
  refine XS.icmpNo X0.here hx rfl (hb hby d25_4) rfl (tlt (by decide : (6 : Int32) < (7 : Int32))).2.1 ?_
  refine XS.aloadN X0.here hx rfl (hb hby d25_7) rfl rfl ?_
  refine XS.iloadN X0.here hx rfl (hb hby d25_8) rfl ?_
  refine st1.trans ?_
  exact kt
def Q25a5T (Z : State) (a1 : Addr) (c0 c1 c2 c3 c4 c5 c6 zC : Int32) (fm : Value) (h0 : Heap) (n0 : Nat) (v : Option Value) (h : Heap) (L : List Loc) : Prop := v = some (.int 1) ∧ Fr n0 L ∧ h = h0
theorem ef_25a__5___Int32____7___Int32__ (m : MethodId) (x0 : Addr) : entryFrame m #[(.ref x0), (.int 5), (.int 7)] 5 = mkF m 0 #[.val (.ref x0), .val (.int 5), .val (.int 7), .unset, .unset] [] := by first | (simp [entryFrame, mkF, argsToLocals, Value.category]; done) | rfl
theorem rm25a5T (l : Launch) (Z : State) (a0 : Array Value) (hw : ∀ d ∈ tables_1, d.before a0 Z = true) (ws : List Jvm.Cond) (a1 : Addr) (c0 c1 c2 c3 c4 c5 c6 zC : Int32) (fm : Value) (h0 : Heap) (n0 : Nat) (O0 : Old Z n0 h0) (HT_a1 : own_Str Z h0 h0.size a1 [c0, c1, c2, c3, c4, c5, c6]) (S_COMPACT_STRINGS : Sta Z Z.heap "java/lang/String" "COMPACT_STRINGS" "Z" (.int zC)) (S_SIOOBE_FORMATTER : Sta Z Z.heap "jdk/internal/util/Preconditions" "SIOOBE_FORMATTER" "Ljava/util/function/BiFunction;" fm) (S__assertionsDisabled : Sta Z Z.heap "java/lang/StringUTF16" "$assertionsDisabled" "Z" (.int 1)) (S_HI_BYTE_SHIFT : Sta Z Z.heap "java/lang/StringUTF16" "HI_BYTE_SHIFT" "I" (.int 0)) (S_LO_BYTE_SHIFT : Sta Z Z.heap "java/lang/StringUTF16" "LO_BYTE_SHIFT" "I" (.int 8)) (h2_h9_hz : ¬ (zC = (0 : Int32))) (h2_h9_hrfm : fm.isRef = true) (h12_hc18 : ¬ (c5 < (48 : Int32))) (h12_hc25 : ¬ ((57 : Int32) < c5)) (h12_hc18_1 : ¬ (c6 < (48 : Int32))) (h12_hc25_1 : ¬ ((57 : Int32) < c6)) :
    own_C l Z (⟨"com/example/vestwright/vestwright/Values", "digits", "(Ljava/lang/String;II)Z"⟩ : MethodName) prog_6_method_13_code 5 (some .boolean) ws ({ frames := 7, cells := 0, slots := 0, locals := 140 } : Room) #[(.ref a1), (.int 5), (.int 7)] h0 (Q25a5T Z a1 c0 c1 c2 c3 c4 c5 c6 zC fm h0 n0) := by
  refine MetFree.of_bodySF (plainFor_of_name pnc_com_example_vestwright_vestwright_Values) hisR ?_
  intro p e s m args below meth c s₁ Bd hml0 hP hK
  obtain ⟨rfl, hZ, hh⟩ := hP
  have hx := Bd.exec
  have hby := Bd.bytes
  have hml : c.maxLocals = 5 := hml0
  have hown : s.vm.findClass "com/example/vestwright/vestwright/Values" = some m.cls := findClass_of_methodNamed Bd.named
  have hnm := (name_of_methodNamed Bd.named Bd.method).1
  have X0 : Stand p l e ({ frames := 7, cells := 0, slots := 0, locals := 140 } : Room) s m #[(.ref a1), (.int 5), (.int 7)] below meth c s₁ [] 0 0 := Stand.of_body Bd
  have e0 : s₁.heap = h0 := by rw [← hh, Bd.state]; rfl
  have N0 := Fr.nil n0
  have Z0 : n0 ≤ h0.size := O0.1 ▸ O0.2.1
  have pre0 : ∀ t, Steps p.tables e below (s₁.setTop (mkF m 0 #[.val (.ref a1), .val (.int 5), .val (.int 7), .unset, .unset] [])) t → Steps p.tables e below (s₁.setTop (entryFrame m #[(.ref a1), (.int 5), (.int 7)] 5)) t := fun t k => castTop (ef_25a__5___Int32____7___Int32__ m a1) k
  obtain ⟨T2, L2, X2, N2, e2, st2⟩ := td_5 hw a1 ((.unset)) c0 c1 c2 c3 c4 c5 c6 zC fm h0 n0 X0 N0 hx hZ hby hml hown e0 O0 (own_Str.top HT_a1) S_COMPACT_STRINGS S_SIOOBE_FORMATTER S__assertionsDisabled S_HI_BYTE_SHIFT S_LO_BYTE_SHIFT h2_h9_hz h2_h9_hrfm
  obtain ⟨T3, L3, X3, N3, e3, st3⟩ := td_p hw a1 ((5 : Int32)) ((7 : Int32)) ((5 : Int32)) ((.unset)) c5 h0 n0 X2 N2 hx hZ hby hml hown e2 O0 (Or.inl rfl) h12_hc18 h12_hc25
  obtain ⟨T4, L4, X4, N4, e4, st4⟩ := td_6 hw a1 ((.val (.int c5))) c0 c1 c2 c3 c4 c5 c6 zC fm h0 n0 X3 N3 hx hZ hby hml hown e3 O0 (own_Str.top HT_a1) S_COMPACT_STRINGS S_SIOOBE_FORMATTER S__assertionsDisabled S_HI_BYTE_SHIFT S_LO_BYTE_SHIFT h2_h9_hz h2_h9_hrfm
  obtain ⟨T5, L5, X5, N5, e5, st5⟩ := td_p hw a1 ((5 : Int32)) ((7 : Int32)) ((6 : Int32)) ((.val (.int c5))) c6 h0 n0 X4 N4 hx hZ hby hml hown e4 O0 (Or.inr ⟨_, rfl⟩) h12_hc18_1 h12_hc25_1
  obtain ⟨fs, hr, hrun, hended, hW, hsame⟩ := X5.leave (v := some (.int 1)) (fun h => by rw [Bd.returns] at h; cases h)
  refine ⟨_, _, pre0 _ ?_, hrun, hended, _, _, rfl, ?_, ⟨_, rfl⟩, hW, hsame.mono (by decide) (by decide)⟩
  · show Steps p.tables e below (s₁.setTop (mkF m 0 #[.val (.ref a1), .val (.int 5), .val (.int 7), .unset, .unset] [])) _
    refine XS.iloadN X0.here hx rfl (hb hby d25_0) rfl ?_
    refine XS.istoreN X0.here hx rfl (hb hby d25_1) rfl (l' := #[.val (.ref a1), .val (.int 5), .val (.int 7), .val (.int 5), .unset]) rfl ?_
    show Steps p.tables e below (s₁.setTop (mkF m 2 #[.val (.ref a1), .val (.int 5), .val (.int 7), .val (.int 5), .unset] [])) _
    refine st2 _ ?_
    show Steps p.tables e below (T2.setTop (mkF m 12 #[.val (.ref a1), .val (.int 5), .val (.int 7), .val (.int 5), .unset] [(.int c5)])) _
    refine st3 _ ?_
    show Steps p.tables e below (T3.setTop (mkF m 2 #[.val (.ref a1), .val (.int 5), .val (.int 7), .val (.int 6), .val (.int c5)] [])) _
    refine st4 _ ?_
    show Steps p.tables e below (T4.setTop (mkF m 12 #[.val (.ref a1), .val (.int 5), .val (.int 7), .val (.int 6), .val (.int c5)] [(.int c6)])) _
    refine st5 _ ?_
    show Steps p.tables e below (T5.setTop (mkF m 2 #[.val (.ref a1), .val (.int 5), .val (.int 7), .val (.int 7), .val (.int c6)] [])) _
    refine XS.iloadN X5.here hx rfl (hb hby d25_2) rfl ?_
    refine XS.iloadN X5.here hx rfl (hb hby d25_3) rfl ?_
    refine XS.icmpYes X5.here hx rfl (pc0 := 4) (pc' := 36) rfl (hb hby d25_4) rfl (flt (by decide : ¬ ((7 : Int32) < (7 : Int32)))).2.1 (by decide) (by decide) ?_
    refine XS.iconst X5.here hx rfl (hb hby d25_36) ?_
    exact retN X5 hx (t := .boolean) Bd.returns (by simp) (hb hby d25_37) hr
  · show Q25a5T Z a1 c0 c1 c2 c3 c4 c5 c6 zC fm h0 n0 _ T5.heap _
    rw [e5]
    exact ⟨rfl, N5, rfl⟩
def Q27a5 (Z : State) (a1 : Addr) (c0 c1 c2 c3 c4 c5 c6 zC : Int32) (fm : Value) (h0 : Heap) (n0 : Nat) (v : Option Value) (h : Heap) (L : List Loc) : Prop := v = some (.int ((((0 : Int32) + (c5 - (48 : Int32))) * (10 : Int32)) + (c6 - (48 : Int32)))) ∧ Fr n0 L ∧ h = h0
theorem ef_27a__5___Int32____7___Int32__ (m : MethodId) (x0 : Addr) : entryFrame m #[(.ref x0), (.int 5), (.int 7)] 5 = mkF m 0 #[.val (.ref x0), .val (.int 5), .val (.int 7), .unset, .unset] [] := by first | (simp [entryFrame, mkF, argsToLocals, Value.category]; done) | rfl
theorem rm27a5 (l : Launch) (Z : State) (a0 : Array Value) (hw : ∀ d ∈ tables_1, d.before a0 Z = true) (ws : List Jvm.Cond) (a1 : Addr) (c0 c1 c2 c3 c4 c5 c6 zC : Int32) (fm : Value) (h0 : Heap) (n0 : Nat) (O0 : Old Z n0 h0) (HT_a1 : own_Str Z h0 h0.size a1 [c0, c1, c2, c3, c4, c5, c6]) (S_COMPACT_STRINGS : Sta Z Z.heap "java/lang/String" "COMPACT_STRINGS" "Z" (.int zC)) (S_SIOOBE_FORMATTER : Sta Z Z.heap "jdk/internal/util/Preconditions" "SIOOBE_FORMATTER" "Ljava/util/function/BiFunction;" fm) (S__assertionsDisabled : Sta Z Z.heap "java/lang/StringUTF16" "$assertionsDisabled" "Z" (.int 1)) (S_HI_BYTE_SHIFT : Sta Z Z.heap "java/lang/StringUTF16" "HI_BYTE_SHIFT" "I" (.int 0)) (S_LO_BYTE_SHIFT : Sta Z Z.heap "java/lang/StringUTF16" "LO_BYTE_SHIFT" "I" (.int 8)) (h18_hz : ¬ (zC = (0 : Int32))) (h18_hrfm : fm.isRef = true) :
    own_C l Z (⟨"com/example/vestwright/vestwright/Values", "number", "(Ljava/lang/String;II)I"⟩ : MethodName) prog_6_method_12_code 5 (some .int) ws ({ frames := 7, cells := 0, slots := 0, locals := 140 } : Room) #[(.ref a1), (.int 5), (.int 7)] h0 (Q27a5 Z a1 c0 c1 c2 c3 c4 c5 c6 zC fm h0 n0) := by
  refine MetFree.of_bodySF (plainFor_of_name pnc_com_example_vestwright_vestwright_Values) hisR ?_
  intro p e s m args below meth c s₁ Bd hml0 hP hK
  obtain ⟨rfl, hZ, hh⟩ := hP
  have hx := Bd.exec
  have hby := Bd.bytes
  have hml : c.maxLocals = 5 := hml0
  have hown : s.vm.findClass "com/example/vestwright/vestwright/Values" = some m.cls := findClass_of_methodNamed Bd.named
  have hnm := (name_of_methodNamed Bd.named Bd.method).1
  have X0 : Stand p l e ({ frames := 7, cells := 0, slots := 0, locals := 140 } : Room) s m #[(.ref a1), (.int 5), (.int 7)] below meth c s₁ [] 0 0 := Stand.of_body Bd
  have e0 : s₁.heap = h0 := by rw [← hh, Bd.state]; rfl
  have N0 := Fr.nil n0
  have Z0 : n0 ≤ h0.size := O0.1 ▸ O0.2.1
  have pre0 : ∀ t, Steps p.tables e below (s₁.setTop (mkF m 0 #[.val (.ref a1), .val (.int 5), .val (.int 7), .unset, .unset] [])) t → Steps p.tables e below (s₁.setTop (entryFrame m #[(.ref a1), (.int 5), (.int 7)] 5)) t := fun t k => castTop (ef_27a__5___Int32____7___Int32__ m a1) k
  obtain ⟨cq2, kq2, q2a, q2b, q2c⟩ := isOf hZ e0 (own_Str.exa HT_a1)
  obtain ⟨vr2, _, ⟨T2, L2, k2, n2⟩, -, X2, ⟨Lc2, hQ2, l2, y2, z2⟩, st2⟩ := X0.virtualBack hx (y := (⟨"java/lang/String", "charAt", "(I)C"⟩ : MethodName)) (z := (⟨"java/lang/String", "charAt", "(I)C"⟩ : MethodName)) hown (mvT hZ (own_w hw 71 rfl)) (mvT hZ (own_w hw 72 rfl)) (notFace_of_selects (args := #[]) (mvT hZ (own_w hw 74 rfl))) (mvT hZ (own_w hw 74 rfl)) (mvT hZ (own_w hw 73 rfl)) (by decide) (backOf (W := 1) (rm17i5 l Z a0 hw [] a1 c0 c1 c2 c3 c4 c5 c6 zC fm h0 n0 O0 (own_Str.top HT_a1) S_COMPACT_STRINGS S_SIOOBE_FORMATTER S__assertionsDisabled S_HI_BYTE_SHIFT S_LO_BYTE_SHIFT h18_hz h18_hrfm) hZ (own_w hw 75 rfl) (own_w hw 11 rfl) (by decide) (by decide)) q2a q2c (g := (mkF m 18 #[.val (.ref a1), .val (.int 5), .val (.int 7), .val (.int 0), .val (.int 5)] [(.int 5), (.ref a1), (.int 0)])) rfl (by rw [hml]; rfl) (Steps.refl _) (argsL := [(.int 5)]) (rest := [(.int 0)]) (lenOf pd_7 rfl) rfl (by show 2 * 0 + _ ≤ _; exact Nat.le_of_eq rfl) (hb hby d27_18) (fun _ _ => ⟨rfl, e0, (by decide : 0 + 0 ≤ _), (by decide : 0 + 0 ≤ _)⟩)
  dsimp only [Pt.U, Pt.locs, Pt.cells, Pt.slots] at X2 l2 y2 z2 st2 hQ2
  subst l2 y2 z2
  obtain ⟨rfl, N2q, e2⟩ := hQ2
  have N2 := Fr.app N0 N2q
  replace X2 := X2.more (cells' := 0) (slots' := 0) (by decide) (by decide)
  obtain ⟨cq3, kq3, q3a, q3b, q3c⟩ := isOf hZ e2 (own_Str.exa HT_a1)
  obtain ⟨vr3, _, ⟨T3, L3, k3, n3⟩, -, X3, ⟨Lc3, hQ3, l3, y3, z3⟩, st3⟩ := X2.virtualBack hx (y := (⟨"java/lang/String", "charAt", "(I)C"⟩ : MethodName)) (z := (⟨"java/lang/String", "charAt", "(I)C"⟩ : MethodName)) hown (mvT hZ (own_w hw 71 rfl)) (mvT hZ (own_w hw 72 rfl)) (notFace_of_selects (args := #[]) (mvT hZ (own_w hw 74 rfl))) (mvT hZ (own_w hw 74 rfl)) (mvT hZ (own_w hw 73 rfl)) (by decide) (backOf (W := 1) (rm17i6 l Z a0 hw [] a1 c0 c1 c2 c3 c4 c5 c6 zC fm h0 n0 O0 (own_Str.top HT_a1) S_COMPACT_STRINGS S_SIOOBE_FORMATTER S__assertionsDisabled S_HI_BYTE_SHIFT S_LO_BYTE_SHIFT h18_hz h18_hrfm) hZ (own_w hw 75 rfl) (own_w hw 11 rfl) (by decide) (by decide)) q3a q3c (g := (mkF m 18 #[.val (.ref a1), .val (.int 5), .val (.int 7), .val (.int ((0 : Int32) + (c5 - (48 : Int32)))), .val (.int 6)] [(.int 6), (.ref a1), (.int (((0 : Int32) + (c5 - (48 : Int32))) * (10 : Int32)))])) rfl (by rw [hml]; rfl) (Steps.refl _) (argsL := [(.int 6)]) (rest := [(.int (((0 : Int32) + (c5 - (48 : Int32))) * (10 : Int32)))]) (lenOf pd_7 rfl) rfl (by show 2 * 0 + _ ≤ _; exact Nat.le_of_eq rfl) (hb hby d27_18) (fun _ _ => ⟨rfl, e2, (by decide : 0 + 0 ≤ _), (by decide : 0 + 0 ≤ _)⟩)
  dsimp only [Pt.U, Pt.locs, Pt.cells, Pt.slots] at X3 l3 y3 z3 st3 hQ3
  subst l3 y3 z3
  obtain ⟨rfl, N3q, e3⟩ := hQ3
  have N3 := Fr.app N2 N3q
  replace X3 := X3.more (cells' := 0) (slots' := 0) (by decide) (by decide)
  obtain ⟨fs, hr, hrun, hended, hW, hsame⟩ := X3.leave (v := some (.int ((((0 : Int32) + (c5 - (48 : Int32))) * (10 : Int32)) + (c6 - (48 : Int32))))) (fun h => by rw [Bd.returns] at h; cases h)
  refine ⟨_, _, pre0 _ ?_, hrun, hended, _, _, rfl, ?_, ⟨_, rfl⟩, hW, hsame.mono (by decide) (by decide)⟩
  · show Steps p.tables e below (s₁.setTop (mkF m 0 #[.val (.ref a1), .val (.int 5), .val (.int 7), .unset, .unset] [])) _
    refine XS.iconst X0.here hx rfl (hb hby d27_0) ?_
    refine XS.istoreN X0.here hx rfl (hb hby d27_1) rfl (l' := #[.val (.ref a1), .val (.int 5), .val (.int 7), .val (.int 0), .unset]) rfl ?_
    refine XS.iloadN X0.here hx rfl (hb hby d27_2) rfl ?_
    refine XS.istore X0.here hx rfl (hb hby d27_3) rfl (l' := #[.val (.ref a1), .val (.int 5), .val (.int 7), .val (.int 0), .val (.int 5)]) rfl ?_
    refine XS.iload X0.here hx rfl (hb hby d27_5) rfl ?_
    refine XS.iloadN X0.here hx rfl (hb hby d27_7) rfl ?_
    refine XS.icmpNo X0.here hx rfl (hb hby d27_8) rfl (tlt (by decide : (5 : Int32) < (7 : Int32))).2.1 ?_
    show Steps p.tables e below (s₁.setTop (mkF m 11 #[.val (.ref a1), .val (.int 5), .val (.int 7), .val (.int 0), .val (.int 5)] [])) _
    refine XS.iloadN X0.here hx rfl (hb hby d27_11) rfl ?_
    refine XS.bipush X0.here hx rfl (hb hby d27_12) ?_
    refine XS.imul X0.here hx rfl (hb hby d27_14) rfl ?_
    refine XS.aloadN X0.here hx rfl (hb hby d27_15) rfl rfl ?_
    refine XS.iload X0.here hx rfl (hb hby d27_16) rfl ?_
    refine st2.trans ?_
    refine XS.bipush X2.here hx rfl (hb hby d27_21) ?_
    refine XS.isub X2.here hx rfl (hb hby d27_23) rfl ?_
    refine XS.iadd X2.here hx rfl (hb hby d27_24) rfl ?_
    refine XS.istoreN X2.here hx rfl (hb hby d27_25) rfl (l' := #[.val (.ref a1), .val (.int 5), .val (.int 7), .val (.int ((0 : Int32) + (c5 - (48 : Int32)))), .val (.int 5)]) rfl ?_
    refine XS.iinc X2.here hx rfl (hb hby d27_26) rfl (l' := #[.val (.ref a1), .val (.int 5), .val (.int 7), .val (.int ((0 : Int32) + (c5 - (48 : Int32)))), .val (.int 6)]) rfl ?_
    refine XS.goto X2.here hx rfl (pc0 := 29) (pc' := 5) rfl (hb hby d27_29) (by decide) (by decide) ?_
    show Steps p.tables e below (T2.setTop (mkF m 5 #[.val (.ref a1), .val (.int 5), .val (.int 7), .val (.int ((0 : Int32) + (c5 - (48 : Int32)))), .val (.int 6)] [])) _
    refine XS.iload X2.here hx rfl (hb hby d27_5) rfl ?_
    refine XS.iloadN X2.here hx rfl (hb hby d27_7) rfl ?_
    refine XS.icmpNo X2.here hx rfl (hb hby d27_8) rfl (tlt (by decide : (6 : Int32) < (7 : Int32))).2.1 ?_
    refine XS.iloadN X2.here hx rfl (hb hby d27_11) rfl ?_
    refine XS.bipush X2.here hx rfl (hb hby d27_12) ?_
    refine XS.imul X2.here hx rfl (hb hby d27_14) rfl ?_
    refine XS.aloadN X2.here hx rfl (hb hby d27_15) rfl rfl ?_
    show Steps p.tables e below (T2.setTop (mkF m 16 #[.val (.ref a1), .val (.int 5), .val (.int 7), .val (.int ((0 : Int32) + (c5 - (48 : Int32)))), .val (.int 6)] [(.ref a1), (.int (((0 : Int32) + (c5 - (48 : Int32))) * (10 : Int32)))])) _
    refine XS.iload X2.here hx rfl (hb hby d27_16) rfl ?_
    refine st3.trans ?_
    refine XS.bipush X3.here hx rfl (hb hby d27_21) ?_
    refine XS.isub X3.here hx rfl (hb hby d27_23) rfl ?_
    refine XS.iadd X3.here hx rfl (hb hby d27_24) rfl ?_
    refine XS.istoreN X3.here hx rfl (hb hby d27_25) rfl (l' := #[.val (.ref a1), .val (.int 5), .val (.int 7), .val (.int ((((0 : Int32) + (c5 - (48 : Int32))) * (10 : Int32)) + (c6 - (48 : Int32)))), .val (.int 6)]) rfl ?_
    refine XS.iinc X3.here hx rfl (hb hby d27_26) rfl (l' := #[.val (.ref a1), .val (.int 5), .val (.int 7), .val (.int ((((0 : Int32) + (c5 - (48 : Int32))) * (10 : Int32)) + (c6 - (48 : Int32)))), .val (.int 7)]) rfl ?_
    refine XS.goto X3.here hx rfl (pc0 := 29) (pc' := 5) rfl (hb hby d27_29) (by decide) (by decide) ?_
    show Steps p.tables e below (T3.setTop (mkF m 5 #[.val (.ref a1), .val (.int 5), .val (.int 7), .val (.int ((((0 : Int32) + (c5 - (48 : Int32))) * (10 : Int32)) + (c6 - (48 : Int32)))), .val (.int 7)] [])) _
    refine XS.iload X3.here hx rfl (hb hby d27_5) rfl ?_
    refine XS.iloadN X3.here hx rfl (hb hby d27_7) rfl ?_
    refine XS.icmpYes X3.here hx rfl (pc0 := 8) (pc' := 32) rfl (hb hby d27_8) rfl (flt (by decide : ¬ ((7 : Int32) < (7 : Int32)))).2.1 (by decide) (by decide) ?_
    refine XS.iloadN X3.here hx rfl (hb hby d27_32) rfl ?_
    exact own_retI X3 hx Bd.returns (hb hby d27_33) hr
  · show Q27a5 Z a1 c0 c1 c2 c3 c4 c5 c6 zC fm h0 n0 _ T3.heap _
    rw [e3]
    exact ⟨rfl, N3, rfl⟩
theorem td_F5 {p : Program} {l : Launch} {e : Env} {s : State} {m : MethodId} {args : Array Value} {below : List Frame} {meth : Method} {c : Code} {T0 : State} {locs : List Loc} {Z : State} {a0 : Array Value} (hw : ∀ d ∈ tables_1, d.before a0 Z = true) (a1 : Addr) (s4 : Slot) (c0 c1 c2 c3 c4 c5 c6 zC : Int32) (fm : Value) (h0 : Heap) (n0 : Nat) (X0 : Stand p l e ({ frames := 7, cells := 0, slots := 0, locals := 140 } : Room) s m args below meth c T0 locs 0 0) (N0 : Fr n0 locs) (hx : p.tables.exec = Jvm.exec) (hZ : Z.Warmed39 s.vm) (hby : c.code = prog_6_method_13_code) (hml : c.maxLocals = 5) (hown : s.vm.findClass "com/example/vestwright/vestwright/Values" = some m.cls) (e0 : T0.heap = h0) (O0 : Old Z n0 h0) (HT_a1 : own_Str Z h0 h0.size a1 [c0, c1, c2, c3, c4, c5, c6]) (S_COMPACT_STRINGS : Sta Z Z.heap "java/lang/String" "COMPACT_STRINGS" "Z" (.int zC)) (S_SIOOBE_FORMATTER : Sta Z Z.heap "jdk/internal/util/Preconditions" "SIOOBE_FORMATTER" "Ljava/util/function/BiFunction;" fm) (S__assertionsDisabled : Sta Z Z.heap "java/lang/StringUTF16" "$assertionsDisabled" "Z" (.int 1)) (S_HI_BYTE_SHIFT : Sta Z Z.heap "java/lang/StringUTF16" "HI_BYTE_SHIFT" "I" (.int 0)) (S_LO_BYTE_SHIFT : Sta Z Z.heap "java/lang/StringUTF16" "LO_BYTE_SHIFT" "I" (.int 8)) (h9_hz : ¬ (zC = (0 : Int32))) (h9_hrfm : fm.isRef = true) (hbad : ¬ (own_dg c5 ∧ own_dg c6)) (hs4 : own_one s4) :
    ∃ (T' : State) (locs' : List Loc) (yy : Int32) (s5 : Slot), Stand p l e ({ frames := 7, cells := 0, slots := 0, locals := 140 } : Room) s m args below meth c T' locs' 0 0 ∧ Fr n0 locs' ∧ T'.heap = h0 ∧ ∀ target, Steps p.tables e below (T'.setTop (mkF m 28 #[.val (.ref a1), .val (.int 5), .val (.int 7), .val (.int yy), s5] [])) target → Steps p.tables e below (T0.setTop (mkF m 2 #[.val (.ref a1), .val (.int 5), .val (.int 7), .val (.int 5), s4] [])) target := by
  obtain ⟨A5, B5, C5, D5, E5, st5⟩ := td_5 hw a1 s4 c0 c1 c2 c3 c4 c5 c6 zC fm h0 n0 X0 N0 hx hZ hby hml hown e0 O0 HT_a1 S_COMPACT_STRINGS S_SIOOBE_FORMATTER S__assertionsDisabled S_HI_BYTE_SHIFT S_LO_BYTE_SHIFT h9_hz h9_hrfm
  by_cases u5 : c5 < (48 : Int32)
  · obtain ⟨T', L', X', N', e', st'⟩ := td_a hw a1 (5 : Int32) (7 : Int32) (5 : Int32) s4 c5 h0 n0 C5 D5 hx hZ hby hml hown E5 O0 hs4 u5
    exact ⟨T', L', (5 : Int32), _, X', N', e', fun target kt => (st5 _ (st' _ kt))⟩
  by_cases v5 : (57 : Int32) < c5
  · obtain ⟨T', L', X', N', e', st'⟩ := td_b hw a1 (5 : Int32) (7 : Int32) (5 : Int32) s4 c5 h0 n0 C5 D5 hx hZ hby hml hown E5 O0 hs4 u5 v5
    exact ⟨T', L', (5 : Int32), _, X', N', e', fun target kt => (st5 _ (st' _ kt))⟩
  obtain ⟨F5, G5, H5, I5, J5, su5⟩ := td_p hw a1 (5 : Int32) (7 : Int32) (5 : Int32) s4 c5 h0 n0 C5 D5 hx hZ hby hml hown E5 O0 hs4 u5 v5
  obtain ⟨A6, B6, C6, D6, E6, st6⟩ := td_6 hw a1 (.val (.int c5)) c0 c1 c2 c3 c4 c5 c6 zC fm h0 n0 H5 I5 hx hZ hby hml hown J5 O0 HT_a1 S_COMPACT_STRINGS S_SIOOBE_FORMATTER S__assertionsDisabled S_HI_BYTE_SHIFT S_LO_BYTE_SHIFT h9_hz h9_hrfm
  by_cases u6 : c6 < (48 : Int32)
  · obtain ⟨T', L', X', N', e', st'⟩ := td_a hw a1 (5 : Int32) (7 : Int32) (6 : Int32) (.val (.int c5)) c6 h0 n0 C6 D6 hx hZ hby hml hown E6 O0 (Or.inr ⟨_, rfl⟩) u6
    exact ⟨T', L', (6 : Int32), _, X', N', e', fun target kt => (st5 _ (su5 _ (st6 _ (st' _ kt))))⟩
  by_cases v6 : (57 : Int32) < c6
  · obtain ⟨T', L', X', N', e', st'⟩ := td_b hw a1 (5 : Int32) (7 : Int32) (6 : Int32) (.val (.int c5)) c6 h0 n0 C6 D6 hx hZ hby hml hown E6 O0 (Or.inr ⟨_, rfl⟩) u6 v6
    exact ⟨T', L', (6 : Int32), _, X', N', e', fun target kt => (st5 _ (su5 _ (st6 _ (st' _ kt))))⟩
  exact absurd ⟨⟨u5, v5⟩, ⟨u6, v6⟩⟩ hbad
def Q25a5F (Z : State) (a1 : Addr) (c0 c1 c2 c3 c4 c5 c6 zC : Int32) (fm : Value) (h0 : Heap) (n0 : Nat) (v : Option Value) (h : Heap) (L : List Loc) : Prop := v = some (.int 0) ∧ Fr n0 L ∧ h = h0
theorem rm25a5F (l : Launch) (Z : State) (a0 : Array Value) (hw : ∀ d ∈ tables_1, d.before a0 Z = true) (ws : List Jvm.Cond) (a1 : Addr) (c0 c1 c2 c3 c4 c5 c6 zC : Int32) (fm : Value) (h0 : Heap) (n0 : Nat) (O0 : Old Z n0 h0) (HT_a1 : own_Str Z h0 h0.size a1 [c0, c1, c2, c3, c4, c5, c6]) (S_COMPACT_STRINGS : Sta Z Z.heap "java/lang/String" "COMPACT_STRINGS" "Z" (.int zC)) (S_SIOOBE_FORMATTER : Sta Z Z.heap "jdk/internal/util/Preconditions" "SIOOBE_FORMATTER" "Ljava/util/function/BiFunction;" fm) (S__assertionsDisabled : Sta Z Z.heap "java/lang/StringUTF16" "$assertionsDisabled" "Z" (.int 1)) (S_HI_BYTE_SHIFT : Sta Z Z.heap "java/lang/StringUTF16" "HI_BYTE_SHIFT" "I" (.int 0)) (S_LO_BYTE_SHIFT : Sta Z Z.heap "java/lang/StringUTF16" "LO_BYTE_SHIFT" "I" (.int 8)) (h2_h9_hz : ¬ (zC = (0 : Int32))) (h2_h9_hrfm : fm.isRef = true) (h2_hbad : ¬ (own_dg c5 ∧ own_dg c6)) :
    own_C l Z (⟨"com/example/vestwright/vestwright/Values", "digits", "(Ljava/lang/String;II)Z"⟩ : MethodName) prog_6_method_13_code 5 (some .boolean) ws ({ frames := 7, cells := 0, slots := 0, locals := 140 } : Room) #[(.ref a1), (.int 5), (.int 7)] h0 (Q25a5F Z a1 c0 c1 c2 c3 c4 c5 c6 zC fm h0 n0) := by
  refine MetFree.of_bodySF (plainFor_of_name pnc_com_example_vestwright_vestwright_Values) hisR ?_
  intro p e s m args below meth c s₁ Bd hml0 hP hK
  obtain ⟨rfl, hZ, hh⟩ := hP
  have hx := Bd.exec
  have hby := Bd.bytes
  have hml : c.maxLocals = 5 := hml0
  have hown : s.vm.findClass "com/example/vestwright/vestwright/Values" = some m.cls := findClass_of_methodNamed Bd.named
  have hnm := (name_of_methodNamed Bd.named Bd.method).1
  have X0 : Stand p l e ({ frames := 7, cells := 0, slots := 0, locals := 140 } : Room) s m #[(.ref a1), (.int 5), (.int 7)] below meth c s₁ [] 0 0 := Stand.of_body Bd
  have e0 : s₁.heap = h0 := by rw [← hh, Bd.state]; rfl
  have N0 := Fr.nil n0
  have Z0 : n0 ≤ h0.size := O0.1 ▸ O0.2.1
  have pre0 : ∀ t, Steps p.tables e below (s₁.setTop (mkF m 0 #[.val (.ref a1), .val (.int 5), .val (.int 7), .unset, .unset] [])) t → Steps p.tables e below (s₁.setTop (entryFrame m #[(.ref a1), (.int 5), (.int 7)] 5)) t := fun t k => castTop (ef_25a__5___Int32____7___Int32__ m a1) k
  obtain ⟨T2, L2, k3, k4, X2, N2, e2, st2⟩ := td_F5 hw a1 ((.unset)) c0 c1 c2 c3 c4 c5 c6 zC fm h0 n0 X0 N0 hx hZ hby hml hown e0 O0 (own_Str.top HT_a1) S_COMPACT_STRINGS S_SIOOBE_FORMATTER S__assertionsDisabled S_HI_BYTE_SHIFT S_LO_BYTE_SHIFT h2_h9_hz h2_h9_hrfm h2_hbad (Or.inl rfl)
  obtain ⟨fs, hr, hrun, hended, hW, hsame⟩ := X2.leave (v := some (.int 0)) (fun h => by rw [Bd.returns] at h; cases h)
  refine ⟨_, _, pre0 _ ?_, hrun, hended, _, _, rfl, ?_, ⟨_, rfl⟩, hW, hsame.mono (by decide) (by decide)⟩
  · show Steps p.tables e below (s₁.setTop (mkF m 0 #[.val (.ref a1), .val (.int 5), .val (.int 7), .unset, .unset] [])) _
    refine XS.iloadN X0.here hx rfl (hb hby d25_0) rfl ?_
    refine XS.istoreN X0.here hx rfl (hb hby d25_1) rfl (l' := #[.val (.ref a1), .val (.int 5), .val (.int 7), .val (.int 5), .unset]) rfl ?_
    show Steps p.tables e below (s₁.setTop (mkF m 2 #[.val (.ref a1), .val (.int 5), .val (.int 7), .val (.int 5), .unset] [])) _
    refine st2 _ ?_
    refine XS.iconst X2.here hx rfl (hb hby d25_28) ?_
    exact retN X2 hx (t := .boolean) Bd.returns (by simp) (hb hby d25_29) hr
  · show Q25a5F Z a1 c0 c1 c2 c3 c4 c5 c6 zC fm h0 n0 _ T2.heap _
    rw [e2]
    exact ⟨rfl, N2, rfl⟩
theorem d33_0 : decode jdk_2423_method_6_code 0 = .ok (.aload_n 0, 1) := by decide +kernel
theorem d33_1 : decode jdk_2423_method_6_code 1 = .ok (.getfield 33, 3) := by decide +kernel
theorem d33_4 : decode jdk_2423_method_6_code 4 = .ok (.lreturn, 1) := by decide +kernel
def Q33 (Z : State) (a1 : Addr) (w2 : Int64) (h0 : Heap) (n0 : Nat) (v : Option Value) (h : Heap) (L : List Loc) : Prop := v = some (.long w2) ∧ Fr n0 L ∧ h = h0
theorem ef_33 (m : MethodId) (x0 : Addr) : entryFrame m #[(.ref x0)] 1 = mkF m 0 #[.val (.ref x0)] [] := by first | (simp [entryFrame, mkF, argsToLocals, Value.category]; done) | rfl
theorem pnc_java_time_temporal_ValueRange : plainName "java/time/temporal/ValueRange" = true := by first | (simp [plainName, overriddenIn]; done) | decide +kernel
theorem rm33 (l : Launch) (Z : State) (a0 : Array Value) (hw : ∀ d ∈ tables_1, d.before a0 Z = true) (ws : List Jvm.Cond) (a1 : Addr) (w2 : Int64) (h0 : Heap) (n0 : Nat) (O0 : Old Z n0 h0) (HF_a1_minSmallest : Fld Z h0 a1 "java/time/temporal/ValueRange" "minSmallest" "J" (.long w2)) :
    own_C l Z (⟨"java/time/temporal/ValueRange", "getMinimum", "()J"⟩ : MethodName) jdk_2423_method_6_code 1 (some .long) ws ({ frames := 0, cells := 0, slots := 0, locals := 0 } : Room) #[(.ref a1)] h0 (Q33 Z a1 w2 h0 n0) := by
  refine MetFree.of_bodySF (plainFor_of_name pnc_java_time_temporal_ValueRange) hisR ?_
  intro p e s m args below meth c s₁ Bd hml0 hP hK
  obtain ⟨rfl, hZ, hh⟩ := hP
  have hx := Bd.exec
  have hby := Bd.bytes
  have hml : c.maxLocals = 1 := hml0
  have hown : s.vm.findClass "java/time/temporal/ValueRange" = some m.cls := findClass_of_methodNamed Bd.named
  have hnm := (name_of_methodNamed Bd.named Bd.method).1
  have X0 : Stand p l e ({ frames := 0, cells := 0, slots := 0, locals := 0 } : Room) s m #[(.ref a1)] below meth c s₁ [] 0 0 := Stand.of_body Bd
  have e0 : s₁.heap = h0 := by rw [← hh, Bd.state]; rfl
  have N0 := Fr.nil n0
  have Z0 : n0 ≤ h0.size := O0.1 ▸ O0.2.1
  have pre0 : ∀ t, Steps p.tables e below (s₁.setTop (mkF m 0 #[.val (.ref a1)] [])) t → Steps p.tables e below (s₁.setTop (entryFrame m #[(.ref a1)] 1)) t := fun t k => castTop (ef_33 m a1) k
  obtain ⟨T3, X3, e3, st3⟩ := getF X0 hx hZ hown (host := "") (Or.inl (own_w hw 149 rfl)) Via.refl e0 HF_a1_minSmallest (g := (mkF m 1 #[.val (.ref a1)] [(.ref a1)])) rfl rfl (hb hby d33_1)
  obtain ⟨fs, hr, hrun, hended, hW, hsame⟩ := X3.leave (v := some (.long w2)) (fun h => by rw [Bd.returns] at h; cases h)
  refine ⟨_, _, pre0 _ ?_, hrun, hended, _, _, rfl, ?_, ⟨_, rfl⟩, hW, hsame.mono (by decide) (by decide)⟩
  · show Steps p.tables e below (s₁.setTop (mkF m 0 #[.val (.ref a1)] [])) _
    refine XS.aloadN X0.here hx rfl (hb hby d33_0) rfl rfl ?_
    refine st3 _ ?_
    exact retOut X3 hx Bd.returns rfl (Or.inr (Or.inl ⟨rfl, rfl, _, rfl⟩)) (hb hby d33_4) hr
  · show Q33 Z a1 w2 h0 n0 _ T3.heap _
    rw [e3]
    exact ⟨rfl, N0, rfl⟩
theorem d34_0 : decode jdk_2423_method_9_code 0 = .ok (.aload_n 0, 1) := by decide +kernel
theorem d34_1 : decode jdk_2423_method_9_code 1 = .ok (.getfield 43, 3) := by decide +kernel
theorem d34_4 : decode jdk_2423_method_9_code 4 = .ok (.lreturn, 1) := by decide +kernel
def Q34 (Z : State) (a1 : Addr) (w2 : Int64) (h0 : Heap) (n0 : Nat) (v : Option Value) (h : Heap) (L : List Loc) : Prop := v = some (.long w2) ∧ Fr n0 L ∧ h = h0
theorem ef_34 (m : MethodId) (x0 : Addr) : entryFrame m #[(.ref x0)] 1 = mkF m 0 #[.val (.ref x0)] [] := by first | (simp [entryFrame, mkF, argsToLocals, Value.category]; done) | rfl
theorem rm34 (l : Launch) (Z : State) (a0 : Array Value) (hw : ∀ d ∈ tables_1, d.before a0 Z = true) (ws : List Jvm.Cond) (a1 : Addr) (w2 : Int64) (h0 : Heap) (n0 : Nat) (O0 : Old Z n0 h0) (HF_a1_maxLargest : Fld Z h0 a1 "java/time/temporal/ValueRange" "maxLargest" "J" (.long w2)) :
    own_C l Z (⟨"java/time/temporal/ValueRange", "getMaximum", "()J"⟩ : MethodName) jdk_2423_method_9_code 1 (some .long) ws ({ frames := 0, cells := 0, slots := 0, locals := 0 } : Room) #[(.ref a1)] h0 (Q34 Z a1 w2 h0 n0) := by
  refine MetFree.of_bodySF (plainFor_of_name pnc_java_time_temporal_ValueRange) hisR ?_
  intro p e s m args below meth c s₁ Bd hml0 hP hK
  obtain ⟨rfl, hZ, hh⟩ := hP
  have hx := Bd.exec
  have hby := Bd.bytes
  have hml : c.maxLocals = 1 := hml0
  have hown : s.vm.findClass "java/time/temporal/ValueRange" = some m.cls := findClass_of_methodNamed Bd.named
  have hnm := (name_of_methodNamed Bd.named Bd.method).1
  have X0 : Stand p l e ({ frames := 0, cells := 0, slots := 0, locals := 0 } : Room) s m #[(.ref a1)] below meth c s₁ [] 0 0 := Stand.of_body Bd
  have e0 : s₁.heap = h0 := by rw [← hh, Bd.state]; rfl
  have N0 := Fr.nil n0
  have Z0 : n0 ≤ h0.size := O0.1 ▸ O0.2.1
  have pre0 : ∀ t, Steps p.tables e below (s₁.setTop (mkF m 0 #[.val (.ref a1)] [])) t → Steps p.tables e below (s₁.setTop (entryFrame m #[(.ref a1)] 1)) t := fun t k => castTop (ef_34 m a1) k
  obtain ⟨T3, X3, e3, st3⟩ := getF X0 hx hZ hown (host := "") (Or.inl (own_w hw 156 rfl)) Via.refl e0 HF_a1_maxLargest (g := (mkF m 1 #[.val (.ref a1)] [(.ref a1)])) rfl rfl (hb hby d34_1)
  obtain ⟨fs, hr, hrun, hended, hW, hsame⟩ := X3.leave (v := some (.long w2)) (fun h => by rw [Bd.returns] at h; cases h)
  refine ⟨_, _, pre0 _ ?_, hrun, hended, _, _, rfl, ?_, ⟨_, rfl⟩, hW, hsame.mono (by decide) (by decide)⟩
  · show Steps p.tables e below (s₁.setTop (mkF m 0 #[.val (.ref a1)] [])) _
    refine XS.aloadN X0.here hx rfl (hb hby d34_0) rfl rfl ?_
    refine st3 _ ?_
    exact retOut X3 hx Bd.returns rfl (Or.inr (Or.inl ⟨rfl, rfl, _, rfl⟩)) (hb hby d34_4) hr
  · show Q34 Z a1 w2 h0 n0 _ T3.heap _
    rw [e3]
    exact ⟨rfl, N0, rfl⟩
theorem d32_0 : decode jdk_2423_method_11_code 0 = .ok (.lload_n 1, 1) := by decide +kernel
theorem d32_1 : decode jdk_2423_method_11_code 1 = .ok (.aload_n 0, 1) := by decide +kernel
theorem d32_2 : decode jdk_2423_method_11_code 2 = .ok (.invokevirtual 46, 3) := by decide +kernel
theorem pd_2 : parseMethodDescriptor "()J" = some ⟨[], some .long⟩ := by decide +kernel
theorem d32_5 : decode jdk_2423_method_11_code 5 = .ok (.lcmp, 1) := by decide +kernel
theorem d32_6 : decode jdk_2423_method_11_code 6 = .ok (.ifCond .lt 16, 3) := by decide +kernel
theorem d32_9 : decode jdk_2423_method_11_code 9 = .ok (.lload_n 1, 1) := by decide +kernel
theorem d32_10 : decode jdk_2423_method_11_code 10 = .ok (.aload_n 0, 1) := by decide +kernel
theorem d32_11 : decode jdk_2423_method_11_code 11 = .ok (.invokevirtual 54, 3) := by decide +kernel
theorem d32_14 : decode jdk_2423_method_11_code 14 = .ok (.lcmp, 1) := by decide +kernel
theorem d32_15 : decode jdk_2423_method_11_code 15 = .ok (.ifCond .gt 7, 3) := by decide +kernel
theorem d32_18 : decode jdk_2423_method_11_code 18 = .ok (.iconst 1, 1) := by decide +kernel
theorem d32_19 : decode jdk_2423_method_11_code 19 = .ok (.goto 4, 3) := by decide +kernel
theorem d32_23 : decode jdk_2423_method_11_code 23 = .ok (.ireturn, 1) := by decide +kernel
def Q32 (Z : State) (a1 : Addr) (q2 w3 w5 : Int64) (h0 : Heap) (n0 : Nat) (v : Option Value) (h : Heap) (L : List Loc) : Prop := v = some (.int 1) ∧ Fr n0 L ∧ h = h0
theorem ef_32 (m : MethodId) (x0 : Addr) (x1 : Int64) : entryFrame m #[(.ref x0), (.long x1)] 3 = mkF m 0 #[.val (.ref x0), .val (.long x1), .second] [] := by first | (simp [entryFrame, mkF, argsToLocals, Value.category]; done) | rfl
theorem rm32 (l : Launch) (Z : State) (a0 : Array Value) (hw : ∀ d ∈ tables_1, d.before a0 Z = true) (ws : List Jvm.Cond) (a1 : Addr) (q2 w3 w5 : Int64) (h0 : Heap) (n0 : Nat) (O0 : Old Z n0 h0) (HF_a1_minSmallest : Fld Z h0 a1 "java/time/temporal/ValueRange" "minSmallest" "J" (.long w3)) (HE_a1 : Exa Z h0 a1 "java/time/temporal/ValueRange") (hc6 : ¬ ((lcmpW q2 w3) < (0 : Int32))) (HF_a1_maxLargest : Fld Z h0 a1 "java/time/temporal/ValueRange" "maxLargest" "J" (.long w5)) (hc15 : ¬ ((0 : Int32) < (lcmpW q2 w5))) :
    own_C l Z (⟨"java/time/temporal/ValueRange", "isValidValue", "(J)Z"⟩ : MethodName) jdk_2423_method_11_code 3 (some .boolean) ws ({ frames := 1, cells := 0, slots := 0, locals := 14 } : Room) #[(.ref a1), (.long q2)] h0 (Q32 Z a1 q2 w3 w5 h0 n0) := by
  refine MetFree.of_bodySF (plainFor_of_name pnc_java_time_temporal_ValueRange) hisR ?_
  intro p e s m args below meth c s₁ Bd hml0 hP hK
  obtain ⟨rfl, hZ, hh⟩ := hP
  have hx := Bd.exec
  have hby := Bd.bytes
  have hml : c.maxLocals = 3 := hml0
  have hown : s.vm.findClass "java/time/temporal/ValueRange" = some m.cls := findClass_of_methodNamed Bd.named
  have hnm := (name_of_methodNamed Bd.named Bd.method).1
  have X0 : Stand p l e ({ frames := 1, cells := 0, slots := 0, locals := 14 } : Room) s m #[(.ref a1), (.long q2)] below meth c s₁ [] 0 0 := Stand.of_body Bd
  have e0 : s₁.heap = h0 := by rw [← hh, Bd.state]; rfl
  have N0 := Fr.nil n0
  have Z0 : n0 ≤ h0.size := O0.1 ▸ O0.2.1
  have pre0 : ∀ t, Steps p.tables e below (s₁.setTop (mkF m 0 #[.val (.ref a1), .val (.long q2), .second] [])) t → Steps p.tables e below (s₁.setTop (entryFrame m #[(.ref a1), (.long q2)] 3)) t := fun t k => castTop (ef_32 m a1 q2) k
  obtain ⟨cq4, kq4, q4a, q4b, q4c⟩ := isOf hZ e0 HE_a1
  obtain ⟨vr4, _, ⟨T4, L4, k4, n4⟩, -, X4, ⟨Lc4, hQ4, l4, y4, z4⟩, st4⟩ := X0.virtualBack hx (y := (⟨"java/time/temporal/ValueRange", "getMinimum", "()J"⟩ : MethodName)) (z := (⟨"java/time/temporal/ValueRange", "getMinimum", "()J"⟩ : MethodName)) hown (mvT hZ (own_w hw 144 rfl)) (mvT hZ (own_w hw 145 rfl)) (notFace_of_selects (args := #[]) (mvT hZ (own_w hw 147 rfl))) (mvT hZ (own_w hw 147 rfl)) (mvT hZ (own_w hw 146 rfl)) (by decide) (backOf (W := 2) (rm33 l Z a0 hw [] a1 w3 h0 n0 O0 HF_a1_minSmallest) hZ (own_w hw 148 rfl) (own_w hw 137 rfl) (by decide) (by decide)) q4a q4c (g := (mkF m 2 #[.val (.ref a1), .val (.long q2), .second] [(.ref a1), (.long q2)])) rfl (by rw [hml]; rfl) (Steps.refl _) (argsL := []) (rest := [(.long q2)]) (lenOf pd_2 rfl) rfl (by show 2 * 0 + _ ≤ _; exact Nat.le_of_eq rfl) (hb hby d32_2) (fun _ _ => ⟨rfl, e0, (by decide : 0 + 0 ≤ _), (by decide : 0 + 0 ≤ _)⟩)
  dsimp only [Pt.U, Pt.locs, Pt.cells, Pt.slots] at X4 l4 y4 z4 st4 hQ4
  subst l4 y4 z4
  obtain ⟨rfl, N4q, e4⟩ := hQ4
  have N4 := Fr.app N0 N4q
  replace X4 := X4.more (cells' := 0) (slots' := 0) (by decide) (by decide)
  obtain ⟨cq6, kq6, q6a, q6b, q6c⟩ := isOf hZ e4 HE_a1
  obtain ⟨vr6, _, ⟨T6, L6, k6, n6⟩, -, X6, ⟨Lc6, hQ6, l6, y6, z6⟩, st6⟩ := X4.virtualBack hx (y := (⟨"java/time/temporal/ValueRange", "getMaximum", "()J"⟩ : MethodName)) (z := (⟨"java/time/temporal/ValueRange", "getMaximum", "()J"⟩ : MethodName)) hown (mvT hZ (own_w hw 151 rfl)) (mvT hZ (own_w hw 152 rfl)) (notFace_of_selects (args := #[]) (mvT hZ (own_w hw 154 rfl))) (mvT hZ (own_w hw 154 rfl)) (mvT hZ (own_w hw 153 rfl)) (by decide) (backOf (W := 2) (rm34 l Z a0 hw [] a1 w5 h0 n0 O0 HF_a1_maxLargest) hZ (own_w hw 155 rfl) (own_w hw 137 rfl) (by decide) (by decide)) q6a q6c (g := (mkF m 11 #[.val (.ref a1), .val (.long q2), .second] [(.ref a1), (.long q2)])) rfl (by rw [hml]; rfl) (Steps.refl _) (argsL := []) (rest := [(.long q2)]) (lenOf pd_2 rfl) rfl (by show 2 * 0 + _ ≤ _; exact Nat.le_of_eq rfl) (hb hby d32_11) (fun _ _ => ⟨rfl, e4, (by decide : 0 + 0 ≤ _), (by decide : 0 + 0 ≤ _)⟩)
  dsimp only [Pt.U, Pt.locs, Pt.cells, Pt.slots] at X6 l6 y6 z6 st6 hQ6
  subst l6 y6 z6
  obtain ⟨rfl, N6q, e6⟩ := hQ6
  have N6 := Fr.app N4 N6q
  replace X6 := X6.more (cells' := 0) (slots' := 0) (by decide) (by decide)
  obtain ⟨fs, hr, hrun, hended, hW, hsame⟩ := X6.leave (v := some (.int 1)) (fun h => by rw [Bd.returns] at h; cases h)
  refine ⟨_, _, pre0 _ ?_, hrun, hended, _, _, rfl, ?_, ⟨_, rfl⟩, hW, hsame.mono (by decide) (by decide)⟩
  · show Steps p.tables e below (s₁.setTop (mkF m 0 #[.val (.ref a1), .val (.long q2), .second] [])) _
    refine XS.lloadN X0.here hx rfl (hb hby d32_0) rfl ?_
    refine XS.aloadN X0.here hx rfl (hb hby d32_1) rfl rfl ?_
    refine st4.trans ?_
    refine XS.lcmp X4.here hx rfl (hb hby d32_5) rfl ?_
    refine XS.ifNo X4.here hx rfl (hb hby d32_6) rfl ((if0 _ _).trans (flt hc6).1) ?_
    refine XS.lloadN X4.here hx rfl (hb hby d32_9) rfl ?_
    refine XS.aloadN X4.here hx rfl (hb hby d32_10) rfl rfl ?_
    refine st6.trans ?_
    refine XS.lcmp X6.here hx rfl (hb hby d32_14) rfl ?_
    refine XS.ifNo X6.here hx rfl (hb hby d32_15) rfl ((if0 _ _).trans (flt hc15).2.2.1) ?_
    refine XS.iconst X6.here hx rfl (hb hby d32_18) ?_
    refine XS.goto X6.here hx rfl (pc0 := 19) (pc' := 23) rfl (hb hby d32_19) (by decide) (by decide) ?_
    exact retN X6 hx (t := .boolean) Bd.returns (by simp) (hb hby d32_23) hr
  · show Q32 Z a1 q2 w3 w5 h0 n0 _ T6.heap _
    rw [e6]
    exact ⟨rfl, N6, rfl⟩
theorem d31_0 : decode jdk_2423_method_13_code 0 = .ok (.aload_n 0, 1) := by decide +kernel
theorem d31_1 : decode jdk_2423_method_13_code 1 = .ok (.lload_n 1, 1) := by decide +kernel
theorem d31_2 : decode jdk_2423_method_13_code 2 = .ok (.invokevirtual 63, 3) := by decide +kernel
theorem pd_15 : parseMethodDescriptor "(J)Z" = some ⟨[.long], some .boolean⟩ := by decide +kernel
theorem d31_5 : decode jdk_2423_method_13_code 5 = .ok (.ifCond .ne 17, 3) := by decide +kernel
theorem d31_22 : decode jdk_2423_method_13_code 22 = .ok (.lload_n 1, 1) := by decide +kernel
theorem d31_23 : decode jdk_2423_method_13_code 23 = .ok (.lreturn, 1) := by decide +kernel
def Q31 (Z : State) (a1 : Addr) (q2 : Int64) (a3 : Addr) (w4 w5 : Int64) (h0 : Heap) (n0 : Nat) (v : Option Value) (h : Heap) (L : List Loc) : Prop := v = some (.long q2) ∧ Fr n0 L ∧ h = h0
theorem ef_31 (m : MethodId) (x0 : Addr) (x1 : Int64) (x2 : Addr) : entryFrame m #[(.ref x0), (.long x1), (.ref x2)] 4 = mkF m 0 #[.val (.ref x0), .val (.long x1), .second, .val (.ref x2)] [] := by first | (simp [entryFrame, mkF, argsToLocals, Value.category]; done) | rfl
theorem rm31 (l : Launch) (Z : State) (a0 : Array Value) (hw : ∀ d ∈ tables_1, d.before a0 Z = true) (ws : List Jvm.Cond) (a1 : Addr) (q2 : Int64) (a3 : Addr) (w4 w5 : Int64) (h0 : Heap) (n0 : Nat) (O0 : Old Z n0 h0) (HF_a1_minSmallest : Fld Z h0 a1 "java/time/temporal/ValueRange" "minSmallest" "J" (.long w4)) (HE_a1 : Exa Z h0 a1 "java/time/temporal/ValueRange") (HF_a1_maxLargest : Fld Z h0 a1 "java/time/temporal/ValueRange" "maxLargest" "J" (.long w5)) (h2_hc6 : ¬ ((lcmpW q2 w4) < (0 : Int32))) (h2_hc15 : ¬ ((0 : Int32) < (lcmpW q2 w5))) :
    own_C l Z (⟨"java/time/temporal/ValueRange", "checkValidValue", "(JLjava/time/temporal/TemporalField;)J"⟩ : MethodName) jdk_2423_method_13_code 4 (some .long) ws ({ frames := 2, cells := 0, slots := 0, locals := 28 } : Room) #[(.ref a1), (.long q2), (.ref a3)] h0 (Q31 Z a1 q2 a3 w4 w5 h0 n0) := by
  refine MetFree.of_bodySF (plainFor_of_name pnc_java_time_temporal_ValueRange) hisR ?_
  intro p e s m args below meth c s₁ Bd hml0 hP hK
  obtain ⟨rfl, hZ, hh⟩ := hP
  have hx := Bd.exec
  have hby := Bd.bytes
  have hml : c.maxLocals = 4 := hml0
  have hown : s.vm.findClass "java/time/temporal/ValueRange" = some m.cls := findClass_of_methodNamed Bd.named
  have hnm := (name_of_methodNamed Bd.named Bd.method).1
  have X0 : Stand p l e ({ frames := 2, cells := 0, slots := 0, locals := 28 } : Room) s m #[(.ref a1), (.long q2), (.ref a3)] below meth c s₁ [] 0 0 := Stand.of_body Bd
  have e0 : s₁.heap = h0 := by rw [← hh, Bd.state]; rfl
  have N0 := Fr.nil n0
  have Z0 : n0 ≤ h0.size := O0.1 ▸ O0.2.1
  have pre0 : ∀ t, Steps p.tables e below (s₁.setTop (mkF m 0 #[.val (.ref a1), .val (.long q2), .second, .val (.ref a3)] [])) t → Steps p.tables e below (s₁.setTop (entryFrame m #[(.ref a1), (.long q2), (.ref a3)] 4)) t := fun t k => castTop (ef_31 m a1 q2 a3) k
  obtain ⟨cq6, kq6, q6a, q6b, q6c⟩ := isOf hZ e0 HE_a1
  obtain ⟨vr6, _, ⟨T6, L6, k6, n6⟩, -, X6, ⟨Lc6, hQ6, l6, y6, z6⟩, st6⟩ := X0.virtualBack hx (y := (⟨"java/time/temporal/ValueRange", "isValidValue", "(J)Z"⟩ : MethodName)) (z := (⟨"java/time/temporal/ValueRange", "isValidValue", "(J)Z"⟩ : MethodName)) hown (mvT hZ (own_w hw 139 rfl)) (mvT hZ (own_w hw 140 rfl)) (notFace_of_selects (args := #[]) (mvT hZ (own_w hw 142 rfl))) (mvT hZ (own_w hw 142 rfl)) (mvT hZ (own_w hw 141 rfl)) (by decide) (backOf (W := 0) (rm32 l Z a0 hw [] a1 q2 w4 w5 h0 n0 O0 HF_a1_minSmallest HE_a1 h2_hc6 HF_a1_maxLargest h2_hc15) hZ (own_w hw 143 rfl) (own_w hw 137 rfl) (by decide) (by decide)) q6a q6c (g := (mkF m 2 #[.val (.ref a1), .val (.long q2), .second, .val (.ref a3)] [(.long q2), (.ref a1)])) rfl (by rw [hml]; rfl) (Steps.refl _) (argsL := [(.long q2)]) (rest := []) (lenOf pd_15 rfl) rfl (by show 2 * 0 + _ ≤ _; exact Nat.le_of_eq rfl) (hb hby d31_2) (fun _ _ => ⟨rfl, e0, (by decide : 0 + 0 ≤ _), (by decide : 0 + 0 ≤ _)⟩)
  dsimp only [Pt.U, Pt.locs, Pt.cells, Pt.slots] at X6 l6 y6 z6 st6 hQ6
  subst l6 y6 z6
  obtain ⟨rfl, N6q, e6⟩ := hQ6
  have N6 := Fr.app N0 N6q
  replace X6 := X6.more (cells' := 0) (slots' := 0) (by decide) (by decide)
  obtain ⟨fs, hr, hrun, hended, hW, hsame⟩ := X6.leave (v := some (.long q2)) (fun h => by rw [Bd.returns] at h; cases h)
  refine ⟨_, _, pre0 _ ?_, hrun, hended, _, _, rfl, ?_, ⟨_, rfl⟩, hW, hsame.mono (by decide) (by decide)⟩
  · show Steps p.tables e below (s₁.setTop (mkF m 0 #[.val (.ref a1), .val (.long q2), .second, .val (.ref a3)] [])) _
    refine XS.aloadN X0.here hx rfl (hb hby d31_0) rfl rfl ?_
    refine XS.lloadN X0.here hx rfl (hb hby d31_1) rfl ?_
    refine st6.trans ?_
    refine XS.ifYes X6.here hx rfl (pc0 := 5) (pc' := 22) rfl (hb hby d31_5) rfl ((if0 _ _).trans (feq (by decide : ¬ ((1 : Int32) = (0 : Int32)))).2) (by decide) (by decide) ?_
    refine XS.lloadN X6.here hx rfl (hb hby d31_22) rfl ?_
    exact retOut X6 hx Bd.returns rfl (Or.inr (Or.inl ⟨rfl, rfl, _, rfl⟩)) (hb hby d31_23) hr
  · show Q31 Z a1 q2 a3 w4 w5 h0 n0 _ T6.heap _
    rw [e6]
    exact ⟨rfl, N6, rfl⟩
theorem d30_0 : decode jdk_2395_method_8_code 0 = .ok (.aload_n 0, 1) := by decide +kernel
theorem d30_1 : decode jdk_2395_method_8_code 1 = .ok (.getfield 124, 3) := by decide +kernel
theorem d30_4 : decode jdk_2395_method_8_code 4 = .ok (.areturn, 1) := by decide +kernel
def Q30 (Z : State) (a1 w2 : Addr) (h0 : Heap) (n0 : Nat) (v : Option Value) (h : Heap) (L : List Loc) : Prop := v = some (.ref w2) ∧ Fr n0 L ∧ h = h0
theorem ef_30 (m : MethodId) (x0 : Addr) : entryFrame m #[(.ref x0)] 1 = mkF m 0 #[.val (.ref x0)] [] := by first | (simp [entryFrame, mkF, argsToLocals, Value.category]; done) | rfl
theorem pnc_java_time_temporal_ChronoField : plainName "java/time/temporal/ChronoField" = true := by first | (simp [plainName, overriddenIn]; done) | decide +kernel
theorem rm30 (l : Launch) (Z : State) (a0 : Array Value) (hw : ∀ d ∈ tables_1, d.before a0 Z = true) (ws : List Jvm.Cond) (a1 w2 : Addr) (h0 : Heap) (n0 : Nat) (O0 : Old Z n0 h0) (HF_a1_range : Fld Z h0 a1 "java/time/temporal/ChronoField" "range" "Ljava/time/temporal/ValueRange;" (.ref w2)) :
    own_C l Z (⟨"java/time/temporal/ChronoField", "range", "()Ljava/time/temporal/ValueRange;"⟩ : MethodName) jdk_2395_method_8_code 1 (some (.object "java/time/temporal/ValueRange")) ws ({ frames := 0, cells := 0, slots := 0, locals := 0 } : Room) #[(.ref a1)] h0 (Q30 Z a1 w2 h0 n0) := by
  refine MetFree.of_bodySF (plainFor_of_name pnc_java_time_temporal_ChronoField) hisR ?_
  intro p e s m args below meth c s₁ Bd hml0 hP hK
  obtain ⟨rfl, hZ, hh⟩ := hP
  have hx := Bd.exec
  have hby := Bd.bytes
  have hml : c.maxLocals = 1 := hml0
  have hown : s.vm.findClass "java/time/temporal/ChronoField" = some m.cls := findClass_of_methodNamed Bd.named
  have hnm := (name_of_methodNamed Bd.named Bd.method).1
  have X0 : Stand p l e ({ frames := 0, cells := 0, slots := 0, locals := 0 } : Room) s m #[(.ref a1)] below meth c s₁ [] 0 0 := Stand.of_body Bd
  have e0 : s₁.heap = h0 := by rw [← hh, Bd.state]; rfl
  have N0 := Fr.nil n0
  have Z0 : n0 ≤ h0.size := O0.1 ▸ O0.2.1
  have pre0 : ∀ t, Steps p.tables e below (s₁.setTop (mkF m 0 #[.val (.ref a1)] [])) t → Steps p.tables e below (s₁.setTop (entryFrame m #[(.ref a1)] 1)) t := fun t k => castTop (ef_30 m a1) k
  obtain ⟨T3, X3, e3, st3⟩ := getF X0 hx hZ hown (host := "") (Or.inl (own_w hw 131 rfl)) Via.refl e0 HF_a1_range (g := (mkF m 1 #[.val (.ref a1)] [(.ref a1)])) rfl rfl (hb hby d30_1)
  obtain ⟨fs, hr, hrun, hended, hW, hsame⟩ := X3.leave (v := some (.ref w2)) (fun h => by rw [Bd.returns] at h; cases h)
  refine ⟨_, _, pre0 _ ?_, hrun, hended, _, _, rfl, ?_, ⟨_, rfl⟩, hW, hsame.mono (by decide) (by decide)⟩
  · show Steps p.tables e below (s₁.setTop (mkF m 0 #[.val (.ref a1)] [])) _
    refine XS.aloadN X0.here hx rfl (hb hby d30_0) rfl rfl ?_
    refine st3 _ ?_
    exact own_retR X3 hx Bd.returns rfl rfl (hb hby d30_4) hr
  · show Q30 Z a1 w2 h0 n0 _ T3.heap _
    rw [e3]
    exact ⟨rfl, N0, rfl⟩
theorem d29_0 : decode jdk_2395_method_11_code 0 = .ok (.aload_n 0, 1) := by decide +kernel
theorem d29_1 : decode jdk_2395_method_11_code 1 = .ok (.invokevirtual 190, 3) := by decide +kernel
theorem pd_3 : parseMethodDescriptor "()Ljava/time/temporal/ValueRange;" = some ⟨[], some (.object "java/time/temporal/ValueRange")⟩ := by decide +kernel
theorem d29_4 : decode jdk_2395_method_11_code 4 = .ok (.lload_n 1, 1) := by decide +kernel
theorem d29_5 : decode jdk_2395_method_11_code 5 = .ok (.aload_n 0, 1) := by decide +kernel
theorem d29_6 : decode jdk_2395_method_11_code 6 = .ok (.invokevirtual 193, 3) := by decide +kernel
theorem pd_18 : parseMethodDescriptor "(JLjava/time/temporal/TemporalField;)J" = some ⟨[.long, (.object "java/time/temporal/TemporalField")], some .long⟩ := by decide +kernel
theorem d29_9 : decode jdk_2395_method_11_code 9 = .ok (.lreturn, 1) := by decide +kernel
def Q29 (Z : State) (a1 : Addr) (q2 : Int64) (w3 : Addr) (w5 w6 : Int64) (h0 : Heap) (n0 : Nat) (v : Option Value) (h : Heap) (L : List Loc) : Prop := v = some (.long q2) ∧ Fr n0 L ∧ h = h0
theorem ef_29 (m : MethodId) (x0 : Addr) (x1 : Int64) : entryFrame m #[(.ref x0), (.long x1)] 3 = mkF m 0 #[.val (.ref x0), .val (.long x1), .second] [] := by first | (simp [entryFrame, mkF, argsToLocals, Value.category]; done) | rfl
theorem rm29 (l : Launch) (Z : State) (a0 : Array Value) (hw : ∀ d ∈ tables_1, d.before a0 Z = true) (ws : List Jvm.Cond) (a1 : Addr) (q2 : Int64) (w3 : Addr) (w5 w6 : Int64) (h0 : Heap) (n0 : Nat) (O0 : Old Z n0 h0) (HF_a1_range : Fld Z h0 a1 "java/time/temporal/ChronoField" "range" "Ljava/time/temporal/ValueRange;" (.ref w3)) (HE_a1 : Exa Z h0 a1 "java/time/temporal/ChronoField") (HF_w3_minSmallest : Fld Z h0 w3 "java/time/temporal/ValueRange" "minSmallest" "J" (.long w5)) (HE_w3 : Exa Z h0 w3 "java/time/temporal/ValueRange") (HF_w3_maxLargest : Fld Z h0 w3 "java/time/temporal/ValueRange" "maxLargest" "J" (.long w6)) (h6_h2_hc6 : ¬ ((lcmpW q2 w5) < (0 : Int32))) (h6_h2_hc15 : ¬ ((0 : Int32) < (lcmpW q2 w6))) :
    own_C l Z (⟨"java/time/temporal/ChronoField", "checkValidValue", "(J)J"⟩ : MethodName) jdk_2395_method_11_code 3 (some .long) ws ({ frames := 3, cells := 0, slots := 0, locals := 43 } : Room) #[(.ref a1), (.long q2)] h0 (Q29 Z a1 q2 w3 w5 w6 h0 n0) := by
  refine MetFree.of_bodySF (plainFor_of_name pnc_java_time_temporal_ChronoField) hisR ?_
  intro p e s m args below meth c s₁ Bd hml0 hP hK
  obtain ⟨rfl, hZ, hh⟩ := hP
  have hx := Bd.exec
  have hby := Bd.bytes
  have hml : c.maxLocals = 3 := hml0
  have hown : s.vm.findClass "java/time/temporal/ChronoField" = some m.cls := findClass_of_methodNamed Bd.named
  have hnm := (name_of_methodNamed Bd.named Bd.method).1
  have X0 : Stand p l e ({ frames := 3, cells := 0, slots := 0, locals := 43 } : Room) s m #[(.ref a1), (.long q2)] below meth c s₁ [] 0 0 := Stand.of_body Bd
  have e0 : s₁.heap = h0 := by rw [← hh, Bd.state]; rfl
  have N0 := Fr.nil n0
  have Z0 : n0 ≤ h0.size := O0.1 ▸ O0.2.1
  have pre0 : ∀ t, Steps p.tables e below (s₁.setTop (mkF m 0 #[.val (.ref a1), .val (.long q2), .second] [])) t → Steps p.tables e below (s₁.setTop (entryFrame m #[(.ref a1), (.long q2)] 3)) t := fun t k => castTop (ef_29 m a1 q2) k
  obtain ⟨cq4, kq4, q4a, q4b, q4c⟩ := isOf hZ e0 HE_a1
  obtain ⟨vr4, _, ⟨T4, L4, k4, n4⟩, -, X4, ⟨Lc4, hQ4, l4, y4, z4⟩, st4⟩ := X0.virtualBack hx (y := (⟨"java/time/temporal/ChronoField", "range", "()Ljava/time/temporal/ValueRange;"⟩ : MethodName)) (z := (⟨"java/time/temporal/ChronoField", "range", "()Ljava/time/temporal/ValueRange;"⟩ : MethodName)) hown (mvT hZ (own_w hw 126 rfl)) (mvT hZ (own_w hw 127 rfl)) (notFace_of_selects (args := #[]) (mvT hZ (own_w hw 129 rfl))) (mvT hZ (own_w hw 129 rfl)) (mvT hZ (own_w hw 128 rfl)) (by decide) (backOf (W := 0) (rm30 l Z a0 hw [] a1 w3 h0 n0 O0 HF_a1_range) hZ (own_w hw 130 rfl) (own_w hw 120 rfl) (by decide) (by decide)) q4a q4c (g := (mkF m 1 #[.val (.ref a1), .val (.long q2), .second] [(.ref a1)])) rfl (by rw [hml]; rfl) (Steps.refl _) (argsL := []) (rest := []) (lenOf pd_3 rfl) rfl (by show 2 * 0 + _ ≤ _; exact Nat.le_of_eq rfl) (hb hby d29_1) (fun _ _ => ⟨rfl, e0, (by decide : 0 + 0 ≤ _), (by decide : 0 + 0 ≤ _)⟩)
  dsimp only [Pt.U, Pt.locs, Pt.cells, Pt.slots] at X4 l4 y4 z4 st4 hQ4
  subst l4 y4 z4
  obtain ⟨rfl, N4q, e4⟩ := hQ4
  have N4 := Fr.app N0 N4q
  replace X4 := X4.more (cells' := 0) (slots' := 0) (by decide) (by decide)
  obtain ⟨cq7, kq7, q7a, q7b, q7c⟩ := isOf hZ e4 HE_w3
  obtain ⟨vr7, _, ⟨T7, L7, k7, n7⟩, -, X7, ⟨Lc7, hQ7, l7, y7, z7⟩, st7⟩ := X4.virtualBack hx (y := (⟨"java/time/temporal/ValueRange", "checkValidValue", "(JLjava/time/temporal/TemporalField;)J"⟩ : MethodName)) (z := (⟨"java/time/temporal/ValueRange", "checkValidValue", "(JLjava/time/temporal/TemporalField;)J"⟩ : MethodName)) hown (mvT hZ (own_w hw 133 rfl)) (mvT hZ (own_w hw 134 rfl)) (notFace_of_selects (args := #[]) (mvT hZ (own_w hw 136 rfl))) (mvT hZ (own_w hw 136 rfl)) (mvT hZ (own_w hw 135 rfl)) (by decide) (backOf (W := 0) (rm31 l Z a0 hw [] w3 q2 a1 w5 w6 h0 n0 O0 HF_w3_minSmallest HE_w3 HF_w3_maxLargest h6_h2_hc6 h6_h2_hc15) hZ (own_w hw 138 rfl) (own_w hw 137 rfl) (by decide) (by decide)) q7a q7c (g := (mkF m 6 #[.val (.ref a1), .val (.long q2), .second] [(.ref a1), (.long q2), (.ref w3)])) rfl (by rw [hml]; rfl) (Steps.refl _) (argsL := [(.long q2), (.ref a1)]) (rest := []) (lenOf pd_18 rfl) rfl (by show 2 * 0 + _ ≤ _; exact Nat.le_of_eq rfl) (hb hby d29_6) (fun _ _ => ⟨rfl, e4, (by decide : 0 + 0 ≤ _), (by decide : 0 + 0 ≤ _)⟩)
  dsimp only [Pt.U, Pt.locs, Pt.cells, Pt.slots] at X7 l7 y7 z7 st7 hQ7
  subst l7 y7 z7
  obtain ⟨rfl, N7q, e7⟩ := hQ7
  have N7 := Fr.app N4 N7q
  replace X7 := X7.more (cells' := 0) (slots' := 0) (by decide) (by decide)
  obtain ⟨fs, hr, hrun, hended, hW, hsame⟩ := X7.leave (v := some (.long q2)) (fun h => by rw [Bd.returns] at h; cases h)
  refine ⟨_, _, pre0 _ ?_, hrun, hended, _, _, rfl, ?_, ⟨_, rfl⟩, hW, hsame.mono (by decide) (by decide)⟩
  · show Steps p.tables e below (s₁.setTop (mkF m 0 #[.val (.ref a1), .val (.long q2), .second] [])) _
    refine XS.aloadN X0.here hx rfl (hb hby d29_0) rfl rfl ?_
    refine st4.trans ?_
    refine XS.lloadN X4.here hx rfl (hb hby d29_4) rfl ?_
    refine XS.aloadN X4.here hx rfl (hb hby d29_5) rfl rfl ?_
    refine st7.trans ?_
    exact retOut X7 hx Bd.returns rfl (Or.inr (Or.inl ⟨rfl, rfl, _, rfl⟩)) (hb hby d29_9) hr
  · show Q29 Z a1 q2 w3 w5 w6 h0 n0 _ T7.heap _
    rw [e7]
    exact ⟨rfl, N7, rfl⟩
theorem d35_0 : decode jdk_2340_method_9_code 0 = .ok (.aload_n 0, 1) := by decide +kernel
theorem d35_1 : decode jdk_2340_method_9_code 1 = .ok (.invokespecial 147, 3) := by decide +kernel
theorem d35_4 : decode jdk_2340_method_9_code 4 = .ok (.aload_n 0, 1) := by decide +kernel
theorem d35_5 : decode jdk_2340_method_9_code 5 = .ok (.iload_n 1, 1) := by decide +kernel
theorem d35_6 : decode jdk_2340_method_9_code 6 = .ok (.putfield 150, 3) := by decide +kernel
theorem d35_9 : decode jdk_2340_method_9_code 9 = .ok (.aload_n 0, 1) := by decide +kernel
theorem d35_10 : decode jdk_2340_method_9_code 10 = .ok (.iload_n 2, 1) := by decide +kernel
theorem d35_11 : decode jdk_2340_method_9_code 11 = .ok (.putfield 154, 3) := by decide +kernel
theorem d35_14 : decode jdk_2340_method_9_code 14 = .ok (.return_, 1) := by decide +kernel
def Q35 (Z : State) (a1 : Addr) (p2 p3 : Int32) (u5 u10 : Value) (h0 : Heap) (n0 : Nat) (v : Option Value) (h : Heap) (L : List Loc) : Prop := v = none ∧ Fr n0 L ∧ Keep h0 h [a1] ∧ Exa Z h a1 "java/time/YearMonth" ∧ Fld Z h a1 "java/time/YearMonth" "month" "I" (.int p3) ∧ Fld Z h a1 "java/time/YearMonth" "year" "I" (.int p2)
theorem ef_35 (m : MethodId) (x0 : Addr) (x1 : Int32) (x2 : Int32) : entryFrame m #[(.ref x0), (.int x1), (.int x2)] 3 = mkF m 0 #[.val (.ref x0), .val (.int x1), .val (.int x2)] [] := by first | (simp [entryFrame, mkF, argsToLocals, Value.category]; done) | rfl
theorem pnc_java_time_YearMonth : plainName "java/time/YearMonth" = true := by first | (simp [plainName, overriddenIn]; done) | decide +kernel
theorem rm35 (l : Launch) (Z : State) (a0 : Array Value) (hw : ∀ d ∈ tables_1, d.before a0 Z = true) (ws : List Jvm.Cond) (a1 : Addr) (p2 p3 : Int32) (u5 u10 : Value) (h0 : Heap) (n0 : Nat) (O0 : Old Z n0 h0) (HE_a1 : Exa Z h0 a1 "java/time/YearMonth") (HF_a1_year : Fld Z h0 a1 "java/time/YearMonth" "year" "I" u5) (g_a1 : n0 ≤ a1) (HF_a1_month : Fld Z h0 a1 "java/time/YearMonth" "month" "I" u10) :
    own_C l Z (⟨"java/time/YearMonth", "<init>", "(II)V"⟩ : MethodName) jdk_2340_method_9_code 3 none ws ({ frames := 1, cells := 0, slots := 0, locals := 12 } : Room) #[(.ref a1), (.int p2), (.int p3)] h0 (Q35 Z a1 p2 p3 u5 u10 h0 n0) := by
  refine MetFree.of_bodySF (plainFor_of_name pnc_java_time_YearMonth) hisR ?_
  intro p e s m args below meth c s₁ Bd hml0 hP hK
  obtain ⟨rfl, hZ, hh⟩ := hP
  have hx := Bd.exec
  have hby := Bd.bytes
  have hml : c.maxLocals = 3 := hml0
  have hown : s.vm.findClass "java/time/YearMonth" = some m.cls := findClass_of_methodNamed Bd.named
  have hnm := (name_of_methodNamed Bd.named Bd.method).1
  have X0 : Stand p l e ({ frames := 1, cells := 0, slots := 0, locals := 12 } : Room) s m #[(.ref a1), (.int p2), (.int p3)] below meth c s₁ [] 0 0 := Stand.of_body Bd
  have e0 : s₁.heap = h0 := by rw [← hh, Bd.state]; rfl
  have N0 := Fr.nil n0
  have Z0 : n0 ≤ h0.size := O0.1 ▸ O0.2.1
  have pre0 : ∀ t, Steps p.tables e below (s₁.setTop (mkF m 0 #[.val (.ref a1), .val (.int p2), .val (.int p3)] [])) t → Steps p.tables e below (s₁.setTop (entryFrame m #[(.ref a1), (.int p2), (.int p3)] 3)) t := fun t k => castTop (ef_35 m a1 p2 p3) k
  obtain ⟨T4, X4, e4, st4⟩ := initO X0 hx hZ hown (own_w hw 165 rfl) (own_w hw 20 rfl) (own_w hw 21 rfl) e0 (g := (mkF m 1 #[.val (.ref a1), .val (.int p2), .val (.int p3)] [(.ref a1)])) rfl (by rw [hml]; rfl) rfl (hb hby d35_1) (by decide) (W := 0) (by show 2 * 0 + _ ≤ _; exact Nat.le_of_eq rfl) (by decide)
  obtain ⟨T6, h6, X6, e6, W6, st6⟩ := putF X4 hx hZ hown (host := "") (Or.inl (own_w hw 166 rfl)) Via.refl e4 HF_a1_year HE_a1 (Or.inr ⟨(own_w hw 167 rfl), rfl, hnm⟩) (own_w hw 160 rfl) (ty := .int) (by decide) rfl rfl (g := (mkF m 6 #[.val (.ref a1), .val (.int p2), .val (.int p3)] [(.int p2), (.ref a1)])) rfl rfl (hb hby d35_6)
  have N6 := Fr.snoc X6 N0 g_a1
  have K7 : Keep h0 h6 [a1] := (Keep.refl h0 [a1]).wr W6 (Or.inl (List.mem_of_getElem? (i := 0) rfl))
  have O8 : Old Z n0 h6 := O0.wr W6 g_a1
  have Fw6 : Fld Z h6 a1 "java/time/YearMonth" "year" "I" (.int p2) := HF_a1_year.same W6
  have f9 := (HE_a1.wr W6)
  have f11 := (HF_a1_month.other W6 (Or.inr (slot_ne (Or.inr (own_w hw 169 rfl)) (Or.inr (own_w hw 167 rfl)) (by decide) (t := .int) (t' := .int) (by decide) (by decide))))
  obtain ⟨T12, h12, X12, e12, W12, st12⟩ := putF X6 hx hZ hown (host := "") (Or.inl (own_w hw 168 rfl)) Via.refl e6 f11 f9 (Or.inr ⟨(own_w hw 169 rfl), rfl, hnm⟩) (own_w hw 160 rfl) (ty := .int) (by decide) rfl rfl (g := (mkF m 11 #[.val (.ref a1), .val (.int p2), .val (.int p3)] [(.int p3), (.ref a1)])) rfl rfl (hb hby d35_11)
  have N12 := Fr.snoc X12 N6 g_a1
  have K13 : Keep h0 h12 [a1] := K7.wr W12 (Or.inl (List.mem_of_getElem? (i := 0) rfl))
  have O14 : Old Z n0 h12 := O8.wr W12 g_a1
  have Fw12 : Fld Z h12 a1 "java/time/YearMonth" "month" "I" (.int p3) := f11.same W12
  have f15 := (f9.wr W12)
  have f16 := (Fw6.other W12 (Or.inr (slot_ne (Or.inr (own_w hw 167 rfl)) (Or.inr (own_w hw 169 rfl)) (by decide) (t := .int) (t' := .int) (by decide) (by decide))))
  obtain ⟨fs, hr, hrun, hended, hW, hsame⟩ := X12.leave (v := none) (fun _ => rfl)
  refine ⟨_, _, pre0 _ ?_, hrun, hended, _, _, rfl, ?_, ⟨_, rfl⟩, hW, hsame.mono (by decide) (by decide)⟩
  · show Steps p.tables e below (s₁.setTop (mkF m 0 #[.val (.ref a1), .val (.int p2), .val (.int p3)] [])) _
    refine XS.aloadN X0.here hx rfl (hb hby d35_0) rfl rfl ?_
    refine st4 _ ?_
    refine XS.aloadN X4.here hx rfl (hb hby d35_4) rfl rfl ?_
    refine XS.iloadN X4.here hx rfl (hb hby d35_5) rfl ?_
    refine st6 _ ?_
    refine XS.aloadN X6.here hx rfl (hb hby d35_9) rfl rfl ?_
    refine XS.iloadN X6.here hx rfl (hb hby d35_10) rfl ?_
    refine st12 _ ?_
    exact X12.returnOut hx Bd.returns (hb hby d35_14) hr
  · show Q35 Z a1 p2 p3 u5 u10 h0 n0 _ T12.heap _
    rw [e12]
    exact ⟨rfl, N12, K13, f15, Fw12, f16⟩
theorem d28_0 : decode jdk_2340_method_5_code 0 = .ok (.getstatic 50, 3) := by decide +kernel
theorem d28_3 : decode jdk_2340_method_5_code 3 = .ok (.iload_n 0, 1) := by decide +kernel
theorem d28_4 : decode jdk_2340_method_5_code 4 = .ok (.i2l, 1) := by decide +kernel
theorem d28_5 : decode jdk_2340_method_5_code 5 = .ok (.invokevirtual 56, 3) := by decide +kernel
theorem pd_14 : parseMethodDescriptor "(J)J" = some ⟨[.long], some .long⟩ := by decide +kernel
theorem d28_8 : decode jdk_2340_method_5_code 8 = .ok (.pop2, 1) := by decide +kernel
theorem own_pop2 {tb : Tables} [Ours tb] {e : Env} {below : List Frame} {T target : State} {m : MethodId} {c : Code} {g : JFrame} (h : At T m c below) (hx : tb.exec = Jvm.exec) (hg : g.method = m) {x : Value} {rest : List Value} (hd : decode c.code g.pc = .ok (.pop2, 1)) (hs : g.stack = x :: rest) (hc : x.category = 2)
    (hr : Steps tb e below (T.setTop { g with pc := g.pc + 1, stack := rest }) target) : Steps tb e below (T.setTop g) target := by
  subst hg
  jvm_step h [h.top, hx, hd, hs, hc]
  exact hr
theorem d28_9 : decode jdk_2340_method_5_code 9 = .ok (.getstatic 60, 3) := by decide +kernel
theorem d28_12 : decode jdk_2340_method_5_code 12 = .ok (.iload_n 1, 1) := by decide +kernel
theorem d28_13 : decode jdk_2340_method_5_code 13 = .ok (.i2l, 1) := by decide +kernel
theorem d28_14 : decode jdk_2340_method_5_code 14 = .ok (.invokevirtual 56, 3) := by decide +kernel
theorem d28_17 : decode jdk_2340_method_5_code 17 = .ok (.pop2, 1) := by decide +kernel
theorem d28_18 : decode jdk_2340_method_5_code 18 = .ok (.new 8, 3) := by decide +kernel
theorem d28_21 : decode jdk_2340_method_5_code 21 = .ok (.dup, 1) := by decide +kernel
theorem d28_22 : decode jdk_2340_method_5_code 22 = .ok (.iload_n 0, 1) := by decide +kernel
theorem d28_23 : decode jdk_2340_method_5_code 23 = .ok (.iload_n 1, 1) := by decide +kernel
theorem d28_24 : decode jdk_2340_method_5_code 24 = .ok (.invokespecial 63, 3) := by decide +kernel
theorem d28_27 : decode jdk_2340_method_5_code 27 = .ok (.areturn, 1) := by decide +kernel
def Q28 (Z : State) (p1 p2 : Int32) (w3 w5 : Addr) (w6 w7 : Int64) (w9 w11 : Addr) (w12 w13 : Int64) (h0 : Heap) (n0 : Nat) (v : Option Value) (h : Heap) (L : List Loc) : Prop := ∃ b15 : Addr, v = some (.ref b15) ∧ Fr n0 L ∧ Keep h0 h [] ∧ h0.size ≤ b15 ∧ Exa Z h b15 "java/time/YearMonth" ∧ Fld Z h b15 "java/time/YearMonth" "month" "I" (.int p2) ∧ Fld Z h b15 "java/time/YearMonth" "year" "I" (.int p1)
theorem ef_28 (m : MethodId) (x0 : Int32) (x1 : Int32) : entryFrame m #[(.int x0), (.int x1)] 2 = mkF m 0 #[.val (.int x0), .val (.int x1)] [] := by first | (simp [entryFrame, mkF, argsToLocals, Value.category]; done) | rfl
theorem rm28 (l : Launch) (Z : State) (a0 : Array Value) (hw : ∀ d ∈ tables_1, d.before a0 Z = true) (ws : List Jvm.Cond) (p1 p2 : Int32) (w3 w5 : Addr) (w6 w7 : Int64) (w9 w11 : Addr) (w12 w13 : Int64) (h0 : Heap) (n0 : Nat) (O0 : Old Z n0 h0) (S_YEAR : Sta Z Z.heap "java/time/temporal/ChronoField" "YEAR" "Ljava/time/temporal/ChronoField;" (.ref w3)) (HF_w3_range : Fld Z h0 w3 "java/time/temporal/ChronoField" "range" "Ljava/time/temporal/ValueRange;" (.ref w5)) (HE_w3 : Exa Z h0 w3 "java/time/temporal/ChronoField") (HF_w5_minSmallest : Fld Z h0 w5 "java/time/temporal/ValueRange" "minSmallest" "J" (.long w6)) (HE_w5 : Exa Z h0 w5 "java/time/temporal/ValueRange") (HF_w5_maxLargest : Fld Z h0 w5 "java/time/temporal/ValueRange" "maxLargest" "J" (.long w7)) (h5_h6_h2_hc6 : ¬ ((lcmpW (p1.toInt64) w6) < (0 : Int32))) (h5_h6_h2_hc15 : ¬ ((0 : Int32) < (lcmpW (p1.toInt64) w7))) (S_MONTH_OF_YEAR : Sta Z Z.heap "java/time/temporal/ChronoField" "MONTH_OF_YEAR" "Ljava/time/temporal/ChronoField;" (.ref w9)) (HF_w9_range : Fld Z h0 w9 "java/time/temporal/ChronoField" "range" "Ljava/time/temporal/ValueRange;" (.ref w11)) (HE_w9 : Exa Z h0 w9 "java/time/temporal/ChronoField") (HF_w11_minSmallest : Fld Z h0 w11 "java/time/temporal/ValueRange" "minSmallest" "J" (.long w12)) (HE_w11 : Exa Z h0 w11 "java/time/temporal/ValueRange") (HF_w11_maxLargest : Fld Z h0 w11 "java/time/temporal/ValueRange" "maxLargest" "J" (.long w13)) (h14_h6_h2_hc6 : ¬ ((lcmpW (p2.toInt64) w12) < (0 : Int32))) (h14_h6_h2_hc15 : ¬ ((0 : Int32) < (lcmpW (p2.toInt64) w13))) :
    own_C l Z (⟨"java/time/YearMonth", "of", "(II)Ljava/time/YearMonth;"⟩ : MethodName) jdk_2340_method_5_code 2 (some (.object "java/time/YearMonth")) ws ({ frames := 4, cells := 1, slots := 2, locals := 57 } : Room) #[(.int p1), (.int p2)] h0 (Q28 Z p1 p2 w3 w5 w6 w7 w9 w11 w12 w13 h0 n0) := by
  refine MetFree.of_bodySF (plainFor_of_name pnc_java_time_YearMonth) hisR ?_
  intro p e s m args below meth c s₁ Bd hml0 hP hK
  obtain ⟨rfl, hZ, hh⟩ := hP
  have hx := Bd.exec
  have hby := Bd.bytes
  have hml : c.maxLocals = 2 := hml0
  have hown : s.vm.findClass "java/time/YearMonth" = some m.cls := findClass_of_methodNamed Bd.named
  have hnm := (name_of_methodNamed Bd.named Bd.method).1
  have X0 : Stand p l e ({ frames := 4, cells := 1, slots := 2, locals := 57 } : Room) s m #[(.int p1), (.int p2)] below meth c s₁ [] 0 0 := Stand.of_body Bd
  have e0 : s₁.heap = h0 := by rw [← hh, Bd.state]; rfl
  have N0 := Fr.nil n0
  have Z0 : n0 ≤ h0.size := O0.1 ▸ O0.2.1
  have pre0 : ∀ t, Steps p.tables e below (s₁.setTop (mkF m 0 #[.val (.int p1), .val (.int p2)] [])) t → Steps p.tables e below (s₁.setTop (entryFrame m #[(.int p1), (.int p2)] 2)) t := fun t k => castTop (ef_28 m p1 p2) k
  obtain ⟨T4, X4, e4, st4⟩ := getS2 X0 hx hZ hown (host := "") (Or.inl (own_w hw 119 rfl)) Via.refl e0 (S_YEAR.ext O0.2) (g := (mkF m 0 #[.val (.int p1), .val (.int p2)] [])) rfl (hb hby d28_0)
  obtain ⟨cq8, kq8, q8a, q8b, q8c⟩ := isOf hZ e4 HE_w3
  obtain ⟨vr8, _, ⟨T8, L8, k8, n8⟩, -, X8, ⟨Lc8, hQ8, l8, y8, z8⟩, st8⟩ := X4.virtualBack hx (y := (⟨"java/time/temporal/ChronoField", "checkValidValue", "(J)J"⟩ : MethodName)) (z := (⟨"java/time/temporal/ChronoField", "checkValidValue", "(J)J"⟩ : MethodName)) hown (mvT hZ (own_w hw 121 rfl)) (mvT hZ (own_w hw 122 rfl)) (notFace_of_selects (args := #[]) (mvT hZ (own_w hw 124 rfl))) (mvT hZ (own_w hw 124 rfl)) (mvT hZ (own_w hw 123 rfl)) (by decide) (backOf (W := 0) (rm29 l Z a0 hw [] w3 ((p1.toInt64)) w5 w6 w7 h0 n0 O0 HF_w3_range HE_w3 HF_w5_minSmallest HE_w5 HF_w5_maxLargest h5_h6_h2_hc6 h5_h6_h2_hc15) hZ (own_w hw 125 rfl) (own_w hw 120 rfl) (by decide) (by decide)) q8a q8c (g := (mkF m 5 #[.val (.int p1), .val (.int p2)] [(.long (p1.toInt64)), (.ref w3)])) rfl (by rw [hml]; rfl) (Steps.refl _) (argsL := [(.long (p1.toInt64))]) (rest := []) (lenOf pd_14 rfl) rfl (by show 2 * 0 + _ ≤ _; exact Nat.le_of_eq rfl) (hb hby d28_5) (fun _ _ => ⟨rfl, e4, (by decide : 0 + 0 ≤ _), (by decide : 0 + 0 ≤ _)⟩)
  dsimp only [Pt.U, Pt.locs, Pt.cells, Pt.slots] at X8 l8 y8 z8 st8 hQ8
  subst l8 y8 z8
  obtain ⟨rfl, N8q, e8⟩ := hQ8
  have N8 := Fr.app N0 N8q
  replace X8 := X8.more (cells' := 0) (slots' := 0) (by decide) (by decide)
  obtain ⟨T10, X10, e10, st10⟩ := getS2 X8 hx hZ hown (host := "") (Or.inl (own_w hw 158 rfl)) Via.refl e8 (S_MONTH_OF_YEAR.ext O0.2) (g := (mkF m 9 #[.val (.int p1), .val (.int p2)] [])) rfl (hb hby d28_9)
  obtain ⟨cq14, kq14, q14a, q14b, q14c⟩ := isOf hZ e10 HE_w9
  obtain ⟨vr14, _, ⟨T14, L14, k14, n14⟩, -, X14, ⟨Lc14, hQ14, l14, y14, z14⟩, st14⟩ := X10.virtualBack hx (y := (⟨"java/time/temporal/ChronoField", "checkValidValue", "(J)J"⟩ : MethodName)) (z := (⟨"java/time/temporal/ChronoField", "checkValidValue", "(J)J"⟩ : MethodName)) hown (mvT hZ (own_w hw 121 rfl)) (mvT hZ (own_w hw 122 rfl)) (notFace_of_selects (args := #[]) (mvT hZ (own_w hw 124 rfl))) (mvT hZ (own_w hw 124 rfl)) (mvT hZ (own_w hw 123 rfl)) (by decide) (backOf (W := 0) (rm29 l Z a0 hw [] w9 ((p2.toInt64)) w11 w12 w13 h0 n0 O0 HF_w9_range HE_w9 HF_w11_minSmallest HE_w11 HF_w11_maxLargest h14_h6_h2_hc6 h14_h6_h2_hc15) hZ (own_w hw 125 rfl) (own_w hw 120 rfl) (by decide) (by decide)) q14a q14c (g := (mkF m 14 #[.val (.int p1), .val (.int p2)] [(.long (p2.toInt64)), (.ref w9)])) rfl (by rw [hml]; rfl) (Steps.refl _) (argsL := [(.long (p2.toInt64))]) (rest := []) (lenOf pd_14 rfl) rfl (by show 2 * 0 + _ ≤ _; exact Nat.le_of_eq rfl) (hb hby d28_14) (fun _ _ => ⟨rfl, e10, (by decide : 0 + 0 ≤ _), (by decide : 0 + 0 ≤ _)⟩)
  dsimp only [Pt.U, Pt.locs, Pt.cells, Pt.slots] at X14 l14 y14 z14 st14 hQ14
  subst l14 y14 z14
  obtain ⟨rfl, N14q, e14⟩ := hQ14
  have N14 := Fr.app N8 N14q
  replace X14 := X14.more (cells' := 0) (slots' := 0) (by decide) (by decide)
  obtain ⟨T15, h15, X15, e15, E15, A15, D15, -, st15⟩ := newO X14 hx hZ hown (own_w hw 159 rfl) (own_w hw 160 rfl) (own_w hw 117 rfl) e14 (g := (mkF m 18 #[.val (.int p1), .val (.int p2)] [])) rfl (hb hby d28_18) (by decide) (by decide)
  obtain ⟨b15, g15⟩ : ∃ z, z = h0.size := ⟨_, rfl⟩
  rw [← g15] at A15 D15 st15
  have g_b15 : n0 ≤ b15 := Nat.le_trans (Nat.le_trans Z0 (Keep.refl h0 []).1) (Nat.le_of_eq g15.symm)
  have sz_b15 : h0.size ≤ b15 := Nat.le_trans (Keep.refl h0 []).1 (Nat.le_of_eq g15.symm)
  have K16 : Keep h0 h15 [] := (Keep.refl h0 []).ext E15
  have O17 : Old Z n0 h15 := O0.ext E15
  have F_year_b15 : Fld Z h15 b15 "java/time/YearMonth" "year" "I" (.int 0) := D15 (Or.inr (own_w hw 167 rfl)) (ty := .int) (by decide)
  have F_month_b15 : Fld Z h15 b15 "java/time/YearMonth" "month" "I" (.int 0) := D15 (Or.inr (own_w hw 169 rfl)) (ty := .int) (by decide)
  replace X15 := X15.more (cells' := 1) (slots' := 2) (by decide) (by decide)
  obtain ⟨vr18, _, ⟨T18, L18, k18, n18⟩, -, X18, ⟨Lc18, hQ18, l18, y18, z18⟩, st18⟩ := X15.specialBack hx (y := (⟨"java/time/YearMonth", "<init>", "(II)V"⟩ : MethodName)) rfl hown (mvT hZ (own_w hw 161 rfl)) (mvT hZ (own_w hw 162 rfl)) (mvT hZ (own_w hw 164 rfl)) (by decide) (backOf (W := 1) (rm35 l Z a0 hw [] b15 p1 p2 ((.int 0)) ((.int 0)) h15 n0 O17 A15 F_year_b15 g_b15 F_month_b15) hZ (own_w hw 164 rfl) (own_w hw 117 rfl) (by decide) (by decide)) (g := (mkF m 24 #[.val (.int p1), .val (.int p2)] [(.int p2), (.int p1), (.ref b15), (.ref b15)])) rfl (by rw [hml]; rfl) (Steps.refl _) (a := b15) (argsL := [(.int p1), (.int p2)]) (rest := [(.ref b15)]) (lenOf pd_11 rfl) rfl (by show 2 * 0 + _ ≤ _; exact Nat.le_of_eq rfl) (hb hby d28_24) (fun _ _ => ⟨rfl, e15, (by decide : 1 + 0 ≤ _), (by decide : 2 + 0 ≤ _)⟩)
  dsimp only [Pt.U, Pt.locs, Pt.cells, Pt.slots] at X18 l18 y18 z18 st18 hQ18
  subst l18 y18 z18
  obtain ⟨rfl, N18q, K18, Y18_0, Y18_1, Y18_2⟩ := hQ18
  have N18 := Fr.app N14 N18q
  replace X18 := X18.more (cells' := 1) (slots' := 2) (by decide) (by decide)
  have K19 : Keep h0 T18.heap [] := K16.trans K18 (allS (Or.inr sz_b15) all0)
  have O20 : Old Z n0 T18.heap := O17.keep K18 (allS g_b15 all0)
  obtain ⟨fs, hr, hrun, hended, hW, hsame⟩ := X18.leave (v := some (.ref b15)) (fun h => by rw [Bd.returns] at h; cases h)
  refine ⟨_, _, pre0 _ ?_, hrun, hended, _, _, rfl, ?_, ⟨_, rfl⟩, hW, hsame.mono (by decide) (by decide)⟩
  · show Steps p.tables e below (s₁.setTop (mkF m 0 #[.val (.int p1), .val (.int p2)] [])) _
    refine st4 _ ?_
    refine XS.iloadN X4.here hx rfl (hb hby d28_3) rfl ?_
    refine XS.i2l X4.here hx rfl (hb hby d28_4) rfl ?_
    refine st8.trans ?_
    show Steps p.tables e below (T8.setTop (mkF m 8 #[.val (.int p1), .val (.int p2)] [(.long (p1.toInt64))])) _
    refine own_pop2 X8.here hx rfl (hb hby d28_8) rfl rfl ?_
    refine st10 _ ?_
    refine XS.iloadN X10.here hx rfl (hb hby d28_12) rfl ?_
    refine XS.i2l X10.here hx rfl (hb hby d28_13) rfl ?_
    refine st14.trans ?_
    show Steps p.tables e below (T14.setTop (mkF m 17 #[.val (.int p1), .val (.int p2)] [(.long (p2.toInt64))])) _
    refine own_pop2 X14.here hx rfl (hb hby d28_17) rfl rfl ?_
    refine st15 _ ?_
    refine XS.dup X15.here hx rfl (hb hby d28_21) rfl rfl ?_
    refine XS.iloadN X15.here hx rfl (hb hby d28_22) rfl ?_
    refine XS.iloadN X15.here hx rfl (hb hby d28_23) rfl ?_
    refine st18.trans ?_
    exact own_retR X18 hx Bd.returns rfl rfl (hb hby d28_27) hr
  · show Q28 Z p1 p2 w3 w5 w6 w7 w9 w11 w12 w13 h0 n0 _ T18.heap _
    exact ⟨b15, rfl, N18, K19, sz_b15, Y18_0, Y18_1, Y18_2⟩
theorem d36_0 : decode jdk_2340_method_17_code 0 = .ok (.aload_n 0, 1) := by decide +kernel
theorem d36_1 : decode jdk_2340_method_17_code 1 = .ok (.getfield 150, 3) := by decide +kernel
theorem d36_4 : decode jdk_2340_method_17_code 4 = .ok (.ireturn, 1) := by decide +kernel
def Q36 (Z : State) (a1 : Addr) (w2 : Int32) (h0 : Heap) (n0 : Nat) (v : Option Value) (h : Heap) (L : List Loc) : Prop := v = some (.int w2) ∧ Fr n0 L ∧ h = h0
theorem ef_36 (m : MethodId) (x0 : Addr) : entryFrame m #[(.ref x0)] 1 = mkF m 0 #[.val (.ref x0)] [] := by first | (simp [entryFrame, mkF, argsToLocals, Value.category]; done) | rfl
theorem rm36 (l : Launch) (Z : State) (a0 : Array Value) (hw : ∀ d ∈ tables_1, d.before a0 Z = true) (ws : List Jvm.Cond) (a1 : Addr) (w2 : Int32) (h0 : Heap) (n0 : Nat) (O0 : Old Z n0 h0) (HF_a1_year : Fld Z h0 a1 "java/time/YearMonth" "year" "I" (.int w2)) :
    own_C l Z (⟨"java/time/YearMonth", "getYear", "()I"⟩ : MethodName) jdk_2340_method_17_code 1 (some .int) ws ({ frames := 0, cells := 0, slots := 0, locals := 0 } : Room) #[(.ref a1)] h0 (Q36 Z a1 w2 h0 n0) := by
  refine MetFree.of_bodySF (plainFor_of_name pnc_java_time_YearMonth) hisR ?_
  intro p e s m args below meth c s₁ Bd hml0 hP hK
  obtain ⟨rfl, hZ, hh⟩ := hP
  have hx := Bd.exec
  have hby := Bd.bytes
  have hml : c.maxLocals = 1 := hml0
  have hown : s.vm.findClass "java/time/YearMonth" = some m.cls := findClass_of_methodNamed Bd.named
  have hnm := (name_of_methodNamed Bd.named Bd.method).1
  have X0 : Stand p l e ({ frames := 0, cells := 0, slots := 0, locals := 0 } : Room) s m #[(.ref a1)] below meth c s₁ [] 0 0 := Stand.of_body Bd
  have e0 : s₁.heap = h0 := by rw [← hh, Bd.state]; rfl
  have N0 := Fr.nil n0
  have Z0 : n0 ≤ h0.size := O0.1 ▸ O0.2.1
  have pre0 : ∀ t, Steps p.tables e below (s₁.setTop (mkF m 0 #[.val (.ref a1)] [])) t → Steps p.tables e below (s₁.setTop (entryFrame m #[(.ref a1)] 1)) t := fun t k => castTop (ef_36 m a1) k
  obtain ⟨T3, X3, e3, st3⟩ := getF X0 hx hZ hown (host := "") (Or.inl (own_w hw 166 rfl)) Via.refl e0 HF_a1_year (g := (mkF m 1 #[.val (.ref a1)] [(.ref a1)])) rfl rfl (hb hby d36_1)
  obtain ⟨fs, hr, hrun, hended, hW, hsame⟩ := X3.leave (v := some (.int w2)) (fun h => by rw [Bd.returns] at h; cases h)
  refine ⟨_, _, pre0 _ ?_, hrun, hended, _, _, rfl, ?_, ⟨_, rfl⟩, hW, hsame.mono (by decide) (by decide)⟩
  · show Steps p.tables e below (s₁.setTop (mkF m 0 #[.val (.ref a1)] [])) _
    refine XS.aloadN X0.here hx rfl (hb hby d36_0) rfl rfl ?_
    refine st3 _ ?_
    exact own_retI X3 hx Bd.returns (hb hby d36_4) hr
  · show Q36 Z a1 w2 h0 n0 _ T3.heap _
    rw [e3]
    exact ⟨rfl, N0, rfl⟩
theorem d37_0 : decode jdk_2340_method_18_code 0 = .ok (.aload_n 0, 1) := by decide +kernel
theorem d37_1 : decode jdk_2340_method_18_code 1 = .ok (.getfield 154, 3) := by decide +kernel
theorem d37_4 : decode jdk_2340_method_18_code 4 = .ok (.ireturn, 1) := by decide +kernel
def Q37 (Z : State) (a1 : Addr) (w2 : Int32) (h0 : Heap) (n0 : Nat) (v : Option Value) (h : Heap) (L : List Loc) : Prop := v = some (.int w2) ∧ Fr n0 L ∧ h = h0
theorem ef_37 (m : MethodId) (x0 : Addr) : entryFrame m #[(.ref x0)] 1 = mkF m 0 #[.val (.ref x0)] [] := by first | (simp [entryFrame, mkF, argsToLocals, Value.category]; done) | rfl
theorem rm37 (l : Launch) (Z : State) (a0 : Array Value) (hw : ∀ d ∈ tables_1, d.before a0 Z = true) (ws : List Jvm.Cond) (a1 : Addr) (w2 : Int32) (h0 : Heap) (n0 : Nat) (O0 : Old Z n0 h0) (HF_a1_month : Fld Z h0 a1 "java/time/YearMonth" "month" "I" (.int w2)) :
    own_C l Z (⟨"java/time/YearMonth", "getMonthValue", "()I"⟩ : MethodName) jdk_2340_method_18_code 1 (some .int) ws ({ frames := 0, cells := 0, slots := 0, locals := 0 } : Room) #[(.ref a1)] h0 (Q37 Z a1 w2 h0 n0) := by
  refine MetFree.of_bodySF (plainFor_of_name pnc_java_time_YearMonth) hisR ?_
  intro p e s m args below meth c s₁ Bd hml0 hP hK
  obtain ⟨rfl, hZ, hh⟩ := hP
  have hx := Bd.exec
  have hby := Bd.bytes
  have hml : c.maxLocals = 1 := hml0
  have hown : s.vm.findClass "java/time/YearMonth" = some m.cls := findClass_of_methodNamed Bd.named
  have hnm := (name_of_methodNamed Bd.named Bd.method).1
  have X0 : Stand p l e ({ frames := 0, cells := 0, slots := 0, locals := 0 } : Room) s m #[(.ref a1)] below meth c s₁ [] 0 0 := Stand.of_body Bd
  have e0 : s₁.heap = h0 := by rw [← hh, Bd.state]; rfl
  have N0 := Fr.nil n0
  have Z0 : n0 ≤ h0.size := O0.1 ▸ O0.2.1
  have pre0 : ∀ t, Steps p.tables e below (s₁.setTop (mkF m 0 #[.val (.ref a1)] [])) t → Steps p.tables e below (s₁.setTop (entryFrame m #[(.ref a1)] 1)) t := fun t k => castTop (ef_37 m a1) k
  obtain ⟨T3, X3, e3, st3⟩ := getF X0 hx hZ hown (host := "") (Or.inl (own_w hw 168 rfl)) Via.refl e0 HF_a1_month (g := (mkF m 1 #[.val (.ref a1)] [(.ref a1)])) rfl rfl (hb hby d37_1)
  obtain ⟨fs, hr, hrun, hended, hW, hsame⟩ := X3.leave (v := some (.int w2)) (fun h => by rw [Bd.returns] at h; cases h)
  refine ⟨_, _, pre0 _ ?_, hrun, hended, _, _, rfl, ?_, ⟨_, rfl⟩, hW, hsame.mono (by decide) (by decide)⟩
  · show Steps p.tables e below (s₁.setTop (mkF m 0 #[.val (.ref a1)] [])) _
    refine XS.aloadN X0.here hx rfl (hb hby d37_0) rfl rfl ?_
    refine st3 _ ?_
    exact own_retI X3 hx Bd.returns (hb hby d37_4) hr
  · show Q37 Z a1 w2 h0 n0 _ T3.heap _
    rw [e3]
    exact ⟨rfl, N0, rfl⟩
def own_mo (c5 c6 : Int32) : Int32 := ((((0 : Int32) + (c5 - (48 : Int32))) * (10 : Int32)) + (c6 - (48 : Int32)))
def own_yr (c0 c1 c2 c3 : Int32) : Int32 := ((((((((0 : Int32) + (c0 - (48 : Int32))) * (10 : Int32)) + (c1 - (48 : Int32))) * (10 : Int32)) + (c2 - (48 : Int32))) * (10 : Int32)) + (c3 - (48 : Int32)))
def own_ok (c0 c1 c2 c3 c4 c5 c6 : Int32) : Prop := c4 = (45 : Int32) ∧ (own_dg c0 ∧ own_dg c1 ∧ own_dg c2 ∧ own_dg c3) ∧ (own_dg c5 ∧ own_dg c6) ∧ ¬ (own_mo c5 c6 < (1 : Int32)) ∧ ¬ ((12 : Int32) < own_mo c5 c6)
theorem d14_0 : decode prog_6_method_4_code 0 = .ok (.aload_n 0, 1) := by decide +kernel
theorem d14_1 : decode prog_6_method_4_code 1 = .ok (.invokevirtual 9, 3) := by decide +kernel
theorem pd_1 : parseMethodDescriptor "()I" = some ⟨[], some .int⟩ := by decide +kernel
theorem d14_4 : decode prog_6_method_4_code 4 = .ok (.bipush 7, 2) := by decide +kernel
theorem d14_6 : decode prog_6_method_4_code 6 = .ok (.if_icmp .ne 32, 3) := by decide +kernel
theorem d14_38 : decode prog_6_method_4_code 38 = .ok (.aconst_null, 1) := by decide +kernel
theorem d14_39 : decode prog_6_method_4_code 39 = .ok (.areturn, 1) := by decide +kernel
def Q14n0 (Z : State) (a1 : Addr) (zC : Int32) (h0 : Heap) (n0 : Nat) (v : Option Value) (h : Heap) (L : List Loc) : Prop := v = some .null ∧ Fr n0 L ∧ h = h0
theorem ef_14 (m : MethodId) (x0 : Addr) : entryFrame m #[(.ref x0)] 2 = mkF m 0 #[.val (.ref x0), .unset] [] := by first | (simp [entryFrame, mkF, argsToLocals, Value.category]; done) | rfl
theorem rm14n0 (l : Launch) (Z : State) (a0 : Array Value) (hw : ∀ d ∈ tables_1, d.before a0 Z = true) (ws : List Jvm.Cond) (a1 : Addr) (zC : Int32) (h0 : Heap) (n0 : Nat) (O0 : Old Z n0 h0) (HT_a1 : own_Str Z h0 h0.size a1 []) (S_COMPACT_STRINGS : Sta Z Z.heap "java/lang/String" "COMPACT_STRINGS" "Z" (.int zC)) (h1_hz : ¬ (zC = (0 : Int32))) :
    own_C l Z (⟨"com/example/vestwright/vestwright/Values", "month", "(Ljava/lang/String;)Ljava/time/YearMonth;"⟩ : MethodName) prog_6_method_4_code 2 (some (.object "java/time/YearMonth")) ws ({ frames := 3, cells := 0, slots := 0, locals := 60 } : Room) #[(.ref a1)] h0 (Q14n0 Z a1 zC h0 n0) := by
  refine MetFree.of_bodySF (plainFor_of_name pnc_com_example_vestwright_vestwright_Values) hisR ?_
  intro p e s m args below meth c s₁ Bd hml0 hP hK
  obtain ⟨rfl, hZ, hh⟩ := hP
  have hx := Bd.exec
  have hby := Bd.bytes
  have hml : c.maxLocals = 2 := hml0
  have hown : s.vm.findClass "com/example/vestwright/vestwright/Values" = some m.cls := findClass_of_methodNamed Bd.named
  have hnm := (name_of_methodNamed Bd.named Bd.method).1
  have X0 : Stand p l e ({ frames := 3, cells := 0, slots := 0, locals := 60 } : Room) s m #[(.ref a1)] below meth c s₁ [] 0 0 := Stand.of_body Bd
  have e0 : s₁.heap = h0 := by rw [← hh, Bd.state]; rfl
  have N0 := Fr.nil n0
  have Z0 : n0 ≤ h0.size := O0.1 ▸ O0.2.1
  have pre0 : ∀ t, Steps p.tables e below (s₁.setTop (mkF m 0 #[.val (.ref a1), .unset] [])) t → Steps p.tables e below (s₁.setTop (entryFrame m #[(.ref a1)] 2)) t := fun t k => castTop (ef_14 m a1) k
  obtain ⟨cq2, kq2, q2a, q2b, q2c⟩ := isOf hZ e0 (own_Str.exa HT_a1)
  obtain ⟨vr2, _, ⟨T2, L2, k2, n2⟩, -, X2, ⟨Lc2, hQ2, l2, y2, z2⟩, st2⟩ := X0.virtualBack hx (y := (⟨"java/lang/String", "length", "()I"⟩ : MethodName)) (z := (⟨"java/lang/String", "length", "()I"⟩ : MethodName)) hown (mvT hZ (own_w hw 61 rfl)) (mvT hZ (own_w hw 62 rfl)) (notFace_of_selects (args := #[]) (mvT hZ (own_w hw 64 rfl))) (mvT hZ (own_w hw 64 rfl)) (mvT hZ (own_w hw 63 rfl)) (by decide) (backOf (W := 0) (rm15n0 l Z a0 hw [] a1 zC h0 n0 O0 (own_Str.top HT_a1) S_COMPACT_STRINGS h1_hz) hZ (own_w hw 65 rfl) (own_w hw 11 rfl) (by decide) (by decide)) q2a q2c (g := (mkF m 1 #[.val (.ref a1), .unset] [(.ref a1)])) rfl (by rw [hml]; rfl) (Steps.refl _) (argsL := []) (rest := []) (lenOf pd_1 rfl) rfl (by show 2 * 0 + _ ≤ _; exact Nat.le_of_eq rfl) (hb hby d14_1) (fun _ _ => ⟨rfl, e0, (by decide : 0 + 0 ≤ _), (by decide : 0 + 0 ≤ _)⟩)
  dsimp only [Pt.U, Pt.locs, Pt.cells, Pt.slots] at X2 l2 y2 z2 st2 hQ2
  subst l2 y2 z2
  obtain ⟨rfl, N2q, e2⟩ := hQ2
  have N2 := Fr.app N0 N2q
  replace X2 := X2.more (cells' := 0) (slots' := 0) (by decide) (by decide)
  obtain ⟨fs, hr, hrun, hended, hW, hsame⟩ := X2.leave (v := some .null) (fun h => by rw [Bd.returns] at h; cases h)
  refine ⟨_, _, pre0 _ ?_, hrun, hended, _, _, rfl, ?_, ⟨_, rfl⟩, hW, hsame.mono (by decide) (by decide)⟩
  · show Steps p.tables e below (s₁.setTop (mkF m 0 #[.val (.ref a1), .unset] [])) _
    refine XS.aloadN X0.here hx rfl (hb hby d14_0) rfl rfl ?_
    refine st2.trans ?_
    refine XS.bipush X2.here hx rfl (hb hby d14_4) ?_
    refine XS.icmpYes X2.here hx rfl (pc0 := 6) (pc' := 38) rfl (hb hby d14_6) rfl (feq (by decide : ¬ ((0 : Int32) = (7 : Int32)))).2 (by decide) (by decide) ?_
    refine XS.aconstNull X2.here hx rfl (hb hby d14_38) ?_
    exact own_retR X2 hx Bd.returns rfl rfl (hb hby d14_39) hr
  · show Q14n0 Z a1 zC h0 n0 _ T2.heap _
    rw [e2]
    exact ⟨rfl, N2, rfl⟩
def Q14n6 (Z : State) (a1 : Addr) (c0 c1 c2 c3 c4 c5 zC : Int32) (h0 : Heap) (n0 : Nat) (v : Option Value) (h : Heap) (L : List Loc) : Prop := v = some .null ∧ Fr n0 L ∧ h = h0
theorem rm14n6 (l : Launch) (Z : State) (a0 : Array Value) (hw : ∀ d ∈ tables_1, d.before a0 Z = true) (ws : List Jvm.Cond) (a1 : Addr) (c0 c1 c2 c3 c4 c5 zC : Int32) (h0 : Heap) (n0 : Nat) (O0 : Old Z n0 h0) (HT_a1 : own_Str Z h0 h0.size a1 [c0, c1, c2, c3, c4, c5]) (S_COMPACT_STRINGS : Sta Z Z.heap "java/lang/String" "COMPACT_STRINGS" "Z" (.int zC)) (h1_hz : ¬ (zC = (0 : Int32))) :
    own_C l Z (⟨"com/example/vestwright/vestwright/Values", "month", "(Ljava/lang/String;)Ljava/time/YearMonth;"⟩ : MethodName) prog_6_method_4_code 2 (some (.object "java/time/YearMonth")) ws ({ frames := 3, cells := 0, slots := 0, locals := 60 } : Room) #[(.ref a1)] h0 (Q14n6 Z a1 c0 c1 c2 c3 c4 c5 zC h0 n0) := by
  refine MetFree.of_bodySF (plainFor_of_name pnc_com_example_vestwright_vestwright_Values) hisR ?_
  intro p e s m args below meth c s₁ Bd hml0 hP hK
  obtain ⟨rfl, hZ, hh⟩ := hP
  have hx := Bd.exec
  have hby := Bd.bytes
  have hml : c.maxLocals = 2 := hml0
  have hown : s.vm.findClass "com/example/vestwright/vestwright/Values" = some m.cls := findClass_of_methodNamed Bd.named
  have hnm := (name_of_methodNamed Bd.named Bd.method).1
  have X0 : Stand p l e ({ frames := 3, cells := 0, slots := 0, locals := 60 } : Room) s m #[(.ref a1)] below meth c s₁ [] 0 0 := Stand.of_body Bd
  have e0 : s₁.heap = h0 := by rw [← hh, Bd.state]; rfl
  have N0 := Fr.nil n0
  have Z0 : n0 ≤ h0.size := O0.1 ▸ O0.2.1
  have pre0 : ∀ t, Steps p.tables e below (s₁.setTop (mkF m 0 #[.val (.ref a1), .unset] [])) t → Steps p.tables e below (s₁.setTop (entryFrame m #[(.ref a1)] 2)) t := fun t k => castTop (ef_14 m a1) k
  obtain ⟨cq2, kq2, q2a, q2b, q2c⟩ := isOf hZ e0 (own_Str.exa HT_a1)
  obtain ⟨vr2, _, ⟨T2, L2, k2, n2⟩, -, X2, ⟨Lc2, hQ2, l2, y2, z2⟩, st2⟩ := X0.virtualBack hx (y := (⟨"java/lang/String", "length", "()I"⟩ : MethodName)) (z := (⟨"java/lang/String", "length", "()I"⟩ : MethodName)) hown (mvT hZ (own_w hw 61 rfl)) (mvT hZ (own_w hw 62 rfl)) (notFace_of_selects (args := #[]) (mvT hZ (own_w hw 64 rfl))) (mvT hZ (own_w hw 64 rfl)) (mvT hZ (own_w hw 63 rfl)) (by decide) (backOf (W := 0) (rm15n6 l Z a0 hw [] a1 c0 c1 c2 c3 c4 c5 zC h0 n0 O0 (own_Str.top HT_a1) S_COMPACT_STRINGS h1_hz) hZ (own_w hw 65 rfl) (own_w hw 11 rfl) (by decide) (by decide)) q2a q2c (g := (mkF m 1 #[.val (.ref a1), .unset] [(.ref a1)])) rfl (by rw [hml]; rfl) (Steps.refl _) (argsL := []) (rest := []) (lenOf pd_1 rfl) rfl (by show 2 * 0 + _ ≤ _; exact Nat.le_of_eq rfl) (hb hby d14_1) (fun _ _ => ⟨rfl, e0, (by decide : 0 + 0 ≤ _), (by decide : 0 + 0 ≤ _)⟩)
  dsimp only [Pt.U, Pt.locs, Pt.cells, Pt.slots] at X2 l2 y2 z2 st2 hQ2
  subst l2 y2 z2
  obtain ⟨rfl, N2q, e2⟩ := hQ2
  have N2 := Fr.app N0 N2q
  replace X2 := X2.more (cells' := 0) (slots' := 0) (by decide) (by decide)
  obtain ⟨fs, hr, hrun, hended, hW, hsame⟩ := X2.leave (v := some .null) (fun h => by rw [Bd.returns] at h; cases h)
  refine ⟨_, _, pre0 _ ?_, hrun, hended, _, _, rfl, ?_, ⟨_, rfl⟩, hW, hsame.mono (by decide) (by decide)⟩
  · show Steps p.tables e below (s₁.setTop (mkF m 0 #[.val (.ref a1), .unset] [])) _
    refine XS.aloadN X0.here hx rfl (hb hby d14_0) rfl rfl ?_
    refine st2.trans ?_
    refine XS.bipush X2.here hx rfl (hb hby d14_4) ?_
    refine XS.icmpYes X2.here hx rfl (pc0 := 6) (pc' := 38) rfl (hb hby d14_6) rfl (feq (by decide : ¬ ((6 : Int32) = (7 : Int32)))).2 (by decide) (by decide) ?_
    refine XS.aconstNull X2.here hx rfl (hb hby d14_38) ?_
    exact own_retR X2 hx Bd.returns rfl rfl (hb hby d14_39) hr
  · show Q14n6 Z a1 c0 c1 c2 c3 c4 c5 zC h0 n0 _ T2.heap _
    rw [e2]
    exact ⟨rfl, N2, rfl⟩
def Q14n8 (Z : State) (a1 : Addr) (c0 c1 c2 c3 c4 c5 c6 c7 zC : Int32) (h0 : Heap) (n0 : Nat) (v : Option Value) (h : Heap) (L : List Loc) : Prop := v = some .null ∧ Fr n0 L ∧ h = h0
theorem rm14n8 (l : Launch) (Z : State) (a0 : Array Value) (hw : ∀ d ∈ tables_1, d.before a0 Z = true) (ws : List Jvm.Cond) (a1 : Addr) (c0 c1 c2 c3 c4 c5 c6 c7 zC : Int32) (h0 : Heap) (n0 : Nat) (O0 : Old Z n0 h0) (HT_a1 : own_Str Z h0 h0.size a1 [c0, c1, c2, c3, c4, c5, c6, c7]) (S_COMPACT_STRINGS : Sta Z Z.heap "java/lang/String" "COMPACT_STRINGS" "Z" (.int zC)) (h1_hz : ¬ (zC = (0 : Int32))) :
    own_C l Z (⟨"com/example/vestwright/vestwright/Values", "month", "(Ljava/lang/String;)Ljava/time/YearMonth;"⟩ : MethodName) prog_6_method_4_code 2 (some (.object "java/time/YearMonth")) ws ({ frames := 3, cells := 0, slots := 0, locals := 60 } : Room) #[(.ref a1)] h0 (Q14n8 Z a1 c0 c1 c2 c3 c4 c5 c6 c7 zC h0 n0) := by
  refine MetFree.of_bodySF (plainFor_of_name pnc_com_example_vestwright_vestwright_Values) hisR ?_
  intro p e s m args below meth c s₁ Bd hml0 hP hK
  obtain ⟨rfl, hZ, hh⟩ := hP
  have hx := Bd.exec
  have hby := Bd.bytes
  have hml : c.maxLocals = 2 := hml0
  have hown : s.vm.findClass "com/example/vestwright/vestwright/Values" = some m.cls := findClass_of_methodNamed Bd.named
  have hnm := (name_of_methodNamed Bd.named Bd.method).1
  have X0 : Stand p l e ({ frames := 3, cells := 0, slots := 0, locals := 60 } : Room) s m #[(.ref a1)] below meth c s₁ [] 0 0 := Stand.of_body Bd
  have e0 : s₁.heap = h0 := by rw [← hh, Bd.state]; rfl
  have N0 := Fr.nil n0
  have Z0 : n0 ≤ h0.size := O0.1 ▸ O0.2.1
  have pre0 : ∀ t, Steps p.tables e below (s₁.setTop (mkF m 0 #[.val (.ref a1), .unset] [])) t → Steps p.tables e below (s₁.setTop (entryFrame m #[(.ref a1)] 2)) t := fun t k => castTop (ef_14 m a1) k
  obtain ⟨cq2, kq2, q2a, q2b, q2c⟩ := isOf hZ e0 (own_Str.exa HT_a1)
  obtain ⟨vr2, _, ⟨T2, L2, k2, n2⟩, -, X2, ⟨Lc2, hQ2, l2, y2, z2⟩, st2⟩ := X0.virtualBack hx (y := (⟨"java/lang/String", "length", "()I"⟩ : MethodName)) (z := (⟨"java/lang/String", "length", "()I"⟩ : MethodName)) hown (mvT hZ (own_w hw 61 rfl)) (mvT hZ (own_w hw 62 rfl)) (notFace_of_selects (args := #[]) (mvT hZ (own_w hw 64 rfl))) (mvT hZ (own_w hw 64 rfl)) (mvT hZ (own_w hw 63 rfl)) (by decide) (backOf (W := 0) (rm15n8 l Z a0 hw [] a1 c0 c1 c2 c3 c4 c5 c6 c7 zC h0 n0 O0 (own_Str.top HT_a1) S_COMPACT_STRINGS h1_hz) hZ (own_w hw 65 rfl) (own_w hw 11 rfl) (by decide) (by decide)) q2a q2c (g := (mkF m 1 #[.val (.ref a1), .unset] [(.ref a1)])) rfl (by rw [hml]; rfl) (Steps.refl _) (argsL := []) (rest := []) (lenOf pd_1 rfl) rfl (by show 2 * 0 + _ ≤ _; exact Nat.le_of_eq rfl) (hb hby d14_1) (fun _ _ => ⟨rfl, e0, (by decide : 0 + 0 ≤ _), (by decide : 0 + 0 ≤ _)⟩)
  dsimp only [Pt.U, Pt.locs, Pt.cells, Pt.slots] at X2 l2 y2 z2 st2 hQ2
  subst l2 y2 z2
  obtain ⟨rfl, N2q, e2⟩ := hQ2
  have N2 := Fr.app N0 N2q
  replace X2 := X2.more (cells' := 0) (slots' := 0) (by decide) (by decide)
  obtain ⟨fs, hr, hrun, hended, hW, hsame⟩ := X2.leave (v := some .null) (fun h => by rw [Bd.returns] at h; cases h)
  refine ⟨_, _, pre0 _ ?_, hrun, hended, _, _, rfl, ?_, ⟨_, rfl⟩, hW, hsame.mono (by decide) (by decide)⟩
  · show Steps p.tables e below (s₁.setTop (mkF m 0 #[.val (.ref a1), .unset] [])) _
    refine XS.aloadN X0.here hx rfl (hb hby d14_0) rfl rfl ?_
    refine st2.trans ?_
    refine XS.bipush X2.here hx rfl (hb hby d14_4) ?_
    refine XS.icmpYes X2.here hx rfl (pc0 := 6) (pc' := 38) rfl (hb hby d14_6) rfl (feq (by decide : ¬ ((8 : Int32) = (7 : Int32)))).2 (by decide) (by decide) ?_
    refine XS.aconstNull X2.here hx rfl (hb hby d14_38) ?_
    exact own_retR X2 hx Bd.returns rfl rfl (hb hby d14_39) hr
  · show Q14n8 Z a1 c0 c1 c2 c3 c4 c5 c6 c7 zC h0 n0 _ T2.heap _
    rw [e2]
    exact ⟨rfl, N2, rfl⟩
theorem d14_9 : decode prog_6_method_4_code 9 = .ok (.aload_n 0, 1) := by decide +kernel
theorem d14_10 : decode prog_6_method_4_code 10 = .ok (.iconst 4, 1) := by decide +kernel
theorem d14_11 : decode prog_6_method_4_code 11 = .ok (.invokevirtual 15, 3) := by decide +kernel
theorem d14_14 : decode prog_6_method_4_code 14 = .ok (.bipush 45, 2) := by decide +kernel
theorem d14_16 : decode prog_6_method_4_code 16 = .ok (.if_icmp .ne 22, 3) := by decide +kernel
def Q14d (Z : State) (a1 : Addr) (c0 c1 c2 c3 c4 c5 c6 zC : Int32) (fm : Value) (h0 : Heap) (n0 : Nat) (v : Option Value) (h : Heap) (L : List Loc) : Prop := v = some .null ∧ Fr n0 L ∧ h = h0
theorem rm14d (l : Launch) (Z : State) (a0 : Array Value) (hw : ∀ d ∈ tables_1, d.before a0 Z = true) (ws : List Jvm.Cond) (a1 : Addr) (c0 c1 c2 c3 c4 c5 c6 zC : Int32) (fm : Value) (h0 : Heap) (n0 : Nat) (O0 : Old Z n0 h0) (HT_a1 : own_Str Z h0 h0.size a1 [c0, c1, c2, c3, c4, c5, c6]) (S_COMPACT_STRINGS : Sta Z Z.heap "java/lang/String" "COMPACT_STRINGS" "Z" (.int zC)) (h1_hz : ¬ (zC = (0 : Int32))) (S_SIOOBE_FORMATTER : Sta Z Z.heap "jdk/internal/util/Preconditions" "SIOOBE_FORMATTER" "Ljava/util/function/BiFunction;" fm) (S__assertionsDisabled : Sta Z Z.heap "java/lang/StringUTF16" "$assertionsDisabled" "Z" (.int 1)) (S_HI_BYTE_SHIFT : Sta Z Z.heap "java/lang/StringUTF16" "HI_BYTE_SHIFT" "I" (.int 0)) (S_LO_BYTE_SHIFT : Sta Z Z.heap "java/lang/StringUTF16" "LO_BYTE_SHIFT" "I" (.int 8)) (h11_hrfm : fm.isRef = true) (hc16 : ¬ (c4 = (45 : Int32))) :
    own_C l Z (⟨"com/example/vestwright/vestwright/Values", "month", "(Ljava/lang/String;)Ljava/time/YearMonth;"⟩ : MethodName) prog_6_method_4_code 2 (some (.object "java/time/YearMonth")) ws ({ frames := 8, cells := 0, slots := 0, locals := 170 } : Room) #[(.ref a1)] h0 (Q14d Z a1 c0 c1 c2 c3 c4 c5 c6 zC fm h0 n0) := by
  refine MetFree.of_bodySF (plainFor_of_name pnc_com_example_vestwright_vestwright_Values) hisR ?_
  intro p e s m args below meth c s₁ Bd hml0 hP hK
  obtain ⟨rfl, hZ, hh⟩ := hP
  have hx := Bd.exec
  have hby := Bd.bytes
  have hml : c.maxLocals = 2 := hml0
  have hown : s.vm.findClass "com/example/vestwright/vestwright/Values" = some m.cls := findClass_of_methodNamed Bd.named
  have hnm := (name_of_methodNamed Bd.named Bd.method).1
  have X0 : Stand p l e ({ frames := 8, cells := 0, slots := 0, locals := 170 } : Room) s m #[(.ref a1)] below meth c s₁ [] 0 0 := Stand.of_body Bd
  have e0 : s₁.heap = h0 := by rw [← hh, Bd.state]; rfl
  have N0 := Fr.nil n0
  have Z0 : n0 ≤ h0.size := O0.1 ▸ O0.2.1
  have pre0 : ∀ t, Steps p.tables e below (s₁.setTop (mkF m 0 #[.val (.ref a1), .unset] [])) t → Steps p.tables e below (s₁.setTop (entryFrame m #[(.ref a1)] 2)) t := fun t k => castTop (ef_14 m a1) k
  obtain ⟨cq2, kq2, q2a, q2b, q2c⟩ := isOf hZ e0 (own_Str.exa HT_a1)
  obtain ⟨vr2, _, ⟨T2, L2, k2, n2⟩, -, X2, ⟨Lc2, hQ2, l2, y2, z2⟩, st2⟩ := X0.virtualBack hx (y := (⟨"java/lang/String", "length", "()I"⟩ : MethodName)) (z := (⟨"java/lang/String", "length", "()I"⟩ : MethodName)) hown (mvT hZ (own_w hw 61 rfl)) (mvT hZ (own_w hw 62 rfl)) (notFace_of_selects (args := #[]) (mvT hZ (own_w hw 64 rfl))) (mvT hZ (own_w hw 64 rfl)) (mvT hZ (own_w hw 63 rfl)) (by decide) (backOf (W := 0) (rm15n7 l Z a0 hw [] a1 c0 c1 c2 c3 c4 c5 c6 zC h0 n0 O0 (own_Str.top HT_a1) S_COMPACT_STRINGS h1_hz) hZ (own_w hw 65 rfl) (own_w hw 11 rfl) (by decide) (by decide)) q2a q2c (g := (mkF m 1 #[.val (.ref a1), .unset] [(.ref a1)])) rfl (by rw [hml]; rfl) (Steps.refl _) (argsL := []) (rest := []) (lenOf pd_1 rfl) rfl (by show 2 * 0 + _ ≤ _; exact Nat.le_of_eq rfl) (hb hby d14_1) (fun _ _ => ⟨rfl, e0, (by decide : 0 + 0 ≤ _), (by decide : 0 + 0 ≤ _)⟩)
  dsimp only [Pt.U, Pt.locs, Pt.cells, Pt.slots] at X2 l2 y2 z2 st2 hQ2
  subst l2 y2 z2
  obtain ⟨rfl, N2q, e2⟩ := hQ2
  have N2 := Fr.app N0 N2q
  replace X2 := X2.more (cells' := 0) (slots' := 0) (by decide) (by decide)
  obtain ⟨cq3, kq3, q3a, q3b, q3c⟩ := isOf hZ e2 (own_Str.exa HT_a1)
  obtain ⟨vr3, _, ⟨T3, L3, k3, n3⟩, -, X3, ⟨Lc3, hQ3, l3, y3, z3⟩, st3⟩ := X2.virtualBack hx (y := (⟨"java/lang/String", "charAt", "(I)C"⟩ : MethodName)) (z := (⟨"java/lang/String", "charAt", "(I)C"⟩ : MethodName)) hown (mvT hZ (own_w hw 71 rfl)) (mvT hZ (own_w hw 72 rfl)) (notFace_of_selects (args := #[]) (mvT hZ (own_w hw 74 rfl))) (mvT hZ (own_w hw 74 rfl)) (mvT hZ (own_w hw 73 rfl)) (by decide) (backOf (W := 0) (rm17i4 l Z a0 hw [] a1 c0 c1 c2 c3 c4 c5 c6 zC fm h0 n0 O0 (own_Str.top HT_a1) S_COMPACT_STRINGS S_SIOOBE_FORMATTER S__assertionsDisabled S_HI_BYTE_SHIFT S_LO_BYTE_SHIFT h1_hz h11_hrfm) hZ (own_w hw 75 rfl) (own_w hw 11 rfl) (by decide) (by decide)) q3a q3c (g := (mkF m 11 #[.val (.ref a1), .unset] [(.int 4), (.ref a1)])) rfl (by rw [hml]; rfl) (Steps.refl _) (argsL := [(.int 4)]) (rest := []) (lenOf pd_7 rfl) rfl (by show 2 * 0 + _ ≤ _; exact Nat.le_of_eq rfl) (hb hby d14_11) (fun _ _ => ⟨rfl, e2, (by decide : 0 + 0 ≤ _), (by decide : 0 + 0 ≤ _)⟩)
  dsimp only [Pt.U, Pt.locs, Pt.cells, Pt.slots] at X3 l3 y3 z3 st3 hQ3
  subst l3 y3 z3
  obtain ⟨rfl, N3q, e3⟩ := hQ3
  have N3 := Fr.app N2 N3q
  replace X3 := X3.more (cells' := 0) (slots' := 0) (by decide) (by decide)
  obtain ⟨fs, hr, hrun, hended, hW, hsame⟩ := X3.leave (v := some .null) (fun h => by rw [Bd.returns] at h; cases h)
  refine ⟨_, _, pre0 _ ?_, hrun, hended, _, _, rfl, ?_, ⟨_, rfl⟩, hW, hsame.mono (by decide) (by decide)⟩
  · show Steps p.tables e below (s₁.setTop (mkF m 0 #[.val (.ref a1), .unset] [])) _
    refine XS.aloadN X0.here hx rfl (hb hby d14_0) rfl rfl ?_
    refine st2.trans ?_
    refine XS.bipush X2.here hx rfl (hb hby d14_4) ?_
    refine XS.icmpNo X2.here hx rfl (hb hby d14_6) rfl (teq (by decide : (7 : Int32) = (7 : Int32))).2 ?_
    refine XS.aloadN X2.here hx rfl (hb hby d14_9) rfl rfl ?_
    refine XS.iconst X2.here hx rfl (hb hby d14_10) ?_
    refine st3.trans ?_
    refine XS.bipush X3.here hx rfl (hb hby d14_14) ?_
    refine XS.icmpYes X3.here hx rfl (pc0 := 16) (pc' := 38) rfl (hb hby d14_16) rfl (feq hc16).2 (by decide) (by decide) ?_
    refine XS.aconstNull X3.here hx rfl (hb hby d14_38) ?_
    exact own_retR X3 hx Bd.returns rfl rfl (hb hby d14_39) hr
  · show Q14d Z a1 c0 c1 c2 c3 c4 c5 c6 zC fm h0 n0 _ T3.heap _
    rw [e3]
    exact ⟨rfl, N3, rfl⟩
theorem d14_19 : decode prog_6_method_4_code 19 = .ok (.aload_n 0, 1) := by decide +kernel
theorem d14_20 : decode prog_6_method_4_code 20 = .ok (.iconst 0, 1) := by decide +kernel
theorem d14_21 : decode prog_6_method_4_code 21 = .ok (.iconst 4, 1) := by decide +kernel
theorem d14_22 : decode prog_6_method_4_code 22 = .ok (.invokestatic 19, 3) := by decide +kernel
theorem pd_21 : parseMethodDescriptor "(Ljava/lang/String;II)Z" = some ⟨[(.object "java/lang/String"), .int, .int], some .boolean⟩ := by decide +kernel
theorem d14_25 : decode prog_6_method_4_code 25 = .ok (.ifCond .eq 13, 3) := by decide +kernel
def Q14e (Z : State) (a1 : Addr) (c0 c1 c2 c3 c4 c5 c6 zC : Int32) (fm : Value) (h0 : Heap) (n0 : Nat) (v : Option Value) (h : Heap) (L : List Loc) : Prop := v = some .null ∧ Fr n0 L ∧ h = h0
theorem rm14e (l : Launch) (Z : State) (a0 : Array Value) (hw : ∀ d ∈ tables_1, d.before a0 Z = true) (ws : List Jvm.Cond) (a1 : Addr) (c0 c1 c2 c3 c4 c5 c6 zC : Int32) (fm : Value) (h0 : Heap) (n0 : Nat) (O0 : Old Z n0 h0) (HT_a1 : own_Str Z h0 h0.size a1 [c0, c1, c2, c3, c4, c5, c6]) (S_COMPACT_STRINGS : Sta Z Z.heap "java/lang/String" "COMPACT_STRINGS" "Z" (.int zC)) (h1_hz : ¬ (zC = (0 : Int32))) (S_SIOOBE_FORMATTER : Sta Z Z.heap "jdk/internal/util/Preconditions" "SIOOBE_FORMATTER" "Ljava/util/function/BiFunction;" fm) (S__assertionsDisabled : Sta Z Z.heap "java/lang/StringUTF16" "$assertionsDisabled" "Z" (.int 1)) (S_HI_BYTE_SHIFT : Sta Z Z.heap "java/lang/StringUTF16" "HI_BYTE_SHIFT" "I" (.int 0)) (S_LO_BYTE_SHIFT : Sta Z Z.heap "java/lang/StringUTF16" "LO_BYTE_SHIFT" "I" (.int 8)) (h11_hrfm : fm.isRef = true) (hc16 : c4 = (45 : Int32)) (h22_h2_hbad : ¬ (own_dg c0 ∧ own_dg c1 ∧ own_dg c2 ∧ own_dg c3)) :
    own_C l Z (⟨"com/example/vestwright/vestwright/Values", "month", "(Ljava/lang/String;)Ljava/time/YearMonth;"⟩ : MethodName) prog_6_method_4_code 2 (some (.object "java/time/YearMonth")) ws ({ frames := 8, cells := 0, slots := 0, locals := 170 } : Room) #[(.ref a1)] h0 (Q14e Z a1 c0 c1 c2 c3 c4 c5 c6 zC fm h0 n0) := by
  refine MetFree.of_bodySF (plainFor_of_name pnc_com_example_vestwright_vestwright_Values) hisR ?_
  intro p e s m args below meth c s₁ Bd hml0 hP hK
  obtain ⟨rfl, hZ, hh⟩ := hP
  have hx := Bd.exec
  have hby := Bd.bytes
  have hml : c.maxLocals = 2 := hml0
  have hown : s.vm.findClass "com/example/vestwright/vestwright/Values" = some m.cls := findClass_of_methodNamed Bd.named
  have hnm := (name_of_methodNamed Bd.named Bd.method).1
  have X0 : Stand p l e ({ frames := 8, cells := 0, slots := 0, locals := 170 } : Room) s m #[(.ref a1)] below meth c s₁ [] 0 0 := Stand.of_body Bd
  have e0 : s₁.heap = h0 := by rw [← hh, Bd.state]; rfl
  have N0 := Fr.nil n0
  have Z0 : n0 ≤ h0.size := O0.1 ▸ O0.2.1
  have pre0 : ∀ t, Steps p.tables e below (s₁.setTop (mkF m 0 #[.val (.ref a1), .unset] [])) t → Steps p.tables e below (s₁.setTop (entryFrame m #[(.ref a1)] 2)) t := fun t k => castTop (ef_14 m a1) k
  obtain ⟨cq2, kq2, q2a, q2b, q2c⟩ := isOf hZ e0 (own_Str.exa HT_a1)
  obtain ⟨vr2, _, ⟨T2, L2, k2, n2⟩, -, X2, ⟨Lc2, hQ2, l2, y2, z2⟩, st2⟩ := X0.virtualBack hx (y := (⟨"java/lang/String", "length", "()I"⟩ : MethodName)) (z := (⟨"java/lang/String", "length", "()I"⟩ : MethodName)) hown (mvT hZ (own_w hw 61 rfl)) (mvT hZ (own_w hw 62 rfl)) (notFace_of_selects (args := #[]) (mvT hZ (own_w hw 64 rfl))) (mvT hZ (own_w hw 64 rfl)) (mvT hZ (own_w hw 63 rfl)) (by decide) (backOf (W := 0) (rm15n7 l Z a0 hw [] a1 c0 c1 c2 c3 c4 c5 c6 zC h0 n0 O0 (own_Str.top HT_a1) S_COMPACT_STRINGS h1_hz) hZ (own_w hw 65 rfl) (own_w hw 11 rfl) (by decide) (by decide)) q2a q2c (g := (mkF m 1 #[.val (.ref a1), .unset] [(.ref a1)])) rfl (by rw [hml]; rfl) (Steps.refl _) (argsL := []) (rest := []) (lenOf pd_1 rfl) rfl (by show 2 * 0 + _ ≤ _; exact Nat.le_of_eq rfl) (hb hby d14_1) (fun _ _ => ⟨rfl, e0, (by decide : 0 + 0 ≤ _), (by decide : 0 + 0 ≤ _)⟩)
  dsimp only [Pt.U, Pt.locs, Pt.cells, Pt.slots] at X2 l2 y2 z2 st2 hQ2
  subst l2 y2 z2
  obtain ⟨rfl, N2q, e2⟩ := hQ2
  have N2 := Fr.app N0 N2q
  replace X2 := X2.more (cells' := 0) (slots' := 0) (by decide) (by decide)
  obtain ⟨cq3, kq3, q3a, q3b, q3c⟩ := isOf hZ e2 (own_Str.exa HT_a1)
  obtain ⟨vr3, _, ⟨T3, L3, k3, n3⟩, -, X3, ⟨Lc3, hQ3, l3, y3, z3⟩, st3⟩ := X2.virtualBack hx (y := (⟨"java/lang/String", "charAt", "(I)C"⟩ : MethodName)) (z := (⟨"java/lang/String", "charAt", "(I)C"⟩ : MethodName)) hown (mvT hZ (own_w hw 71 rfl)) (mvT hZ (own_w hw 72 rfl)) (notFace_of_selects (args := #[]) (mvT hZ (own_w hw 74 rfl))) (mvT hZ (own_w hw 74 rfl)) (mvT hZ (own_w hw 73 rfl)) (by decide) (backOf (W := 0) (rm17i4 l Z a0 hw [] a1 c0 c1 c2 c3 c4 c5 c6 zC fm h0 n0 O0 (own_Str.top HT_a1) S_COMPACT_STRINGS S_SIOOBE_FORMATTER S__assertionsDisabled S_HI_BYTE_SHIFT S_LO_BYTE_SHIFT h1_hz h11_hrfm) hZ (own_w hw 75 rfl) (own_w hw 11 rfl) (by decide) (by decide)) q3a q3c (g := (mkF m 11 #[.val (.ref a1), .unset] [(.int 4), (.ref a1)])) rfl (by rw [hml]; rfl) (Steps.refl _) (argsL := [(.int 4)]) (rest := []) (lenOf pd_7 rfl) rfl (by show 2 * 0 + _ ≤ _; exact Nat.le_of_eq rfl) (hb hby d14_11) (fun _ _ => ⟨rfl, e2, (by decide : 0 + 0 ≤ _), (by decide : 0 + 0 ≤ _)⟩)
  dsimp only [Pt.U, Pt.locs, Pt.cells, Pt.slots] at X3 l3 y3 z3 st3 hQ3
  subst l3 y3 z3
  obtain ⟨rfl, N3q, e3⟩ := hQ3
  have N3 := Fr.app N2 N3q
  replace X3 := X3.more (cells' := 0) (slots' := 0) (by decide) (by decide)
  obtain ⟨vr4, _, ⟨T4, L4, k4, n4⟩, -, X4, ⟨Lc4, hQ4, l4, y4, z4⟩, st4⟩ := Jvm.LawKit.callS X3 hx (y := (⟨"com/example/vestwright/vestwright/Values", "digits", "(Ljava/lang/String;II)Z"⟩ : MethodName)) hown (mvT hZ (own_w hw 106 rfl)) (mvT hZ (own_w hw 107 rfl)) (mvT hZ (own_w hw 59 rfl)) (mvT hZ (own_w hw 108 rfl)) (by decide) (backOf (W := 0) (rm25a0F l Z a0 hw [] a1 c0 c1 c2 c3 c4 c5 c6 zC fm h0 n0 O0 (own_Str.top HT_a1) S_COMPACT_STRINGS S_SIOOBE_FORMATTER S__assertionsDisabled S_HI_BYTE_SHIFT S_LO_BYTE_SHIFT h1_hz h11_hrfm h22_h2_hbad) hZ (own_w hw 108 rfl) (own_w hw 59 rfl) (by decide) (by decide)) (g := (mkF m 22 #[.val (.ref a1), .unset] [(.int 4), (.int 0), (.ref a1)])) rfl (by rw [hml]; rfl) (argsL := [(.ref a1), (.int 0), (.int 4)]) (rest := []) (lenOf pd_21 rfl) rfl (by show 2 * 0 + _ ≤ _; exact Nat.le_of_eq rfl) (hb hby d14_22) (fun _ _ => ⟨rfl, e3, (by decide : 0 + 0 ≤ _), (by decide : 0 + 0 ≤ _)⟩)
  dsimp only [Pt.U, Pt.locs, Pt.cells, Pt.slots] at X4 l4 y4 z4 st4 hQ4
  subst l4 y4 z4
  obtain ⟨rfl, N4q, e4⟩ := hQ4
  have N4 := Fr.app N3 N4q
  replace X4 := X4.more (cells' := 0) (slots' := 0) (by decide) (by decide)
  obtain ⟨fs, hr, hrun, hended, hW, hsame⟩ := X4.leave (v := some .null) (fun h => by rw [Bd.returns] at h; cases h)
  refine ⟨_, _, pre0 _ ?_, hrun, hended, _, _, rfl, ?_, ⟨_, rfl⟩, hW, hsame.mono (by decide) (by decide)⟩
  · show Steps p.tables e below (s₁.setTop (mkF m 0 #[.val (.ref a1), .unset] [])) _
    refine XS.aloadN X0.here hx rfl (hb hby d14_0) rfl rfl ?_
    refine st2.trans ?_
    refine XS.bipush X2.here hx rfl (hb hby d14_4) ?_
    refine XS.icmpNo X2.here hx rfl (hb hby d14_6) rfl (teq (by decide : (7 : Int32) = (7 : Int32))).2 ?_
    refine XS.aloadN X2.here hx rfl (hb hby d14_9) rfl rfl ?_
    refine XS.iconst X2.here hx rfl (hb hby d14_10) ?_
    refine st3.trans ?_
    refine XS.bipush X3.here hx rfl (hb hby d14_14) ?_
    refine XS.icmpNo X3.here hx rfl (hb hby d14_16) rfl (teq hc16).2 ?_
    refine XS.aloadN X3.here hx rfl (hb hby d14_19) rfl rfl ?_
    refine XS.iconst X3.here hx rfl (hb hby d14_20) ?_
    refine XS.iconst X3.here hx rfl (hb hby d14_21) ?_
    refine st4 _ ?_
    refine XS.ifYes X4.here hx rfl (pc0 := 25) (pc' := 38) rfl (hb hby d14_25) rfl ((if0 _ _).trans (teq (by decide : (0 : Int32) = (0 : Int32))).1) (by decide) (by decide) ?_
    refine XS.aconstNull X4.here hx rfl (hb hby d14_38) ?_
    exact own_retR X4 hx Bd.returns rfl rfl (hb hby d14_39) hr
  · show Q14e Z a1 c0 c1 c2 c3 c4 c5 c6 zC fm h0 n0 _ T4.heap _
    rw [e4]
    exact ⟨rfl, N4, rfl⟩
theorem d14_28 : decode prog_6_method_4_code 28 = .ok (.aload_n 0, 1) := by decide +kernel
theorem d14_29 : decode prog_6_method_4_code 29 = .ok (.iconst 5, 1) := by decide +kernel
theorem d14_30 : decode prog_6_method_4_code 30 = .ok (.bipush 7, 2) := by decide +kernel
theorem d14_32 : decode prog_6_method_4_code 32 = .ok (.invokestatic 19, 3) := by decide +kernel
theorem d14_35 : decode prog_6_method_4_code 35 = .ok (.ifCond .ne 5, 3) := by decide +kernel
def Q14f (Z : State) (a1 : Addr) (c0 c1 c2 c3 c4 c5 c6 zC : Int32) (fm : Value) (h0 : Heap) (n0 : Nat) (v : Option Value) (h : Heap) (L : List Loc) : Prop := v = some .null ∧ Fr n0 L ∧ h = h0
theorem rm14f (l : Launch) (Z : State) (a0 : Array Value) (hw : ∀ d ∈ tables_1, d.before a0 Z = true) (ws : List Jvm.Cond) (a1 : Addr) (c0 c1 c2 c3 c4 c5 c6 zC : Int32) (fm : Value) (h0 : Heap) (n0 : Nat) (O0 : Old Z n0 h0) (HT_a1 : own_Str Z h0 h0.size a1 [c0, c1, c2, c3, c4, c5, c6]) (S_COMPACT_STRINGS : Sta Z Z.heap "java/lang/String" "COMPACT_STRINGS" "Z" (.int zC)) (h1_hz : ¬ (zC = (0 : Int32))) (S_SIOOBE_FORMATTER : Sta Z Z.heap "jdk/internal/util/Preconditions" "SIOOBE_FORMATTER" "Ljava/util/function/BiFunction;" fm) (S__assertionsDisabled : Sta Z Z.heap "java/lang/StringUTF16" "$assertionsDisabled" "Z" (.int 1)) (S_HI_BYTE_SHIFT : Sta Z Z.heap "java/lang/StringUTF16" "HI_BYTE_SHIFT" "I" (.int 0)) (S_LO_BYTE_SHIFT : Sta Z Z.heap "java/lang/StringUTF16" "LO_BYTE_SHIFT" "I" (.int 8)) (h11_hrfm : fm.isRef = true) (hc16 : c4 = (45 : Int32)) (h22_h12_hc18 : ¬ (c0 < (48 : Int32))) (h22_h12_hc25 : ¬ ((57 : Int32) < c0)) (h22_h12_hc18_1 : ¬ (c1 < (48 : Int32))) (h22_h12_hc25_1 : ¬ ((57 : Int32) < c1)) (h22_h12_hc18_2 : ¬ (c2 < (48 : Int32))) (h22_h12_hc25_2 : ¬ ((57 : Int32) < c2)) (h22_h12_hc18_3 : ¬ (c3 < (48 : Int32))) (h22_h12_hc25_3 : ¬ ((57 : Int32) < c3)) (h32_h2_hbad : ¬ (own_dg c5 ∧ own_dg c6)) :
    own_C l Z (⟨"com/example/vestwright/vestwright/Values", "month", "(Ljava/lang/String;)Ljava/time/YearMonth;"⟩ : MethodName) prog_6_method_4_code 2 (some (.object "java/time/YearMonth")) ws ({ frames := 8, cells := 0, slots := 0, locals := 170 } : Room) #[(.ref a1)] h0 (Q14f Z a1 c0 c1 c2 c3 c4 c5 c6 zC fm h0 n0) := by
  refine MetFree.of_bodySF (plainFor_of_name pnc_com_example_vestwright_vestwright_Values) hisR ?_
  intro p e s m args below meth c s₁ Bd hml0 hP hK
  obtain ⟨rfl, hZ, hh⟩ := hP
  have hx := Bd.exec
  have hby := Bd.bytes
  have hml : c.maxLocals = 2 := hml0
  have hown : s.vm.findClass "com/example/vestwright/vestwright/Values" = some m.cls := findClass_of_methodNamed Bd.named
  have hnm := (name_of_methodNamed Bd.named Bd.method).1
  have X0 : Stand p l e ({ frames := 8, cells := 0, slots := 0, locals := 170 } : Room) s m #[(.ref a1)] below meth c s₁ [] 0 0 := Stand.of_body Bd
  have e0 : s₁.heap = h0 := by rw [← hh, Bd.state]; rfl
  have N0 := Fr.nil n0
  have Z0 : n0 ≤ h0.size := O0.1 ▸ O0.2.1
  have pre0 : ∀ t, Steps p.tables e below (s₁.setTop (mkF m 0 #[.val (.ref a1), .unset] [])) t → Steps p.tables e below (s₁.setTop (entryFrame m #[(.ref a1)] 2)) t := fun t k => castTop (ef_14 m a1) k
  obtain ⟨cq2, kq2, q2a, q2b, q2c⟩ := isOf hZ e0 (own_Str.exa HT_a1)
  obtain ⟨vr2, _, ⟨T2, L2, k2, n2⟩, -, X2, ⟨Lc2, hQ2, l2, y2, z2⟩, st2⟩ := X0.virtualBack hx (y := (⟨"java/lang/String", "length", "()I"⟩ : MethodName)) (z := (⟨"java/lang/String", "length", "()I"⟩ : MethodName)) hown (mvT hZ (own_w hw 61 rfl)) (mvT hZ (own_w hw 62 rfl)) (notFace_of_selects (args := #[]) (mvT hZ (own_w hw 64 rfl))) (mvT hZ (own_w hw 64 rfl)) (mvT hZ (own_w hw 63 rfl)) (by decide) (backOf (W := 0) (rm15n7 l Z a0 hw [] a1 c0 c1 c2 c3 c4 c5 c6 zC h0 n0 O0 (own_Str.top HT_a1) S_COMPACT_STRINGS h1_hz) hZ (own_w hw 65 rfl) (own_w hw 11 rfl) (by decide) (by decide)) q2a q2c (g := (mkF m 1 #[.val (.ref a1), .unset] [(.ref a1)])) rfl (by rw [hml]; rfl) (Steps.refl _) (argsL := []) (rest := []) (lenOf pd_1 rfl) rfl (by show 2 * 0 + _ ≤ _; exact Nat.le_of_eq rfl) (hb hby d14_1) (fun _ _ => ⟨rfl, e0, (by decide : 0 + 0 ≤ _), (by decide : 0 + 0 ≤ _)⟩)
  dsimp only [Pt.U, Pt.locs, Pt.cells, Pt.slots] at X2 l2 y2 z2 st2 hQ2
  subst l2 y2 z2
  obtain ⟨rfl, N2q, e2⟩ := hQ2
  have N2 := Fr.app N0 N2q
  replace X2 := X2.more (cells' := 0) (slots' := 0) (by decide) (by decide)
  obtain ⟨cq3, kq3, q3a, q3b, q3c⟩ := isOf hZ e2 (own_Str.exa HT_a1)
  obtain ⟨vr3, _, ⟨T3, L3, k3, n3⟩, -, X3, ⟨Lc3, hQ3, l3, y3, z3⟩, st3⟩ := X2.virtualBack hx (y := (⟨"java/lang/String", "charAt", "(I)C"⟩ : MethodName)) (z := (⟨"java/lang/String", "charAt", "(I)C"⟩ : MethodName)) hown (mvT hZ (own_w hw 71 rfl)) (mvT hZ (own_w hw 72 rfl)) (notFace_of_selects (args := #[]) (mvT hZ (own_w hw 74 rfl))) (mvT hZ (own_w hw 74 rfl)) (mvT hZ (own_w hw 73 rfl)) (by decide) (backOf (W := 0) (rm17i4 l Z a0 hw [] a1 c0 c1 c2 c3 c4 c5 c6 zC fm h0 n0 O0 (own_Str.top HT_a1) S_COMPACT_STRINGS S_SIOOBE_FORMATTER S__assertionsDisabled S_HI_BYTE_SHIFT S_LO_BYTE_SHIFT h1_hz h11_hrfm) hZ (own_w hw 75 rfl) (own_w hw 11 rfl) (by decide) (by decide)) q3a q3c (g := (mkF m 11 #[.val (.ref a1), .unset] [(.int 4), (.ref a1)])) rfl (by rw [hml]; rfl) (Steps.refl _) (argsL := [(.int 4)]) (rest := []) (lenOf pd_7 rfl) rfl (by show 2 * 0 + _ ≤ _; exact Nat.le_of_eq rfl) (hb hby d14_11) (fun _ _ => ⟨rfl, e2, (by decide : 0 + 0 ≤ _), (by decide : 0 + 0 ≤ _)⟩)
  dsimp only [Pt.U, Pt.locs, Pt.cells, Pt.slots] at X3 l3 y3 z3 st3 hQ3
  subst l3 y3 z3
  obtain ⟨rfl, N3q, e3⟩ := hQ3
  have N3 := Fr.app N2 N3q
  replace X3 := X3.more (cells' := 0) (slots' := 0) (by decide) (by decide)
  obtain ⟨vr4, _, ⟨T4, L4, k4, n4⟩, -, X4, ⟨Lc4, hQ4, l4, y4, z4⟩, st4⟩ := Jvm.LawKit.callS X3 hx (y := (⟨"com/example/vestwright/vestwright/Values", "digits", "(Ljava/lang/String;II)Z"⟩ : MethodName)) hown (mvT hZ (own_w hw 106 rfl)) (mvT hZ (own_w hw 107 rfl)) (mvT hZ (own_w hw 59 rfl)) (mvT hZ (own_w hw 108 rfl)) (by decide) (backOf (W := 0) (rm25a0T l Z a0 hw [] a1 c0 c1 c2 c3 c4 c5 c6 zC fm h0 n0 O0 (own_Str.top HT_a1) S_COMPACT_STRINGS S_SIOOBE_FORMATTER S__assertionsDisabled S_HI_BYTE_SHIFT S_LO_BYTE_SHIFT h1_hz h11_hrfm h22_h12_hc18 h22_h12_hc25 h22_h12_hc18_1 h22_h12_hc25_1 h22_h12_hc18_2 h22_h12_hc25_2 h22_h12_hc18_3 h22_h12_hc25_3) hZ (own_w hw 108 rfl) (own_w hw 59 rfl) (by decide) (by decide)) (g := (mkF m 22 #[.val (.ref a1), .unset] [(.int 4), (.int 0), (.ref a1)])) rfl (by rw [hml]; rfl) (argsL := [(.ref a1), (.int 0), (.int 4)]) (rest := []) (lenOf pd_21 rfl) rfl (by show 2 * 0 + _ ≤ _; exact Nat.le_of_eq rfl) (hb hby d14_22) (fun _ _ => ⟨rfl, e3, (by decide : 0 + 0 ≤ _), (by decide : 0 + 0 ≤ _)⟩)
  dsimp only [Pt.U, Pt.locs, Pt.cells, Pt.slots] at X4 l4 y4 z4 st4 hQ4
  subst l4 y4 z4
  obtain ⟨rfl, N4q, e4⟩ := hQ4
  have N4 := Fr.app N3 N4q
  replace X4 := X4.more (cells' := 0) (slots' := 0) (by decide) (by decide)
  obtain ⟨vr5, _, ⟨T5, L5, k5, n5⟩, -, X5, ⟨Lc5, hQ5, l5, y5, z5⟩, st5⟩ := Jvm.LawKit.callS X4 hx (y := (⟨"com/example/vestwright/vestwright/Values", "digits", "(Ljava/lang/String;II)Z"⟩ : MethodName)) hown (mvT hZ (own_w hw 106 rfl)) (mvT hZ (own_w hw 107 rfl)) (mvT hZ (own_w hw 59 rfl)) (mvT hZ (own_w hw 108 rfl)) (by decide) (backOf (W := 0) (rm25a5F l Z a0 hw [] a1 c0 c1 c2 c3 c4 c5 c6 zC fm h0 n0 O0 (own_Str.top HT_a1) S_COMPACT_STRINGS S_SIOOBE_FORMATTER S__assertionsDisabled S_HI_BYTE_SHIFT S_LO_BYTE_SHIFT h1_hz h11_hrfm h32_h2_hbad) hZ (own_w hw 108 rfl) (own_w hw 59 rfl) (by decide) (by decide)) (g := (mkF m 32 #[.val (.ref a1), .unset] [(.int 7), (.int 5), (.ref a1)])) rfl (by rw [hml]; rfl) (argsL := [(.ref a1), (.int 5), (.int 7)]) (rest := []) (lenOf pd_21 rfl) rfl (by show 2 * 0 + _ ≤ _; exact Nat.le_of_eq rfl) (hb hby d14_32) (fun _ _ => ⟨rfl, e4, (by decide : 0 + 0 ≤ _), (by decide : 0 + 0 ≤ _)⟩)
  dsimp only [Pt.U, Pt.locs, Pt.cells, Pt.slots] at X5 l5 y5 z5 st5 hQ5
  subst l5 y5 z5
  obtain ⟨rfl, N5q, e5⟩ := hQ5
  have N5 := Fr.app N4 N5q
  replace X5 := X5.more (cells' := 0) (slots' := 0) (by decide) (by decide)
  obtain ⟨fs, hr, hrun, hended, hW, hsame⟩ := X5.leave (v := some .null) (fun h => by rw [Bd.returns] at h; cases h)
  refine ⟨_, _, pre0 _ ?_, hrun, hended, _, _, rfl, ?_, ⟨_, rfl⟩, hW, hsame.mono (by decide) (by decide)⟩
  · show Steps p.tables e below (s₁.setTop (mkF m 0 #[.val (.ref a1), .unset] [])) _
    refine XS.aloadN X0.here hx rfl (hb hby d14_0) rfl rfl ?_
    refine st2.trans ?_
    refine XS.bipush X2.here hx rfl (hb hby d14_4) ?_
    refine XS.icmpNo X2.here hx rfl (hb hby d14_6) rfl (teq (by decide : (7 : Int32) = (7 : Int32))).2 ?_
    refine XS.aloadN X2.here hx rfl (hb hby d14_9) rfl rfl ?_
    refine XS.iconst X2.here hx rfl (hb hby d14_10) ?_
    refine st3.trans ?_
    refine XS.bipush X3.here hx rfl (hb hby d14_14) ?_
    refine XS.icmpNo X3.here hx rfl (hb hby d14_16) rfl (teq hc16).2 ?_
    refine XS.aloadN X3.here hx rfl (hb hby d14_19) rfl rfl ?_
    refine XS.iconst X3.here hx rfl (hb hby d14_20) ?_
    refine XS.iconst X3.here hx rfl (hb hby d14_21) ?_
    refine st4 _ ?_
    refine XS.ifNo X4.here hx rfl (hb hby d14_25) rfl ((if0 _ _).trans (feq (by decide : ¬ ((1 : Int32) = (0 : Int32)))).1) ?_
    refine XS.aloadN X4.here hx rfl (hb hby d14_28) rfl rfl ?_
    refine XS.iconst X4.here hx rfl (hb hby d14_29) ?_
    refine XS.bipush X4.here hx rfl (hb hby d14_30) ?_
    refine st5 _ ?_
    refine XS.ifNo X5.here hx rfl (hb hby d14_35) rfl ((if0 _ _).trans (teq (by decide : (0 : Int32) = (0 : Int32))).2) ?_
    refine XS.aconstNull X5.here hx rfl (hb hby d14_38) ?_
    exact own_retR X5 hx Bd.returns rfl rfl (hb hby d14_39) hr
  · show Q14f Z a1 c0 c1 c2 c3 c4 c5 c6 zC fm h0 n0 _ T5.heap _
    rw [e5]
    exact ⟨rfl, N5, rfl⟩
theorem d14_40 : decode prog_6_method_4_code 40 = .ok (.aload_n 0, 1) := by decide +kernel
theorem d14_41 : decode prog_6_method_4_code 41 = .ok (.iconst 5, 1) := by decide +kernel
theorem d14_42 : decode prog_6_method_4_code 42 = .ok (.bipush 7, 2) := by decide +kernel
theorem d14_44 : decode prog_6_method_4_code 44 = .ok (.invokestatic 23, 3) := by decide +kernel
theorem pd_20 : parseMethodDescriptor "(Ljava/lang/String;II)I" = some ⟨[(.object "java/lang/String"), .int, .int], some .int⟩ := by decide +kernel
theorem d14_47 : decode prog_6_method_4_code 47 = .ok (.istore_n 1, 1) := by decide +kernel
theorem d14_48 : decode prog_6_method_4_code 48 = .ok (.iload_n 1, 1) := by decide +kernel
theorem d14_49 : decode prog_6_method_4_code 49 = .ok (.iconst 1, 1) := by decide +kernel
theorem d14_50 : decode prog_6_method_4_code 50 = .ok (.if_icmp .lt 9, 3) := by decide +kernel
theorem d14_59 : decode prog_6_method_4_code 59 = .ok (.aconst_null, 1) := by decide +kernel
theorem d14_60 : decode prog_6_method_4_code 60 = .ok (.areturn, 1) := by decide +kernel
def Q14g (Z : State) (a1 : Addr) (c0 c1 c2 c3 c4 c5 c6 zC : Int32) (fm : Value) (h0 : Heap) (n0 : Nat) (v : Option Value) (h : Heap) (L : List Loc) : Prop := v = some .null ∧ Fr n0 L ∧ h = h0
theorem rm14g (l : Launch) (Z : State) (a0 : Array Value) (hw : ∀ d ∈ tables_1, d.before a0 Z = true) (ws : List Jvm.Cond) (a1 : Addr) (c0 c1 c2 c3 c4 c5 c6 zC : Int32) (fm : Value) (h0 : Heap) (n0 : Nat) (O0 : Old Z n0 h0) (HT_a1 : own_Str Z h0 h0.size a1 [c0, c1, c2, c3, c4, c5, c6]) (S_COMPACT_STRINGS : Sta Z Z.heap "java/lang/String" "COMPACT_STRINGS" "Z" (.int zC)) (h1_hz : ¬ (zC = (0 : Int32))) (S_SIOOBE_FORMATTER : Sta Z Z.heap "jdk/internal/util/Preconditions" "SIOOBE_FORMATTER" "Ljava/util/function/BiFunction;" fm) (S__assertionsDisabled : Sta Z Z.heap "java/lang/StringUTF16" "$assertionsDisabled" "Z" (.int 1)) (S_HI_BYTE_SHIFT : Sta Z Z.heap "java/lang/StringUTF16" "HI_BYTE_SHIFT" "I" (.int 0)) (S_LO_BYTE_SHIFT : Sta Z Z.heap "java/lang/StringUTF16" "LO_BYTE_SHIFT" "I" (.int 8)) (h11_hrfm : fm.isRef = true) (hc16 : c4 = (45 : Int32)) (h22_h12_hc18 : ¬ (c0 < (48 : Int32))) (h22_h12_hc25 : ¬ ((57 : Int32) < c0)) (h22_h12_hc18_1 : ¬ (c1 < (48 : Int32))) (h22_h12_hc25_1 : ¬ ((57 : Int32) < c1)) (h22_h12_hc18_2 : ¬ (c2 < (48 : Int32))) (h22_h12_hc25_2 : ¬ ((57 : Int32) < c2)) (h22_h12_hc18_3 : ¬ (c3 < (48 : Int32))) (h22_h12_hc25_3 : ¬ ((57 : Int32) < c3)) (h32_h12_hc18 : ¬ (c5 < (48 : Int32))) (h32_h12_hc25 : ¬ ((57 : Int32) < c5)) (h32_h12_hc18_1 : ¬ (c6 < (48 : Int32))) (h32_h12_hc25_1 : ¬ ((57 : Int32) < c6)) (hc50 : ((((0 : Int32) + (c5 - (48 : Int32))) * (10 : Int32)) + (c6 - (48 : Int32))) < (1 : Int32)) :
    own_C l Z (⟨"com/example/vestwright/vestwright/Values", "month", "(Ljava/lang/String;)Ljava/time/YearMonth;"⟩ : MethodName) prog_6_method_4_code 2 (some (.object "java/time/YearMonth")) ws ({ frames := 8, cells := 0, slots := 0, locals := 170 } : Room) #[(.ref a1)] h0 (Q14g Z a1 c0 c1 c2 c3 c4 c5 c6 zC fm h0 n0) := by
  refine MetFree.of_bodySF (plainFor_of_name pnc_com_example_vestwright_vestwright_Values) hisR ?_
  intro p e s m args below meth c s₁ Bd hml0 hP hK
  obtain ⟨rfl, hZ, hh⟩ := hP
  have hx := Bd.exec
  have hby := Bd.bytes
  have hml : c.maxLocals = 2 := hml0
  have hown : s.vm.findClass "com/example/vestwright/vestwright/Values" = some m.cls := findClass_of_methodNamed Bd.named
  have hnm := (name_of_methodNamed Bd.named Bd.method).1
  have X0 : Stand p l e ({ frames := 8, cells := 0, slots := 0, locals := 170 } : Room) s m #[(.ref a1)] below meth c s₁ [] 0 0 := Stand.of_body Bd
  have e0 : s₁.heap = h0 := by rw [← hh, Bd.state]; rfl
  have N0 := Fr.nil n0
  have Z0 : n0 ≤ h0.size := O0.1 ▸ O0.2.1
  have pre0 : ∀ t, Steps p.tables e below (s₁.setTop (mkF m 0 #[.val (.ref a1), .unset] [])) t → Steps p.tables e below (s₁.setTop (entryFrame m #[(.ref a1)] 2)) t := fun t k => castTop (ef_14 m a1) k
  obtain ⟨cq2, kq2, q2a, q2b, q2c⟩ := isOf hZ e0 (own_Str.exa HT_a1)
  obtain ⟨vr2, _, ⟨T2, L2, k2, n2⟩, -, X2, ⟨Lc2, hQ2, l2, y2, z2⟩, st2⟩ := X0.virtualBack hx (y := (⟨"java/lang/String", "length", "()I"⟩ : MethodName)) (z := (⟨"java/lang/String", "length", "()I"⟩ : MethodName)) hown (mvT hZ (own_w hw 61 rfl)) (mvT hZ (own_w hw 62 rfl)) (notFace_of_selects (args := #[]) (mvT hZ (own_w hw 64 rfl))) (mvT hZ (own_w hw 64 rfl)) (mvT hZ (own_w hw 63 rfl)) (by decide) (backOf (W := 0) (rm15n7 l Z a0 hw [] a1 c0 c1 c2 c3 c4 c5 c6 zC h0 n0 O0 (own_Str.top HT_a1) S_COMPACT_STRINGS h1_hz) hZ (own_w hw 65 rfl) (own_w hw 11 rfl) (by decide) (by decide)) q2a q2c (g := (mkF m 1 #[.val (.ref a1), .unset] [(.ref a1)])) rfl (by rw [hml]; rfl) (Steps.refl _) (argsL := []) (rest := []) (lenOf pd_1 rfl) rfl (by show 2 * 0 + _ ≤ _; exact Nat.le_of_eq rfl) (hb hby d14_1) (fun _ _ => ⟨rfl, e0, (by decide : 0 + 0 ≤ _), (by decide : 0 + 0 ≤ _)⟩)
  dsimp only [Pt.U, Pt.locs, Pt.cells, Pt.slots] at X2 l2 y2 z2 st2 hQ2
  subst l2 y2 z2
  obtain ⟨rfl, N2q, e2⟩ := hQ2
  have N2 := Fr.app N0 N2q
  replace X2 := X2.more (cells' := 0) (slots' := 0) (by decide) (by decide)
  obtain ⟨cq3, kq3, q3a, q3b, q3c⟩ := isOf hZ e2 (own_Str.exa HT_a1)
  obtain ⟨vr3, _, ⟨T3, L3, k3, n3⟩, -, X3, ⟨Lc3, hQ3, l3, y3, z3⟩, st3⟩ := X2.virtualBack hx (y := (⟨"java/lang/String", "charAt", "(I)C"⟩ : MethodName)) (z := (⟨"java/lang/String", "charAt", "(I)C"⟩ : MethodName)) hown (mvT hZ (own_w hw 71 rfl)) (mvT hZ (own_w hw 72 rfl)) (notFace_of_selects (args := #[]) (mvT hZ (own_w hw 74 rfl))) (mvT hZ (own_w hw 74 rfl)) (mvT hZ (own_w hw 73 rfl)) (by decide) (backOf (W := 0) (rm17i4 l Z a0 hw [] a1 c0 c1 c2 c3 c4 c5 c6 zC fm h0 n0 O0 (own_Str.top HT_a1) S_COMPACT_STRINGS S_SIOOBE_FORMATTER S__assertionsDisabled S_HI_BYTE_SHIFT S_LO_BYTE_SHIFT h1_hz h11_hrfm) hZ (own_w hw 75 rfl) (own_w hw 11 rfl) (by decide) (by decide)) q3a q3c (g := (mkF m 11 #[.val (.ref a1), .unset] [(.int 4), (.ref a1)])) rfl (by rw [hml]; rfl) (Steps.refl _) (argsL := [(.int 4)]) (rest := []) (lenOf pd_7 rfl) rfl (by show 2 * 0 + _ ≤ _; exact Nat.le_of_eq rfl) (hb hby d14_11) (fun _ _ => ⟨rfl, e2, (by decide : 0 + 0 ≤ _), (by decide : 0 + 0 ≤ _)⟩)
  dsimp only [Pt.U, Pt.locs, Pt.cells, Pt.slots] at X3 l3 y3 z3 st3 hQ3
  subst l3 y3 z3
  obtain ⟨rfl, N3q, e3⟩ := hQ3
  have N3 := Fr.app N2 N3q
  replace X3 := X3.more (cells' := 0) (slots' := 0) (by decide) (by decide)
  obtain ⟨vr4, _, ⟨T4, L4, k4, n4⟩, -, X4, ⟨Lc4, hQ4, l4, y4, z4⟩, st4⟩ := Jvm.LawKit.callS X3 hx (y := (⟨"com/example/vestwright/vestwright/Values", "digits", "(Ljava/lang/String;II)Z"⟩ : MethodName)) hown (mvT hZ (own_w hw 106 rfl)) (mvT hZ (own_w hw 107 rfl)) (mvT hZ (own_w hw 59 rfl)) (mvT hZ (own_w hw 108 rfl)) (by decide) (backOf (W := 0) (rm25a0T l Z a0 hw [] a1 c0 c1 c2 c3 c4 c5 c6 zC fm h0 n0 O0 (own_Str.top HT_a1) S_COMPACT_STRINGS S_SIOOBE_FORMATTER S__assertionsDisabled S_HI_BYTE_SHIFT S_LO_BYTE_SHIFT h1_hz h11_hrfm h22_h12_hc18 h22_h12_hc25 h22_h12_hc18_1 h22_h12_hc25_1 h22_h12_hc18_2 h22_h12_hc25_2 h22_h12_hc18_3 h22_h12_hc25_3) hZ (own_w hw 108 rfl) (own_w hw 59 rfl) (by decide) (by decide)) (g := (mkF m 22 #[.val (.ref a1), .unset] [(.int 4), (.int 0), (.ref a1)])) rfl (by rw [hml]; rfl) (argsL := [(.ref a1), (.int 0), (.int 4)]) (rest := []) (lenOf pd_21 rfl) rfl (by show 2 * 0 + _ ≤ _; exact Nat.le_of_eq rfl) (hb hby d14_22) (fun _ _ => ⟨rfl, e3, (by decide : 0 + 0 ≤ _), (by decide : 0 + 0 ≤ _)⟩)
  dsimp only [Pt.U, Pt.locs, Pt.cells, Pt.slots] at X4 l4 y4 z4 st4 hQ4
  subst l4 y4 z4
  obtain ⟨rfl, N4q, e4⟩ := hQ4
  have N4 := Fr.app N3 N4q
  replace X4 := X4.more (cells' := 0) (slots' := 0) (by decide) (by decide)
  obtain ⟨vr5, _, ⟨T5, L5, k5, n5⟩, -, X5, ⟨Lc5, hQ5, l5, y5, z5⟩, st5⟩ := Jvm.LawKit.callS X4 hx (y := (⟨"com/example/vestwright/vestwright/Values", "digits", "(Ljava/lang/String;II)Z"⟩ : MethodName)) hown (mvT hZ (own_w hw 106 rfl)) (mvT hZ (own_w hw 107 rfl)) (mvT hZ (own_w hw 59 rfl)) (mvT hZ (own_w hw 108 rfl)) (by decide) (backOf (W := 0) (rm25a5T l Z a0 hw [] a1 c0 c1 c2 c3 c4 c5 c6 zC fm h0 n0 O0 (own_Str.top HT_a1) S_COMPACT_STRINGS S_SIOOBE_FORMATTER S__assertionsDisabled S_HI_BYTE_SHIFT S_LO_BYTE_SHIFT h1_hz h11_hrfm h32_h12_hc18 h32_h12_hc25 h32_h12_hc18_1 h32_h12_hc25_1) hZ (own_w hw 108 rfl) (own_w hw 59 rfl) (by decide) (by decide)) (g := (mkF m 32 #[.val (.ref a1), .unset] [(.int 7), (.int 5), (.ref a1)])) rfl (by rw [hml]; rfl) (argsL := [(.ref a1), (.int 5), (.int 7)]) (rest := []) (lenOf pd_21 rfl) rfl (by show 2 * 0 + _ ≤ _; exact Nat.le_of_eq rfl) (hb hby d14_32) (fun _ _ => ⟨rfl, e4, (by decide : 0 + 0 ≤ _), (by decide : 0 + 0 ≤ _)⟩)
  dsimp only [Pt.U, Pt.locs, Pt.cells, Pt.slots] at X5 l5 y5 z5 st5 hQ5
  subst l5 y5 z5
  obtain ⟨rfl, N5q, e5⟩ := hQ5
  have N5 := Fr.app N4 N5q
  replace X5 := X5.more (cells' := 0) (slots' := 0) (by decide) (by decide)
  obtain ⟨vr6, _, ⟨T6, L6, k6, n6⟩, -, X6, ⟨Lc6, hQ6, l6, y6, z6⟩, st6⟩ := Jvm.LawKit.callS X5 hx (y := (⟨"com/example/vestwright/vestwright/Values", "number", "(Ljava/lang/String;II)I"⟩ : MethodName)) hown (mvT hZ (own_w hw 112 rfl)) (mvT hZ (own_w hw 113 rfl)) (mvT hZ (own_w hw 59 rfl)) (mvT hZ (own_w hw 114 rfl)) (by decide) (backOf (W := 0) (rm27a5 l Z a0 hw [] a1 c0 c1 c2 c3 c4 c5 c6 zC fm h0 n0 O0 (own_Str.top HT_a1) S_COMPACT_STRINGS S_SIOOBE_FORMATTER S__assertionsDisabled S_HI_BYTE_SHIFT S_LO_BYTE_SHIFT h1_hz h11_hrfm) hZ (own_w hw 114 rfl) (own_w hw 59 rfl) (by decide) (by decide)) (g := (mkF m 44 #[.val (.ref a1), .unset] [(.int 7), (.int 5), (.ref a1)])) rfl (by rw [hml]; rfl) (argsL := [(.ref a1), (.int 5), (.int 7)]) (rest := []) (lenOf pd_20 rfl) rfl (by show 2 * 0 + _ ≤ _; exact Nat.le_of_eq rfl) (hb hby d14_44) (fun _ _ => ⟨rfl, e5, (by decide : 0 + 0 ≤ _), (by decide : 0 + 0 ≤ _)⟩)
  dsimp only [Pt.U, Pt.locs, Pt.cells, Pt.slots] at X6 l6 y6 z6 st6 hQ6
  subst l6 y6 z6
  obtain ⟨rfl, N6q, e6⟩ := hQ6
  have N6 := Fr.app N5 N6q
  replace X6 := X6.more (cells' := 0) (slots' := 0) (by decide) (by decide)
  obtain ⟨fs, hr, hrun, hended, hW, hsame⟩ := X6.leave (v := some .null) (fun h => by rw [Bd.returns] at h; cases h)
  refine ⟨_, _, pre0 _ ?_, hrun, hended, _, _, rfl, ?_, ⟨_, rfl⟩, hW, hsame.mono (by decide) (by decide)⟩
  · show Steps p.tables e below (s₁.setTop (mkF m 0 #[.val (.ref a1), .unset] [])) _
    refine XS.aloadN X0.here hx rfl (hb hby d14_0) rfl rfl ?_
    refine st2.trans ?_
    refine XS.bipush X2.here hx rfl (hb hby d14_4) ?_
    refine XS.icmpNo X2.here hx rfl (hb hby d14_6) rfl (teq (by decide : (7 : Int32) = (7 : Int32))).2 ?_
    refine XS.aloadN X2.here hx rfl (hb hby d14_9) rfl rfl ?_
    refine XS.iconst X2.here hx rfl (hb hby d14_10) ?_
    refine st3.trans ?_
    refine XS.bipush X3.here hx rfl (hb hby d14_14) ?_
    refine XS.icmpNo X3.here hx rfl (hb hby d14_16) rfl (teq hc16).2 ?_
    refine XS.aloadN X3.here hx rfl (hb hby d14_19) rfl rfl ?_
    refine XS.iconst X3.here hx rfl (hb hby d14_20) ?_
    refine XS.iconst X3.here hx rfl (hb hby d14_21) ?_
    refine st4 _ ?_
    refine XS.ifNo X4.here hx rfl (hb hby d14_25) rfl ((if0 _ _).trans (feq (by decide : ¬ ((1 : Int32) = (0 : Int32)))).1) ?_
    refine XS.aloadN X4.here hx rfl (hb hby d14_28) rfl rfl ?_
    refine XS.iconst X4.here hx rfl (hb hby d14_29) ?_
    refine XS.bipush X4.here hx rfl (hb hby d14_30) ?_
    refine st5 _ ?_
    refine XS.ifYes X5.here hx rfl (pc0 := 35) (pc' := 40) rfl (hb hby d14_35) rfl ((if0 _ _).trans (feq (by decide : ¬ ((1 : Int32) = (0 : Int32)))).2) (by decide) (by decide) ?_
    refine XS.aloadN X5.here hx rfl (hb hby d14_40) rfl rfl ?_
    refine XS.iconst X5.here hx rfl (hb hby d14_41) ?_
    refine XS.bipush X5.here hx rfl (hb hby d14_42) ?_
    refine st6 _ ?_
    refine XS.istoreN X6.here hx rfl (hb hby d14_47) rfl (l' := #[.val (.ref a1), .val (.int ((((0 : Int32) + (c5 - (48 : Int32))) * (10 : Int32)) + (c6 - (48 : Int32))))]) rfl ?_
    refine XS.iloadN X6.here hx rfl (hb hby d14_48) rfl ?_
    refine XS.iconst X6.here hx rfl (hb hby d14_49) ?_
    refine XS.icmpYes X6.here hx rfl (pc0 := 50) (pc' := 59) rfl (hb hby d14_50) rfl (tlt hc50).1 (by decide) (by decide) ?_
    refine XS.aconstNull X6.here hx rfl (hb hby d14_59) ?_
    exact own_retR X6 hx Bd.returns rfl rfl (hb hby d14_60) hr
  · show Q14g Z a1 c0 c1 c2 c3 c4 c5 c6 zC fm h0 n0 _ T6.heap _
    rw [e6]
    exact ⟨rfl, N6, rfl⟩
theorem d14_53 : decode prog_6_method_4_code 53 = .ok (.iload_n 1, 1) := by decide +kernel
theorem d14_54 : decode prog_6_method_4_code 54 = .ok (.bipush 12, 2) := by decide +kernel
theorem d14_56 : decode prog_6_method_4_code 56 = .ok (.if_icmp .le 5, 3) := by decide +kernel
def Q14h (Z : State) (a1 : Addr) (c0 c1 c2 c3 c4 c5 c6 zC : Int32) (fm : Value) (h0 : Heap) (n0 : Nat) (v : Option Value) (h : Heap) (L : List Loc) : Prop := v = some .null ∧ Fr n0 L ∧ h = h0
theorem rm14h (l : Launch) (Z : State) (a0 : Array Value) (hw : ∀ d ∈ tables_1, d.before a0 Z = true) (ws : List Jvm.Cond) (a1 : Addr) (c0 c1 c2 c3 c4 c5 c6 zC : Int32) (fm : Value) (h0 : Heap) (n0 : Nat) (O0 : Old Z n0 h0) (HT_a1 : own_Str Z h0 h0.size a1 [c0, c1, c2, c3, c4, c5, c6]) (S_COMPACT_STRINGS : Sta Z Z.heap "java/lang/String" "COMPACT_STRINGS" "Z" (.int zC)) (h1_hz : ¬ (zC = (0 : Int32))) (S_SIOOBE_FORMATTER : Sta Z Z.heap "jdk/internal/util/Preconditions" "SIOOBE_FORMATTER" "Ljava/util/function/BiFunction;" fm) (S__assertionsDisabled : Sta Z Z.heap "java/lang/StringUTF16" "$assertionsDisabled" "Z" (.int 1)) (S_HI_BYTE_SHIFT : Sta Z Z.heap "java/lang/StringUTF16" "HI_BYTE_SHIFT" "I" (.int 0)) (S_LO_BYTE_SHIFT : Sta Z Z.heap "java/lang/StringUTF16" "LO_BYTE_SHIFT" "I" (.int 8)) (h11_hrfm : fm.isRef = true) (hc16 : c4 = (45 : Int32)) (h22_h12_hc18 : ¬ (c0 < (48 : Int32))) (h22_h12_hc25 : ¬ ((57 : Int32) < c0)) (h22_h12_hc18_1 : ¬ (c1 < (48 : Int32))) (h22_h12_hc25_1 : ¬ ((57 : Int32) < c1)) (h22_h12_hc18_2 : ¬ (c2 < (48 : Int32))) (h22_h12_hc25_2 : ¬ ((57 : Int32) < c2)) (h22_h12_hc18_3 : ¬ (c3 < (48 : Int32))) (h22_h12_hc25_3 : ¬ ((57 : Int32) < c3)) (h32_h12_hc18 : ¬ (c5 < (48 : Int32))) (h32_h12_hc25 : ¬ ((57 : Int32) < c5)) (h32_h12_hc18_1 : ¬ (c6 < (48 : Int32))) (h32_h12_hc25_1 : ¬ ((57 : Int32) < c6)) (hc50 : ¬ (((((0 : Int32) + (c5 - (48 : Int32))) * (10 : Int32)) + (c6 - (48 : Int32))) < (1 : Int32))) (hc56 : (12 : Int32) < ((((0 : Int32) + (c5 - (48 : Int32))) * (10 : Int32)) + (c6 - (48 : Int32)))) :
    own_C l Z (⟨"com/example/vestwright/vestwright/Values", "month", "(Ljava/lang/String;)Ljava/time/YearMonth;"⟩ : MethodName) prog_6_method_4_code 2 (some (.object "java/time/YearMonth")) ws ({ frames := 8, cells := 0, slots := 0, locals := 170 } : Room) #[(.ref a1)] h0 (Q14h Z a1 c0 c1 c2 c3 c4 c5 c6 zC fm h0 n0) := by
  refine MetFree.of_bodySF (plainFor_of_name pnc_com_example_vestwright_vestwright_Values) hisR ?_
  intro p e s m args below meth c s₁ Bd hml0 hP hK
  obtain ⟨rfl, hZ, hh⟩ := hP
  have hx := Bd.exec
  have hby := Bd.bytes
  have hml : c.maxLocals = 2 := hml0
  have hown : s.vm.findClass "com/example/vestwright/vestwright/Values" = some m.cls := findClass_of_methodNamed Bd.named
  have hnm := (name_of_methodNamed Bd.named Bd.method).1
  have X0 : Stand p l e ({ frames := 8, cells := 0, slots := 0, locals := 170 } : Room) s m #[(.ref a1)] below meth c s₁ [] 0 0 := Stand.of_body Bd
  have e0 : s₁.heap = h0 := by rw [← hh, Bd.state]; rfl
  have N0 := Fr.nil n0
  have Z0 : n0 ≤ h0.size := O0.1 ▸ O0.2.1
  have pre0 : ∀ t, Steps p.tables e below (s₁.setTop (mkF m 0 #[.val (.ref a1), .unset] [])) t → Steps p.tables e below (s₁.setTop (entryFrame m #[(.ref a1)] 2)) t := fun t k => castTop (ef_14 m a1) k
  obtain ⟨cq2, kq2, q2a, q2b, q2c⟩ := isOf hZ e0 (own_Str.exa HT_a1)
  obtain ⟨vr2, _, ⟨T2, L2, k2, n2⟩, -, X2, ⟨Lc2, hQ2, l2, y2, z2⟩, st2⟩ := X0.virtualBack hx (y := (⟨"java/lang/String", "length", "()I"⟩ : MethodName)) (z := (⟨"java/lang/String", "length", "()I"⟩ : MethodName)) hown (mvT hZ (own_w hw 61 rfl)) (mvT hZ (own_w hw 62 rfl)) (notFace_of_selects (args := #[]) (mvT hZ (own_w hw 64 rfl))) (mvT hZ (own_w hw 64 rfl)) (mvT hZ (own_w hw 63 rfl)) (by decide) (backOf (W := 0) (rm15n7 l Z a0 hw [] a1 c0 c1 c2 c3 c4 c5 c6 zC h0 n0 O0 (own_Str.top HT_a1) S_COMPACT_STRINGS h1_hz) hZ (own_w hw 65 rfl) (own_w hw 11 rfl) (by decide) (by decide)) q2a q2c (g := (mkF m 1 #[.val (.ref a1), .unset] [(.ref a1)])) rfl (by rw [hml]; rfl) (Steps.refl _) (argsL := []) (rest := []) (lenOf pd_1 rfl) rfl (by show 2 * 0 + _ ≤ _; exact Nat.le_of_eq rfl) (hb hby d14_1) (fun _ _ => ⟨rfl, e0, (by decide : 0 + 0 ≤ _), (by decide : 0 + 0 ≤ _)⟩)
  dsimp only [Pt.U, Pt.locs, Pt.cells, Pt.slots] at X2 l2 y2 z2 st2 hQ2
  subst l2 y2 z2
  obtain ⟨rfl, N2q, e2⟩ := hQ2
  have N2 := Fr.app N0 N2q
  replace X2 := X2.more (cells' := 0) (slots' := 0) (by decide) (by decide)
  obtain ⟨cq3, kq3, q3a, q3b, q3c⟩ := isOf hZ e2 (own_Str.exa HT_a1)
  obtain ⟨vr3, _, ⟨T3, L3, k3, n3⟩, -, X3, ⟨Lc3, hQ3, l3, y3, z3⟩, st3⟩ := X2.virtualBack hx (y := (⟨"java/lang/String", "charAt", "(I)C"⟩ : MethodName)) (z := (⟨"java/lang/String", "charAt", "(I)C"⟩ : MethodName)) hown (mvT hZ (own_w hw 71 rfl)) (mvT hZ (own_w hw 72 rfl)) (notFace_of_selects (args := #[]) (mvT hZ (own_w hw 74 rfl))) (mvT hZ (own_w hw 74 rfl)) (mvT hZ (own_w hw 73 rfl)) (by decide) (backOf (W := 0) (rm17i4 l Z a0 hw [] a1 c0 c1 c2 c3 c4 c5 c6 zC fm h0 n0 O0 (own_Str.top HT_a1) S_COMPACT_STRINGS S_SIOOBE_FORMATTER S__assertionsDisabled S_HI_BYTE_SHIFT S_LO_BYTE_SHIFT h1_hz h11_hrfm) hZ (own_w hw 75 rfl) (own_w hw 11 rfl) (by decide) (by decide)) q3a q3c (g := (mkF m 11 #[.val (.ref a1), .unset] [(.int 4), (.ref a1)])) rfl (by rw [hml]; rfl) (Steps.refl _) (argsL := [(.int 4)]) (rest := []) (lenOf pd_7 rfl) rfl (by show 2 * 0 + _ ≤ _; exact Nat.le_of_eq rfl) (hb hby d14_11) (fun _ _ => ⟨rfl, e2, (by decide : 0 + 0 ≤ _), (by decide : 0 + 0 ≤ _)⟩)
  dsimp only [Pt.U, Pt.locs, Pt.cells, Pt.slots] at X3 l3 y3 z3 st3 hQ3
  subst l3 y3 z3
  obtain ⟨rfl, N3q, e3⟩ := hQ3
  have N3 := Fr.app N2 N3q
  replace X3 := X3.more (cells' := 0) (slots' := 0) (by decide) (by decide)
  obtain ⟨vr4, _, ⟨T4, L4, k4, n4⟩, -, X4, ⟨Lc4, hQ4, l4, y4, z4⟩, st4⟩ := Jvm.LawKit.callS X3 hx (y := (⟨"com/example/vestwright/vestwright/Values", "digits", "(Ljava/lang/String;II)Z"⟩ : MethodName)) hown (mvT hZ (own_w hw 106 rfl)) (mvT hZ (own_w hw 107 rfl)) (mvT hZ (own_w hw 59 rfl)) (mvT hZ (own_w hw 108 rfl)) (by decide) (backOf (W := 0) (rm25a0T l Z a0 hw [] a1 c0 c1 c2 c3 c4 c5 c6 zC fm h0 n0 O0 (own_Str.top HT_a1) S_COMPACT_STRINGS S_SIOOBE_FORMATTER S__assertionsDisabled S_HI_BYTE_SHIFT S_LO_BYTE_SHIFT h1_hz h11_hrfm h22_h12_hc18 h22_h12_hc25 h22_h12_hc18_1 h22_h12_hc25_1 h22_h12_hc18_2 h22_h12_hc25_2 h22_h12_hc18_3 h22_h12_hc25_3) hZ (own_w hw 108 rfl) (own_w hw 59 rfl) (by decide) (by decide)) (g := (mkF m 22 #[.val (.ref a1), .unset] [(.int 4), (.int 0), (.ref a1)])) rfl (by rw [hml]; rfl) (argsL := [(.ref a1), (.int 0), (.int 4)]) (rest := []) (lenOf pd_21 rfl) rfl (by show 2 * 0 + _ ≤ _; exact Nat.le_of_eq rfl) (hb hby d14_22) (fun _ _ => ⟨rfl, e3, (by decide : 0 + 0 ≤ _), (by decide : 0 + 0 ≤ _)⟩)
  dsimp only [Pt.U, Pt.locs, Pt.cells, Pt.slots] at X4 l4 y4 z4 st4 hQ4
  subst l4 y4 z4
  obtain ⟨rfl, N4q, e4⟩ := hQ4
  have N4 := Fr.app N3 N4q
  replace X4 := X4.more (cells' := 0) (slots' := 0) (by decide) (by decide)
  obtain ⟨vr5, _, ⟨T5, L5, k5, n5⟩, -, X5, ⟨Lc5, hQ5, l5, y5, z5⟩, st5⟩ := Jvm.LawKit.callS X4 hx (y := (⟨"com/example/vestwright/vestwright/Values", "digits", "(Ljava/lang/String;II)Z"⟩ : MethodName)) hown (mvT hZ (own_w hw 106 rfl)) (mvT hZ (own_w hw 107 rfl)) (mvT hZ (own_w hw 59 rfl)) (mvT hZ (own_w hw 108 rfl)) (by decide) (backOf (W := 0) (rm25a5T l Z a0 hw [] a1 c0 c1 c2 c3 c4 c5 c6 zC fm h0 n0 O0 (own_Str.top HT_a1) S_COMPACT_STRINGS S_SIOOBE_FORMATTER S__assertionsDisabled S_HI_BYTE_SHIFT S_LO_BYTE_SHIFT h1_hz h11_hrfm h32_h12_hc18 h32_h12_hc25 h32_h12_hc18_1 h32_h12_hc25_1) hZ (own_w hw 108 rfl) (own_w hw 59 rfl) (by decide) (by decide)) (g := (mkF m 32 #[.val (.ref a1), .unset] [(.int 7), (.int 5), (.ref a1)])) rfl (by rw [hml]; rfl) (argsL := [(.ref a1), (.int 5), (.int 7)]) (rest := []) (lenOf pd_21 rfl) rfl (by show 2 * 0 + _ ≤ _; exact Nat.le_of_eq rfl) (hb hby d14_32) (fun _ _ => ⟨rfl, e4, (by decide : 0 + 0 ≤ _), (by decide : 0 + 0 ≤ _)⟩)
  dsimp only [Pt.U, Pt.locs, Pt.cells, Pt.slots] at X5 l5 y5 z5 st5 hQ5
  subst l5 y5 z5
  obtain ⟨rfl, N5q, e5⟩ := hQ5
  have N5 := Fr.app N4 N5q
  replace X5 := X5.more (cells' := 0) (slots' := 0) (by decide) (by decide)
  obtain ⟨vr6, _, ⟨T6, L6, k6, n6⟩, -, X6, ⟨Lc6, hQ6, l6, y6, z6⟩, st6⟩ := Jvm.LawKit.callS X5 hx (y := (⟨"com/example/vestwright/vestwright/Values", "number", "(Ljava/lang/String;II)I"⟩ : MethodName)) hown (mvT hZ (own_w hw 112 rfl)) (mvT hZ (own_w hw 113 rfl)) (mvT hZ (own_w hw 59 rfl)) (mvT hZ (own_w hw 114 rfl)) (by decide) (backOf (W := 0) (rm27a5 l Z a0 hw [] a1 c0 c1 c2 c3 c4 c5 c6 zC fm h0 n0 O0 (own_Str.top HT_a1) S_COMPACT_STRINGS S_SIOOBE_FORMATTER S__assertionsDisabled S_HI_BYTE_SHIFT S_LO_BYTE_SHIFT h1_hz h11_hrfm) hZ (own_w hw 114 rfl) (own_w hw 59 rfl) (by decide) (by decide)) (g := (mkF m 44 #[.val (.ref a1), .unset] [(.int 7), (.int 5), (.ref a1)])) rfl (by rw [hml]; rfl) (argsL := [(.ref a1), (.int 5), (.int 7)]) (rest := []) (lenOf pd_20 rfl) rfl (by show 2 * 0 + _ ≤ _; exact Nat.le_of_eq rfl) (hb hby d14_44) (fun _ _ => ⟨rfl, e5, (by decide : 0 + 0 ≤ _), (by decide : 0 + 0 ≤ _)⟩)
  dsimp only [Pt.U, Pt.locs, Pt.cells, Pt.slots] at X6 l6 y6 z6 st6 hQ6
  subst l6 y6 z6
  obtain ⟨rfl, N6q, e6⟩ := hQ6
  have N6 := Fr.app N5 N6q
  replace X6 := X6.more (cells' := 0) (slots' := 0) (by decide) (by decide)
  obtain ⟨fs, hr, hrun, hended, hW, hsame⟩ := X6.leave (v := some .null) (fun h => by rw [Bd.returns] at h; cases h)
  refine ⟨_, _, pre0 _ ?_, hrun, hended, _, _, rfl, ?_, ⟨_, rfl⟩, hW, hsame.mono (by decide) (by decide)⟩
  · show Steps p.tables e below (s₁.setTop (mkF m 0 #[.val (.ref a1), .unset] [])) _
    refine XS.aloadN X0.here hx rfl (hb hby d14_0) rfl rfl ?_
    refine st2.trans ?_
    refine XS.bipush X2.here hx rfl (hb hby d14_4) ?_
    refine XS.icmpNo X2.here hx rfl (hb hby d14_6) rfl (teq (by decide : (7 : Int32) = (7 : Int32))).2 ?_
    refine XS.aloadN X2.here hx rfl (hb hby d14_9) rfl rfl ?_
    refine XS.iconst X2.here hx rfl (hb hby d14_10) ?_
    refine st3.trans ?_
    refine XS.bipush X3.here hx rfl (hb hby d14_14) ?_
    refine XS.icmpNo X3.here hx rfl (hb hby d14_16) rfl (teq hc16).2 ?_
    refine XS.aloadN X3.here hx rfl (hb hby d14_19) rfl rfl ?_
    refine XS.iconst X3.here hx rfl (hb hby d14_20) ?_
    refine XS.iconst X3.here hx rfl (hb hby d14_21) ?_
    refine st4 _ ?_
    refine XS.ifNo X4.here hx rfl (hb hby d14_25) rfl ((if0 _ _).trans (feq (by decide : ¬ ((1 : Int32) = (0 : Int32)))).1) ?_
    refine XS.aloadN X4.here hx rfl (hb hby d14_28) rfl rfl ?_
    refine XS.iconst X4.here hx rfl (hb hby d14_29) ?_
    refine XS.bipush X4.here hx rfl (hb hby d14_30) ?_
    refine st5 _ ?_
    refine XS.ifYes X5.here hx rfl (pc0 := 35) (pc' := 40) rfl (hb hby d14_35) rfl ((if0 _ _).trans (feq (by decide : ¬ ((1 : Int32) = (0 : Int32)))).2) (by decide) (by decide) ?_
    refine XS.aloadN X5.here hx rfl (hb hby d14_40) rfl rfl ?_
    refine XS.iconst X5.here hx rfl (hb hby d14_41) ?_
    refine XS.bipush X5.here hx rfl (hb hby d14_42) ?_
    refine st6 _ ?_
    refine XS.istoreN X6.here hx rfl (hb hby d14_47) rfl (l' := #[.val (.ref a1), .val (.int ((((0 : Int32) + (c5 - (48 : Int32))) * (10 : Int32)) + (c6 - (48 : Int32))))]) rfl ?_
    refine XS.iloadN X6.here hx rfl (hb hby d14_48) rfl ?_
    refine XS.iconst X6.here hx rfl (hb hby d14_49) ?_
    refine XS.icmpNo X6.here hx rfl (hb hby d14_50) rfl (flt hc50).1 ?_
    refine XS.iloadN X6.here hx rfl (hb hby d14_53) rfl ?_
    refine XS.bipush X6.here hx rfl (hb hby d14_54) ?_
    show Steps p.tables e below (T6.setTop (mkF m 56 #[.val (.ref a1), .val (.int ((((0 : Int32) + (c5 - (48 : Int32))) * (10 : Int32)) + (c6 - (48 : Int32))))] [(.int 12), (.int ((((0 : Int32) + (c5 - (48 : Int32))) * (10 : Int32)) + (c6 - (48 : Int32))))])) _
    refine XS.icmpNo X6.here hx rfl (hb hby d14_56) rfl (tlt hc56).2.2.2 ?_
    refine XS.aconstNull X6.here hx rfl (hb hby d14_59) ?_
    exact own_retR X6 hx Bd.returns rfl rfl (hb hby d14_60) hr
  · show Q14h Z a1 c0 c1 c2 c3 c4 c5 c6 zC fm h0 n0 _ T6.heap _
    rw [e6]
    exact ⟨rfl, N6, rfl⟩
def Q14B (Z : State) (a1 : Addr) (c0 c1 c2 c3 c4 c5 c6 zC : Int32) (fm : Value) (h0 : Heap) (n0 : Nat) (v : Option Value) (h : Heap) (L : List Loc) : Prop := v = some .null ∧ Fr n0 L ∧ h = h0
theorem rm14B (l : Launch) (Z : State) (a0 : Array Value) (hw : ∀ d ∈ tables_1, d.before a0 Z = true) (ws : List Jvm.Cond) (a1 : Addr) (c0 c1 c2 c3 c4 c5 c6 zC : Int32) (fm : Value) (h0 : Heap) (n0 : Nat) (O0 : Old Z n0 h0) (HT_a1 : own_Str Z h0 h0.size a1 [c0, c1, c2, c3, c4, c5, c6]) (S_COMPACT_STRINGS : Sta Z Z.heap "java/lang/String" "COMPACT_STRINGS" "Z" (.int zC)) (S_SIOOBE_FORMATTER : Sta Z Z.heap "jdk/internal/util/Preconditions" "SIOOBE_FORMATTER" "Ljava/util/function/BiFunction;" fm) (S__assertionsDisabled : Sta Z Z.heap "java/lang/StringUTF16" "$assertionsDisabled" "Z" (.int 1)) (S_HI_BYTE_SHIFT : Sta Z Z.heap "java/lang/StringUTF16" "HI_BYTE_SHIFT" "I" (.int 0)) (S_LO_BYTE_SHIFT : Sta Z Z.heap "java/lang/StringUTF16" "LO_BYTE_SHIFT" "I" (.int 8)) (hz : ¬ (zC = (0 : Int32))) (hrfm : fm.isRef = true) (hbad : ¬ (own_ok c0 c1 c2 c3 c4 c5 c6)) :
    own_C l Z (⟨"com/example/vestwright/vestwright/Values", "month", "(Ljava/lang/String;)Ljava/time/YearMonth;"⟩ : MethodName) prog_6_method_4_code 2 (some (.object "java/time/YearMonth")) ws ({ frames := 8, cells := 0, slots := 0, locals := 170 } : Room) #[(.ref a1)] h0 (Q14B Z a1 c0 c1 c2 c3 c4 c5 c6 zC fm h0 n0) := by
  by_cases e0 : c4 = (45 : Int32)
  rotate_left
  · exact rm14d l Z a0 hw ws a1 c0 c1 c2 c3 c4 c5 c6 zC fm h0 n0 O0 HT_a1 S_COMPACT_STRINGS hz S_SIOOBE_FORMATTER S__assertionsDisabled S_HI_BYTE_SHIFT S_LO_BYTE_SHIFT hrfm e0
  by_cases e1 : own_dg c0 ∧ own_dg c1 ∧ own_dg c2 ∧ own_dg c3
  rotate_left
  · exact rm14e l Z a0 hw ws a1 c0 c1 c2 c3 c4 c5 c6 zC fm h0 n0 O0 HT_a1 S_COMPACT_STRINGS hz S_SIOOBE_FORMATTER S__assertionsDisabled S_HI_BYTE_SHIFT S_LO_BYTE_SHIFT hrfm e0 e1
  obtain ⟨dc0, dc1, dc2, dc3⟩ := e1
  by_cases e2 : own_dg c5 ∧ own_dg c6
  rotate_left
  · exact rm14f l Z a0 hw ws a1 c0 c1 c2 c3 c4 c5 c6 zC fm h0 n0 O0 HT_a1 S_COMPACT_STRINGS hz S_SIOOBE_FORMATTER S__assertionsDisabled S_HI_BYTE_SHIFT S_LO_BYTE_SHIFT hrfm e0 dc0.1 dc0.2 dc1.1 dc1.2 dc2.1 dc2.2 dc3.1 dc3.2 e2
  obtain ⟨dc5, dc6⟩ := e2
  by_cases e3 : own_mo c5 c6 < (1 : Int32)
  · exact rm14g l Z a0 hw ws a1 c0 c1 c2 c3 c4 c5 c6 zC fm h0 n0 O0 HT_a1 S_COMPACT_STRINGS hz S_SIOOBE_FORMATTER S__assertionsDisabled S_HI_BYTE_SHIFT S_LO_BYTE_SHIFT hrfm e0 dc0.1 dc0.2 dc1.1 dc1.2 dc2.1 dc2.2 dc3.1 dc3.2 dc5.1 dc5.2 dc6.1 dc6.2 e3
  by_cases e4 : (12 : Int32) < own_mo c5 c6
  · exact rm14h l Z a0 hw ws a1 c0 c1 c2 c3 c4 c5 c6 zC fm h0 n0 O0 HT_a1 S_COMPACT_STRINGS hz S_SIOOBE_FORMATTER S__assertionsDisabled S_HI_BYTE_SHIFT S_LO_BYTE_SHIFT hrfm e0 dc0.1 dc0.2 dc1.1 dc1.2 dc2.1 dc2.2 dc3.1 dc3.2 dc5.1 dc5.2 dc6.1 dc6.2 e3 e4
  exact absurd ⟨e0, ⟨dc0, dc1, dc2, dc3⟩, ⟨dc5, dc6⟩, e3, e4⟩ hbad
theorem d14_61 : decode prog_6_method_4_code 61 = .ok (.aload_n 0, 1) := by decide +kernel
theorem d14_62 : decode prog_6_method_4_code 62 = .ok (.iconst 0, 1) := by decide +kernel
theorem d14_63 : decode prog_6_method_4_code 63 = .ok (.iconst 4, 1) := by decide +kernel
theorem d14_64 : decode prog_6_method_4_code 64 = .ok (.invokestatic 23, 3) := by decide +kernel
theorem d14_67 : decode prog_6_method_4_code 67 = .ok (.iload_n 1, 1) := by decide +kernel
theorem d14_68 : decode prog_6_method_4_code 68 = .ok (.invokestatic 46, 3) := by decide +kernel
theorem pd_10 : parseMethodDescriptor "(II)Ljava/time/YearMonth;" = some ⟨[.int, .int], some (.object "java/time/YearMonth")⟩ := by decide +kernel
theorem d14_71 : decode prog_6_method_4_code 71 = .ok (.areturn, 1) := by decide +kernel
def Q14O (Z : State) (a1 : Addr) (c0 c1 c2 c3 c4 c5 c6 zC : Int32) (fm : Value) (w8 w9 : Addr) (w10 w11 : Int64) (w12 w13 : Addr) (w14 w15 : Int64) (h0 : Heap) (n0 : Nat) (v : Option Value) (h : Heap) (L : List Loc) : Prop := ∃ b17 : Addr, v = some (.ref b17) ∧ Fr n0 L ∧ Keep h0 h [] ∧ h0.size ≤ b17 ∧ Exa Z h b17 "java/time/YearMonth" ∧ Fld Z h b17 "java/time/YearMonth" "month" "I" (.int ((((0 : Int32) + (c5 - (48 : Int32))) * (10 : Int32)) + (c6 - (48 : Int32)))) ∧ Fld Z h b17 "java/time/YearMonth" "year" "I" (.int ((((((((0 : Int32) + (c0 - (48 : Int32))) * (10 : Int32)) + (c1 - (48 : Int32))) * (10 : Int32)) + (c2 - (48 : Int32))) * (10 : Int32)) + (c3 - (48 : Int32))))
theorem rm14O (l : Launch) (Z : State) (a0 : Array Value) (hw : ∀ d ∈ tables_1, d.before a0 Z = true) (ws : List Jvm.Cond) (a1 : Addr) (c0 c1 c2 c3 c4 c5 c6 zC : Int32) (fm : Value) (w8 w9 : Addr) (w10 w11 : Int64) (w12 w13 : Addr) (w14 w15 : Int64) (h0 : Heap) (n0 : Nat) (O0 : Old Z n0 h0) (HT_a1 : own_Str Z h0 h0.size a1 [c0, c1, c2, c3, c4, c5, c6]) (S_COMPACT_STRINGS : Sta Z Z.heap "java/lang/String" "COMPACT_STRINGS" "Z" (.int zC)) (h1_hz : ¬ (zC = (0 : Int32))) (S_SIOOBE_FORMATTER : Sta Z Z.heap "jdk/internal/util/Preconditions" "SIOOBE_FORMATTER" "Ljava/util/function/BiFunction;" fm) (S__assertionsDisabled : Sta Z Z.heap "java/lang/StringUTF16" "$assertionsDisabled" "Z" (.int 1)) (S_HI_BYTE_SHIFT : Sta Z Z.heap "java/lang/StringUTF16" "HI_BYTE_SHIFT" "I" (.int 0)) (S_LO_BYTE_SHIFT : Sta Z Z.heap "java/lang/StringUTF16" "LO_BYTE_SHIFT" "I" (.int 8)) (h11_hrfm : fm.isRef = true) (hc16 : c4 = (45 : Int32)) (h22_h12_hc18 : ¬ (c0 < (48 : Int32))) (h22_h12_hc25 : ¬ ((57 : Int32) < c0)) (h22_h12_hc18_1 : ¬ (c1 < (48 : Int32))) (h22_h12_hc25_1 : ¬ ((57 : Int32) < c1)) (h22_h12_hc18_2 : ¬ (c2 < (48 : Int32))) (h22_h12_hc25_2 : ¬ ((57 : Int32) < c2)) (h22_h12_hc18_3 : ¬ (c3 < (48 : Int32))) (h22_h12_hc25_3 : ¬ ((57 : Int32) < c3)) (h32_h12_hc18 : ¬ (c5 < (48 : Int32))) (h32_h12_hc25 : ¬ ((57 : Int32) < c5)) (h32_h12_hc18_1 : ¬ (c6 < (48 : Int32))) (h32_h12_hc25_1 : ¬ ((57 : Int32) < c6)) (hc50 : ¬ (((((0 : Int32) + (c5 - (48 : Int32))) * (10 : Int32)) + (c6 - (48 : Int32))) < (1 : Int32))) (hc56 : ¬ ((12 : Int32) < ((((0 : Int32) + (c5 - (48 : Int32))) * (10 : Int32)) + (c6 - (48 : Int32))))) (S_YEAR : Sta Z Z.heap "java/time/temporal/ChronoField" "YEAR" "Ljava/time/temporal/ChronoField;" (.ref w8)) (HF_w8_range : Fld Z h0 w8 "java/time/temporal/ChronoField" "range" "Ljava/time/temporal/ValueRange;" (.ref w9)) (HE_w8 : Exa Z h0 w8 "java/time/temporal/ChronoField") (HF_w9_minSmallest : Fld Z h0 w9 "java/time/temporal/ValueRange" "minSmallest" "J" (.long w10)) (HE_w9 : Exa Z h0 w9 "java/time/temporal/ValueRange") (HF_w9_maxLargest : Fld Z h0 w9 "java/time/temporal/ValueRange" "maxLargest" "J" (.long w11)) (S_MONTH_OF_YEAR : Sta Z Z.heap "java/time/temporal/ChronoField" "MONTH_OF_YEAR" "Ljava/time/temporal/ChronoField;" (.ref w12)) (HF_w12_range : Fld Z h0 w12 "java/time/temporal/ChronoField" "range" "Ljava/time/temporal/ValueRange;" (.ref w13)) (HE_w12 : Exa Z h0 w12 "java/time/temporal/ChronoField") (HF_w13_minSmallest : Fld Z h0 w13 "java/time/temporal/ValueRange" "minSmallest" "J" (.long w14)) (HE_w13 : Exa Z h0 w13 "java/time/temporal/ValueRange") (HF_w13_maxLargest : Fld Z h0 w13 "java/time/temporal/ValueRange" "maxLargest" "J" (.long w15)) (h68_h5_h6_h2_hc6 : ¬ ((lcmpW (((((((((0 : Int32) + (c0 - (48 : Int32))) * (10 : Int32)) + (c1 - (48 : Int32))) * (10 : Int32)) + (c2 - (48 : Int32))) * (10 : Int32)) + (c3 - (48 : Int32))).toInt64) w10) < (0 : Int32))) (h68_h5_h6_h2_hc15 : ¬ ((0 : Int32) < (lcmpW (((((((((0 : Int32) + (c0 - (48 : Int32))) * (10 : Int32)) + (c1 - (48 : Int32))) * (10 : Int32)) + (c2 - (48 : Int32))) * (10 : Int32)) + (c3 - (48 : Int32))).toInt64) w11))) (h68_h14_h6_h2_hc6 : ¬ ((lcmpW (((((0 : Int32) + (c5 - (48 : Int32))) * (10 : Int32)) + (c6 - (48 : Int32))).toInt64) w14) < (0 : Int32))) (h68_h14_h6_h2_hc15 : ¬ ((0 : Int32) < (lcmpW (((((0 : Int32) + (c5 - (48 : Int32))) * (10 : Int32)) + (c6 - (48 : Int32))).toInt64) w15))) :
    own_C l Z (⟨"com/example/vestwright/vestwright/Values", "month", "(Ljava/lang/String;)Ljava/time/YearMonth;"⟩ : MethodName) prog_6_method_4_code 2 (some (.object "java/time/YearMonth")) ws ({ frames := 8, cells := 1, slots := 2, locals := 170 } : Room) #[(.ref a1)] h0 (Q14O Z a1 c0 c1 c2 c3 c4 c5 c6 zC fm w8 w9 w10 w11 w12 w13 w14 w15 h0 n0) := by
  refine MetFree.of_bodySF (plainFor_of_name pnc_com_example_vestwright_vestwright_Values) hisR ?_
  intro p e s m args below meth c s₁ Bd hml0 hP hK
  obtain ⟨rfl, hZ, hh⟩ := hP
  have hx := Bd.exec
  have hby := Bd.bytes
  have hml : c.maxLocals = 2 := hml0
  have hown : s.vm.findClass "com/example/vestwright/vestwright/Values" = some m.cls := findClass_of_methodNamed Bd.named
  have hnm := (name_of_methodNamed Bd.named Bd.method).1
  have X0 : Stand p l e ({ frames := 8, cells := 1, slots := 2, locals := 170 } : Room) s m #[(.ref a1)] below meth c s₁ [] 0 0 := Stand.of_body Bd
  have e0 : s₁.heap = h0 := by rw [← hh, Bd.state]; rfl
  have N0 := Fr.nil n0
  have Z0 : n0 ≤ h0.size := O0.1 ▸ O0.2.1
  have pre0 : ∀ t, Steps p.tables e below (s₁.setTop (mkF m 0 #[.val (.ref a1), .unset] [])) t → Steps p.tables e below (s₁.setTop (entryFrame m #[(.ref a1)] 2)) t := fun t k => castTop (ef_14 m a1) k
  obtain ⟨cq2, kq2, q2a, q2b, q2c⟩ := isOf hZ e0 (own_Str.exa HT_a1)
  obtain ⟨vr2, _, ⟨T2, L2, k2, n2⟩, -, X2, ⟨Lc2, hQ2, l2, y2, z2⟩, st2⟩ := X0.virtualBack hx (y := (⟨"java/lang/String", "length", "()I"⟩ : MethodName)) (z := (⟨"java/lang/String", "length", "()I"⟩ : MethodName)) hown (mvT hZ (own_w hw 61 rfl)) (mvT hZ (own_w hw 62 rfl)) (notFace_of_selects (args := #[]) (mvT hZ (own_w hw 64 rfl))) (mvT hZ (own_w hw 64 rfl)) (mvT hZ (own_w hw 63 rfl)) (by decide) (backOf (W := 0) (rm15n7 l Z a0 hw [] a1 c0 c1 c2 c3 c4 c5 c6 zC h0 n0 O0 (own_Str.top HT_a1) S_COMPACT_STRINGS h1_hz) hZ (own_w hw 65 rfl) (own_w hw 11 rfl) (by decide) (by decide)) q2a q2c (g := (mkF m 1 #[.val (.ref a1), .unset] [(.ref a1)])) rfl (by rw [hml]; rfl) (Steps.refl _) (argsL := []) (rest := []) (lenOf pd_1 rfl) rfl (by show 2 * 0 + _ ≤ _; exact Nat.le_of_eq rfl) (hb hby d14_1) (fun _ _ => ⟨rfl, e0, (by decide : 0 + 0 ≤ _), (by decide : 0 + 0 ≤ _)⟩)
  dsimp only [Pt.U, Pt.locs, Pt.cells, Pt.slots] at X2 l2 y2 z2 st2 hQ2
  subst l2 y2 z2
  obtain ⟨rfl, N2q, e2⟩ := hQ2
  have N2 := Fr.app N0 N2q
  replace X2 := X2.more (cells' := 0) (slots' := 0) (by decide) (by decide)
  obtain ⟨cq3, kq3, q3a, q3b, q3c⟩ := isOf hZ e2 (own_Str.exa HT_a1)
  obtain ⟨vr3, _, ⟨T3, L3, k3, n3⟩, -, X3, ⟨Lc3, hQ3, l3, y3, z3⟩, st3⟩ := X2.virtualBack hx (y := (⟨"java/lang/String", "charAt", "(I)C"⟩ : MethodName)) (z := (⟨"java/lang/String", "charAt", "(I)C"⟩ : MethodName)) hown (mvT hZ (own_w hw 71 rfl)) (mvT hZ (own_w hw 72 rfl)) (notFace_of_selects (args := #[]) (mvT hZ (own_w hw 74 rfl))) (mvT hZ (own_w hw 74 rfl)) (mvT hZ (own_w hw 73 rfl)) (by decide) (backOf (W := 0) (rm17i4 l Z a0 hw [] a1 c0 c1 c2 c3 c4 c5 c6 zC fm h0 n0 O0 (own_Str.top HT_a1) S_COMPACT_STRINGS S_SIOOBE_FORMATTER S__assertionsDisabled S_HI_BYTE_SHIFT S_LO_BYTE_SHIFT h1_hz h11_hrfm) hZ (own_w hw 75 rfl) (own_w hw 11 rfl) (by decide) (by decide)) q3a q3c (g := (mkF m 11 #[.val (.ref a1), .unset] [(.int 4), (.ref a1)])) rfl (by rw [hml]; rfl) (Steps.refl _) (argsL := [(.int 4)]) (rest := []) (lenOf pd_7 rfl) rfl (by show 2 * 0 + _ ≤ _; exact Nat.le_of_eq rfl) (hb hby d14_11) (fun _ _ => ⟨rfl, e2, (by decide : 0 + 0 ≤ _), (by decide : 0 + 0 ≤ _)⟩)
  dsimp only [Pt.U, Pt.locs, Pt.cells, Pt.slots] at X3 l3 y3 z3 st3 hQ3
  subst l3 y3 z3
  obtain ⟨rfl, N3q, e3⟩ := hQ3
  have N3 := Fr.app N2 N3q
  replace X3 := X3.more (cells' := 0) (slots' := 0) (by decide) (by decide)
  obtain ⟨vr4, _, ⟨T4, L4, k4, n4⟩, -, X4, ⟨Lc4, hQ4, l4, y4, z4⟩, st4⟩ := Jvm.LawKit.callS X3 hx (y := (⟨"com/example/vestwright/vestwright/Values", "digits", "(Ljava/lang/String;II)Z"⟩ : MethodName)) hown (mvT hZ (own_w hw 106 rfl)) (mvT hZ (own_w hw 107 rfl)) (mvT hZ (own_w hw 59 rfl)) (mvT hZ (own_w hw 108 rfl)) (by decide) (backOf (W := 0) (rm25a0T l Z a0 hw [] a1 c0 c1 c2 c3 c4 c5 c6 zC fm h0 n0 O0 (own_Str.top HT_a1) S_COMPACT_STRINGS S_SIOOBE_FORMATTER S__assertionsDisabled S_HI_BYTE_SHIFT S_LO_BYTE_SHIFT h1_hz h11_hrfm h22_h12_hc18 h22_h12_hc25 h22_h12_hc18_1 h22_h12_hc25_1 h22_h12_hc18_2 h22_h12_hc25_2 h22_h12_hc18_3 h22_h12_hc25_3) hZ (own_w hw 108 rfl) (own_w hw 59 rfl) (by decide) (by decide)) (g := (mkF m 22 #[.val (.ref a1), .unset] [(.int 4), (.int 0), (.ref a1)])) rfl (by rw [hml]; rfl) (argsL := [(.ref a1), (.int 0), (.int 4)]) (rest := []) (lenOf pd_21 rfl) rfl (by show 2 * 0 + _ ≤ _; exact Nat.le_of_eq rfl) (hb hby d14_22) (fun _ _ => ⟨rfl, e3, (by decide : 0 + 0 ≤ _), (by decide : 0 + 0 ≤ _)⟩)
  dsimp only [Pt.U, Pt.locs, Pt.cells, Pt.slots] at X4 l4 y4 z4 st4 hQ4
  subst l4 y4 z4
  obtain ⟨rfl, N4q, e4⟩ := hQ4
  have N4 := Fr.app N3 N4q
  replace X4 := X4.more (cells' := 0) (slots' := 0) (by decide) (by decide)
  obtain ⟨vr5, _, ⟨T5, L5, k5, n5⟩, -, X5, ⟨Lc5, hQ5, l5, y5, z5⟩, st5⟩ := Jvm.LawKit.callS X4 hx (y := (⟨"com/example/vestwright/vestwright/Values", "digits", "(Ljava/lang/String;II)Z"⟩ : MethodName)) hown (mvT hZ (own_w hw 106 rfl)) (mvT hZ (own_w hw 107 rfl)) (mvT hZ (own_w hw 59 rfl)) (mvT hZ (own_w hw 108 rfl)) (by decide) (backOf (W := 0) (rm25a5T l Z a0 hw [] a1 c0 c1 c2 c3 c4 c5 c6 zC fm h0 n0 O0 (own_Str.top HT_a1) S_COMPACT_STRINGS S_SIOOBE_FORMATTER S__assertionsDisabled S_HI_BYTE_SHIFT S_LO_BYTE_SHIFT h1_hz h11_hrfm h32_h12_hc18 h32_h12_hc25 h32_h12_hc18_1 h32_h12_hc25_1) hZ (own_w hw 108 rfl) (own_w hw 59 rfl) (by decide) (by decide)) (g := (mkF m 32 #[.val (.ref a1), .unset] [(.int 7), (.int 5), (.ref a1)])) rfl (by rw [hml]; rfl) (argsL := [(.ref a1), (.int 5), (.int 7)]) (rest := []) (lenOf pd_21 rfl) rfl (by show 2 * 0 + _ ≤ _; exact Nat.le_of_eq rfl) (hb hby d14_32) (fun _ _ => ⟨rfl, e4, (by decide : 0 + 0 ≤ _), (by decide : 0 + 0 ≤ _)⟩)
  dsimp only [Pt.U, Pt.locs, Pt.cells, Pt.slots] at X5 l5 y5 z5 st5 hQ5
  subst l5 y5 z5
  obtain ⟨rfl, N5q, e5⟩ := hQ5
  have N5 := Fr.app N4 N5q
  replace X5 := X5.more (cells' := 0) (slots' := 0) (by decide) (by decide)
  obtain ⟨vr6, _, ⟨T6, L6, k6, n6⟩, -, X6, ⟨Lc6, hQ6, l6, y6, z6⟩, st6⟩ := Jvm.LawKit.callS X5 hx (y := (⟨"com/example/vestwright/vestwright/Values", "number", "(Ljava/lang/String;II)I"⟩ : MethodName)) hown (mvT hZ (own_w hw 112 rfl)) (mvT hZ (own_w hw 113 rfl)) (mvT hZ (own_w hw 59 rfl)) (mvT hZ (own_w hw 114 rfl)) (by decide) (backOf (W := 0) (rm27a5 l Z a0 hw [] a1 c0 c1 c2 c3 c4 c5 c6 zC fm h0 n0 O0 (own_Str.top HT_a1) S_COMPACT_STRINGS S_SIOOBE_FORMATTER S__assertionsDisabled S_HI_BYTE_SHIFT S_LO_BYTE_SHIFT h1_hz h11_hrfm) hZ (own_w hw 114 rfl) (own_w hw 59 rfl) (by decide) (by decide)) (g := (mkF m 44 #[.val (.ref a1), .unset] [(.int 7), (.int 5), (.ref a1)])) rfl (by rw [hml]; rfl) (argsL := [(.ref a1), (.int 5), (.int 7)]) (rest := []) (lenOf pd_20 rfl) rfl (by show 2 * 0 + _ ≤ _; exact Nat.le_of_eq rfl) (hb hby d14_44) (fun _ _ => ⟨rfl, e5, (by decide : 0 + 0 ≤ _), (by decide : 0 + 0 ≤ _)⟩)
  dsimp only [Pt.U, Pt.locs, Pt.cells, Pt.slots] at X6 l6 y6 z6 st6 hQ6
  subst l6 y6 z6
  obtain ⟨rfl, N6q, e6⟩ := hQ6
  have N6 := Fr.app N5 N6q
  replace X6 := X6.more (cells' := 0) (slots' := 0) (by decide) (by decide)
  obtain ⟨vr7, _, ⟨T7, L7, k7, n7⟩, -, X7, ⟨Lc7, hQ7, l7, y7, z7⟩, st7⟩ := Jvm.LawKit.callS X6 hx (y := (⟨"com/example/vestwright/vestwright/Values", "number", "(Ljava/lang/String;II)I"⟩ : MethodName)) hown (mvT hZ (own_w hw 112 rfl)) (mvT hZ (own_w hw 113 rfl)) (mvT hZ (own_w hw 59 rfl)) (mvT hZ (own_w hw 114 rfl)) (by decide) (backOf (W := 0) (rm27a0 l Z a0 hw [] a1 c0 c1 c2 c3 c4 c5 c6 zC fm h0 n0 O0 (own_Str.top HT_a1) S_COMPACT_STRINGS S_SIOOBE_FORMATTER S__assertionsDisabled S_HI_BYTE_SHIFT S_LO_BYTE_SHIFT h1_hz h11_hrfm) hZ (own_w hw 114 rfl) (own_w hw 59 rfl) (by decide) (by decide)) (g := (mkF m 64 #[.val (.ref a1), .val (.int ((((0 : Int32) + (c5 - (48 : Int32))) * (10 : Int32)) + (c6 - (48 : Int32))))] [(.int 4), (.int 0), (.ref a1)])) rfl (by rw [hml]; rfl) (argsL := [(.ref a1), (.int 0), (.int 4)]) (rest := []) (lenOf pd_20 rfl) rfl (by show 2 * 0 + _ ≤ _; exact Nat.le_of_eq rfl) (hb hby d14_64) (fun _ _ => ⟨rfl, e6, (by decide : 0 + 0 ≤ _), (by decide : 0 + 0 ≤ _)⟩)
  dsimp only [Pt.U, Pt.locs, Pt.cells, Pt.slots] at X7 l7 y7 z7 st7 hQ7
  subst l7 y7 z7
  obtain ⟨rfl, N7q, e7⟩ := hQ7
  have N7 := Fr.app N6 N7q
  replace X7 := X7.more (cells' := 0) (slots' := 0) (by decide) (by decide)
  obtain ⟨vr16, _, ⟨T16, L16, k16, n16⟩, -, X16, ⟨Lc16, hQ16, l16, y16, z16⟩, st16⟩ := Jvm.LawKit.callS X7 hx (y := (⟨"java/time/YearMonth", "of", "(II)Ljava/time/YearMonth;"⟩ : MethodName)) hown (mvT hZ (own_w hw 115 rfl)) (mvT hZ (own_w hw 116 rfl)) (mvT hZ (own_w hw 117 rfl)) (mvT hZ (own_w hw 118 rfl)) (by decide) (backOf (W := 0) (rm28 l Z a0 hw [] (((((((((0 : Int32) + (c0 - (48 : Int32))) * (10 : Int32)) + (c1 - (48 : Int32))) * (10 : Int32)) + (c2 - (48 : Int32))) * (10 : Int32)) + (c3 - (48 : Int32)))) (((((0 : Int32) + (c5 - (48 : Int32))) * (10 : Int32)) + (c6 - (48 : Int32)))) w8 w9 w10 w11 w12 w13 w14 w15 h0 n0 O0 S_YEAR HF_w8_range HE_w8 HF_w9_minSmallest HE_w9 HF_w9_maxLargest h68_h5_h6_h2_hc6 h68_h5_h6_h2_hc15 S_MONTH_OF_YEAR HF_w12_range HE_w12 HF_w13_minSmallest HE_w13 HF_w13_maxLargest h68_h14_h6_h2_hc6 h68_h14_h6_h2_hc15) hZ (own_w hw 118 rfl) (own_w hw 117 rfl) (by decide) (by decide)) (g := (mkF m 68 #[.val (.ref a1), .val (.int ((((0 : Int32) + (c5 - (48 : Int32))) * (10 : Int32)) + (c6 - (48 : Int32))))] [(.int ((((0 : Int32) + (c5 - (48 : Int32))) * (10 : Int32)) + (c6 - (48 : Int32)))), (.int ((((((((0 : Int32) + (c0 - (48 : Int32))) * (10 : Int32)) + (c1 - (48 : Int32))) * (10 : Int32)) + (c2 - (48 : Int32))) * (10 : Int32)) + (c3 - (48 : Int32))))])) rfl (by rw [hml]; rfl) (argsL := [(.int ((((((((0 : Int32) + (c0 - (48 : Int32))) * (10 : Int32)) + (c1 - (48 : Int32))) * (10 : Int32)) + (c2 - (48 : Int32))) * (10 : Int32)) + (c3 - (48 : Int32)))), (.int ((((0 : Int32) + (c5 - (48 : Int32))) * (10 : Int32)) + (c6 - (48 : Int32))))]) (rest := []) (lenOf pd_10 rfl) rfl (by show 2 * 0 + _ ≤ _; exact Nat.le_of_eq rfl) (hb hby d14_68) (fun _ _ => ⟨rfl, e7, (by decide : 0 + 1 ≤ _), (by decide : 0 + 2 ≤ _)⟩)
  dsimp only [Pt.U, Pt.locs, Pt.cells, Pt.slots] at X16 l16 y16 z16 st16 hQ16
  subst l16 y16 z16
  obtain ⟨b17, rfl, N16q, K16, Y16_z0, Y16_0, Y16_1, Y16_2⟩ := hQ16
  have N16 := Fr.app N7 N16q
  replace X16 := X16.more (cells' := 1) (slots' := 2) (by decide) (by decide)
  have g_b17 : n0 ≤ b17 := Nat.le_trans (Nat.le_trans Z0 (Keep.refl h0 []).1) Y16_z0
  have sz_b17 : h0.size ≤ b17 := Nat.le_trans (Keep.refl h0 []).1 Y16_z0
  have K18 : Keep h0 T16.heap [] := (Keep.refl h0 []).trans K16 all0
  have O19 : Old Z n0 T16.heap := O0.keep K16 all0
  obtain ⟨fs, hr, hrun, hended, hW, hsame⟩ := X16.leave (v := some (.ref b17)) (fun h => by rw [Bd.returns] at h; cases h)
  refine ⟨_, _, pre0 _ ?_, hrun, hended, _, _, rfl, ?_, ⟨_, rfl⟩, hW, hsame.mono (by decide) (by decide)⟩
  · show Steps p.tables e below (s₁.setTop (mkF m 0 #[.val (.ref a1), .unset] [])) _
    refine XS.aloadN X0.here hx rfl (hb hby d14_0) rfl rfl ?_
    refine st2.trans ?_
    refine XS.bipush X2.here hx rfl (hb hby d14_4) ?_
    refine XS.icmpNo X2.here hx rfl (hb hby d14_6) rfl (teq (by decide : (7 : Int32) = (7 : Int32))).2 ?_
    refine XS.aloadN X2.here hx rfl (hb hby d14_9) rfl rfl ?_
    refine XS.iconst X2.here hx rfl (hb hby d14_10) ?_
    refine st3.trans ?_
    refine XS.bipush X3.here hx rfl (hb hby d14_14) ?_
    refine XS.icmpNo X3.here hx rfl (hb hby d14_16) rfl (teq hc16).2 ?_
    refine XS.aloadN X3.here hx rfl (hb hby d14_19) rfl rfl ?_
    refine XS.iconst X3.here hx rfl (hb hby d14_20) ?_
    refine XS.iconst X3.here hx rfl (hb hby d14_21) ?_
    refine st4 _ ?_
    refine XS.ifNo X4.here hx rfl (hb hby d14_25) rfl ((if0 _ _).trans (feq (by decide : ¬ ((1 : Int32) = (0 : Int32)))).1) ?_
    refine XS.aloadN X4.here hx rfl (hb hby d14_28) rfl rfl ?_
    refine XS.iconst X4.here hx rfl (hb hby d14_29) ?_
    refine XS.bipush X4.here hx rfl (hb hby d14_30) ?_
    refine st5 _ ?_
    refine XS.ifYes X5.here hx rfl (pc0 := 35) (pc' := 40) rfl (hb hby d14_35) rfl ((if0 _ _).trans (feq (by decide : ¬ ((1 : Int32) = (0 : Int32)))).2) (by decide) (by decide) ?_
    refine XS.aloadN X5.here hx rfl (hb hby d14_40) rfl rfl ?_
    refine XS.iconst X5.here hx rfl (hb hby d14_41) ?_
    refine XS.bipush X5.here hx rfl (hb hby d14_42) ?_
    refine st6 _ ?_
    refine XS.istoreN X6.here hx rfl (hb hby d14_47) rfl (l' := #[.val (.ref a1), .val (.int ((((0 : Int32) + (c5 - (48 : Int32))) * (10 : Int32)) + (c6 - (48 : Int32))))]) rfl ?_
    refine XS.iloadN X6.here hx rfl (hb hby d14_48) rfl ?_
    refine XS.iconst X6.here hx rfl (hb hby d14_49) ?_
    refine XS.icmpNo X6.here hx rfl (hb hby d14_50) rfl (flt hc50).1 ?_
    refine XS.iloadN X6.here hx rfl (hb hby d14_53) rfl ?_
    refine XS.bipush X6.here hx rfl (hb hby d14_54) ?_
    show Steps p.tables e below (T6.setTop (mkF m 56 #[.val (.ref a1), .val (.int ((((0 : Int32) + (c5 - (48 : Int32))) * (10 : Int32)) + (c6 - (48 : Int32))))] [(.int 12), (.int ((((0 : Int32) + (c5 - (48 : Int32))) * (10 : Int32)) + (c6 - (48 : Int32))))])) _
    refine XS.icmpYes X6.here hx rfl (pc0 := 56) (pc' := 61) rfl (hb hby d14_56) rfl (flt hc56).2.2.2 (by decide) (by decide) ?_
    refine XS.aloadN X6.here hx rfl (hb hby d14_61) rfl rfl ?_
    refine XS.iconst X6.here hx rfl (hb hby d14_62) ?_
    refine XS.iconst X6.here hx rfl (hb hby d14_63) ?_
    refine st7 _ ?_
    refine XS.iloadN X7.here hx rfl (hb hby d14_67) rfl ?_
    refine st16 _ ?_
    exact own_retR X16 hx Bd.returns rfl rfl (hb hby d14_71) hr
  · show Q14O Z a1 c0 c1 c2 c3 c4 c5 c6 zC fm w8 w9 w10 w11 w12 w13 w14 w15 h0 n0 _ T16.heap _
    exact ⟨b17, rfl, N16, K18, sz_b17, Y16_0, Y16_1, Y16_2⟩
theorem d1_0 : decode method_4_code 0 = .ok (.lload_n 0, 1) := by decide +kernel
theorem d1_1 : decode method_4_code 1 = .ok (.iload_n 2, 1) := by decide +kernel
theorem d1_2 : decode method_4_code 2 = .ok (.lushr, 1) := by decide +kernel
theorem d1_3 : decode method_4_code 3 = .ok (.ldc2_w 41, 3) := by decide +kernel
theorem d1_6 : decode method_4_code 6 = .ok (.land, 1) := by decide +kernel
theorem d1_7 : decode method_4_code 7 = .ok (.l2i, 1) := by decide +kernel
theorem d1_8 : decode method_4_code 8 = .ok (.istore 5, 2) := by decide +kernel
theorem d1_10 : decode method_4_code 10 = .ok (.iload_n 3, 1) := by decide +kernel
theorem d1_11 : decode method_4_code 11 = .ok (.iload 4, 2) := by decide +kernel
theorem d1_13 : decode method_4_code 13 = .ok (.iushr, 1) := by decide +kernel
theorem d1_14 : decode method_4_code 14 = .ok (.iconst 1, 1) := by decide +kernel
theorem d1_15 : decode method_4_code 15 = .ok (.iand, 1) := by decide +kernel
theorem d1_16 : decode method_4_code 16 = .ok (.ifCond .eq 13, 3) := by decide +kernel
theorem d1_29 : decode method_4_code 29 = .ok (.iload 5, 2) := by decide +kernel
theorem d1_31 : decode method_4_code 31 = .ok (.i2c, 1) := by decide +kernel
theorem d1_32 : decode method_4_code 32 = .ok (.ireturn, 1) := by decide +kernel
def Q1t (Z : State) (q1 : Int64) (p2 p3 p4 : Int32) (h0 : Heap) (n0 : Nat) (v : Option Value) (h : Heap) (L : List Loc) : Prop := v = some (.int (nar .char (((((q1.toUInt64 >>> (p2 &&& 0x3f).toInt64.toUInt64).toInt64) &&& (65535 : Int64)).toInt32).toUInt32.toUInt16.toUInt32.toInt32))) ∧ Fr n0 L ∧ h = h0
theorem ef_1 (m : MethodId) (x0 : Int64) (x1 : Int32) (x2 : Int32) (x3 : Int32) : entryFrame m #[(.long x0), (.int x1), (.int x2), (.int x3)] 6 = mkF m 0 #[.val (.long x0), .second, .val (.int x1), .val (.int x2), .val (.int x3), .unset] [] := by first | (simp [entryFrame, mkF, argsToLocals, Value.category]; done) | rfl
theorem pnc_com_example_vestwright_vestwright_ValuesMonthPinLaw : plainName "com/example/vestwright/vestwright/ValuesMonthPinLaw" = true := by first | (simp [plainName, overriddenIn]; done) | decide +kernel
theorem rm1t (l : Launch) (Z : State) (a0 : Array Value) (hw : ∀ d ∈ tables_1, d.before a0 Z = true) (ws : List Jvm.Cond) (q1 : Int64) (p2 p3 p4 : Int32) (h0 : Heap) (n0 : Nat) (O0 : Old Z n0 h0) (hc16 : (((p3.toUInt32 >>> (p4 &&& 31).toUInt32).toInt32) &&& (1 : Int32)) = (0 : Int32)) :
    own_C l Z (⟨"com/example/vestwright/vestwright/ValuesMonthPinLaw", "ch", "(JIII)C"⟩ : MethodName) method_4_code 6 (some .char) ws ({ frames := 0, cells := 0, slots := 0, locals := 0 } : Room) #[(.long q1), (.int p2), (.int p3), (.int p4)] h0 (Q1t Z q1 p2 p3 p4 h0 n0) := by
  refine MetFree.of_bodySF (plainFor_of_name pnc_com_example_vestwright_vestwright_ValuesMonthPinLaw) hisR ?_
  intro p e s m args below meth c s₁ Bd hml0 hP hK
  obtain ⟨rfl, hZ, hh⟩ := hP
  have hx := Bd.exec
  have hby := Bd.bytes
  have hml : c.maxLocals = 6 := hml0
  have hown : s.vm.findClass "com/example/vestwright/vestwright/ValuesMonthPinLaw" = some m.cls := findClass_of_methodNamed Bd.named
  have hnm := (name_of_methodNamed Bd.named Bd.method).1
  have X0 : Stand p l e ({ frames := 0, cells := 0, slots := 0, locals := 0 } : Room) s m #[(.long q1), (.int p2), (.int p3), (.int p4)] below meth c s₁ [] 0 0 := Stand.of_body Bd
  have e0 : s₁.heap = h0 := by rw [← hh, Bd.state]; rfl
  have N0 := Fr.nil n0
  have Z0 : n0 ≤ h0.size := O0.1 ▸ O0.2.1
  have pre0 : ∀ t, Steps p.tables e below (s₁.setTop (mkF m 0 #[.val (.long q1), .second, .val (.int p2), .val (.int p3), .val (.int p4), .unset] [])) t → Steps p.tables e below (s₁.setTop (entryFrame m #[(.long q1), (.int p2), (.int p3), (.int p4)] 6)) t := fun t k => castTop (ef_1 m q1 p2 p3 p4) k
  obtain ⟨fs, hr, hrun, hended, hW, hsame⟩ := X0.leave (v := some (.int (nar .char (((((q1.toUInt64 >>> (p2 &&& 0x3f).toInt64.toUInt64).toInt64) &&& (65535 : Int64)).toInt32).toUInt32.toUInt16.toUInt32.toInt32)))) (fun h => by rw [Bd.returns] at h; cases h)
  refine ⟨_, _, pre0 _ ?_, hrun, hended, _, _, rfl, ?_, ⟨_, rfl⟩, hW, hsame.mono (by decide) (by decide)⟩
  · show Steps p.tables e below (s₁.setTop (mkF m 0 #[.val (.long q1), .second, .val (.int p2), .val (.int p3), .val (.int p4), .unset] [])) _
    refine XS.lloadN X0.here hx rfl (hb hby d1_0) rfl ?_
    refine XS.iloadN X0.here hx rfl (hb hby d1_1) rfl ?_
    refine XS.lushr X0.here hx rfl (hb hby d1_2) rfl ?_
    refine X0.ldc2Long hx hown (mvT hZ (own_w hw 4 rfl)) (g := (mkF m 3 #[.val (.long q1), .second, .val (.int p2), .val (.int p3), .val (.int p4), .unset] [(.long ((q1.toUInt64 >>> (p2 &&& 0x3f).toInt64.toUInt64).toInt64))])) rfl (hb hby d1_3) _ ?_
    refine XS.land X0.here hx rfl (hb hby d1_6) rfl ?_
    refine XS.l2i X0.here hx rfl (hb hby d1_7) rfl ?_
    refine XS.istore X0.here hx rfl (hb hby d1_8) rfl (l' := #[.val (.long q1), .second, .val (.int p2), .val (.int p3), .val (.int p4), .val (.int ((((q1.toUInt64 >>> (p2 &&& 0x3f).toInt64.toUInt64).toInt64) &&& (65535 : Int64)).toInt32))]) rfl ?_
    refine XS.iloadN X0.here hx rfl (hb hby d1_10) rfl ?_
    refine XS.iload X0.here hx rfl (hb hby d1_11) rfl ?_
    refine XS.iushr X0.here hx rfl (hb hby d1_13) rfl ?_
    show Steps p.tables e below (s₁.setTop (mkF m 14 #[.val (.long q1), .second, .val (.int p2), .val (.int p3), .val (.int p4), .val (.int ((((q1.toUInt64 >>> (p2 &&& 0x3f).toInt64.toUInt64).toInt64) &&& (65535 : Int64)).toInt32))] [(.int ((p3.toUInt32 >>> (p4 &&& 31).toUInt32).toInt32))])) _
    refine XS.iconst X0.here hx rfl (hb hby d1_14) ?_
    refine XS.iand X0.here hx rfl (hb hby d1_15) rfl ?_
    refine XS.ifYes X0.here hx rfl (pc0 := 16) (pc' := 29) rfl (hb hby d1_16) rfl ((if0 _ _).trans (teq hc16).1) (by decide) (by decide) ?_
    refine XS.iload X0.here hx rfl (hb hby d1_29) rfl ?_
    refine XS.i2c X0.here hx rfl (hb hby d1_31) rfl ?_
    exact retN X0 hx (t := .char) Bd.returns (by simp) (hb hby d1_32) hr
  · show Q1t Z q1 p2 p3 p4 h0 n0 _ s₁.heap _
    rw [e0]
    exact ⟨rfl, N0, rfl⟩
theorem d1_19 : decode method_4_code 19 = .ok (.bipush 48, 2) := by decide +kernel
theorem d1_21 : decode method_4_code 21 = .ok (.iload 5, 2) := by decide +kernel
theorem d1_23 : decode method_4_code 23 = .ok (.bipush 10, 2) := by decide +kernel
theorem d1_25 : decode method_4_code 25 = .ok (.irem, 1) := by decide +kernel
theorem d1_26 : decode method_4_code 26 = .ok (.iadd, 1) := by decide +kernel
theorem d1_27 : decode method_4_code 27 = .ok (.i2c, 1) := by decide +kernel
theorem d1_28 : decode method_4_code 28 = .ok (.ireturn, 1) := by decide +kernel
def Q1f (Z : State) (q1 : Int64) (p2 p3 p4 : Int32) (h0 : Heap) (n0 : Nat) (v : Option Value) (h : Heap) (L : List Loc) : Prop := v = some (.int (nar .char (((48 : Int32) + (((((q1.toUInt64 >>> (p2 &&& 0x3f).toInt64.toUInt64).toInt64) &&& (65535 : Int64)).toInt32) % (10 : Int32))).toUInt32.toUInt16.toUInt32.toInt32))) ∧ Fr n0 L ∧ h = h0
theorem rm1f (l : Launch) (Z : State) (a0 : Array Value) (hw : ∀ d ∈ tables_1, d.before a0 Z = true) (ws : List Jvm.Cond) (q1 : Int64) (p2 p3 p4 : Int32) (h0 : Heap) (n0 : Nat) (O0 : Old Z n0 h0) (hc16 : ¬ ((((p3.toUInt32 >>> (p4 &&& 31).toUInt32).toInt32) &&& (1 : Int32)) = (0 : Int32))) :
    own_C l Z (⟨"com/example/vestwright/vestwright/ValuesMonthPinLaw", "ch", "(JIII)C"⟩ : MethodName) method_4_code 6 (some .char) ws ({ frames := 0, cells := 0, slots := 0, locals := 0 } : Room) #[(.long q1), (.int p2), (.int p3), (.int p4)] h0 (Q1f Z q1 p2 p3 p4 h0 n0) := by
  refine MetFree.of_bodySF (plainFor_of_name pnc_com_example_vestwright_vestwright_ValuesMonthPinLaw) hisR ?_
  intro p e s m args below meth c s₁ Bd hml0 hP hK
  obtain ⟨rfl, hZ, hh⟩ := hP
  have hx := Bd.exec
  have hby := Bd.bytes
  have hml : c.maxLocals = 6 := hml0
  have hown : s.vm.findClass "com/example/vestwright/vestwright/ValuesMonthPinLaw" = some m.cls := findClass_of_methodNamed Bd.named
  have hnm := (name_of_methodNamed Bd.named Bd.method).1
  have X0 : Stand p l e ({ frames := 0, cells := 0, slots := 0, locals := 0 } : Room) s m #[(.long q1), (.int p2), (.int p3), (.int p4)] below meth c s₁ [] 0 0 := Stand.of_body Bd
  have e0 : s₁.heap = h0 := by rw [← hh, Bd.state]; rfl
  have N0 := Fr.nil n0
  have Z0 : n0 ≤ h0.size := O0.1 ▸ O0.2.1
  have pre0 : ∀ t, Steps p.tables e below (s₁.setTop (mkF m 0 #[.val (.long q1), .second, .val (.int p2), .val (.int p3), .val (.int p4), .unset] [])) t → Steps p.tables e below (s₁.setTop (entryFrame m #[(.long q1), (.int p2), (.int p3), (.int p4)] 6)) t := fun t k => castTop (ef_1 m q1 p2 p3 p4) k
  obtain ⟨fs, hr, hrun, hended, hW, hsame⟩ := X0.leave (v := some (.int (nar .char (((48 : Int32) + (((((q1.toUInt64 >>> (p2 &&& 0x3f).toInt64.toUInt64).toInt64) &&& (65535 : Int64)).toInt32) % (10 : Int32))).toUInt32.toUInt16.toUInt32.toInt32)))) (fun h => by rw [Bd.returns] at h; cases h)
  refine ⟨_, _, pre0 _ ?_, hrun, hended, _, _, rfl, ?_, ⟨_, rfl⟩, hW, hsame.mono (by decide) (by decide)⟩
  · show Steps p.tables e below (s₁.setTop (mkF m 0 #[.val (.long q1), .second, .val (.int p2), .val (.int p3), .val (.int p4), .unset] [])) _
    refine XS.lloadN X0.here hx rfl (hb hby d1_0) rfl ?_
    refine XS.iloadN X0.here hx rfl (hb hby d1_1) rfl ?_
    refine XS.lushr X0.here hx rfl (hb hby d1_2) rfl ?_
    refine X0.ldc2Long hx hown (mvT hZ (own_w hw 4 rfl)) (g := (mkF m 3 #[.val (.long q1), .second, .val (.int p2), .val (.int p3), .val (.int p4), .unset] [(.long ((q1.toUInt64 >>> (p2 &&& 0x3f).toInt64.toUInt64).toInt64))])) rfl (hb hby d1_3) _ ?_
    refine XS.land X0.here hx rfl (hb hby d1_6) rfl ?_
    refine XS.l2i X0.here hx rfl (hb hby d1_7) rfl ?_
    refine XS.istore X0.here hx rfl (hb hby d1_8) rfl (l' := #[.val (.long q1), .second, .val (.int p2), .val (.int p3), .val (.int p4), .val (.int ((((q1.toUInt64 >>> (p2 &&& 0x3f).toInt64.toUInt64).toInt64) &&& (65535 : Int64)).toInt32))]) rfl ?_
    refine XS.iloadN X0.here hx rfl (hb hby d1_10) rfl ?_
    refine XS.iload X0.here hx rfl (hb hby d1_11) rfl ?_
    refine XS.iushr X0.here hx rfl (hb hby d1_13) rfl ?_
    show Steps p.tables e below (s₁.setTop (mkF m 14 #[.val (.long q1), .second, .val (.int p2), .val (.int p3), .val (.int p4), .val (.int ((((q1.toUInt64 >>> (p2 &&& 0x3f).toInt64.toUInt64).toInt64) &&& (65535 : Int64)).toInt32))] [(.int ((p3.toUInt32 >>> (p4 &&& 31).toUInt32).toInt32))])) _
    refine XS.iconst X0.here hx rfl (hb hby d1_14) ?_
    refine XS.iand X0.here hx rfl (hb hby d1_15) rfl ?_
    refine XS.ifNo X0.here hx rfl (hb hby d1_16) rfl ((if0 _ _).trans (feq hc16).1) ?_
    refine XS.bipush X0.here hx rfl (hb hby d1_19) ?_
    refine XS.iload X0.here hx rfl (hb hby d1_21) rfl ?_
    refine XS.bipush X0.here hx rfl (hb hby d1_23) ?_
    show Steps p.tables e below (s₁.setTop (mkF m 25 #[.val (.long q1), .second, .val (.int p2), .val (.int p3), .val (.int p4), .val (.int ((((q1.toUInt64 >>> (p2 &&& 0x3f).toInt64.toUInt64).toInt64) &&& (65535 : Int64)).toInt32))] [(.int 10), (.int ((((q1.toUInt64 >>> (p2 &&& 0x3f).toInt64.toUInt64).toInt64) &&& (65535 : Int64)).toInt32)), (.int 48)])) _
    refine iremM X0 hx rfl (hb hby d1_25) rfl (by decide : ¬ ((10 : Int32) = (0 : Int32))) ?_
    refine XS.iadd X0.here hx rfl (hb hby d1_26) rfl ?_
    refine XS.i2c X0.here hx rfl (hb hby d1_27) rfl ?_
    exact retN X0 hx (t := .char) Bd.returns (by simp) (hb hby d1_28) hr
  · show Q1f Z q1 p2 p3 p4 h0 n0 _ s₁.heap _
    rw [e0]
    exact ⟨rfl, N0, rfl⟩
def own_chv (q1 : Int64) (p2 p3 p4 : Int32) : Int32 := if (((p3.toUInt32 >>> (p4 &&& 31).toUInt32).toInt32) &&& (1 : Int32)) = (0 : Int32) then (nar .char (((((q1.toUInt64 >>> (p2 &&& 0x3f).toInt64.toUInt64).toInt64) &&& (65535 : Int64)).toInt32).toUInt32.toUInt16.toUInt32.toInt32)) else (nar .char (((48 : Int32) + (((((q1.toUInt64 >>> (p2 &&& 0x3f).toInt64.toUInt64).toInt64) &&& (65535 : Int64)).toInt32) % (10 : Int32))).toUInt32.toUInt16.toUInt32.toInt32))
def Q1 (Z : State) (q1 : Int64) (p2 p3 p4 : Int32) (h0 : Heap) (n0 : Nat) (v : Option Value) (h : Heap) (L : List Loc) : Prop := v = some (.int (own_chv q1 p2 p3 p4)) ∧ Fr n0 L ∧ h = h0
theorem rm1 (l : Launch) (Z : State) (a0 : Array Value) (hw : ∀ d ∈ tables_1, d.before a0 Z = true) (ws : List Jvm.Cond) (q1 : Int64) (p2 p3 p4 : Int32) (h0 : Heap) (n0 : Nat) (O0 : Old Z n0 h0) :
    own_C l Z (⟨"com/example/vestwright/vestwright/ValuesMonthPinLaw", "ch", "(JIII)C"⟩ : MethodName) method_4_code 6 (some .char) ws ({ frames := 0, cells := 0, slots := 0, locals := 0 } : Room) #[(.long q1), (.int p2), (.int p3), (.int p4)] h0 (Q1 Z q1 p2 p3 p4 h0 n0) := by
  by_cases cc : (((p3.toUInt32 >>> (p4 &&& 31).toUInt32).toInt32) &&& (1 : Int32)) = (0 : Int32)
  · have q := rm1t l Z a0 hw ws q1 p2 p3 p4 h0 n0 O0 cc
    unfold Q1t at q
    unfold Q1
    rw [own_chv, if_pos cc]
    exact q
  · have q := rm1f l Z a0 hw ws q1 p2 p3 p4 h0 n0 O0 cc
    unfold Q1f at q
    unfold Q1
    rw [own_chv, if_neg cc]
    exact q
theorem d2_0 : decode method_5_code 0 = .ok (.iload_n 2, 1) := by decide +kernel
theorem d2_1 : decode method_5_code 1 = .ok (.iconst 4, 1) := by decide +kernel
theorem d2_2 : decode method_5_code 2 = .ok (.iushr, 1) := by decide +kernel
theorem d2_3 : decode method_5_code 3 = .ok (.iconst 1, 1) := by decide +kernel
theorem d2_4 : decode method_5_code 4 = .ok (.iand, 1) := by decide +kernel
theorem d2_5 : decode method_5_code 5 = .ok (.ifCond .eq 6, 3) := by decide +kernel
theorem d2_11 : decode method_5_code 11 = .ok (.lload_n 0, 1) := by decide +kernel
theorem d2_12 : decode method_5_code 12 = .ok (.ldc2_w 41, 3) := by decide +kernel
theorem d2_15 : decode method_5_code 15 = .ok (.land, 1) := by decide +kernel
theorem d2_16 : decode method_5_code 16 = .ok (.l2i, 1) := by decide +kernel
theorem d2_17 : decode method_5_code 17 = .ok (.i2c, 1) := by decide +kernel
theorem d2_18 : decode method_5_code 18 = .ok (.ireturn, 1) := by decide +kernel
def Q2t (Z : State) (q1 : Int64) (p2 : Int32) (h0 : Heap) (n0 : Nat) (v : Option Value) (h : Heap) (L : List Loc) : Prop := v = some (.int (nar .char (((q1 &&& (65535 : Int64)).toInt32).toUInt32.toUInt16.toUInt32.toInt32))) ∧ Fr n0 L ∧ h = h0
theorem ef_2 (m : MethodId) (x0 : Int64) (x1 : Int32) : entryFrame m #[(.long x0), (.int x1)] 3 = mkF m 0 #[.val (.long x0), .second, .val (.int x1)] [] := by first | (simp [entryFrame, mkF, argsToLocals, Value.category]; done) | rfl
theorem rm2t (l : Launch) (Z : State) (a0 : Array Value) (hw : ∀ d ∈ tables_1, d.before a0 Z = true) (ws : List Jvm.Cond) (q1 : Int64) (p2 : Int32) (h0 : Heap) (n0 : Nat) (O0 : Old Z n0 h0) (hc5 : (((p2.toUInt32 >>> ((4 : Int32) &&& 31).toUInt32).toInt32) &&& (1 : Int32)) = (0 : Int32)) :
    own_C l Z (⟨"com/example/vestwright/vestwright/ValuesMonthPinLaw", "dash", "(JI)C"⟩ : MethodName) method_5_code 3 (some .char) ws ({ frames := 0, cells := 0, slots := 0, locals := 0 } : Room) #[(.long q1), (.int p2)] h0 (Q2t Z q1 p2 h0 n0) := by
  refine MetFree.of_bodySF (plainFor_of_name pnc_com_example_vestwright_vestwright_ValuesMonthPinLaw) hisR ?_
  intro p e s m args below meth c s₁ Bd hml0 hP hK
  obtain ⟨rfl, hZ, hh⟩ := hP
  have hx := Bd.exec
  have hby := Bd.bytes
  have hml : c.maxLocals = 3 := hml0
  have hown : s.vm.findClass "com/example/vestwright/vestwright/ValuesMonthPinLaw" = some m.cls := findClass_of_methodNamed Bd.named
  have hnm := (name_of_methodNamed Bd.named Bd.method).1
  have X0 : Stand p l e ({ frames := 0, cells := 0, slots := 0, locals := 0 } : Room) s m #[(.long q1), (.int p2)] below meth c s₁ [] 0 0 := Stand.of_body Bd
  have e0 : s₁.heap = h0 := by rw [← hh, Bd.state]; rfl
  have N0 := Fr.nil n0
  have Z0 : n0 ≤ h0.size := O0.1 ▸ O0.2.1
  have pre0 : ∀ t, Steps p.tables e below (s₁.setTop (mkF m 0 #[.val (.long q1), .second, .val (.int p2)] [])) t → Steps p.tables e below (s₁.setTop (entryFrame m #[(.long q1), (.int p2)] 3)) t := fun t k => castTop (ef_2 m q1 p2) k
  obtain ⟨fs, hr, hrun, hended, hW, hsame⟩ := X0.leave (v := some (.int (nar .char (((q1 &&& (65535 : Int64)).toInt32).toUInt32.toUInt16.toUInt32.toInt32)))) (fun h => by rw [Bd.returns] at h; cases h)
  refine ⟨_, _, pre0 _ ?_, hrun, hended, _, _, rfl, ?_, ⟨_, rfl⟩, hW, hsame.mono (by decide) (by decide)⟩
  · show Steps p.tables e below (s₁.setTop (mkF m 0 #[.val (.long q1), .second, .val (.int p2)] [])) _
    refine XS.iloadN X0.here hx rfl (hb hby d2_0) rfl ?_
    refine XS.iconst X0.here hx rfl (hb hby d2_1) ?_
    refine XS.iushr X0.here hx rfl (hb hby d2_2) rfl ?_
    refine XS.iconst X0.here hx rfl (hb hby d2_3) ?_
    refine XS.iand X0.here hx rfl (hb hby d2_4) rfl ?_
    refine XS.ifYes X0.here hx rfl (pc0 := 5) (pc' := 11) rfl (hb hby d2_5) rfl ((if0 _ _).trans (teq hc5).1) (by decide) (by decide) ?_
    refine XS.lloadN X0.here hx rfl (hb hby d2_11) rfl ?_
    show Steps p.tables e below (s₁.setTop (mkF m 12 #[.val (.long q1), .second, .val (.int p2)] [(.long q1)])) _
    refine X0.ldc2Long hx hown (mvT hZ (own_w hw 4 rfl)) (g := (mkF m 12 #[.val (.long q1), .second, .val (.int p2)] [(.long q1)])) rfl (hb hby d2_12) _ ?_
    refine XS.land X0.here hx rfl (hb hby d2_15) rfl ?_
    refine XS.l2i X0.here hx rfl (hb hby d2_16) rfl ?_
    refine XS.i2c X0.here hx rfl (hb hby d2_17) rfl ?_
    exact retN X0 hx (t := .char) Bd.returns (by simp) (hb hby d2_18) hr
  · show Q2t Z q1 p2 h0 n0 _ s₁.heap _
    rw [e0]
    exact ⟨rfl, N0, rfl⟩
theorem d2_8 : decode method_5_code 8 = .ok (.bipush 45, 2) := by decide +kernel
theorem d2_10 : decode method_5_code 10 = .ok (.ireturn, 1) := by decide +kernel
def Q2f (Z : State) (q1 : Int64) (p2 : Int32) (h0 : Heap) (n0 : Nat) (v : Option Value) (h : Heap) (L : List Loc) : Prop := v = some (.int (nar .char (45 : Int32))) ∧ Fr n0 L ∧ h = h0
theorem rm2f (l : Launch) (Z : State) (a0 : Array Value) (hw : ∀ d ∈ tables_1, d.before a0 Z = true) (ws : List Jvm.Cond) (q1 : Int64) (p2 : Int32) (h0 : Heap) (n0 : Nat) (O0 : Old Z n0 h0) (hc5 : ¬ ((((p2.toUInt32 >>> ((4 : Int32) &&& 31).toUInt32).toInt32) &&& (1 : Int32)) = (0 : Int32))) :
    own_C l Z (⟨"com/example/vestwright/vestwright/ValuesMonthPinLaw", "dash", "(JI)C"⟩ : MethodName) method_5_code 3 (some .char) ws ({ frames := 0, cells := 0, slots := 0, locals := 0 } : Room) #[(.long q1), (.int p2)] h0 (Q2f Z q1 p2 h0 n0) := by
  refine MetFree.of_bodySF (plainFor_of_name pnc_com_example_vestwright_vestwright_ValuesMonthPinLaw) hisR ?_
  intro p e s m args below meth c s₁ Bd hml0 hP hK
  obtain ⟨rfl, hZ, hh⟩ := hP
  have hx := Bd.exec
  have hby := Bd.bytes
  have hml : c.maxLocals = 3 := hml0
  have hown : s.vm.findClass "com/example/vestwright/vestwright/ValuesMonthPinLaw" = some m.cls := findClass_of_methodNamed Bd.named
  have hnm := (name_of_methodNamed Bd.named Bd.method).1
  have X0 : Stand p l e ({ frames := 0, cells := 0, slots := 0, locals := 0 } : Room) s m #[(.long q1), (.int p2)] below meth c s₁ [] 0 0 := Stand.of_body Bd
  have e0 : s₁.heap = h0 := by rw [← hh, Bd.state]; rfl
  have N0 := Fr.nil n0
  have Z0 : n0 ≤ h0.size := O0.1 ▸ O0.2.1
  have pre0 : ∀ t, Steps p.tables e below (s₁.setTop (mkF m 0 #[.val (.long q1), .second, .val (.int p2)] [])) t → Steps p.tables e below (s₁.setTop (entryFrame m #[(.long q1), (.int p2)] 3)) t := fun t k => castTop (ef_2 m q1 p2) k
  obtain ⟨fs, hr, hrun, hended, hW, hsame⟩ := X0.leave (v := some (.int (nar .char (45 : Int32)))) (fun h => by rw [Bd.returns] at h; cases h)
  refine ⟨_, _, pre0 _ ?_, hrun, hended, _, _, rfl, ?_, ⟨_, rfl⟩, hW, hsame.mono (by decide) (by decide)⟩
  · show Steps p.tables e below (s₁.setTop (mkF m 0 #[.val (.long q1), .second, .val (.int p2)] [])) _
    refine XS.iloadN X0.here hx rfl (hb hby d2_0) rfl ?_
    refine XS.iconst X0.here hx rfl (hb hby d2_1) ?_
    refine XS.iushr X0.here hx rfl (hb hby d2_2) rfl ?_
    refine XS.iconst X0.here hx rfl (hb hby d2_3) ?_
    refine XS.iand X0.here hx rfl (hb hby d2_4) rfl ?_
    refine XS.ifNo X0.here hx rfl (hb hby d2_5) rfl ((if0 _ _).trans (feq hc5).1) ?_
    refine XS.bipush X0.here hx rfl (hb hby d2_8) ?_
    show Steps p.tables e below (s₁.setTop (mkF m 10 #[.val (.long q1), .second, .val (.int p2)] [(.int 45)])) _
    exact retN X0 hx (t := .char) Bd.returns (by simp) (hb hby d2_10) hr
  · show Q2f Z q1 p2 h0 n0 _ s₁.heap _
    rw [e0]
    exact ⟨rfl, N0, rfl⟩
def own_dav (q1 : Int64) (p2 : Int32) : Int32 := if (((p2.toUInt32 >>> ((4 : Int32) &&& 31).toUInt32).toInt32) &&& (1 : Int32)) = (0 : Int32) then (nar .char (((q1 &&& (65535 : Int64)).toInt32).toUInt32.toUInt16.toUInt32.toInt32)) else (nar .char (45 : Int32))
def Q2 (Z : State) (q1 : Int64) (p2 : Int32) (h0 : Heap) (n0 : Nat) (v : Option Value) (h : Heap) (L : List Loc) : Prop := v = some (.int (own_dav q1 p2)) ∧ Fr n0 L ∧ h = h0
theorem rm2 (l : Launch) (Z : State) (a0 : Array Value) (hw : ∀ d ∈ tables_1, d.before a0 Z = true) (ws : List Jvm.Cond) (q1 : Int64) (p2 : Int32) (h0 : Heap) (n0 : Nat) (O0 : Old Z n0 h0) :
    own_C l Z (⟨"com/example/vestwright/vestwright/ValuesMonthPinLaw", "dash", "(JI)C"⟩ : MethodName) method_5_code 3 (some .char) ws ({ frames := 0, cells := 0, slots := 0, locals := 0 } : Room) #[(.long q1), (.int p2)] h0 (Q2 Z q1 p2 h0 n0) := by
  by_cases cc : (((p2.toUInt32 >>> ((4 : Int32) &&& 31).toUInt32).toInt32) &&& (1 : Int32)) = (0 : Int32)
  · have q := rm2t l Z a0 hw ws q1 p2 h0 n0 O0 cc
    unfold Q2t at q
    unfold Q2
    rw [own_dav, if_pos cc]
    exact q
  · have q := rm2f l Z a0 hw ws q1 p2 h0 n0 O0 cc
    unfold Q2f at q
    unfold Q2
    rw [own_dav, if_neg cc]
    exact q
theorem d26_0 : decode method_3_code 0 = .ok (.iload_n 0, 1) := by decide +kernel
theorem d26_1 : decode method_3_code 1 = .ok (.bipush 48, 2) := by decide +kernel
theorem d26_3 : decode method_3_code 3 = .ok (.if_icmp .lt 13, 3) := by decide +kernel
theorem d26_6 : decode method_3_code 6 = .ok (.iload_n 0, 1) := by decide +kernel
theorem d26_7 : decode method_3_code 7 = .ok (.bipush 57, 2) := by decide +kernel
theorem d26_9 : decode method_3_code 9 = .ok (.if_icmp .gt 7, 3) := by decide +kernel
theorem d26_12 : decode method_3_code 12 = .ok (.iconst 1, 1) := by decide +kernel
theorem d26_13 : decode method_3_code 13 = .ok (.goto 4, 3) := by decide +kernel
theorem d26_17 : decode method_3_code 17 = .ok (.ireturn, 1) := by decide +kernel
def Q26T (Z : State) (p1 : Int32) (h0 : Heap) (n0 : Nat) (v : Option Value) (h : Heap) (L : List Loc) : Prop := v = some (.int 1) ∧ Fr n0 L ∧ h = h0
theorem ef_26 (m : MethodId) (x0 : Int32) : entryFrame m #[(.int x0)] 1 = mkF m 0 #[.val (.int x0)] [] := by first | (simp [entryFrame, mkF, argsToLocals, Value.category]; done) | rfl
theorem rm26T (l : Launch) (Z : State) (a0 : Array Value) (hw : ∀ d ∈ tables_1, d.before a0 Z = true) (ws : List Jvm.Cond) (p1 : Int32) (h0 : Heap) (n0 : Nat) (O0 : Old Z n0 h0) (hc3 : ¬ (p1 < (48 : Int32))) (hc9 : ¬ ((57 : Int32) < p1)) :
    own_C l Z (⟨"com/example/vestwright/vestwright/ValuesMonthPinLaw", "dig", "(C)Z"⟩ : MethodName) method_3_code 1 (some .boolean) ws ({ frames := 0, cells := 0, slots := 0, locals := 0 } : Room) #[(.int p1)] h0 (Q26T Z p1 h0 n0) := by
  refine MetFree.of_bodySF (plainFor_of_name pnc_com_example_vestwright_vestwright_ValuesMonthPinLaw) hisR ?_
  intro p e s m args below meth c s₁ Bd hml0 hP hK
  obtain ⟨rfl, hZ, hh⟩ := hP
  have hx := Bd.exec
  have hby := Bd.bytes
  have hml : c.maxLocals = 1 := hml0
  have hown : s.vm.findClass "com/example/vestwright/vestwright/ValuesMonthPinLaw" = some m.cls := findClass_of_methodNamed Bd.named
  have hnm := (name_of_methodNamed Bd.named Bd.method).1
  have X0 : Stand p l e ({ frames := 0, cells := 0, slots := 0, locals := 0 } : Room) s m #[(.int p1)] below meth c s₁ [] 0 0 := Stand.of_body Bd
  have e0 : s₁.heap = h0 := by rw [← hh, Bd.state]; rfl
  have N0 := Fr.nil n0
  have Z0 : n0 ≤ h0.size := O0.1 ▸ O0.2.1
  have pre0 : ∀ t, Steps p.tables e below (s₁.setTop (mkF m 0 #[.val (.int p1)] [])) t → Steps p.tables e below (s₁.setTop (entryFrame m #[(.int p1)] 1)) t := fun t k => castTop (ef_26 m p1) k
  obtain ⟨fs, hr, hrun, hended, hW, hsame⟩ := X0.leave (v := some (.int 1)) (fun h => by rw [Bd.returns] at h; cases h)
  refine ⟨_, _, pre0 _ ?_, hrun, hended, _, _, rfl, ?_, ⟨_, rfl⟩, hW, hsame.mono (by decide) (by decide)⟩
  · show Steps p.tables e below (s₁.setTop (mkF m 0 #[.val (.int p1)] [])) _
    refine XS.iloadN X0.here hx rfl (hb hby d26_0) rfl ?_
    refine XS.bipush X0.here hx rfl (hb hby d26_1) ?_
    refine XS.icmpNo X0.here hx rfl (hb hby d26_3) rfl (flt hc3).1 ?_
    refine XS.iloadN X0.here hx rfl (hb hby d26_6) rfl ?_
    refine XS.bipush X0.here hx rfl (hb hby d26_7) ?_
    refine XS.icmpNo X0.here hx rfl (hb hby d26_9) rfl (flt hc9).2.2.1 ?_
    refine XS.iconst X0.here hx rfl (hb hby d26_12) ?_
    show Steps p.tables e below (s₁.setTop (mkF m 13 #[.val (.int p1)] [(.int 1)])) _
    refine XS.goto X0.here hx rfl (pc0 := 13) (pc' := 17) rfl (hb hby d26_13) (by decide) (by decide) ?_
    exact retN X0 hx (t := .boolean) Bd.returns (by simp) (hb hby d26_17) hr
  · show Q26T Z p1 h0 n0 _ s₁.heap _
    rw [e0]
    exact ⟨rfl, N0, rfl⟩
theorem d26_16 : decode method_3_code 16 = .ok (.iconst 0, 1) := by decide +kernel
def Q26F1 (Z : State) (p1 : Int32) (h0 : Heap) (n0 : Nat) (v : Option Value) (h : Heap) (L : List Loc) : Prop := v = some (.int 0) ∧ Fr n0 L ∧ h = h0
theorem rm26F1 (l : Launch) (Z : State) (a0 : Array Value) (hw : ∀ d ∈ tables_1, d.before a0 Z = true) (ws : List Jvm.Cond) (p1 : Int32) (h0 : Heap) (n0 : Nat) (O0 : Old Z n0 h0) (hc3 : p1 < (48 : Int32)) :
    own_C l Z (⟨"com/example/vestwright/vestwright/ValuesMonthPinLaw", "dig", "(C)Z"⟩ : MethodName) method_3_code 1 (some .boolean) ws ({ frames := 0, cells := 0, slots := 0, locals := 0 } : Room) #[(.int p1)] h0 (Q26F1 Z p1 h0 n0) := by
  refine MetFree.of_bodySF (plainFor_of_name pnc_com_example_vestwright_vestwright_ValuesMonthPinLaw) hisR ?_
  intro p e s m args below meth c s₁ Bd hml0 hP hK
  obtain ⟨rfl, hZ, hh⟩ := hP
  have hx := Bd.exec
  have hby := Bd.bytes
  have hml : c.maxLocals = 1 := hml0
  have hown : s.vm.findClass "com/example/vestwright/vestwright/ValuesMonthPinLaw" = some m.cls := findClass_of_methodNamed Bd.named
  have hnm := (name_of_methodNamed Bd.named Bd.method).1
  have X0 : Stand p l e ({ frames := 0, cells := 0, slots := 0, locals := 0 } : Room) s m #[(.int p1)] below meth c s₁ [] 0 0 := Stand.of_body Bd
  have e0 : s₁.heap = h0 := by rw [← hh, Bd.state]; rfl
  have N0 := Fr.nil n0
  have Z0 : n0 ≤ h0.size := O0.1 ▸ O0.2.1
  have pre0 : ∀ t, Steps p.tables e below (s₁.setTop (mkF m 0 #[.val (.int p1)] [])) t → Steps p.tables e below (s₁.setTop (entryFrame m #[(.int p1)] 1)) t := fun t k => castTop (ef_26 m p1) k
  obtain ⟨fs, hr, hrun, hended, hW, hsame⟩ := X0.leave (v := some (.int 0)) (fun h => by rw [Bd.returns] at h; cases h)
  refine ⟨_, _, pre0 _ ?_, hrun, hended, _, _, rfl, ?_, ⟨_, rfl⟩, hW, hsame.mono (by decide) (by decide)⟩
  · show Steps p.tables e below (s₁.setTop (mkF m 0 #[.val (.int p1)] [])) _
    refine XS.iloadN X0.here hx rfl (hb hby d26_0) rfl ?_
    refine XS.bipush X0.here hx rfl (hb hby d26_1) ?_
    refine XS.icmpYes X0.here hx rfl (pc0 := 3) (pc' := 16) rfl (hb hby d26_3) rfl (tlt hc3).1 (by decide) (by decide) ?_
    refine XS.iconst X0.here hx rfl (hb hby d26_16) ?_
    exact retN X0 hx (t := .boolean) Bd.returns (by simp) (hb hby d26_17) hr
  · show Q26F1 Z p1 h0 n0 _ s₁.heap _
    rw [e0]
    exact ⟨rfl, N0, rfl⟩
def Q26F2 (Z : State) (p1 : Int32) (h0 : Heap) (n0 : Nat) (v : Option Value) (h : Heap) (L : List Loc) : Prop := v = some (.int 0) ∧ Fr n0 L ∧ h = h0
theorem rm26F2 (l : Launch) (Z : State) (a0 : Array Value) (hw : ∀ d ∈ tables_1, d.before a0 Z = true) (ws : List Jvm.Cond) (p1 : Int32) (h0 : Heap) (n0 : Nat) (O0 : Old Z n0 h0) (hc3 : ¬ (p1 < (48 : Int32))) (hc9 : (57 : Int32) < p1) :
    own_C l Z (⟨"com/example/vestwright/vestwright/ValuesMonthPinLaw", "dig", "(C)Z"⟩ : MethodName) method_3_code 1 (some .boolean) ws ({ frames := 0, cells := 0, slots := 0, locals := 0 } : Room) #[(.int p1)] h0 (Q26F2 Z p1 h0 n0) := by
  refine MetFree.of_bodySF (plainFor_of_name pnc_com_example_vestwright_vestwright_ValuesMonthPinLaw) hisR ?_
  intro p e s m args below meth c s₁ Bd hml0 hP hK
  obtain ⟨rfl, hZ, hh⟩ := hP
  have hx := Bd.exec
  have hby := Bd.bytes
  have hml : c.maxLocals = 1 := hml0
  have hown : s.vm.findClass "com/example/vestwright/vestwright/ValuesMonthPinLaw" = some m.cls := findClass_of_methodNamed Bd.named
  have hnm := (name_of_methodNamed Bd.named Bd.method).1
  have X0 : Stand p l e ({ frames := 0, cells := 0, slots := 0, locals := 0 } : Room) s m #[(.int p1)] below meth c s₁ [] 0 0 := Stand.of_body Bd
  have e0 : s₁.heap = h0 := by rw [← hh, Bd.state]; rfl
  have N0 := Fr.nil n0
  have Z0 : n0 ≤ h0.size := O0.1 ▸ O0.2.1
  have pre0 : ∀ t, Steps p.tables e below (s₁.setTop (mkF m 0 #[.val (.int p1)] [])) t → Steps p.tables e below (s₁.setTop (entryFrame m #[(.int p1)] 1)) t := fun t k => castTop (ef_26 m p1) k
  obtain ⟨fs, hr, hrun, hended, hW, hsame⟩ := X0.leave (v := some (.int 0)) (fun h => by rw [Bd.returns] at h; cases h)
  refine ⟨_, _, pre0 _ ?_, hrun, hended, _, _, rfl, ?_, ⟨_, rfl⟩, hW, hsame.mono (by decide) (by decide)⟩
  · show Steps p.tables e below (s₁.setTop (mkF m 0 #[.val (.int p1)] [])) _
    refine XS.iloadN X0.here hx rfl (hb hby d26_0) rfl ?_
    refine XS.bipush X0.here hx rfl (hb hby d26_1) ?_
    refine XS.icmpNo X0.here hx rfl (hb hby d26_3) rfl (flt hc3).1 ?_
    refine XS.iloadN X0.here hx rfl (hb hby d26_6) rfl ?_
    refine XS.bipush X0.here hx rfl (hb hby d26_7) ?_
    refine XS.icmpYes X0.here hx rfl (pc0 := 9) (pc' := 16) rfl (hb hby d26_9) rfl (tlt hc9).2.2.1 (by decide) (by decide) ?_
    refine XS.iconst X0.here hx rfl (hb hby d26_16) ?_
    show Steps p.tables e below (s₁.setTop (mkF m 17 #[.val (.int p1)] [(.int 0)])) _
    exact retN X0 hx (t := .boolean) Bd.returns (by simp) (hb hby d26_17) hr
  · show Q26F2 Z p1 h0 n0 _ s₁.heap _
    rw [e0]
    exact ⟨rfl, N0, rfl⟩
def Q26F (Z : State) (p1 : Int32) (h0 : Heap) (n0 : Nat) (v : Option Value) (h : Heap) (L : List Loc) : Prop := v = some (.int 0) ∧ Fr n0 L ∧ h = h0
theorem rm26F (l : Launch) (Z : State) (a0 : Array Value) (hw : ∀ d ∈ tables_1, d.before a0 Z = true) (ws : List Jvm.Cond) (p1 : Int32) (h0 : Heap) (n0 : Nat) (O0 : Old Z n0 h0) (hd : ¬ own_dg p1) :
    own_C l Z (⟨"com/example/vestwright/vestwright/ValuesMonthPinLaw", "dig", "(C)Z"⟩ : MethodName) method_3_code 1 (some .boolean) ws ({ frames := 0, cells := 0, slots := 0, locals := 0 } : Room) #[(.int p1)] h0 (Q26F Z p1 h0 n0) := by
  by_cases a1 : p1 < (48 : Int32)
  · exact rm26F1 l Z a0 hw ws p1 h0 n0 O0 a1
  by_cases b1 : (57 : Int32) < p1
  · exact rm26F2 l Z a0 hw ws p1 h0 n0 O0 a1 b1
  exact absurd ⟨a1, b1⟩ hd
theorem tn86 {p : Program} {l : Launch} {e : Env} {s : State} {m : MethodId} {args : Array Value} {below : List Frame} {meth : Method} {c : Code} {T0 : State} {locs : List Loc} {Z : State} {a0 : Array Value} (hw : ∀ d ∈ tables_1, d.before a0 Z = true) (s0 s1 s2 s3 s4 s5 : Slot) (c0 c1 c2 c3 c4 c5 c6 c7 : Int32) (s18 s19 s20 s21 s22 s23 : Slot) (h0 : Heap) (n0 : Nat) (X0 : Stand p l e room_1 s m args below meth c T0 locs 0 0) (N0 : Fr n0 locs) (hx : p.tables.exec = Jvm.exec) (hZ : Z.Warmed39 s.vm) (hby : c.code = code) (hml : c.maxLocals = 24) (hown : s.vm.findClass "com/example/vestwright/vestwright/ValuesMonthPinLaw" = some m.cls) (e0 : T0.heap = h0) (O0 : Old Z n0 h0) (hc0 : own_ch c0) (hc1 : own_ch c1) (hc2 : own_ch c2) (hc3 : own_ch c3) (hc4 : own_ch c4) (hc5 : own_ch c5) (hc6 : own_ch c6) (hc7 : own_ch c7) :
    ∃ (T' : State) (locs' : List Loc) (h' : Heap) (b1 : Addr) (b4 : Addr) (b31 : Addr) (b62 : Addr) (k1 : ClassId) (k4 : ClassId) (k31 : ClassId) (k62 : ClassId), Stand p l e room_1 s m args below meth c T' locs' 4 21 ∧ Fr n0 locs' ∧ T'.heap = h' ∧ Keep h0 h' [] ∧ h0.size ≤ b1 ∧ h0.size ≤ b4 ∧ h0.size ≤ b31 ∧ h0.size ≤ b62 ∧ b1 ≠ b4 ∧ b1 ≠ b31 ∧ b1 ≠ b62 ∧ b4 ≠ b31 ∧ b4 ≠ b62 ∧ b31 ≠ b62 ∧ Arv Z h' b1 k1 .char (0 : Int32) [] (.int 0) ∧ Arv Z h' b4 k4 .char (6 : Int32) [(.int c0), (.int c1), (.int c2), (.int c3), (.int c4), (.int c5)] (.int 0) ∧ Arv Z h' b31 k31 .char (7 : Int32) [(.int c0), (.int c1), (.int c2), (.int c3), (.int c4), (.int c5), (.int c6)] (.int 0) ∧ Arv Z h' b62 k62 .char (8 : Int32) [(.int c0), (.int c1), (.int c2), (.int c3), (.int c4), (.int c5), (.int c6), (.int c7)] (.int 0) ∧
      ∀ target, Steps p.tables e below (T'.setTop (mkF m 217 #[s0, s1, s2, s3, s4, s5, .val (.int c0), .val (.int c1), .val (.int c2), .val (.int c3), .val (.int c4), .val (.int c5), .val (.int c6), .val (.int c7), .val (.ref b1), .val (.ref b4), .val (.ref b31), .val (.ref b62), s18, s19, s20, s21, s22, s23] [])) target → Steps p.tables e below (T0.setTop (mkF m 86 #[s0, s1, s2, s3, s4, s5, .val (.int c0), .val (.int c1), .val (.int c2), .val (.int c3), .val (.int c4), .val (.int c5), .val (.int c6), .val (.int c7), .unset, .unset, .unset, .unset, s18, s19, s20, s21, s22, s23] [])) target := by
  have Z0 : n0 ≤ h0.size := O0.1 ▸ O0.2.1
  obtain ⟨T1, h1, k1, X1, e1, E1, A1, st1⟩ := newP X0 hx hZ (own_w hw 8 rfl) e0 (g := (mkF m 87 #[s0, s1, s2, s3, s4, s5, .val (.int c0), .val (.int c1), .val (.int c2), .val (.int c3), .val (.int c4), .val (.int c5), .val (.int c6), .val (.int c7), .unset, .unset, .unset, .unset, s18, s19, s20, s21, s22, s23] [(.int 0)])) rfl (hb hby at_87) rfl (by decide) (cap := 0) (by decide) (by decide) (by decide) (by decide)
  obtain ⟨b1, g1⟩ : ∃ z, z = h0.size := ⟨_, rfl⟩
  rw [← g1] at A1 st1
  have g_b1 : n0 ≤ b1 := Nat.le_trans (Nat.le_trans Z0 (Keep.refl h0 []).1) (Nat.le_of_eq g1.symm)
  have sz_b1 : h0.size ≤ b1 := Nat.le_trans (Keep.refl h0 []).1 (Nat.le_of_eq g1.symm)
  have K2 : Keep h0 h1 [] := (Keep.refl h0 []).ext E1
  have O3 : Old Z n0 h1 := O0.ext E1
  have V1 : Arv Z h1 b1 k1 .char (0 : Int32) [] (.int 0) := (Arv.new A1 (by decide)).pad (pad_rep [] (.int 0) 0)
  replace X1 := X1.more (cells' := 1) (slots' := 0) (by decide) (by decide)
  obtain ⟨T4, h4, k4, X4, e4, E4, A4, st4⟩ := newP X1 hx hZ (own_w hw 8 rfl) e1 (g := (mkF m 93 #[s0, s1, s2, s3, s4, s5, .val (.int c0), .val (.int c1), .val (.int c2), .val (.int c3), .val (.int c4), .val (.int c5), .val (.int c6), .val (.int c7), .val (.ref b1), .unset, .unset, .unset, s18, s19, s20, s21, s22, s23] [(.int 6)])) rfl (hb hby at_93) rfl (by decide) (cap := 6) (by decide) (by decide) (by decide) (by decide)
  obtain ⟨b4, g4⟩ : ∃ z, z = h1.size := ⟨_, rfl⟩
  rw [← g4] at A4 st4
  have g_b4 : n0 ≤ b4 := Nat.le_trans (Nat.le_trans Z0 K2.1) (Nat.le_of_eq g4.symm)
  have sz_b4 : h0.size ≤ b4 := Nat.le_trans K2.1 (Nat.le_of_eq g4.symm)
  have K5 : Keep h0 h4 [] := K2.ext E4
  have O6 : Old Z n0 h4 := O3.ext E4
  have V4 : Arv Z h4 b4 k4 .char (6 : Int32) [(.int 0), (.int 0), (.int 0), (.int 0), (.int 0), (.int 0)] (.int 0) := (Arv.new A4 (by decide)).pad (pad_rep [] (.int 0) 6)
  replace X4 := X4.more (cells' := 2) (slots' := 6) (by decide) (by decide)
  obtain ⟨cl7, Ar7, q7, S7, Nn7, Hh7, G7⟩ := id V4
  have hin7 : ¬ ((0 : Int32) < 0 ∨ cl7.slots.size ≤ ((0 : Int32)).toNatClampNeg) := inb_of S7 ⟨by decide, by decide⟩
  obtain ⟨T8, h8, X8, e8, W8, st8⟩ := stC X4 hx hZ e4 Ar7 (j := (0 : Int32)) hin7 (g := (mkF m 99 #[s0, s1, s2, s3, s4, s5, .val (.int c0), .val (.int c1), .val (.int c2), .val (.int c3), .val (.int c4), .val (.int c5), .val (.int c6), .val (.int c7), .val (.ref b1), .unset, .unset, .unset, s18, s19, s20, s21, s22, s23] [(.int c0), (.int 0), (.ref b4), (.ref b4)])) rfl rfl (hb hby at_99)
  have N8 := Fr.snoc X8 N0 g_b4
  have K9 : Keep h0 h8 [] := K5.wr W8 (Or.inr sz_b4)
  have O10 : Old Z n0 h8 := O6.wr W8 g_b4
  have V8 : Arv Z h8 b4 k4 .char (6 : Int32) [(.int c0.toUInt32.toUInt16.toUInt32.toInt32), (.int 0), (.int 0), (.int 0), (.int 0), (.int 0)] (.int 0) := Arv.set Ar7 q7 S7 Nn7 Hh7 G7 (fits_nar_char _) W8 0 rfl (Nat.le_of_ble_eq_true rfl)
  obtain ⟨cl11, Ar11, q11, S11, Nn11, Hh11, G11⟩ := id V8
  have hin11 : ¬ ((1 : Int32) < 0 ∨ cl11.slots.size ≤ ((1 : Int32)).toNatClampNeg) := inb_of S11 ⟨by decide, by decide⟩
  obtain ⟨T12, h12, X12, e12, W12, st12⟩ := stC X8 hx hZ e8 Ar11 (j := (1 : Int32)) hin11 (g := (mkF m 104 #[s0, s1, s2, s3, s4, s5, .val (.int c0), .val (.int c1), .val (.int c2), .val (.int c3), .val (.int c4), .val (.int c5), .val (.int c6), .val (.int c7), .val (.ref b1), .unset, .unset, .unset, s18, s19, s20, s21, s22, s23] [(.int c1), (.int 1), (.ref b4), (.ref b4)])) rfl rfl (hb hby at_104)
  have N12 := Fr.snoc X12 N8 g_b4
  have K13 : Keep h0 h12 [] := K9.wr W12 (Or.inr sz_b4)
  have O14 : Old Z n0 h12 := O10.wr W12 g_b4
  have V12 : Arv Z h12 b4 k4 .char (6 : Int32) [(.int c0.toUInt32.toUInt16.toUInt32.toInt32), (.int c1.toUInt32.toUInt16.toUInt32.toInt32), (.int 0), (.int 0), (.int 0), (.int 0)] (.int 0) := Arv.set Ar11 q11 S11 Nn11 Hh11 G11 (fits_nar_char _) W12 1 rfl (Nat.le_of_ble_eq_true rfl)
  obtain ⟨cl15, Ar15, q15, S15, Nn15, Hh15, G15⟩ := id V12
  have hin15 : ¬ ((2 : Int32) < 0 ∨ cl15.slots.size ≤ ((2 : Int32)).toNatClampNeg) := inb_of S15 ⟨by decide, by decide⟩
  obtain ⟨T16, h16, X16, e16, W16, st16⟩ := stC X12 hx hZ e12 Ar15 (j := (2 : Int32)) hin15 (g := (mkF m 109 #[s0, s1, s2, s3, s4, s5, .val (.int c0), .val (.int c1), .val (.int c2), .val (.int c3), .val (.int c4), .val (.int c5), .val (.int c6), .val (.int c7), .val (.ref b1), .unset, .unset, .unset, s18, s19, s20, s21, s22, s23] [(.int c2), (.int 2), (.ref b4), (.ref b4)])) rfl rfl (hb hby at_109)
  have N16 := Fr.snoc X16 N12 g_b4
  have K17 : Keep h0 h16 [] := K13.wr W16 (Or.inr sz_b4)
  have O18 : Old Z n0 h16 := O14.wr W16 g_b4
  have V16 : Arv Z h16 b4 k4 .char (6 : Int32) [(.int c0.toUInt32.toUInt16.toUInt32.toInt32), (.int c1.toUInt32.toUInt16.toUInt32.toInt32), (.int c2.toUInt32.toUInt16.toUInt32.toInt32), (.int 0), (.int 0), (.int 0)] (.int 0) := Arv.set Ar15 q15 S15 Nn15 Hh15 G15 (fits_nar_char _) W16 2 rfl (Nat.le_of_ble_eq_true rfl)
  obtain ⟨cl19, Ar19, q19, S19, Nn19, Hh19, G19⟩ := id V16
  have hin19 : ¬ ((3 : Int32) < 0 ∨ cl19.slots.size ≤ ((3 : Int32)).toNatClampNeg) := inb_of S19 ⟨by decide, by decide⟩
  obtain ⟨T20, h20, X20, e20, W20, st20⟩ := stC X16 hx hZ e16 Ar19 (j := (3 : Int32)) hin19 (g := (mkF m 114 #[s0, s1, s2, s3, s4, s5, .val (.int c0), .val (.int c1), .val (.int c2), .val (.int c3), .val (.int c4), .val (.int c5), .val (.int c6), .val (.int c7), .val (.ref b1), .unset, .unset, .unset, s18, s19, s20, s21, s22, s23] [(.int c3), (.int 3), (.ref b4), (.ref b4)])) rfl rfl (hb hby at_114)
  have N20 := Fr.snoc X20 N16 g_b4
  have K21 : Keep h0 h20 [] := K17.wr W20 (Or.inr sz_b4)
  have O22 : Old Z n0 h20 := O18.wr W20 g_b4
  have V20 : Arv Z h20 b4 k4 .char (6 : Int32) [(.int c0.toUInt32.toUInt16.toUInt32.toInt32), (.int c1.toUInt32.toUInt16.toUInt32.toInt32), (.int c2.toUInt32.toUInt16.toUInt32.toInt32), (.int c3.toUInt32.toUInt16.toUInt32.toInt32), (.int 0), (.int 0)] (.int 0) := Arv.set Ar19 q19 S19 Nn19 Hh19 G19 (fits_nar_char _) W20 3 rfl (Nat.le_of_ble_eq_true rfl)
  obtain ⟨cl23, Ar23, q23, S23, Nn23, Hh23, G23⟩ := id V20
  have hin23 : ¬ ((4 : Int32) < 0 ∨ cl23.slots.size ≤ ((4 : Int32)).toNatClampNeg) := inb_of S23 ⟨by decide, by decide⟩
  obtain ⟨T24, h24, X24, e24, W24, st24⟩ := stC X20 hx hZ e20 Ar23 (j := (4 : Int32)) hin23 (g := (mkF m 119 #[s0, s1, s2, s3, s4, s5, .val (.int c0), .val (.int c1), .val (.int c2), .val (.int c3), .val (.int c4), .val (.int c5), .val (.int c6), .val (.int c7), .val (.ref b1), .unset, .unset, .unset, s18, s19, s20, s21, s22, s23] [(.int c4), (.int 4), (.ref b4), (.ref b4)])) rfl rfl (hb hby at_119)
  have N24 := Fr.snoc X24 N20 g_b4
  have K25 : Keep h0 h24 [] := K21.wr W24 (Or.inr sz_b4)
  have O26 : Old Z n0 h24 := O22.wr W24 g_b4
  have V24 : Arv Z h24 b4 k4 .char (6 : Int32) [(.int c0.toUInt32.toUInt16.toUInt32.toInt32), (.int c1.toUInt32.toUInt16.toUInt32.toInt32), (.int c2.toUInt32.toUInt16.toUInt32.toInt32), (.int c3.toUInt32.toUInt16.toUInt32.toInt32), (.int c4.toUInt32.toUInt16.toUInt32.toInt32), (.int 0)] (.int 0) := Arv.set Ar23 q23 S23 Nn23 Hh23 G23 (fits_nar_char _) W24 4 rfl (Nat.le_of_ble_eq_true rfl)
  obtain ⟨cl27, Ar27, q27, S27, Nn27, Hh27, G27⟩ := id V24
  have hin27 : ¬ ((5 : Int32) < 0 ∨ cl27.slots.size ≤ ((5 : Int32)).toNatClampNeg) := inb_of S27 ⟨by decide, by decide⟩
  obtain ⟨T28, h28, X28, e28, W28, st28⟩ := stC X24 hx hZ e24 Ar27 (j := (5 : Int32)) hin27 (g := (mkF m 124 #[s0, s1, s2, s3, s4, s5, .val (.int c0), .val (.int c1), .val (.int c2), .val (.int c3), .val (.int c4), .val (.int c5), .val (.int c6), .val (.int c7), .val (.ref b1), .unset, .unset, .unset, s18, s19, s20, s21, s22, s23] [(.int c5), (.int 5), (.ref b4), (.ref b4)])) rfl rfl (hb hby at_124)
  have N28 := Fr.snoc X28 N24 g_b4
  have K29 : Keep h0 h28 [] := K25.wr W28 (Or.inr sz_b4)
  have O30 : Old Z n0 h28 := O26.wr W28 g_b4
  have V28 : Arv Z h28 b4 k4 .char (6 : Int32) [(.int c0.toUInt32.toUInt16.toUInt32.toInt32), (.int c1.toUInt32.toUInt16.toUInt32.toInt32), (.int c2.toUInt32.toUInt16.toUInt32.toInt32), (.int c3.toUInt32.toUInt16.toUInt32.toInt32), (.int c4.toUInt32.toUInt16.toUInt32.toInt32), (.int c5.toUInt32.toUInt16.toUInt32.toInt32)] (.int 0) := Arv.set Ar27 q27 S27 Nn27 Hh27 G27 (fits_nar_char _) W28 5 rfl (Nat.le_of_ble_eq_true rfl)
  obtain ⟨T31, h31, k31, X31, e31, E31, A31, st31⟩ := newP X28 hx hZ (own_w hw 8 rfl) e28 (g := (mkF m 129 #[s0, s1, s2, s3, s4, s5, .val (.int c0), .val (.int c1), .val (.int c2), .val (.int c3), .val (.int c4), .val (.int c5), .val (.int c6), .val (.int c7), .val (.ref b1), .val (.ref b4), .unset, .unset, s18, s19, s20, s21, s22, s23] [(.int 7)])) rfl (hb hby at_129) rfl (by decide) (cap := 7) (by decide) (by decide) (by decide) (by decide)
  obtain ⟨b31, g31⟩ : ∃ z, z = h28.size := ⟨_, rfl⟩
  rw [← g31] at A31 st31
  have g_b31 : n0 ≤ b31 := Nat.le_trans (Nat.le_trans Z0 K29.1) (Nat.le_of_eq g31.symm)
  have sz_b31 : h0.size ≤ b31 := Nat.le_trans K29.1 (Nat.le_of_eq g31.symm)
  have K32 : Keep h0 h31 [] := K29.ext E31
  have O33 : Old Z n0 h31 := O30.ext E31
  have V31 : Arv Z h31 b31 k31 .char (7 : Int32) [(.int 0), (.int 0), (.int 0), (.int 0), (.int 0), (.int 0), (.int 0)] (.int 0) := (Arv.new A31 (by decide)).pad (pad_rep [] (.int 0) 7)
  replace X31 := X31.more (cells' := 3) (slots' := 13) (by decide) (by decide)
  obtain ⟨cl34, Ar34, q34, S34, Nn34, Hh34, G34⟩ := id V31
  have hin34 : ¬ ((0 : Int32) < 0 ∨ cl34.slots.size ≤ ((0 : Int32)).toNatClampNeg) := inb_of S34 ⟨by decide, by decide⟩
  obtain ⟨T35, h35, X35, e35, W35, st35⟩ := stC X31 hx hZ e31 Ar34 (j := (0 : Int32)) hin34 (g := (mkF m 135 #[s0, s1, s2, s3, s4, s5, .val (.int c0), .val (.int c1), .val (.int c2), .val (.int c3), .val (.int c4), .val (.int c5), .val (.int c6), .val (.int c7), .val (.ref b1), .val (.ref b4), .unset, .unset, s18, s19, s20, s21, s22, s23] [(.int c0), (.int 0), (.ref b31), (.ref b31)])) rfl rfl (hb hby at_135)
  have N35 := Fr.snoc X35 N28 g_b31
  have K36 : Keep h0 h35 [] := K32.wr W35 (Or.inr sz_b31)
  have O37 : Old Z n0 h35 := O33.wr W35 g_b31
  have V35 : Arv Z h35 b31 k31 .char (7 : Int32) [(.int c0.toUInt32.toUInt16.toUInt32.toInt32), (.int 0), (.int 0), (.int 0), (.int 0), (.int 0), (.int 0)] (.int 0) := Arv.set Ar34 q34 S34 Nn34 Hh34 G34 (fits_nar_char _) W35 0 rfl (Nat.le_of_ble_eq_true rfl)
  obtain ⟨cl38, Ar38, q38, S38, Nn38, Hh38, G38⟩ := id V35
  have hin38 : ¬ ((1 : Int32) < 0 ∨ cl38.slots.size ≤ ((1 : Int32)).toNatClampNeg) := inb_of S38 ⟨by decide, by decide⟩
  obtain ⟨T39, h39, X39, e39, W39, st39⟩ := stC X35 hx hZ e35 Ar38 (j := (1 : Int32)) hin38 (g := (mkF m 140 #[s0, s1, s2, s3, s4, s5, .val (.int c0), .val (.int c1), .val (.int c2), .val (.int c3), .val (.int c4), .val (.int c5), .val (.int c6), .val (.int c7), .val (.ref b1), .val (.ref b4), .unset, .unset, s18, s19, s20, s21, s22, s23] [(.int c1), (.int 1), (.ref b31), (.ref b31)])) rfl rfl (hb hby at_140)
  have N39 := Fr.snoc X39 N35 g_b31
  have K40 : Keep h0 h39 [] := K36.wr W39 (Or.inr sz_b31)
  have O41 : Old Z n0 h39 := O37.wr W39 g_b31
  have V39 : Arv Z h39 b31 k31 .char (7 : Int32) [(.int c0.toUInt32.toUInt16.toUInt32.toInt32), (.int c1.toUInt32.toUInt16.toUInt32.toInt32), (.int 0), (.int 0), (.int 0), (.int 0), (.int 0)] (.int 0) := Arv.set Ar38 q38 S38 Nn38 Hh38 G38 (fits_nar_char _) W39 1 rfl (Nat.le_of_ble_eq_true rfl)
  obtain ⟨cl42, Ar42, q42, S42, Nn42, Hh42, G42⟩ := id V39
  have hin42 : ¬ ((2 : Int32) < 0 ∨ cl42.slots.size ≤ ((2 : Int32)).toNatClampNeg) := inb_of S42 ⟨by decide, by decide⟩
  obtain ⟨T43, h43, X43, e43, W43, st43⟩ := stC X39 hx hZ e39 Ar42 (j := (2 : Int32)) hin42 (g := (mkF m 145 #[s0, s1, s2, s3, s4, s5, .val (.int c0), .val (.int c1), .val (.int c2), .val (.int c3), .val (.int c4), .val (.int c5), .val (.int c6), .val (.int c7), .val (.ref b1), .val (.ref b4), .unset, .unset, s18, s19, s20, s21, s22, s23] [(.int c2), (.int 2), (.ref b31), (.ref b31)])) rfl rfl (hb hby at_145)
  have N43 := Fr.snoc X43 N39 g_b31
  have K44 : Keep h0 h43 [] := K40.wr W43 (Or.inr sz_b31)
  have O45 : Old Z n0 h43 := O41.wr W43 g_b31
  have V43 : Arv Z h43 b31 k31 .char (7 : Int32) [(.int c0.toUInt32.toUInt16.toUInt32.toInt32), (.int c1.toUInt32.toUInt16.toUInt32.toInt32), (.int c2.toUInt32.toUInt16.toUInt32.toInt32), (.int 0), (.int 0), (.int 0), (.int 0)] (.int 0) := Arv.set Ar42 q42 S42 Nn42 Hh42 G42 (fits_nar_char _) W43 2 rfl (Nat.le_of_ble_eq_true rfl)
  obtain ⟨cl46, Ar46, q46, S46, Nn46, Hh46, G46⟩ := id V43
  have hin46 : ¬ ((3 : Int32) < 0 ∨ cl46.slots.size ≤ ((3 : Int32)).toNatClampNeg) := inb_of S46 ⟨by decide, by decide⟩
  obtain ⟨T47, h47, X47, e47, W47, st47⟩ := stC X43 hx hZ e43 Ar46 (j := (3 : Int32)) hin46 (g := (mkF m 150 #[s0, s1, s2, s3, s4, s5, .val (.int c0), .val (.int c1), .val (.int c2), .val (.int c3), .val (.int c4), .val (.int c5), .val (.int c6), .val (.int c7), .val (.ref b1), .val (.ref b4), .unset, .unset, s18, s19, s20, s21, s22, s23] [(.int c3), (.int 3), (.ref b31), (.ref b31)])) rfl rfl (hb hby at_150)
  have N47 := Fr.snoc X47 N43 g_b31
  have K48 : Keep h0 h47 [] := K44.wr W47 (Or.inr sz_b31)
  have O49 : Old Z n0 h47 := O45.wr W47 g_b31
  have V47 : Arv Z h47 b31 k31 .char (7 : Int32) [(.int c0.toUInt32.toUInt16.toUInt32.toInt32), (.int c1.toUInt32.toUInt16.toUInt32.toInt32), (.int c2.toUInt32.toUInt16.toUInt32.toInt32), (.int c3.toUInt32.toUInt16.toUInt32.toInt32), (.int 0), (.int 0), (.int 0)] (.int 0) := Arv.set Ar46 q46 S46 Nn46 Hh46 G46 (fits_nar_char _) W47 3 rfl (Nat.le_of_ble_eq_true rfl)
  obtain ⟨cl50, Ar50, q50, S50, Nn50, Hh50, G50⟩ := id V47
  have hin50 : ¬ ((4 : Int32) < 0 ∨ cl50.slots.size ≤ ((4 : Int32)).toNatClampNeg) := inb_of S50 ⟨by decide, by decide⟩
  obtain ⟨T51, h51, X51, e51, W51, st51⟩ := stC X47 hx hZ e47 Ar50 (j := (4 : Int32)) hin50 (g := (mkF m 155 #[s0, s1, s2, s3, s4, s5, .val (.int c0), .val (.int c1), .val (.int c2), .val (.int c3), .val (.int c4), .val (.int c5), .val (.int c6), .val (.int c7), .val (.ref b1), .val (.ref b4), .unset, .unset, s18, s19, s20, s21, s22, s23] [(.int c4), (.int 4), (.ref b31), (.ref b31)])) rfl rfl (hb hby at_155)
  have N51 := Fr.snoc X51 N47 g_b31
  have K52 : Keep h0 h51 [] := K48.wr W51 (Or.inr sz_b31)
  have O53 : Old Z n0 h51 := O49.wr W51 g_b31
  have V51 : Arv Z h51 b31 k31 .char (7 : Int32) [(.int c0.toUInt32.toUInt16.toUInt32.toInt32), (.int c1.toUInt32.toUInt16.toUInt32.toInt32), (.int c2.toUInt32.toUInt16.toUInt32.toInt32), (.int c3.toUInt32.toUInt16.toUInt32.toInt32), (.int c4.toUInt32.toUInt16.toUInt32.toInt32), (.int 0), (.int 0)] (.int 0) := Arv.set Ar50 q50 S50 Nn50 Hh50 G50 (fits_nar_char _) W51 4 rfl (Nat.le_of_ble_eq_true rfl)
  obtain ⟨cl54, Ar54, q54, S54, Nn54, Hh54, G54⟩ := id V51
  have hin54 : ¬ ((5 : Int32) < 0 ∨ cl54.slots.size ≤ ((5 : Int32)).toNatClampNeg) := inb_of S54 ⟨by decide, by decide⟩
  obtain ⟨T55, h55, X55, e55, W55, st55⟩ := stC X51 hx hZ e51 Ar54 (j := (5 : Int32)) hin54 (g := (mkF m 160 #[s0, s1, s2, s3, s4, s5, .val (.int c0), .val (.int c1), .val (.int c2), .val (.int c3), .val (.int c4), .val (.int c5), .val (.int c6), .val (.int c7), .val (.ref b1), .val (.ref b4), .unset, .unset, s18, s19, s20, s21, s22, s23] [(.int c5), (.int 5), (.ref b31), (.ref b31)])) rfl rfl (hb hby at_160)
  have N55 := Fr.snoc X55 N51 g_b31
  have K56 : Keep h0 h55 [] := K52.wr W55 (Or.inr sz_b31)
  have O57 : Old Z n0 h55 := O53.wr W55 g_b31
  have V55 : Arv Z h55 b31 k31 .char (7 : Int32) [(.int c0.toUInt32.toUInt16.toUInt32.toInt32), (.int c1.toUInt32.toUInt16.toUInt32.toInt32), (.int c2.toUInt32.toUInt16.toUInt32.toInt32), (.int c3.toUInt32.toUInt16.toUInt32.toInt32), (.int c4.toUInt32.toUInt16.toUInt32.toInt32), (.int c5.toUInt32.toUInt16.toUInt32.toInt32), (.int 0)] (.int 0) := Arv.set Ar54 q54 S54 Nn54 Hh54 G54 (fits_nar_char _) W55 5 rfl (Nat.le_of_ble_eq_true rfl)
  obtain ⟨cl58, Ar58, q58, S58, Nn58, Hh58, G58⟩ := id V55
  have hin58 : ¬ ((6 : Int32) < 0 ∨ cl58.slots.size ≤ ((6 : Int32)).toNatClampNeg) := inb_of S58 ⟨by decide, by decide⟩
  obtain ⟨T59, h59, X59, e59, W59, st59⟩ := stC X55 hx hZ e55 Ar58 (j := (6 : Int32)) hin58 (g := (mkF m 166 #[s0, s1, s2, s3, s4, s5, .val (.int c0), .val (.int c1), .val (.int c2), .val (.int c3), .val (.int c4), .val (.int c5), .val (.int c6), .val (.int c7), .val (.ref b1), .val (.ref b4), .unset, .unset, s18, s19, s20, s21, s22, s23] [(.int c6), (.int 6), (.ref b31), (.ref b31)])) rfl rfl (hb hby at_166)
  have N59 := Fr.snoc X59 N55 g_b31
  have K60 : Keep h0 h59 [] := K56.wr W59 (Or.inr sz_b31)
  have O61 : Old Z n0 h59 := O57.wr W59 g_b31
  have V59 : Arv Z h59 b31 k31 .char (7 : Int32) [(.int c0.toUInt32.toUInt16.toUInt32.toInt32), (.int c1.toUInt32.toUInt16.toUInt32.toInt32), (.int c2.toUInt32.toUInt16.toUInt32.toInt32), (.int c3.toUInt32.toUInt16.toUInt32.toInt32), (.int c4.toUInt32.toUInt16.toUInt32.toInt32), (.int c5.toUInt32.toUInt16.toUInt32.toInt32), (.int c6.toUInt32.toUInt16.toUInt32.toInt32)] (.int 0) := Arv.set Ar58 q58 S58 Nn58 Hh58 G58 (fits_nar_char _) W59 6 rfl (Nat.le_of_ble_eq_true rfl)
  obtain ⟨T62, h62, k62, X62, e62, E62, A62, st62⟩ := newP X59 hx hZ (own_w hw 8 rfl) e59 (g := (mkF m 171 #[s0, s1, s2, s3, s4, s5, .val (.int c0), .val (.int c1), .val (.int c2), .val (.int c3), .val (.int c4), .val (.int c5), .val (.int c6), .val (.int c7), .val (.ref b1), .val (.ref b4), .val (.ref b31), .unset, s18, s19, s20, s21, s22, s23] [(.int 8)])) rfl (hb hby at_171) rfl (by decide) (cap := 8) (by decide) (by decide) (by decide) (by decide)
  obtain ⟨b62, g62⟩ : ∃ z, z = h59.size := ⟨_, rfl⟩
  rw [← g62] at A62 st62
  have g_b62 : n0 ≤ b62 := Nat.le_trans (Nat.le_trans Z0 K60.1) (Nat.le_of_eq g62.symm)
  have sz_b62 : h0.size ≤ b62 := Nat.le_trans K60.1 (Nat.le_of_eq g62.symm)
  have K63 : Keep h0 h62 [] := K60.ext E62
  have O64 : Old Z n0 h62 := O61.ext E62
  have V62 : Arv Z h62 b62 k62 .char (8 : Int32) [(.int 0), (.int 0), (.int 0), (.int 0), (.int 0), (.int 0), (.int 0), (.int 0)] (.int 0) := (Arv.new A62 (by decide)).pad (pad_rep [] (.int 0) 8)
  replace X62 := X62.more (cells' := 4) (slots' := 21) (by decide) (by decide)
  obtain ⟨cl65, Ar65, q65, S65, Nn65, Hh65, G65⟩ := id V62
  have hin65 : ¬ ((0 : Int32) < 0 ∨ cl65.slots.size ≤ ((0 : Int32)).toNatClampNeg) := inb_of S65 ⟨by decide, by decide⟩
  obtain ⟨T66, h66, X66, e66, W66, st66⟩ := stC X62 hx hZ e62 Ar65 (j := (0 : Int32)) hin65 (g := (mkF m 177 #[s0, s1, s2, s3, s4, s5, .val (.int c0), .val (.int c1), .val (.int c2), .val (.int c3), .val (.int c4), .val (.int c5), .val (.int c6), .val (.int c7), .val (.ref b1), .val (.ref b4), .val (.ref b31), .unset, s18, s19, s20, s21, s22, s23] [(.int c0), (.int 0), (.ref b62), (.ref b62)])) rfl rfl (hb hby at_177)
  have N66 := Fr.snoc X66 N59 g_b62
  have K67 : Keep h0 h66 [] := K63.wr W66 (Or.inr sz_b62)
  have O68 : Old Z n0 h66 := O64.wr W66 g_b62
  have V66 : Arv Z h66 b62 k62 .char (8 : Int32) [(.int c0.toUInt32.toUInt16.toUInt32.toInt32), (.int 0), (.int 0), (.int 0), (.int 0), (.int 0), (.int 0), (.int 0)] (.int 0) := Arv.set Ar65 q65 S65 Nn65 Hh65 G65 (fits_nar_char _) W66 0 rfl (Nat.le_of_ble_eq_true rfl)
  obtain ⟨cl69, Ar69, q69, S69, Nn69, Hh69, G69⟩ := id V66
  have hin69 : ¬ ((1 : Int32) < 0 ∨ cl69.slots.size ≤ ((1 : Int32)).toNatClampNeg) := inb_of S69 ⟨by decide, by decide⟩
  obtain ⟨T70, h70, X70, e70, W70, st70⟩ := stC X66 hx hZ e66 Ar69 (j := (1 : Int32)) hin69 (g := (mkF m 182 #[s0, s1, s2, s3, s4, s5, .val (.int c0), .val (.int c1), .val (.int c2), .val (.int c3), .val (.int c4), .val (.int c5), .val (.int c6), .val (.int c7), .val (.ref b1), .val (.ref b4), .val (.ref b31), .unset, s18, s19, s20, s21, s22, s23] [(.int c1), (.int 1), (.ref b62), (.ref b62)])) rfl rfl (hb hby at_182)
  have N70 := Fr.snoc X70 N66 g_b62
  have K71 : Keep h0 h70 [] := K67.wr W70 (Or.inr sz_b62)
  have O72 : Old Z n0 h70 := O68.wr W70 g_b62
  have V70 : Arv Z h70 b62 k62 .char (8 : Int32) [(.int c0.toUInt32.toUInt16.toUInt32.toInt32), (.int c1.toUInt32.toUInt16.toUInt32.toInt32), (.int 0), (.int 0), (.int 0), (.int 0), (.int 0), (.int 0)] (.int 0) := Arv.set Ar69 q69 S69 Nn69 Hh69 G69 (fits_nar_char _) W70 1 rfl (Nat.le_of_ble_eq_true rfl)
  obtain ⟨cl73, Ar73, q73, S73, Nn73, Hh73, G73⟩ := id V70
  have hin73 : ¬ ((2 : Int32) < 0 ∨ cl73.slots.size ≤ ((2 : Int32)).toNatClampNeg) := inb_of S73 ⟨by decide, by decide⟩
  obtain ⟨T74, h74, X74, e74, W74, st74⟩ := stC X70 hx hZ e70 Ar73 (j := (2 : Int32)) hin73 (g := (mkF m 187 #[s0, s1, s2, s3, s4, s5, .val (.int c0), .val (.int c1), .val (.int c2), .val (.int c3), .val (.int c4), .val (.int c5), .val (.int c6), .val (.int c7), .val (.ref b1), .val (.ref b4), .val (.ref b31), .unset, s18, s19, s20, s21, s22, s23] [(.int c2), (.int 2), (.ref b62), (.ref b62)])) rfl rfl (hb hby at_187)
  have N74 := Fr.snoc X74 N70 g_b62
  have K75 : Keep h0 h74 [] := K71.wr W74 (Or.inr sz_b62)
  have O76 : Old Z n0 h74 := O72.wr W74 g_b62
  have V74 : Arv Z h74 b62 k62 .char (8 : Int32) [(.int c0.toUInt32.toUInt16.toUInt32.toInt32), (.int c1.toUInt32.toUInt16.toUInt32.toInt32), (.int c2.toUInt32.toUInt16.toUInt32.toInt32), (.int 0), (.int 0), (.int 0), (.int 0), (.int 0)] (.int 0) := Arv.set Ar73 q73 S73 Nn73 Hh73 G73 (fits_nar_char _) W74 2 rfl (Nat.le_of_ble_eq_true rfl)
  obtain ⟨cl77, Ar77, q77, S77, Nn77, Hh77, G77⟩ := id V74
  have hin77 : ¬ ((3 : Int32) < 0 ∨ cl77.slots.size ≤ ((3 : Int32)).toNatClampNeg) := inb_of S77 ⟨by decide, by decide⟩
  obtain ⟨T78, h78, X78, e78, W78, st78⟩ := stC X74 hx hZ e74 Ar77 (j := (3 : Int32)) hin77 (g := (mkF m 192 #[s0, s1, s2, s3, s4, s5, .val (.int c0), .val (.int c1), .val (.int c2), .val (.int c3), .val (.int c4), .val (.int c5), .val (.int c6), .val (.int c7), .val (.ref b1), .val (.ref b4), .val (.ref b31), .unset, s18, s19, s20, s21, s22, s23] [(.int c3), (.int 3), (.ref b62), (.ref b62)])) rfl rfl (hb hby at_192)
  have N78 := Fr.snoc X78 N74 g_b62
  have K79 : Keep h0 h78 [] := K75.wr W78 (Or.inr sz_b62)
  have O80 : Old Z n0 h78 := O76.wr W78 g_b62
  have V78 : Arv Z h78 b62 k62 .char (8 : Int32) [(.int c0.toUInt32.toUInt16.toUInt32.toInt32), (.int c1.toUInt32.toUInt16.toUInt32.toInt32), (.int c2.toUInt32.toUInt16.toUInt32.toInt32), (.int c3.toUInt32.toUInt16.toUInt32.toInt32), (.int 0), (.int 0), (.int 0), (.int 0)] (.int 0) := Arv.set Ar77 q77 S77 Nn77 Hh77 G77 (fits_nar_char _) W78 3 rfl (Nat.le_of_ble_eq_true rfl)
  obtain ⟨cl81, Ar81, q81, S81, Nn81, Hh81, G81⟩ := id V78
  have hin81 : ¬ ((4 : Int32) < 0 ∨ cl81.slots.size ≤ ((4 : Int32)).toNatClampNeg) := inb_of S81 ⟨by decide, by decide⟩
  obtain ⟨T82, h82, X82, e82, W82, st82⟩ := stC X78 hx hZ e78 Ar81 (j := (4 : Int32)) hin81 (g := (mkF m 197 #[s0, s1, s2, s3, s4, s5, .val (.int c0), .val (.int c1), .val (.int c2), .val (.int c3), .val (.int c4), .val (.int c5), .val (.int c6), .val (.int c7), .val (.ref b1), .val (.ref b4), .val (.ref b31), .unset, s18, s19, s20, s21, s22, s23] [(.int c4), (.int 4), (.ref b62), (.ref b62)])) rfl rfl (hb hby at_197)
  have N82 := Fr.snoc X82 N78 g_b62
  have K83 : Keep h0 h82 [] := K79.wr W82 (Or.inr sz_b62)
  have O84 : Old Z n0 h82 := O80.wr W82 g_b62
  have V82 : Arv Z h82 b62 k62 .char (8 : Int32) [(.int c0.toUInt32.toUInt16.toUInt32.toInt32), (.int c1.toUInt32.toUInt16.toUInt32.toInt32), (.int c2.toUInt32.toUInt16.toUInt32.toInt32), (.int c3.toUInt32.toUInt16.toUInt32.toInt32), (.int c4.toUInt32.toUInt16.toUInt32.toInt32), (.int 0), (.int 0), (.int 0)] (.int 0) := Arv.set Ar81 q81 S81 Nn81 Hh81 G81 (fits_nar_char _) W82 4 rfl (Nat.le_of_ble_eq_true rfl)
  obtain ⟨cl85, Ar85, q85, S85, Nn85, Hh85, G85⟩ := id V82
  have hin85 : ¬ ((5 : Int32) < 0 ∨ cl85.slots.size ≤ ((5 : Int32)).toNatClampNeg) := inb_of S85 ⟨by decide, by decide⟩
  obtain ⟨T86, h86, X86, e86, W86, st86⟩ := stC X82 hx hZ e82 Ar85 (j := (5 : Int32)) hin85 (g := (mkF m 202 #[s0, s1, s2, s3, s4, s5, .val (.int c0), .val (.int c1), .val (.int c2), .val (.int c3), .val (.int c4), .val (.int c5), .val (.int c6), .val (.int c7), .val (.ref b1), .val (.ref b4), .val (.ref b31), .unset, s18, s19, s20, s21, s22, s23] [(.int c5), (.int 5), (.ref b62), (.ref b62)])) rfl rfl (hb hby at_202)
  have N86 := Fr.snoc X86 N82 g_b62
  have K87 : Keep h0 h86 [] := K83.wr W86 (Or.inr sz_b62)
  have O88 : Old Z n0 h86 := O84.wr W86 g_b62
  have V86 : Arv Z h86 b62 k62 .char (8 : Int32) [(.int c0.toUInt32.toUInt16.toUInt32.toInt32), (.int c1.toUInt32.toUInt16.toUInt32.toInt32), (.int c2.toUInt32.toUInt16.toUInt32.toInt32), (.int c3.toUInt32.toUInt16.toUInt32.toInt32), (.int c4.toUInt32.toUInt16.toUInt32.toInt32), (.int c5.toUInt32.toUInt16.toUInt32.toInt32), (.int 0), (.int 0)] (.int 0) := Arv.set Ar85 q85 S85 Nn85 Hh85 G85 (fits_nar_char _) W86 5 rfl (Nat.le_of_ble_eq_true rfl)
  obtain ⟨cl89, Ar89, q89, S89, Nn89, Hh89, G89⟩ := id V86
  have hin89 : ¬ ((6 : Int32) < 0 ∨ cl89.slots.size ≤ ((6 : Int32)).toNatClampNeg) := inb_of S89 ⟨by decide, by decide⟩
  obtain ⟨T90, h90, X90, e90, W90, st90⟩ := stC X86 hx hZ e86 Ar89 (j := (6 : Int32)) hin89 (g := (mkF m 208 #[s0, s1, s2, s3, s4, s5, .val (.int c0), .val (.int c1), .val (.int c2), .val (.int c3), .val (.int c4), .val (.int c5), .val (.int c6), .val (.int c7), .val (.ref b1), .val (.ref b4), .val (.ref b31), .unset, s18, s19, s20, s21, s22, s23] [(.int c6), (.int 6), (.ref b62), (.ref b62)])) rfl rfl (hb hby at_208)
  have N90 := Fr.snoc X90 N86 g_b62
  have K91 : Keep h0 h90 [] := K87.wr W90 (Or.inr sz_b62)
  have O92 : Old Z n0 h90 := O88.wr W90 g_b62
  have V90 : Arv Z h90 b62 k62 .char (8 : Int32) [(.int c0.toUInt32.toUInt16.toUInt32.toInt32), (.int c1.toUInt32.toUInt16.toUInt32.toInt32), (.int c2.toUInt32.toUInt16.toUInt32.toInt32), (.int c3.toUInt32.toUInt16.toUInt32.toInt32), (.int c4.toUInt32.toUInt16.toUInt32.toInt32), (.int c5.toUInt32.toUInt16.toUInt32.toInt32), (.int c6.toUInt32.toUInt16.toUInt32.toInt32), (.int 0)] (.int 0) := Arv.set Ar89 q89 S89 Nn89 Hh89 G89 (fits_nar_char _) W90 6 rfl (Nat.le_of_ble_eq_true rfl)
  obtain ⟨cl93, Ar93, q93, S93, Nn93, Hh93, G93⟩ := id V90
  have hin93 : ¬ ((7 : Int32) < 0 ∨ cl93.slots.size ≤ ((7 : Int32)).toNatClampNeg) := inb_of S93 ⟨by decide, by decide⟩
  obtain ⟨T94, h94, X94, e94, W94, st94⟩ := stC X90 hx hZ e90 Ar93 (j := (7 : Int32)) hin93 (g := (mkF m 214 #[s0, s1, s2, s3, s4, s5, .val (.int c0), .val (.int c1), .val (.int c2), .val (.int c3), .val (.int c4), .val (.int c5), .val (.int c6), .val (.int c7), .val (.ref b1), .val (.ref b4), .val (.ref b31), .unset, s18, s19, s20, s21, s22, s23] [(.int c7), (.int 7), (.ref b62), (.ref b62)])) rfl rfl (hb hby at_214)
  have N94 := Fr.snoc X94 N90 g_b62
  have K95 : Keep h0 h94 [] := K91.wr W94 (Or.inr sz_b62)
  have O96 : Old Z n0 h94 := O92.wr W94 g_b62
  have V94 : Arv Z h94 b62 k62 .char (8 : Int32) [(.int c0.toUInt32.toUInt16.toUInt32.toInt32), (.int c1.toUInt32.toUInt16.toUInt32.toInt32), (.int c2.toUInt32.toUInt16.toUInt32.toInt32), (.int c3.toUInt32.toUInt16.toUInt32.toInt32), (.int c4.toUInt32.toUInt16.toUInt32.toInt32), (.int c5.toUInt32.toUInt16.toUInt32.toInt32), (.int c6.toUInt32.toUInt16.toUInt32.toInt32), (.int c7.toUInt32.toUInt16.toUInt32.toInt32)] (.int 0) := Arv.set Ar93 q93 S93 Nn93 Hh93 G93 (fits_nar_char _) W94 7 rfl (Nat.le_of_ble_eq_true rfl)
  have f97 := ((((((((((((((((((((((((V1.ext E4).other W8 (Nat.ne_of_lt (Nat.lt_of_lt_of_le V1.lt (Nat.le_of_eq g4.symm)))).other W12 (Nat.ne_of_lt (Nat.lt_of_lt_of_le V1.lt (Nat.le_of_eq g4.symm)))).other W16 (Nat.ne_of_lt (Nat.lt_of_lt_of_le V1.lt (Nat.le_of_eq g4.symm)))).other W20 (Nat.ne_of_lt (Nat.lt_of_lt_of_le V1.lt (Nat.le_of_eq g4.symm)))).other W24 (Nat.ne_of_lt (Nat.lt_of_lt_of_le V1.lt (Nat.le_of_eq g4.symm)))).other W28 (Nat.ne_of_lt (Nat.lt_of_lt_of_le V1.lt (Nat.le_of_eq g4.symm)))).ext E31).other W35 (Nat.ne_of_lt (Nat.lt_of_lt_of_le (Nat.lt_of_lt_of_le V1.lt (Nat.le_trans (Nat.le_trans (Nat.le_trans (Nat.le_trans (Nat.le_trans (Nat.le_trans E4.1 (Keep.of_wr W8).1) (Keep.of_wr W12).1) (Keep.of_wr W16).1) (Keep.of_wr W20).1) (Keep.of_wr W24).1) (Keep.of_wr W28).1)) (Nat.le_of_eq g31.symm)))).other W39 (Nat.ne_of_lt (Nat.lt_of_lt_of_le (Nat.lt_of_lt_of_le V1.lt (Nat.le_trans (Nat.le_trans (Nat.le_trans (Nat.le_trans (Nat.le_trans (Nat.le_trans E4.1 (Keep.of_wr W8).1) (Keep.of_wr W12).1) (Keep.of_wr W16).1) (Keep.of_wr W20).1) (Keep.of_wr W24).1) (Keep.of_wr W28).1)) (Nat.le_of_eq g31.symm)))).other W43 (Nat.ne_of_lt (Nat.lt_of_lt_of_le (Nat.lt_of_lt_of_le V1.lt (Nat.le_trans (Nat.le_trans (Nat.le_trans (Nat.le_trans (Nat.le_trans (Nat.le_trans E4.1 (Keep.of_wr W8).1) (Keep.of_wr W12).1) (Keep.of_wr W16).1) (Keep.of_wr W20).1) (Keep.of_wr W24).1) (Keep.of_wr W28).1)) (Nat.le_of_eq g31.symm)))).other W47 (Nat.ne_of_lt (Nat.lt_of_lt_of_le (Nat.lt_of_lt_of_le V1.lt (Nat.le_trans (Nat.le_trans (Nat.le_trans (Nat.le_trans (Nat.le_trans (Nat.le_trans E4.1 (Keep.of_wr W8).1) (Keep.of_wr W12).1) (Keep.of_wr W16).1) (Keep.of_wr W20).1) (Keep.of_wr W24).1) (Keep.of_wr W28).1)) (Nat.le_of_eq g31.symm)))).other W51 (Nat.ne_of_lt (Nat.lt_of_lt_of_le (Nat.lt_of_lt_of_le V1.lt (Nat.le_trans (Nat.le_trans (Nat.le_trans (Nat.le_trans (Nat.le_trans (Nat.le_trans E4.1 (Keep.of_wr W8).1) (Keep.of_wr W12).1) (Keep.of_wr W16).1) (Keep.of_wr W20).1) (Keep.of_wr W24).1) (Keep.of_wr W28).1)) (Nat.le_of_eq g31.symm)))).other W55 (Nat.ne_of_lt (Nat.lt_of_lt_of_le (Nat.lt_of_lt_of_le V1.lt (Nat.le_trans (Nat.le_trans (Nat.le_trans (Nat.le_trans (Nat.le_trans (Nat.le_trans E4.1 (Keep.of_wr W8).1) (Keep.of_wr W12).1) (Keep.of_wr W16).1) (Keep.of_wr W20).1) (Keep.of_wr W24).1) (Keep.of_wr W28).1)) (Nat.le_of_eq g31.symm)))).other W59 (Nat.ne_of_lt (Nat.lt_of_lt_of_le (Nat.lt_of_lt_of_le V1.lt (Nat.le_trans (Nat.le_trans (Nat.le_trans (Nat.le_trans (Nat.le_trans (Nat.le_trans E4.1 (Keep.of_wr W8).1) (Keep.of_wr W12).1) (Keep.of_wr W16).1) (Keep.of_wr W20).1) (Keep.of_wr W24).1) (Keep.of_wr W28).1)) (Nat.le_of_eq g31.symm)))).ext E62).other W66 (Nat.ne_of_lt (Nat.lt_of_lt_of_le (Nat.lt_of_lt_of_le V1.lt (Nat.le_trans (Nat.le_trans (Nat.le_trans (Nat.le_trans (Nat.le_trans (Nat.le_trans (Nat.le_trans (Nat.le_trans (Nat.le_trans (Nat.le_trans (Nat.le_trans (Nat.le_trans (Nat.le_trans (Nat.le_trans E4.1 (Keep.of_wr W8).1) (Keep.of_wr W12).1) (Keep.of_wr W16).1) (Keep.of_wr W20).1) (Keep.of_wr W24).1) (Keep.of_wr W28).1) E31.1) (Keep.of_wr W35).1) (Keep.of_wr W39).1) (Keep.of_wr W43).1) (Keep.of_wr W47).1) (Keep.of_wr W51).1) (Keep.of_wr W55).1) (Keep.of_wr W59).1)) (Nat.le_of_eq g62.symm)))).other W70 (Nat.ne_of_lt (Nat.lt_of_lt_of_le (Nat.lt_of_lt_of_le V1.lt (Nat.le_trans (Nat.le_trans (Nat.le_trans (Nat.le_trans (Nat.le_trans (Nat.le_trans (Nat.le_trans (Nat.le_trans (Nat.le_trans (Nat.le_trans (Nat.le_trans (Nat.le_trans (Nat.le_trans (Nat.le_trans E4.1 (Keep.of_wr W8).1) (Keep.of_wr W12).1) (Keep.of_wr W16).1) (Keep.of_wr W20).1) (Keep.of_wr W24).1) (Keep.of_wr W28).1) E31.1) (Keep.of_wr W35).1) (Keep.of_wr W39).1) (Keep.of_wr W43).1) (Keep.of_wr W47).1) (Keep.of_wr W51).1) (Keep.of_wr W55).1) (Keep.of_wr W59).1)) (Nat.le_of_eq g62.symm)))).other W74 (Nat.ne_of_lt (Nat.lt_of_lt_of_le (Nat.lt_of_lt_of_le V1.lt (Nat.le_trans (Nat.le_trans (Nat.le_trans (Nat.le_trans (Nat.le_trans (Nat.le_trans (Nat.le_trans (Nat.le_trans (Nat.le_trans (Nat.le_trans (Nat.le_trans (Nat.le_trans (Nat.le_trans (Nat.le_trans E4.1 (Keep.of_wr W8).1) (Keep.of_wr W12).1) (Keep.of_wr W16).1) (Keep.of_wr W20).1) (Keep.of_wr W24).1) (Keep.of_wr W28).1) E31.1) (Keep.of_wr W35).1) (Keep.of_wr W39).1) (Keep.of_wr W43).1) (Keep.of_wr W47).1) (Keep.of_wr W51).1) (Keep.of_wr W55).1) (Keep.of_wr W59).1)) (Nat.le_of_eq g62.symm)))).other W78 (Nat.ne_of_lt (Nat.lt_of_lt_of_le (Nat.lt_of_lt_of_le V1.lt (Nat.le_trans (Nat.le_trans (Nat.le_trans (Nat.le_trans (Nat.le_trans (Nat.le_trans (Nat.le_trans (Nat.le_trans (Nat.le_trans (Nat.le_trans (Nat.le_trans (Nat.le_trans (Nat.le_trans (Nat.le_trans E4.1 (Keep.of_wr W8).1) (Keep.of_wr W12).1) (Keep.of_wr W16).1) (Keep.of_wr W20).1) (Keep.of_wr W24).1) (Keep.of_wr W28).1) E31.1) (Keep.of_wr W35).1) (Keep.of_wr W39).1) (Keep.of_wr W43).1) (Keep.of_wr W47).1) (Keep.of_wr W51).1) (Keep.of_wr W55).1) (Keep.of_wr W59).1)) (Nat.le_of_eq g62.symm)))).other W82 (Nat.ne_of_lt (Nat.lt_of_lt_of_le (Nat.lt_of_lt_of_le V1.lt (Nat.le_trans (Nat.le_trans (Nat.le_trans (Nat.le_trans (Nat.le_trans (Nat.le_trans (Nat.le_trans (Nat.le_trans (Nat.le_trans (Nat.le_trans (Nat.le_trans (Nat.le_trans (Nat.le_trans (Nat.le_trans E4.1 (Keep.of_wr W8).1) (Keep.of_wr W12).1) (Keep.of_wr W16).1) (Keep.of_wr W20).1) (Keep.of_wr W24).1) (Keep.of_wr W28).1) E31.1) (Keep.of_wr W35).1) (Keep.of_wr W39).1) (Keep.of_wr W43).1) (Keep.of_wr W47).1) (Keep.of_wr W51).1) (Keep.of_wr W55).1) (Keep.of_wr W59).1)) (Nat.le_of_eq g62.symm)))).other W86 (Nat.ne_of_lt (Nat.lt_of_lt_of_le (Nat.lt_of_lt_of_le V1.lt (Nat.le_trans (Nat.le_trans (Nat.le_trans (Nat.le_trans (Nat.le_trans (Nat.le_trans (Nat.le_trans (Nat.le_trans (Nat.le_trans (Nat.le_trans (Nat.le_trans (Nat.le_trans (Nat.le_trans (Nat.le_trans E4.1 (Keep.of_wr W8).1) (Keep.of_wr W12).1) (Keep.of_wr W16).1) (Keep.of_wr W20).1) (Keep.of_wr W24).1) (Keep.of_wr W28).1) E31.1) (Keep.of_wr W35).1) (Keep.of_wr W39).1) (Keep.of_wr W43).1) (Keep.of_wr W47).1) (Keep.of_wr W51).1) (Keep.of_wr W55).1) (Keep.of_wr W59).1)) (Nat.le_of_eq g62.symm)))).other W90 (Nat.ne_of_lt (Nat.lt_of_lt_of_le (Nat.lt_of_lt_of_le V1.lt (Nat.le_trans (Nat.le_trans (Nat.le_trans (Nat.le_trans (Nat.le_trans (Nat.le_trans (Nat.le_trans (Nat.le_trans (Nat.le_trans (Nat.le_trans (Nat.le_trans (Nat.le_trans (Nat.le_trans (Nat.le_trans E4.1 (Keep.of_wr W8).1) (Keep.of_wr W12).1) (Keep.of_wr W16).1) (Keep.of_wr W20).1) (Keep.of_wr W24).1) (Keep.of_wr W28).1) E31.1) (Keep.of_wr W35).1) (Keep.of_wr W39).1) (Keep.of_wr W43).1) (Keep.of_wr W47).1) (Keep.of_wr W51).1) (Keep.of_wr W55).1) (Keep.of_wr W59).1)) (Nat.le_of_eq g62.symm)))).other W94 (Nat.ne_of_lt (Nat.lt_of_lt_of_le (Nat.lt_of_lt_of_le V1.lt (Nat.le_trans (Nat.le_trans (Nat.le_trans (Nat.le_trans (Nat.le_trans (Nat.le_trans (Nat.le_trans (Nat.le_trans (Nat.le_trans (Nat.le_trans (Nat.le_trans (Nat.le_trans (Nat.le_trans (Nat.le_trans E4.1 (Keep.of_wr W8).1) (Keep.of_wr W12).1) (Keep.of_wr W16).1) (Keep.of_wr W20).1) (Keep.of_wr W24).1) (Keep.of_wr W28).1) E31.1) (Keep.of_wr W35).1) (Keep.of_wr W39).1) (Keep.of_wr W43).1) (Keep.of_wr W47).1) (Keep.of_wr W51).1) (Keep.of_wr W55).1) (Keep.of_wr W59).1)) (Nat.le_of_eq g62.symm))))
  have f98 := (((((((((((((((((V28.ext E31).other W35 (Nat.ne_of_lt (Nat.lt_of_lt_of_le (Nat.lt_of_lt_of_le V4.lt (Nat.le_trans (Nat.le_trans (Nat.le_trans (Nat.le_trans (Nat.le_trans (Keep.of_wr W8).1 (Keep.of_wr W12).1) (Keep.of_wr W16).1) (Keep.of_wr W20).1) (Keep.of_wr W24).1) (Keep.of_wr W28).1)) (Nat.le_of_eq g31.symm)))).other W39 (Nat.ne_of_lt (Nat.lt_of_lt_of_le (Nat.lt_of_lt_of_le V4.lt (Nat.le_trans (Nat.le_trans (Nat.le_trans (Nat.le_trans (Nat.le_trans (Keep.of_wr W8).1 (Keep.of_wr W12).1) (Keep.of_wr W16).1) (Keep.of_wr W20).1) (Keep.of_wr W24).1) (Keep.of_wr W28).1)) (Nat.le_of_eq g31.symm)))).other W43 (Nat.ne_of_lt (Nat.lt_of_lt_of_le (Nat.lt_of_lt_of_le V4.lt (Nat.le_trans (Nat.le_trans (Nat.le_trans (Nat.le_trans (Nat.le_trans (Keep.of_wr W8).1 (Keep.of_wr W12).1) (Keep.of_wr W16).1) (Keep.of_wr W20).1) (Keep.of_wr W24).1) (Keep.of_wr W28).1)) (Nat.le_of_eq g31.symm)))).other W47 (Nat.ne_of_lt (Nat.lt_of_lt_of_le (Nat.lt_of_lt_of_le V4.lt (Nat.le_trans (Nat.le_trans (Nat.le_trans (Nat.le_trans (Nat.le_trans (Keep.of_wr W8).1 (Keep.of_wr W12).1) (Keep.of_wr W16).1) (Keep.of_wr W20).1) (Keep.of_wr W24).1) (Keep.of_wr W28).1)) (Nat.le_of_eq g31.symm)))).other W51 (Nat.ne_of_lt (Nat.lt_of_lt_of_le (Nat.lt_of_lt_of_le V4.lt (Nat.le_trans (Nat.le_trans (Nat.le_trans (Nat.le_trans (Nat.le_trans (Keep.of_wr W8).1 (Keep.of_wr W12).1) (Keep.of_wr W16).1) (Keep.of_wr W20).1) (Keep.of_wr W24).1) (Keep.of_wr W28).1)) (Nat.le_of_eq g31.symm)))).other W55 (Nat.ne_of_lt (Nat.lt_of_lt_of_le (Nat.lt_of_lt_of_le V4.lt (Nat.le_trans (Nat.le_trans (Nat.le_trans (Nat.le_trans (Nat.le_trans (Keep.of_wr W8).1 (Keep.of_wr W12).1) (Keep.of_wr W16).1) (Keep.of_wr W20).1) (Keep.of_wr W24).1) (Keep.of_wr W28).1)) (Nat.le_of_eq g31.symm)))).other W59 (Nat.ne_of_lt (Nat.lt_of_lt_of_le (Nat.lt_of_lt_of_le V4.lt (Nat.le_trans (Nat.le_trans (Nat.le_trans (Nat.le_trans (Nat.le_trans (Keep.of_wr W8).1 (Keep.of_wr W12).1) (Keep.of_wr W16).1) (Keep.of_wr W20).1) (Keep.of_wr W24).1) (Keep.of_wr W28).1)) (Nat.le_of_eq g31.symm)))).ext E62).other W66 (Nat.ne_of_lt (Nat.lt_of_lt_of_le (Nat.lt_of_lt_of_le V4.lt (Nat.le_trans (Nat.le_trans (Nat.le_trans (Nat.le_trans (Nat.le_trans (Nat.le_trans (Nat.le_trans (Nat.le_trans (Nat.le_trans (Nat.le_trans (Nat.le_trans (Nat.le_trans (Nat.le_trans (Keep.of_wr W8).1 (Keep.of_wr W12).1) (Keep.of_wr W16).1) (Keep.of_wr W20).1) (Keep.of_wr W24).1) (Keep.of_wr W28).1) E31.1) (Keep.of_wr W35).1) (Keep.of_wr W39).1) (Keep.of_wr W43).1) (Keep.of_wr W47).1) (Keep.of_wr W51).1) (Keep.of_wr W55).1) (Keep.of_wr W59).1)) (Nat.le_of_eq g62.symm)))).other W70 (Nat.ne_of_lt (Nat.lt_of_lt_of_le (Nat.lt_of_lt_of_le V4.lt (Nat.le_trans (Nat.le_trans (Nat.le_trans (Nat.le_trans (Nat.le_trans (Nat.le_trans (Nat.le_trans (Nat.le_trans (Nat.le_trans (Nat.le_trans (Nat.le_trans (Nat.le_trans (Nat.le_trans (Keep.of_wr W8).1 (Keep.of_wr W12).1) (Keep.of_wr W16).1) (Keep.of_wr W20).1) (Keep.of_wr W24).1) (Keep.of_wr W28).1) E31.1) (Keep.of_wr W35).1) (Keep.of_wr W39).1) (Keep.of_wr W43).1) (Keep.of_wr W47).1) (Keep.of_wr W51).1) (Keep.of_wr W55).1) (Keep.of_wr W59).1)) (Nat.le_of_eq g62.symm)))).other W74 (Nat.ne_of_lt (Nat.lt_of_lt_of_le (Nat.lt_of_lt_of_le V4.lt (Nat.le_trans (Nat.le_trans (Nat.le_trans (Nat.le_trans (Nat.le_trans (Nat.le_trans (Nat.le_trans (Nat.le_trans (Nat.le_trans (Nat.le_trans (Nat.le_trans (Nat.le_trans (Nat.le_trans (Keep.of_wr W8).1 (Keep.of_wr W12).1) (Keep.of_wr W16).1) (Keep.of_wr W20).1) (Keep.of_wr W24).1) (Keep.of_wr W28).1) E31.1) (Keep.of_wr W35).1) (Keep.of_wr W39).1) (Keep.of_wr W43).1) (Keep.of_wr W47).1) (Keep.of_wr W51).1) (Keep.of_wr W55).1) (Keep.of_wr W59).1)) (Nat.le_of_eq g62.symm)))).other W78 (Nat.ne_of_lt (Nat.lt_of_lt_of_le (Nat.lt_of_lt_of_le V4.lt (Nat.le_trans (Nat.le_trans (Nat.le_trans (Nat.le_trans (Nat.le_trans (Nat.le_trans (Nat.le_trans (Nat.le_trans (Nat.le_trans (Nat.le_trans (Nat.le_trans (Nat.le_trans (Nat.le_trans (Keep.of_wr W8).1 (Keep.of_wr W12).1) (Keep.of_wr W16).1) (Keep.of_wr W20).1) (Keep.of_wr W24).1) (Keep.of_wr W28).1) E31.1) (Keep.of_wr W35).1) (Keep.of_wr W39).1) (Keep.of_wr W43).1) (Keep.of_wr W47).1) (Keep.of_wr W51).1) (Keep.of_wr W55).1) (Keep.of_wr W59).1)) (Nat.le_of_eq g62.symm)))).other W82 (Nat.ne_of_lt (Nat.lt_of_lt_of_le (Nat.lt_of_lt_of_le V4.lt (Nat.le_trans (Nat.le_trans (Nat.le_trans (Nat.le_trans (Nat.le_trans (Nat.le_trans (Nat.le_trans (Nat.le_trans (Nat.le_trans (Nat.le_trans (Nat.le_trans (Nat.le_trans (Nat.le_trans (Keep.of_wr W8).1 (Keep.of_wr W12).1) (Keep.of_wr W16).1) (Keep.of_wr W20).1) (Keep.of_wr W24).1) (Keep.of_wr W28).1) E31.1) (Keep.of_wr W35).1) (Keep.of_wr W39).1) (Keep.of_wr W43).1) (Keep.of_wr W47).1) (Keep.of_wr W51).1) (Keep.of_wr W55).1) (Keep.of_wr W59).1)) (Nat.le_of_eq g62.symm)))).other W86 (Nat.ne_of_lt (Nat.lt_of_lt_of_le (Nat.lt_of_lt_of_le V4.lt (Nat.le_trans (Nat.le_trans (Nat.le_trans (Nat.le_trans (Nat.le_trans (Nat.le_trans (Nat.le_trans (Nat.le_trans (Nat.le_trans (Nat.le_trans (Nat.le_trans (Nat.le_trans (Nat.le_trans (Keep.of_wr W8).1 (Keep.of_wr W12).1) (Keep.of_wr W16).1) (Keep.of_wr W20).1) (Keep.of_wr W24).1) (Keep.of_wr W28).1) E31.1) (Keep.of_wr W35).1) (Keep.of_wr W39).1) (Keep.of_wr W43).1) (Keep.of_wr W47).1) (Keep.of_wr W51).1) (Keep.of_wr W55).1) (Keep.of_wr W59).1)) (Nat.le_of_eq g62.symm)))).other W90 (Nat.ne_of_lt (Nat.lt_of_lt_of_le (Nat.lt_of_lt_of_le V4.lt (Nat.le_trans (Nat.le_trans (Nat.le_trans (Nat.le_trans (Nat.le_trans (Nat.le_trans (Nat.le_trans (Nat.le_trans (Nat.le_trans (Nat.le_trans (Nat.le_trans (Nat.le_trans (Nat.le_trans (Keep.of_wr W8).1 (Keep.of_wr W12).1) (Keep.of_wr W16).1) (Keep.of_wr W20).1) (Keep.of_wr W24).1) (Keep.of_wr W28).1) E31.1) (Keep.of_wr W35).1) (Keep.of_wr W39).1) (Keep.of_wr W43).1) (Keep.of_wr W47).1) (Keep.of_wr W51).1) (Keep.of_wr W55).1) (Keep.of_wr W59).1)) (Nat.le_of_eq g62.symm)))).other W94 (Nat.ne_of_lt (Nat.lt_of_lt_of_le (Nat.lt_of_lt_of_le V4.lt (Nat.le_trans (Nat.le_trans (Nat.le_trans (Nat.le_trans (Nat.le_trans (Nat.le_trans (Nat.le_trans (Nat.le_trans (Nat.le_trans (Nat.le_trans (Nat.le_trans (Nat.le_trans (Nat.le_trans (Keep.of_wr W8).1 (Keep.of_wr W12).1) (Keep.of_wr W16).1) (Keep.of_wr W20).1) (Keep.of_wr W24).1) (Keep.of_wr W28).1) E31.1) (Keep.of_wr W35).1) (Keep.of_wr W39).1) (Keep.of_wr W43).1) (Keep.of_wr W47).1) (Keep.of_wr W51).1) (Keep.of_wr W55).1) (Keep.of_wr W59).1)) (Nat.le_of_eq g62.symm))))
  have V99 : Arv Z h94 b4 k4 .char (6 : Int32) [(.int c0), (.int c1), (.int c2), (.int c3), (.int c4), (.int c5)] (.int 0) := by have q := f98; rw [own_i2c hc0, own_i2c hc1, own_i2c hc2, own_i2c hc3, own_i2c hc4, own_i2c hc5] at q; exact q
  have f100 := (((((((((V59.ext E62).other W66 (Nat.ne_of_lt (Nat.lt_of_lt_of_le (Nat.lt_of_lt_of_le V31.lt (Nat.le_trans (Nat.le_trans (Nat.le_trans (Nat.le_trans (Nat.le_trans (Nat.le_trans (Keep.of_wr W35).1 (Keep.of_wr W39).1) (Keep.of_wr W43).1) (Keep.of_wr W47).1) (Keep.of_wr W51).1) (Keep.of_wr W55).1) (Keep.of_wr W59).1)) (Nat.le_of_eq g62.symm)))).other W70 (Nat.ne_of_lt (Nat.lt_of_lt_of_le (Nat.lt_of_lt_of_le V31.lt (Nat.le_trans (Nat.le_trans (Nat.le_trans (Nat.le_trans (Nat.le_trans (Nat.le_trans (Keep.of_wr W35).1 (Keep.of_wr W39).1) (Keep.of_wr W43).1) (Keep.of_wr W47).1) (Keep.of_wr W51).1) (Keep.of_wr W55).1) (Keep.of_wr W59).1)) (Nat.le_of_eq g62.symm)))).other W74 (Nat.ne_of_lt (Nat.lt_of_lt_of_le (Nat.lt_of_lt_of_le V31.lt (Nat.le_trans (Nat.le_trans (Nat.le_trans (Nat.le_trans (Nat.le_trans (Nat.le_trans (Keep.of_wr W35).1 (Keep.of_wr W39).1) (Keep.of_wr W43).1) (Keep.of_wr W47).1) (Keep.of_wr W51).1) (Keep.of_wr W55).1) (Keep.of_wr W59).1)) (Nat.le_of_eq g62.symm)))).other W78 (Nat.ne_of_lt (Nat.lt_of_lt_of_le (Nat.lt_of_lt_of_le V31.lt (Nat.le_trans (Nat.le_trans (Nat.le_trans (Nat.le_trans (Nat.le_trans (Nat.le_trans (Keep.of_wr W35).1 (Keep.of_wr W39).1) (Keep.of_wr W43).1) (Keep.of_wr W47).1) (Keep.of_wr W51).1) (Keep.of_wr W55).1) (Keep.of_wr W59).1)) (Nat.le_of_eq g62.symm)))).other W82 (Nat.ne_of_lt (Nat.lt_of_lt_of_le (Nat.lt_of_lt_of_le V31.lt (Nat.le_trans (Nat.le_trans (Nat.le_trans (Nat.le_trans (Nat.le_trans (Nat.le_trans (Keep.of_wr W35).1 (Keep.of_wr W39).1) (Keep.of_wr W43).1) (Keep.of_wr W47).1) (Keep.of_wr W51).1) (Keep.of_wr W55).1) (Keep.of_wr W59).1)) (Nat.le_of_eq g62.symm)))).other W86 (Nat.ne_of_lt (Nat.lt_of_lt_of_le (Nat.lt_of_lt_of_le V31.lt (Nat.le_trans (Nat.le_trans (Nat.le_trans (Nat.le_trans (Nat.le_trans (Nat.le_trans (Keep.of_wr W35).1 (Keep.of_wr W39).1) (Keep.of_wr W43).1) (Keep.of_wr W47).1) (Keep.of_wr W51).1) (Keep.of_wr W55).1) (Keep.of_wr W59).1)) (Nat.le_of_eq g62.symm)))).other W90 (Nat.ne_of_lt (Nat.lt_of_lt_of_le (Nat.lt_of_lt_of_le V31.lt (Nat.le_trans (Nat.le_trans (Nat.le_trans (Nat.le_trans (Nat.le_trans (Nat.le_trans (Keep.of_wr W35).1 (Keep.of_wr W39).1) (Keep.of_wr W43).1) (Keep.of_wr W47).1) (Keep.of_wr W51).1) (Keep.of_wr W55).1) (Keep.of_wr W59).1)) (Nat.le_of_eq g62.symm)))).other W94 (Nat.ne_of_lt (Nat.lt_of_lt_of_le (Nat.lt_of_lt_of_le V31.lt (Nat.le_trans (Nat.le_trans (Nat.le_trans (Nat.le_trans (Nat.le_trans (Nat.le_trans (Keep.of_wr W35).1 (Keep.of_wr W39).1) (Keep.of_wr W43).1) (Keep.of_wr W47).1) (Keep.of_wr W51).1) (Keep.of_wr W55).1) (Keep.of_wr W59).1)) (Nat.le_of_eq g62.symm))))
  have V101 : Arv Z h94 b31 k31 .char (7 : Int32) [(.int c0), (.int c1), (.int c2), (.int c3), (.int c4), (.int c5), (.int c6)] (.int 0) := by have q := f100; rw [own_i2c hc0, own_i2c hc1, own_i2c hc2, own_i2c hc3, own_i2c hc4, own_i2c hc5, own_i2c hc6] at q; exact q
  have V102 : Arv Z h94 b62 k62 .char (8 : Int32) [(.int c0), (.int c1), (.int c2), (.int c3), (.int c4), (.int c5), (.int c6), (.int c7)] (.int 0) := by have q := V94; rw [own_i2c hc0, own_i2c hc1, own_i2c hc2, own_i2c hc3, own_i2c hc4, own_i2c hc5, own_i2c hc6, own_i2c hc7] at q; exact q
  refine ⟨T94, _, _, b1, b4, b31, b62, k1, k4, k31, k62, X94, N94, e94, K95, sz_b1, sz_b4, sz_b31, sz_b62, (Nat.ne_of_lt (Nat.lt_of_lt_of_le V1.lt (Nat.le_of_eq g4.symm))), (Nat.ne_of_lt (Nat.lt_of_lt_of_le (Nat.lt_of_lt_of_le V1.lt (Nat.le_trans (Nat.le_trans (Nat.le_trans (Nat.le_trans (Nat.le_trans (Nat.le_trans E4.1 (Keep.of_wr W8).1) (Keep.of_wr W12).1) (Keep.of_wr W16).1) (Keep.of_wr W20).1) (Keep.of_wr W24).1) (Keep.of_wr W28).1)) (Nat.le_of_eq g31.symm))), (Nat.ne_of_lt (Nat.lt_of_lt_of_le (Nat.lt_of_lt_of_le V1.lt (Nat.le_trans (Nat.le_trans (Nat.le_trans (Nat.le_trans (Nat.le_trans (Nat.le_trans (Nat.le_trans (Nat.le_trans (Nat.le_trans (Nat.le_trans (Nat.le_trans (Nat.le_trans (Nat.le_trans (Nat.le_trans E4.1 (Keep.of_wr W8).1) (Keep.of_wr W12).1) (Keep.of_wr W16).1) (Keep.of_wr W20).1) (Keep.of_wr W24).1) (Keep.of_wr W28).1) E31.1) (Keep.of_wr W35).1) (Keep.of_wr W39).1) (Keep.of_wr W43).1) (Keep.of_wr W47).1) (Keep.of_wr W51).1) (Keep.of_wr W55).1) (Keep.of_wr W59).1)) (Nat.le_of_eq g62.symm))), (Nat.ne_of_lt (Nat.lt_of_lt_of_le (Nat.lt_of_lt_of_le V4.lt (Nat.le_trans (Nat.le_trans (Nat.le_trans (Nat.le_trans (Nat.le_trans (Keep.of_wr W8).1 (Keep.of_wr W12).1) (Keep.of_wr W16).1) (Keep.of_wr W20).1) (Keep.of_wr W24).1) (Keep.of_wr W28).1)) (Nat.le_of_eq g31.symm))), (Nat.ne_of_lt (Nat.lt_of_lt_of_le (Nat.lt_of_lt_of_le V4.lt (Nat.le_trans (Nat.le_trans (Nat.le_trans (Nat.le_trans (Nat.le_trans (Nat.le_trans (Nat.le_trans (Nat.le_trans (Nat.le_trans (Nat.le_trans (Nat.le_trans (Nat.le_trans (Nat.le_trans (Keep.of_wr W8).1 (Keep.of_wr W12).1) (Keep.of_wr W16).1) (Keep.of_wr W20).1) (Keep.of_wr W24).1) (Keep.of_wr W28).1) E31.1) (Keep.of_wr W35).1) (Keep.of_wr W39).1) (Keep.of_wr W43).1) (Keep.of_wr W47).1) (Keep.of_wr W51).1) (Keep.of_wr W55).1) (Keep.of_wr W59).1)) (Nat.le_of_eq g62.symm))), (Nat.ne_of_lt (Nat.lt_of_lt_of_le (Nat.lt_of_lt_of_le V31.lt (Nat.le_trans (Nat.le_trans (Nat.le_trans (Nat.le_trans (Nat.le_trans (Nat.le_trans (Keep.of_wr W35).1 (Keep.of_wr W39).1) (Keep.of_wr W43).1) (Keep.of_wr W47).1) (Keep.of_wr W51).1) (Keep.of_wr W55).1) (Keep.of_wr W59).1)) (Nat.le_of_eq g62.symm))), f97, V99, V101, V102, fun target kt => ?_⟩
  show Steps p.tables e below (T0.setTop (mkF m 86 #[s0, s1, s2, s3, s4, s5, .val (.int c0), .val (.int c1), .val (.int c2), .val (.int c3), .val (.int c4), .val (.int c5), .val (.int c6), .val (.int c7), .unset, .unset, .unset, .unset, s18, s19, s20, s21, s22, s23] [])) _
  refine XS.iconst X0.here hx rfl (hb hby at_86) ?_
  refine st1 _ ?_
  refine XS.astore X1.here hx rfl (hb hby at_89) rfl rfl (l' := #[s0, s1, s2, s3, s4, s5, .val (.int c0), .val (.int c1), .val (.int c2), .val (.int c3), .val (.int c4), .val (.int c5), .val (.int c6), .val (.int c7), .val (.ref b1), .unset, .unset, .unset, s18, s19, s20, s21, s22, s23]) rfl ?_
  refine XS.bipush X1.here hx rfl (hb hby at_91) ?_
  refine st4 _ ?_
  refine XS.dup X4.here hx rfl (hb hby at_95) rfl rfl ?_
  refine XS.iconst X4.here hx rfl (hb hby at_96) ?_
  refine XS.iload X4.here hx rfl (hb hby at_97) rfl ?_
  refine st8 _ ?_
  refine XS.dup X8.here hx rfl (hb hby at_100) rfl rfl ?_
  refine XS.iconst X8.here hx rfl (hb hby at_101) ?_
  refine XS.iload X8.here hx rfl (hb hby at_102) rfl ?_
  refine st12 _ ?_
  refine XS.dup X12.here hx rfl (hb hby at_105) rfl rfl ?_
  refine XS.iconst X12.here hx rfl (hb hby at_106) ?_
  refine XS.iload X12.here hx rfl (hb hby at_107) rfl ?_
  refine st16 _ ?_
  refine XS.dup X16.here hx rfl (hb hby at_110) rfl rfl ?_
  refine XS.iconst X16.here hx rfl (hb hby at_111) ?_
  refine XS.iload X16.here hx rfl (hb hby at_112) rfl ?_
  refine st20 _ ?_
  refine XS.dup X20.here hx rfl (hb hby at_115) rfl rfl ?_
  refine XS.iconst X20.here hx rfl (hb hby at_116) ?_
  refine XS.iload X20.here hx rfl (hb hby at_117) rfl ?_
  refine st24 _ ?_
  refine XS.dup X24.here hx rfl (hb hby at_120) rfl rfl ?_
  refine XS.iconst X24.here hx rfl (hb hby at_121) ?_
  refine XS.iload X24.here hx rfl (hb hby at_122) rfl ?_
  refine st28 _ ?_
  refine XS.astore X28.here hx rfl (hb hby at_125) rfl rfl (l' := #[s0, s1, s2, s3, s4, s5, .val (.int c0), .val (.int c1), .val (.int c2), .val (.int c3), .val (.int c4), .val (.int c5), .val (.int c6), .val (.int c7), .val (.ref b1), .val (.ref b4), .unset, .unset, s18, s19, s20, s21, s22, s23]) rfl ?_
  refine XS.bipush X28.here hx rfl (hb hby at_127) ?_
  refine st31 _ ?_
  refine XS.dup X31.here hx rfl (hb hby at_131) rfl rfl ?_
  refine XS.iconst X31.here hx rfl (hb hby at_132) ?_
  refine XS.iload X31.here hx rfl (hb hby at_133) rfl ?_
  refine st35 _ ?_
  refine XS.dup X35.here hx rfl (hb hby at_136) rfl rfl ?_
  refine XS.iconst X35.here hx rfl (hb hby at_137) ?_
  refine XS.iload X35.here hx rfl (hb hby at_138) rfl ?_
  refine st39 _ ?_
  refine XS.dup X39.here hx rfl (hb hby at_141) rfl rfl ?_
  refine XS.iconst X39.here hx rfl (hb hby at_142) ?_
  refine XS.iload X39.here hx rfl (hb hby at_143) rfl ?_
  refine st43 _ ?_
  refine XS.dup X43.here hx rfl (hb hby at_146) rfl rfl ?_
  refine XS.iconst X43.here hx rfl (hb hby at_147) ?_
  refine XS.iload X43.here hx rfl (hb hby at_148) rfl ?_
  refine st47 _ ?_
  refine XS.dup X47.here hx rfl (hb hby at_151) rfl rfl ?_
  refine XS.iconst X47.here hx rfl (hb hby at_152) ?_
  refine XS.iload X47.here hx rfl (hb hby at_153) rfl ?_
  refine st51 _ ?_
  refine XS.dup X51.here hx rfl (hb hby at_156) rfl rfl ?_
  refine XS.iconst X51.here hx rfl (hb hby at_157) ?_
  refine XS.iload X51.here hx rfl (hb hby at_158) rfl ?_
  refine st55 _ ?_
  refine XS.dup X55.here hx rfl (hb hby at_161) rfl rfl ?_
  refine XS.bipush X55.here hx rfl (hb hby at_162) ?_
  refine XS.iload X55.here hx rfl (hb hby at_164) rfl ?_
  refine st59 _ ?_
  refine XS.astore X59.here hx rfl (hb hby at_167) rfl rfl (l' := #[s0, s1, s2, s3, s4, s5, .val (.int c0), .val (.int c1), .val (.int c2), .val (.int c3), .val (.int c4), .val (.int c5), .val (.int c6), .val (.int c7), .val (.ref b1), .val (.ref b4), .val (.ref b31), .unset, s18, s19, s20, s21, s22, s23]) rfl ?_
  refine XS.bipush X59.here hx rfl (hb hby at_169) ?_
  refine st62 _ ?_
  refine XS.dup X62.here hx rfl (hb hby at_173) rfl rfl ?_
  refine XS.iconst X62.here hx rfl (hb hby at_174) ?_
  refine XS.iload X62.here hx rfl (hb hby at_175) rfl ?_
  refine st66 _ ?_
  refine XS.dup X66.here hx rfl (hb hby at_178) rfl rfl ?_
  refine XS.iconst X66.here hx rfl (hb hby at_179) ?_
  refine XS.iload X66.here hx rfl (hb hby at_180) rfl ?_
  refine st70 _ ?_
  refine XS.dup X70.here hx rfl (hb hby at_183) rfl rfl ?_
  refine XS.iconst X70.here hx rfl (hb hby at_184) ?_
  refine XS.iload X70.here hx rfl (hb hby at_185) rfl ?_
  refine st74 _ ?_
  refine XS.dup X74.here hx rfl (hb hby at_188) rfl rfl ?_
  refine XS.iconst X74.here hx rfl (hb hby at_189) ?_
  refine XS.iload X74.here hx rfl (hb hby at_190) rfl ?_
  refine st78 _ ?_
  refine XS.dup X78.here hx rfl (hb hby at_193) rfl rfl ?_
  refine XS.iconst X78.here hx rfl (hb hby at_194) ?_
  refine XS.iload X78.here hx rfl (hb hby at_195) rfl ?_
  refine st82 _ ?_
  refine XS.dup X82.here hx rfl (hb hby at_198) rfl rfl ?_
  refine XS.iconst X82.here hx rfl (hb hby at_199) ?_
  refine XS.iload X82.here hx rfl (hb hby at_200) rfl ?_
  refine st86 _ ?_
  refine XS.dup X86.here hx rfl (hb hby at_203) rfl rfl ?_
  refine XS.bipush X86.here hx rfl (hb hby at_204) ?_
  refine XS.iload X86.here hx rfl (hb hby at_206) rfl ?_
  refine st90 _ ?_
  refine XS.dup X90.here hx rfl (hb hby at_209) rfl rfl ?_
  refine XS.bipush X90.here hx rfl (hb hby at_210) ?_
  refine XS.iload X90.here hx rfl (hb hby at_212) rfl ?_
  refine st94 _ ?_
  refine XS.astore X94.here hx rfl (hb hby at_215) rfl rfl (l' := #[s0, s1, s2, s3, s4, s5, .val (.int c0), .val (.int c1), .val (.int c2), .val (.int c3), .val (.int c4), .val (.int c5), .val (.int c6), .val (.int c7), .val (.ref b1), .val (.ref b4), .val (.ref b31), .val (.ref b62), s18, s19, s20, s21, s22, s23]) rfl ?_
  exact kt
theorem pd_26 : parseMethodDescriptor "([C)V" = some ⟨[(.array .char)], none⟩ := by decide +kernel
theorem pd_19 : parseMethodDescriptor "(Ljava/lang/String;)Ljava/time/YearMonth;" = some ⟨[(.object "java/lang/String")], some (.object "java/time/YearMonth")⟩ := by decide +kernel
theorem tg6 {p : Program} {l : Launch} {e : Env} {s : State} {m : MethodId} {args : Array Value} {below : List Frame} {meth : Method} {c : Code} {T0 : State} {locs : List Loc} {Z : State} {a0 : Array Value} (hw : ∀ d ∈ tables_1, d.before a0 Z = true) (p1 : Int32) (q2 q3 : Int64) (p4 c0 c1 c2 c3 c4 c5 c6 c7 : Int32) (b14 b15 b16 b17 : Addr) (k0 : ClassId) (zC : Int32) (h0 : Heap) (n0 : Nat) (X0 : Stand p l e room_1 s m args below meth c T0 locs 4 21) (N0 : Fr n0 locs) (hx : p.tables.exec = Jvm.exec) (hZ : Z.Warmed39 s.vm) (hby : c.code = code) (hml : c.maxLocals = 24) (hown : s.vm.findClass "com/example/vestwright/vestwright/ValuesMonthPinLaw" = some m.cls) (e0 : T0.heap = h0) (O0 : Old Z n0 h0) (HV_b15 : Arv Z h0 b15 k0 .char (6 : Int32) [(.int c0), (.int c1), (.int c2), (.int c3), (.int c4), (.int c5)] (.int 0)) (hc224 : ¬ ((p1 &&& (3 : Int32)) = (0 : Int32))) (hc244 : (p1 &&& (3 : Int32)) = (1 : Int32)) (S_COMPACT_STRINGS : Sta Z Z.heap "java/lang/String" "COMPACT_STRINGS" "Z" (.int zC)) (S__assertionsDisabled : Sta Z Z.heap "java/lang/StringUTF16" "$assertionsDisabled" "Z" (.int 1)) (S_HI_BYTE_SHIFT : Sta Z Z.heap "java/lang/StringUTF16" "HI_BYTE_SHIFT" "I" (.int 0)) (S_LO_BYTE_SHIFT : Sta Z Z.heap "java/lang/StringUTF16" "LO_BYTE_SHIFT" "I" (.int 8)) (h253_hz : ¬ (zC = (0 : Int32))) (h253_hcs : ∀ c ∈ [c0, c1, c2, c3, c4, c5], own_ch c) :
    ∃ (T' : State) (locs' : List Loc) (h' : Heap) (b1 : Addr), Stand p l e room_1 s m args below meth c T' locs' 7 49 ∧ Fr n0 locs' ∧ T'.heap = h' ∧ Keep h0 h' [] ∧ h0.size ≤ b1 ∧ Exa Z h' b1 "java/lang/String" ∧ own_Str Z h' h'.size b1 [c0, c1, c2, c3, c4, c5] ∧
      ∀ target, Steps p.tables e below (T'.setTop (mkF m 299 #[.val (.int p1), .val (.long q2), .second, .val (.long q3), .second, .val (.int p4), .val (.int c0), .val (.int c1), .val (.int c2), .val (.int c3), .val (.int c4), .val (.int c5), .val (.int c6), .val (.int c7), .val (.ref b14), .val (.ref b15), .val (.ref b16), .val (.ref b17), .val (.int (p1 &&& (3 : Int32))), .val (.ref b1), .val .null, .unset, .unset, .unset] [])) target → Steps p.tables e below (T0.setTop (mkF m 217 #[.val (.int p1), .val (.long q2), .second, .val (.long q3), .second, .val (.int p4), .val (.int c0), .val (.int c1), .val (.int c2), .val (.int c3), .val (.int c4), .val (.int c5), .val (.int c6), .val (.int c7), .val (.ref b14), .val (.ref b15), .val (.ref b16), .val (.ref b17), .unset, .unset, .unset, .unset, .unset, .unset] [])) target := by
  have Z0 : n0 ≤ h0.size := O0.1 ▸ O0.2.1
  obtain ⟨T1, h1, X1, e1, E1, A1, D1, -, st1⟩ := newO X0 hx hZ hown (own_w hw 9 rfl) (own_w hw 10 rfl) (own_w hw 11 rfl) e0 (g := (mkF m 247 #[.val (.int p1), .val (.long q2), .second, .val (.long q3), .second, .val (.int p4), .val (.int c0), .val (.int c1), .val (.int c2), .val (.int c3), .val (.int c4), .val (.int c5), .val (.int c6), .val (.int c7), .val (.ref b14), .val (.ref b15), .val (.ref b16), .val (.ref b17), .val (.int (p1 &&& (3 : Int32))), .unset, .unset, .unset, .unset, .unset] [])) rfl (hb hby at_247) (by decide) (by decide)
  obtain ⟨b1, g1⟩ : ∃ z, z = h0.size := ⟨_, rfl⟩
  rw [← g1] at A1 D1 st1
  have g_b1 : n0 ≤ b1 := Nat.le_trans (Nat.le_trans Z0 (Keep.refl h0 []).1) (Nat.le_of_eq g1.symm)
  have sz_b1 : h0.size ≤ b1 := Nat.le_trans (Keep.refl h0 []).1 (Nat.le_of_eq g1.symm)
  have K2 : Keep h0 h1 [] := (Keep.refl h0 []).ext E1
  have O3 : Old Z n0 h1 := O0.ext E1
  have F_coder_b1 : Fld Z h1 b1 "java/lang/String" "coder" "B" (.int 0) := D1 (Or.inr (own_w hw 54 rfl)) (ty := .byte) (by decide)
  have F_value_b1 : Fld Z h1 b1 "java/lang/String" "value" "[B" .null := D1 (Or.inr (own_w hw 56 rfl)) (ty := (.array .byte)) (by decide)
  replace X1 := X1.more (cells' := 5) (slots' := 25) (by decide) (by decide)
  have f4 := (HV_b15.ext E1)
  obtain ⟨vr5, _, ⟨T5, L5, k5, n5⟩, -, X5, ⟨Lc5, hQ5, l5, y5, z5⟩, st5⟩ := X1.specialBack hx (y := (⟨"java/lang/String", "<init>", "([C)V"⟩ : MethodName)) rfl hown (mvT hZ (own_w hw 12 rfl)) (mvT hZ (own_w hw 13 rfl)) (mvT hZ (own_w hw 14 rfl)) (by decide) (backOf (W := 1) (rm3 l Z a0 hw [] b1 b15 k0 ((6 : Int32)) ([c0, c1, c2, c3, c4, c5]) zC h1 n0 O3 A1 F_value_b1 F_coder_b1 f4 S_COMPACT_STRINGS S__assertionsDisabled S_HI_BYTE_SHIFT S_LO_BYTE_SHIFT g_b1 h253_hz (rfl : (6 : Int32) = Int32.ofNat [c0, c1, c2, c3, c4, c5].length) (Nat.le_of_ble_eq_true rfl) (Nat.le_of_ble_eq_true rfl) h253_hcs) hZ (own_w hw 14 rfl) (own_w hw 11 rfl) (by decide) (by decide)) (g := (mkF m 253 #[.val (.int p1), .val (.long q2), .second, .val (.long q3), .second, .val (.int p4), .val (.int c0), .val (.int c1), .val (.int c2), .val (.int c3), .val (.int c4), .val (.int c5), .val (.int c6), .val (.int c7), .val (.ref b14), .val (.ref b15), .val (.ref b16), .val (.ref b17), .val (.int (p1 &&& (3 : Int32))), .unset, .unset, .unset, .unset, .unset] [(.ref b15), (.ref b1), (.ref b1)])) rfl (by rw [hml]; rfl) (Steps.refl _) (a := b1) (argsL := [(.ref b15)]) (rest := [(.ref b1)]) (lenOf pd_26 rfl) rfl (by show 2 * 0 + _ ≤ _; exact Nat.le_of_eq rfl) (hb hby at_253) (fun _ _ => ⟨rfl, e1, (by decide : 5 + 2 ≤ _), (by decide : 25 + 24 ≤ _)⟩)
  dsimp only [Pt.U, Pt.locs, Pt.cells, Pt.slots] at X5 l5 y5 z5 st5 hQ5
  subst l5 y5 z5
  obtain ⟨rfl, N5q, K5, Y5_0, Y5_1⟩ := hQ5
  have N5 := Fr.app N0 N5q
  replace X5 := X5.more (cells' := 7) (slots' := 49) (by decide) (by decide)
  have K6 : Keep h0 T5.heap [] := K2.trans K5 (allS (Or.inr sz_b1) all0)
  have O7 : Old Z n0 T5.heap := O3.keep K5 (allS g_b1 all0)
  obtain ⟨vr8, _, ⟨T8, L8, k8, n8⟩, -, X8, ⟨Lc8, hQ8, l8, y8, z8⟩, st8⟩ := Jvm.LawKit.callS X5 hx (y := (⟨"com/example/vestwright/vestwright/Values", "month", "(Ljava/lang/String;)Ljava/time/YearMonth;"⟩ : MethodName)) hown (mvT hZ (own_w hw 57 rfl)) (mvT hZ (own_w hw 58 rfl)) (mvT hZ (own_w hw 59 rfl)) (mvT hZ (own_w hw 60 rfl)) (by decide) (backOf (W := 0) (rm14n6 l Z a0 hw [] b1 c0 c1 c2 c3 c4 c5 zC T5.heap n0 O7 (own_Str.top Y5_1) S_COMPACT_STRINGS h253_hz) hZ (own_w hw 60 rfl) (own_w hw 59 rfl) (by decide) (by decide)) (g := (mkF m 294 #[.val (.int p1), .val (.long q2), .second, .val (.long q3), .second, .val (.int p4), .val (.int c0), .val (.int c1), .val (.int c2), .val (.int c3), .val (.int c4), .val (.int c5), .val (.int c6), .val (.int c7), .val (.ref b14), .val (.ref b15), .val (.ref b16), .val (.ref b17), .val (.int (p1 &&& (3 : Int32))), .val (.ref b1), .unset, .unset, .unset, .unset] [(.ref b1)])) rfl (by rw [hml]; rfl) (argsL := [(.ref b1)]) (rest := []) (lenOf pd_19 rfl) rfl (by show 2 * 0 + _ ≤ _; exact Nat.le_of_eq rfl) (hb hby at_294) (fun _ _ => ⟨rfl, rfl, (by decide : 7 + 0 ≤ _), (by decide : 49 + 0 ≤ _)⟩)
  dsimp only [Pt.U, Pt.locs, Pt.cells, Pt.slots] at X8 l8 y8 z8 st8 hQ8
  subst l8 y8 z8
  obtain ⟨rfl, N8q, e8⟩ := hQ8
  have N8 := Fr.app N5 N8q
  replace X8 := X8.more (cells' := 7) (slots' := 49) (by decide) (by decide)
  refine ⟨T8, _, _, b1, X8, N8, e8, K6, sz_b1, (own_Str.exa Y5_1), (own_Str.top Y5_1), fun target kt => ?_⟩
  show Steps p.tables e below (T0.setTop (mkF m 217 #[.val (.int p1), .val (.long q2), .second, .val (.long q3), .second, .val (.int p4), .val (.int c0), .val (.int c1), .val (.int c2), .val (.int c3), .val (.int c4), .val (.int c5), .val (.int c6), .val (.int c7), .val (.ref b14), .val (.ref b15), .val (.ref b16), .val (.ref b17), .unset, .unset, .unset, .unset, .unset, .unset] [])) _
  refine XS.iloadN X0.here hx rfl (hb hby at_217) rfl ?_
  refine XS.iconst X0.here hx rfl (hb hby at_218) ?_
  refine XS.iand X0.here hx rfl (hb hby at_219) rfl ?_
  refine XS.istore X0.here hx rfl (hb hby at_220) rfl (l' := #[.val (.int p1), .val (.long q2), .second, .val (.long q3), .second, .val (.int p4), .val (.int c0), .val (.int c1), .val (.int c2), .val (.int c3), .val (.int c4), .val (.int c5), .val (.int c6), .val (.int c7), .val (.ref b14), .val (.ref b15), .val (.ref b16), .val (.ref b17), .val (.int (p1 &&& (3 : Int32))), .unset, .unset, .unset, .unset, .unset]) rfl ?_
  refine XS.iload X0.here hx rfl (hb hby at_222) rfl ?_
  refine XS.ifYes X0.here hx rfl (pc0 := 224) (pc' := 241) rfl (hb hby at_224) rfl ((if0 _ _).trans (feq hc224).2) (by decide) (by decide) ?_
  refine XS.iload X0.here hx rfl (hb hby at_241) rfl ?_
  show Steps p.tables e below (T0.setTop (mkF m 243 #[.val (.int p1), .val (.long q2), .second, .val (.long q3), .second, .val (.int p4), .val (.int c0), .val (.int c1), .val (.int c2), .val (.int c3), .val (.int c4), .val (.int c5), .val (.int c6), .val (.int c7), .val (.ref b14), .val (.ref b15), .val (.ref b16), .val (.ref b17), .val (.int (p1 &&& (3 : Int32))), .unset, .unset, .unset, .unset, .unset] [(.int (p1 &&& (3 : Int32)))])) _
  refine XS.iconst X0.here hx rfl (hb hby at_243) ?_
  refine XS.icmpNo X0.here hx rfl (hb hby at_244) rfl (teq hc244).2 ?_
  refine st1 _ ?_
  refine XS.dup X1.here hx rfl (hb hby at_250) rfl rfl ?_
  refine XS.aload X1.here hx rfl (hb hby at_251) rfl rfl ?_
  refine st5.trans ?_
  refine XS.astore X5.here hx rfl (hb hby at_256) rfl rfl (l' := #[.val (.int p1), .val (.long q2), .second, .val (.long q3), .second, .val (.int p4), .val (.int c0), .val (.int c1), .val (.int c2), .val (.int c3), .val (.int c4), .val (.int c5), .val (.int c6), .val (.int c7), .val (.ref b14), .val (.ref b15), .val (.ref b16), .val (.ref b17), .val (.int (p1 &&& (3 : Int32))), .val (.ref b1), .unset, .unset, .unset, .unset]) rfl ?_
  refine XS.goto X5.here hx rfl (pc0 := 258) (pc' := 292) rfl (hb hby at_258) (by decide) (by decide) ?_
  refine XS.aload X5.here hx rfl (hb hby at_292) rfl rfl ?_
  refine st8 _ ?_
  refine XS.astore X8.here hx rfl (hb hby at_297) rfl rfl (l' := #[.val (.int p1), .val (.long q2), .second, .val (.long q3), .second, .val (.int p4), .val (.int c0), .val (.int c1), .val (.int c2), .val (.int c3), .val (.int c4), .val (.int c5), .val (.int c6), .val (.int c7), .val (.ref b14), .val (.ref b15), .val (.ref b16), .val (.ref b17), .val (.int (p1 &&& (3 : Int32))), .val (.ref b1), .val .null, .unset, .unset, .unset]) rfl ?_
  exact kt
theorem tg8 {p : Program} {l : Launch} {e : Env} {s : State} {m : MethodId} {args : Array Value} {below : List Frame} {meth : Method} {c : Code} {T0 : State} {locs : List Loc} {Z : State} {a0 : Array Value} (hw : ∀ d ∈ tables_1, d.before a0 Z = true) (p1 : Int32) (q2 q3 : Int64) (p4 c0 c1 c2 c3 c4 c5 c6 c7 : Int32) (b14 b15 b16 b17 : Addr) (k0 : ClassId) (zC : Int32) (h0 : Heap) (n0 : Nat) (X0 : Stand p l e room_1 s m args below meth c T0 locs 4 21) (N0 : Fr n0 locs) (hx : p.tables.exec = Jvm.exec) (hZ : Z.Warmed39 s.vm) (hby : c.code = code) (hml : c.maxLocals = 24) (hown : s.vm.findClass "com/example/vestwright/vestwright/ValuesMonthPinLaw" = some m.cls) (e0 : T0.heap = h0) (O0 : Old Z n0 h0) (HV_b17 : Arv Z h0 b17 k0 .char (8 : Int32) [(.int c0), (.int c1), (.int c2), (.int c3), (.int c4), (.int c5), (.int c6), (.int c7)] (.int 0)) (hc224 : ¬ ((p1 &&& (3 : Int32)) = (0 : Int32))) (hc244 : ¬ ((p1 &&& (3 : Int32)) = (1 : Int32))) (hc264 : (p1 &&& (3 : Int32)) = (2 : Int32)) (S_COMPACT_STRINGS : Sta Z Z.heap "java/lang/String" "COMPACT_STRINGS" "Z" (.int zC)) (S__assertionsDisabled : Sta Z Z.heap "java/lang/StringUTF16" "$assertionsDisabled" "Z" (.int 1)) (S_HI_BYTE_SHIFT : Sta Z Z.heap "java/lang/StringUTF16" "HI_BYTE_SHIFT" "I" (.int 0)) (S_LO_BYTE_SHIFT : Sta Z Z.heap "java/lang/StringUTF16" "LO_BYTE_SHIFT" "I" (.int 8)) (h273_hz : ¬ (zC = (0 : Int32))) (h273_hcs : ∀ c ∈ [c0, c1, c2, c3, c4, c5, c6, c7], own_ch c) :
    ∃ (T' : State) (locs' : List Loc) (h' : Heap) (b1 : Addr), Stand p l e room_1 s m args below meth c T' locs' 7 49 ∧ Fr n0 locs' ∧ T'.heap = h' ∧ Keep h0 h' [] ∧ h0.size ≤ b1 ∧ Exa Z h' b1 "java/lang/String" ∧ own_Str Z h' h'.size b1 [c0, c1, c2, c3, c4, c5, c6, c7] ∧
      ∀ target, Steps p.tables e below (T'.setTop (mkF m 299 #[.val (.int p1), .val (.long q2), .second, .val (.long q3), .second, .val (.int p4), .val (.int c0), .val (.int c1), .val (.int c2), .val (.int c3), .val (.int c4), .val (.int c5), .val (.int c6), .val (.int c7), .val (.ref b14), .val (.ref b15), .val (.ref b16), .val (.ref b17), .val (.int (p1 &&& (3 : Int32))), .val (.ref b1), .val .null, .unset, .unset, .unset] [])) target → Steps p.tables e below (T0.setTop (mkF m 217 #[.val (.int p1), .val (.long q2), .second, .val (.long q3), .second, .val (.int p4), .val (.int c0), .val (.int c1), .val (.int c2), .val (.int c3), .val (.int c4), .val (.int c5), .val (.int c6), .val (.int c7), .val (.ref b14), .val (.ref b15), .val (.ref b16), .val (.ref b17), .unset, .unset, .unset, .unset, .unset, .unset] [])) target := by
  have Z0 : n0 ≤ h0.size := O0.1 ▸ O0.2.1
  obtain ⟨T1, h1, X1, e1, E1, A1, D1, -, st1⟩ := newO X0 hx hZ hown (own_w hw 9 rfl) (own_w hw 10 rfl) (own_w hw 11 rfl) e0 (g := (mkF m 267 #[.val (.int p1), .val (.long q2), .second, .val (.long q3), .second, .val (.int p4), .val (.int c0), .val (.int c1), .val (.int c2), .val (.int c3), .val (.int c4), .val (.int c5), .val (.int c6), .val (.int c7), .val (.ref b14), .val (.ref b15), .val (.ref b16), .val (.ref b17), .val (.int (p1 &&& (3 : Int32))), .unset, .unset, .unset, .unset, .unset] [])) rfl (hb hby at_267) (by decide) (by decide)
  obtain ⟨b1, g1⟩ : ∃ z, z = h0.size := ⟨_, rfl⟩
  rw [← g1] at A1 D1 st1
  have g_b1 : n0 ≤ b1 := Nat.le_trans (Nat.le_trans Z0 (Keep.refl h0 []).1) (Nat.le_of_eq g1.symm)
  have sz_b1 : h0.size ≤ b1 := Nat.le_trans (Keep.refl h0 []).1 (Nat.le_of_eq g1.symm)
  have K2 : Keep h0 h1 [] := (Keep.refl h0 []).ext E1
  have O3 : Old Z n0 h1 := O0.ext E1
  have F_coder_b1 : Fld Z h1 b1 "java/lang/String" "coder" "B" (.int 0) := D1 (Or.inr (own_w hw 54 rfl)) (ty := .byte) (by decide)
  have F_value_b1 : Fld Z h1 b1 "java/lang/String" "value" "[B" .null := D1 (Or.inr (own_w hw 56 rfl)) (ty := (.array .byte)) (by decide)
  replace X1 := X1.more (cells' := 5) (slots' := 25) (by decide) (by decide)
  have f4 := (HV_b17.ext E1)
  obtain ⟨vr5, _, ⟨T5, L5, k5, n5⟩, -, X5, ⟨Lc5, hQ5, l5, y5, z5⟩, st5⟩ := X1.specialBack hx (y := (⟨"java/lang/String", "<init>", "([C)V"⟩ : MethodName)) rfl hown (mvT hZ (own_w hw 12 rfl)) (mvT hZ (own_w hw 13 rfl)) (mvT hZ (own_w hw 14 rfl)) (by decide) (backOf (W := 1) (rm3 l Z a0 hw [] b1 b17 k0 ((8 : Int32)) ([c0, c1, c2, c3, c4, c5, c6, c7]) zC h1 n0 O3 A1 F_value_b1 F_coder_b1 f4 S_COMPACT_STRINGS S__assertionsDisabled S_HI_BYTE_SHIFT S_LO_BYTE_SHIFT g_b1 h273_hz (rfl : (8 : Int32) = Int32.ofNat [c0, c1, c2, c3, c4, c5, c6, c7].length) (Nat.le_of_ble_eq_true rfl) (Nat.le_of_ble_eq_true rfl) h273_hcs) hZ (own_w hw 14 rfl) (own_w hw 11 rfl) (by decide) (by decide)) (g := (mkF m 273 #[.val (.int p1), .val (.long q2), .second, .val (.long q3), .second, .val (.int p4), .val (.int c0), .val (.int c1), .val (.int c2), .val (.int c3), .val (.int c4), .val (.int c5), .val (.int c6), .val (.int c7), .val (.ref b14), .val (.ref b15), .val (.ref b16), .val (.ref b17), .val (.int (p1 &&& (3 : Int32))), .unset, .unset, .unset, .unset, .unset] [(.ref b17), (.ref b1), (.ref b1)])) rfl (by rw [hml]; rfl) (Steps.refl _) (a := b1) (argsL := [(.ref b17)]) (rest := [(.ref b1)]) (lenOf pd_26 rfl) rfl (by show 2 * 0 + _ ≤ _; exact Nat.le_of_eq rfl) (hb hby at_273) (fun _ _ => ⟨rfl, e1, (by decide : 5 + 2 ≤ _), (by decide : 25 + 24 ≤ _)⟩)
  dsimp only [Pt.U, Pt.locs, Pt.cells, Pt.slots] at X5 l5 y5 z5 st5 hQ5
  subst l5 y5 z5
  obtain ⟨rfl, N5q, K5, Y5_0, Y5_1⟩ := hQ5
  have N5 := Fr.app N0 N5q
  replace X5 := X5.more (cells' := 7) (slots' := 49) (by decide) (by decide)
  have K6 : Keep h0 T5.heap [] := K2.trans K5 (allS (Or.inr sz_b1) all0)
  have O7 : Old Z n0 T5.heap := O3.keep K5 (allS g_b1 all0)
  obtain ⟨vr8, _, ⟨T8, L8, k8, n8⟩, -, X8, ⟨Lc8, hQ8, l8, y8, z8⟩, st8⟩ := Jvm.LawKit.callS X5 hx (y := (⟨"com/example/vestwright/vestwright/Values", "month", "(Ljava/lang/String;)Ljava/time/YearMonth;"⟩ : MethodName)) hown (mvT hZ (own_w hw 57 rfl)) (mvT hZ (own_w hw 58 rfl)) (mvT hZ (own_w hw 59 rfl)) (mvT hZ (own_w hw 60 rfl)) (by decide) (backOf (W := 0) (rm14n8 l Z a0 hw [] b1 c0 c1 c2 c3 c4 c5 c6 c7 zC T5.heap n0 O7 (own_Str.top Y5_1) S_COMPACT_STRINGS h273_hz) hZ (own_w hw 60 rfl) (own_w hw 59 rfl) (by decide) (by decide)) (g := (mkF m 294 #[.val (.int p1), .val (.long q2), .second, .val (.long q3), .second, .val (.int p4), .val (.int c0), .val (.int c1), .val (.int c2), .val (.int c3), .val (.int c4), .val (.int c5), .val (.int c6), .val (.int c7), .val (.ref b14), .val (.ref b15), .val (.ref b16), .val (.ref b17), .val (.int (p1 &&& (3 : Int32))), .val (.ref b1), .unset, .unset, .unset, .unset] [(.ref b1)])) rfl (by rw [hml]; rfl) (argsL := [(.ref b1)]) (rest := []) (lenOf pd_19 rfl) rfl (by show 2 * 0 + _ ≤ _; exact Nat.le_of_eq rfl) (hb hby at_294) (fun _ _ => ⟨rfl, rfl, (by decide : 7 + 0 ≤ _), (by decide : 49 + 0 ≤ _)⟩)
  dsimp only [Pt.U, Pt.locs, Pt.cells, Pt.slots] at X8 l8 y8 z8 st8 hQ8
  subst l8 y8 z8
  obtain ⟨rfl, N8q, e8⟩ := hQ8
  have N8 := Fr.app N5 N8q
  replace X8 := X8.more (cells' := 7) (slots' := 49) (by decide) (by decide)
  refine ⟨T8, _, _, b1, X8, N8, e8, K6, sz_b1, (own_Str.exa Y5_1), (own_Str.top Y5_1), fun target kt => ?_⟩
  show Steps p.tables e below (T0.setTop (mkF m 217 #[.val (.int p1), .val (.long q2), .second, .val (.long q3), .second, .val (.int p4), .val (.int c0), .val (.int c1), .val (.int c2), .val (.int c3), .val (.int c4), .val (.int c5), .val (.int c6), .val (.int c7), .val (.ref b14), .val (.ref b15), .val (.ref b16), .val (.ref b17), .unset, .unset, .unset, .unset, .unset, .unset] [])) _
  refine XS.iloadN X0.here hx rfl (hb hby at_217) rfl ?_
  refine XS.iconst X0.here hx rfl (hb hby at_218) ?_
  refine XS.iand X0.here hx rfl (hb hby at_219) rfl ?_
  refine XS.istore X0.here hx rfl (hb hby at_220) rfl (l' := #[.val (.int p1), .val (.long q2), .second, .val (.long q3), .second, .val (.int p4), .val (.int c0), .val (.int c1), .val (.int c2), .val (.int c3), .val (.int c4), .val (.int c5), .val (.int c6), .val (.int c7), .val (.ref b14), .val (.ref b15), .val (.ref b16), .val (.ref b17), .val (.int (p1 &&& (3 : Int32))), .unset, .unset, .unset, .unset, .unset]) rfl ?_
  refine XS.iload X0.here hx rfl (hb hby at_222) rfl ?_
  refine XS.ifYes X0.here hx rfl (pc0 := 224) (pc' := 241) rfl (hb hby at_224) rfl ((if0 _ _).trans (feq hc224).2) (by decide) (by decide) ?_
  refine XS.iload X0.here hx rfl (hb hby at_241) rfl ?_
  show Steps p.tables e below (T0.setTop (mkF m 243 #[.val (.int p1), .val (.long q2), .second, .val (.long q3), .second, .val (.int p4), .val (.int c0), .val (.int c1), .val (.int c2), .val (.int c3), .val (.int c4), .val (.int c5), .val (.int c6), .val (.int c7), .val (.ref b14), .val (.ref b15), .val (.ref b16), .val (.ref b17), .val (.int (p1 &&& (3 : Int32))), .unset, .unset, .unset, .unset, .unset] [(.int (p1 &&& (3 : Int32)))])) _
  refine XS.iconst X0.here hx rfl (hb hby at_243) ?_
  refine XS.icmpYes X0.here hx rfl (pc0 := 244) (pc' := 261) rfl (hb hby at_244) rfl (feq hc244).2 (by decide) (by decide) ?_
  refine XS.iload X0.here hx rfl (hb hby at_261) rfl ?_
  refine XS.iconst X0.here hx rfl (hb hby at_263) ?_
  refine XS.icmpNo X0.here hx rfl (hb hby at_264) rfl (teq hc264).2 ?_
  refine st1 _ ?_
  refine XS.dup X1.here hx rfl (hb hby at_270) rfl rfl ?_
  refine XS.aload X1.here hx rfl (hb hby at_271) rfl rfl ?_
  refine st5.trans ?_
  refine XS.astore X5.here hx rfl (hb hby at_276) rfl rfl (l' := #[.val (.int p1), .val (.long q2), .second, .val (.long q3), .second, .val (.int p4), .val (.int c0), .val (.int c1), .val (.int c2), .val (.int c3), .val (.int c4), .val (.int c5), .val (.int c6), .val (.int c7), .val (.ref b14), .val (.ref b15), .val (.ref b16), .val (.ref b17), .val (.int (p1 &&& (3 : Int32))), .val (.ref b1), .unset, .unset, .unset, .unset]) rfl ?_
  refine XS.goto X5.here hx rfl (pc0 := 278) (pc' := 292) rfl (hb hby at_278) (by decide) (by decide) ?_
  refine XS.aload X5.here hx rfl (hb hby at_292) rfl rfl ?_
  refine st8 _ ?_
  refine XS.astore X8.here hx rfl (hb hby at_297) rfl rfl (l' := #[.val (.int p1), .val (.long q2), .second, .val (.long q3), .second, .val (.int p4), .val (.int c0), .val (.int c1), .val (.int c2), .val (.int c3), .val (.int c4), .val (.int c5), .val (.int c6), .val (.int c7), .val (.ref b14), .val (.ref b15), .val (.ref b16), .val (.ref b17), .val (.int (p1 &&& (3 : Int32))), .val (.ref b1), .val .null, .unset, .unset, .unset]) rfl ?_
  exact kt
theorem tg7B {p : Program} {l : Launch} {e : Env} {s : State} {m : MethodId} {args : Array Value} {below : List Frame} {meth : Method} {c : Code} {T0 : State} {locs : List Loc} {Z : State} {a0 : Array Value} (hw : ∀ d ∈ tables_1, d.before a0 Z = true) (p1 : Int32) (q2 q3 : Int64) (p4 c0 c1 c2 c3 c4 c5 c6 c7 : Int32) (b14 b15 b16 b17 : Addr) (k0 : ClassId) (zC : Int32) (fm : Value) (h0 : Heap) (n0 : Nat) (X0 : Stand p l e room_1 s m args below meth c T0 locs 4 21) (N0 : Fr n0 locs) (hx : p.tables.exec = Jvm.exec) (hZ : Z.Warmed39 s.vm) (hby : c.code = code) (hml : c.maxLocals = 24) (hown : s.vm.findClass "com/example/vestwright/vestwright/ValuesMonthPinLaw" = some m.cls) (e0 : T0.heap = h0) (O0 : Old Z n0 h0) (HV_b16 : Arv Z h0 b16 k0 .char (7 : Int32) [(.int c0), (.int c1), (.int c2), (.int c3), (.int c4), (.int c5), (.int c6)] (.int 0)) (hc224 : (p1 &&& (3 : Int32)) = (0 : Int32)) (S_COMPACT_STRINGS : Sta Z Z.heap "java/lang/String" "COMPACT_STRINGS" "Z" (.int zC)) (S__assertionsDisabled : Sta Z Z.heap "java/lang/StringUTF16" "$assertionsDisabled" "Z" (.int 1)) (S_HI_BYTE_SHIFT : Sta Z Z.heap "java/lang/StringUTF16" "HI_BYTE_SHIFT" "I" (.int 0)) (S_LO_BYTE_SHIFT : Sta Z Z.heap "java/lang/StringUTF16" "LO_BYTE_SHIFT" "I" (.int 8)) (h233_hz : ¬ (zC = (0 : Int32))) (h233_hcs : ∀ c ∈ [c0, c1, c2, c3, c4, c5, c6], own_ch c) (S_SIOOBE_FORMATTER : Sta Z Z.heap "jdk/internal/util/Preconditions" "SIOOBE_FORMATTER" "Ljava/util/function/BiFunction;" fm) (h294_hrfm : fm.isRef = true) (h294_hbad : ¬ (own_ok c0 c1 c2 c3 c4 c5 c6)) :
    ∃ (T' : State) (locs' : List Loc) (h' : Heap) (b1 : Addr), Stand p l e room_1 s m args below meth c T' locs' 7 49 ∧ Fr n0 locs' ∧ T'.heap = h' ∧ Keep h0 h' [] ∧ h0.size ≤ b1 ∧ Exa Z h' b1 "java/lang/String" ∧ own_Str Z h' h'.size b1 [c0, c1, c2, c3, c4, c5, c6] ∧
      ∀ target, Steps p.tables e below (T'.setTop (mkF m 299 #[.val (.int p1), .val (.long q2), .second, .val (.long q3), .second, .val (.int p4), .val (.int c0), .val (.int c1), .val (.int c2), .val (.int c3), .val (.int c4), .val (.int c5), .val (.int c6), .val (.int c7), .val (.ref b14), .val (.ref b15), .val (.ref b16), .val (.ref b17), .val (.int (p1 &&& (3 : Int32))), .val (.ref b1), .val .null, .unset, .unset, .unset] [])) target → Steps p.tables e below (T0.setTop (mkF m 217 #[.val (.int p1), .val (.long q2), .second, .val (.long q3), .second, .val (.int p4), .val (.int c0), .val (.int c1), .val (.int c2), .val (.int c3), .val (.int c4), .val (.int c5), .val (.int c6), .val (.int c7), .val (.ref b14), .val (.ref b15), .val (.ref b16), .val (.ref b17), .unset, .unset, .unset, .unset, .unset, .unset] [])) target := by
  have Z0 : n0 ≤ h0.size := O0.1 ▸ O0.2.1
  obtain ⟨T1, h1, X1, e1, E1, A1, D1, -, st1⟩ := newO X0 hx hZ hown (own_w hw 9 rfl) (own_w hw 10 rfl) (own_w hw 11 rfl) e0 (g := (mkF m 227 #[.val (.int p1), .val (.long q2), .second, .val (.long q3), .second, .val (.int p4), .val (.int c0), .val (.int c1), .val (.int c2), .val (.int c3), .val (.int c4), .val (.int c5), .val (.int c6), .val (.int c7), .val (.ref b14), .val (.ref b15), .val (.ref b16), .val (.ref b17), .val (.int (p1 &&& (3 : Int32))), .unset, .unset, .unset, .unset, .unset] [])) rfl (hb hby at_227) (by decide) (by decide)
  obtain ⟨b1, g1⟩ : ∃ z, z = h0.size := ⟨_, rfl⟩
  rw [← g1] at A1 D1 st1
  have g_b1 : n0 ≤ b1 := Nat.le_trans (Nat.le_trans Z0 (Keep.refl h0 []).1) (Nat.le_of_eq g1.symm)
  have sz_b1 : h0.size ≤ b1 := Nat.le_trans (Keep.refl h0 []).1 (Nat.le_of_eq g1.symm)
  have K2 : Keep h0 h1 [] := (Keep.refl h0 []).ext E1
  have O3 : Old Z n0 h1 := O0.ext E1
  have F_coder_b1 : Fld Z h1 b1 "java/lang/String" "coder" "B" (.int 0) := D1 (Or.inr (own_w hw 54 rfl)) (ty := .byte) (by decide)
  have F_value_b1 : Fld Z h1 b1 "java/lang/String" "value" "[B" .null := D1 (Or.inr (own_w hw 56 rfl)) (ty := (.array .byte)) (by decide)
  replace X1 := X1.more (cells' := 5) (slots' := 25) (by decide) (by decide)
  have f4 := (HV_b16.ext E1)
  obtain ⟨vr5, _, ⟨T5, L5, k5, n5⟩, -, X5, ⟨Lc5, hQ5, l5, y5, z5⟩, st5⟩ := X1.specialBack hx (y := (⟨"java/lang/String", "<init>", "([C)V"⟩ : MethodName)) rfl hown (mvT hZ (own_w hw 12 rfl)) (mvT hZ (own_w hw 13 rfl)) (mvT hZ (own_w hw 14 rfl)) (by decide) (backOf (W := 1) (rm3 l Z a0 hw [] b1 b16 k0 ((7 : Int32)) ([c0, c1, c2, c3, c4, c5, c6]) zC h1 n0 O3 A1 F_value_b1 F_coder_b1 f4 S_COMPACT_STRINGS S__assertionsDisabled S_HI_BYTE_SHIFT S_LO_BYTE_SHIFT g_b1 h233_hz (rfl : (7 : Int32) = Int32.ofNat [c0, c1, c2, c3, c4, c5, c6].length) (Nat.le_of_ble_eq_true rfl) (Nat.le_of_ble_eq_true rfl) h233_hcs) hZ (own_w hw 14 rfl) (own_w hw 11 rfl) (by decide) (by decide)) (g := (mkF m 233 #[.val (.int p1), .val (.long q2), .second, .val (.long q3), .second, .val (.int p4), .val (.int c0), .val (.int c1), .val (.int c2), .val (.int c3), .val (.int c4), .val (.int c5), .val (.int c6), .val (.int c7), .val (.ref b14), .val (.ref b15), .val (.ref b16), .val (.ref b17), .val (.int (p1 &&& (3 : Int32))), .unset, .unset, .unset, .unset, .unset] [(.ref b16), (.ref b1), (.ref b1)])) rfl (by rw [hml]; rfl) (Steps.refl _) (a := b1) (argsL := [(.ref b16)]) (rest := [(.ref b1)]) (lenOf pd_26 rfl) rfl (by show 2 * 0 + _ ≤ _; exact Nat.le_of_eq rfl) (hb hby at_233) (fun _ _ => ⟨rfl, e1, (by decide : 5 + 2 ≤ _), (by decide : 25 + 24 ≤ _)⟩)
  dsimp only [Pt.U, Pt.locs, Pt.cells, Pt.slots] at X5 l5 y5 z5 st5 hQ5
  subst l5 y5 z5
  obtain ⟨rfl, N5q, K5, Y5_0, Y5_1⟩ := hQ5
  have N5 := Fr.app N0 N5q
  replace X5 := X5.more (cells' := 7) (slots' := 49) (by decide) (by decide)
  have K6 : Keep h0 T5.heap [] := K2.trans K5 (allS (Or.inr sz_b1) all0)
  have O7 : Old Z n0 T5.heap := O3.keep K5 (allS g_b1 all0)
  obtain ⟨vr8, _, ⟨T8, L8, k8, n8⟩, -, X8, ⟨Lc8, hQ8, l8, y8, z8⟩, st8⟩ := Jvm.LawKit.callS X5 hx (y := (⟨"com/example/vestwright/vestwright/Values", "month", "(Ljava/lang/String;)Ljava/time/YearMonth;"⟩ : MethodName)) hown (mvT hZ (own_w hw 57 rfl)) (mvT hZ (own_w hw 58 rfl)) (mvT hZ (own_w hw 59 rfl)) (mvT hZ (own_w hw 60 rfl)) (by decide) (backOf (W := 0) (rm14B l Z a0 hw [] b1 c0 c1 c2 c3 c4 c5 c6 zC fm T5.heap n0 O7 (own_Str.top Y5_1) S_COMPACT_STRINGS S_SIOOBE_FORMATTER S__assertionsDisabled S_HI_BYTE_SHIFT S_LO_BYTE_SHIFT h233_hz h294_hrfm h294_hbad) hZ (own_w hw 60 rfl) (own_w hw 59 rfl) (by decide) (by decide)) (g := (mkF m 294 #[.val (.int p1), .val (.long q2), .second, .val (.long q3), .second, .val (.int p4), .val (.int c0), .val (.int c1), .val (.int c2), .val (.int c3), .val (.int c4), .val (.int c5), .val (.int c6), .val (.int c7), .val (.ref b14), .val (.ref b15), .val (.ref b16), .val (.ref b17), .val (.int (p1 &&& (3 : Int32))), .val (.ref b1), .unset, .unset, .unset, .unset] [(.ref b1)])) rfl (by rw [hml]; rfl) (argsL := [(.ref b1)]) (rest := []) (lenOf pd_19 rfl) rfl (by show 2 * 0 + _ ≤ _; exact Nat.le_of_eq rfl) (hb hby at_294) (fun _ _ => ⟨rfl, rfl, (by decide : 7 + 0 ≤ _), (by decide : 49 + 0 ≤ _)⟩)
  dsimp only [Pt.U, Pt.locs, Pt.cells, Pt.slots] at X8 l8 y8 z8 st8 hQ8
  subst l8 y8 z8
  obtain ⟨rfl, N8q, e8⟩ := hQ8
  have N8 := Fr.app N5 N8q
  replace X8 := X8.more (cells' := 7) (slots' := 49) (by decide) (by decide)
  refine ⟨T8, _, _, b1, X8, N8, e8, K6, sz_b1, (own_Str.exa Y5_1), (own_Str.top Y5_1), fun target kt => ?_⟩
  show Steps p.tables e below (T0.setTop (mkF m 217 #[.val (.int p1), .val (.long q2), .second, .val (.long q3), .second, .val (.int p4), .val (.int c0), .val (.int c1), .val (.int c2), .val (.int c3), .val (.int c4), .val (.int c5), .val (.int c6), .val (.int c7), .val (.ref b14), .val (.ref b15), .val (.ref b16), .val (.ref b17), .unset, .unset, .unset, .unset, .unset, .unset] [])) _
  refine XS.iloadN X0.here hx rfl (hb hby at_217) rfl ?_
  refine XS.iconst X0.here hx rfl (hb hby at_218) ?_
  refine XS.iand X0.here hx rfl (hb hby at_219) rfl ?_
  refine XS.istore X0.here hx rfl (hb hby at_220) rfl (l' := #[.val (.int p1), .val (.long q2), .second, .val (.long q3), .second, .val (.int p4), .val (.int c0), .val (.int c1), .val (.int c2), .val (.int c3), .val (.int c4), .val (.int c5), .val (.int c6), .val (.int c7), .val (.ref b14), .val (.ref b15), .val (.ref b16), .val (.ref b17), .val (.int (p1 &&& (3 : Int32))), .unset, .unset, .unset, .unset, .unset]) rfl ?_
  refine XS.iload X0.here hx rfl (hb hby at_222) rfl ?_
  refine XS.ifNo X0.here hx rfl (hb hby at_224) rfl ((if0 _ _).trans (teq hc224).2) ?_
  refine st1 _ ?_
  refine XS.dup X1.here hx rfl (hb hby at_230) rfl rfl ?_
  refine XS.aload X1.here hx rfl (hb hby at_231) rfl rfl ?_
  refine st5.trans ?_
  refine XS.astore X5.here hx rfl (hb hby at_236) rfl rfl (l' := #[.val (.int p1), .val (.long q2), .second, .val (.long q3), .second, .val (.int p4), .val (.int c0), .val (.int c1), .val (.int c2), .val (.int c3), .val (.int c4), .val (.int c5), .val (.int c6), .val (.int c7), .val (.ref b14), .val (.ref b15), .val (.ref b16), .val (.ref b17), .val (.int (p1 &&& (3 : Int32))), .val (.ref b1), .unset, .unset, .unset, .unset]) rfl ?_
  refine XS.goto X5.here hx rfl (pc0 := 238) (pc' := 292) rfl (hb hby at_238) (by decide) (by decide) ?_
  refine XS.aload X5.here hx rfl (hb hby at_292) rfl rfl ?_
  refine st8 _ ?_
  refine XS.astore X8.here hx rfl (hb hby at_297) rfl rfl (l' := #[.val (.int p1), .val (.long q2), .second, .val (.long q3), .second, .val (.int p4), .val (.int c0), .val (.int c1), .val (.int c2), .val (.int c3), .val (.int c4), .val (.int c5), .val (.int c6), .val (.int c7), .val (.ref b14), .val (.ref b15), .val (.ref b16), .val (.ref b17), .val (.int (p1 &&& (3 : Int32))), .val (.ref b1), .val .null, .unset, .unset, .unset]) rfl ?_
  exact kt
theorem tg7O {p : Program} {l : Launch} {e : Env} {s : State} {m : MethodId} {args : Array Value} {below : List Frame} {meth : Method} {c : Code} {T0 : State} {locs : List Loc} {Z : State} {a0 : Array Value} (hw : ∀ d ∈ tables_1, d.before a0 Z = true) (p1 : Int32) (q2 q3 : Int64) (p4 c0 c1 c2 c3 c4 c5 c6 c7 : Int32) (b14 b15 b16 b17 : Addr) (k0 : ClassId) (zC : Int32) (fm : Value) (w8 w9 : Addr) (w12 w15 : Int64) (w17 w18 : Addr) (w21 w24 : Int64) (h0 : Heap) (n0 : Nat) (X0 : Stand p l e room_1 s m args below meth c T0 locs 4 21) (N0 : Fr n0 locs) (hx : p.tables.exec = Jvm.exec) (hZ : Z.Warmed39 s.vm) (hby : c.code = code) (hml : c.maxLocals = 24) (hown : s.vm.findClass "com/example/vestwright/vestwright/ValuesMonthPinLaw" = some m.cls) (e0 : T0.heap = h0) (O0 : Old Z n0 h0) (HV_b16 : Arv Z h0 b16 k0 .char (7 : Int32) [(.int c0), (.int c1), (.int c2), (.int c3), (.int c4), (.int c5), (.int c6)] (.int 0)) (hc224 : (p1 &&& (3 : Int32)) = (0 : Int32)) (S_COMPACT_STRINGS : Sta Z Z.heap "java/lang/String" "COMPACT_STRINGS" "Z" (.int zC)) (S__assertionsDisabled : Sta Z Z.heap "java/lang/StringUTF16" "$assertionsDisabled" "Z" (.int 1)) (S_HI_BYTE_SHIFT : Sta Z Z.heap "java/lang/StringUTF16" "HI_BYTE_SHIFT" "I" (.int 0)) (S_LO_BYTE_SHIFT : Sta Z Z.heap "java/lang/StringUTF16" "LO_BYTE_SHIFT" "I" (.int 8)) (h233_hz : ¬ (zC = (0 : Int32))) (h233_hcs : ∀ c ∈ [c0, c1, c2, c3, c4, c5, c6], own_ch c) (S_SIOOBE_FORMATTER : Sta Z Z.heap "jdk/internal/util/Preconditions" "SIOOBE_FORMATTER" "Ljava/util/function/BiFunction;" fm) (S_YEAR : Sta Z Z.heap "java/time/temporal/ChronoField" "YEAR" "Ljava/time/temporal/ChronoField;" (.ref w8)) (HF_w8_range : Fld Z h0 w8 "java/time/temporal/ChronoField" "range" "Ljava/time/temporal/ValueRange;" (.ref w9)) (HE_w8 : Exa Z h0 w8 "java/time/temporal/ChronoField") (HF_w9_minSmallest : Fld Z h0 w9 "java/time/temporal/ValueRange" "minSmallest" "J" (.long w12)) (HE_w9 : Exa Z h0 w9 "java/time/temporal/ValueRange") (HF_w9_maxLargest : Fld Z h0 w9 "java/time/temporal/ValueRange" "maxLargest" "J" (.long w15)) (S_MONTH_OF_YEAR : Sta Z Z.heap "java/time/temporal/ChronoField" "MONTH_OF_YEAR" "Ljava/time/temporal/ChronoField;" (.ref w17)) (HF_w17_range : Fld Z h0 w17 "java/time/temporal/ChronoField" "range" "Ljava/time/temporal/ValueRange;" (.ref w18)) (HE_w17 : Exa Z h0 w17 "java/time/temporal/ChronoField") (HF_w18_minSmallest : Fld Z h0 w18 "java/time/temporal/ValueRange" "minSmallest" "J" (.long w21)) (HE_w18 : Exa Z h0 w18 "java/time/temporal/ValueRange") (HF_w18_maxLargest : Fld Z h0 w18 "java/time/temporal/ValueRange" "maxLargest" "J" (.long w24)) (h294_h11_hrfm : fm.isRef = true) (h294_hc16 : c4 = (45 : Int32)) (h294_h22_h12_hc18 : ¬ (c0 < (48 : Int32))) (h294_h22_h12_hc25 : ¬ ((57 : Int32) < c0)) (h294_h22_h12_hc18_1 : ¬ (c1 < (48 : Int32))) (h294_h22_h12_hc25_1 : ¬ ((57 : Int32) < c1)) (h294_h22_h12_hc18_2 : ¬ (c2 < (48 : Int32))) (h294_h22_h12_hc25_2 : ¬ ((57 : Int32) < c2)) (h294_h22_h12_hc18_3 : ¬ (c3 < (48 : Int32))) (h294_h22_h12_hc25_3 : ¬ ((57 : Int32) < c3)) (h294_h32_h12_hc18 : ¬ (c5 < (48 : Int32))) (h294_h32_h12_hc25 : ¬ ((57 : Int32) < c5)) (h294_h32_h12_hc18_1 : ¬ (c6 < (48 : Int32))) (h294_h32_h12_hc25_1 : ¬ ((57 : Int32) < c6)) (h294_hc50 : ¬ (((((0 : Int32) + (c5 - (48 : Int32))) * (10 : Int32)) + (c6 - (48 : Int32))) < (1 : Int32))) (h294_hc56 : ¬ ((12 : Int32) < ((((0 : Int32) + (c5 - (48 : Int32))) * (10 : Int32)) + (c6 - (48 : Int32))))) (h294_h68_h5_h6_h2_hc6 : ¬ ((lcmpW (((((((((0 : Int32) + (c0 - (48 : Int32))) * (10 : Int32)) + (c1 - (48 : Int32))) * (10 : Int32)) + (c2 - (48 : Int32))) * (10 : Int32)) + (c3 - (48 : Int32))).toInt64) w12) < (0 : Int32))) (h294_h68_h5_h6_h2_hc15 : ¬ ((0 : Int32) < (lcmpW (((((((((0 : Int32) + (c0 - (48 : Int32))) * (10 : Int32)) + (c1 - (48 : Int32))) * (10 : Int32)) + (c2 - (48 : Int32))) * (10 : Int32)) + (c3 - (48 : Int32))).toInt64) w15))) (h294_h68_h14_h6_h2_hc6 : ¬ ((lcmpW (((((0 : Int32) + (c5 - (48 : Int32))) * (10 : Int32)) + (c6 - (48 : Int32))).toInt64) w21) < (0 : Int32))) (h294_h68_h14_h6_h2_hc15 : ¬ ((0 : Int32) < (lcmpW (((((0 : Int32) + (c5 - (48 : Int32))) * (10 : Int32)) + (c6 - (48 : Int32))).toInt64) w24))) :
    ∃ (T' : State) (locs' : List Loc) (h' : Heap) (b1 : Addr) (b27 : Addr), Stand p l e room_1 s m args below meth c T' locs' 8 51 ∧ Fr n0 locs' ∧ T'.heap = h' ∧ Keep h0 h' [] ∧ h0.size ≤ b1 ∧ h0.size ≤ b27 ∧ b1 ≠ b27 ∧ Exa Z h' b1 "java/lang/String" ∧ own_Str Z h' h'.size b1 [c0, c1, c2, c3, c4, c5, c6] ∧ Exa Z h' b27 "java/time/YearMonth" ∧ Fld Z h' b27 "java/time/YearMonth" "month" "I" (.int ((((0 : Int32) + (c5 - (48 : Int32))) * (10 : Int32)) + (c6 - (48 : Int32)))) ∧ Fld Z h' b27 "java/time/YearMonth" "year" "I" (.int ((((((((0 : Int32) + (c0 - (48 : Int32))) * (10 : Int32)) + (c1 - (48 : Int32))) * (10 : Int32)) + (c2 - (48 : Int32))) * (10 : Int32)) + (c3 - (48 : Int32)))) ∧
      ∀ target, Steps p.tables e below (T'.setTop (mkF m 299 #[.val (.int p1), .val (.long q2), .second, .val (.long q3), .second, .val (.int p4), .val (.int c0), .val (.int c1), .val (.int c2), .val (.int c3), .val (.int c4), .val (.int c5), .val (.int c6), .val (.int c7), .val (.ref b14), .val (.ref b15), .val (.ref b16), .val (.ref b17), .val (.int (p1 &&& (3 : Int32))), .val (.ref b1), .val (.ref b27), .unset, .unset, .unset] [])) target → Steps p.tables e below (T0.setTop (mkF m 217 #[.val (.int p1), .val (.long q2), .second, .val (.long q3), .second, .val (.int p4), .val (.int c0), .val (.int c1), .val (.int c2), .val (.int c3), .val (.int c4), .val (.int c5), .val (.int c6), .val (.int c7), .val (.ref b14), .val (.ref b15), .val (.ref b16), .val (.ref b17), .unset, .unset, .unset, .unset, .unset, .unset] [])) target := by
  have Z0 : n0 ≤ h0.size := O0.1 ▸ O0.2.1
  obtain ⟨T1, h1, X1, e1, E1, A1, D1, -, st1⟩ := newO X0 hx hZ hown (own_w hw 9 rfl) (own_w hw 10 rfl) (own_w hw 11 rfl) e0 (g := (mkF m 227 #[.val (.int p1), .val (.long q2), .second, .val (.long q3), .second, .val (.int p4), .val (.int c0), .val (.int c1), .val (.int c2), .val (.int c3), .val (.int c4), .val (.int c5), .val (.int c6), .val (.int c7), .val (.ref b14), .val (.ref b15), .val (.ref b16), .val (.ref b17), .val (.int (p1 &&& (3 : Int32))), .unset, .unset, .unset, .unset, .unset] [])) rfl (hb hby at_227) (by decide) (by decide)
  obtain ⟨b1, g1⟩ : ∃ z, z = h0.size := ⟨_, rfl⟩
  rw [← g1] at A1 D1 st1
  have g_b1 : n0 ≤ b1 := Nat.le_trans (Nat.le_trans Z0 (Keep.refl h0 []).1) (Nat.le_of_eq g1.symm)
  have sz_b1 : h0.size ≤ b1 := Nat.le_trans (Keep.refl h0 []).1 (Nat.le_of_eq g1.symm)
  have K2 : Keep h0 h1 [] := (Keep.refl h0 []).ext E1
  have O3 : Old Z n0 h1 := O0.ext E1
  have F_coder_b1 : Fld Z h1 b1 "java/lang/String" "coder" "B" (.int 0) := D1 (Or.inr (own_w hw 54 rfl)) (ty := .byte) (by decide)
  have F_value_b1 : Fld Z h1 b1 "java/lang/String" "value" "[B" .null := D1 (Or.inr (own_w hw 56 rfl)) (ty := (.array .byte)) (by decide)
  replace X1 := X1.more (cells' := 5) (slots' := 25) (by decide) (by decide)
  have f4 := (HV_b16.ext E1)
  obtain ⟨vr5, _, ⟨T5, L5, k5, n5⟩, -, X5, ⟨Lc5, hQ5, l5, y5, z5⟩, st5⟩ := X1.specialBack hx (y := (⟨"java/lang/String", "<init>", "([C)V"⟩ : MethodName)) rfl hown (mvT hZ (own_w hw 12 rfl)) (mvT hZ (own_w hw 13 rfl)) (mvT hZ (own_w hw 14 rfl)) (by decide) (backOf (W := 1) (rm3 l Z a0 hw [] b1 b16 k0 ((7 : Int32)) ([c0, c1, c2, c3, c4, c5, c6]) zC h1 n0 O3 A1 F_value_b1 F_coder_b1 f4 S_COMPACT_STRINGS S__assertionsDisabled S_HI_BYTE_SHIFT S_LO_BYTE_SHIFT g_b1 h233_hz (rfl : (7 : Int32) = Int32.ofNat [c0, c1, c2, c3, c4, c5, c6].length) (Nat.le_of_ble_eq_true rfl) (Nat.le_of_ble_eq_true rfl) h233_hcs) hZ (own_w hw 14 rfl) (own_w hw 11 rfl) (by decide) (by decide)) (g := (mkF m 233 #[.val (.int p1), .val (.long q2), .second, .val (.long q3), .second, .val (.int p4), .val (.int c0), .val (.int c1), .val (.int c2), .val (.int c3), .val (.int c4), .val (.int c5), .val (.int c6), .val (.int c7), .val (.ref b14), .val (.ref b15), .val (.ref b16), .val (.ref b17), .val (.int (p1 &&& (3 : Int32))), .unset, .unset, .unset, .unset, .unset] [(.ref b16), (.ref b1), (.ref b1)])) rfl (by rw [hml]; rfl) (Steps.refl _) (a := b1) (argsL := [(.ref b16)]) (rest := [(.ref b1)]) (lenOf pd_26 rfl) rfl (by show 2 * 0 + _ ≤ _; exact Nat.le_of_eq rfl) (hb hby at_233) (fun _ _ => ⟨rfl, e1, (by decide : 5 + 2 ≤ _), (by decide : 25 + 24 ≤ _)⟩)
  dsimp only [Pt.U, Pt.locs, Pt.cells, Pt.slots] at X5 l5 y5 z5 st5 hQ5
  subst l5 y5 z5
  obtain ⟨rfl, N5q, K5, Y5_0, Y5_1⟩ := hQ5
  have N5 := Fr.app N0 N5q
  replace X5 := X5.more (cells' := 7) (slots' := 49) (by decide) (by decide)
  have K6 : Keep h0 T5.heap [] := K2.trans K5 (allS (Or.inr sz_b1) all0)
  have O7 : Old Z n0 T5.heap := O3.keep K5 (allS g_b1 all0)
  have f10 := ((HF_w8_range.ext E1).keep K5 (ninS (Nat.ne_of_lt (Nat.lt_of_lt_of_le HF_w8_range.lt (Nat.le_of_eq g1.symm))) nin0))
  have f11 := ((HE_w8.ext E1).keep K5)
  have f13 := ((HF_w9_minSmallest.ext E1).keep K5 (ninS (Nat.ne_of_lt (Nat.lt_of_lt_of_le HF_w9_minSmallest.lt (Nat.le_of_eq g1.symm))) nin0))
  have f14 := ((HE_w9.ext E1).keep K5)
  have f16 := ((HF_w9_maxLargest.ext E1).keep K5 (ninS (Nat.ne_of_lt (Nat.lt_of_lt_of_le HF_w9_minSmallest.lt (Nat.le_of_eq g1.symm))) nin0))
  have f19 := ((HF_w17_range.ext E1).keep K5 (ninS (Nat.ne_of_lt (Nat.lt_of_lt_of_le HF_w17_range.lt (Nat.le_of_eq g1.symm))) nin0))
  have f20 := ((HE_w17.ext E1).keep K5)
  have f22 := ((HF_w18_minSmallest.ext E1).keep K5 (ninS (Nat.ne_of_lt (Nat.lt_of_lt_of_le HF_w18_minSmallest.lt (Nat.le_of_eq g1.symm))) nin0))
  have f23 := ((HE_w18.ext E1).keep K5)
  have f25 := ((HF_w18_maxLargest.ext E1).keep K5 (ninS (Nat.ne_of_lt (Nat.lt_of_lt_of_le HF_w18_minSmallest.lt (Nat.le_of_eq g1.symm))) nin0))
  obtain ⟨vr26, _, ⟨T26, L26, k26, n26⟩, -, X26, ⟨Lc26, hQ26, l26, y26, z26⟩, st26⟩ := Jvm.LawKit.callS X5 hx (y := (⟨"com/example/vestwright/vestwright/Values", "month", "(Ljava/lang/String;)Ljava/time/YearMonth;"⟩ : MethodName)) hown (mvT hZ (own_w hw 57 rfl)) (mvT hZ (own_w hw 58 rfl)) (mvT hZ (own_w hw 59 rfl)) (mvT hZ (own_w hw 60 rfl)) (by decide) (backOf (W := 0) (rm14O l Z a0 hw [] b1 c0 c1 c2 c3 c4 c5 c6 zC fm w8 w9 w12 w15 w17 w18 w21 w24 T5.heap n0 O7 (own_Str.top Y5_1) S_COMPACT_STRINGS h233_hz S_SIOOBE_FORMATTER S__assertionsDisabled S_HI_BYTE_SHIFT S_LO_BYTE_SHIFT h294_h11_hrfm h294_hc16 h294_h22_h12_hc18 h294_h22_h12_hc25 h294_h22_h12_hc18_1 h294_h22_h12_hc25_1 h294_h22_h12_hc18_2 h294_h22_h12_hc25_2 h294_h22_h12_hc18_3 h294_h22_h12_hc25_3 h294_h32_h12_hc18 h294_h32_h12_hc25 h294_h32_h12_hc18_1 h294_h32_h12_hc25_1 h294_hc50 h294_hc56 S_YEAR f10 f11 f13 f14 f16 S_MONTH_OF_YEAR f19 f20 f22 f23 f25 h294_h68_h5_h6_h2_hc6 h294_h68_h5_h6_h2_hc15 h294_h68_h14_h6_h2_hc6 h294_h68_h14_h6_h2_hc15) hZ (own_w hw 60 rfl) (own_w hw 59 rfl) (by decide) (by decide)) (g := (mkF m 294 #[.val (.int p1), .val (.long q2), .second, .val (.long q3), .second, .val (.int p4), .val (.int c0), .val (.int c1), .val (.int c2), .val (.int c3), .val (.int c4), .val (.int c5), .val (.int c6), .val (.int c7), .val (.ref b14), .val (.ref b15), .val (.ref b16), .val (.ref b17), .val (.int (p1 &&& (3 : Int32))), .val (.ref b1), .unset, .unset, .unset, .unset] [(.ref b1)])) rfl (by rw [hml]; rfl) (argsL := [(.ref b1)]) (rest := []) (lenOf pd_19 rfl) rfl (by show 2 * 0 + _ ≤ _; exact Nat.le_of_eq rfl) (hb hby at_294) (fun _ _ => ⟨rfl, rfl, (by decide : 7 + 1 ≤ _), (by decide : 49 + 2 ≤ _)⟩)
  dsimp only [Pt.U, Pt.locs, Pt.cells, Pt.slots] at X26 l26 y26 z26 st26 hQ26
  subst l26 y26 z26
  obtain ⟨b27, rfl, N26q, K26, Y26_z0, Y26_0, Y26_1, Y26_2⟩ := hQ26
  have N26 := Fr.app N5 N26q
  replace X26 := X26.more (cells' := 8) (slots' := 51) (by decide) (by decide)
  have g_b27 : n0 ≤ b27 := Nat.le_trans (Nat.le_trans Z0 K6.1) Y26_z0
  have sz_b27 : h0.size ≤ b27 := Nat.le_trans K6.1 Y26_z0
  have K28 : Keep h0 T26.heap [] := K6.trans K26 all0
  have O29 : Old Z n0 T26.heap := O7.keep K26 all0
  have f30 := ((own_Str.exa Y5_1).keep K26)
  have f31 := (own_Str.keep Y5_1 K26 all0)
  refine ⟨T26, _, _, b1, b27, X26, N26, rfl, K28, sz_b1, sz_b27, (Nat.ne_of_lt (Nat.lt_of_lt_of_le (Nat.lt_of_lt_of_le A1.lt K5.1) Y26_z0)), f30, (own_Str.top f31), Y26_0, Y26_1, Y26_2, fun target kt => ?_⟩
  show Steps p.tables e below (T0.setTop (mkF m 217 #[.val (.int p1), .val (.long q2), .second, .val (.long q3), .second, .val (.int p4), .val (.int c0), .val (.int c1), .val (.int c2), .val (.int c3), .val (.int c4), .val (.int c5), .val (.int c6), .val (.int c7), .val (.ref b14), .val (.ref b15), .val (.ref b16), .val (.ref b17), .unset, .unset, .unset, .unset, .unset, .unset] [])) _
  refine XS.iloadN X0.here hx rfl (hb hby at_217) rfl ?_
  refine XS.iconst X0.here hx rfl (hb hby at_218) ?_
  refine XS.iand X0.here hx rfl (hb hby at_219) rfl ?_
  refine XS.istore X0.here hx rfl (hb hby at_220) rfl (l' := #[.val (.int p1), .val (.long q2), .second, .val (.long q3), .second, .val (.int p4), .val (.int c0), .val (.int c1), .val (.int c2), .val (.int c3), .val (.int c4), .val (.int c5), .val (.int c6), .val (.int c7), .val (.ref b14), .val (.ref b15), .val (.ref b16), .val (.ref b17), .val (.int (p1 &&& (3 : Int32))), .unset, .unset, .unset, .unset, .unset]) rfl ?_
  refine XS.iload X0.here hx rfl (hb hby at_222) rfl ?_
  refine XS.ifNo X0.here hx rfl (hb hby at_224) rfl ((if0 _ _).trans (teq hc224).2) ?_
  refine st1 _ ?_
  refine XS.dup X1.here hx rfl (hb hby at_230) rfl rfl ?_
  refine XS.aload X1.here hx rfl (hb hby at_231) rfl rfl ?_
  refine st5.trans ?_
  refine XS.astore X5.here hx rfl (hb hby at_236) rfl rfl (l' := #[.val (.int p1), .val (.long q2), .second, .val (.long q3), .second, .val (.int p4), .val (.int c0), .val (.int c1), .val (.int c2), .val (.int c3), .val (.int c4), .val (.int c5), .val (.int c6), .val (.int c7), .val (.ref b14), .val (.ref b15), .val (.ref b16), .val (.ref b17), .val (.int (p1 &&& (3 : Int32))), .val (.ref b1), .unset, .unset, .unset, .unset]) rfl ?_
  refine XS.goto X5.here hx rfl (pc0 := 238) (pc' := 292) rfl (hb hby at_238) (by decide) (by decide) ?_
  refine XS.aload X5.here hx rfl (hb hby at_292) rfl rfl ?_
  refine st26 _ ?_
  refine XS.astore X26.here hx rfl (hb hby at_297) rfl rfl (l' := #[.val (.int p1), .val (.long q2), .second, .val (.long q3), .second, .val (.int p4), .val (.int c0), .val (.int c1), .val (.int c2), .val (.int c3), .val (.int c4), .val (.int c5), .val (.int c6), .val (.int c7), .val (.ref b14), .val (.ref b15), .val (.ref b16), .val (.ref b17), .val (.int (p1 &&& (3 : Int32))), .val (.ref b1), .val (.ref b27), .unset, .unset, .unset]) rfl ?_
  exact kt
theorem tts {p : Program} {l : Launch} {e : Env} {s : State} {m : MethodId} {args : Array Value} {below : List Frame} {meth : Method} {c : Code} {T0 : State} {locs : List Loc} {Z : State} {a0 : Array Value} (hw : ∀ d ∈ tables_1, d.before a0 Z = true) (s0 s1 s2 s3 s4 s5 : Slot) (c0 c1 c2 c3 c4 c5 c6 : Int32) (s13 s14 s15 s16 s17 : Slot) (v18 : Int32) (s19 s20 : Slot) (h0 : Heap) (n0 : Nat) (X0 : Stand p l e room_1 s m args below meth c T0 locs 10 60) (N0 : Fr n0 locs) (hx : p.tables.exec = Jvm.exec) (hZ : Z.Warmed39 s.vm) (hby : c.code = code) (hml : c.maxLocals = 24) (hown : s.vm.findClass "com/example/vestwright/vestwright/ValuesMonthPinLaw" = some m.cls) (e0 : T0.heap = h0) (O0 : Old Z n0 h0) (hc301 : ¬ (v18 = (0 : Int32))) :
    ∃ (T' : State) (locs' : List Loc), Stand p l e room_1 s m args below meth c T' locs' 10 60 ∧ Fr n0 locs' ∧ T'.heap = h0 ∧
      ∀ target, Steps p.tables e below (T'.setTop (mkF m 364 #[s0, s1, s2, s3, s4, s5, .val (.int c0), .val (.int c1), .val (.int c2), .val (.int c3), .val (.int c4), .val (.int c5), .val (.int c6), s13, s14, s15, s16, s17, .val (.int v18), s19, s20, .unset, .unset, .unset] [(.int 0)])) target → Steps p.tables e below (T0.setTop (mkF m 299 #[s0, s1, s2, s3, s4, s5, .val (.int c0), .val (.int c1), .val (.int c2), .val (.int c3), .val (.int c4), .val (.int c5), .val (.int c6), s13, s14, s15, s16, s17, .val (.int v18), s19, s20, .unset, .unset, .unset] [])) target := by
  have Z0 : n0 ≤ h0.size := O0.1 ▸ O0.2.1
  refine ⟨T0, _, X0, N0, e0, fun target kt => ?_⟩
  show Steps p.tables e below (T0.setTop (mkF m 299 #[s0, s1, s2, s3, s4, s5, .val (.int c0), .val (.int c1), .val (.int c2), .val (.int c3), .val (.int c4), .val (.int c5), .val (.int c6), s13, s14, s15, s16, s17, .val (.int v18), s19, s20, .unset, .unset, .unset] [])) _
  refine XS.iload X0.here hx rfl (hb hby at_299) rfl ?_
  refine XS.ifYes X0.here hx rfl (pc0 := 301) (pc' := 363) rfl (hb hby at_301) rfl ((if0 _ _).trans (feq hc301).2) (by decide) (by decide) ?_
  refine XS.iconst X0.here hx rfl (hb hby at_363) ?_
  exact kt
theorem pd_6 : parseMethodDescriptor "(C)Z" = some ⟨[.char], some .boolean⟩ := by decide +kernel
theorem tta {p : Program} {l : Launch} {e : Env} {s : State} {m : MethodId} {args : Array Value} {below : List Frame} {meth : Method} {c : Code} {T0 : State} {locs : List Loc} {Z : State} {a0 : Array Value} (hw : ∀ d ∈ tables_1, d.before a0 Z = true) (s0 s1 s2 s3 s4 s5 : Slot) (c0 c1 c2 c3 c4 c5 c6 : Int32) (s13 s14 s15 s16 s17 : Slot) (v18 : Int32) (s19 s20 : Slot) (h0 : Heap) (n0 : Nat) (X0 : Stand p l e room_1 s m args below meth c T0 locs 10 60) (N0 : Fr n0 locs) (hx : p.tables.exec = Jvm.exec) (hZ : Z.Warmed39 s.vm) (hby : c.code = code) (hml : c.maxLocals = 24) (hown : s.vm.findClass "com/example/vestwright/vestwright/ValuesMonthPinLaw" = some m.cls) (e0 : T0.heap = h0) (O0 : Old Z n0 h0) (hc301 : v18 = (0 : Int32)) (hc308 : c4 = (45 : Int32)) (h313_hc3 : ¬ (c0 < (48 : Int32))) (h313_hc9 : ¬ ((57 : Int32) < c0)) (h321_hc3 : ¬ (c1 < (48 : Int32))) (h321_hc9 : ¬ ((57 : Int32) < c1)) (h329_hc3 : ¬ (c2 < (48 : Int32))) (h329_hc9 : ¬ ((57 : Int32) < c2)) (h337_hc3 : ¬ (c3 < (48 : Int32))) (h337_hc9 : ¬ ((57 : Int32) < c3)) (h345_hc3 : ¬ (c5 < (48 : Int32))) (h345_hc9 : ¬ ((57 : Int32) < c5)) (h353_hc3 : ¬ (c6 < (48 : Int32))) (h353_hc9 : ¬ ((57 : Int32) < c6)) :
    ∃ (T' : State) (locs' : List Loc), Stand p l e room_1 s m args below meth c T' locs' 10 60 ∧ Fr n0 locs' ∧ T'.heap = h0 ∧
      ∀ target, Steps p.tables e below (T'.setTop (mkF m 364 #[s0, s1, s2, s3, s4, s5, .val (.int c0), .val (.int c1), .val (.int c2), .val (.int c3), .val (.int c4), .val (.int c5), .val (.int c6), s13, s14, s15, s16, s17, .val (.int v18), s19, s20, .unset, .unset, .unset] [(.int 1)])) target → Steps p.tables e below (T0.setTop (mkF m 299 #[s0, s1, s2, s3, s4, s5, .val (.int c0), .val (.int c1), .val (.int c2), .val (.int c3), .val (.int c4), .val (.int c5), .val (.int c6), s13, s14, s15, s16, s17, .val (.int v18), s19, s20, .unset, .unset, .unset] [])) target := by
  have Z0 : n0 ≤ h0.size := O0.1 ▸ O0.2.1
  obtain ⟨vr1, _, ⟨T1, L1, k1, n1⟩, -, X1, ⟨Lc1, hQ1, l1, y1, z1⟩, st1⟩ := Jvm.LawKit.callS X0 hx (y := (⟨"com/example/vestwright/vestwright/ValuesMonthPinLaw", "dig", "(C)Z"⟩ : MethodName)) hown (mvT hZ (own_w hw 109 rfl)) (mvT hZ (own_w hw 110 rfl)) (mvT hZ (own_w hw 2 rfl)) (mvT hZ (own_w hw 111 rfl)) (by decide) (backOf (W := 0) (rm26T l Z a0 hw [] c0 h0 n0 O0 h313_hc3 h313_hc9) hZ (own_w hw 111 rfl) (own_w hw 2 rfl) (by decide) (by decide)) (g := (mkF m 313 #[s0, s1, s2, s3, s4, s5, .val (.int c0), .val (.int c1), .val (.int c2), .val (.int c3), .val (.int c4), .val (.int c5), .val (.int c6), s13, s14, s15, s16, s17, .val (.int v18), s19, s20, .unset, .unset, .unset] [(.int c0)])) rfl (by rw [hml]; rfl) (argsL := [(.int c0)]) (rest := []) (lenOf pd_6 rfl) rfl (by show 2 * 0 + _ ≤ _; exact Nat.le_of_eq rfl) (hb hby at_313) (fun _ _ => ⟨rfl, e0, (by decide : 10 + 0 ≤ _), (by decide : 60 + 0 ≤ _)⟩)
  dsimp only [Pt.U, Pt.locs, Pt.cells, Pt.slots] at X1 l1 y1 z1 st1 hQ1
  subst l1 y1 z1
  obtain ⟨rfl, N1q, e1⟩ := hQ1
  have N1 := Fr.app N0 N1q
  replace X1 := X1.more (cells' := 10) (slots' := 60) (by decide) (by decide)
  obtain ⟨vr2, _, ⟨T2, L2, k2, n2⟩, -, X2, ⟨Lc2, hQ2, l2, y2, z2⟩, st2⟩ := Jvm.LawKit.callS X1 hx (y := (⟨"com/example/vestwright/vestwright/ValuesMonthPinLaw", "dig", "(C)Z"⟩ : MethodName)) hown (mvT hZ (own_w hw 109 rfl)) (mvT hZ (own_w hw 110 rfl)) (mvT hZ (own_w hw 2 rfl)) (mvT hZ (own_w hw 111 rfl)) (by decide) (backOf (W := 0) (rm26T l Z a0 hw [] c1 h0 n0 O0 h321_hc3 h321_hc9) hZ (own_w hw 111 rfl) (own_w hw 2 rfl) (by decide) (by decide)) (g := (mkF m 321 #[s0, s1, s2, s3, s4, s5, .val (.int c0), .val (.int c1), .val (.int c2), .val (.int c3), .val (.int c4), .val (.int c5), .val (.int c6), s13, s14, s15, s16, s17, .val (.int v18), s19, s20, .unset, .unset, .unset] [(.int c1)])) rfl (by rw [hml]; rfl) (argsL := [(.int c1)]) (rest := []) (lenOf pd_6 rfl) rfl (by show 2 * 0 + _ ≤ _; exact Nat.le_of_eq rfl) (hb hby at_321) (fun _ _ => ⟨rfl, e1, (by decide : 10 + 0 ≤ _), (by decide : 60 + 0 ≤ _)⟩)
  dsimp only [Pt.U, Pt.locs, Pt.cells, Pt.slots] at X2 l2 y2 z2 st2 hQ2
  subst l2 y2 z2
  obtain ⟨rfl, N2q, e2⟩ := hQ2
  have N2 := Fr.app N1 N2q
  replace X2 := X2.more (cells' := 10) (slots' := 60) (by decide) (by decide)
  obtain ⟨vr3, _, ⟨T3, L3, k3, n3⟩, -, X3, ⟨Lc3, hQ3, l3, y3, z3⟩, st3⟩ := Jvm.LawKit.callS X2 hx (y := (⟨"com/example/vestwright/vestwright/ValuesMonthPinLaw", "dig", "(C)Z"⟩ : MethodName)) hown (mvT hZ (own_w hw 109 rfl)) (mvT hZ (own_w hw 110 rfl)) (mvT hZ (own_w hw 2 rfl)) (mvT hZ (own_w hw 111 rfl)) (by decide) (backOf (W := 0) (rm26T l Z a0 hw [] c2 h0 n0 O0 h329_hc3 h329_hc9) hZ (own_w hw 111 rfl) (own_w hw 2 rfl) (by decide) (by decide)) (g := (mkF m 329 #[s0, s1, s2, s3, s4, s5, .val (.int c0), .val (.int c1), .val (.int c2), .val (.int c3), .val (.int c4), .val (.int c5), .val (.int c6), s13, s14, s15, s16, s17, .val (.int v18), s19, s20, .unset, .unset, .unset] [(.int c2)])) rfl (by rw [hml]; rfl) (argsL := [(.int c2)]) (rest := []) (lenOf pd_6 rfl) rfl (by show 2 * 0 + _ ≤ _; exact Nat.le_of_eq rfl) (hb hby at_329) (fun _ _ => ⟨rfl, e2, (by decide : 10 + 0 ≤ _), (by decide : 60 + 0 ≤ _)⟩)
  dsimp only [Pt.U, Pt.locs, Pt.cells, Pt.slots] at X3 l3 y3 z3 st3 hQ3
  subst l3 y3 z3
  obtain ⟨rfl, N3q, e3⟩ := hQ3
  have N3 := Fr.app N2 N3q
  replace X3 := X3.more (cells' := 10) (slots' := 60) (by decide) (by decide)
  obtain ⟨vr4, _, ⟨T4, L4, k4, n4⟩, -, X4, ⟨Lc4, hQ4, l4, y4, z4⟩, st4⟩ := Jvm.LawKit.callS X3 hx (y := (⟨"com/example/vestwright/vestwright/ValuesMonthPinLaw", "dig", "(C)Z"⟩ : MethodName)) hown (mvT hZ (own_w hw 109 rfl)) (mvT hZ (own_w hw 110 rfl)) (mvT hZ (own_w hw 2 rfl)) (mvT hZ (own_w hw 111 rfl)) (by decide) (backOf (W := 0) (rm26T l Z a0 hw [] c3 h0 n0 O0 h337_hc3 h337_hc9) hZ (own_w hw 111 rfl) (own_w hw 2 rfl) (by decide) (by decide)) (g := (mkF m 337 #[s0, s1, s2, s3, s4, s5, .val (.int c0), .val (.int c1), .val (.int c2), .val (.int c3), .val (.int c4), .val (.int c5), .val (.int c6), s13, s14, s15, s16, s17, .val (.int v18), s19, s20, .unset, .unset, .unset] [(.int c3)])) rfl (by rw [hml]; rfl) (argsL := [(.int c3)]) (rest := []) (lenOf pd_6 rfl) rfl (by show 2 * 0 + _ ≤ _; exact Nat.le_of_eq rfl) (hb hby at_337) (fun _ _ => ⟨rfl, e3, (by decide : 10 + 0 ≤ _), (by decide : 60 + 0 ≤ _)⟩)
  dsimp only [Pt.U, Pt.locs, Pt.cells, Pt.slots] at X4 l4 y4 z4 st4 hQ4
  subst l4 y4 z4
  obtain ⟨rfl, N4q, e4⟩ := hQ4
  have N4 := Fr.app N3 N4q
  replace X4 := X4.more (cells' := 10) (slots' := 60) (by decide) (by decide)
  obtain ⟨vr5, _, ⟨T5, L5, k5, n5⟩, -, X5, ⟨Lc5, hQ5, l5, y5, z5⟩, st5⟩ := Jvm.LawKit.callS X4 hx (y := (⟨"com/example/vestwright/vestwright/ValuesMonthPinLaw", "dig", "(C)Z"⟩ : MethodName)) hown (mvT hZ (own_w hw 109 rfl)) (mvT hZ (own_w hw 110 rfl)) (mvT hZ (own_w hw 2 rfl)) (mvT hZ (own_w hw 111 rfl)) (by decide) (backOf (W := 0) (rm26T l Z a0 hw [] c5 h0 n0 O0 h345_hc3 h345_hc9) hZ (own_w hw 111 rfl) (own_w hw 2 rfl) (by decide) (by decide)) (g := (mkF m 345 #[s0, s1, s2, s3, s4, s5, .val (.int c0), .val (.int c1), .val (.int c2), .val (.int c3), .val (.int c4), .val (.int c5), .val (.int c6), s13, s14, s15, s16, s17, .val (.int v18), s19, s20, .unset, .unset, .unset] [(.int c5)])) rfl (by rw [hml]; rfl) (argsL := [(.int c5)]) (rest := []) (lenOf pd_6 rfl) rfl (by show 2 * 0 + _ ≤ _; exact Nat.le_of_eq rfl) (hb hby at_345) (fun _ _ => ⟨rfl, e4, (by decide : 10 + 0 ≤ _), (by decide : 60 + 0 ≤ _)⟩)
  dsimp only [Pt.U, Pt.locs, Pt.cells, Pt.slots] at X5 l5 y5 z5 st5 hQ5
  subst l5 y5 z5
  obtain ⟨rfl, N5q, e5⟩ := hQ5
  have N5 := Fr.app N4 N5q
  replace X5 := X5.more (cells' := 10) (slots' := 60) (by decide) (by decide)
  obtain ⟨vr6, _, ⟨T6, L6, k6, n6⟩, -, X6, ⟨Lc6, hQ6, l6, y6, z6⟩, st6⟩ := Jvm.LawKit.callS X5 hx (y := (⟨"com/example/vestwright/vestwright/ValuesMonthPinLaw", "dig", "(C)Z"⟩ : MethodName)) hown (mvT hZ (own_w hw 109 rfl)) (mvT hZ (own_w hw 110 rfl)) (mvT hZ (own_w hw 2 rfl)) (mvT hZ (own_w hw 111 rfl)) (by decide) (backOf (W := 0) (rm26T l Z a0 hw [] c6 h0 n0 O0 h353_hc3 h353_hc9) hZ (own_w hw 111 rfl) (own_w hw 2 rfl) (by decide) (by decide)) (g := (mkF m 353 #[s0, s1, s2, s3, s4, s5, .val (.int c0), .val (.int c1), .val (.int c2), .val (.int c3), .val (.int c4), .val (.int c5), .val (.int c6), s13, s14, s15, s16, s17, .val (.int v18), s19, s20, .unset, .unset, .unset] [(.int c6)])) rfl (by rw [hml]; rfl) (argsL := [(.int c6)]) (rest := []) (lenOf pd_6 rfl) rfl (by show 2 * 0 + _ ≤ _; exact Nat.le_of_eq rfl) (hb hby at_353) (fun _ _ => ⟨rfl, e5, (by decide : 10 + 0 ≤ _), (by decide : 60 + 0 ≤ _)⟩)
  dsimp only [Pt.U, Pt.locs, Pt.cells, Pt.slots] at X6 l6 y6 z6 st6 hQ6
  subst l6 y6 z6
  obtain ⟨rfl, N6q, e6⟩ := hQ6
  have N6 := Fr.app N5 N6q
  replace X6 := X6.more (cells' := 10) (slots' := 60) (by decide) (by decide)
  refine ⟨T6, _, X6, N6, e6, fun target kt => ?_⟩
  show Steps p.tables e below (T0.setTop (mkF m 299 #[s0, s1, s2, s3, s4, s5, .val (.int c0), .val (.int c1), .val (.int c2), .val (.int c3), .val (.int c4), .val (.int c5), .val (.int c6), s13, s14, s15, s16, s17, .val (.int v18), s19, s20, .unset, .unset, .unset] [])) _
  refine XS.iload X0.here hx rfl (hb hby at_299) rfl ?_
  refine XS.ifNo X0.here hx rfl (hb hby at_301) rfl ((if0 _ _).trans (teq hc301).2) ?_
  refine XS.iload X0.here hx rfl (hb hby at_304) rfl ?_
  refine XS.bipush X0.here hx rfl (hb hby at_306) ?_
  refine XS.icmpNo X0.here hx rfl (hb hby at_308) rfl (teq hc308).2 ?_
  refine XS.iload X0.here hx rfl (hb hby at_311) rfl ?_
  refine st1 _ ?_
  refine XS.ifNo X1.here hx rfl (hb hby at_316) rfl ((if0 _ _).trans (feq (by decide : ¬ ((1 : Int32) = (0 : Int32)))).1) ?_
  refine XS.iload X1.here hx rfl (hb hby at_319) rfl ?_
  refine st2 _ ?_
  refine XS.ifNo X2.here hx rfl (hb hby at_324) rfl ((if0 _ _).trans (feq (by decide : ¬ ((1 : Int32) = (0 : Int32)))).1) ?_
  refine XS.iload X2.here hx rfl (hb hby at_327) rfl ?_
  refine st3 _ ?_
  refine XS.ifNo X3.here hx rfl (hb hby at_332) rfl ((if0 _ _).trans (feq (by decide : ¬ ((1 : Int32) = (0 : Int32)))).1) ?_
  refine XS.iload X3.here hx rfl (hb hby at_335) rfl ?_
  refine st4 _ ?_
  refine XS.ifNo X4.here hx rfl (hb hby at_340) rfl ((if0 _ _).trans (feq (by decide : ¬ ((1 : Int32) = (0 : Int32)))).1) ?_
  refine XS.iload X4.here hx rfl (hb hby at_343) rfl ?_
  refine st5 _ ?_
  refine XS.ifNo X5.here hx rfl (hb hby at_348) rfl ((if0 _ _).trans (feq (by decide : ¬ ((1 : Int32) = (0 : Int32)))).1) ?_
  refine XS.iload X5.here hx rfl (hb hby at_351) rfl ?_
  refine st6 _ ?_
  refine XS.ifNo X6.here hx rfl (hb hby at_356) rfl ((if0 _ _).trans (feq (by decide : ¬ ((1 : Int32) = (0 : Int32)))).1) ?_
  refine XS.iconst X6.here hx rfl (hb hby at_359) ?_
  refine XS.goto X6.here hx rfl (pc0 := 360) (pc' := 364) rfl (hb hby at_360) (by decide) (by decide) ?_
  exact kt
theorem ttd {p : Program} {l : Launch} {e : Env} {s : State} {m : MethodId} {args : Array Value} {below : List Frame} {meth : Method} {c : Code} {T0 : State} {locs : List Loc} {Z : State} {a0 : Array Value} (hw : ∀ d ∈ tables_1, d.before a0 Z = true) (s0 s1 s2 s3 s4 s5 : Slot) (c0 c1 c2 c3 c4 c5 c6 : Int32) (s13 s14 s15 s16 s17 : Slot) (v18 : Int32) (s19 s20 : Slot) (h0 : Heap) (n0 : Nat) (X0 : Stand p l e room_1 s m args below meth c T0 locs 10 60) (N0 : Fr n0 locs) (hx : p.tables.exec = Jvm.exec) (hZ : Z.Warmed39 s.vm) (hby : c.code = code) (hml : c.maxLocals = 24) (hown : s.vm.findClass "com/example/vestwright/vestwright/ValuesMonthPinLaw" = some m.cls) (e0 : T0.heap = h0) (O0 : Old Z n0 h0) (hc301 : v18 = (0 : Int32)) (hc308 : ¬ (c4 = (45 : Int32))) :
    ∃ (T' : State) (locs' : List Loc), Stand p l e room_1 s m args below meth c T' locs' 10 60 ∧ Fr n0 locs' ∧ T'.heap = h0 ∧
      ∀ target, Steps p.tables e below (T'.setTop (mkF m 364 #[s0, s1, s2, s3, s4, s5, .val (.int c0), .val (.int c1), .val (.int c2), .val (.int c3), .val (.int c4), .val (.int c5), .val (.int c6), s13, s14, s15, s16, s17, .val (.int v18), s19, s20, .unset, .unset, .unset] [(.int 0)])) target → Steps p.tables e below (T0.setTop (mkF m 299 #[s0, s1, s2, s3, s4, s5, .val (.int c0), .val (.int c1), .val (.int c2), .val (.int c3), .val (.int c4), .val (.int c5), .val (.int c6), s13, s14, s15, s16, s17, .val (.int v18), s19, s20, .unset, .unset, .unset] [])) target := by
  have Z0 : n0 ≤ h0.size := O0.1 ▸ O0.2.1
  refine ⟨T0, _, X0, N0, e0, fun target kt => ?_⟩
  show Steps p.tables e below (T0.setTop (mkF m 299 #[s0, s1, s2, s3, s4, s5, .val (.int c0), .val (.int c1), .val (.int c2), .val (.int c3), .val (.int c4), .val (.int c5), .val (.int c6), s13, s14, s15, s16, s17, .val (.int v18), s19, s20, .unset, .unset, .unset] [])) _
  refine XS.iload X0.here hx rfl (hb hby at_299) rfl ?_
  refine XS.ifNo X0.here hx rfl (hb hby at_301) rfl ((if0 _ _).trans (teq hc301).2) ?_
  refine XS.iload X0.here hx rfl (hb hby at_304) rfl ?_
  refine XS.bipush X0.here hx rfl (hb hby at_306) ?_
  refine XS.icmpYes X0.here hx rfl (pc0 := 308) (pc' := 363) rfl (hb hby at_308) rfl (feq hc308).2 (by decide) (by decide) ?_
  refine XS.iconst X0.here hx rfl (hb hby at_363) ?_
  exact kt
theorem ttd0 {p : Program} {l : Launch} {e : Env} {s : State} {m : MethodId} {args : Array Value} {below : List Frame} {meth : Method} {c : Code} {T0 : State} {locs : List Loc} {Z : State} {a0 : Array Value} (hw : ∀ d ∈ tables_1, d.before a0 Z = true) (s0 s1 s2 s3 s4 s5 : Slot) (c0 c1 c2 c3 c4 c5 c6 : Int32) (s13 s14 s15 s16 s17 : Slot) (v18 : Int32) (s19 s20 : Slot) (h0 : Heap) (n0 : Nat) (X0 : Stand p l e room_1 s m args below meth c T0 locs 10 60) (N0 : Fr n0 locs) (hx : p.tables.exec = Jvm.exec) (hZ : Z.Warmed39 s.vm) (hby : c.code = code) (hml : c.maxLocals = 24) (hown : s.vm.findClass "com/example/vestwright/vestwright/ValuesMonthPinLaw" = some m.cls) (e0 : T0.heap = h0) (O0 : Old Z n0 h0) (hc301 : v18 = (0 : Int32)) (hc308 : c4 = (45 : Int32)) (h313_hd : ¬ own_dg c0) :
    ∃ (T' : State) (locs' : List Loc), Stand p l e room_1 s m args below meth c T' locs' 10 60 ∧ Fr n0 locs' ∧ T'.heap = h0 ∧
      ∀ target, Steps p.tables e below (T'.setTop (mkF m 364 #[s0, s1, s2, s3, s4, s5, .val (.int c0), .val (.int c1), .val (.int c2), .val (.int c3), .val (.int c4), .val (.int c5), .val (.int c6), s13, s14, s15, s16, s17, .val (.int v18), s19, s20, .unset, .unset, .unset] [(.int 0)])) target → Steps p.tables e below (T0.setTop (mkF m 299 #[s0, s1, s2, s3, s4, s5, .val (.int c0), .val (.int c1), .val (.int c2), .val (.int c3), .val (.int c4), .val (.int c5), .val (.int c6), s13, s14, s15, s16, s17, .val (.int v18), s19, s20, .unset, .unset, .unset] [])) target := by
  have Z0 : n0 ≤ h0.size := O0.1 ▸ O0.2.1
  obtain ⟨vr1, _, ⟨T1, L1, k1, n1⟩, -, X1, ⟨Lc1, hQ1, l1, y1, z1⟩, st1⟩ := Jvm.LawKit.callS X0 hx (y := (⟨"com/example/vestwright/vestwright/ValuesMonthPinLaw", "dig", "(C)Z"⟩ : MethodName)) hown (mvT hZ (own_w hw 109 rfl)) (mvT hZ (own_w hw 110 rfl)) (mvT hZ (own_w hw 2 rfl)) (mvT hZ (own_w hw 111 rfl)) (by decide) (backOf (W := 0) (rm26F l Z a0 hw [] c0 h0 n0 O0 h313_hd) hZ (own_w hw 111 rfl) (own_w hw 2 rfl) (by decide) (by decide)) (g := (mkF m 313 #[s0, s1, s2, s3, s4, s5, .val (.int c0), .val (.int c1), .val (.int c2), .val (.int c3), .val (.int c4), .val (.int c5), .val (.int c6), s13, s14, s15, s16, s17, .val (.int v18), s19, s20, .unset, .unset, .unset] [(.int c0)])) rfl (by rw [hml]; rfl) (argsL := [(.int c0)]) (rest := []) (lenOf pd_6 rfl) rfl (by show 2 * 0 + _ ≤ _; exact Nat.le_of_eq rfl) (hb hby at_313) (fun _ _ => ⟨rfl, e0, (by decide : 10 + 0 ≤ _), (by decide : 60 + 0 ≤ _)⟩)
  dsimp only [Pt.U, Pt.locs, Pt.cells, Pt.slots] at X1 l1 y1 z1 st1 hQ1
  subst l1 y1 z1
  obtain ⟨rfl, N1q, e1⟩ := hQ1
  have N1 := Fr.app N0 N1q
  replace X1 := X1.more (cells' := 10) (slots' := 60) (by decide) (by decide)
  refine ⟨T1, _, X1, N1, e1, fun target kt => ?_⟩
  show Steps p.tables e below (T0.setTop (mkF m 299 #[s0, s1, s2, s3, s4, s5, .val (.int c0), .val (.int c1), .val (.int c2), .val (.int c3), .val (.int c4), .val (.int c5), .val (.int c6), s13, s14, s15, s16, s17, .val (.int v18), s19, s20, .unset, .unset, .unset] [])) _
  refine XS.iload X0.here hx rfl (hb hby at_299) rfl ?_
  refine XS.ifNo X0.here hx rfl (hb hby at_301) rfl ((if0 _ _).trans (teq hc301).2) ?_
  refine XS.iload X0.here hx rfl (hb hby at_304) rfl ?_
  refine XS.bipush X0.here hx rfl (hb hby at_306) ?_
  refine XS.icmpNo X0.here hx rfl (hb hby at_308) rfl (teq hc308).2 ?_
  refine XS.iload X0.here hx rfl (hb hby at_311) rfl ?_
  refine st1 _ ?_
  refine XS.ifYes X1.here hx rfl (pc0 := 316) (pc' := 363) rfl (hb hby at_316) rfl ((if0 _ _).trans (teq (by decide : (0 : Int32) = (0 : Int32))).1) (by decide) (by decide) ?_
  refine XS.iconst X1.here hx rfl (hb hby at_363) ?_
  exact kt
theorem ttd1 {p : Program} {l : Launch} {e : Env} {s : State} {m : MethodId} {args : Array Value} {below : List Frame} {meth : Method} {c : Code} {T0 : State} {locs : List Loc} {Z : State} {a0 : Array Value} (hw : ∀ d ∈ tables_1, d.before a0 Z = true) (s0 s1 s2 s3 s4 s5 : Slot) (c0 c1 c2 c3 c4 c5 c6 : Int32) (s13 s14 s15 s16 s17 : Slot) (v18 : Int32) (s19 s20 : Slot) (h0 : Heap) (n0 : Nat) (X0 : Stand p l e room_1 s m args below meth c T0 locs 10 60) (N0 : Fr n0 locs) (hx : p.tables.exec = Jvm.exec) (hZ : Z.Warmed39 s.vm) (hby : c.code = code) (hml : c.maxLocals = 24) (hown : s.vm.findClass "com/example/vestwright/vestwright/ValuesMonthPinLaw" = some m.cls) (e0 : T0.heap = h0) (O0 : Old Z n0 h0) (hc301 : v18 = (0 : Int32)) (hc308 : c4 = (45 : Int32)) (h313_hc3 : ¬ (c0 < (48 : Int32))) (h313_hc9 : ¬ ((57 : Int32) < c0)) (h321_hd : ¬ own_dg c1) :
    ∃ (T' : State) (locs' : List Loc), Stand p l e room_1 s m args below meth c T' locs' 10 60 ∧ Fr n0 locs' ∧ T'.heap = h0 ∧
      ∀ target, Steps p.tables e below (T'.setTop (mkF m 364 #[s0, s1, s2, s3, s4, s5, .val (.int c0), .val (.int c1), .val (.int c2), .val (.int c3), .val (.int c4), .val (.int c5), .val (.int c6), s13, s14, s15, s16, s17, .val (.int v18), s19, s20, .unset, .unset, .unset] [(.int 0)])) target → Steps p.tables e below (T0.setTop (mkF m 299 #[s0, s1, s2, s3, s4, s5, .val (.int c0), .val (.int c1), .val (.int c2), .val (.int c3), .val (.int c4), .val (.int c5), .val (.int c6), s13, s14, s15, s16, s17, .val (.int v18), s19, s20, .unset, .unset, .unset] [])) target := by
  have Z0 : n0 ≤ h0.size := O0.1 ▸ O0.2.1
  obtain ⟨vr1, _, ⟨T1, L1, k1, n1⟩, -, X1, ⟨Lc1, hQ1, l1, y1, z1⟩, st1⟩ := Jvm.LawKit.callS X0 hx (y := (⟨"com/example/vestwright/vestwright/ValuesMonthPinLaw", "dig", "(C)Z"⟩ : MethodName)) hown (mvT hZ (own_w hw 109 rfl)) (mvT hZ (own_w hw 110 rfl)) (mvT hZ (own_w hw 2 rfl)) (mvT hZ (own_w hw 111 rfl)) (by decide) (backOf (W := 0) (rm26T l Z a0 hw [] c0 h0 n0 O0 h313_hc3 h313_hc9) hZ (own_w hw 111 rfl) (own_w hw 2 rfl) (by decide) (by decide)) (g := (mkF m 313 #[s0, s1, s2, s3, s4, s5, .val (.int c0), .val (.int c1), .val (.int c2), .val (.int c3), .val (.int c4), .val (.int c5), .val (.int c6), s13, s14, s15, s16, s17, .val (.int v18), s19, s20, .unset, .unset, .unset] [(.int c0)])) rfl (by rw [hml]; rfl) (argsL := [(.int c0)]) (rest := []) (lenOf pd_6 rfl) rfl (by show 2 * 0 + _ ≤ _; exact Nat.le_of_eq rfl) (hb hby at_313) (fun _ _ => ⟨rfl, e0, (by decide : 10 + 0 ≤ _), (by decide : 60 + 0 ≤ _)⟩)
  dsimp only [Pt.U, Pt.locs, Pt.cells, Pt.slots] at X1 l1 y1 z1 st1 hQ1
  subst l1 y1 z1
  obtain ⟨rfl, N1q, e1⟩ := hQ1
  have N1 := Fr.app N0 N1q
  replace X1 := X1.more (cells' := 10) (slots' := 60) (by decide) (by decide)
  obtain ⟨vr2, _, ⟨T2, L2, k2, n2⟩, -, X2, ⟨Lc2, hQ2, l2, y2, z2⟩, st2⟩ := Jvm.LawKit.callS X1 hx (y := (⟨"com/example/vestwright/vestwright/ValuesMonthPinLaw", "dig", "(C)Z"⟩ : MethodName)) hown (mvT hZ (own_w hw 109 rfl)) (mvT hZ (own_w hw 110 rfl)) (mvT hZ (own_w hw 2 rfl)) (mvT hZ (own_w hw 111 rfl)) (by decide) (backOf (W := 0) (rm26F l Z a0 hw [] c1 h0 n0 O0 h321_hd) hZ (own_w hw 111 rfl) (own_w hw 2 rfl) (by decide) (by decide)) (g := (mkF m 321 #[s0, s1, s2, s3, s4, s5, .val (.int c0), .val (.int c1), .val (.int c2), .val (.int c3), .val (.int c4), .val (.int c5), .val (.int c6), s13, s14, s15, s16, s17, .val (.int v18), s19, s20, .unset, .unset, .unset] [(.int c1)])) rfl (by rw [hml]; rfl) (argsL := [(.int c1)]) (rest := []) (lenOf pd_6 rfl) rfl (by show 2 * 0 + _ ≤ _; exact Nat.le_of_eq rfl) (hb hby at_321) (fun _ _ => ⟨rfl, e1, (by decide : 10 + 0 ≤ _), (by decide : 60 + 0 ≤ _)⟩)
  dsimp only [Pt.U, Pt.locs, Pt.cells, Pt.slots] at X2 l2 y2 z2 st2 hQ2
  subst l2 y2 z2
  obtain ⟨rfl, N2q, e2⟩ := hQ2
  have N2 := Fr.app N1 N2q
  replace X2 := X2.more (cells' := 10) (slots' := 60) (by decide) (by decide)
  refine ⟨T2, _, X2, N2, e2, fun target kt => ?_⟩
  show Steps p.tables e below (T0.setTop (mkF m 299 #[s0, s1, s2, s3, s4, s5, .val (.int c0), .val (.int c1), .val (.int c2), .val (.int c3), .val (.int c4), .val (.int c5), .val (.int c6), s13, s14, s15, s16, s17, .val (.int v18), s19, s20, .unset, .unset, .unset] [])) _
  refine XS.iload X0.here hx rfl (hb hby at_299) rfl ?_
  refine XS.ifNo X0.here hx rfl (hb hby at_301) rfl ((if0 _ _).trans (teq hc301).2) ?_
  refine XS.iload X0.here hx rfl (hb hby at_304) rfl ?_
  refine XS.bipush X0.here hx rfl (hb hby at_306) ?_
  refine XS.icmpNo X0.here hx rfl (hb hby at_308) rfl (teq hc308).2 ?_
  refine XS.iload X0.here hx rfl (hb hby at_311) rfl ?_
  refine st1 _ ?_
  refine XS.ifNo X1.here hx rfl (hb hby at_316) rfl ((if0 _ _).trans (feq (by decide : ¬ ((1 : Int32) = (0 : Int32)))).1) ?_
  refine XS.iload X1.here hx rfl (hb hby at_319) rfl ?_
  refine st2 _ ?_
  refine XS.ifYes X2.here hx rfl (pc0 := 324) (pc' := 363) rfl (hb hby at_324) rfl ((if0 _ _).trans (teq (by decide : (0 : Int32) = (0 : Int32))).1) (by decide) (by decide) ?_
  refine XS.iconst X2.here hx rfl (hb hby at_363) ?_
  exact kt
theorem ttd2 {p : Program} {l : Launch} {e : Env} {s : State} {m : MethodId} {args : Array Value} {below : List Frame} {meth : Method} {c : Code} {T0 : State} {locs : List Loc} {Z : State} {a0 : Array Value} (hw : ∀ d ∈ tables_1, d.before a0 Z = true) (s0 s1 s2 s3 s4 s5 : Slot) (c0 c1 c2 c3 c4 c5 c6 : Int32) (s13 s14 s15 s16 s17 : Slot) (v18 : Int32) (s19 s20 : Slot) (h0 : Heap) (n0 : Nat) (X0 : Stand p l e room_1 s m args below meth c T0 locs 10 60) (N0 : Fr n0 locs) (hx : p.tables.exec = Jvm.exec) (hZ : Z.Warmed39 s.vm) (hby : c.code = code) (hml : c.maxLocals = 24) (hown : s.vm.findClass "com/example/vestwright/vestwright/ValuesMonthPinLaw" = some m.cls) (e0 : T0.heap = h0) (O0 : Old Z n0 h0) (hc301 : v18 = (0 : Int32)) (hc308 : c4 = (45 : Int32)) (h313_hc3 : ¬ (c0 < (48 : Int32))) (h313_hc9 : ¬ ((57 : Int32) < c0)) (h321_hc3 : ¬ (c1 < (48 : Int32))) (h321_hc9 : ¬ ((57 : Int32) < c1)) (h329_hd : ¬ own_dg c2) :
    ∃ (T' : State) (locs' : List Loc), Stand p l e room_1 s m args below meth c T' locs' 10 60 ∧ Fr n0 locs' ∧ T'.heap = h0 ∧
      ∀ target, Steps p.tables e below (T'.setTop (mkF m 364 #[s0, s1, s2, s3, s4, s5, .val (.int c0), .val (.int c1), .val (.int c2), .val (.int c3), .val (.int c4), .val (.int c5), .val (.int c6), s13, s14, s15, s16, s17, .val (.int v18), s19, s20, .unset, .unset, .unset] [(.int 0)])) target → Steps p.tables e below (T0.setTop (mkF m 299 #[s0, s1, s2, s3, s4, s5, .val (.int c0), .val (.int c1), .val (.int c2), .val (.int c3), .val (.int c4), .val (.int c5), .val (.int c6), s13, s14, s15, s16, s17, .val (.int v18), s19, s20, .unset, .unset, .unset] [])) target := by
  have Z0 : n0 ≤ h0.size := O0.1 ▸ O0.2.1
  obtain ⟨vr1, _, ⟨T1, L1, k1, n1⟩, -, X1, ⟨Lc1, hQ1, l1, y1, z1⟩, st1⟩ := Jvm.LawKit.callS X0 hx (y := (⟨"com/example/vestwright/vestwright/ValuesMonthPinLaw", "dig", "(C)Z"⟩ : MethodName)) hown (mvT hZ (own_w hw 109 rfl)) (mvT hZ (own_w hw 110 rfl)) (mvT hZ (own_w hw 2 rfl)) (mvT hZ (own_w hw 111 rfl)) (by decide) (backOf (W := 0) (rm26T l Z a0 hw [] c0 h0 n0 O0 h313_hc3 h313_hc9) hZ (own_w hw 111 rfl) (own_w hw 2 rfl) (by decide) (by decide)) (g := (mkF m 313 #[s0, s1, s2, s3, s4, s5, .val (.int c0), .val (.int c1), .val (.int c2), .val (.int c3), .val (.int c4), .val (.int c5), .val (.int c6), s13, s14, s15, s16, s17, .val (.int v18), s19, s20, .unset, .unset, .unset] [(.int c0)])) rfl (by rw [hml]; rfl) (argsL := [(.int c0)]) (rest := []) (lenOf pd_6 rfl) rfl (by show 2 * 0 + _ ≤ _; exact Nat.le_of_eq rfl) (hb hby at_313) (fun _ _ => ⟨rfl, e0, (by decide : 10 + 0 ≤ _), (by decide : 60 + 0 ≤ _)⟩)
  dsimp only [Pt.U, Pt.locs, Pt.cells, Pt.slots] at X1 l1 y1 z1 st1 hQ1
  subst l1 y1 z1
  obtain ⟨rfl, N1q, e1⟩ := hQ1
  have N1 := Fr.app N0 N1q
  replace X1 := X1.more (cells' := 10) (slots' := 60) (by decide) (by decide)
  obtain ⟨vr2, _, ⟨T2, L2, k2, n2⟩, -, X2, ⟨Lc2, hQ2, l2, y2, z2⟩, st2⟩ := Jvm.LawKit.callS X1 hx (y := (⟨"com/example/vestwright/vestwright/ValuesMonthPinLaw", "dig", "(C)Z"⟩ : MethodName)) hown (mvT hZ (own_w hw 109 rfl)) (mvT hZ (own_w hw 110 rfl)) (mvT hZ (own_w hw 2 rfl)) (mvT hZ (own_w hw 111 rfl)) (by decide) (backOf (W := 0) (rm26T l Z a0 hw [] c1 h0 n0 O0 h321_hc3 h321_hc9) hZ (own_w hw 111 rfl) (own_w hw 2 rfl) (by decide) (by decide)) (g := (mkF m 321 #[s0, s1, s2, s3, s4, s5, .val (.int c0), .val (.int c1), .val (.int c2), .val (.int c3), .val (.int c4), .val (.int c5), .val (.int c6), s13, s14, s15, s16, s17, .val (.int v18), s19, s20, .unset, .unset, .unset] [(.int c1)])) rfl (by rw [hml]; rfl) (argsL := [(.int c1)]) (rest := []) (lenOf pd_6 rfl) rfl (by show 2 * 0 + _ ≤ _; exact Nat.le_of_eq rfl) (hb hby at_321) (fun _ _ => ⟨rfl, e1, (by decide : 10 + 0 ≤ _), (by decide : 60 + 0 ≤ _)⟩)
  dsimp only [Pt.U, Pt.locs, Pt.cells, Pt.slots] at X2 l2 y2 z2 st2 hQ2
  subst l2 y2 z2
  obtain ⟨rfl, N2q, e2⟩ := hQ2
  have N2 := Fr.app N1 N2q
  replace X2 := X2.more (cells' := 10) (slots' := 60) (by decide) (by decide)
  obtain ⟨vr3, _, ⟨T3, L3, k3, n3⟩, -, X3, ⟨Lc3, hQ3, l3, y3, z3⟩, st3⟩ := Jvm.LawKit.callS X2 hx (y := (⟨"com/example/vestwright/vestwright/ValuesMonthPinLaw", "dig", "(C)Z"⟩ : MethodName)) hown (mvT hZ (own_w hw 109 rfl)) (mvT hZ (own_w hw 110 rfl)) (mvT hZ (own_w hw 2 rfl)) (mvT hZ (own_w hw 111 rfl)) (by decide) (backOf (W := 0) (rm26F l Z a0 hw [] c2 h0 n0 O0 h329_hd) hZ (own_w hw 111 rfl) (own_w hw 2 rfl) (by decide) (by decide)) (g := (mkF m 329 #[s0, s1, s2, s3, s4, s5, .val (.int c0), .val (.int c1), .val (.int c2), .val (.int c3), .val (.int c4), .val (.int c5), .val (.int c6), s13, s14, s15, s16, s17, .val (.int v18), s19, s20, .unset, .unset, .unset] [(.int c2)])) rfl (by rw [hml]; rfl) (argsL := [(.int c2)]) (rest := []) (lenOf pd_6 rfl) rfl (by show 2 * 0 + _ ≤ _; exact Nat.le_of_eq rfl) (hb hby at_329) (fun _ _ => ⟨rfl, e2, (by decide : 10 + 0 ≤ _), (by decide : 60 + 0 ≤ _)⟩)
  dsimp only [Pt.U, Pt.locs, Pt.cells, Pt.slots] at X3 l3 y3 z3 st3 hQ3
  subst l3 y3 z3
  obtain ⟨rfl, N3q, e3⟩ := hQ3
  have N3 := Fr.app N2 N3q
  replace X3 := X3.more (cells' := 10) (slots' := 60) (by decide) (by decide)
  refine ⟨T3, _, X3, N3, e3, fun target kt => ?_⟩
  show Steps p.tables e below (T0.setTop (mkF m 299 #[s0, s1, s2, s3, s4, s5, .val (.int c0), .val (.int c1), .val (.int c2), .val (.int c3), .val (.int c4), .val (.int c5), .val (.int c6), s13, s14, s15, s16, s17, .val (.int v18), s19, s20, .unset, .unset, .unset] [])) _
  refine XS.iload X0.here hx rfl (hb hby at_299) rfl ?_
  refine XS.ifNo X0.here hx rfl (hb hby at_301) rfl ((if0 _ _).trans (teq hc301).2) ?_
  refine XS.iload X0.here hx rfl (hb hby at_304) rfl ?_
  refine XS.bipush X0.here hx rfl (hb hby at_306) ?_
  refine XS.icmpNo X0.here hx rfl (hb hby at_308) rfl (teq hc308).2 ?_
  refine XS.iload X0.here hx rfl (hb hby at_311) rfl ?_
  refine st1 _ ?_
  refine XS.ifNo X1.here hx rfl (hb hby at_316) rfl ((if0 _ _).trans (feq (by decide : ¬ ((1 : Int32) = (0 : Int32)))).1) ?_
  refine XS.iload X1.here hx rfl (hb hby at_319) rfl ?_
  refine st2 _ ?_
  refine XS.ifNo X2.here hx rfl (hb hby at_324) rfl ((if0 _ _).trans (feq (by decide : ¬ ((1 : Int32) = (0 : Int32)))).1) ?_
  refine XS.iload X2.here hx rfl (hb hby at_327) rfl ?_
  refine st3 _ ?_
  refine XS.ifYes X3.here hx rfl (pc0 := 332) (pc' := 363) rfl (hb hby at_332) rfl ((if0 _ _).trans (teq (by decide : (0 : Int32) = (0 : Int32))).1) (by decide) (by decide) ?_
  refine XS.iconst X3.here hx rfl (hb hby at_363) ?_
  exact kt
theorem ttd3 {p : Program} {l : Launch} {e : Env} {s : State} {m : MethodId} {args : Array Value} {below : List Frame} {meth : Method} {c : Code} {T0 : State} {locs : List Loc} {Z : State} {a0 : Array Value} (hw : ∀ d ∈ tables_1, d.before a0 Z = true) (s0 s1 s2 s3 s4 s5 : Slot) (c0 c1 c2 c3 c4 c5 c6 : Int32) (s13 s14 s15 s16 s17 : Slot) (v18 : Int32) (s19 s20 : Slot) (h0 : Heap) (n0 : Nat) (X0 : Stand p l e room_1 s m args below meth c T0 locs 10 60) (N0 : Fr n0 locs) (hx : p.tables.exec = Jvm.exec) (hZ : Z.Warmed39 s.vm) (hby : c.code = code) (hml : c.maxLocals = 24) (hown : s.vm.findClass "com/example/vestwright/vestwright/ValuesMonthPinLaw" = some m.cls) (e0 : T0.heap = h0) (O0 : Old Z n0 h0) (hc301 : v18 = (0 : Int32)) (hc308 : c4 = (45 : Int32)) (h313_hc3 : ¬ (c0 < (48 : Int32))) (h313_hc9 : ¬ ((57 : Int32) < c0)) (h321_hc3 : ¬ (c1 < (48 : Int32))) (h321_hc9 : ¬ ((57 : Int32) < c1)) (h329_hc3 : ¬ (c2 < (48 : Int32))) (h329_hc9 : ¬ ((57 : Int32) < c2)) (h337_hd : ¬ own_dg c3) :
    ∃ (T' : State) (locs' : List Loc), Stand p l e room_1 s m args below meth c T' locs' 10 60 ∧ Fr n0 locs' ∧ T'.heap = h0 ∧
      ∀ target, Steps p.tables e below (T'.setTop (mkF m 364 #[s0, s1, s2, s3, s4, s5, .val (.int c0), .val (.int c1), .val (.int c2), .val (.int c3), .val (.int c4), .val (.int c5), .val (.int c6), s13, s14, s15, s16, s17, .val (.int v18), s19, s20, .unset, .unset, .unset] [(.int 0)])) target → Steps p.tables e below (T0.setTop (mkF m 299 #[s0, s1, s2, s3, s4, s5, .val (.int c0), .val (.int c1), .val (.int c2), .val (.int c3), .val (.int c4), .val (.int c5), .val (.int c6), s13, s14, s15, s16, s17, .val (.int v18), s19, s20, .unset, .unset, .unset] [])) target := by
  have Z0 : n0 ≤ h0.size := O0.1 ▸ O0.2.1
  obtain ⟨vr1, _, ⟨T1, L1, k1, n1⟩, -, X1, ⟨Lc1, hQ1, l1, y1, z1⟩, st1⟩ := Jvm.LawKit.callS X0 hx (y := (⟨"com/example/vestwright/vestwright/ValuesMonthPinLaw", "dig", "(C)Z"⟩ : MethodName)) hown (mvT hZ (own_w hw 109 rfl)) (mvT hZ (own_w hw 110 rfl)) (mvT hZ (own_w hw 2 rfl)) (mvT hZ (own_w hw 111 rfl)) (by decide) (backOf (W := 0) (rm26T l Z a0 hw [] c0 h0 n0 O0 h313_hc3 h313_hc9) hZ (own_w hw 111 rfl) (own_w hw 2 rfl) (by decide) (by decide)) (g := (mkF m 313 #[s0, s1, s2, s3, s4, s5, .val (.int c0), .val (.int c1), .val (.int c2), .val (.int c3), .val (.int c4), .val (.int c5), .val (.int c6), s13, s14, s15, s16, s17, .val (.int v18), s19, s20, .unset, .unset, .unset] [(.int c0)])) rfl (by rw [hml]; rfl) (argsL := [(.int c0)]) (rest := []) (lenOf pd_6 rfl) rfl (by show 2 * 0 + _ ≤ _; exact Nat.le_of_eq rfl) (hb hby at_313) (fun _ _ => ⟨rfl, e0, (by decide : 10 + 0 ≤ _), (by decide : 60 + 0 ≤ _)⟩)
  dsimp only [Pt.U, Pt.locs, Pt.cells, Pt.slots] at X1 l1 y1 z1 st1 hQ1
  subst l1 y1 z1
  obtain ⟨rfl, N1q, e1⟩ := hQ1
  have N1 := Fr.app N0 N1q
  replace X1 := X1.more (cells' := 10) (slots' := 60) (by decide) (by decide)
  obtain ⟨vr2, _, ⟨T2, L2, k2, n2⟩, -, X2, ⟨Lc2, hQ2, l2, y2, z2⟩, st2⟩ := Jvm.LawKit.callS X1 hx (y := (⟨"com/example/vestwright/vestwright/ValuesMonthPinLaw", "dig", "(C)Z"⟩ : MethodName)) hown (mvT hZ (own_w hw 109 rfl)) (mvT hZ (own_w hw 110 rfl)) (mvT hZ (own_w hw 2 rfl)) (mvT hZ (own_w hw 111 rfl)) (by decide) (backOf (W := 0) (rm26T l Z a0 hw [] c1 h0 n0 O0 h321_hc3 h321_hc9) hZ (own_w hw 111 rfl) (own_w hw 2 rfl) (by decide) (by decide)) (g := (mkF m 321 #[s0, s1, s2, s3, s4, s5, .val (.int c0), .val (.int c1), .val (.int c2), .val (.int c3), .val (.int c4), .val (.int c5), .val (.int c6), s13, s14, s15, s16, s17, .val (.int v18), s19, s20, .unset, .unset, .unset] [(.int c1)])) rfl (by rw [hml]; rfl) (argsL := [(.int c1)]) (rest := []) (lenOf pd_6 rfl) rfl (by show 2 * 0 + _ ≤ _; exact Nat.le_of_eq rfl) (hb hby at_321) (fun _ _ => ⟨rfl, e1, (by decide : 10 + 0 ≤ _), (by decide : 60 + 0 ≤ _)⟩)
  dsimp only [Pt.U, Pt.locs, Pt.cells, Pt.slots] at X2 l2 y2 z2 st2 hQ2
  subst l2 y2 z2
  obtain ⟨rfl, N2q, e2⟩ := hQ2
  have N2 := Fr.app N1 N2q
  replace X2 := X2.more (cells' := 10) (slots' := 60) (by decide) (by decide)
  obtain ⟨vr3, _, ⟨T3, L3, k3, n3⟩, -, X3, ⟨Lc3, hQ3, l3, y3, z3⟩, st3⟩ := Jvm.LawKit.callS X2 hx (y := (⟨"com/example/vestwright/vestwright/ValuesMonthPinLaw", "dig", "(C)Z"⟩ : MethodName)) hown (mvT hZ (own_w hw 109 rfl)) (mvT hZ (own_w hw 110 rfl)) (mvT hZ (own_w hw 2 rfl)) (mvT hZ (own_w hw 111 rfl)) (by decide) (backOf (W := 0) (rm26T l Z a0 hw [] c2 h0 n0 O0 h329_hc3 h329_hc9) hZ (own_w hw 111 rfl) (own_w hw 2 rfl) (by decide) (by decide)) (g := (mkF m 329 #[s0, s1, s2, s3, s4, s5, .val (.int c0), .val (.int c1), .val (.int c2), .val (.int c3), .val (.int c4), .val (.int c5), .val (.int c6), s13, s14, s15, s16, s17, .val (.int v18), s19, s20, .unset, .unset, .unset] [(.int c2)])) rfl (by rw [hml]; rfl) (argsL := [(.int c2)]) (rest := []) (lenOf pd_6 rfl) rfl (by show 2 * 0 + _ ≤ _; exact Nat.le_of_eq rfl) (hb hby at_329) (fun _ _ => ⟨rfl, e2, (by decide : 10 + 0 ≤ _), (by decide : 60 + 0 ≤ _)⟩)
  dsimp only [Pt.U, Pt.locs, Pt.cells, Pt.slots] at X3 l3 y3 z3 st3 hQ3
  subst l3 y3 z3
  obtain ⟨rfl, N3q, e3⟩ := hQ3
  have N3 := Fr.app N2 N3q
  replace X3 := X3.more (cells' := 10) (slots' := 60) (by decide) (by decide)
  obtain ⟨vr4, _, ⟨T4, L4, k4, n4⟩, -, X4, ⟨Lc4, hQ4, l4, y4, z4⟩, st4⟩ := Jvm.LawKit.callS X3 hx (y := (⟨"com/example/vestwright/vestwright/ValuesMonthPinLaw", "dig", "(C)Z"⟩ : MethodName)) hown (mvT hZ (own_w hw 109 rfl)) (mvT hZ (own_w hw 110 rfl)) (mvT hZ (own_w hw 2 rfl)) (mvT hZ (own_w hw 111 rfl)) (by decide) (backOf (W := 0) (rm26F l Z a0 hw [] c3 h0 n0 O0 h337_hd) hZ (own_w hw 111 rfl) (own_w hw 2 rfl) (by decide) (by decide)) (g := (mkF m 337 #[s0, s1, s2, s3, s4, s5, .val (.int c0), .val (.int c1), .val (.int c2), .val (.int c3), .val (.int c4), .val (.int c5), .val (.int c6), s13, s14, s15, s16, s17, .val (.int v18), s19, s20, .unset, .unset, .unset] [(.int c3)])) rfl (by rw [hml]; rfl) (argsL := [(.int c3)]) (rest := []) (lenOf pd_6 rfl) rfl (by show 2 * 0 + _ ≤ _; exact Nat.le_of_eq rfl) (hb hby at_337) (fun _ _ => ⟨rfl, e3, (by decide : 10 + 0 ≤ _), (by decide : 60 + 0 ≤ _)⟩)
  dsimp only [Pt.U, Pt.locs, Pt.cells, Pt.slots] at X4 l4 y4 z4 st4 hQ4
  subst l4 y4 z4
  obtain ⟨rfl, N4q, e4⟩ := hQ4
  have N4 := Fr.app N3 N4q
  replace X4 := X4.more (cells' := 10) (slots' := 60) (by decide) (by decide)
  refine ⟨T4, _, X4, N4, e4, fun target kt => ?_⟩
  show Steps p.tables e below (T0.setTop (mkF m 299 #[s0, s1, s2, s3, s4, s5, .val (.int c0), .val (.int c1), .val (.int c2), .val (.int c3), .val (.int c4), .val (.int c5), .val (.int c6), s13, s14, s15, s16, s17, .val (.int v18), s19, s20, .unset, .unset, .unset] [])) _
  refine XS.iload X0.here hx rfl (hb hby at_299) rfl ?_
  refine XS.ifNo X0.here hx rfl (hb hby at_301) rfl ((if0 _ _).trans (teq hc301).2) ?_
  refine XS.iload X0.here hx rfl (hb hby at_304) rfl ?_
  refine XS.bipush X0.here hx rfl (hb hby at_306) ?_
  refine XS.icmpNo X0.here hx rfl (hb hby at_308) rfl (teq hc308).2 ?_
  refine XS.iload X0.here hx rfl (hb hby at_311) rfl ?_
  refine st1 _ ?_
  refine XS.ifNo X1.here hx rfl (hb hby at_316) rfl ((if0 _ _).trans (feq (by decide : ¬ ((1 : Int32) = (0 : Int32)))).1) ?_
  refine XS.iload X1.here hx rfl (hb hby at_319) rfl ?_
  refine st2 _ ?_
  refine XS.ifNo X2.here hx rfl (hb hby at_324) rfl ((if0 _ _).trans (feq (by decide : ¬ ((1 : Int32) = (0 : Int32)))).1) ?_
  refine XS.iload X2.here hx rfl (hb hby at_327) rfl ?_
  refine st3 _ ?_
  refine XS.ifNo X3.here hx rfl (hb hby at_332) rfl ((if0 _ _).trans (feq (by decide : ¬ ((1 : Int32) = (0 : Int32)))).1) ?_
  refine XS.iload X3.here hx rfl (hb hby at_335) rfl ?_
  refine st4 _ ?_
  refine XS.ifYes X4.here hx rfl (pc0 := 340) (pc' := 363) rfl (hb hby at_340) rfl ((if0 _ _).trans (teq (by decide : (0 : Int32) = (0 : Int32))).1) (by decide) (by decide) ?_
  refine XS.iconst X4.here hx rfl (hb hby at_363) ?_
  exact kt
theorem ttd4 {p : Program} {l : Launch} {e : Env} {s : State} {m : MethodId} {args : Array Value} {below : List Frame} {meth : Method} {c : Code} {T0 : State} {locs : List Loc} {Z : State} {a0 : Array Value} (hw : ∀ d ∈ tables_1, d.before a0 Z = true) (s0 s1 s2 s3 s4 s5 : Slot) (c0 c1 c2 c3 c4 c5 c6 : Int32) (s13 s14 s15 s16 s17 : Slot) (v18 : Int32) (s19 s20 : Slot) (h0 : Heap) (n0 : Nat) (X0 : Stand p l e room_1 s m args below meth c T0 locs 10 60) (N0 : Fr n0 locs) (hx : p.tables.exec = Jvm.exec) (hZ : Z.Warmed39 s.vm) (hby : c.code = code) (hml : c.maxLocals = 24) (hown : s.vm.findClass "com/example/vestwright/vestwright/ValuesMonthPinLaw" = some m.cls) (e0 : T0.heap = h0) (O0 : Old Z n0 h0) (hc301 : v18 = (0 : Int32)) (hc308 : c4 = (45 : Int32)) (h313_hc3 : ¬ (c0 < (48 : Int32))) (h313_hc9 : ¬ ((57 : Int32) < c0)) (h321_hc3 : ¬ (c1 < (48 : Int32))) (h321_hc9 : ¬ ((57 : Int32) < c1)) (h329_hc3 : ¬ (c2 < (48 : Int32))) (h329_hc9 : ¬ ((57 : Int32) < c2)) (h337_hc3 : ¬ (c3 < (48 : Int32))) (h337_hc9 : ¬ ((57 : Int32) < c3)) (h345_hd : ¬ own_dg c5) :
    ∃ (T' : State) (locs' : List Loc), Stand p l e room_1 s m args below meth c T' locs' 10 60 ∧ Fr n0 locs' ∧ T'.heap = h0 ∧
      ∀ target, Steps p.tables e below (T'.setTop (mkF m 364 #[s0, s1, s2, s3, s4, s5, .val (.int c0), .val (.int c1), .val (.int c2), .val (.int c3), .val (.int c4), .val (.int c5), .val (.int c6), s13, s14, s15, s16, s17, .val (.int v18), s19, s20, .unset, .unset, .unset] [(.int 0)])) target → Steps p.tables e below (T0.setTop (mkF m 299 #[s0, s1, s2, s3, s4, s5, .val (.int c0), .val (.int c1), .val (.int c2), .val (.int c3), .val (.int c4), .val (.int c5), .val (.int c6), s13, s14, s15, s16, s17, .val (.int v18), s19, s20, .unset, .unset, .unset] [])) target := by
  have Z0 : n0 ≤ h0.size := O0.1 ▸ O0.2.1
  obtain ⟨vr1, _, ⟨T1, L1, k1, n1⟩, -, X1, ⟨Lc1, hQ1, l1, y1, z1⟩, st1⟩ := Jvm.LawKit.callS X0 hx (y := (⟨"com/example/vestwright/vestwright/ValuesMonthPinLaw", "dig", "(C)Z"⟩ : MethodName)) hown (mvT hZ (own_w hw 109 rfl)) (mvT hZ (own_w hw 110 rfl)) (mvT hZ (own_w hw 2 rfl)) (mvT hZ (own_w hw 111 rfl)) (by decide) (backOf (W := 0) (rm26T l Z a0 hw [] c0 h0 n0 O0 h313_hc3 h313_hc9) hZ (own_w hw 111 rfl) (own_w hw 2 rfl) (by decide) (by decide)) (g := (mkF m 313 #[s0, s1, s2, s3, s4, s5, .val (.int c0), .val (.int c1), .val (.int c2), .val (.int c3), .val (.int c4), .val (.int c5), .val (.int c6), s13, s14, s15, s16, s17, .val (.int v18), s19, s20, .unset, .unset, .unset] [(.int c0)])) rfl (by rw [hml]; rfl) (argsL := [(.int c0)]) (rest := []) (lenOf pd_6 rfl) rfl (by show 2 * 0 + _ ≤ _; exact Nat.le_of_eq rfl) (hb hby at_313) (fun _ _ => ⟨rfl, e0, (by decide : 10 + 0 ≤ _), (by decide : 60 + 0 ≤ _)⟩)
  dsimp only [Pt.U, Pt.locs, Pt.cells, Pt.slots] at X1 l1 y1 z1 st1 hQ1
  subst l1 y1 z1
  obtain ⟨rfl, N1q, e1⟩ := hQ1
  have N1 := Fr.app N0 N1q
  replace X1 := X1.more (cells' := 10) (slots' := 60) (by decide) (by decide)
  obtain ⟨vr2, _, ⟨T2, L2, k2, n2⟩, -, X2, ⟨Lc2, hQ2, l2, y2, z2⟩, st2⟩ := Jvm.LawKit.callS X1 hx (y := (⟨"com/example/vestwright/vestwright/ValuesMonthPinLaw", "dig", "(C)Z"⟩ : MethodName)) hown (mvT hZ (own_w hw 109 rfl)) (mvT hZ (own_w hw 110 rfl)) (mvT hZ (own_w hw 2 rfl)) (mvT hZ (own_w hw 111 rfl)) (by decide) (backOf (W := 0) (rm26T l Z a0 hw [] c1 h0 n0 O0 h321_hc3 h321_hc9) hZ (own_w hw 111 rfl) (own_w hw 2 rfl) (by decide) (by decide)) (g := (mkF m 321 #[s0, s1, s2, s3, s4, s5, .val (.int c0), .val (.int c1), .val (.int c2), .val (.int c3), .val (.int c4), .val (.int c5), .val (.int c6), s13, s14, s15, s16, s17, .val (.int v18), s19, s20, .unset, .unset, .unset] [(.int c1)])) rfl (by rw [hml]; rfl) (argsL := [(.int c1)]) (rest := []) (lenOf pd_6 rfl) rfl (by show 2 * 0 + _ ≤ _; exact Nat.le_of_eq rfl) (hb hby at_321) (fun _ _ => ⟨rfl, e1, (by decide : 10 + 0 ≤ _), (by decide : 60 + 0 ≤ _)⟩)
  dsimp only [Pt.U, Pt.locs, Pt.cells, Pt.slots] at X2 l2 y2 z2 st2 hQ2
  subst l2 y2 z2
  obtain ⟨rfl, N2q, e2⟩ := hQ2
  have N2 := Fr.app N1 N2q
  replace X2 := X2.more (cells' := 10) (slots' := 60) (by decide) (by decide)
  obtain ⟨vr3, _, ⟨T3, L3, k3, n3⟩, -, X3, ⟨Lc3, hQ3, l3, y3, z3⟩, st3⟩ := Jvm.LawKit.callS X2 hx (y := (⟨"com/example/vestwright/vestwright/ValuesMonthPinLaw", "dig", "(C)Z"⟩ : MethodName)) hown (mvT hZ (own_w hw 109 rfl)) (mvT hZ (own_w hw 110 rfl)) (mvT hZ (own_w hw 2 rfl)) (mvT hZ (own_w hw 111 rfl)) (by decide) (backOf (W := 0) (rm26T l Z a0 hw [] c2 h0 n0 O0 h329_hc3 h329_hc9) hZ (own_w hw 111 rfl) (own_w hw 2 rfl) (by decide) (by decide)) (g := (mkF m 329 #[s0, s1, s2, s3, s4, s5, .val (.int c0), .val (.int c1), .val (.int c2), .val (.int c3), .val (.int c4), .val (.int c5), .val (.int c6), s13, s14, s15, s16, s17, .val (.int v18), s19, s20, .unset, .unset, .unset] [(.int c2)])) rfl (by rw [hml]; rfl) (argsL := [(.int c2)]) (rest := []) (lenOf pd_6 rfl) rfl (by show 2 * 0 + _ ≤ _; exact Nat.le_of_eq rfl) (hb hby at_329) (fun _ _ => ⟨rfl, e2, (by decide : 10 + 0 ≤ _), (by decide : 60 + 0 ≤ _)⟩)
  dsimp only [Pt.U, Pt.locs, Pt.cells, Pt.slots] at X3 l3 y3 z3 st3 hQ3
  subst l3 y3 z3
  obtain ⟨rfl, N3q, e3⟩ := hQ3
  have N3 := Fr.app N2 N3q
  replace X3 := X3.more (cells' := 10) (slots' := 60) (by decide) (by decide)
  obtain ⟨vr4, _, ⟨T4, L4, k4, n4⟩, -, X4, ⟨Lc4, hQ4, l4, y4, z4⟩, st4⟩ := Jvm.LawKit.callS X3 hx (y := (⟨"com/example/vestwright/vestwright/ValuesMonthPinLaw", "dig", "(C)Z"⟩ : MethodName)) hown (mvT hZ (own_w hw 109 rfl)) (mvT hZ (own_w hw 110 rfl)) (mvT hZ (own_w hw 2 rfl)) (mvT hZ (own_w hw 111 rfl)) (by decide) (backOf (W := 0) (rm26T l Z a0 hw [] c3 h0 n0 O0 h337_hc3 h337_hc9) hZ (own_w hw 111 rfl) (own_w hw 2 rfl) (by decide) (by decide)) (g := (mkF m 337 #[s0, s1, s2, s3, s4, s5, .val (.int c0), .val (.int c1), .val (.int c2), .val (.int c3), .val (.int c4), .val (.int c5), .val (.int c6), s13, s14, s15, s16, s17, .val (.int v18), s19, s20, .unset, .unset, .unset] [(.int c3)])) rfl (by rw [hml]; rfl) (argsL := [(.int c3)]) (rest := []) (lenOf pd_6 rfl) rfl (by show 2 * 0 + _ ≤ _; exact Nat.le_of_eq rfl) (hb hby at_337) (fun _ _ => ⟨rfl, e3, (by decide : 10 + 0 ≤ _), (by decide : 60 + 0 ≤ _)⟩)
  dsimp only [Pt.U, Pt.locs, Pt.cells, Pt.slots] at X4 l4 y4 z4 st4 hQ4
  subst l4 y4 z4
  obtain ⟨rfl, N4q, e4⟩ := hQ4
  have N4 := Fr.app N3 N4q
  replace X4 := X4.more (cells' := 10) (slots' := 60) (by decide) (by decide)
  obtain ⟨vr5, _, ⟨T5, L5, k5, n5⟩, -, X5, ⟨Lc5, hQ5, l5, y5, z5⟩, st5⟩ := Jvm.LawKit.callS X4 hx (y := (⟨"com/example/vestwright/vestwright/ValuesMonthPinLaw", "dig", "(C)Z"⟩ : MethodName)) hown (mvT hZ (own_w hw 109 rfl)) (mvT hZ (own_w hw 110 rfl)) (mvT hZ (own_w hw 2 rfl)) (mvT hZ (own_w hw 111 rfl)) (by decide) (backOf (W := 0) (rm26F l Z a0 hw [] c5 h0 n0 O0 h345_hd) hZ (own_w hw 111 rfl) (own_w hw 2 rfl) (by decide) (by decide)) (g := (mkF m 345 #[s0, s1, s2, s3, s4, s5, .val (.int c0), .val (.int c1), .val (.int c2), .val (.int c3), .val (.int c4), .val (.int c5), .val (.int c6), s13, s14, s15, s16, s17, .val (.int v18), s19, s20, .unset, .unset, .unset] [(.int c5)])) rfl (by rw [hml]; rfl) (argsL := [(.int c5)]) (rest := []) (lenOf pd_6 rfl) rfl (by show 2 * 0 + _ ≤ _; exact Nat.le_of_eq rfl) (hb hby at_345) (fun _ _ => ⟨rfl, e4, (by decide : 10 + 0 ≤ _), (by decide : 60 + 0 ≤ _)⟩)
  dsimp only [Pt.U, Pt.locs, Pt.cells, Pt.slots] at X5 l5 y5 z5 st5 hQ5
  subst l5 y5 z5
  obtain ⟨rfl, N5q, e5⟩ := hQ5
  have N5 := Fr.app N4 N5q
  replace X5 := X5.more (cells' := 10) (slots' := 60) (by decide) (by decide)
  refine ⟨T5, _, X5, N5, e5, fun target kt => ?_⟩
  show Steps p.tables e below (T0.setTop (mkF m 299 #[s0, s1, s2, s3, s4, s5, .val (.int c0), .val (.int c1), .val (.int c2), .val (.int c3), .val (.int c4), .val (.int c5), .val (.int c6), s13, s14, s15, s16, s17, .val (.int v18), s19, s20, .unset, .unset, .unset] [])) _
  refine XS.iload X0.here hx rfl (hb hby at_299) rfl ?_
  refine XS.ifNo X0.here hx rfl (hb hby at_301) rfl ((if0 _ _).trans (teq hc301).2) ?_
  refine XS.iload X0.here hx rfl (hb hby at_304) rfl ?_
  refine XS.bipush X0.here hx rfl (hb hby at_306) ?_
  refine XS.icmpNo X0.here hx rfl (hb hby at_308) rfl (teq hc308).2 ?_
  refine XS.iload X0.here hx rfl (hb hby at_311) rfl ?_
  refine st1 _ ?_
  refine XS.ifNo X1.here hx rfl (hb hby at_316) rfl ((if0 _ _).trans (feq (by decide : ¬ ((1 : Int32) = (0 : Int32)))).1) ?_
  refine XS.iload X1.here hx rfl (hb hby at_319) rfl ?_
  refine st2 _ ?_
  refine XS.ifNo X2.here hx rfl (hb hby at_324) rfl ((if0 _ _).trans (feq (by decide : ¬ ((1 : Int32) = (0 : Int32)))).1) ?_
  refine XS.iload X2.here hx rfl (hb hby at_327) rfl ?_
  refine st3 _ ?_
  refine XS.ifNo X3.here hx rfl (hb hby at_332) rfl ((if0 _ _).trans (feq (by decide : ¬ ((1 : Int32) = (0 : Int32)))).1) ?_
  refine XS.iload X3.here hx rfl (hb hby at_335) rfl ?_
  refine st4 _ ?_
  refine XS.ifNo X4.here hx rfl (hb hby at_340) rfl ((if0 _ _).trans (feq (by decide : ¬ ((1 : Int32) = (0 : Int32)))).1) ?_
  refine XS.iload X4.here hx rfl (hb hby at_343) rfl ?_
  refine st5 _ ?_
  refine XS.ifYes X5.here hx rfl (pc0 := 348) (pc' := 363) rfl (hb hby at_348) rfl ((if0 _ _).trans (teq (by decide : (0 : Int32) = (0 : Int32))).1) (by decide) (by decide) ?_
  refine XS.iconst X5.here hx rfl (hb hby at_363) ?_
  exact kt
theorem ttd5 {p : Program} {l : Launch} {e : Env} {s : State} {m : MethodId} {args : Array Value} {below : List Frame} {meth : Method} {c : Code} {T0 : State} {locs : List Loc} {Z : State} {a0 : Array Value} (hw : ∀ d ∈ tables_1, d.before a0 Z = true) (s0 s1 s2 s3 s4 s5 : Slot) (c0 c1 c2 c3 c4 c5 c6 : Int32) (s13 s14 s15 s16 s17 : Slot) (v18 : Int32) (s19 s20 : Slot) (h0 : Heap) (n0 : Nat) (X0 : Stand p l e room_1 s m args below meth c T0 locs 10 60) (N0 : Fr n0 locs) (hx : p.tables.exec = Jvm.exec) (hZ : Z.Warmed39 s.vm) (hby : c.code = code) (hml : c.maxLocals = 24) (hown : s.vm.findClass "com/example/vestwright/vestwright/ValuesMonthPinLaw" = some m.cls) (e0 : T0.heap = h0) (O0 : Old Z n0 h0) (hc301 : v18 = (0 : Int32)) (hc308 : c4 = (45 : Int32)) (h313_hc3 : ¬ (c0 < (48 : Int32))) (h313_hc9 : ¬ ((57 : Int32) < c0)) (h321_hc3 : ¬ (c1 < (48 : Int32))) (h321_hc9 : ¬ ((57 : Int32) < c1)) (h329_hc3 : ¬ (c2 < (48 : Int32))) (h329_hc9 : ¬ ((57 : Int32) < c2)) (h337_hc3 : ¬ (c3 < (48 : Int32))) (h337_hc9 : ¬ ((57 : Int32) < c3)) (h345_hc3 : ¬ (c5 < (48 : Int32))) (h345_hc9 : ¬ ((57 : Int32) < c5)) (h353_hd : ¬ own_dg c6) :
    ∃ (T' : State) (locs' : List Loc), Stand p l e room_1 s m args below meth c T' locs' 10 60 ∧ Fr n0 locs' ∧ T'.heap = h0 ∧
      ∀ target, Steps p.tables e below (T'.setTop (mkF m 364 #[s0, s1, s2, s3, s4, s5, .val (.int c0), .val (.int c1), .val (.int c2), .val (.int c3), .val (.int c4), .val (.int c5), .val (.int c6), s13, s14, s15, s16, s17, .val (.int v18), s19, s20, .unset, .unset, .unset] [(.int 0)])) target → Steps p.tables e below (T0.setTop (mkF m 299 #[s0, s1, s2, s3, s4, s5, .val (.int c0), .val (.int c1), .val (.int c2), .val (.int c3), .val (.int c4), .val (.int c5), .val (.int c6), s13, s14, s15, s16, s17, .val (.int v18), s19, s20, .unset, .unset, .unset] [])) target := by
  have Z0 : n0 ≤ h0.size := O0.1 ▸ O0.2.1
  obtain ⟨vr1, _, ⟨T1, L1, k1, n1⟩, -, X1, ⟨Lc1, hQ1, l1, y1, z1⟩, st1⟩ := Jvm.LawKit.callS X0 hx (y := (⟨"com/example/vestwright/vestwright/ValuesMonthPinLaw", "dig", "(C)Z"⟩ : MethodName)) hown (mvT hZ (own_w hw 109 rfl)) (mvT hZ (own_w hw 110 rfl)) (mvT hZ (own_w hw 2 rfl)) (mvT hZ (own_w hw 111 rfl)) (by decide) (backOf (W := 0) (rm26T l Z a0 hw [] c0 h0 n0 O0 h313_hc3 h313_hc9) hZ (own_w hw 111 rfl) (own_w hw 2 rfl) (by decide) (by decide)) (g := (mkF m 313 #[s0, s1, s2, s3, s4, s5, .val (.int c0), .val (.int c1), .val (.int c2), .val (.int c3), .val (.int c4), .val (.int c5), .val (.int c6), s13, s14, s15, s16, s17, .val (.int v18), s19, s20, .unset, .unset, .unset] [(.int c0)])) rfl (by rw [hml]; rfl) (argsL := [(.int c0)]) (rest := []) (lenOf pd_6 rfl) rfl (by show 2 * 0 + _ ≤ _; exact Nat.le_of_eq rfl) (hb hby at_313) (fun _ _ => ⟨rfl, e0, (by decide : 10 + 0 ≤ _), (by decide : 60 + 0 ≤ _)⟩)
  dsimp only [Pt.U, Pt.locs, Pt.cells, Pt.slots] at X1 l1 y1 z1 st1 hQ1
  subst l1 y1 z1
  obtain ⟨rfl, N1q, e1⟩ := hQ1
  have N1 := Fr.app N0 N1q
  replace X1 := X1.more (cells' := 10) (slots' := 60) (by decide) (by decide)
  obtain ⟨vr2, _, ⟨T2, L2, k2, n2⟩, -, X2, ⟨Lc2, hQ2, l2, y2, z2⟩, st2⟩ := Jvm.LawKit.callS X1 hx (y := (⟨"com/example/vestwright/vestwright/ValuesMonthPinLaw", "dig", "(C)Z"⟩ : MethodName)) hown (mvT hZ (own_w hw 109 rfl)) (mvT hZ (own_w hw 110 rfl)) (mvT hZ (own_w hw 2 rfl)) (mvT hZ (own_w hw 111 rfl)) (by decide) (backOf (W := 0) (rm26T l Z a0 hw [] c1 h0 n0 O0 h321_hc3 h321_hc9) hZ (own_w hw 111 rfl) (own_w hw 2 rfl) (by decide) (by decide)) (g := (mkF m 321 #[s0, s1, s2, s3, s4, s5, .val (.int c0), .val (.int c1), .val (.int c2), .val (.int c3), .val (.int c4), .val (.int c5), .val (.int c6), s13, s14, s15, s16, s17, .val (.int v18), s19, s20, .unset, .unset, .unset] [(.int c1)])) rfl (by rw [hml]; rfl) (argsL := [(.int c1)]) (rest := []) (lenOf pd_6 rfl) rfl (by show 2 * 0 + _ ≤ _; exact Nat.le_of_eq rfl) (hb hby at_321) (fun _ _ => ⟨rfl, e1, (by decide : 10 + 0 ≤ _), (by decide : 60 + 0 ≤ _)⟩)
  dsimp only [Pt.U, Pt.locs, Pt.cells, Pt.slots] at X2 l2 y2 z2 st2 hQ2
  subst l2 y2 z2
  obtain ⟨rfl, N2q, e2⟩ := hQ2
  have N2 := Fr.app N1 N2q
  replace X2 := X2.more (cells' := 10) (slots' := 60) (by decide) (by decide)
  obtain ⟨vr3, _, ⟨T3, L3, k3, n3⟩, -, X3, ⟨Lc3, hQ3, l3, y3, z3⟩, st3⟩ := Jvm.LawKit.callS X2 hx (y := (⟨"com/example/vestwright/vestwright/ValuesMonthPinLaw", "dig", "(C)Z"⟩ : MethodName)) hown (mvT hZ (own_w hw 109 rfl)) (mvT hZ (own_w hw 110 rfl)) (mvT hZ (own_w hw 2 rfl)) (mvT hZ (own_w hw 111 rfl)) (by decide) (backOf (W := 0) (rm26T l Z a0 hw [] c2 h0 n0 O0 h329_hc3 h329_hc9) hZ (own_w hw 111 rfl) (own_w hw 2 rfl) (by decide) (by decide)) (g := (mkF m 329 #[s0, s1, s2, s3, s4, s5, .val (.int c0), .val (.int c1), .val (.int c2), .val (.int c3), .val (.int c4), .val (.int c5), .val (.int c6), s13, s14, s15, s16, s17, .val (.int v18), s19, s20, .unset, .unset, .unset] [(.int c2)])) rfl (by rw [hml]; rfl) (argsL := [(.int c2)]) (rest := []) (lenOf pd_6 rfl) rfl (by show 2 * 0 + _ ≤ _; exact Nat.le_of_eq rfl) (hb hby at_329) (fun _ _ => ⟨rfl, e2, (by decide : 10 + 0 ≤ _), (by decide : 60 + 0 ≤ _)⟩)
  dsimp only [Pt.U, Pt.locs, Pt.cells, Pt.slots] at X3 l3 y3 z3 st3 hQ3
  subst l3 y3 z3
  obtain ⟨rfl, N3q, e3⟩ := hQ3
  have N3 := Fr.app N2 N3q
  replace X3 := X3.more (cells' := 10) (slots' := 60) (by decide) (by decide)
  obtain ⟨vr4, _, ⟨T4, L4, k4, n4⟩, -, X4, ⟨Lc4, hQ4, l4, y4, z4⟩, st4⟩ := Jvm.LawKit.callS X3 hx (y := (⟨"com/example/vestwright/vestwright/ValuesMonthPinLaw", "dig", "(C)Z"⟩ : MethodName)) hown (mvT hZ (own_w hw 109 rfl)) (mvT hZ (own_w hw 110 rfl)) (mvT hZ (own_w hw 2 rfl)) (mvT hZ (own_w hw 111 rfl)) (by decide) (backOf (W := 0) (rm26T l Z a0 hw [] c3 h0 n0 O0 h337_hc3 h337_hc9) hZ (own_w hw 111 rfl) (own_w hw 2 rfl) (by decide) (by decide)) (g := (mkF m 337 #[s0, s1, s2, s3, s4, s5, .val (.int c0), .val (.int c1), .val (.int c2), .val (.int c3), .val (.int c4), .val (.int c5), .val (.int c6), s13, s14, s15, s16, s17, .val (.int v18), s19, s20, .unset, .unset, .unset] [(.int c3)])) rfl (by rw [hml]; rfl) (argsL := [(.int c3)]) (rest := []) (lenOf pd_6 rfl) rfl (by show 2 * 0 + _ ≤ _; exact Nat.le_of_eq rfl) (hb hby at_337) (fun _ _ => ⟨rfl, e3, (by decide : 10 + 0 ≤ _), (by decide : 60 + 0 ≤ _)⟩)
  dsimp only [Pt.U, Pt.locs, Pt.cells, Pt.slots] at X4 l4 y4 z4 st4 hQ4
  subst l4 y4 z4
  obtain ⟨rfl, N4q, e4⟩ := hQ4
  have N4 := Fr.app N3 N4q
  replace X4 := X4.more (cells' := 10) (slots' := 60) (by decide) (by decide)
  obtain ⟨vr5, _, ⟨T5, L5, k5, n5⟩, -, X5, ⟨Lc5, hQ5, l5, y5, z5⟩, st5⟩ := Jvm.LawKit.callS X4 hx (y := (⟨"com/example/vestwright/vestwright/ValuesMonthPinLaw", "dig", "(C)Z"⟩ : MethodName)) hown (mvT hZ (own_w hw 109 rfl)) (mvT hZ (own_w hw 110 rfl)) (mvT hZ (own_w hw 2 rfl)) (mvT hZ (own_w hw 111 rfl)) (by decide) (backOf (W := 0) (rm26T l Z a0 hw [] c5 h0 n0 O0 h345_hc3 h345_hc9) hZ (own_w hw 111 rfl) (own_w hw 2 rfl) (by decide) (by decide)) (g := (mkF m 345 #[s0, s1, s2, s3, s4, s5, .val (.int c0), .val (.int c1), .val (.int c2), .val (.int c3), .val (.int c4), .val (.int c5), .val (.int c6), s13, s14, s15, s16, s17, .val (.int v18), s19, s20, .unset, .unset, .unset] [(.int c5)])) rfl (by rw [hml]; rfl) (argsL := [(.int c5)]) (rest := []) (lenOf pd_6 rfl) rfl (by show 2 * 0 + _ ≤ _; exact Nat.le_of_eq rfl) (hb hby at_345) (fun _ _ => ⟨rfl, e4, (by decide : 10 + 0 ≤ _), (by decide : 60 + 0 ≤ _)⟩)
  dsimp only [Pt.U, Pt.locs, Pt.cells, Pt.slots] at X5 l5 y5 z5 st5 hQ5
  subst l5 y5 z5
  obtain ⟨rfl, N5q, e5⟩ := hQ5
  have N5 := Fr.app N4 N5q
  replace X5 := X5.more (cells' := 10) (slots' := 60) (by decide) (by decide)
  obtain ⟨vr6, _, ⟨T6, L6, k6, n6⟩, -, X6, ⟨Lc6, hQ6, l6, y6, z6⟩, st6⟩ := Jvm.LawKit.callS X5 hx (y := (⟨"com/example/vestwright/vestwright/ValuesMonthPinLaw", "dig", "(C)Z"⟩ : MethodName)) hown (mvT hZ (own_w hw 109 rfl)) (mvT hZ (own_w hw 110 rfl)) (mvT hZ (own_w hw 2 rfl)) (mvT hZ (own_w hw 111 rfl)) (by decide) (backOf (W := 0) (rm26F l Z a0 hw [] c6 h0 n0 O0 h353_hd) hZ (own_w hw 111 rfl) (own_w hw 2 rfl) (by decide) (by decide)) (g := (mkF m 353 #[s0, s1, s2, s3, s4, s5, .val (.int c0), .val (.int c1), .val (.int c2), .val (.int c3), .val (.int c4), .val (.int c5), .val (.int c6), s13, s14, s15, s16, s17, .val (.int v18), s19, s20, .unset, .unset, .unset] [(.int c6)])) rfl (by rw [hml]; rfl) (argsL := [(.int c6)]) (rest := []) (lenOf pd_6 rfl) rfl (by show 2 * 0 + _ ≤ _; exact Nat.le_of_eq rfl) (hb hby at_353) (fun _ _ => ⟨rfl, e5, (by decide : 10 + 0 ≤ _), (by decide : 60 + 0 ≤ _)⟩)
  dsimp only [Pt.U, Pt.locs, Pt.cells, Pt.slots] at X6 l6 y6 z6 st6 hQ6
  subst l6 y6 z6
  obtain ⟨rfl, N6q, e6⟩ := hQ6
  have N6 := Fr.app N5 N6q
  replace X6 := X6.more (cells' := 10) (slots' := 60) (by decide) (by decide)
  refine ⟨T6, _, X6, N6, e6, fun target kt => ?_⟩
  show Steps p.tables e below (T0.setTop (mkF m 299 #[s0, s1, s2, s3, s4, s5, .val (.int c0), .val (.int c1), .val (.int c2), .val (.int c3), .val (.int c4), .val (.int c5), .val (.int c6), s13, s14, s15, s16, s17, .val (.int v18), s19, s20, .unset, .unset, .unset] [])) _
  refine XS.iload X0.here hx rfl (hb hby at_299) rfl ?_
  refine XS.ifNo X0.here hx rfl (hb hby at_301) rfl ((if0 _ _).trans (teq hc301).2) ?_
  refine XS.iload X0.here hx rfl (hb hby at_304) rfl ?_
  refine XS.bipush X0.here hx rfl (hb hby at_306) ?_
  refine XS.icmpNo X0.here hx rfl (hb hby at_308) rfl (teq hc308).2 ?_
  refine XS.iload X0.here hx rfl (hb hby at_311) rfl ?_
  refine st1 _ ?_
  refine XS.ifNo X1.here hx rfl (hb hby at_316) rfl ((if0 _ _).trans (feq (by decide : ¬ ((1 : Int32) = (0 : Int32)))).1) ?_
  refine XS.iload X1.here hx rfl (hb hby at_319) rfl ?_
  refine st2 _ ?_
  refine XS.ifNo X2.here hx rfl (hb hby at_324) rfl ((if0 _ _).trans (feq (by decide : ¬ ((1 : Int32) = (0 : Int32)))).1) ?_
  refine XS.iload X2.here hx rfl (hb hby at_327) rfl ?_
  refine st3 _ ?_
  refine XS.ifNo X3.here hx rfl (hb hby at_332) rfl ((if0 _ _).trans (feq (by decide : ¬ ((1 : Int32) = (0 : Int32)))).1) ?_
  refine XS.iload X3.here hx rfl (hb hby at_335) rfl ?_
  refine st4 _ ?_
  refine XS.ifNo X4.here hx rfl (hb hby at_340) rfl ((if0 _ _).trans (feq (by decide : ¬ ((1 : Int32) = (0 : Int32)))).1) ?_
  refine XS.iload X4.here hx rfl (hb hby at_343) rfl ?_
  refine st5 _ ?_
  refine XS.ifNo X5.here hx rfl (hb hby at_348) rfl ((if0 _ _).trans (feq (by decide : ¬ ((1 : Int32) = (0 : Int32)))).1) ?_
  refine XS.iload X5.here hx rfl (hb hby at_351) rfl ?_
  refine st6 _ ?_
  refine XS.ifYes X6.here hx rfl (pc0 := 356) (pc' := 363) rfl (hb hby at_356) rfl ((if0 _ _).trans (teq (by decide : (0 : Int32) = (0 : Int32))).1) (by decide) (by decide) ?_
  refine XS.iconst X6.here hx rfl (hb hby at_363) ?_
  exact kt
theorem ttB {p : Program} {l : Launch} {e : Env} {s : State} {m : MethodId} {args : Array Value} {below : List Frame} {meth : Method} {c : Code} {T0 : State} {locs : List Loc} {Z : State} {a0 : Array Value} (hw : ∀ d ∈ tables_1, d.before a0 Z = true) (s0 s1 s2 s3 s4 s5 : Slot) (c0 c1 c2 c3 c4 c5 c6 : Int32) (s13 s14 s15 s16 s17 : Slot) (v18 : Int32) (s19 s20 : Slot) (h0 : Heap) (n0 : Nat) (X0 : Stand p l e room_1 s m args below meth c T0 locs 10 60) (N0 : Fr n0 locs) (hx : p.tables.exec = Jvm.exec) (hZ : Z.Warmed39 s.vm) (hby : c.code = code) (hml : c.maxLocals = 24) (hown : s.vm.findClass "com/example/vestwright/vestwright/ValuesMonthPinLaw" = some m.cls) (e0 : T0.heap = h0) (O0 : Old Z n0 h0) (hv : v18 = (0 : Int32)) (hT : ¬ (c4 = (45 : Int32) ∧ own_dg c0 ∧ own_dg c1 ∧ own_dg c2 ∧ own_dg c3 ∧ own_dg c5 ∧ own_dg c6)) :
    ∃ (T' : State) (locs' : List Loc), Stand p l e room_1 s m args below meth c T' locs' 10 60 ∧ Fr n0 locs' ∧ T'.heap = h0 ∧
      ∀ target, Steps p.tables e below (T'.setTop (mkF m 364 #[s0, s1, s2, s3, s4, s5, .val (.int c0), .val (.int c1), .val (.int c2), .val (.int c3), .val (.int c4), .val (.int c5), .val (.int c6), s13, s14, s15, s16, s17, .val (.int v18), s19, s20, .unset, .unset, .unset] [(.int 0)])) target → Steps p.tables e below (T0.setTop (mkF m 299 #[s0, s1, s2, s3, s4, s5, .val (.int c0), .val (.int c1), .val (.int c2), .val (.int c3), .val (.int c4), .val (.int c5), .val (.int c6), s13, s14, s15, s16, s17, .val (.int v18), s19, s20, .unset, .unset, .unset] [])) target := by
  by_cases e45 : c4 = (45 : Int32)
  rotate_left
  · exact ttd hw s0 s1 s2 s3 s4 s5 c0 c1 c2 c3 c4 c5 c6 s13 s14 s15 s16 s17 v18 s19 s20 h0 n0 X0 N0 hx hZ hby hml hown e0 O0 hv e45
  by_cases dc0 : own_dg c0
  rotate_left
  · exact ttd0 hw s0 s1 s2 s3 s4 s5 c0 c1 c2 c3 c4 c5 c6 s13 s14 s15 s16 s17 v18 s19 s20 h0 n0 X0 N0 hx hZ hby hml hown e0 O0 hv e45 dc0
  by_cases dc1 : own_dg c1
  rotate_left
  · exact ttd1 hw s0 s1 s2 s3 s4 s5 c0 c1 c2 c3 c4 c5 c6 s13 s14 s15 s16 s17 v18 s19 s20 h0 n0 X0 N0 hx hZ hby hml hown e0 O0 hv e45 dc0.1 dc0.2 dc1
  by_cases dc2 : own_dg c2
  rotate_left
  · exact ttd2 hw s0 s1 s2 s3 s4 s5 c0 c1 c2 c3 c4 c5 c6 s13 s14 s15 s16 s17 v18 s19 s20 h0 n0 X0 N0 hx hZ hby hml hown e0 O0 hv e45 dc0.1 dc0.2 dc1.1 dc1.2 dc2
  by_cases dc3 : own_dg c3
  rotate_left
  · exact ttd3 hw s0 s1 s2 s3 s4 s5 c0 c1 c2 c3 c4 c5 c6 s13 s14 s15 s16 s17 v18 s19 s20 h0 n0 X0 N0 hx hZ hby hml hown e0 O0 hv e45 dc0.1 dc0.2 dc1.1 dc1.2 dc2.1 dc2.2 dc3
  by_cases dc5 : own_dg c5
  rotate_left
  · exact ttd4 hw s0 s1 s2 s3 s4 s5 c0 c1 c2 c3 c4 c5 c6 s13 s14 s15 s16 s17 v18 s19 s20 h0 n0 X0 N0 hx hZ hby hml hown e0 O0 hv e45 dc0.1 dc0.2 dc1.1 dc1.2 dc2.1 dc2.2 dc3.1 dc3.2 dc5
  by_cases dc6 : own_dg c6
  rotate_left
  · exact ttd5 hw s0 s1 s2 s3 s4 s5 c0 c1 c2 c3 c4 c5 c6 s13 s14 s15 s16 s17 v18 s19 s20 h0 n0 X0 N0 hx hZ hby hml hown e0 O0 hv e45 dc0.1 dc0.2 dc1.1 dc1.2 dc2.1 dc2.2 dc3.1 dc3.2 dc5.1 dc5.2 dc6
  exact absurd ⟨e45, dc0, dc1, dc2, dc3, dc5, dc6⟩ hT
theorem tu0 {p : Program} {l : Launch} {e : Env} {s : State} {m : MethodId} {args : Array Value} {below : List Frame} {meth : Method} {c : Code} {T0 : State} {locs : List Loc} {Z : State} {a0 : Array Value} (hw : ∀ d ∈ tables_1, d.before a0 Z = true) (s0 s1 s2 s3 s4 s5 : Slot) (c0 c1 c2 c3 c4 c5 c6 : Int32) (s13 s14 s15 s16 s17 : Slot) (v18 : Int32) (s19 : Slot) (h0 : Heap) (n0 : Nat) (X0 : Stand p l e room_1 s m args below meth c T0 locs 10 60) (N0 : Fr n0 locs) (hx : p.tables.exec = Jvm.exec) (hZ : Z.Warmed39 s.vm) (hby : c.code = code) (hml : c.maxLocals = 24) (hown : s.vm.findClass "com/example/vestwright/vestwright/ValuesMonthPinLaw" = some m.cls) (e0 : T0.heap = h0) (O0 : Old Z n0 h0) :
    ∃ (T' : State) (locs' : List Loc), Stand p l e room_1 s m args below meth c T' locs' 10 60 ∧ Fr n0 locs' ∧ T'.heap = h0 ∧
      ∀ target, Steps p.tables e below (T'.setTop (mkF m 457 #[s0, s1, s2, s3, s4, s5, .val (.int c0), .val (.int c1), .val (.int c2), .val (.int c3), .val (.int c4), .val (.int c5), .val (.int c6), s13, s14, s15, s16, s17, .val (.int v18), s19, .val .null, .val (.int 0), .val (.int (((((c0 - (48 : Int32)) * (1000 : Int32)) + ((c1 - (48 : Int32)) * (100 : Int32))) + ((c2 - (48 : Int32)) * (10 : Int32))) + (c3 - (48 : Int32)))), .val (.int (((c5 - (48 : Int32)) * (10 : Int32)) + (c6 - (48 : Int32))))] [(.int 1)])) target → Steps p.tables e below (T0.setTop (mkF m 364 #[s0, s1, s2, s3, s4, s5, .val (.int c0), .val (.int c1), .val (.int c2), .val (.int c3), .val (.int c4), .val (.int c5), .val (.int c6), s13, s14, s15, s16, s17, .val (.int v18), s19, .val .null, .unset, .unset, .unset] [(.int 0)])) target := by
  have Z0 : n0 ≤ h0.size := O0.1 ▸ O0.2.1
  refine ⟨T0, _, X0, N0, e0, fun target kt => ?_⟩
  show Steps p.tables e below (T0.setTop (mkF m 364 #[s0, s1, s2, s3, s4, s5, .val (.int c0), .val (.int c1), .val (.int c2), .val (.int c3), .val (.int c4), .val (.int c5), .val (.int c6), s13, s14, s15, s16, s17, .val (.int v18), s19, .val .null, .unset, .unset, .unset] [(.int 0)])) _
  refine XS.istore X0.here hx rfl (hb hby at_364) rfl (l' := #[s0, s1, s2, s3, s4, s5, .val (.int c0), .val (.int c1), .val (.int c2), .val (.int c3), .val (.int c4), .val (.int c5), .val (.int c6), s13, s14, s15, s16, s17, .val (.int v18), s19, .val .null, .val (.int 0), .unset, .unset]) rfl ?_
  refine XS.iload X0.here hx rfl (hb hby at_366) rfl ?_
  refine XS.bipush X0.here hx rfl (hb hby at_368) ?_
  refine XS.isub X0.here hx rfl (hb hby at_370) rfl ?_
  refine XS.sipush X0.here hx rfl (hb hby at_371) ?_
  refine XS.imul X0.here hx rfl (hb hby at_374) rfl ?_
  refine XS.iload X0.here hx rfl (hb hby at_375) rfl ?_
  show Steps p.tables e below (T0.setTop (mkF m 377 #[s0, s1, s2, s3, s4, s5, .val (.int c0), .val (.int c1), .val (.int c2), .val (.int c3), .val (.int c4), .val (.int c5), .val (.int c6), s13, s14, s15, s16, s17, .val (.int v18), s19, .val .null, .val (.int 0), .unset, .unset] [(.int c1), (.int ((c0 - (48 : Int32)) * (1000 : Int32)))])) _
  refine XS.bipush X0.here hx rfl (hb hby at_377) ?_
  refine XS.isub X0.here hx rfl (hb hby at_379) rfl ?_
  refine XS.bipush X0.here hx rfl (hb hby at_380) ?_
  refine XS.imul X0.here hx rfl (hb hby at_382) rfl ?_
  refine XS.iadd X0.here hx rfl (hb hby at_383) rfl ?_
  refine XS.iload X0.here hx rfl (hb hby at_384) rfl ?_
  refine XS.bipush X0.here hx rfl (hb hby at_386) ?_
  show Steps p.tables e below (T0.setTop (mkF m 388 #[s0, s1, s2, s3, s4, s5, .val (.int c0), .val (.int c1), .val (.int c2), .val (.int c3), .val (.int c4), .val (.int c5), .val (.int c6), s13, s14, s15, s16, s17, .val (.int v18), s19, .val .null, .val (.int 0), .unset, .unset] [(.int 48), (.int c2), (.int (((c0 - (48 : Int32)) * (1000 : Int32)) + ((c1 - (48 : Int32)) * (100 : Int32))))])) _
  refine XS.isub X0.here hx rfl (hb hby at_388) rfl ?_
  refine XS.bipush X0.here hx rfl (hb hby at_389) ?_
  refine XS.imul X0.here hx rfl (hb hby at_391) rfl ?_
  refine XS.iadd X0.here hx rfl (hb hby at_392) rfl ?_
  refine XS.iload X0.here hx rfl (hb hby at_393) rfl ?_
  refine XS.bipush X0.here hx rfl (hb hby at_395) ?_
  refine XS.isub X0.here hx rfl (hb hby at_397) rfl ?_
  show Steps p.tables e below (T0.setTop (mkF m 398 #[s0, s1, s2, s3, s4, s5, .val (.int c0), .val (.int c1), .val (.int c2), .val (.int c3), .val (.int c4), .val (.int c5), .val (.int c6), s13, s14, s15, s16, s17, .val (.int v18), s19, .val .null, .val (.int 0), .unset, .unset] [(.int (c3 - (48 : Int32))), (.int ((((c0 - (48 : Int32)) * (1000 : Int32)) + ((c1 - (48 : Int32)) * (100 : Int32))) + ((c2 - (48 : Int32)) * (10 : Int32))))])) _
  refine XS.iadd X0.here hx rfl (hb hby at_398) rfl ?_
  refine XS.istore X0.here hx rfl (hb hby at_399) rfl (l' := #[s0, s1, s2, s3, s4, s5, .val (.int c0), .val (.int c1), .val (.int c2), .val (.int c3), .val (.int c4), .val (.int c5), .val (.int c6), s13, s14, s15, s16, s17, .val (.int v18), s19, .val .null, .val (.int 0), .val (.int (((((c0 - (48 : Int32)) * (1000 : Int32)) + ((c1 - (48 : Int32)) * (100 : Int32))) + ((c2 - (48 : Int32)) * (10 : Int32))) + (c3 - (48 : Int32)))), .unset]) rfl ?_
  refine XS.iload X0.here hx rfl (hb hby at_401) rfl ?_
  refine XS.bipush X0.here hx rfl (hb hby at_403) ?_
  refine XS.isub X0.here hx rfl (hb hby at_405) rfl ?_
  refine XS.bipush X0.here hx rfl (hb hby at_406) ?_
  refine XS.imul X0.here hx rfl (hb hby at_408) rfl ?_
  show Steps p.tables e below (T0.setTop (mkF m 409 #[s0, s1, s2, s3, s4, s5, .val (.int c0), .val (.int c1), .val (.int c2), .val (.int c3), .val (.int c4), .val (.int c5), .val (.int c6), s13, s14, s15, s16, s17, .val (.int v18), s19, .val .null, .val (.int 0), .val (.int (((((c0 - (48 : Int32)) * (1000 : Int32)) + ((c1 - (48 : Int32)) * (100 : Int32))) + ((c2 - (48 : Int32)) * (10 : Int32))) + (c3 - (48 : Int32)))), .unset] [(.int ((c5 - (48 : Int32)) * (10 : Int32)))])) _
  refine XS.iload X0.here hx rfl (hb hby at_409) rfl ?_
  refine XS.bipush X0.here hx rfl (hb hby at_411) ?_
  refine XS.isub X0.here hx rfl (hb hby at_413) rfl ?_
  refine XS.iadd X0.here hx rfl (hb hby at_414) rfl ?_
  refine XS.istore X0.here hx rfl (hb hby at_415) rfl (l' := #[s0, s1, s2, s3, s4, s5, .val (.int c0), .val (.int c1), .val (.int c2), .val (.int c3), .val (.int c4), .val (.int c5), .val (.int c6), s13, s14, s15, s16, s17, .val (.int v18), s19, .val .null, .val (.int 0), .val (.int (((((c0 - (48 : Int32)) * (1000 : Int32)) + ((c1 - (48 : Int32)) * (100 : Int32))) + ((c2 - (48 : Int32)) * (10 : Int32))) + (c3 - (48 : Int32)))), .val (.int (((c5 - (48 : Int32)) * (10 : Int32)) + (c6 - (48 : Int32))))]) rfl ?_
  refine XS.iload X0.here hx rfl (hb hby at_417) rfl ?_
  refine XS.ifYes X0.here hx rfl (pc0 := 419) (pc' := 442) rfl (hb hby at_419) rfl ((if0 _ _).trans (teq (by decide : (0 : Int32) = (0 : Int32))).1) (by decide) (by decide) ?_
  show Steps p.tables e below (T0.setTop (mkF m 442 #[s0, s1, s2, s3, s4, s5, .val (.int c0), .val (.int c1), .val (.int c2), .val (.int c3), .val (.int c4), .val (.int c5), .val (.int c6), s13, s14, s15, s16, s17, .val (.int v18), s19, .val .null, .val (.int 0), .val (.int (((((c0 - (48 : Int32)) * (1000 : Int32)) + ((c1 - (48 : Int32)) * (100 : Int32))) + ((c2 - (48 : Int32)) * (10 : Int32))) + (c3 - (48 : Int32)))), .val (.int (((c5 - (48 : Int32)) * (10 : Int32)) + (c6 - (48 : Int32))))] [])) _
  refine XS.iload X0.here hx rfl (hb hby at_442) rfl ?_
  refine XS.ifNo X0.here hx rfl (hb hby at_444) rfl ((if0 _ _).trans (teq (by decide : (0 : Int32) = (0 : Int32))).2) ?_
  refine XS.aload X0.here hx rfl (hb hby at_447) rfl rfl ?_
  refine XS.ifnonnullNo X0.here hx rfl (hb hby at_449) rfl ?_
  refine XS.iconst X0.here hx rfl (hb hby at_452) ?_
  refine XS.goto X0.here hx rfl (pc0 := 453) (pc' := 457) rfl (hb hby at_453) (by decide) (by decide) ?_
  exact kt
theorem tu1 {p : Program} {l : Launch} {e : Env} {s : State} {m : MethodId} {args : Array Value} {below : List Frame} {meth : Method} {c : Code} {T0 : State} {locs : List Loc} {Z : State} {a0 : Array Value} (hw : ∀ d ∈ tables_1, d.before a0 Z = true) (s0 s1 s2 s3 s4 s5 : Slot) (c0 c1 c2 c3 c4 c5 c6 : Int32) (s13 s14 s15 s16 s17 : Slot) (v18 : Int32) (s19 : Slot) (h0 : Heap) (n0 : Nat) (X0 : Stand p l e room_1 s m args below meth c T0 locs 10 60) (N0 : Fr n0 locs) (hx : p.tables.exec = Jvm.exec) (hZ : Z.Warmed39 s.vm) (hby : c.code = code) (hml : c.maxLocals = 24) (hown : s.vm.findClass "com/example/vestwright/vestwright/ValuesMonthPinLaw" = some m.cls) (e0 : T0.heap = h0) (O0 : Old Z n0 h0) (hc425 : (((c5 - (48 : Int32)) * (10 : Int32)) + (c6 - (48 : Int32))) < (1 : Int32)) :
    ∃ (T' : State) (locs' : List Loc), Stand p l e room_1 s m args below meth c T' locs' 10 60 ∧ Fr n0 locs' ∧ T'.heap = h0 ∧
      ∀ target, Steps p.tables e below (T'.setTop (mkF m 457 #[s0, s1, s2, s3, s4, s5, .val (.int c0), .val (.int c1), .val (.int c2), .val (.int c3), .val (.int c4), .val (.int c5), .val (.int c6), s13, s14, s15, s16, s17, .val (.int v18), s19, .val .null, .val (.int 0), .val (.int (((((c0 - (48 : Int32)) * (1000 : Int32)) + ((c1 - (48 : Int32)) * (100 : Int32))) + ((c2 - (48 : Int32)) * (10 : Int32))) + (c3 - (48 : Int32)))), .val (.int (((c5 - (48 : Int32)) * (10 : Int32)) + (c6 - (48 : Int32))))] [(.int 1)])) target → Steps p.tables e below (T0.setTop (mkF m 364 #[s0, s1, s2, s3, s4, s5, .val (.int c0), .val (.int c1), .val (.int c2), .val (.int c3), .val (.int c4), .val (.int c5), .val (.int c6), s13, s14, s15, s16, s17, .val (.int v18), s19, .val .null, .unset, .unset, .unset] [(.int 1)])) target := by
  have Z0 : n0 ≤ h0.size := O0.1 ▸ O0.2.1
  refine ⟨T0, _, X0, N0, e0, fun target kt => ?_⟩
  show Steps p.tables e below (T0.setTop (mkF m 364 #[s0, s1, s2, s3, s4, s5, .val (.int c0), .val (.int c1), .val (.int c2), .val (.int c3), .val (.int c4), .val (.int c5), .val (.int c6), s13, s14, s15, s16, s17, .val (.int v18), s19, .val .null, .unset, .unset, .unset] [(.int 1)])) _
  refine XS.istore X0.here hx rfl (hb hby at_364) rfl (l' := #[s0, s1, s2, s3, s4, s5, .val (.int c0), .val (.int c1), .val (.int c2), .val (.int c3), .val (.int c4), .val (.int c5), .val (.int c6), s13, s14, s15, s16, s17, .val (.int v18), s19, .val .null, .val (.int 1), .unset, .unset]) rfl ?_
  refine XS.iload X0.here hx rfl (hb hby at_366) rfl ?_
  refine XS.bipush X0.here hx rfl (hb hby at_368) ?_
  refine XS.isub X0.here hx rfl (hb hby at_370) rfl ?_
  refine XS.sipush X0.here hx rfl (hb hby at_371) ?_
  refine XS.imul X0.here hx rfl (hb hby at_374) rfl ?_
  refine XS.iload X0.here hx rfl (hb hby at_375) rfl ?_
  show Steps p.tables e below (T0.setTop (mkF m 377 #[s0, s1, s2, s3, s4, s5, .val (.int c0), .val (.int c1), .val (.int c2), .val (.int c3), .val (.int c4), .val (.int c5), .val (.int c6), s13, s14, s15, s16, s17, .val (.int v18), s19, .val .null, .val (.int 1), .unset, .unset] [(.int c1), (.int ((c0 - (48 : Int32)) * (1000 : Int32)))])) _
  refine XS.bipush X0.here hx rfl (hb hby at_377) ?_
  refine XS.isub X0.here hx rfl (hb hby at_379) rfl ?_
  refine XS.bipush X0.here hx rfl (hb hby at_380) ?_
  refine XS.imul X0.here hx rfl (hb hby at_382) rfl ?_
  refine XS.iadd X0.here hx rfl (hb hby at_383) rfl ?_
  refine XS.iload X0.here hx rfl (hb hby at_384) rfl ?_
  refine XS.bipush X0.here hx rfl (hb hby at_386) ?_
  show Steps p.tables e below (T0.setTop (mkF m 388 #[s0, s1, s2, s3, s4, s5, .val (.int c0), .val (.int c1), .val (.int c2), .val (.int c3), .val (.int c4), .val (.int c5), .val (.int c6), s13, s14, s15, s16, s17, .val (.int v18), s19, .val .null, .val (.int 1), .unset, .unset] [(.int 48), (.int c2), (.int (((c0 - (48 : Int32)) * (1000 : Int32)) + ((c1 - (48 : Int32)) * (100 : Int32))))])) _
  refine XS.isub X0.here hx rfl (hb hby at_388) rfl ?_
  refine XS.bipush X0.here hx rfl (hb hby at_389) ?_
  refine XS.imul X0.here hx rfl (hb hby at_391) rfl ?_
  refine XS.iadd X0.here hx rfl (hb hby at_392) rfl ?_
  refine XS.iload X0.here hx rfl (hb hby at_393) rfl ?_
  refine XS.bipush X0.here hx rfl (hb hby at_395) ?_
  refine XS.isub X0.here hx rfl (hb hby at_397) rfl ?_
  show Steps p.tables e below (T0.setTop (mkF m 398 #[s0, s1, s2, s3, s4, s5, .val (.int c0), .val (.int c1), .val (.int c2), .val (.int c3), .val (.int c4), .val (.int c5), .val (.int c6), s13, s14, s15, s16, s17, .val (.int v18), s19, .val .null, .val (.int 1), .unset, .unset] [(.int (c3 - (48 : Int32))), (.int ((((c0 - (48 : Int32)) * (1000 : Int32)) + ((c1 - (48 : Int32)) * (100 : Int32))) + ((c2 - (48 : Int32)) * (10 : Int32))))])) _
  refine XS.iadd X0.here hx rfl (hb hby at_398) rfl ?_
  refine XS.istore X0.here hx rfl (hb hby at_399) rfl (l' := #[s0, s1, s2, s3, s4, s5, .val (.int c0), .val (.int c1), .val (.int c2), .val (.int c3), .val (.int c4), .val (.int c5), .val (.int c6), s13, s14, s15, s16, s17, .val (.int v18), s19, .val .null, .val (.int 1), .val (.int (((((c0 - (48 : Int32)) * (1000 : Int32)) + ((c1 - (48 : Int32)) * (100 : Int32))) + ((c2 - (48 : Int32)) * (10 : Int32))) + (c3 - (48 : Int32)))), .unset]) rfl ?_
  refine XS.iload X0.here hx rfl (hb hby at_401) rfl ?_
  refine XS.bipush X0.here hx rfl (hb hby at_403) ?_
  refine XS.isub X0.here hx rfl (hb hby at_405) rfl ?_
  refine XS.bipush X0.here hx rfl (hb hby at_406) ?_
  refine XS.imul X0.here hx rfl (hb hby at_408) rfl ?_
  show Steps p.tables e below (T0.setTop (mkF m 409 #[s0, s1, s2, s3, s4, s5, .val (.int c0), .val (.int c1), .val (.int c2), .val (.int c3), .val (.int c4), .val (.int c5), .val (.int c6), s13, s14, s15, s16, s17, .val (.int v18), s19, .val .null, .val (.int 1), .val (.int (((((c0 - (48 : Int32)) * (1000 : Int32)) + ((c1 - (48 : Int32)) * (100 : Int32))) + ((c2 - (48 : Int32)) * (10 : Int32))) + (c3 - (48 : Int32)))), .unset] [(.int ((c5 - (48 : Int32)) * (10 : Int32)))])) _
  refine XS.iload X0.here hx rfl (hb hby at_409) rfl ?_
  refine XS.bipush X0.here hx rfl (hb hby at_411) ?_
  refine XS.isub X0.here hx rfl (hb hby at_413) rfl ?_
  refine XS.iadd X0.here hx rfl (hb hby at_414) rfl ?_
  refine XS.istore X0.here hx rfl (hb hby at_415) rfl (l' := #[s0, s1, s2, s3, s4, s5, .val (.int c0), .val (.int c1), .val (.int c2), .val (.int c3), .val (.int c4), .val (.int c5), .val (.int c6), s13, s14, s15, s16, s17, .val (.int v18), s19, .val .null, .val (.int 1), .val (.int (((((c0 - (48 : Int32)) * (1000 : Int32)) + ((c1 - (48 : Int32)) * (100 : Int32))) + ((c2 - (48 : Int32)) * (10 : Int32))) + (c3 - (48 : Int32)))), .val (.int (((c5 - (48 : Int32)) * (10 : Int32)) + (c6 - (48 : Int32))))]) rfl ?_
  refine XS.iload X0.here hx rfl (hb hby at_417) rfl ?_
  refine XS.ifNo X0.here hx rfl (hb hby at_419) rfl ((if0 _ _).trans (feq (by decide : ¬ ((1 : Int32) = (0 : Int32)))).1) ?_
  show Steps p.tables e below (T0.setTop (mkF m 422 #[s0, s1, s2, s3, s4, s5, .val (.int c0), .val (.int c1), .val (.int c2), .val (.int c3), .val (.int c4), .val (.int c5), .val (.int c6), s13, s14, s15, s16, s17, .val (.int v18), s19, .val .null, .val (.int 1), .val (.int (((((c0 - (48 : Int32)) * (1000 : Int32)) + ((c1 - (48 : Int32)) * (100 : Int32))) + ((c2 - (48 : Int32)) * (10 : Int32))) + (c3 - (48 : Int32)))), .val (.int (((c5 - (48 : Int32)) * (10 : Int32)) + (c6 - (48 : Int32))))] [])) _
  refine XS.iload X0.here hx rfl (hb hby at_422) rfl ?_
  refine XS.iconst X0.here hx rfl (hb hby at_424) ?_
  refine XS.icmpYes X0.here hx rfl (pc0 := 425) (pc' := 439) rfl (hb hby at_425) rfl (tlt hc425).1 (by decide) (by decide) ?_
  refine XS.iconst X0.here hx rfl (hb hby at_439) ?_
  refine XS.istore X0.here hx rfl (hb hby at_440) rfl (l' := #[s0, s1, s2, s3, s4, s5, .val (.int c0), .val (.int c1), .val (.int c2), .val (.int c3), .val (.int c4), .val (.int c5), .val (.int c6), s13, s14, s15, s16, s17, .val (.int v18), s19, .val .null, .val (.int 0), .val (.int (((((c0 - (48 : Int32)) * (1000 : Int32)) + ((c1 - (48 : Int32)) * (100 : Int32))) + ((c2 - (48 : Int32)) * (10 : Int32))) + (c3 - (48 : Int32)))), .val (.int (((c5 - (48 : Int32)) * (10 : Int32)) + (c6 - (48 : Int32))))]) rfl ?_
  refine XS.iload X0.here hx rfl (hb hby at_442) rfl ?_
  refine XS.ifNo X0.here hx rfl (hb hby at_444) rfl ((if0 _ _).trans (teq (by decide : (0 : Int32) = (0 : Int32))).2) ?_
  show Steps p.tables e below (T0.setTop (mkF m 447 #[s0, s1, s2, s3, s4, s5, .val (.int c0), .val (.int c1), .val (.int c2), .val (.int c3), .val (.int c4), .val (.int c5), .val (.int c6), s13, s14, s15, s16, s17, .val (.int v18), s19, .val .null, .val (.int 0), .val (.int (((((c0 - (48 : Int32)) * (1000 : Int32)) + ((c1 - (48 : Int32)) * (100 : Int32))) + ((c2 - (48 : Int32)) * (10 : Int32))) + (c3 - (48 : Int32)))), .val (.int (((c5 - (48 : Int32)) * (10 : Int32)) + (c6 - (48 : Int32))))] [])) _
  refine XS.aload X0.here hx rfl (hb hby at_447) rfl rfl ?_
  refine XS.ifnonnullNo X0.here hx rfl (hb hby at_449) rfl ?_
  refine XS.iconst X0.here hx rfl (hb hby at_452) ?_
  refine XS.goto X0.here hx rfl (pc0 := 453) (pc' := 457) rfl (hb hby at_453) (by decide) (by decide) ?_
  exact kt
theorem tu2 {p : Program} {l : Launch} {e : Env} {s : State} {m : MethodId} {args : Array Value} {below : List Frame} {meth : Method} {c : Code} {T0 : State} {locs : List Loc} {Z : State} {a0 : Array Value} (hw : ∀ d ∈ tables_1, d.before a0 Z = true) (s0 s1 s2 s3 s4 s5 : Slot) (c0 c1 c2 c3 c4 c5 c6 : Int32) (s13 s14 s15 s16 s17 : Slot) (v18 : Int32) (s19 : Slot) (h0 : Heap) (n0 : Nat) (X0 : Stand p l e room_1 s m args below meth c T0 locs 10 60) (N0 : Fr n0 locs) (hx : p.tables.exec = Jvm.exec) (hZ : Z.Warmed39 s.vm) (hby : c.code = code) (hml : c.maxLocals = 24) (hown : s.vm.findClass "com/example/vestwright/vestwright/ValuesMonthPinLaw" = some m.cls) (e0 : T0.heap = h0) (O0 : Old Z n0 h0) (hc425 : ¬ ((((c5 - (48 : Int32)) * (10 : Int32)) + (c6 - (48 : Int32))) < (1 : Int32))) (hc432 : (12 : Int32) < (((c5 - (48 : Int32)) * (10 : Int32)) + (c6 - (48 : Int32)))) :
    ∃ (T' : State) (locs' : List Loc), Stand p l e room_1 s m args below meth c T' locs' 10 60 ∧ Fr n0 locs' ∧ T'.heap = h0 ∧
      ∀ target, Steps p.tables e below (T'.setTop (mkF m 457 #[s0, s1, s2, s3, s4, s5, .val (.int c0), .val (.int c1), .val (.int c2), .val (.int c3), .val (.int c4), .val (.int c5), .val (.int c6), s13, s14, s15, s16, s17, .val (.int v18), s19, .val .null, .val (.int 0), .val (.int (((((c0 - (48 : Int32)) * (1000 : Int32)) + ((c1 - (48 : Int32)) * (100 : Int32))) + ((c2 - (48 : Int32)) * (10 : Int32))) + (c3 - (48 : Int32)))), .val (.int (((c5 - (48 : Int32)) * (10 : Int32)) + (c6 - (48 : Int32))))] [(.int 1)])) target → Steps p.tables e below (T0.setTop (mkF m 364 #[s0, s1, s2, s3, s4, s5, .val (.int c0), .val (.int c1), .val (.int c2), .val (.int c3), .val (.int c4), .val (.int c5), .val (.int c6), s13, s14, s15, s16, s17, .val (.int v18), s19, .val .null, .unset, .unset, .unset] [(.int 1)])) target := by
  have Z0 : n0 ≤ h0.size := O0.1 ▸ O0.2.1
  refine ⟨T0, _, X0, N0, e0, fun target kt => ?_⟩
  show Steps p.tables e below (T0.setTop (mkF m 364 #[s0, s1, s2, s3, s4, s5, .val (.int c0), .val (.int c1), .val (.int c2), .val (.int c3), .val (.int c4), .val (.int c5), .val (.int c6), s13, s14, s15, s16, s17, .val (.int v18), s19, .val .null, .unset, .unset, .unset] [(.int 1)])) _
  refine XS.istore X0.here hx rfl (hb hby at_364) rfl (l' := #[s0, s1, s2, s3, s4, s5, .val (.int c0), .val (.int c1), .val (.int c2), .val (.int c3), .val (.int c4), .val (.int c5), .val (.int c6), s13, s14, s15, s16, s17, .val (.int v18), s19, .val .null, .val (.int 1), .unset, .unset]) rfl ?_
  refine XS.iload X0.here hx rfl (hb hby at_366) rfl ?_
  refine XS.bipush X0.here hx rfl (hb hby at_368) ?_
  refine XS.isub X0.here hx rfl (hb hby at_370) rfl ?_
  refine XS.sipush X0.here hx rfl (hb hby at_371) ?_
  refine XS.imul X0.here hx rfl (hb hby at_374) rfl ?_
  refine XS.iload X0.here hx rfl (hb hby at_375) rfl ?_
  show Steps p.tables e below (T0.setTop (mkF m 377 #[s0, s1, s2, s3, s4, s5, .val (.int c0), .val (.int c1), .val (.int c2), .val (.int c3), .val (.int c4), .val (.int c5), .val (.int c6), s13, s14, s15, s16, s17, .val (.int v18), s19, .val .null, .val (.int 1), .unset, .unset] [(.int c1), (.int ((c0 - (48 : Int32)) * (1000 : Int32)))])) _
  refine XS.bipush X0.here hx rfl (hb hby at_377) ?_
  refine XS.isub X0.here hx rfl (hb hby at_379) rfl ?_
  refine XS.bipush X0.here hx rfl (hb hby at_380) ?_
  refine XS.imul X0.here hx rfl (hb hby at_382) rfl ?_
  refine XS.iadd X0.here hx rfl (hb hby at_383) rfl ?_
  refine XS.iload X0.here hx rfl (hb hby at_384) rfl ?_
  refine XS.bipush X0.here hx rfl (hb hby at_386) ?_
  show Steps p.tables e below (T0.setTop (mkF m 388 #[s0, s1, s2, s3, s4, s5, .val (.int c0), .val (.int c1), .val (.int c2), .val (.int c3), .val (.int c4), .val (.int c5), .val (.int c6), s13, s14, s15, s16, s17, .val (.int v18), s19, .val .null, .val (.int 1), .unset, .unset] [(.int 48), (.int c2), (.int (((c0 - (48 : Int32)) * (1000 : Int32)) + ((c1 - (48 : Int32)) * (100 : Int32))))])) _
  refine XS.isub X0.here hx rfl (hb hby at_388) rfl ?_
  refine XS.bipush X0.here hx rfl (hb hby at_389) ?_
  refine XS.imul X0.here hx rfl (hb hby at_391) rfl ?_
  refine XS.iadd X0.here hx rfl (hb hby at_392) rfl ?_
  refine XS.iload X0.here hx rfl (hb hby at_393) rfl ?_
  refine XS.bipush X0.here hx rfl (hb hby at_395) ?_
  refine XS.isub X0.here hx rfl (hb hby at_397) rfl ?_
  show Steps p.tables e below (T0.setTop (mkF m 398 #[s0, s1, s2, s3, s4, s5, .val (.int c0), .val (.int c1), .val (.int c2), .val (.int c3), .val (.int c4), .val (.int c5), .val (.int c6), s13, s14, s15, s16, s17, .val (.int v18), s19, .val .null, .val (.int 1), .unset, .unset] [(.int (c3 - (48 : Int32))), (.int ((((c0 - (48 : Int32)) * (1000 : Int32)) + ((c1 - (48 : Int32)) * (100 : Int32))) + ((c2 - (48 : Int32)) * (10 : Int32))))])) _
  refine XS.iadd X0.here hx rfl (hb hby at_398) rfl ?_
  refine XS.istore X0.here hx rfl (hb hby at_399) rfl (l' := #[s0, s1, s2, s3, s4, s5, .val (.int c0), .val (.int c1), .val (.int c2), .val (.int c3), .val (.int c4), .val (.int c5), .val (.int c6), s13, s14, s15, s16, s17, .val (.int v18), s19, .val .null, .val (.int 1), .val (.int (((((c0 - (48 : Int32)) * (1000 : Int32)) + ((c1 - (48 : Int32)) * (100 : Int32))) + ((c2 - (48 : Int32)) * (10 : Int32))) + (c3 - (48 : Int32)))), .unset]) rfl ?_
  refine XS.iload X0.here hx rfl (hb hby at_401) rfl ?_
  refine XS.bipush X0.here hx rfl (hb hby at_403) ?_
  refine XS.isub X0.here hx rfl (hb hby at_405) rfl ?_
  refine XS.bipush X0.here hx rfl (hb hby at_406) ?_
  refine XS.imul X0.here hx rfl (hb hby at_408) rfl ?_
  show Steps p.tables e below (T0.setTop (mkF m 409 #[s0, s1, s2, s3, s4, s5, .val (.int c0), .val (.int c1), .val (.int c2), .val (.int c3), .val (.int c4), .val (.int c5), .val (.int c6), s13, s14, s15, s16, s17, .val (.int v18), s19, .val .null, .val (.int 1), .val (.int (((((c0 - (48 : Int32)) * (1000 : Int32)) + ((c1 - (48 : Int32)) * (100 : Int32))) + ((c2 - (48 : Int32)) * (10 : Int32))) + (c3 - (48 : Int32)))), .unset] [(.int ((c5 - (48 : Int32)) * (10 : Int32)))])) _
  refine XS.iload X0.here hx rfl (hb hby at_409) rfl ?_
  refine XS.bipush X0.here hx rfl (hb hby at_411) ?_
  refine XS.isub X0.here hx rfl (hb hby at_413) rfl ?_
  refine XS.iadd X0.here hx rfl (hb hby at_414) rfl ?_
  refine XS.istore X0.here hx rfl (hb hby at_415) rfl (l' := #[s0, s1, s2, s3, s4, s5, .val (.int c0), .val (.int c1), .val (.int c2), .val (.int c3), .val (.int c4), .val (.int c5), .val (.int c6), s13, s14, s15, s16, s17, .val (.int v18), s19, .val .null, .val (.int 1), .val (.int (((((c0 - (48 : Int32)) * (1000 : Int32)) + ((c1 - (48 : Int32)) * (100 : Int32))) + ((c2 - (48 : Int32)) * (10 : Int32))) + (c3 - (48 : Int32)))), .val (.int (((c5 - (48 : Int32)) * (10 : Int32)) + (c6 - (48 : Int32))))]) rfl ?_
  refine XS.iload X0.here hx rfl (hb hby at_417) rfl ?_
  refine XS.ifNo X0.here hx rfl (hb hby at_419) rfl ((if0 _ _).trans (feq (by decide : ¬ ((1 : Int32) = (0 : Int32)))).1) ?_
  show Steps p.tables e below (T0.setTop (mkF m 422 #[s0, s1, s2, s3, s4, s5, .val (.int c0), .val (.int c1), .val (.int c2), .val (.int c3), .val (.int c4), .val (.int c5), .val (.int c6), s13, s14, s15, s16, s17, .val (.int v18), s19, .val .null, .val (.int 1), .val (.int (((((c0 - (48 : Int32)) * (1000 : Int32)) + ((c1 - (48 : Int32)) * (100 : Int32))) + ((c2 - (48 : Int32)) * (10 : Int32))) + (c3 - (48 : Int32)))), .val (.int (((c5 - (48 : Int32)) * (10 : Int32)) + (c6 - (48 : Int32))))] [])) _
  refine XS.iload X0.here hx rfl (hb hby at_422) rfl ?_
  refine XS.iconst X0.here hx rfl (hb hby at_424) ?_
  refine XS.icmpNo X0.here hx rfl (hb hby at_425) rfl (flt hc425).1 ?_
  refine XS.iload X0.here hx rfl (hb hby at_428) rfl ?_
  refine XS.bipush X0.here hx rfl (hb hby at_430) ?_
  refine XS.icmpYes X0.here hx rfl (pc0 := 432) (pc' := 439) rfl (hb hby at_432) rfl (tlt hc432).2.2.1 (by decide) (by decide) ?_
  refine XS.iconst X0.here hx rfl (hb hby at_439) ?_
  show Steps p.tables e below (T0.setTop (mkF m 440 #[s0, s1, s2, s3, s4, s5, .val (.int c0), .val (.int c1), .val (.int c2), .val (.int c3), .val (.int c4), .val (.int c5), .val (.int c6), s13, s14, s15, s16, s17, .val (.int v18), s19, .val .null, .val (.int 1), .val (.int (((((c0 - (48 : Int32)) * (1000 : Int32)) + ((c1 - (48 : Int32)) * (100 : Int32))) + ((c2 - (48 : Int32)) * (10 : Int32))) + (c3 - (48 : Int32)))), .val (.int (((c5 - (48 : Int32)) * (10 : Int32)) + (c6 - (48 : Int32))))] [(.int 0)])) _
  refine XS.istore X0.here hx rfl (hb hby at_440) rfl (l' := #[s0, s1, s2, s3, s4, s5, .val (.int c0), .val (.int c1), .val (.int c2), .val (.int c3), .val (.int c4), .val (.int c5), .val (.int c6), s13, s14, s15, s16, s17, .val (.int v18), s19, .val .null, .val (.int 0), .val (.int (((((c0 - (48 : Int32)) * (1000 : Int32)) + ((c1 - (48 : Int32)) * (100 : Int32))) + ((c2 - (48 : Int32)) * (10 : Int32))) + (c3 - (48 : Int32)))), .val (.int (((c5 - (48 : Int32)) * (10 : Int32)) + (c6 - (48 : Int32))))]) rfl ?_
  refine XS.iload X0.here hx rfl (hb hby at_442) rfl ?_
  refine XS.ifNo X0.here hx rfl (hb hby at_444) rfl ((if0 _ _).trans (teq (by decide : (0 : Int32) = (0 : Int32))).2) ?_
  refine XS.aload X0.here hx rfl (hb hby at_447) rfl rfl ?_
  refine XS.ifnonnullNo X0.here hx rfl (hb hby at_449) rfl ?_
  refine XS.iconst X0.here hx rfl (hb hby at_452) ?_
  refine XS.goto X0.here hx rfl (pc0 := 453) (pc' := 457) rfl (hb hby at_453) (by decide) (by decide) ?_
  exact kt
theorem tuk {p : Program} {l : Launch} {e : Env} {s : State} {m : MethodId} {args : Array Value} {below : List Frame} {meth : Method} {c : Code} {T0 : State} {locs : List Loc} {Z : State} {a0 : Array Value} (hw : ∀ d ∈ tables_1, d.before a0 Z = true) (s0 s1 s2 s3 s4 s5 : Slot) (c0 c1 c2 c3 c4 c5 c6 : Int32) (s13 s14 s15 s16 s17 : Slot) (v18 : Int32) (s19 : Slot) (ym : Addr) (yy mm : Int32) (h0 : Heap) (n0 : Nat) (X0 : Stand p l e room_1 s m args below meth c T0 locs 10 60) (N0 : Fr n0 locs) (hx : p.tables.exec = Jvm.exec) (hZ : Z.Warmed39 s.vm) (hby : c.code = code) (hml : c.maxLocals = 24) (hown : s.vm.findClass "com/example/vestwright/vestwright/ValuesMonthPinLaw" = some m.cls) (e0 : T0.heap = h0) (O0 : Old Z n0 h0) (HE_ym : Exa Z h0 ym "java/time/YearMonth") (HF_ym_year : Fld Z h0 ym "java/time/YearMonth" "year" "I" (.int yy)) (HF_ym_month : Fld Z h0 ym "java/time/YearMonth" "month" "I" (.int mm)) (hc425 : ¬ ((((c5 - (48 : Int32)) * (10 : Int32)) + (c6 - (48 : Int32))) < (1 : Int32))) (hc432 : ¬ ((12 : Int32) < (((c5 - (48 : Int32)) * (10 : Int32)) + (c6 - (48 : Int32))))) (hc470 : yy = (((((c0 - (48 : Int32)) * (1000 : Int32)) + ((c1 - (48 : Int32)) * (100 : Int32))) + ((c2 - (48 : Int32)) * (10 : Int32))) + (c3 - (48 : Int32)))) (hc480 : mm = (((c5 - (48 : Int32)) * (10 : Int32)) + (c6 - (48 : Int32)))) :
    ∃ (T' : State) (locs' : List Loc), Stand p l e room_1 s m args below meth c T' locs' 10 60 ∧ Fr n0 locs' ∧ T'.heap = h0 ∧
      ∀ target, Steps p.tables e below (T'.setTop (mkF m 488 #[s0, s1, s2, s3, s4, s5, .val (.int c0), .val (.int c1), .val (.int c2), .val (.int c3), .val (.int c4), .val (.int c5), .val (.int c6), s13, s14, s15, s16, s17, .val (.int v18), s19, .val (.ref ym), .val (.int 1), .val (.int (((((c0 - (48 : Int32)) * (1000 : Int32)) + ((c1 - (48 : Int32)) * (100 : Int32))) + ((c2 - (48 : Int32)) * (10 : Int32))) + (c3 - (48 : Int32)))), .val (.int (((c5 - (48 : Int32)) * (10 : Int32)) + (c6 - (48 : Int32))))] [(.int 1)])) target → Steps p.tables e below (T0.setTop (mkF m 364 #[s0, s1, s2, s3, s4, s5, .val (.int c0), .val (.int c1), .val (.int c2), .val (.int c3), .val (.int c4), .val (.int c5), .val (.int c6), s13, s14, s15, s16, s17, .val (.int v18), s19, .val (.ref ym), .unset, .unset, .unset] [(.int 1)])) target := by
  have Z0 : n0 ≤ h0.size := O0.1 ▸ O0.2.1
  obtain ⟨cq1, kq1, q1a, q1b, q1c⟩ := isOf hZ e0 HE_ym
  obtain ⟨vr1, _, ⟨T1, L1, k1, n1⟩, -, X1, ⟨Lc1, hQ1, l1, y1, z1⟩, st1⟩ := X0.virtualBack hx (y := (⟨"java/time/YearMonth", "getYear", "()I"⟩ : MethodName)) (z := (⟨"java/time/YearMonth", "getYear", "()I"⟩ : MethodName)) hown (mvT hZ (own_w hw 170 rfl)) (mvT hZ (own_w hw 171 rfl)) (notFace_of_selects (args := #[]) (mvT hZ (own_w hw 173 rfl))) (mvT hZ (own_w hw 173 rfl)) (mvT hZ (own_w hw 172 rfl)) (by decide) (backOf (W := 0) (rm36 l Z a0 hw [] ym yy h0 n0 O0 HF_ym_year) hZ (own_w hw 174 rfl) (own_w hw 117 rfl) (by decide) (by decide)) q1a q1c (g := (mkF m 465 #[s0, s1, s2, s3, s4, s5, .val (.int c0), .val (.int c1), .val (.int c2), .val (.int c3), .val (.int c4), .val (.int c5), .val (.int c6), s13, s14, s15, s16, s17, .val (.int v18), s19, .val (.ref ym), .val (.int 1), .val (.int (((((c0 - (48 : Int32)) * (1000 : Int32)) + ((c1 - (48 : Int32)) * (100 : Int32))) + ((c2 - (48 : Int32)) * (10 : Int32))) + (c3 - (48 : Int32)))), .val (.int (((c5 - (48 : Int32)) * (10 : Int32)) + (c6 - (48 : Int32))))] [(.ref ym)])) rfl (by rw [hml]; rfl) (Steps.refl _) (argsL := []) (rest := []) (lenOf pd_1 rfl) rfl (by show 2 * 0 + _ ≤ _; exact Nat.le_of_eq rfl) (hb hby at_465) (fun _ _ => ⟨rfl, e0, (by decide : 10 + 0 ≤ _), (by decide : 60 + 0 ≤ _)⟩)
  dsimp only [Pt.U, Pt.locs, Pt.cells, Pt.slots] at X1 l1 y1 z1 st1 hQ1
  subst l1 y1 z1
  obtain ⟨rfl, N1q, e1⟩ := hQ1
  have N1 := Fr.app N0 N1q
  replace X1 := X1.more (cells' := 10) (slots' := 60) (by decide) (by decide)
  obtain ⟨cq2, kq2, q2a, q2b, q2c⟩ := isOf hZ e1 HE_ym
  obtain ⟨vr2, _, ⟨T2, L2, k2, n2⟩, -, X2, ⟨Lc2, hQ2, l2, y2, z2⟩, st2⟩ := X1.virtualBack hx (y := (⟨"java/time/YearMonth", "getMonthValue", "()I"⟩ : MethodName)) (z := (⟨"java/time/YearMonth", "getMonthValue", "()I"⟩ : MethodName)) hown (mvT hZ (own_w hw 175 rfl)) (mvT hZ (own_w hw 176 rfl)) (notFace_of_selects (args := #[]) (mvT hZ (own_w hw 178 rfl))) (mvT hZ (own_w hw 178 rfl)) (mvT hZ (own_w hw 177 rfl)) (by decide) (backOf (W := 0) (rm37 l Z a0 hw [] ym mm h0 n0 O0 HF_ym_month) hZ (own_w hw 179 rfl) (own_w hw 117 rfl) (by decide) (by decide)) q2a q2c (g := (mkF m 475 #[s0, s1, s2, s3, s4, s5, .val (.int c0), .val (.int c1), .val (.int c2), .val (.int c3), .val (.int c4), .val (.int c5), .val (.int c6), s13, s14, s15, s16, s17, .val (.int v18), s19, .val (.ref ym), .val (.int 1), .val (.int (((((c0 - (48 : Int32)) * (1000 : Int32)) + ((c1 - (48 : Int32)) * (100 : Int32))) + ((c2 - (48 : Int32)) * (10 : Int32))) + (c3 - (48 : Int32)))), .val (.int (((c5 - (48 : Int32)) * (10 : Int32)) + (c6 - (48 : Int32))))] [(.ref ym)])) rfl (by rw [hml]; rfl) (Steps.refl _) (argsL := []) (rest := []) (lenOf pd_1 rfl) rfl (by show 2 * 0 + _ ≤ _; exact Nat.le_of_eq rfl) (hb hby at_475) (fun _ _ => ⟨rfl, e1, (by decide : 10 + 0 ≤ _), (by decide : 60 + 0 ≤ _)⟩)
  dsimp only [Pt.U, Pt.locs, Pt.cells, Pt.slots] at X2 l2 y2 z2 st2 hQ2
  subst l2 y2 z2
  obtain ⟨rfl, N2q, e2⟩ := hQ2
  have N2 := Fr.app N1 N2q
  replace X2 := X2.more (cells' := 10) (slots' := 60) (by decide) (by decide)
  refine ⟨T2, _, X2, N2, e2, fun target kt => ?_⟩
  show Steps p.tables e below (T0.setTop (mkF m 364 #[s0, s1, s2, s3, s4, s5, .val (.int c0), .val (.int c1), .val (.int c2), .val (.int c3), .val (.int c4), .val (.int c5), .val (.int c6), s13, s14, s15, s16, s17, .val (.int v18), s19, .val (.ref ym), .unset, .unset, .unset] [(.int 1)])) _
  refine XS.istore X0.here hx rfl (hb hby at_364) rfl (l' := #[s0, s1, s2, s3, s4, s5, .val (.int c0), .val (.int c1), .val (.int c2), .val (.int c3), .val (.int c4), .val (.int c5), .val (.int c6), s13, s14, s15, s16, s17, .val (.int v18), s19, .val (.ref ym), .val (.int 1), .unset, .unset]) rfl ?_
  refine XS.iload X0.here hx rfl (hb hby at_366) rfl ?_
  refine XS.bipush X0.here hx rfl (hb hby at_368) ?_
  refine XS.isub X0.here hx rfl (hb hby at_370) rfl ?_
  refine XS.sipush X0.here hx rfl (hb hby at_371) ?_
  refine XS.imul X0.here hx rfl (hb hby at_374) rfl ?_
  refine XS.iload X0.here hx rfl (hb hby at_375) rfl ?_
  show Steps p.tables e below (T0.setTop (mkF m 377 #[s0, s1, s2, s3, s4, s5, .val (.int c0), .val (.int c1), .val (.int c2), .val (.int c3), .val (.int c4), .val (.int c5), .val (.int c6), s13, s14, s15, s16, s17, .val (.int v18), s19, .val (.ref ym), .val (.int 1), .unset, .unset] [(.int c1), (.int ((c0 - (48 : Int32)) * (1000 : Int32)))])) _
  refine XS.bipush X0.here hx rfl (hb hby at_377) ?_
  refine XS.isub X0.here hx rfl (hb hby at_379) rfl ?_
  refine XS.bipush X0.here hx rfl (hb hby at_380) ?_
  refine XS.imul X0.here hx rfl (hb hby at_382) rfl ?_
  refine XS.iadd X0.here hx rfl (hb hby at_383) rfl ?_
  refine XS.iload X0.here hx rfl (hb hby at_384) rfl ?_
  refine XS.bipush X0.here hx rfl (hb hby at_386) ?_
  show Steps p.tables e below (T0.setTop (mkF m 388 #[s0, s1, s2, s3, s4, s5, .val (.int c0), .val (.int c1), .val (.int c2), .val (.int c3), .val (.int c4), .val (.int c5), .val (.int c6), s13, s14, s15, s16, s17, .val (.int v18), s19, .val (.ref ym), .val (.int 1), .unset, .unset] [(.int 48), (.int c2), (.int (((c0 - (48 : Int32)) * (1000 : Int32)) + ((c1 - (48 : Int32)) * (100 : Int32))))])) _
  refine XS.isub X0.here hx rfl (hb hby at_388) rfl ?_
  refine XS.bipush X0.here hx rfl (hb hby at_389) ?_
  refine XS.imul X0.here hx rfl (hb hby at_391) rfl ?_
  refine XS.iadd X0.here hx rfl (hb hby at_392) rfl ?_
  refine XS.iload X0.here hx rfl (hb hby at_393) rfl ?_
  refine XS.bipush X0.here hx rfl (hb hby at_395) ?_
  refine XS.isub X0.here hx rfl (hb hby at_397) rfl ?_
  show Steps p.tables e below (T0.setTop (mkF m 398 #[s0, s1, s2, s3, s4, s5, .val (.int c0), .val (.int c1), .val (.int c2), .val (.int c3), .val (.int c4), .val (.int c5), .val (.int c6), s13, s14, s15, s16, s17, .val (.int v18), s19, .val (.ref ym), .val (.int 1), .unset, .unset] [(.int (c3 - (48 : Int32))), (.int ((((c0 - (48 : Int32)) * (1000 : Int32)) + ((c1 - (48 : Int32)) * (100 : Int32))) + ((c2 - (48 : Int32)) * (10 : Int32))))])) _
  refine XS.iadd X0.here hx rfl (hb hby at_398) rfl ?_
  refine XS.istore X0.here hx rfl (hb hby at_399) rfl (l' := #[s0, s1, s2, s3, s4, s5, .val (.int c0), .val (.int c1), .val (.int c2), .val (.int c3), .val (.int c4), .val (.int c5), .val (.int c6), s13, s14, s15, s16, s17, .val (.int v18), s19, .val (.ref ym), .val (.int 1), .val (.int (((((c0 - (48 : Int32)) * (1000 : Int32)) + ((c1 - (48 : Int32)) * (100 : Int32))) + ((c2 - (48 : Int32)) * (10 : Int32))) + (c3 - (48 : Int32)))), .unset]) rfl ?_
  refine XS.iload X0.here hx rfl (hb hby at_401) rfl ?_
  refine XS.bipush X0.here hx rfl (hb hby at_403) ?_
  refine XS.isub X0.here hx rfl (hb hby at_405) rfl ?_
  refine XS.bipush X0.here hx rfl (hb hby at_406) ?_
  refine XS.imul X0.here hx rfl (hb hby at_408) rfl ?_
  show Steps p.tables e below (T0.setTop (mkF m 409 #[s0, s1, s2, s3, s4, s5, .val (.int c0), .val (.int c1), .val (.int c2), .val (.int c3), .val (.int c4), .val (.int c5), .val (.int c6), s13, s14, s15, s16, s17, .val (.int v18), s19, .val (.ref ym), .val (.int 1), .val (.int (((((c0 - (48 : Int32)) * (1000 : Int32)) + ((c1 - (48 : Int32)) * (100 : Int32))) + ((c2 - (48 : Int32)) * (10 : Int32))) + (c3 - (48 : Int32)))), .unset] [(.int ((c5 - (48 : Int32)) * (10 : Int32)))])) _
  refine XS.iload X0.here hx rfl (hb hby at_409) rfl ?_
  refine XS.bipush X0.here hx rfl (hb hby at_411) ?_
  refine XS.isub X0.here hx rfl (hb hby at_413) rfl ?_
  refine XS.iadd X0.here hx rfl (hb hby at_414) rfl ?_
  refine XS.istore X0.here hx rfl (hb hby at_415) rfl (l' := #[s0, s1, s2, s3, s4, s5, .val (.int c0), .val (.int c1), .val (.int c2), .val (.int c3), .val (.int c4), .val (.int c5), .val (.int c6), s13, s14, s15, s16, s17, .val (.int v18), s19, .val (.ref ym), .val (.int 1), .val (.int (((((c0 - (48 : Int32)) * (1000 : Int32)) + ((c1 - (48 : Int32)) * (100 : Int32))) + ((c2 - (48 : Int32)) * (10 : Int32))) + (c3 - (48 : Int32)))), .val (.int (((c5 - (48 : Int32)) * (10 : Int32)) + (c6 - (48 : Int32))))]) rfl ?_
  refine XS.iload X0.here hx rfl (hb hby at_417) rfl ?_
  refine XS.ifNo X0.here hx rfl (hb hby at_419) rfl ((if0 _ _).trans (feq (by decide : ¬ ((1 : Int32) = (0 : Int32)))).1) ?_
  show Steps p.tables e below (T0.setTop (mkF m 422 #[s0, s1, s2, s3, s4, s5, .val (.int c0), .val (.int c1), .val (.int c2), .val (.int c3), .val (.int c4), .val (.int c5), .val (.int c6), s13, s14, s15, s16, s17, .val (.int v18), s19, .val (.ref ym), .val (.int 1), .val (.int (((((c0 - (48 : Int32)) * (1000 : Int32)) + ((c1 - (48 : Int32)) * (100 : Int32))) + ((c2 - (48 : Int32)) * (10 : Int32))) + (c3 - (48 : Int32)))), .val (.int (((c5 - (48 : Int32)) * (10 : Int32)) + (c6 - (48 : Int32))))] [])) _
  refine XS.iload X0.here hx rfl (hb hby at_422) rfl ?_
  refine XS.iconst X0.here hx rfl (hb hby at_424) ?_
  refine XS.icmpNo X0.here hx rfl (hb hby at_425) rfl (flt hc425).1 ?_
  refine XS.iload X0.here hx rfl (hb hby at_428) rfl ?_
  refine XS.bipush X0.here hx rfl (hb hby at_430) ?_
  refine XS.icmpNo X0.here hx rfl (hb hby at_432) rfl (flt hc432).2.2.1 ?_
  refine XS.iconst X0.here hx rfl (hb hby at_435) ?_
  show Steps p.tables e below (T0.setTop (mkF m 436 #[s0, s1, s2, s3, s4, s5, .val (.int c0), .val (.int c1), .val (.int c2), .val (.int c3), .val (.int c4), .val (.int c5), .val (.int c6), s13, s14, s15, s16, s17, .val (.int v18), s19, .val (.ref ym), .val (.int 1), .val (.int (((((c0 - (48 : Int32)) * (1000 : Int32)) + ((c1 - (48 : Int32)) * (100 : Int32))) + ((c2 - (48 : Int32)) * (10 : Int32))) + (c3 - (48 : Int32)))), .val (.int (((c5 - (48 : Int32)) * (10 : Int32)) + (c6 - (48 : Int32))))] [(.int 1)])) _
  refine XS.goto X0.here hx rfl (pc0 := 436) (pc' := 440) rfl (hb hby at_436) (by decide) (by decide) ?_
  refine XS.istore X0.here hx rfl (hb hby at_440) rfl (l' := #[s0, s1, s2, s3, s4, s5, .val (.int c0), .val (.int c1), .val (.int c2), .val (.int c3), .val (.int c4), .val (.int c5), .val (.int c6), s13, s14, s15, s16, s17, .val (.int v18), s19, .val (.ref ym), .val (.int 1), .val (.int (((((c0 - (48 : Int32)) * (1000 : Int32)) + ((c1 - (48 : Int32)) * (100 : Int32))) + ((c2 - (48 : Int32)) * (10 : Int32))) + (c3 - (48 : Int32)))), .val (.int (((c5 - (48 : Int32)) * (10 : Int32)) + (c6 - (48 : Int32))))]) rfl ?_
  refine XS.iload X0.here hx rfl (hb hby at_442) rfl ?_
  refine XS.ifYes X0.here hx rfl (pc0 := 444) (pc' := 458) rfl (hb hby at_444) rfl ((if0 _ _).trans (feq (by decide : ¬ ((1 : Int32) = (0 : Int32)))).2) (by decide) (by decide) ?_
  refine XS.aload X0.here hx rfl (hb hby at_458) rfl rfl ?_
  refine XS.ifnullNo X0.here hx rfl (hb hby at_460) rfl ?_
  refine XS.aload X0.here hx rfl (hb hby at_463) rfl rfl ?_
  show Steps p.tables e below (T0.setTop (mkF m 465 #[s0, s1, s2, s3, s4, s5, .val (.int c0), .val (.int c1), .val (.int c2), .val (.int c3), .val (.int c4), .val (.int c5), .val (.int c6), s13, s14, s15, s16, s17, .val (.int v18), s19, .val (.ref ym), .val (.int 1), .val (.int (((((c0 - (48 : Int32)) * (1000 : Int32)) + ((c1 - (48 : Int32)) * (100 : Int32))) + ((c2 - (48 : Int32)) * (10 : Int32))) + (c3 - (48 : Int32)))), .val (.int (((c5 - (48 : Int32)) * (10 : Int32)) + (c6 - (48 : Int32))))] [(.ref ym)])) _
  refine st1.trans ?_
  refine XS.iload X1.here hx rfl (hb hby at_468) rfl ?_
  refine XS.icmpNo X1.here hx rfl (hb hby at_470) rfl (teq hc470).2 ?_
  refine XS.aload X1.here hx rfl (hb hby at_473) rfl rfl ?_
  refine st2.trans ?_
  refine XS.iload X2.here hx rfl (hb hby at_478) rfl ?_
  refine XS.icmpNo X2.here hx rfl (hb hby at_480) rfl (teq hc480).2 ?_
  refine XS.iconst X2.here hx rfl (hb hby at_483) ?_
  refine XS.goto X2.here hx rfl (pc0 := 484) (pc' := 488) rfl (hb hby at_484) (by decide) (by decide) ?_
  exact kt
theorem pd_17 : parseMethodDescriptor "(JIII)C" = some ⟨[.long, .int, .int, .int], some .char⟩ := by decide +kernel
theorem pd_16 : parseMethodDescriptor "(JI)C" = some ⟨[.long, .int], some .char⟩ := by decide +kernel
theorem tn0 {p : Program} {l : Launch} {e : Env} {s : State} {m : MethodId} {args : Array Value} {below : List Frame} {meth : Method} {c : Code} {T0 : State} {locs : List Loc} {Z : State} {a0 : Array Value} (hw : ∀ d ∈ tables_1, d.before a0 Z = true) (p1 : Int32) (q2 q3 : Int64) (p4 : Int32) (h0 : Heap) (n0 : Nat) (X0 : Stand p l e room_1 s m args below meth c T0 locs 0 0) (N0 : Fr n0 locs) (hx : p.tables.exec = Jvm.exec) (hZ : Z.Warmed39 s.vm) (hby : c.code = code) (hml : c.maxLocals = 24) (hown : s.vm.findClass "com/example/vestwright/vestwright/ValuesMonthPinLaw" = some m.cls) (e0 : T0.heap = h0) (O0 : Old Z n0 h0) :
    ∃ (T' : State) (locs' : List Loc), Stand p l e room_1 s m args below meth c T' locs' 0 0 ∧ Fr n0 locs' ∧ T'.heap = h0 ∧
      ∀ target, Steps p.tables e below (T'.setTop (mkF m 86 #[.val (.int p1), .val (.long q2), .second, .val (.long q3), .second, .val (.int p4), .val (.int (own_chv q2 (0 : Int32) p4 (0 : Int32))), .val (.int (own_chv q2 (16 : Int32) p4 (1 : Int32))), .val (.int (own_chv q2 (32 : Int32) p4 (2 : Int32))), .val (.int (own_chv q2 (48 : Int32) p4 (3 : Int32))), .val (.int (own_dav q3 p4)), .val (.int (own_chv q3 (16 : Int32) p4 (5 : Int32))), .val (.int (own_chv q3 (32 : Int32) p4 (6 : Int32))), .val (.int (own_chv q3 (48 : Int32) p4 (7 : Int32))), .unset, .unset, .unset, .unset, .unset, .unset, .unset, .unset, .unset, .unset] [])) target → Steps p.tables e below (T0.setTop (mkF m 0 #[.val (.int p1), .val (.long q2), .second, .val (.long q3), .second, .val (.int p4), .unset, .unset, .unset, .unset, .unset, .unset, .unset, .unset, .unset, .unset, .unset, .unset, .unset, .unset, .unset, .unset, .unset, .unset] [])) target := by
  have Z0 : n0 ≤ h0.size := O0.1 ▸ O0.2.1
  obtain ⟨vr1, _, ⟨T1, L1, k1, n1⟩, -, X1, ⟨Lc1, hQ1, l1, y1, z1⟩, st1⟩ := Jvm.LawKit.callS X0 hx (y := (⟨"com/example/vestwright/vestwright/ValuesMonthPinLaw", "ch", "(JIII)C"⟩ : MethodName)) hown (mvT hZ (own_w hw 0 rfl)) (mvT hZ (own_w hw 1 rfl)) (mvT hZ (own_w hw 2 rfl)) (mvT hZ (own_w hw 3 rfl)) (by decide) (backOf (W := 0) (rm1 l Z a0 hw [] q2 ((0 : Int32)) p4 ((0 : Int32)) h0 n0 O0) hZ (own_w hw 3 rfl) (own_w hw 2 rfl) (by decide) (by decide)) (g := (mkF m 5 #[.val (.int p1), .val (.long q2), .second, .val (.long q3), .second, .val (.int p4), .unset, .unset, .unset, .unset, .unset, .unset, .unset, .unset, .unset, .unset, .unset, .unset, .unset, .unset, .unset, .unset, .unset, .unset] [(.int 0), (.int p4), (.int 0), (.long q2)])) rfl (by rw [hml]; rfl) (argsL := [(.long q2), (.int 0), (.int p4), (.int 0)]) (rest := []) (lenOf pd_17 rfl) rfl (by show 2 * 0 + _ ≤ _; exact Nat.le_of_eq rfl) (hb hby at_5) (fun _ _ => ⟨rfl, e0, (by decide : 0 + 0 ≤ _), (by decide : 0 + 0 ≤ _)⟩)
  dsimp only [Pt.U, Pt.locs, Pt.cells, Pt.slots] at X1 l1 y1 z1 st1 hQ1
  subst l1 y1 z1
  obtain ⟨rfl, N1q, e1⟩ := hQ1
  have N1 := Fr.app N0 N1q
  replace X1 := X1.more (cells' := 0) (slots' := 0) (by decide) (by decide)
  obtain ⟨vr2, _, ⟨T2, L2, k2, n2⟩, -, X2, ⟨Lc2, hQ2, l2, y2, z2⟩, st2⟩ := Jvm.LawKit.callS X1 hx (y := (⟨"com/example/vestwright/vestwright/ValuesMonthPinLaw", "ch", "(JIII)C"⟩ : MethodName)) hown (mvT hZ (own_w hw 0 rfl)) (mvT hZ (own_w hw 1 rfl)) (mvT hZ (own_w hw 2 rfl)) (mvT hZ (own_w hw 3 rfl)) (by decide) (backOf (W := 0) (rm1 l Z a0 hw [] q2 ((16 : Int32)) p4 ((1 : Int32)) h0 n0 O0) hZ (own_w hw 3 rfl) (own_w hw 2 rfl) (by decide) (by decide)) (g := (mkF m 16 #[.val (.int p1), .val (.long q2), .second, .val (.long q3), .second, .val (.int p4), .val (.int (own_chv q2 (0 : Int32) p4 (0 : Int32))), .unset, .unset, .unset, .unset, .unset, .unset, .unset, .unset, .unset, .unset, .unset, .unset, .unset, .unset, .unset, .unset, .unset] [(.int 1), (.int p4), (.int 16), (.long q2)])) rfl (by rw [hml]; rfl) (argsL := [(.long q2), (.int 16), (.int p4), (.int 1)]) (rest := []) (lenOf pd_17 rfl) rfl (by show 2 * 0 + _ ≤ _; exact Nat.le_of_eq rfl) (hb hby at_16) (fun _ _ => ⟨rfl, e1, (by decide : 0 + 0 ≤ _), (by decide : 0 + 0 ≤ _)⟩)
  dsimp only [Pt.U, Pt.locs, Pt.cells, Pt.slots] at X2 l2 y2 z2 st2 hQ2
  subst l2 y2 z2
  obtain ⟨rfl, N2q, e2⟩ := hQ2
  have N2 := Fr.app N1 N2q
  replace X2 := X2.more (cells' := 0) (slots' := 0) (by decide) (by decide)
  obtain ⟨vr3, _, ⟨T3, L3, k3, n3⟩, -, X3, ⟨Lc3, hQ3, l3, y3, z3⟩, st3⟩ := Jvm.LawKit.callS X2 hx (y := (⟨"com/example/vestwright/vestwright/ValuesMonthPinLaw", "ch", "(JIII)C"⟩ : MethodName)) hown (mvT hZ (own_w hw 0 rfl)) (mvT hZ (own_w hw 1 rfl)) (mvT hZ (own_w hw 2 rfl)) (mvT hZ (own_w hw 3 rfl)) (by decide) (backOf (W := 0) (rm1 l Z a0 hw [] q2 ((32 : Int32)) p4 ((2 : Int32)) h0 n0 O0) hZ (own_w hw 3 rfl) (own_w hw 2 rfl) (by decide) (by decide)) (g := (mkF m 27 #[.val (.int p1), .val (.long q2), .second, .val (.long q3), .second, .val (.int p4), .val (.int (own_chv q2 (0 : Int32) p4 (0 : Int32))), .val (.int (own_chv q2 (16 : Int32) p4 (1 : Int32))), .unset, .unset, .unset, .unset, .unset, .unset, .unset, .unset, .unset, .unset, .unset, .unset, .unset, .unset, .unset, .unset] [(.int 2), (.int p4), (.int 32), (.long q2)])) rfl (by rw [hml]; rfl) (argsL := [(.long q2), (.int 32), (.int p4), (.int 2)]) (rest := []) (lenOf pd_17 rfl) rfl (by show 2 * 0 + _ ≤ _; exact Nat.le_of_eq rfl) (hb hby at_27) (fun _ _ => ⟨rfl, e2, (by decide : 0 + 0 ≤ _), (by decide : 0 + 0 ≤ _)⟩)
  dsimp only [Pt.U, Pt.locs, Pt.cells, Pt.slots] at X3 l3 y3 z3 st3 hQ3
  subst l3 y3 z3
  obtain ⟨rfl, N3q, e3⟩ := hQ3
  have N3 := Fr.app N2 N3q
  replace X3 := X3.more (cells' := 0) (slots' := 0) (by decide) (by decide)
  obtain ⟨vr4, _, ⟨T4, L4, k4, n4⟩, -, X4, ⟨Lc4, hQ4, l4, y4, z4⟩, st4⟩ := Jvm.LawKit.callS X3 hx (y := (⟨"com/example/vestwright/vestwright/ValuesMonthPinLaw", "ch", "(JIII)C"⟩ : MethodName)) hown (mvT hZ (own_w hw 0 rfl)) (mvT hZ (own_w hw 1 rfl)) (mvT hZ (own_w hw 2 rfl)) (mvT hZ (own_w hw 3 rfl)) (by decide) (backOf (W := 0) (rm1 l Z a0 hw [] q2 ((48 : Int32)) p4 ((3 : Int32)) h0 n0 O0) hZ (own_w hw 3 rfl) (own_w hw 2 rfl) (by decide) (by decide)) (g := (mkF m 38 #[.val (.int p1), .val (.long q2), .second, .val (.long q3), .second, .val (.int p4), .val (.int (own_chv q2 (0 : Int32) p4 (0 : Int32))), .val (.int (own_chv q2 (16 : Int32) p4 (1 : Int32))), .val (.int (own_chv q2 (32 : Int32) p4 (2 : Int32))), .unset, .unset, .unset, .unset, .unset, .unset, .unset, .unset, .unset, .unset, .unset, .unset, .unset, .unset, .unset] [(.int 3), (.int p4), (.int 48), (.long q2)])) rfl (by rw [hml]; rfl) (argsL := [(.long q2), (.int 48), (.int p4), (.int 3)]) (rest := []) (lenOf pd_17 rfl) rfl (by show 2 * 0 + _ ≤ _; exact Nat.le_of_eq rfl) (hb hby at_38) (fun _ _ => ⟨rfl, e3, (by decide : 0 + 0 ≤ _), (by decide : 0 + 0 ≤ _)⟩)
  dsimp only [Pt.U, Pt.locs, Pt.cells, Pt.slots] at X4 l4 y4 z4 st4 hQ4
  subst l4 y4 z4
  obtain ⟨rfl, N4q, e4⟩ := hQ4
  have N4 := Fr.app N3 N4q
  replace X4 := X4.more (cells' := 0) (slots' := 0) (by decide) (by decide)
  obtain ⟨vr5, _, ⟨T5, L5, k5, n5⟩, -, X5, ⟨Lc5, hQ5, l5, y5, z5⟩, st5⟩ := Jvm.LawKit.callS X4 hx (y := (⟨"com/example/vestwright/vestwright/ValuesMonthPinLaw", "dash", "(JI)C"⟩ : MethodName)) hown (mvT hZ (own_w hw 5 rfl)) (mvT hZ (own_w hw 6 rfl)) (mvT hZ (own_w hw 2 rfl)) (mvT hZ (own_w hw 7 rfl)) (by decide) (backOf (W := 0) (rm2 l Z a0 hw [] q3 p4 h0 n0 O0) hZ (own_w hw 7 rfl) (own_w hw 2 rfl) (by decide) (by decide)) (g := (mkF m 46 #[.val (.int p1), .val (.long q2), .second, .val (.long q3), .second, .val (.int p4), .val (.int (own_chv q2 (0 : Int32) p4 (0 : Int32))), .val (.int (own_chv q2 (16 : Int32) p4 (1 : Int32))), .val (.int (own_chv q2 (32 : Int32) p4 (2 : Int32))), .val (.int (own_chv q2 (48 : Int32) p4 (3 : Int32))), .unset, .unset, .unset, .unset, .unset, .unset, .unset, .unset, .unset, .unset, .unset, .unset, .unset, .unset] [(.int p4), (.long q3)])) rfl (by rw [hml]; rfl) (argsL := [(.long q3), (.int p4)]) (rest := []) (lenOf pd_16 rfl) rfl (by show 2 * 0 + _ ≤ _; exact Nat.le_of_eq rfl) (hb hby at_46) (fun _ _ => ⟨rfl, e4, (by decide : 0 + 0 ≤ _), (by decide : 0 + 0 ≤ _)⟩)
  dsimp only [Pt.U, Pt.locs, Pt.cells, Pt.slots] at X5 l5 y5 z5 st5 hQ5
  subst l5 y5 z5
  obtain ⟨rfl, N5q, e5⟩ := hQ5
  have N5 := Fr.app N4 N5q
  replace X5 := X5.more (cells' := 0) (slots' := 0) (by decide) (by decide)
  obtain ⟨vr6, _, ⟨T6, L6, k6, n6⟩, -, X6, ⟨Lc6, hQ6, l6, y6, z6⟩, st6⟩ := Jvm.LawKit.callS X5 hx (y := (⟨"com/example/vestwright/vestwright/ValuesMonthPinLaw", "ch", "(JIII)C"⟩ : MethodName)) hown (mvT hZ (own_w hw 0 rfl)) (mvT hZ (own_w hw 1 rfl)) (mvT hZ (own_w hw 2 rfl)) (mvT hZ (own_w hw 3 rfl)) (by decide) (backOf (W := 0) (rm1 l Z a0 hw [] q3 ((16 : Int32)) p4 ((5 : Int32)) h0 n0 O0) hZ (own_w hw 3 rfl) (own_w hw 2 rfl) (by decide) (by decide)) (g := (mkF m 57 #[.val (.int p1), .val (.long q2), .second, .val (.long q3), .second, .val (.int p4), .val (.int (own_chv q2 (0 : Int32) p4 (0 : Int32))), .val (.int (own_chv q2 (16 : Int32) p4 (1 : Int32))), .val (.int (own_chv q2 (32 : Int32) p4 (2 : Int32))), .val (.int (own_chv q2 (48 : Int32) p4 (3 : Int32))), .val (.int (own_dav q3 p4)), .unset, .unset, .unset, .unset, .unset, .unset, .unset, .unset, .unset, .unset, .unset, .unset, .unset] [(.int 5), (.int p4), (.int 16), (.long q3)])) rfl (by rw [hml]; rfl) (argsL := [(.long q3), (.int 16), (.int p4), (.int 5)]) (rest := []) (lenOf pd_17 rfl) rfl (by show 2 * 0 + _ ≤ _; exact Nat.le_of_eq rfl) (hb hby at_57) (fun _ _ => ⟨rfl, e5, (by decide : 0 + 0 ≤ _), (by decide : 0 + 0 ≤ _)⟩)
  dsimp only [Pt.U, Pt.locs, Pt.cells, Pt.slots] at X6 l6 y6 z6 st6 hQ6
  subst l6 y6 z6
  obtain ⟨rfl, N6q, e6⟩ := hQ6
  have N6 := Fr.app N5 N6q
  replace X6 := X6.more (cells' := 0) (slots' := 0) (by decide) (by decide)
  obtain ⟨vr7, _, ⟨T7, L7, k7, n7⟩, -, X7, ⟨Lc7, hQ7, l7, y7, z7⟩, st7⟩ := Jvm.LawKit.callS X6 hx (y := (⟨"com/example/vestwright/vestwright/ValuesMonthPinLaw", "ch", "(JIII)C"⟩ : MethodName)) hown (mvT hZ (own_w hw 0 rfl)) (mvT hZ (own_w hw 1 rfl)) (mvT hZ (own_w hw 2 rfl)) (mvT hZ (own_w hw 3 rfl)) (by decide) (backOf (W := 0) (rm1 l Z a0 hw [] q3 ((32 : Int32)) p4 ((6 : Int32)) h0 n0 O0) hZ (own_w hw 3 rfl) (own_w hw 2 rfl) (by decide) (by decide)) (g := (mkF m 69 #[.val (.int p1), .val (.long q2), .second, .val (.long q3), .second, .val (.int p4), .val (.int (own_chv q2 (0 : Int32) p4 (0 : Int32))), .val (.int (own_chv q2 (16 : Int32) p4 (1 : Int32))), .val (.int (own_chv q2 (32 : Int32) p4 (2 : Int32))), .val (.int (own_chv q2 (48 : Int32) p4 (3 : Int32))), .val (.int (own_dav q3 p4)), .val (.int (own_chv q3 (16 : Int32) p4 (5 : Int32))), .unset, .unset, .unset, .unset, .unset, .unset, .unset, .unset, .unset, .unset, .unset, .unset] [(.int 6), (.int p4), (.int 32), (.long q3)])) rfl (by rw [hml]; rfl) (argsL := [(.long q3), (.int 32), (.int p4), (.int 6)]) (rest := []) (lenOf pd_17 rfl) rfl (by show 2 * 0 + _ ≤ _; exact Nat.le_of_eq rfl) (hb hby at_69) (fun _ _ => ⟨rfl, e6, (by decide : 0 + 0 ≤ _), (by decide : 0 + 0 ≤ _)⟩)
  dsimp only [Pt.U, Pt.locs, Pt.cells, Pt.slots] at X7 l7 y7 z7 st7 hQ7
  subst l7 y7 z7
  obtain ⟨rfl, N7q, e7⟩ := hQ7
  have N7 := Fr.app N6 N7q
  replace X7 := X7.more (cells' := 0) (slots' := 0) (by decide) (by decide)
  obtain ⟨vr8, _, ⟨T8, L8, k8, n8⟩, -, X8, ⟨Lc8, hQ8, l8, y8, z8⟩, st8⟩ := Jvm.LawKit.callS X7 hx (y := (⟨"com/example/vestwright/vestwright/ValuesMonthPinLaw", "ch", "(JIII)C"⟩ : MethodName)) hown (mvT hZ (own_w hw 0 rfl)) (mvT hZ (own_w hw 1 rfl)) (mvT hZ (own_w hw 2 rfl)) (mvT hZ (own_w hw 3 rfl)) (by decide) (backOf (W := 0) (rm1 l Z a0 hw [] q3 ((48 : Int32)) p4 ((7 : Int32)) h0 n0 O0) hZ (own_w hw 3 rfl) (own_w hw 2 rfl) (by decide) (by decide)) (g := (mkF m 81 #[.val (.int p1), .val (.long q2), .second, .val (.long q3), .second, .val (.int p4), .val (.int (own_chv q2 (0 : Int32) p4 (0 : Int32))), .val (.int (own_chv q2 (16 : Int32) p4 (1 : Int32))), .val (.int (own_chv q2 (32 : Int32) p4 (2 : Int32))), .val (.int (own_chv q2 (48 : Int32) p4 (3 : Int32))), .val (.int (own_dav q3 p4)), .val (.int (own_chv q3 (16 : Int32) p4 (5 : Int32))), .val (.int (own_chv q3 (32 : Int32) p4 (6 : Int32))), .unset, .unset, .unset, .unset, .unset, .unset, .unset, .unset, .unset, .unset, .unset] [(.int 7), (.int p4), (.int 48), (.long q3)])) rfl (by rw [hml]; rfl) (argsL := [(.long q3), (.int 48), (.int p4), (.int 7)]) (rest := []) (lenOf pd_17 rfl) rfl (by show 2 * 0 + _ ≤ _; exact Nat.le_of_eq rfl) (hb hby at_81) (fun _ _ => ⟨rfl, e7, (by decide : 0 + 0 ≤ _), (by decide : 0 + 0 ≤ _)⟩)
  dsimp only [Pt.U, Pt.locs, Pt.cells, Pt.slots] at X8 l8 y8 z8 st8 hQ8
  subst l8 y8 z8
  obtain ⟨rfl, N8q, e8⟩ := hQ8
  have N8 := Fr.app N7 N8q
  replace X8 := X8.more (cells' := 0) (slots' := 0) (by decide) (by decide)
  refine ⟨T8, _, X8, N8, e8, fun target kt => ?_⟩
  show Steps p.tables e below (T0.setTop (mkF m 0 #[.val (.int p1), .val (.long q2), .second, .val (.long q3), .second, .val (.int p4), .unset, .unset, .unset, .unset, .unset, .unset, .unset, .unset, .unset, .unset, .unset, .unset, .unset, .unset, .unset, .unset, .unset, .unset] [])) _
  refine XS.lloadN X0.here hx rfl (hb hby at_0) rfl ?_
  refine XS.iconst X0.here hx rfl (hb hby at_1) ?_
  refine XS.iload X0.here hx rfl (hb hby at_2) rfl ?_
  refine XS.iconst X0.here hx rfl (hb hby at_4) ?_
  refine st1 _ ?_
  refine XS.istore X1.here hx rfl (hb hby at_8) rfl (l' := #[.val (.int p1), .val (.long q2), .second, .val (.long q3), .second, .val (.int p4), .val (.int (own_chv q2 (0 : Int32) p4 (0 : Int32))), .unset, .unset, .unset, .unset, .unset, .unset, .unset, .unset, .unset, .unset, .unset, .unset, .unset, .unset, .unset, .unset, .unset]) rfl ?_
  refine XS.lloadN X1.here hx rfl (hb hby at_10) rfl ?_
  refine XS.bipush X1.here hx rfl (hb hby at_11) ?_
  refine XS.iload X1.here hx rfl (hb hby at_13) rfl ?_
  refine XS.iconst X1.here hx rfl (hb hby at_15) ?_
  refine st2 _ ?_
  refine XS.istore X2.here hx rfl (hb hby at_19) rfl (l' := #[.val (.int p1), .val (.long q2), .second, .val (.long q3), .second, .val (.int p4), .val (.int (own_chv q2 (0 : Int32) p4 (0 : Int32))), .val (.int (own_chv q2 (16 : Int32) p4 (1 : Int32))), .unset, .unset, .unset, .unset, .unset, .unset, .unset, .unset, .unset, .unset, .unset, .unset, .unset, .unset, .unset, .unset]) rfl ?_
  refine XS.lloadN X2.here hx rfl (hb hby at_21) rfl ?_
  refine XS.bipush X2.here hx rfl (hb hby at_22) ?_
  refine XS.iload X2.here hx rfl (hb hby at_24) rfl ?_
  refine XS.iconst X2.here hx rfl (hb hby at_26) ?_
  refine st3 _ ?_
  refine XS.istore X3.here hx rfl (hb hby at_30) rfl (l' := #[.val (.int p1), .val (.long q2), .second, .val (.long q3), .second, .val (.int p4), .val (.int (own_chv q2 (0 : Int32) p4 (0 : Int32))), .val (.int (own_chv q2 (16 : Int32) p4 (1 : Int32))), .val (.int (own_chv q2 (32 : Int32) p4 (2 : Int32))), .unset, .unset, .unset, .unset, .unset, .unset, .unset, .unset, .unset, .unset, .unset, .unset, .unset, .unset, .unset]) rfl ?_
  refine XS.lloadN X3.here hx rfl (hb hby at_32) rfl ?_
  refine XS.bipush X3.here hx rfl (hb hby at_33) ?_
  refine XS.iload X3.here hx rfl (hb hby at_35) rfl ?_
  refine XS.iconst X3.here hx rfl (hb hby at_37) ?_
  refine st4 _ ?_
  refine XS.istore X4.here hx rfl (hb hby at_41) rfl (l' := #[.val (.int p1), .val (.long q2), .second, .val (.long q3), .second, .val (.int p4), .val (.int (own_chv q2 (0 : Int32) p4 (0 : Int32))), .val (.int (own_chv q2 (16 : Int32) p4 (1 : Int32))), .val (.int (own_chv q2 (32 : Int32) p4 (2 : Int32))), .val (.int (own_chv q2 (48 : Int32) p4 (3 : Int32))), .unset, .unset, .unset, .unset, .unset, .unset, .unset, .unset, .unset, .unset, .unset, .unset, .unset, .unset]) rfl ?_
  refine XS.lloadN X4.here hx rfl (hb hby at_43) rfl ?_
  refine XS.iload X4.here hx rfl (hb hby at_44) rfl ?_
  refine st5 _ ?_
  refine XS.istore X5.here hx rfl (hb hby at_49) rfl (l' := #[.val (.int p1), .val (.long q2), .second, .val (.long q3), .second, .val (.int p4), .val (.int (own_chv q2 (0 : Int32) p4 (0 : Int32))), .val (.int (own_chv q2 (16 : Int32) p4 (1 : Int32))), .val (.int (own_chv q2 (32 : Int32) p4 (2 : Int32))), .val (.int (own_chv q2 (48 : Int32) p4 (3 : Int32))), .val (.int (own_dav q3 p4)), .unset, .unset, .unset, .unset, .unset, .unset, .unset, .unset, .unset, .unset, .unset, .unset, .unset]) rfl ?_
  refine XS.lloadN X5.here hx rfl (hb hby at_51) rfl ?_
  refine XS.bipush X5.here hx rfl (hb hby at_52) ?_
  refine XS.iload X5.here hx rfl (hb hby at_54) rfl ?_
  refine XS.iconst X5.here hx rfl (hb hby at_56) ?_
  refine st6 _ ?_
  refine XS.istore X6.here hx rfl (hb hby at_60) rfl (l' := #[.val (.int p1), .val (.long q2), .second, .val (.long q3), .second, .val (.int p4), .val (.int (own_chv q2 (0 : Int32) p4 (0 : Int32))), .val (.int (own_chv q2 (16 : Int32) p4 (1 : Int32))), .val (.int (own_chv q2 (32 : Int32) p4 (2 : Int32))), .val (.int (own_chv q2 (48 : Int32) p4 (3 : Int32))), .val (.int (own_dav q3 p4)), .val (.int (own_chv q3 (16 : Int32) p4 (5 : Int32))), .unset, .unset, .unset, .unset, .unset, .unset, .unset, .unset, .unset, .unset, .unset, .unset]) rfl ?_
  refine XS.lloadN X6.here hx rfl (hb hby at_62) rfl ?_
  refine XS.bipush X6.here hx rfl (hb hby at_63) ?_
  refine XS.iload X6.here hx rfl (hb hby at_65) rfl ?_
  refine XS.bipush X6.here hx rfl (hb hby at_67) ?_
  refine st7 _ ?_
  refine XS.istore X7.here hx rfl (hb hby at_72) rfl (l' := #[.val (.int p1), .val (.long q2), .second, .val (.long q3), .second, .val (.int p4), .val (.int (own_chv q2 (0 : Int32) p4 (0 : Int32))), .val (.int (own_chv q2 (16 : Int32) p4 (1 : Int32))), .val (.int (own_chv q2 (32 : Int32) p4 (2 : Int32))), .val (.int (own_chv q2 (48 : Int32) p4 (3 : Int32))), .val (.int (own_dav q3 p4)), .val (.int (own_chv q3 (16 : Int32) p4 (5 : Int32))), .val (.int (own_chv q3 (32 : Int32) p4 (6 : Int32))), .unset, .unset, .unset, .unset, .unset, .unset, .unset, .unset, .unset, .unset, .unset]) rfl ?_
  refine XS.lloadN X7.here hx rfl (hb hby at_74) rfl ?_
  refine XS.bipush X7.here hx rfl (hb hby at_75) ?_
  refine XS.iload X7.here hx rfl (hb hby at_77) rfl ?_
  refine XS.bipush X7.here hx rfl (hb hby at_79) ?_
  refine st8 _ ?_
  refine XS.istore X8.here hx rfl (hb hby at_84) rfl (l' := #[.val (.int p1), .val (.long q2), .second, .val (.long q3), .second, .val (.int p4), .val (.int (own_chv q2 (0 : Int32) p4 (0 : Int32))), .val (.int (own_chv q2 (16 : Int32) p4 (1 : Int32))), .val (.int (own_chv q2 (32 : Int32) p4 (2 : Int32))), .val (.int (own_chv q2 (48 : Int32) p4 (3 : Int32))), .val (.int (own_dav q3 p4)), .val (.int (own_chv q3 (16 : Int32) p4 (5 : Int32))), .val (.int (own_chv q3 (32 : Int32) p4 (6 : Int32))), .val (.int (own_chv q3 (48 : Int32) p4 (7 : Int32))), .unset, .unset, .unset, .unset, .unset, .unset, .unset, .unset, .unset, .unset]) rfl ?_
  exact kt
def own_MetN (l : Launch) (Z : State) (ws : List Jvm.Cond) (as : Array Value) (h0 : Heap) (n0 : Nat) : Prop := MetFree l x (head1 (Jvm.Cond.code x code maxLocals ret :: ws) room_1) (fun a U => a = as ∧ Z.Warmed39 U.vm ∧ U.heap = h0) (fun _ _ _ _ _ => True) (fun _ U o U' => ∃ v L, o = .returned v ∧ (v = some (.int 1) ∧ Fr n0 L) ∧ FrameEnd U o U' L room_1.cells room_1.slots)
theorem ef_0 (m : MethodId) (x0 : Int32) (x1 : Int64) (x2 : Int64) (x3 : Int32) : entryFrame m #[(.int x0), (.long x1), (.long x2), (.int x3)] maxLocals = mkF m 0 #[.val (.int x0), .val (.long x1), .second, .val (.long x2), .second, .val (.int x3), .unset, .unset, .unset, .unset, .unset, .unset, .unset, .unset, .unset, .unset, .unset, .unset, .unset, .unset, .unset, .unset, .unset, .unset] [] := by first | (simp [entryFrame, mkF, argsToLocals, Value.category, maxLocals]; done) | rfl
theorem rm0s6 (l : Launch) (Z : State) (a0 : Array Value) (hw : ∀ d ∈ tables_1, d.before a0 Z = true) (ws : List Jvm.Cond) (p1 : Int32) (q2 q3 : Int64) (p4 zC : Int32) (fm : Value) (h0 : Heap) (n0 : Nat) (O0 : Old Z n0 h0) (h86_hc0 : own_ch (own_chv q2 (0 : Int32) p4 (0 : Int32))) (h86_hc1 : own_ch (own_chv q2 (16 : Int32) p4 (1 : Int32))) (h86_hc2 : own_ch (own_chv q2 (32 : Int32) p4 (2 : Int32))) (h86_hc3 : own_ch (own_chv q2 (48 : Int32) p4 (3 : Int32))) (h86_hc4 : own_ch (own_dav q3 p4)) (h86_hc5 : own_ch (own_chv q3 (16 : Int32) p4 (5 : Int32))) (h86_hc6 : own_ch (own_chv q3 (32 : Int32) p4 (6 : Int32))) (h86_hc7 : own_ch (own_chv q3 (48 : Int32) p4 (7 : Int32))) (S_COMPACT_STRINGS : Sta Z Z.heap "java/lang/String" "COMPACT_STRINGS" "Z" (.int zC)) (S__assertionsDisabled : Sta Z Z.heap "java/lang/StringUTF16" "$assertionsDisabled" "Z" (.int 1)) (S_HI_BYTE_SHIFT : Sta Z Z.heap "java/lang/StringUTF16" "HI_BYTE_SHIFT" "I" (.int 0)) (S_LO_BYTE_SHIFT : Sta Z Z.heap "java/lang/StringUTF16" "LO_BYTE_SHIFT" "I" (.int 8)) (h217_hc224 : ¬ ((p1 &&& (3 : Int32)) = (0 : Int32))) (h217_hc244 : (p1 &&& (3 : Int32)) = (1 : Int32)) (h217_h253_hz : ¬ (zC = (0 : Int32))) (h217_h253_hcs : ∀ c ∈ [(own_chv q2 (0 : Int32) p4 (0 : Int32)), (own_chv q2 (16 : Int32) p4 (1 : Int32)), (own_chv q2 (32 : Int32) p4 (2 : Int32)), (own_chv q2 (48 : Int32) p4 (3 : Int32)), (own_dav q3 p4), (own_chv q3 (16 : Int32) p4 (5 : Int32))], own_ch c) :
    own_MetN l Z ws #[(.int p1), (.long q2), (.long q3), (.int p4)] h0 n0 := by
  refine MetFree.of_bodySF (plainFor_of_name pnc_com_example_vestwright_vestwright_ValuesMonthPinLaw) hisR ?_
  intro p e s m args below meth c s₁ Bd hml0 hP hK
  obtain ⟨rfl, hZ, hh⟩ := hP
  have hx := Bd.exec
  have hby := Bd.bytes
  have hml : c.maxLocals = 24 := hml0
  have hown : s.vm.findClass "com/example/vestwright/vestwright/ValuesMonthPinLaw" = some m.cls := findClass_of_methodNamed Bd.named
  have hnm := (name_of_methodNamed Bd.named Bd.method).1
  have X0 : Stand p l e room_1 s m #[(.int p1), (.long q2), (.long q3), (.int p4)] below meth c s₁ [] 0 0 := Stand.of_body Bd
  have e0 : s₁.heap = h0 := by rw [← hh, Bd.state]; rfl
  have N0 := Fr.nil n0
  have Z0 : n0 ≤ h0.size := O0.1 ▸ O0.2.1
  have pre0 : ∀ t, Steps p.tables e below (s₁.setTop (mkF m 0 #[.val (.int p1), .val (.long q2), .second, .val (.long q3), .second, .val (.int p4), .unset, .unset, .unset, .unset, .unset, .unset, .unset, .unset, .unset, .unset, .unset, .unset, .unset, .unset, .unset, .unset, .unset, .unset] [])) t → Steps p.tables e below (s₁.setTop (entryFrame m #[(.int p1), (.long q2), (.long q3), (.int p4)] maxLocals)) t := fun t k => castTop (ef_0 m p1 q2 q3 p4) k
  obtain ⟨T5, L5, X5, N5, e5, st5⟩ := tn0 hw p1 q2 q3 p4 h0 n0 X0 N0 hx hZ hby hml hown e0 O0
  obtain ⟨T6, L6, h6, b7, b8, b9, b10, k11, k12, k13, k14, X6, N6, e6, K6, Y6_z0, Y6_z1, Y6_z2, Y6_z3, Y6_n0, Y6_n1, Y6_n2, Y6_n3, Y6_n4, Y6_n5, Y6_0, Y6_1, Y6_2, Y6_3, st6⟩ := tn86 hw ((.val (.int p1))) ((.val (.long q2))) ((.second)) ((.val (.long q3))) ((.second)) ((.val (.int p4))) ((own_chv q2 (0 : Int32) p4 (0 : Int32))) ((own_chv q2 (16 : Int32) p4 (1 : Int32))) ((own_chv q2 (32 : Int32) p4 (2 : Int32))) ((own_chv q2 (48 : Int32) p4 (3 : Int32))) ((own_dav q3 p4)) ((own_chv q3 (16 : Int32) p4 (5 : Int32))) ((own_chv q3 (32 : Int32) p4 (6 : Int32))) ((own_chv q3 (48 : Int32) p4 (7 : Int32))) ((.unset)) ((.unset)) ((.unset)) ((.unset)) ((.unset)) ((.unset)) h0 n0 X5 N5 hx hZ hby hml hown e5 O0 h86_hc0 h86_hc1 h86_hc2 h86_hc3 h86_hc4 h86_hc5 h86_hc6 h86_hc7
  have g_b7 : n0 ≤ b7 := Nat.le_trans (Nat.le_trans Z0 (Keep.refl h0 []).1) Y6_z0
  have sz_b7 : h0.size ≤ b7 := Nat.le_trans (Keep.refl h0 []).1 Y6_z0
  have g_b8 : n0 ≤ b8 := Nat.le_trans (Nat.le_trans Z0 (Keep.refl h0 []).1) Y6_z1
  have sz_b8 : h0.size ≤ b8 := Nat.le_trans (Keep.refl h0 []).1 Y6_z1
  have g_b9 : n0 ≤ b9 := Nat.le_trans (Nat.le_trans Z0 (Keep.refl h0 []).1) Y6_z2
  have sz_b9 : h0.size ≤ b9 := Nat.le_trans (Keep.refl h0 []).1 Y6_z2
  have g_b10 : n0 ≤ b10 := Nat.le_trans (Nat.le_trans Z0 (Keep.refl h0 []).1) Y6_z3
  have sz_b10 : h0.size ≤ b10 := Nat.le_trans (Keep.refl h0 []).1 Y6_z3
  have K15 : Keep h0 h6 [] := (Keep.refl h0 []).trans K6 all0
  have O16 : Old Z n0 h6 := O0.keep K6 all0
  obtain ⟨T17, L17, h17, b18, X17, N17, e17, K17, Y17_z0, Y17_0, Y17_1, st17⟩ := tg6 hw p1 q2 q3 p4 ((own_chv q2 (0 : Int32) p4 (0 : Int32))) ((own_chv q2 (16 : Int32) p4 (1 : Int32))) ((own_chv q2 (32 : Int32) p4 (2 : Int32))) ((own_chv q2 (48 : Int32) p4 (3 : Int32))) ((own_dav q3 p4)) ((own_chv q3 (16 : Int32) p4 (5 : Int32))) ((own_chv q3 (32 : Int32) p4 (6 : Int32))) ((own_chv q3 (48 : Int32) p4 (7 : Int32))) b7 b8 b9 b10 k12 zC h6 n0 X6 N6 hx hZ hby hml hown e6 O16 Y6_1 h217_hc224 h217_hc244 S_COMPACT_STRINGS S__assertionsDisabled S_HI_BYTE_SHIFT S_LO_BYTE_SHIFT h217_h253_hz h217_h253_hcs
  have g_b18 : n0 ≤ b18 := Nat.le_trans (Nat.le_trans Z0 K15.1) Y17_z0
  have sz_b18 : h0.size ≤ b18 := Nat.le_trans K15.1 Y17_z0
  have K19 : Keep h0 h17 [] := K15.trans K17 all0
  have O20 : Old Z n0 h17 := O16.keep K17 all0
  replace X17 := X17.more (cells' := 10) (slots' := 60) (by decide) (by decide)
  obtain ⟨T21, L21, X21, N21, e21, st21⟩ := tts hw ((.val (.int p1))) ((.val (.long q2))) ((.second)) ((.val (.long q3))) ((.second)) ((.val (.int p4))) ((own_chv q2 (0 : Int32) p4 (0 : Int32))) ((own_chv q2 (16 : Int32) p4 (1 : Int32))) ((own_chv q2 (32 : Int32) p4 (2 : Int32))) ((own_chv q2 (48 : Int32) p4 (3 : Int32))) ((own_dav q3 p4)) ((own_chv q3 (16 : Int32) p4 (5 : Int32))) ((own_chv q3 (32 : Int32) p4 (6 : Int32))) ((.val (.int (own_chv q3 (48 : Int32) p4 (7 : Int32))))) ((.val (.ref b7))) ((.val (.ref b8))) ((.val (.ref b9))) ((.val (.ref b10))) ((p1 &&& (3 : Int32))) ((.val (.ref b18))) ((.val .null)) h17 n0 X17 N17 hx hZ hby hml hown e17 O20 h217_hc224
  obtain ⟨T22, L22, X22, N22, e22, st22⟩ := tu0 hw ((.val (.int p1))) ((.val (.long q2))) ((.second)) ((.val (.long q3))) ((.second)) ((.val (.int p4))) ((own_chv q2 (0 : Int32) p4 (0 : Int32))) ((own_chv q2 (16 : Int32) p4 (1 : Int32))) ((own_chv q2 (32 : Int32) p4 (2 : Int32))) ((own_chv q2 (48 : Int32) p4 (3 : Int32))) ((own_dav q3 p4)) ((own_chv q3 (16 : Int32) p4 (5 : Int32))) ((own_chv q3 (32 : Int32) p4 (6 : Int32))) ((.val (.int (own_chv q3 (48 : Int32) p4 (7 : Int32))))) ((.val (.ref b7))) ((.val (.ref b8))) ((.val (.ref b9))) ((.val (.ref b10))) ((p1 &&& (3 : Int32))) ((.val (.ref b18))) h17 n0 X21 N21 hx hZ hby hml hown e21 O20
  obtain ⟨fs, hr, hrun, hended, hW, hsame⟩ := X22.leave (v := some (.int 1)) (fun h => by rw [Bd.returns] at h; cases h)
  refine ⟨_, _, pre0 _ ?_, hrun, hended, _, _, rfl, ?_, ⟨_, rfl⟩, hW, hsame.mono (by decide) (by decide)⟩
  · show Steps p.tables e below (s₁.setTop (mkF m 0 #[.val (.int p1), .val (.long q2), .second, .val (.long q3), .second, .val (.int p4), .unset, .unset, .unset, .unset, .unset, .unset, .unset, .unset, .unset, .unset, .unset, .unset, .unset, .unset, .unset, .unset, .unset, .unset] [])) _
    refine st5 _ ?_
    show Steps p.tables e below (T5.setTop (mkF m 86 #[.val (.int p1), .val (.long q2), .second, .val (.long q3), .second, .val (.int p4), .val (.int (own_chv q2 (0 : Int32) p4 (0 : Int32))), .val (.int (own_chv q2 (16 : Int32) p4 (1 : Int32))), .val (.int (own_chv q2 (32 : Int32) p4 (2 : Int32))), .val (.int (own_chv q2 (48 : Int32) p4 (3 : Int32))), .val (.int (own_dav q3 p4)), .val (.int (own_chv q3 (16 : Int32) p4 (5 : Int32))), .val (.int (own_chv q3 (32 : Int32) p4 (6 : Int32))), .val (.int (own_chv q3 (48 : Int32) p4 (7 : Int32))), .unset, .unset, .unset, .unset, .unset, .unset, .unset, .unset, .unset, .unset] [])) _
    refine st6 _ ?_
    show Steps p.tables e below (T6.setTop (mkF m 217 #[.val (.int p1), .val (.long q2), .second, .val (.long q3), .second, .val (.int p4), .val (.int (own_chv q2 (0 : Int32) p4 (0 : Int32))), .val (.int (own_chv q2 (16 : Int32) p4 (1 : Int32))), .val (.int (own_chv q2 (32 : Int32) p4 (2 : Int32))), .val (.int (own_chv q2 (48 : Int32) p4 (3 : Int32))), .val (.int (own_dav q3 p4)), .val (.int (own_chv q3 (16 : Int32) p4 (5 : Int32))), .val (.int (own_chv q3 (32 : Int32) p4 (6 : Int32))), .val (.int (own_chv q3 (48 : Int32) p4 (7 : Int32))), .val (.ref b7), .val (.ref b8), .val (.ref b9), .val (.ref b10), .unset, .unset, .unset, .unset, .unset, .unset] [])) _
    refine st17 _ ?_
    show Steps p.tables e below (T17.setTop (mkF m 299 #[.val (.int p1), .val (.long q2), .second, .val (.long q3), .second, .val (.int p4), .val (.int (own_chv q2 (0 : Int32) p4 (0 : Int32))), .val (.int (own_chv q2 (16 : Int32) p4 (1 : Int32))), .val (.int (own_chv q2 (32 : Int32) p4 (2 : Int32))), .val (.int (own_chv q2 (48 : Int32) p4 (3 : Int32))), .val (.int (own_dav q3 p4)), .val (.int (own_chv q3 (16 : Int32) p4 (5 : Int32))), .val (.int (own_chv q3 (32 : Int32) p4 (6 : Int32))), .val (.int (own_chv q3 (48 : Int32) p4 (7 : Int32))), .val (.ref b7), .val (.ref b8), .val (.ref b9), .val (.ref b10), .val (.int (p1 &&& (3 : Int32))), .val (.ref b18), .val .null, .unset, .unset, .unset] [])) _
    refine st21 _ ?_
    show Steps p.tables e below (T21.setTop (mkF m 364 #[.val (.int p1), .val (.long q2), .second, .val (.long q3), .second, .val (.int p4), .val (.int (own_chv q2 (0 : Int32) p4 (0 : Int32))), .val (.int (own_chv q2 (16 : Int32) p4 (1 : Int32))), .val (.int (own_chv q2 (32 : Int32) p4 (2 : Int32))), .val (.int (own_chv q2 (48 : Int32) p4 (3 : Int32))), .val (.int (own_dav q3 p4)), .val (.int (own_chv q3 (16 : Int32) p4 (5 : Int32))), .val (.int (own_chv q3 (32 : Int32) p4 (6 : Int32))), .val (.int (own_chv q3 (48 : Int32) p4 (7 : Int32))), .val (.ref b7), .val (.ref b8), .val (.ref b9), .val (.ref b10), .val (.int (p1 &&& (3 : Int32))), .val (.ref b18), .val .null, .unset, .unset, .unset] [(.int 0)])) _
    refine st22 _ ?_
    exact retN X22 hx (t := .boolean) Bd.returns (by simp) (hb hby at_457) hr
  · skip
    exact ⟨rfl, N22⟩
theorem rm0s8 (l : Launch) (Z : State) (a0 : Array Value) (hw : ∀ d ∈ tables_1, d.before a0 Z = true) (ws : List Jvm.Cond) (p1 : Int32) (q2 q3 : Int64) (p4 zC : Int32) (fm : Value) (h0 : Heap) (n0 : Nat) (O0 : Old Z n0 h0) (h86_hc0 : own_ch (own_chv q2 (0 : Int32) p4 (0 : Int32))) (h86_hc1 : own_ch (own_chv q2 (16 : Int32) p4 (1 : Int32))) (h86_hc2 : own_ch (own_chv q2 (32 : Int32) p4 (2 : Int32))) (h86_hc3 : own_ch (own_chv q2 (48 : Int32) p4 (3 : Int32))) (h86_hc4 : own_ch (own_dav q3 p4)) (h86_hc5 : own_ch (own_chv q3 (16 : Int32) p4 (5 : Int32))) (h86_hc6 : own_ch (own_chv q3 (32 : Int32) p4 (6 : Int32))) (h86_hc7 : own_ch (own_chv q3 (48 : Int32) p4 (7 : Int32))) (S_COMPACT_STRINGS : Sta Z Z.heap "java/lang/String" "COMPACT_STRINGS" "Z" (.int zC)) (S__assertionsDisabled : Sta Z Z.heap "java/lang/StringUTF16" "$assertionsDisabled" "Z" (.int 1)) (S_HI_BYTE_SHIFT : Sta Z Z.heap "java/lang/StringUTF16" "HI_BYTE_SHIFT" "I" (.int 0)) (S_LO_BYTE_SHIFT : Sta Z Z.heap "java/lang/StringUTF16" "LO_BYTE_SHIFT" "I" (.int 8)) (h217_hc224 : ¬ ((p1 &&& (3 : Int32)) = (0 : Int32))) (h217_hc244 : ¬ ((p1 &&& (3 : Int32)) = (1 : Int32))) (h217_hc264 : (p1 &&& (3 : Int32)) = (2 : Int32)) (h217_h273_hz : ¬ (zC = (0 : Int32))) (h217_h273_hcs : ∀ c ∈ [(own_chv q2 (0 : Int32) p4 (0 : Int32)), (own_chv q2 (16 : Int32) p4 (1 : Int32)), (own_chv q2 (32 : Int32) p4 (2 : Int32)), (own_chv q2 (48 : Int32) p4 (3 : Int32)), (own_dav q3 p4), (own_chv q3 (16 : Int32) p4 (5 : Int32)), (own_chv q3 (32 : Int32) p4 (6 : Int32)), (own_chv q3 (48 : Int32) p4 (7 : Int32))], own_ch c) :
    own_MetN l Z ws #[(.int p1), (.long q2), (.long q3), (.int p4)] h0 n0 := by
  refine MetFree.of_bodySF (plainFor_of_name pnc_com_example_vestwright_vestwright_ValuesMonthPinLaw) hisR ?_
  intro p e s m args below meth c s₁ Bd hml0 hP hK
  obtain ⟨rfl, hZ, hh⟩ := hP
  have hx := Bd.exec
  have hby := Bd.bytes
  have hml : c.maxLocals = 24 := hml0
  have hown : s.vm.findClass "com/example/vestwright/vestwright/ValuesMonthPinLaw" = some m.cls := findClass_of_methodNamed Bd.named
  have hnm := (name_of_methodNamed Bd.named Bd.method).1
  have X0 : Stand p l e room_1 s m #[(.int p1), (.long q2), (.long q3), (.int p4)] below meth c s₁ [] 0 0 := Stand.of_body Bd
  have e0 : s₁.heap = h0 := by rw [← hh, Bd.state]; rfl
  have N0 := Fr.nil n0
  have Z0 : n0 ≤ h0.size := O0.1 ▸ O0.2.1
  have pre0 : ∀ t, Steps p.tables e below (s₁.setTop (mkF m 0 #[.val (.int p1), .val (.long q2), .second, .val (.long q3), .second, .val (.int p4), .unset, .unset, .unset, .unset, .unset, .unset, .unset, .unset, .unset, .unset, .unset, .unset, .unset, .unset, .unset, .unset, .unset, .unset] [])) t → Steps p.tables e below (s₁.setTop (entryFrame m #[(.int p1), (.long q2), (.long q3), (.int p4)] maxLocals)) t := fun t k => castTop (ef_0 m p1 q2 q3 p4) k
  obtain ⟨T5, L5, X5, N5, e5, st5⟩ := tn0 hw p1 q2 q3 p4 h0 n0 X0 N0 hx hZ hby hml hown e0 O0
  obtain ⟨T6, L6, h6, b7, b8, b9, b10, k11, k12, k13, k14, X6, N6, e6, K6, Y6_z0, Y6_z1, Y6_z2, Y6_z3, Y6_n0, Y6_n1, Y6_n2, Y6_n3, Y6_n4, Y6_n5, Y6_0, Y6_1, Y6_2, Y6_3, st6⟩ := tn86 hw ((.val (.int p1))) ((.val (.long q2))) ((.second)) ((.val (.long q3))) ((.second)) ((.val (.int p4))) ((own_chv q2 (0 : Int32) p4 (0 : Int32))) ((own_chv q2 (16 : Int32) p4 (1 : Int32))) ((own_chv q2 (32 : Int32) p4 (2 : Int32))) ((own_chv q2 (48 : Int32) p4 (3 : Int32))) ((own_dav q3 p4)) ((own_chv q3 (16 : Int32) p4 (5 : Int32))) ((own_chv q3 (32 : Int32) p4 (6 : Int32))) ((own_chv q3 (48 : Int32) p4 (7 : Int32))) ((.unset)) ((.unset)) ((.unset)) ((.unset)) ((.unset)) ((.unset)) h0 n0 X5 N5 hx hZ hby hml hown e5 O0 h86_hc0 h86_hc1 h86_hc2 h86_hc3 h86_hc4 h86_hc5 h86_hc6 h86_hc7
  have g_b7 : n0 ≤ b7 := Nat.le_trans (Nat.le_trans Z0 (Keep.refl h0 []).1) Y6_z0
  have sz_b7 : h0.size ≤ b7 := Nat.le_trans (Keep.refl h0 []).1 Y6_z0
  have g_b8 : n0 ≤ b8 := Nat.le_trans (Nat.le_trans Z0 (Keep.refl h0 []).1) Y6_z1
  have sz_b8 : h0.size ≤ b8 := Nat.le_trans (Keep.refl h0 []).1 Y6_z1
  have g_b9 : n0 ≤ b9 := Nat.le_trans (Nat.le_trans Z0 (Keep.refl h0 []).1) Y6_z2
  have sz_b9 : h0.size ≤ b9 := Nat.le_trans (Keep.refl h0 []).1 Y6_z2
  have g_b10 : n0 ≤ b10 := Nat.le_trans (Nat.le_trans Z0 (Keep.refl h0 []).1) Y6_z3
  have sz_b10 : h0.size ≤ b10 := Nat.le_trans (Keep.refl h0 []).1 Y6_z3
  have K15 : Keep h0 h6 [] := (Keep.refl h0 []).trans K6 all0
  have O16 : Old Z n0 h6 := O0.keep K6 all0
  obtain ⟨T17, L17, h17, b18, X17, N17, e17, K17, Y17_z0, Y17_0, Y17_1, st17⟩ := tg8 hw p1 q2 q3 p4 ((own_chv q2 (0 : Int32) p4 (0 : Int32))) ((own_chv q2 (16 : Int32) p4 (1 : Int32))) ((own_chv q2 (32 : Int32) p4 (2 : Int32))) ((own_chv q2 (48 : Int32) p4 (3 : Int32))) ((own_dav q3 p4)) ((own_chv q3 (16 : Int32) p4 (5 : Int32))) ((own_chv q3 (32 : Int32) p4 (6 : Int32))) ((own_chv q3 (48 : Int32) p4 (7 : Int32))) b7 b8 b9 b10 k14 zC h6 n0 X6 N6 hx hZ hby hml hown e6 O16 Y6_3 h217_hc224 h217_hc244 h217_hc264 S_COMPACT_STRINGS S__assertionsDisabled S_HI_BYTE_SHIFT S_LO_BYTE_SHIFT h217_h273_hz h217_h273_hcs
  have g_b18 : n0 ≤ b18 := Nat.le_trans (Nat.le_trans Z0 K15.1) Y17_z0
  have sz_b18 : h0.size ≤ b18 := Nat.le_trans K15.1 Y17_z0
  have K19 : Keep h0 h17 [] := K15.trans K17 all0
  have O20 : Old Z n0 h17 := O16.keep K17 all0
  replace X17 := X17.more (cells' := 10) (slots' := 60) (by decide) (by decide)
  obtain ⟨T21, L21, X21, N21, e21, st21⟩ := tts hw ((.val (.int p1))) ((.val (.long q2))) ((.second)) ((.val (.long q3))) ((.second)) ((.val (.int p4))) ((own_chv q2 (0 : Int32) p4 (0 : Int32))) ((own_chv q2 (16 : Int32) p4 (1 : Int32))) ((own_chv q2 (32 : Int32) p4 (2 : Int32))) ((own_chv q2 (48 : Int32) p4 (3 : Int32))) ((own_dav q3 p4)) ((own_chv q3 (16 : Int32) p4 (5 : Int32))) ((own_chv q3 (32 : Int32) p4 (6 : Int32))) ((.val (.int (own_chv q3 (48 : Int32) p4 (7 : Int32))))) ((.val (.ref b7))) ((.val (.ref b8))) ((.val (.ref b9))) ((.val (.ref b10))) ((p1 &&& (3 : Int32))) ((.val (.ref b18))) ((.val .null)) h17 n0 X17 N17 hx hZ hby hml hown e17 O20 h217_hc224
  obtain ⟨T22, L22, X22, N22, e22, st22⟩ := tu0 hw ((.val (.int p1))) ((.val (.long q2))) ((.second)) ((.val (.long q3))) ((.second)) ((.val (.int p4))) ((own_chv q2 (0 : Int32) p4 (0 : Int32))) ((own_chv q2 (16 : Int32) p4 (1 : Int32))) ((own_chv q2 (32 : Int32) p4 (2 : Int32))) ((own_chv q2 (48 : Int32) p4 (3 : Int32))) ((own_dav q3 p4)) ((own_chv q3 (16 : Int32) p4 (5 : Int32))) ((own_chv q3 (32 : Int32) p4 (6 : Int32))) ((.val (.int (own_chv q3 (48 : Int32) p4 (7 : Int32))))) ((.val (.ref b7))) ((.val (.ref b8))) ((.val (.ref b9))) ((.val (.ref b10))) ((p1 &&& (3 : Int32))) ((.val (.ref b18))) h17 n0 X21 N21 hx hZ hby hml hown e21 O20
  obtain ⟨fs, hr, hrun, hended, hW, hsame⟩ := X22.leave (v := some (.int 1)) (fun h => by rw [Bd.returns] at h; cases h)
  refine ⟨_, _, pre0 _ ?_, hrun, hended, _, _, rfl, ?_, ⟨_, rfl⟩, hW, hsame.mono (by decide) (by decide)⟩
  · show Steps p.tables e below (s₁.setTop (mkF m 0 #[.val (.int p1), .val (.long q2), .second, .val (.long q3), .second, .val (.int p4), .unset, .unset, .unset, .unset, .unset, .unset, .unset, .unset, .unset, .unset, .unset, .unset, .unset, .unset, .unset, .unset, .unset, .unset] [])) _
    refine st5 _ ?_
    show Steps p.tables e below (T5.setTop (mkF m 86 #[.val (.int p1), .val (.long q2), .second, .val (.long q3), .second, .val (.int p4), .val (.int (own_chv q2 (0 : Int32) p4 (0 : Int32))), .val (.int (own_chv q2 (16 : Int32) p4 (1 : Int32))), .val (.int (own_chv q2 (32 : Int32) p4 (2 : Int32))), .val (.int (own_chv q2 (48 : Int32) p4 (3 : Int32))), .val (.int (own_dav q3 p4)), .val (.int (own_chv q3 (16 : Int32) p4 (5 : Int32))), .val (.int (own_chv q3 (32 : Int32) p4 (6 : Int32))), .val (.int (own_chv q3 (48 : Int32) p4 (7 : Int32))), .unset, .unset, .unset, .unset, .unset, .unset, .unset, .unset, .unset, .unset] [])) _
    refine st6 _ ?_
    show Steps p.tables e below (T6.setTop (mkF m 217 #[.val (.int p1), .val (.long q2), .second, .val (.long q3), .second, .val (.int p4), .val (.int (own_chv q2 (0 : Int32) p4 (0 : Int32))), .val (.int (own_chv q2 (16 : Int32) p4 (1 : Int32))), .val (.int (own_chv q2 (32 : Int32) p4 (2 : Int32))), .val (.int (own_chv q2 (48 : Int32) p4 (3 : Int32))), .val (.int (own_dav q3 p4)), .val (.int (own_chv q3 (16 : Int32) p4 (5 : Int32))), .val (.int (own_chv q3 (32 : Int32) p4 (6 : Int32))), .val (.int (own_chv q3 (48 : Int32) p4 (7 : Int32))), .val (.ref b7), .val (.ref b8), .val (.ref b9), .val (.ref b10), .unset, .unset, .unset, .unset, .unset, .unset] [])) _
    refine st17 _ ?_
    show Steps p.tables e below (T17.setTop (mkF m 299 #[.val (.int p1), .val (.long q2), .second, .val (.long q3), .second, .val (.int p4), .val (.int (own_chv q2 (0 : Int32) p4 (0 : Int32))), .val (.int (own_chv q2 (16 : Int32) p4 (1 : Int32))), .val (.int (own_chv q2 (32 : Int32) p4 (2 : Int32))), .val (.int (own_chv q2 (48 : Int32) p4 (3 : Int32))), .val (.int (own_dav q3 p4)), .val (.int (own_chv q3 (16 : Int32) p4 (5 : Int32))), .val (.int (own_chv q3 (32 : Int32) p4 (6 : Int32))), .val (.int (own_chv q3 (48 : Int32) p4 (7 : Int32))), .val (.ref b7), .val (.ref b8), .val (.ref b9), .val (.ref b10), .val (.int (p1 &&& (3 : Int32))), .val (.ref b18), .val .null, .unset, .unset, .unset] [])) _
    refine st21 _ ?_
    show Steps p.tables e below (T21.setTop (mkF m 364 #[.val (.int p1), .val (.long q2), .second, .val (.long q3), .second, .val (.int p4), .val (.int (own_chv q2 (0 : Int32) p4 (0 : Int32))), .val (.int (own_chv q2 (16 : Int32) p4 (1 : Int32))), .val (.int (own_chv q2 (32 : Int32) p4 (2 : Int32))), .val (.int (own_chv q2 (48 : Int32) p4 (3 : Int32))), .val (.int (own_dav q3 p4)), .val (.int (own_chv q3 (16 : Int32) p4 (5 : Int32))), .val (.int (own_chv q3 (32 : Int32) p4 (6 : Int32))), .val (.int (own_chv q3 (48 : Int32) p4 (7 : Int32))), .val (.ref b7), .val (.ref b8), .val (.ref b9), .val (.ref b10), .val (.int (p1 &&& (3 : Int32))), .val (.ref b18), .val .null, .unset, .unset, .unset] [(.int 0)])) _
    refine st22 _ ?_
    exact retN X22 hx (t := .boolean) Bd.returns (by simp) (hb hby at_457) hr
  · skip
    exact ⟨rfl, N22⟩
theorem rm0b (l : Launch) (Z : State) (a0 : Array Value) (hw : ∀ d ∈ tables_1, d.before a0 Z = true) (ws : List Jvm.Cond) (p1 : Int32) (q2 q3 : Int64) (p4 zC : Int32) (fm : Value) (h0 : Heap) (n0 : Nat) (O0 : Old Z n0 h0) (h86_hc0 : own_ch (own_chv q2 (0 : Int32) p4 (0 : Int32))) (h86_hc1 : own_ch (own_chv q2 (16 : Int32) p4 (1 : Int32))) (h86_hc2 : own_ch (own_chv q2 (32 : Int32) p4 (2 : Int32))) (h86_hc3 : own_ch (own_chv q2 (48 : Int32) p4 (3 : Int32))) (h86_hc4 : own_ch (own_dav q3 p4)) (h86_hc5 : own_ch (own_chv q3 (16 : Int32) p4 (5 : Int32))) (h86_hc6 : own_ch (own_chv q3 (32 : Int32) p4 (6 : Int32))) (h86_hc7 : own_ch (own_chv q3 (48 : Int32) p4 (7 : Int32))) (S_COMPACT_STRINGS : Sta Z Z.heap "java/lang/String" "COMPACT_STRINGS" "Z" (.int zC)) (S__assertionsDisabled : Sta Z Z.heap "java/lang/StringUTF16" "$assertionsDisabled" "Z" (.int 1)) (S_HI_BYTE_SHIFT : Sta Z Z.heap "java/lang/StringUTF16" "HI_BYTE_SHIFT" "I" (.int 0)) (S_LO_BYTE_SHIFT : Sta Z Z.heap "java/lang/StringUTF16" "LO_BYTE_SHIFT" "I" (.int 8)) (S_SIOOBE_FORMATTER : Sta Z Z.heap "jdk/internal/util/Preconditions" "SIOOBE_FORMATTER" "Ljava/util/function/BiFunction;" fm) (h217_hc224 : (p1 &&& (3 : Int32)) = (0 : Int32)) (h217_h233_hz : ¬ (zC = (0 : Int32))) (h217_h233_hcs : ∀ c ∈ [(own_chv q2 (0 : Int32) p4 (0 : Int32)), (own_chv q2 (16 : Int32) p4 (1 : Int32)), (own_chv q2 (32 : Int32) p4 (2 : Int32)), (own_chv q2 (48 : Int32) p4 (3 : Int32)), (own_dav q3 p4), (own_chv q3 (16 : Int32) p4 (5 : Int32)), (own_chv q3 (32 : Int32) p4 (6 : Int32))], own_ch c) (h217_h294_hrfm : fm.isRef = true) (h217_h294_hbad : ¬ (own_ok (own_chv q2 (0 : Int32) p4 (0 : Int32)) (own_chv q2 (16 : Int32) p4 (1 : Int32)) (own_chv q2 (32 : Int32) p4 (2 : Int32)) (own_chv q2 (48 : Int32) p4 (3 : Int32)) (own_dav q3 p4) (own_chv q3 (16 : Int32) p4 (5 : Int32)) (own_chv q3 (32 : Int32) p4 (6 : Int32)))) (h299_hT : ¬ ((own_dav q3 p4) = (45 : Int32) ∧ own_dg (own_chv q2 (0 : Int32) p4 (0 : Int32)) ∧ own_dg (own_chv q2 (16 : Int32) p4 (1 : Int32)) ∧ own_dg (own_chv q2 (32 : Int32) p4 (2 : Int32)) ∧ own_dg (own_chv q2 (48 : Int32) p4 (3 : Int32)) ∧ own_dg (own_chv q3 (16 : Int32) p4 (5 : Int32)) ∧ own_dg (own_chv q3 (32 : Int32) p4 (6 : Int32)))) :
    own_MetN l Z ws #[(.int p1), (.long q2), (.long q3), (.int p4)] h0 n0 := by
  refine MetFree.of_bodySF (plainFor_of_name pnc_com_example_vestwright_vestwright_ValuesMonthPinLaw) hisR ?_
  intro p e s m args below meth c s₁ Bd hml0 hP hK
  obtain ⟨rfl, hZ, hh⟩ := hP
  have hx := Bd.exec
  have hby := Bd.bytes
  have hml : c.maxLocals = 24 := hml0
  have hown : s.vm.findClass "com/example/vestwright/vestwright/ValuesMonthPinLaw" = some m.cls := findClass_of_methodNamed Bd.named
  have hnm := (name_of_methodNamed Bd.named Bd.method).1
  have X0 : Stand p l e room_1 s m #[(.int p1), (.long q2), (.long q3), (.int p4)] below meth c s₁ [] 0 0 := Stand.of_body Bd
  have e0 : s₁.heap = h0 := by rw [← hh, Bd.state]; rfl
  have N0 := Fr.nil n0
  have Z0 : n0 ≤ h0.size := O0.1 ▸ O0.2.1
  have pre0 : ∀ t, Steps p.tables e below (s₁.setTop (mkF m 0 #[.val (.int p1), .val (.long q2), .second, .val (.long q3), .second, .val (.int p4), .unset, .unset, .unset, .unset, .unset, .unset, .unset, .unset, .unset, .unset, .unset, .unset, .unset, .unset, .unset, .unset, .unset, .unset] [])) t → Steps p.tables e below (s₁.setTop (entryFrame m #[(.int p1), (.long q2), (.long q3), (.int p4)] maxLocals)) t := fun t k => castTop (ef_0 m p1 q2 q3 p4) k
  obtain ⟨T5, L5, X5, N5, e5, st5⟩ := tn0 hw p1 q2 q3 p4 h0 n0 X0 N0 hx hZ hby hml hown e0 O0
  obtain ⟨T6, L6, h6, b7, b8, b9, b10, k11, k12, k13, k14, X6, N6, e6, K6, Y6_z0, Y6_z1, Y6_z2, Y6_z3, Y6_n0, Y6_n1, Y6_n2, Y6_n3, Y6_n4, Y6_n5, Y6_0, Y6_1, Y6_2, Y6_3, st6⟩ := tn86 hw ((.val (.int p1))) ((.val (.long q2))) ((.second)) ((.val (.long q3))) ((.second)) ((.val (.int p4))) ((own_chv q2 (0 : Int32) p4 (0 : Int32))) ((own_chv q2 (16 : Int32) p4 (1 : Int32))) ((own_chv q2 (32 : Int32) p4 (2 : Int32))) ((own_chv q2 (48 : Int32) p4 (3 : Int32))) ((own_dav q3 p4)) ((own_chv q3 (16 : Int32) p4 (5 : Int32))) ((own_chv q3 (32 : Int32) p4 (6 : Int32))) ((own_chv q3 (48 : Int32) p4 (7 : Int32))) ((.unset)) ((.unset)) ((.unset)) ((.unset)) ((.unset)) ((.unset)) h0 n0 X5 N5 hx hZ hby hml hown e5 O0 h86_hc0 h86_hc1 h86_hc2 h86_hc3 h86_hc4 h86_hc5 h86_hc6 h86_hc7
  have g_b7 : n0 ≤ b7 := Nat.le_trans (Nat.le_trans Z0 (Keep.refl h0 []).1) Y6_z0
  have sz_b7 : h0.size ≤ b7 := Nat.le_trans (Keep.refl h0 []).1 Y6_z0
  have g_b8 : n0 ≤ b8 := Nat.le_trans (Nat.le_trans Z0 (Keep.refl h0 []).1) Y6_z1
  have sz_b8 : h0.size ≤ b8 := Nat.le_trans (Keep.refl h0 []).1 Y6_z1
  have g_b9 : n0 ≤ b9 := Nat.le_trans (Nat.le_trans Z0 (Keep.refl h0 []).1) Y6_z2
  have sz_b9 : h0.size ≤ b9 := Nat.le_trans (Keep.refl h0 []).1 Y6_z2
  have g_b10 : n0 ≤ b10 := Nat.le_trans (Nat.le_trans Z0 (Keep.refl h0 []).1) Y6_z3
  have sz_b10 : h0.size ≤ b10 := Nat.le_trans (Keep.refl h0 []).1 Y6_z3
  have K15 : Keep h0 h6 [] := (Keep.refl h0 []).trans K6 all0
  have O16 : Old Z n0 h6 := O0.keep K6 all0
  obtain ⟨T17, L17, h17, b18, X17, N17, e17, K17, Y17_z0, Y17_0, Y17_1, st17⟩ := tg7B hw p1 q2 q3 p4 ((own_chv q2 (0 : Int32) p4 (0 : Int32))) ((own_chv q2 (16 : Int32) p4 (1 : Int32))) ((own_chv q2 (32 : Int32) p4 (2 : Int32))) ((own_chv q2 (48 : Int32) p4 (3 : Int32))) ((own_dav q3 p4)) ((own_chv q3 (16 : Int32) p4 (5 : Int32))) ((own_chv q3 (32 : Int32) p4 (6 : Int32))) ((own_chv q3 (48 : Int32) p4 (7 : Int32))) b7 b8 b9 b10 k13 zC fm h6 n0 X6 N6 hx hZ hby hml hown e6 O16 Y6_2 h217_hc224 S_COMPACT_STRINGS S__assertionsDisabled S_HI_BYTE_SHIFT S_LO_BYTE_SHIFT h217_h233_hz h217_h233_hcs S_SIOOBE_FORMATTER h217_h294_hrfm h217_h294_hbad
  have g_b18 : n0 ≤ b18 := Nat.le_trans (Nat.le_trans Z0 K15.1) Y17_z0
  have sz_b18 : h0.size ≤ b18 := Nat.le_trans K15.1 Y17_z0
  have K19 : Keep h0 h17 [] := K15.trans K17 all0
  have O20 : Old Z n0 h17 := O16.keep K17 all0
  replace X17 := X17.more (cells' := 10) (slots' := 60) (by decide) (by decide)
  obtain ⟨T21, L21, X21, N21, e21, st21⟩ := ttB hw ((.val (.int p1))) ((.val (.long q2))) ((.second)) ((.val (.long q3))) ((.second)) ((.val (.int p4))) ((own_chv q2 (0 : Int32) p4 (0 : Int32))) ((own_chv q2 (16 : Int32) p4 (1 : Int32))) ((own_chv q2 (32 : Int32) p4 (2 : Int32))) ((own_chv q2 (48 : Int32) p4 (3 : Int32))) ((own_dav q3 p4)) ((own_chv q3 (16 : Int32) p4 (5 : Int32))) ((own_chv q3 (32 : Int32) p4 (6 : Int32))) ((.val (.int (own_chv q3 (48 : Int32) p4 (7 : Int32))))) ((.val (.ref b7))) ((.val (.ref b8))) ((.val (.ref b9))) ((.val (.ref b10))) ((p1 &&& (3 : Int32))) ((.val (.ref b18))) ((.val .null)) h17 n0 X17 N17 hx hZ hby hml hown e17 O20 h217_hc224 h299_hT
  obtain ⟨T22, L22, X22, N22, e22, st22⟩ := tu0 hw ((.val (.int p1))) ((.val (.long q2))) ((.second)) ((.val (.long q3))) ((.second)) ((.val (.int p4))) ((own_chv q2 (0 : Int32) p4 (0 : Int32))) ((own_chv q2 (16 : Int32) p4 (1 : Int32))) ((own_chv q2 (32 : Int32) p4 (2 : Int32))) ((own_chv q2 (48 : Int32) p4 (3 : Int32))) ((own_dav q3 p4)) ((own_chv q3 (16 : Int32) p4 (5 : Int32))) ((own_chv q3 (32 : Int32) p4 (6 : Int32))) ((.val (.int (own_chv q3 (48 : Int32) p4 (7 : Int32))))) ((.val (.ref b7))) ((.val (.ref b8))) ((.val (.ref b9))) ((.val (.ref b10))) ((p1 &&& (3 : Int32))) ((.val (.ref b18))) h17 n0 X21 N21 hx hZ hby hml hown e21 O20
  obtain ⟨fs, hr, hrun, hended, hW, hsame⟩ := X22.leave (v := some (.int 1)) (fun h => by rw [Bd.returns] at h; cases h)
  refine ⟨_, _, pre0 _ ?_, hrun, hended, _, _, rfl, ?_, ⟨_, rfl⟩, hW, hsame.mono (by decide) (by decide)⟩
  · show Steps p.tables e below (s₁.setTop (mkF m 0 #[.val (.int p1), .val (.long q2), .second, .val (.long q3), .second, .val (.int p4), .unset, .unset, .unset, .unset, .unset, .unset, .unset, .unset, .unset, .unset, .unset, .unset, .unset, .unset, .unset, .unset, .unset, .unset] [])) _
    refine st5 _ ?_
    show Steps p.tables e below (T5.setTop (mkF m 86 #[.val (.int p1), .val (.long q2), .second, .val (.long q3), .second, .val (.int p4), .val (.int (own_chv q2 (0 : Int32) p4 (0 : Int32))), .val (.int (own_chv q2 (16 : Int32) p4 (1 : Int32))), .val (.int (own_chv q2 (32 : Int32) p4 (2 : Int32))), .val (.int (own_chv q2 (48 : Int32) p4 (3 : Int32))), .val (.int (own_dav q3 p4)), .val (.int (own_chv q3 (16 : Int32) p4 (5 : Int32))), .val (.int (own_chv q3 (32 : Int32) p4 (6 : Int32))), .val (.int (own_chv q3 (48 : Int32) p4 (7 : Int32))), .unset, .unset, .unset, .unset, .unset, .unset, .unset, .unset, .unset, .unset] [])) _
    refine st6 _ ?_
    show Steps p.tables e below (T6.setTop (mkF m 217 #[.val (.int p1), .val (.long q2), .second, .val (.long q3), .second, .val (.int p4), .val (.int (own_chv q2 (0 : Int32) p4 (0 : Int32))), .val (.int (own_chv q2 (16 : Int32) p4 (1 : Int32))), .val (.int (own_chv q2 (32 : Int32) p4 (2 : Int32))), .val (.int (own_chv q2 (48 : Int32) p4 (3 : Int32))), .val (.int (own_dav q3 p4)), .val (.int (own_chv q3 (16 : Int32) p4 (5 : Int32))), .val (.int (own_chv q3 (32 : Int32) p4 (6 : Int32))), .val (.int (own_chv q3 (48 : Int32) p4 (7 : Int32))), .val (.ref b7), .val (.ref b8), .val (.ref b9), .val (.ref b10), .unset, .unset, .unset, .unset, .unset, .unset] [])) _
    refine st17 _ ?_
    show Steps p.tables e below (T17.setTop (mkF m 299 #[.val (.int p1), .val (.long q2), .second, .val (.long q3), .second, .val (.int p4), .val (.int (own_chv q2 (0 : Int32) p4 (0 : Int32))), .val (.int (own_chv q2 (16 : Int32) p4 (1 : Int32))), .val (.int (own_chv q2 (32 : Int32) p4 (2 : Int32))), .val (.int (own_chv q2 (48 : Int32) p4 (3 : Int32))), .val (.int (own_dav q3 p4)), .val (.int (own_chv q3 (16 : Int32) p4 (5 : Int32))), .val (.int (own_chv q3 (32 : Int32) p4 (6 : Int32))), .val (.int (own_chv q3 (48 : Int32) p4 (7 : Int32))), .val (.ref b7), .val (.ref b8), .val (.ref b9), .val (.ref b10), .val (.int (p1 &&& (3 : Int32))), .val (.ref b18), .val .null, .unset, .unset, .unset] [])) _
    refine st21 _ ?_
    show Steps p.tables e below (T21.setTop (mkF m 364 #[.val (.int p1), .val (.long q2), .second, .val (.long q3), .second, .val (.int p4), .val (.int (own_chv q2 (0 : Int32) p4 (0 : Int32))), .val (.int (own_chv q2 (16 : Int32) p4 (1 : Int32))), .val (.int (own_chv q2 (32 : Int32) p4 (2 : Int32))), .val (.int (own_chv q2 (48 : Int32) p4 (3 : Int32))), .val (.int (own_dav q3 p4)), .val (.int (own_chv q3 (16 : Int32) p4 (5 : Int32))), .val (.int (own_chv q3 (32 : Int32) p4 (6 : Int32))), .val (.int (own_chv q3 (48 : Int32) p4 (7 : Int32))), .val (.ref b7), .val (.ref b8), .val (.ref b9), .val (.ref b10), .val (.int (p1 &&& (3 : Int32))), .val (.ref b18), .val .null, .unset, .unset, .unset] [(.int 0)])) _
    refine st22 _ ?_
    exact retN X22 hx (t := .boolean) Bd.returns (by simp) (hb hby at_457) hr
  · skip
    exact ⟨rfl, N22⟩
theorem rm0m1 (l : Launch) (Z : State) (a0 : Array Value) (hw : ∀ d ∈ tables_1, d.before a0 Z = true) (ws : List Jvm.Cond) (p1 : Int32) (q2 q3 : Int64) (p4 zC : Int32) (fm : Value) (h0 : Heap) (n0 : Nat) (O0 : Old Z n0 h0) (h86_hc0 : own_ch (own_chv q2 (0 : Int32) p4 (0 : Int32))) (h86_hc1 : own_ch (own_chv q2 (16 : Int32) p4 (1 : Int32))) (h86_hc2 : own_ch (own_chv q2 (32 : Int32) p4 (2 : Int32))) (h86_hc3 : own_ch (own_chv q2 (48 : Int32) p4 (3 : Int32))) (h86_hc4 : own_ch (own_dav q3 p4)) (h86_hc5 : own_ch (own_chv q3 (16 : Int32) p4 (5 : Int32))) (h86_hc6 : own_ch (own_chv q3 (32 : Int32) p4 (6 : Int32))) (h86_hc7 : own_ch (own_chv q3 (48 : Int32) p4 (7 : Int32))) (S_COMPACT_STRINGS : Sta Z Z.heap "java/lang/String" "COMPACT_STRINGS" "Z" (.int zC)) (S__assertionsDisabled : Sta Z Z.heap "java/lang/StringUTF16" "$assertionsDisabled" "Z" (.int 1)) (S_HI_BYTE_SHIFT : Sta Z Z.heap "java/lang/StringUTF16" "HI_BYTE_SHIFT" "I" (.int 0)) (S_LO_BYTE_SHIFT : Sta Z Z.heap "java/lang/StringUTF16" "LO_BYTE_SHIFT" "I" (.int 8)) (S_SIOOBE_FORMATTER : Sta Z Z.heap "jdk/internal/util/Preconditions" "SIOOBE_FORMATTER" "Ljava/util/function/BiFunction;" fm) (h217_hc224 : (p1 &&& (3 : Int32)) = (0 : Int32)) (h217_h233_hz : ¬ (zC = (0 : Int32))) (h217_h233_hcs : ∀ c ∈ [(own_chv q2 (0 : Int32) p4 (0 : Int32)), (own_chv q2 (16 : Int32) p4 (1 : Int32)), (own_chv q2 (32 : Int32) p4 (2 : Int32)), (own_chv q2 (48 : Int32) p4 (3 : Int32)), (own_dav q3 p4), (own_chv q3 (16 : Int32) p4 (5 : Int32)), (own_chv q3 (32 : Int32) p4 (6 : Int32))], own_ch c) (h217_h294_hrfm : fm.isRef = true) (h217_h294_hbad : ¬ (own_ok (own_chv q2 (0 : Int32) p4 (0 : Int32)) (own_chv q2 (16 : Int32) p4 (1 : Int32)) (own_chv q2 (32 : Int32) p4 (2 : Int32)) (own_chv q2 (48 : Int32) p4 (3 : Int32)) (own_dav q3 p4) (own_chv q3 (16 : Int32) p4 (5 : Int32)) (own_chv q3 (32 : Int32) p4 (6 : Int32)))) (h299_hc308 : (own_dav q3 p4) = (45 : Int32)) (h299_h313_hc3 : ¬ ((own_chv q2 (0 : Int32) p4 (0 : Int32)) < (48 : Int32))) (h299_h313_hc9 : ¬ ((57 : Int32) < (own_chv q2 (0 : Int32) p4 (0 : Int32)))) (h299_h321_hc3 : ¬ ((own_chv q2 (16 : Int32) p4 (1 : Int32)) < (48 : Int32))) (h299_h321_hc9 : ¬ ((57 : Int32) < (own_chv q2 (16 : Int32) p4 (1 : Int32)))) (h299_h329_hc3 : ¬ ((own_chv q2 (32 : Int32) p4 (2 : Int32)) < (48 : Int32))) (h299_h329_hc9 : ¬ ((57 : Int32) < (own_chv q2 (32 : Int32) p4 (2 : Int32)))) (h299_h337_hc3 : ¬ ((own_chv q2 (48 : Int32) p4 (3 : Int32)) < (48 : Int32))) (h299_h337_hc9 : ¬ ((57 : Int32) < (own_chv q2 (48 : Int32) p4 (3 : Int32)))) (h299_h345_hc3 : ¬ ((own_chv q3 (16 : Int32) p4 (5 : Int32)) < (48 : Int32))) (h299_h345_hc9 : ¬ ((57 : Int32) < (own_chv q3 (16 : Int32) p4 (5 : Int32)))) (h299_h353_hc3 : ¬ ((own_chv q3 (32 : Int32) p4 (6 : Int32)) < (48 : Int32))) (h299_h353_hc9 : ¬ ((57 : Int32) < (own_chv q3 (32 : Int32) p4 (6 : Int32)))) (h364_hc425 : ((((own_chv q3 (16 : Int32) p4 (5 : Int32)) - (48 : Int32)) * (10 : Int32)) + ((own_chv q3 (32 : Int32) p4 (6 : Int32)) - (48 : Int32))) < (1 : Int32)) :
    own_MetN l Z ws #[(.int p1), (.long q2), (.long q3), (.int p4)] h0 n0 := by
  refine MetFree.of_bodySF (plainFor_of_name pnc_com_example_vestwright_vestwright_ValuesMonthPinLaw) hisR ?_
  intro p e s m args below meth c s₁ Bd hml0 hP hK
  obtain ⟨rfl, hZ, hh⟩ := hP
  have hx := Bd.exec
  have hby := Bd.bytes
  have hml : c.maxLocals = 24 := hml0
  have hown : s.vm.findClass "com/example/vestwright/vestwright/ValuesMonthPinLaw" = some m.cls := findClass_of_methodNamed Bd.named
  have hnm := (name_of_methodNamed Bd.named Bd.method).1
  have X0 : Stand p l e room_1 s m #[(.int p1), (.long q2), (.long q3), (.int p4)] below meth c s₁ [] 0 0 := Stand.of_body Bd
  have e0 : s₁.heap = h0 := by rw [← hh, Bd.state]; rfl
  have N0 := Fr.nil n0
  have Z0 : n0 ≤ h0.size := O0.1 ▸ O0.2.1
  have pre0 : ∀ t, Steps p.tables e below (s₁.setTop (mkF m 0 #[.val (.int p1), .val (.long q2), .second, .val (.long q3), .second, .val (.int p4), .unset, .unset, .unset, .unset, .unset, .unset, .unset, .unset, .unset, .unset, .unset, .unset, .unset, .unset, .unset, .unset, .unset, .unset] [])) t → Steps p.tables e below (s₁.setTop (entryFrame m #[(.int p1), (.long q2), (.long q3), (.int p4)] maxLocals)) t := fun t k => castTop (ef_0 m p1 q2 q3 p4) k
  obtain ⟨T5, L5, X5, N5, e5, st5⟩ := tn0 hw p1 q2 q3 p4 h0 n0 X0 N0 hx hZ hby hml hown e0 O0
  obtain ⟨T6, L6, h6, b7, b8, b9, b10, k11, k12, k13, k14, X6, N6, e6, K6, Y6_z0, Y6_z1, Y6_z2, Y6_z3, Y6_n0, Y6_n1, Y6_n2, Y6_n3, Y6_n4, Y6_n5, Y6_0, Y6_1, Y6_2, Y6_3, st6⟩ := tn86 hw ((.val (.int p1))) ((.val (.long q2))) ((.second)) ((.val (.long q3))) ((.second)) ((.val (.int p4))) ((own_chv q2 (0 : Int32) p4 (0 : Int32))) ((own_chv q2 (16 : Int32) p4 (1 : Int32))) ((own_chv q2 (32 : Int32) p4 (2 : Int32))) ((own_chv q2 (48 : Int32) p4 (3 : Int32))) ((own_dav q3 p4)) ((own_chv q3 (16 : Int32) p4 (5 : Int32))) ((own_chv q3 (32 : Int32) p4 (6 : Int32))) ((own_chv q3 (48 : Int32) p4 (7 : Int32))) ((.unset)) ((.unset)) ((.unset)) ((.unset)) ((.unset)) ((.unset)) h0 n0 X5 N5 hx hZ hby hml hown e5 O0 h86_hc0 h86_hc1 h86_hc2 h86_hc3 h86_hc4 h86_hc5 h86_hc6 h86_hc7
  have g_b7 : n0 ≤ b7 := Nat.le_trans (Nat.le_trans Z0 (Keep.refl h0 []).1) Y6_z0
  have sz_b7 : h0.size ≤ b7 := Nat.le_trans (Keep.refl h0 []).1 Y6_z0
  have g_b8 : n0 ≤ b8 := Nat.le_trans (Nat.le_trans Z0 (Keep.refl h0 []).1) Y6_z1
  have sz_b8 : h0.size ≤ b8 := Nat.le_trans (Keep.refl h0 []).1 Y6_z1
  have g_b9 : n0 ≤ b9 := Nat.le_trans (Nat.le_trans Z0 (Keep.refl h0 []).1) Y6_z2
  have sz_b9 : h0.size ≤ b9 := Nat.le_trans (Keep.refl h0 []).1 Y6_z2
  have g_b10 : n0 ≤ b10 := Nat.le_trans (Nat.le_trans Z0 (Keep.refl h0 []).1) Y6_z3
  have sz_b10 : h0.size ≤ b10 := Nat.le_trans (Keep.refl h0 []).1 Y6_z3
  have K15 : Keep h0 h6 [] := (Keep.refl h0 []).trans K6 all0
  have O16 : Old Z n0 h6 := O0.keep K6 all0
  obtain ⟨T17, L17, h17, b18, X17, N17, e17, K17, Y17_z0, Y17_0, Y17_1, st17⟩ := tg7B hw p1 q2 q3 p4 ((own_chv q2 (0 : Int32) p4 (0 : Int32))) ((own_chv q2 (16 : Int32) p4 (1 : Int32))) ((own_chv q2 (32 : Int32) p4 (2 : Int32))) ((own_chv q2 (48 : Int32) p4 (3 : Int32))) ((own_dav q3 p4)) ((own_chv q3 (16 : Int32) p4 (5 : Int32))) ((own_chv q3 (32 : Int32) p4 (6 : Int32))) ((own_chv q3 (48 : Int32) p4 (7 : Int32))) b7 b8 b9 b10 k13 zC fm h6 n0 X6 N6 hx hZ hby hml hown e6 O16 Y6_2 h217_hc224 S_COMPACT_STRINGS S__assertionsDisabled S_HI_BYTE_SHIFT S_LO_BYTE_SHIFT h217_h233_hz h217_h233_hcs S_SIOOBE_FORMATTER h217_h294_hrfm h217_h294_hbad
  have g_b18 : n0 ≤ b18 := Nat.le_trans (Nat.le_trans Z0 K15.1) Y17_z0
  have sz_b18 : h0.size ≤ b18 := Nat.le_trans K15.1 Y17_z0
  have K19 : Keep h0 h17 [] := K15.trans K17 all0
  have O20 : Old Z n0 h17 := O16.keep K17 all0
  replace X17 := X17.more (cells' := 10) (slots' := 60) (by decide) (by decide)
  obtain ⟨T21, L21, X21, N21, e21, st21⟩ := tta hw ((.val (.int p1))) ((.val (.long q2))) ((.second)) ((.val (.long q3))) ((.second)) ((.val (.int p4))) ((own_chv q2 (0 : Int32) p4 (0 : Int32))) ((own_chv q2 (16 : Int32) p4 (1 : Int32))) ((own_chv q2 (32 : Int32) p4 (2 : Int32))) ((own_chv q2 (48 : Int32) p4 (3 : Int32))) ((own_dav q3 p4)) ((own_chv q3 (16 : Int32) p4 (5 : Int32))) ((own_chv q3 (32 : Int32) p4 (6 : Int32))) ((.val (.int (own_chv q3 (48 : Int32) p4 (7 : Int32))))) ((.val (.ref b7))) ((.val (.ref b8))) ((.val (.ref b9))) ((.val (.ref b10))) ((p1 &&& (3 : Int32))) ((.val (.ref b18))) ((.val .null)) h17 n0 X17 N17 hx hZ hby hml hown e17 O20 h217_hc224 h299_hc308 h299_h313_hc3 h299_h313_hc9 h299_h321_hc3 h299_h321_hc9 h299_h329_hc3 h299_h329_hc9 h299_h337_hc3 h299_h337_hc9 h299_h345_hc3 h299_h345_hc9 h299_h353_hc3 h299_h353_hc9
  obtain ⟨T22, L22, X22, N22, e22, st22⟩ := tu1 hw ((.val (.int p1))) ((.val (.long q2))) ((.second)) ((.val (.long q3))) ((.second)) ((.val (.int p4))) ((own_chv q2 (0 : Int32) p4 (0 : Int32))) ((own_chv q2 (16 : Int32) p4 (1 : Int32))) ((own_chv q2 (32 : Int32) p4 (2 : Int32))) ((own_chv q2 (48 : Int32) p4 (3 : Int32))) ((own_dav q3 p4)) ((own_chv q3 (16 : Int32) p4 (5 : Int32))) ((own_chv q3 (32 : Int32) p4 (6 : Int32))) ((.val (.int (own_chv q3 (48 : Int32) p4 (7 : Int32))))) ((.val (.ref b7))) ((.val (.ref b8))) ((.val (.ref b9))) ((.val (.ref b10))) ((p1 &&& (3 : Int32))) ((.val (.ref b18))) h17 n0 X21 N21 hx hZ hby hml hown e21 O20 h364_hc425
  obtain ⟨fs, hr, hrun, hended, hW, hsame⟩ := X22.leave (v := some (.int 1)) (fun h => by rw [Bd.returns] at h; cases h)
  refine ⟨_, _, pre0 _ ?_, hrun, hended, _, _, rfl, ?_, ⟨_, rfl⟩, hW, hsame.mono (by decide) (by decide)⟩
  · show Steps p.tables e below (s₁.setTop (mkF m 0 #[.val (.int p1), .val (.long q2), .second, .val (.long q3), .second, .val (.int p4), .unset, .unset, .unset, .unset, .unset, .unset, .unset, .unset, .unset, .unset, .unset, .unset, .unset, .unset, .unset, .unset, .unset, .unset] [])) _
    refine st5 _ ?_
    show Steps p.tables e below (T5.setTop (mkF m 86 #[.val (.int p1), .val (.long q2), .second, .val (.long q3), .second, .val (.int p4), .val (.int (own_chv q2 (0 : Int32) p4 (0 : Int32))), .val (.int (own_chv q2 (16 : Int32) p4 (1 : Int32))), .val (.int (own_chv q2 (32 : Int32) p4 (2 : Int32))), .val (.int (own_chv q2 (48 : Int32) p4 (3 : Int32))), .val (.int (own_dav q3 p4)), .val (.int (own_chv q3 (16 : Int32) p4 (5 : Int32))), .val (.int (own_chv q3 (32 : Int32) p4 (6 : Int32))), .val (.int (own_chv q3 (48 : Int32) p4 (7 : Int32))), .unset, .unset, .unset, .unset, .unset, .unset, .unset, .unset, .unset, .unset] [])) _
    refine st6 _ ?_
    show Steps p.tables e below (T6.setTop (mkF m 217 #[.val (.int p1), .val (.long q2), .second, .val (.long q3), .second, .val (.int p4), .val (.int (own_chv q2 (0 : Int32) p4 (0 : Int32))), .val (.int (own_chv q2 (16 : Int32) p4 (1 : Int32))), .val (.int (own_chv q2 (32 : Int32) p4 (2 : Int32))), .val (.int (own_chv q2 (48 : Int32) p4 (3 : Int32))), .val (.int (own_dav q3 p4)), .val (.int (own_chv q3 (16 : Int32) p4 (5 : Int32))), .val (.int (own_chv q3 (32 : Int32) p4 (6 : Int32))), .val (.int (own_chv q3 (48 : Int32) p4 (7 : Int32))), .val (.ref b7), .val (.ref b8), .val (.ref b9), .val (.ref b10), .unset, .unset, .unset, .unset, .unset, .unset] [])) _
    refine st17 _ ?_
    show Steps p.tables e below (T17.setTop (mkF m 299 #[.val (.int p1), .val (.long q2), .second, .val (.long q3), .second, .val (.int p4), .val (.int (own_chv q2 (0 : Int32) p4 (0 : Int32))), .val (.int (own_chv q2 (16 : Int32) p4 (1 : Int32))), .val (.int (own_chv q2 (32 : Int32) p4 (2 : Int32))), .val (.int (own_chv q2 (48 : Int32) p4 (3 : Int32))), .val (.int (own_dav q3 p4)), .val (.int (own_chv q3 (16 : Int32) p4 (5 : Int32))), .val (.int (own_chv q3 (32 : Int32) p4 (6 : Int32))), .val (.int (own_chv q3 (48 : Int32) p4 (7 : Int32))), .val (.ref b7), .val (.ref b8), .val (.ref b9), .val (.ref b10), .val (.int (p1 &&& (3 : Int32))), .val (.ref b18), .val .null, .unset, .unset, .unset] [])) _
    refine st21 _ ?_
    show Steps p.tables e below (T21.setTop (mkF m 364 #[.val (.int p1), .val (.long q2), .second, .val (.long q3), .second, .val (.int p4), .val (.int (own_chv q2 (0 : Int32) p4 (0 : Int32))), .val (.int (own_chv q2 (16 : Int32) p4 (1 : Int32))), .val (.int (own_chv q2 (32 : Int32) p4 (2 : Int32))), .val (.int (own_chv q2 (48 : Int32) p4 (3 : Int32))), .val (.int (own_dav q3 p4)), .val (.int (own_chv q3 (16 : Int32) p4 (5 : Int32))), .val (.int (own_chv q3 (32 : Int32) p4 (6 : Int32))), .val (.int (own_chv q3 (48 : Int32) p4 (7 : Int32))), .val (.ref b7), .val (.ref b8), .val (.ref b9), .val (.ref b10), .val (.int (p1 &&& (3 : Int32))), .val (.ref b18), .val .null, .unset, .unset, .unset] [(.int 1)])) _
    refine st22 _ ?_
    exact retN X22 hx (t := .boolean) Bd.returns (by simp) (hb hby at_457) hr
  · skip
    exact ⟨rfl, N22⟩
theorem rm0m2 (l : Launch) (Z : State) (a0 : Array Value) (hw : ∀ d ∈ tables_1, d.before a0 Z = true) (ws : List Jvm.Cond) (p1 : Int32) (q2 q3 : Int64) (p4 zC : Int32) (fm : Value) (h0 : Heap) (n0 : Nat) (O0 : Old Z n0 h0) (h86_hc0 : own_ch (own_chv q2 (0 : Int32) p4 (0 : Int32))) (h86_hc1 : own_ch (own_chv q2 (16 : Int32) p4 (1 : Int32))) (h86_hc2 : own_ch (own_chv q2 (32 : Int32) p4 (2 : Int32))) (h86_hc3 : own_ch (own_chv q2 (48 : Int32) p4 (3 : Int32))) (h86_hc4 : own_ch (own_dav q3 p4)) (h86_hc5 : own_ch (own_chv q3 (16 : Int32) p4 (5 : Int32))) (h86_hc6 : own_ch (own_chv q3 (32 : Int32) p4 (6 : Int32))) (h86_hc7 : own_ch (own_chv q3 (48 : Int32) p4 (7 : Int32))) (S_COMPACT_STRINGS : Sta Z Z.heap "java/lang/String" "COMPACT_STRINGS" "Z" (.int zC)) (S__assertionsDisabled : Sta Z Z.heap "java/lang/StringUTF16" "$assertionsDisabled" "Z" (.int 1)) (S_HI_BYTE_SHIFT : Sta Z Z.heap "java/lang/StringUTF16" "HI_BYTE_SHIFT" "I" (.int 0)) (S_LO_BYTE_SHIFT : Sta Z Z.heap "java/lang/StringUTF16" "LO_BYTE_SHIFT" "I" (.int 8)) (S_SIOOBE_FORMATTER : Sta Z Z.heap "jdk/internal/util/Preconditions" "SIOOBE_FORMATTER" "Ljava/util/function/BiFunction;" fm) (h217_hc224 : (p1 &&& (3 : Int32)) = (0 : Int32)) (h217_h233_hz : ¬ (zC = (0 : Int32))) (h217_h233_hcs : ∀ c ∈ [(own_chv q2 (0 : Int32) p4 (0 : Int32)), (own_chv q2 (16 : Int32) p4 (1 : Int32)), (own_chv q2 (32 : Int32) p4 (2 : Int32)), (own_chv q2 (48 : Int32) p4 (3 : Int32)), (own_dav q3 p4), (own_chv q3 (16 : Int32) p4 (5 : Int32)), (own_chv q3 (32 : Int32) p4 (6 : Int32))], own_ch c) (h217_h294_hrfm : fm.isRef = true) (h217_h294_hbad : ¬ (own_ok (own_chv q2 (0 : Int32) p4 (0 : Int32)) (own_chv q2 (16 : Int32) p4 (1 : Int32)) (own_chv q2 (32 : Int32) p4 (2 : Int32)) (own_chv q2 (48 : Int32) p4 (3 : Int32)) (own_dav q3 p4) (own_chv q3 (16 : Int32) p4 (5 : Int32)) (own_chv q3 (32 : Int32) p4 (6 : Int32)))) (h299_hc308 : (own_dav q3 p4) = (45 : Int32)) (h299_h313_hc3 : ¬ ((own_chv q2 (0 : Int32) p4 (0 : Int32)) < (48 : Int32))) (h299_h313_hc9 : ¬ ((57 : Int32) < (own_chv q2 (0 : Int32) p4 (0 : Int32)))) (h299_h321_hc3 : ¬ ((own_chv q2 (16 : Int32) p4 (1 : Int32)) < (48 : Int32))) (h299_h321_hc9 : ¬ ((57 : Int32) < (own_chv q2 (16 : Int32) p4 (1 : Int32)))) (h299_h329_hc3 : ¬ ((own_chv q2 (32 : Int32) p4 (2 : Int32)) < (48 : Int32))) (h299_h329_hc9 : ¬ ((57 : Int32) < (own_chv q2 (32 : Int32) p4 (2 : Int32)))) (h299_h337_hc3 : ¬ ((own_chv q2 (48 : Int32) p4 (3 : Int32)) < (48 : Int32))) (h299_h337_hc9 : ¬ ((57 : Int32) < (own_chv q2 (48 : Int32) p4 (3 : Int32)))) (h299_h345_hc3 : ¬ ((own_chv q3 (16 : Int32) p4 (5 : Int32)) < (48 : Int32))) (h299_h345_hc9 : ¬ ((57 : Int32) < (own_chv q3 (16 : Int32) p4 (5 : Int32)))) (h299_h353_hc3 : ¬ ((own_chv q3 (32 : Int32) p4 (6 : Int32)) < (48 : Int32))) (h299_h353_hc9 : ¬ ((57 : Int32) < (own_chv q3 (32 : Int32) p4 (6 : Int32)))) (h364_hc425 : ¬ (((((own_chv q3 (16 : Int32) p4 (5 : Int32)) - (48 : Int32)) * (10 : Int32)) + ((own_chv q3 (32 : Int32) p4 (6 : Int32)) - (48 : Int32))) < (1 : Int32))) (h364_hc432 : (12 : Int32) < ((((own_chv q3 (16 : Int32) p4 (5 : Int32)) - (48 : Int32)) * (10 : Int32)) + ((own_chv q3 (32 : Int32) p4 (6 : Int32)) - (48 : Int32)))) :
    own_MetN l Z ws #[(.int p1), (.long q2), (.long q3), (.int p4)] h0 n0 := by
  refine MetFree.of_bodySF (plainFor_of_name pnc_com_example_vestwright_vestwright_ValuesMonthPinLaw) hisR ?_
  intro p e s m args below meth c s₁ Bd hml0 hP hK
  obtain ⟨rfl, hZ, hh⟩ := hP
  have hx := Bd.exec
  have hby := Bd.bytes
  have hml : c.maxLocals = 24 := hml0
  have hown : s.vm.findClass "com/example/vestwright/vestwright/ValuesMonthPinLaw" = some m.cls := findClass_of_methodNamed Bd.named
  have hnm := (name_of_methodNamed Bd.named Bd.method).1
  have X0 : Stand p l e room_1 s m #[(.int p1), (.long q2), (.long q3), (.int p4)] below meth c s₁ [] 0 0 := Stand.of_body Bd
  have e0 : s₁.heap = h0 := by rw [← hh, Bd.state]; rfl
  have N0 := Fr.nil n0
  have Z0 : n0 ≤ h0.size := O0.1 ▸ O0.2.1
  have pre0 : ∀ t, Steps p.tables e below (s₁.setTop (mkF m 0 #[.val (.int p1), .val (.long q2), .second, .val (.long q3), .second, .val (.int p4), .unset, .unset, .unset, .unset, .unset, .unset, .unset, .unset, .unset, .unset, .unset, .unset, .unset, .unset, .unset, .unset, .unset, .unset] [])) t → Steps p.tables e below (s₁.setTop (entryFrame m #[(.int p1), (.long q2), (.long q3), (.int p4)] maxLocals)) t := fun t k => castTop (ef_0 m p1 q2 q3 p4) k
  obtain ⟨T5, L5, X5, N5, e5, st5⟩ := tn0 hw p1 q2 q3 p4 h0 n0 X0 N0 hx hZ hby hml hown e0 O0
  obtain ⟨T6, L6, h6, b7, b8, b9, b10, k11, k12, k13, k14, X6, N6, e6, K6, Y6_z0, Y6_z1, Y6_z2, Y6_z3, Y6_n0, Y6_n1, Y6_n2, Y6_n3, Y6_n4, Y6_n5, Y6_0, Y6_1, Y6_2, Y6_3, st6⟩ := tn86 hw ((.val (.int p1))) ((.val (.long q2))) ((.second)) ((.val (.long q3))) ((.second)) ((.val (.int p4))) ((own_chv q2 (0 : Int32) p4 (0 : Int32))) ((own_chv q2 (16 : Int32) p4 (1 : Int32))) ((own_chv q2 (32 : Int32) p4 (2 : Int32))) ((own_chv q2 (48 : Int32) p4 (3 : Int32))) ((own_dav q3 p4)) ((own_chv q3 (16 : Int32) p4 (5 : Int32))) ((own_chv q3 (32 : Int32) p4 (6 : Int32))) ((own_chv q3 (48 : Int32) p4 (7 : Int32))) ((.unset)) ((.unset)) ((.unset)) ((.unset)) ((.unset)) ((.unset)) h0 n0 X5 N5 hx hZ hby hml hown e5 O0 h86_hc0 h86_hc1 h86_hc2 h86_hc3 h86_hc4 h86_hc5 h86_hc6 h86_hc7
  have g_b7 : n0 ≤ b7 := Nat.le_trans (Nat.le_trans Z0 (Keep.refl h0 []).1) Y6_z0
  have sz_b7 : h0.size ≤ b7 := Nat.le_trans (Keep.refl h0 []).1 Y6_z0
  have g_b8 : n0 ≤ b8 := Nat.le_trans (Nat.le_trans Z0 (Keep.refl h0 []).1) Y6_z1
  have sz_b8 : h0.size ≤ b8 := Nat.le_trans (Keep.refl h0 []).1 Y6_z1
  have g_b9 : n0 ≤ b9 := Nat.le_trans (Nat.le_trans Z0 (Keep.refl h0 []).1) Y6_z2
  have sz_b9 : h0.size ≤ b9 := Nat.le_trans (Keep.refl h0 []).1 Y6_z2
  have g_b10 : n0 ≤ b10 := Nat.le_trans (Nat.le_trans Z0 (Keep.refl h0 []).1) Y6_z3
  have sz_b10 : h0.size ≤ b10 := Nat.le_trans (Keep.refl h0 []).1 Y6_z3
  have K15 : Keep h0 h6 [] := (Keep.refl h0 []).trans K6 all0
  have O16 : Old Z n0 h6 := O0.keep K6 all0
  obtain ⟨T17, L17, h17, b18, X17, N17, e17, K17, Y17_z0, Y17_0, Y17_1, st17⟩ := tg7B hw p1 q2 q3 p4 ((own_chv q2 (0 : Int32) p4 (0 : Int32))) ((own_chv q2 (16 : Int32) p4 (1 : Int32))) ((own_chv q2 (32 : Int32) p4 (2 : Int32))) ((own_chv q2 (48 : Int32) p4 (3 : Int32))) ((own_dav q3 p4)) ((own_chv q3 (16 : Int32) p4 (5 : Int32))) ((own_chv q3 (32 : Int32) p4 (6 : Int32))) ((own_chv q3 (48 : Int32) p4 (7 : Int32))) b7 b8 b9 b10 k13 zC fm h6 n0 X6 N6 hx hZ hby hml hown e6 O16 Y6_2 h217_hc224 S_COMPACT_STRINGS S__assertionsDisabled S_HI_BYTE_SHIFT S_LO_BYTE_SHIFT h217_h233_hz h217_h233_hcs S_SIOOBE_FORMATTER h217_h294_hrfm h217_h294_hbad
  have g_b18 : n0 ≤ b18 := Nat.le_trans (Nat.le_trans Z0 K15.1) Y17_z0
  have sz_b18 : h0.size ≤ b18 := Nat.le_trans K15.1 Y17_z0
  have K19 : Keep h0 h17 [] := K15.trans K17 all0
  have O20 : Old Z n0 h17 := O16.keep K17 all0
  replace X17 := X17.more (cells' := 10) (slots' := 60) (by decide) (by decide)
  obtain ⟨T21, L21, X21, N21, e21, st21⟩ := tta hw ((.val (.int p1))) ((.val (.long q2))) ((.second)) ((.val (.long q3))) ((.second)) ((.val (.int p4))) ((own_chv q2 (0 : Int32) p4 (0 : Int32))) ((own_chv q2 (16 : Int32) p4 (1 : Int32))) ((own_chv q2 (32 : Int32) p4 (2 : Int32))) ((own_chv q2 (48 : Int32) p4 (3 : Int32))) ((own_dav q3 p4)) ((own_chv q3 (16 : Int32) p4 (5 : Int32))) ((own_chv q3 (32 : Int32) p4 (6 : Int32))) ((.val (.int (own_chv q3 (48 : Int32) p4 (7 : Int32))))) ((.val (.ref b7))) ((.val (.ref b8))) ((.val (.ref b9))) ((.val (.ref b10))) ((p1 &&& (3 : Int32))) ((.val (.ref b18))) ((.val .null)) h17 n0 X17 N17 hx hZ hby hml hown e17 O20 h217_hc224 h299_hc308 h299_h313_hc3 h299_h313_hc9 h299_h321_hc3 h299_h321_hc9 h299_h329_hc3 h299_h329_hc9 h299_h337_hc3 h299_h337_hc9 h299_h345_hc3 h299_h345_hc9 h299_h353_hc3 h299_h353_hc9
  obtain ⟨T22, L22, X22, N22, e22, st22⟩ := tu2 hw ((.val (.int p1))) ((.val (.long q2))) ((.second)) ((.val (.long q3))) ((.second)) ((.val (.int p4))) ((own_chv q2 (0 : Int32) p4 (0 : Int32))) ((own_chv q2 (16 : Int32) p4 (1 : Int32))) ((own_chv q2 (32 : Int32) p4 (2 : Int32))) ((own_chv q2 (48 : Int32) p4 (3 : Int32))) ((own_dav q3 p4)) ((own_chv q3 (16 : Int32) p4 (5 : Int32))) ((own_chv q3 (32 : Int32) p4 (6 : Int32))) ((.val (.int (own_chv q3 (48 : Int32) p4 (7 : Int32))))) ((.val (.ref b7))) ((.val (.ref b8))) ((.val (.ref b9))) ((.val (.ref b10))) ((p1 &&& (3 : Int32))) ((.val (.ref b18))) h17 n0 X21 N21 hx hZ hby hml hown e21 O20 h364_hc425 h364_hc432
  obtain ⟨fs, hr, hrun, hended, hW, hsame⟩ := X22.leave (v := some (.int 1)) (fun h => by rw [Bd.returns] at h; cases h)
  refine ⟨_, _, pre0 _ ?_, hrun, hended, _, _, rfl, ?_, ⟨_, rfl⟩, hW, hsame.mono (by decide) (by decide)⟩
  · show Steps p.tables e below (s₁.setTop (mkF m 0 #[.val (.int p1), .val (.long q2), .second, .val (.long q3), .second, .val (.int p4), .unset, .unset, .unset, .unset, .unset, .unset, .unset, .unset, .unset, .unset, .unset, .unset, .unset, .unset, .unset, .unset, .unset, .unset] [])) _
    refine st5 _ ?_
    show Steps p.tables e below (T5.setTop (mkF m 86 #[.val (.int p1), .val (.long q2), .second, .val (.long q3), .second, .val (.int p4), .val (.int (own_chv q2 (0 : Int32) p4 (0 : Int32))), .val (.int (own_chv q2 (16 : Int32) p4 (1 : Int32))), .val (.int (own_chv q2 (32 : Int32) p4 (2 : Int32))), .val (.int (own_chv q2 (48 : Int32) p4 (3 : Int32))), .val (.int (own_dav q3 p4)), .val (.int (own_chv q3 (16 : Int32) p4 (5 : Int32))), .val (.int (own_chv q3 (32 : Int32) p4 (6 : Int32))), .val (.int (own_chv q3 (48 : Int32) p4 (7 : Int32))), .unset, .unset, .unset, .unset, .unset, .unset, .unset, .unset, .unset, .unset] [])) _
    refine st6 _ ?_
    show Steps p.tables e below (T6.setTop (mkF m 217 #[.val (.int p1), .val (.long q2), .second, .val (.long q3), .second, .val (.int p4), .val (.int (own_chv q2 (0 : Int32) p4 (0 : Int32))), .val (.int (own_chv q2 (16 : Int32) p4 (1 : Int32))), .val (.int (own_chv q2 (32 : Int32) p4 (2 : Int32))), .val (.int (own_chv q2 (48 : Int32) p4 (3 : Int32))), .val (.int (own_dav q3 p4)), .val (.int (own_chv q3 (16 : Int32) p4 (5 : Int32))), .val (.int (own_chv q3 (32 : Int32) p4 (6 : Int32))), .val (.int (own_chv q3 (48 : Int32) p4 (7 : Int32))), .val (.ref b7), .val (.ref b8), .val (.ref b9), .val (.ref b10), .unset, .unset, .unset, .unset, .unset, .unset] [])) _
    refine st17 _ ?_
    show Steps p.tables e below (T17.setTop (mkF m 299 #[.val (.int p1), .val (.long q2), .second, .val (.long q3), .second, .val (.int p4), .val (.int (own_chv q2 (0 : Int32) p4 (0 : Int32))), .val (.int (own_chv q2 (16 : Int32) p4 (1 : Int32))), .val (.int (own_chv q2 (32 : Int32) p4 (2 : Int32))), .val (.int (own_chv q2 (48 : Int32) p4 (3 : Int32))), .val (.int (own_dav q3 p4)), .val (.int (own_chv q3 (16 : Int32) p4 (5 : Int32))), .val (.int (own_chv q3 (32 : Int32) p4 (6 : Int32))), .val (.int (own_chv q3 (48 : Int32) p4 (7 : Int32))), .val (.ref b7), .val (.ref b8), .val (.ref b9), .val (.ref b10), .val (.int (p1 &&& (3 : Int32))), .val (.ref b18), .val .null, .unset, .unset, .unset] [])) _
    refine st21 _ ?_
    show Steps p.tables e below (T21.setTop (mkF m 364 #[.val (.int p1), .val (.long q2), .second, .val (.long q3), .second, .val (.int p4), .val (.int (own_chv q2 (0 : Int32) p4 (0 : Int32))), .val (.int (own_chv q2 (16 : Int32) p4 (1 : Int32))), .val (.int (own_chv q2 (32 : Int32) p4 (2 : Int32))), .val (.int (own_chv q2 (48 : Int32) p4 (3 : Int32))), .val (.int (own_dav q3 p4)), .val (.int (own_chv q3 (16 : Int32) p4 (5 : Int32))), .val (.int (own_chv q3 (32 : Int32) p4 (6 : Int32))), .val (.int (own_chv q3 (48 : Int32) p4 (7 : Int32))), .val (.ref b7), .val (.ref b8), .val (.ref b9), .val (.ref b10), .val (.int (p1 &&& (3 : Int32))), .val (.ref b18), .val .null, .unset, .unset, .unset] [(.int 1)])) _
    refine st22 _ ?_
    exact retN X22 hx (t := .boolean) Bd.returns (by simp) (hb hby at_457) hr
  · skip
    exact ⟨rfl, N22⟩
theorem rm0k (l : Launch) (Z : State) (a0 : Array Value) (hw : ∀ d ∈ tables_1, d.before a0 Z = true) (ws : List Jvm.Cond) (p1 : Int32) (q2 q3 : Int64) (p4 zC : Int32) (fm : Value) (w17 w18 : Addr) (w21 w24 : Int64) (w26 w27 : Addr) (w30 w33 : Int64) (h0 : Heap) (n0 : Nat) (O0 : Old Z n0 h0) (h86_hc0 : own_ch (own_chv q2 (0 : Int32) p4 (0 : Int32))) (h86_hc1 : own_ch (own_chv q2 (16 : Int32) p4 (1 : Int32))) (h86_hc2 : own_ch (own_chv q2 (32 : Int32) p4 (2 : Int32))) (h86_hc3 : own_ch (own_chv q2 (48 : Int32) p4 (3 : Int32))) (h86_hc4 : own_ch (own_dav q3 p4)) (h86_hc5 : own_ch (own_chv q3 (16 : Int32) p4 (5 : Int32))) (h86_hc6 : own_ch (own_chv q3 (32 : Int32) p4 (6 : Int32))) (h86_hc7 : own_ch (own_chv q3 (48 : Int32) p4 (7 : Int32))) (S_COMPACT_STRINGS : Sta Z Z.heap "java/lang/String" "COMPACT_STRINGS" "Z" (.int zC)) (S__assertionsDisabled : Sta Z Z.heap "java/lang/StringUTF16" "$assertionsDisabled" "Z" (.int 1)) (S_HI_BYTE_SHIFT : Sta Z Z.heap "java/lang/StringUTF16" "HI_BYTE_SHIFT" "I" (.int 0)) (S_LO_BYTE_SHIFT : Sta Z Z.heap "java/lang/StringUTF16" "LO_BYTE_SHIFT" "I" (.int 8)) (S_SIOOBE_FORMATTER : Sta Z Z.heap "jdk/internal/util/Preconditions" "SIOOBE_FORMATTER" "Ljava/util/function/BiFunction;" fm) (S_YEAR : Sta Z Z.heap "java/time/temporal/ChronoField" "YEAR" "Ljava/time/temporal/ChronoField;" (.ref w17)) (HF_w17_range : Fld Z h0 w17 "java/time/temporal/ChronoField" "range" "Ljava/time/temporal/ValueRange;" (.ref w18)) (HE_w17 : Exa Z h0 w17 "java/time/temporal/ChronoField") (HF_w18_minSmallest : Fld Z h0 w18 "java/time/temporal/ValueRange" "minSmallest" "J" (.long w21)) (HE_w18 : Exa Z h0 w18 "java/time/temporal/ValueRange") (HF_w18_maxLargest : Fld Z h0 w18 "java/time/temporal/ValueRange" "maxLargest" "J" (.long w24)) (S_MONTH_OF_YEAR : Sta Z Z.heap "java/time/temporal/ChronoField" "MONTH_OF_YEAR" "Ljava/time/temporal/ChronoField;" (.ref w26)) (HF_w26_range : Fld Z h0 w26 "java/time/temporal/ChronoField" "range" "Ljava/time/temporal/ValueRange;" (.ref w27)) (HE_w26 : Exa Z h0 w26 "java/time/temporal/ChronoField") (HF_w27_minSmallest : Fld Z h0 w27 "java/time/temporal/ValueRange" "minSmallest" "J" (.long w30)) (HE_w27 : Exa Z h0 w27 "java/time/temporal/ValueRange") (HF_w27_maxLargest : Fld Z h0 w27 "java/time/temporal/ValueRange" "maxLargest" "J" (.long w33)) (h217_hc224 : (p1 &&& (3 : Int32)) = (0 : Int32)) (h217_h233_hz : ¬ (zC = (0 : Int32))) (h217_h233_hcs : ∀ c ∈ [(own_chv q2 (0 : Int32) p4 (0 : Int32)), (own_chv q2 (16 : Int32) p4 (1 : Int32)), (own_chv q2 (32 : Int32) p4 (2 : Int32)), (own_chv q2 (48 : Int32) p4 (3 : Int32)), (own_dav q3 p4), (own_chv q3 (16 : Int32) p4 (5 : Int32)), (own_chv q3 (32 : Int32) p4 (6 : Int32))], own_ch c) (h217_h294_h11_hrfm : fm.isRef = true) (h217_h294_hc16 : (own_dav q3 p4) = (45 : Int32)) (h217_h294_h22_h12_hc18 : ¬ ((own_chv q2 (0 : Int32) p4 (0 : Int32)) < (48 : Int32))) (h217_h294_h22_h12_hc25 : ¬ ((57 : Int32) < (own_chv q2 (0 : Int32) p4 (0 : Int32)))) (h217_h294_h22_h12_hc18_1 : ¬ ((own_chv q2 (16 : Int32) p4 (1 : Int32)) < (48 : Int32))) (h217_h294_h22_h12_hc25_1 : ¬ ((57 : Int32) < (own_chv q2 (16 : Int32) p4 (1 : Int32)))) (h217_h294_h22_h12_hc18_2 : ¬ ((own_chv q2 (32 : Int32) p4 (2 : Int32)) < (48 : Int32))) (h217_h294_h22_h12_hc25_2 : ¬ ((57 : Int32) < (own_chv q2 (32 : Int32) p4 (2 : Int32)))) (h217_h294_h22_h12_hc18_3 : ¬ ((own_chv q2 (48 : Int32) p4 (3 : Int32)) < (48 : Int32))) (h217_h294_h22_h12_hc25_3 : ¬ ((57 : Int32) < (own_chv q2 (48 : Int32) p4 (3 : Int32)))) (h217_h294_h32_h12_hc18 : ¬ ((own_chv q3 (16 : Int32) p4 (5 : Int32)) < (48 : Int32))) (h217_h294_h32_h12_hc25 : ¬ ((57 : Int32) < (own_chv q3 (16 : Int32) p4 (5 : Int32)))) (h217_h294_h32_h12_hc18_1 : ¬ ((own_chv q3 (32 : Int32) p4 (6 : Int32)) < (48 : Int32))) (h217_h294_h32_h12_hc25_1 : ¬ ((57 : Int32) < (own_chv q3 (32 : Int32) p4 (6 : Int32)))) (h217_h294_hc50 : ¬ (((((0 : Int32) + ((own_chv q3 (16 : Int32) p4 (5 : Int32)) - (48 : Int32))) * (10 : Int32)) + ((own_chv q3 (32 : Int32) p4 (6 : Int32)) - (48 : Int32))) < (1 : Int32))) (h217_h294_hc56 : ¬ ((12 : Int32) < ((((0 : Int32) + ((own_chv q3 (16 : Int32) p4 (5 : Int32)) - (48 : Int32))) * (10 : Int32)) + ((own_chv q3 (32 : Int32) p4 (6 : Int32)) - (48 : Int32))))) (h217_h294_h68_h5_h6_h2_hc6 : ¬ ((lcmpW (((((((((0 : Int32) + ((own_chv q2 (0 : Int32) p4 (0 : Int32)) - (48 : Int32))) * (10 : Int32)) + ((own_chv q2 (16 : Int32) p4 (1 : Int32)) - (48 : Int32))) * (10 : Int32)) + ((own_chv q2 (32 : Int32) p4 (2 : Int32)) - (48 : Int32))) * (10 : Int32)) + ((own_chv q2 (48 : Int32) p4 (3 : Int32)) - (48 : Int32))).toInt64) w21) < (0 : Int32))) (h217_h294_h68_h5_h6_h2_hc15 : ¬ ((0 : Int32) < (lcmpW (((((((((0 : Int32) + ((own_chv q2 (0 : Int32) p4 (0 : Int32)) - (48 : Int32))) * (10 : Int32)) + ((own_chv q2 (16 : Int32) p4 (1 : Int32)) - (48 : Int32))) * (10 : Int32)) + ((own_chv q2 (32 : Int32) p4 (2 : Int32)) - (48 : Int32))) * (10 : Int32)) + ((own_chv q2 (48 : Int32) p4 (3 : Int32)) - (48 : Int32))).toInt64) w24))) (h217_h294_h68_h14_h6_h2_hc6 : ¬ ((lcmpW (((((0 : Int32) + ((own_chv q3 (16 : Int32) p4 (5 : Int32)) - (48 : Int32))) * (10 : Int32)) + ((own_chv q3 (32 : Int32) p4 (6 : Int32)) - (48 : Int32))).toInt64) w30) < (0 : Int32))) (h217_h294_h68_h14_h6_h2_hc15 : ¬ ((0 : Int32) < (lcmpW (((((0 : Int32) + ((own_chv q3 (16 : Int32) p4 (5 : Int32)) - (48 : Int32))) * (10 : Int32)) + ((own_chv q3 (32 : Int32) p4 (6 : Int32)) - (48 : Int32))).toInt64) w33))) (h364_hc425 : ¬ (((((own_chv q3 (16 : Int32) p4 (5 : Int32)) - (48 : Int32)) * (10 : Int32)) + ((own_chv q3 (32 : Int32) p4 (6 : Int32)) - (48 : Int32))) < (1 : Int32))) (h364_hc432 : ¬ ((12 : Int32) < ((((own_chv q3 (16 : Int32) p4 (5 : Int32)) - (48 : Int32)) * (10 : Int32)) + ((own_chv q3 (32 : Int32) p4 (6 : Int32)) - (48 : Int32))))) (h364_hc470 : ((((((((0 : Int32) + ((own_chv q2 (0 : Int32) p4 (0 : Int32)) - (48 : Int32))) * (10 : Int32)) + ((own_chv q2 (16 : Int32) p4 (1 : Int32)) - (48 : Int32))) * (10 : Int32)) + ((own_chv q2 (32 : Int32) p4 (2 : Int32)) - (48 : Int32))) * (10 : Int32)) + ((own_chv q2 (48 : Int32) p4 (3 : Int32)) - (48 : Int32))) = ((((((own_chv q2 (0 : Int32) p4 (0 : Int32)) - (48 : Int32)) * (1000 : Int32)) + (((own_chv q2 (16 : Int32) p4 (1 : Int32)) - (48 : Int32)) * (100 : Int32))) + (((own_chv q2 (32 : Int32) p4 (2 : Int32)) - (48 : Int32)) * (10 : Int32))) + ((own_chv q2 (48 : Int32) p4 (3 : Int32)) - (48 : Int32)))) (h364_hc480 : ((((0 : Int32) + ((own_chv q3 (16 : Int32) p4 (5 : Int32)) - (48 : Int32))) * (10 : Int32)) + ((own_chv q3 (32 : Int32) p4 (6 : Int32)) - (48 : Int32))) = ((((own_chv q3 (16 : Int32) p4 (5 : Int32)) - (48 : Int32)) * (10 : Int32)) + ((own_chv q3 (32 : Int32) p4 (6 : Int32)) - (48 : Int32)))) :
    own_MetN l Z ws #[(.int p1), (.long q2), (.long q3), (.int p4)] h0 n0 := by
  refine MetFree.of_bodySF (plainFor_of_name pnc_com_example_vestwright_vestwright_ValuesMonthPinLaw) hisR ?_
  intro p e s m args below meth c s₁ Bd hml0 hP hK
  obtain ⟨rfl, hZ, hh⟩ := hP
  have hx := Bd.exec
  have hby := Bd.bytes
  have hml : c.maxLocals = 24 := hml0
  have hown : s.vm.findClass "com/example/vestwright/vestwright/ValuesMonthPinLaw" = some m.cls := findClass_of_methodNamed Bd.named
  have hnm := (name_of_methodNamed Bd.named Bd.method).1
  have X0 : Stand p l e room_1 s m #[(.int p1), (.long q2), (.long q3), (.int p4)] below meth c s₁ [] 0 0 := Stand.of_body Bd
  have e0 : s₁.heap = h0 := by rw [← hh, Bd.state]; rfl
  have N0 := Fr.nil n0
  have Z0 : n0 ≤ h0.size := O0.1 ▸ O0.2.1
  have pre0 : ∀ t, Steps p.tables e below (s₁.setTop (mkF m 0 #[.val (.int p1), .val (.long q2), .second, .val (.long q3), .second, .val (.int p4), .unset, .unset, .unset, .unset, .unset, .unset, .unset, .unset, .unset, .unset, .unset, .unset, .unset, .unset, .unset, .unset, .unset, .unset] [])) t → Steps p.tables e below (s₁.setTop (entryFrame m #[(.int p1), (.long q2), (.long q3), (.int p4)] maxLocals)) t := fun t k => castTop (ef_0 m p1 q2 q3 p4) k
  obtain ⟨T5, L5, X5, N5, e5, st5⟩ := tn0 hw p1 q2 q3 p4 h0 n0 X0 N0 hx hZ hby hml hown e0 O0
  obtain ⟨T6, L6, h6, b7, b8, b9, b10, k11, k12, k13, k14, X6, N6, e6, K6, Y6_z0, Y6_z1, Y6_z2, Y6_z3, Y6_n0, Y6_n1, Y6_n2, Y6_n3, Y6_n4, Y6_n5, Y6_0, Y6_1, Y6_2, Y6_3, st6⟩ := tn86 hw ((.val (.int p1))) ((.val (.long q2))) ((.second)) ((.val (.long q3))) ((.second)) ((.val (.int p4))) ((own_chv q2 (0 : Int32) p4 (0 : Int32))) ((own_chv q2 (16 : Int32) p4 (1 : Int32))) ((own_chv q2 (32 : Int32) p4 (2 : Int32))) ((own_chv q2 (48 : Int32) p4 (3 : Int32))) ((own_dav q3 p4)) ((own_chv q3 (16 : Int32) p4 (5 : Int32))) ((own_chv q3 (32 : Int32) p4 (6 : Int32))) ((own_chv q3 (48 : Int32) p4 (7 : Int32))) ((.unset)) ((.unset)) ((.unset)) ((.unset)) ((.unset)) ((.unset)) h0 n0 X5 N5 hx hZ hby hml hown e5 O0 h86_hc0 h86_hc1 h86_hc2 h86_hc3 h86_hc4 h86_hc5 h86_hc6 h86_hc7
  have g_b7 : n0 ≤ b7 := Nat.le_trans (Nat.le_trans Z0 (Keep.refl h0 []).1) Y6_z0
  have sz_b7 : h0.size ≤ b7 := Nat.le_trans (Keep.refl h0 []).1 Y6_z0
  have g_b8 : n0 ≤ b8 := Nat.le_trans (Nat.le_trans Z0 (Keep.refl h0 []).1) Y6_z1
  have sz_b8 : h0.size ≤ b8 := Nat.le_trans (Keep.refl h0 []).1 Y6_z1
  have g_b9 : n0 ≤ b9 := Nat.le_trans (Nat.le_trans Z0 (Keep.refl h0 []).1) Y6_z2
  have sz_b9 : h0.size ≤ b9 := Nat.le_trans (Keep.refl h0 []).1 Y6_z2
  have g_b10 : n0 ≤ b10 := Nat.le_trans (Nat.le_trans Z0 (Keep.refl h0 []).1) Y6_z3
  have sz_b10 : h0.size ≤ b10 := Nat.le_trans (Keep.refl h0 []).1 Y6_z3
  have K15 : Keep h0 h6 [] := (Keep.refl h0 []).trans K6 all0
  have O16 : Old Z n0 h6 := O0.keep K6 all0
  have f19 := (HF_w17_range.keep K6 nin0)
  have f20 := (HE_w17.keep K6)
  have f22 := (HF_w18_minSmallest.keep K6 nin0)
  have f23 := (HE_w18.keep K6)
  have f25 := (HF_w18_maxLargest.keep K6 nin0)
  have f28 := (HF_w26_range.keep K6 nin0)
  have f29 := (HE_w26.keep K6)
  have f31 := (HF_w27_minSmallest.keep K6 nin0)
  have f32 := (HE_w27.keep K6)
  have f34 := (HF_w27_maxLargest.keep K6 nin0)
  obtain ⟨T35, L35, h35, b36, b37, X35, N35, e35, K35, Y35_z0, Y35_z1, Y35_n0, Y35_0, Y35_1, Y35_2, Y35_3, Y35_4, st35⟩ := tg7O hw p1 q2 q3 p4 ((own_chv q2 (0 : Int32) p4 (0 : Int32))) ((own_chv q2 (16 : Int32) p4 (1 : Int32))) ((own_chv q2 (32 : Int32) p4 (2 : Int32))) ((own_chv q2 (48 : Int32) p4 (3 : Int32))) ((own_dav q3 p4)) ((own_chv q3 (16 : Int32) p4 (5 : Int32))) ((own_chv q3 (32 : Int32) p4 (6 : Int32))) ((own_chv q3 (48 : Int32) p4 (7 : Int32))) b7 b8 b9 b10 k13 zC fm w17 w18 w21 w24 w26 w27 w30 w33 h6 n0 X6 N6 hx hZ hby hml hown e6 O16 Y6_2 h217_hc224 S_COMPACT_STRINGS S__assertionsDisabled S_HI_BYTE_SHIFT S_LO_BYTE_SHIFT h217_h233_hz h217_h233_hcs S_SIOOBE_FORMATTER S_YEAR f19 f20 f22 f23 f25 S_MONTH_OF_YEAR f28 f29 f31 f32 f34 h217_h294_h11_hrfm h217_h294_hc16 h217_h294_h22_h12_hc18 h217_h294_h22_h12_hc25 h217_h294_h22_h12_hc18_1 h217_h294_h22_h12_hc25_1 h217_h294_h22_h12_hc18_2 h217_h294_h22_h12_hc25_2 h217_h294_h22_h12_hc18_3 h217_h294_h22_h12_hc25_3 h217_h294_h32_h12_hc18 h217_h294_h32_h12_hc25 h217_h294_h32_h12_hc18_1 h217_h294_h32_h12_hc25_1 h217_h294_hc50 h217_h294_hc56 h217_h294_h68_h5_h6_h2_hc6 h217_h294_h68_h5_h6_h2_hc15 h217_h294_h68_h14_h6_h2_hc6 h217_h294_h68_h14_h6_h2_hc15
  have g_b36 : n0 ≤ b36 := Nat.le_trans (Nat.le_trans Z0 K15.1) Y35_z0
  have sz_b36 : h0.size ≤ b36 := Nat.le_trans K15.1 Y35_z0
  have g_b37 : n0 ≤ b37 := Nat.le_trans (Nat.le_trans Z0 K15.1) Y35_z1
  have sz_b37 : h0.size ≤ b37 := Nat.le_trans K15.1 Y35_z1
  have K38 : Keep h0 h35 [] := K15.trans K35 all0
  have O39 : Old Z n0 h35 := O16.keep K35 all0
  replace X35 := X35.more (cells' := 10) (slots' := 60) (by decide) (by decide)
  obtain ⟨T40, L40, X40, N40, e40, st40⟩ := tta hw ((.val (.int p1))) ((.val (.long q2))) ((.second)) ((.val (.long q3))) ((.second)) ((.val (.int p4))) ((own_chv q2 (0 : Int32) p4 (0 : Int32))) ((own_chv q2 (16 : Int32) p4 (1 : Int32))) ((own_chv q2 (32 : Int32) p4 (2 : Int32))) ((own_chv q2 (48 : Int32) p4 (3 : Int32))) ((own_dav q3 p4)) ((own_chv q3 (16 : Int32) p4 (5 : Int32))) ((own_chv q3 (32 : Int32) p4 (6 : Int32))) ((.val (.int (own_chv q3 (48 : Int32) p4 (7 : Int32))))) ((.val (.ref b7))) ((.val (.ref b8))) ((.val (.ref b9))) ((.val (.ref b10))) ((p1 &&& (3 : Int32))) ((.val (.ref b36))) ((.val (.ref b37))) h35 n0 X35 N35 hx hZ hby hml hown e35 O39 h217_hc224 h217_h294_hc16 h217_h294_h22_h12_hc18 h217_h294_h22_h12_hc25 h217_h294_h22_h12_hc18_1 h217_h294_h22_h12_hc25_1 h217_h294_h22_h12_hc18_2 h217_h294_h22_h12_hc25_2 h217_h294_h22_h12_hc18_3 h217_h294_h22_h12_hc25_3 h217_h294_h32_h12_hc18 h217_h294_h32_h12_hc25 h217_h294_h32_h12_hc18_1 h217_h294_h32_h12_hc25_1
  obtain ⟨T41, L41, X41, N41, e41, st41⟩ := tuk hw ((.val (.int p1))) ((.val (.long q2))) ((.second)) ((.val (.long q3))) ((.second)) ((.val (.int p4))) ((own_chv q2 (0 : Int32) p4 (0 : Int32))) ((own_chv q2 (16 : Int32) p4 (1 : Int32))) ((own_chv q2 (32 : Int32) p4 (2 : Int32))) ((own_chv q2 (48 : Int32) p4 (3 : Int32))) ((own_dav q3 p4)) ((own_chv q3 (16 : Int32) p4 (5 : Int32))) ((own_chv q3 (32 : Int32) p4 (6 : Int32))) ((.val (.int (own_chv q3 (48 : Int32) p4 (7 : Int32))))) ((.val (.ref b7))) ((.val (.ref b8))) ((.val (.ref b9))) ((.val (.ref b10))) ((p1 &&& (3 : Int32))) ((.val (.ref b36))) b37 (((((((((0 : Int32) + ((own_chv q2 (0 : Int32) p4 (0 : Int32)) - (48 : Int32))) * (10 : Int32)) + ((own_chv q2 (16 : Int32) p4 (1 : Int32)) - (48 : Int32))) * (10 : Int32)) + ((own_chv q2 (32 : Int32) p4 (2 : Int32)) - (48 : Int32))) * (10 : Int32)) + ((own_chv q2 (48 : Int32) p4 (3 : Int32)) - (48 : Int32)))) (((((0 : Int32) + ((own_chv q3 (16 : Int32) p4 (5 : Int32)) - (48 : Int32))) * (10 : Int32)) + ((own_chv q3 (32 : Int32) p4 (6 : Int32)) - (48 : Int32)))) h35 n0 X40 N40 hx hZ hby hml hown e40 O39 Y35_2 Y35_4 Y35_3 h364_hc425 h364_hc432 h364_hc470 h364_hc480
  obtain ⟨fs, hr, hrun, hended, hW, hsame⟩ := X41.leave (v := some (.int 1)) (fun h => by rw [Bd.returns] at h; cases h)
  refine ⟨_, _, pre0 _ ?_, hrun, hended, _, _, rfl, ?_, ⟨_, rfl⟩, hW, hsame.mono (by decide) (by decide)⟩
  · show Steps p.tables e below (s₁.setTop (mkF m 0 #[.val (.int p1), .val (.long q2), .second, .val (.long q3), .second, .val (.int p4), .unset, .unset, .unset, .unset, .unset, .unset, .unset, .unset, .unset, .unset, .unset, .unset, .unset, .unset, .unset, .unset, .unset, .unset] [])) _
    refine st5 _ ?_
    show Steps p.tables e below (T5.setTop (mkF m 86 #[.val (.int p1), .val (.long q2), .second, .val (.long q3), .second, .val (.int p4), .val (.int (own_chv q2 (0 : Int32) p4 (0 : Int32))), .val (.int (own_chv q2 (16 : Int32) p4 (1 : Int32))), .val (.int (own_chv q2 (32 : Int32) p4 (2 : Int32))), .val (.int (own_chv q2 (48 : Int32) p4 (3 : Int32))), .val (.int (own_dav q3 p4)), .val (.int (own_chv q3 (16 : Int32) p4 (5 : Int32))), .val (.int (own_chv q3 (32 : Int32) p4 (6 : Int32))), .val (.int (own_chv q3 (48 : Int32) p4 (7 : Int32))), .unset, .unset, .unset, .unset, .unset, .unset, .unset, .unset, .unset, .unset] [])) _
    refine st6 _ ?_
    show Steps p.tables e below (T6.setTop (mkF m 217 #[.val (.int p1), .val (.long q2), .second, .val (.long q3), .second, .val (.int p4), .val (.int (own_chv q2 (0 : Int32) p4 (0 : Int32))), .val (.int (own_chv q2 (16 : Int32) p4 (1 : Int32))), .val (.int (own_chv q2 (32 : Int32) p4 (2 : Int32))), .val (.int (own_chv q2 (48 : Int32) p4 (3 : Int32))), .val (.int (own_dav q3 p4)), .val (.int (own_chv q3 (16 : Int32) p4 (5 : Int32))), .val (.int (own_chv q3 (32 : Int32) p4 (6 : Int32))), .val (.int (own_chv q3 (48 : Int32) p4 (7 : Int32))), .val (.ref b7), .val (.ref b8), .val (.ref b9), .val (.ref b10), .unset, .unset, .unset, .unset, .unset, .unset] [])) _
    refine st35 _ ?_
    show Steps p.tables e below (T35.setTop (mkF m 299 #[.val (.int p1), .val (.long q2), .second, .val (.long q3), .second, .val (.int p4), .val (.int (own_chv q2 (0 : Int32) p4 (0 : Int32))), .val (.int (own_chv q2 (16 : Int32) p4 (1 : Int32))), .val (.int (own_chv q2 (32 : Int32) p4 (2 : Int32))), .val (.int (own_chv q2 (48 : Int32) p4 (3 : Int32))), .val (.int (own_dav q3 p4)), .val (.int (own_chv q3 (16 : Int32) p4 (5 : Int32))), .val (.int (own_chv q3 (32 : Int32) p4 (6 : Int32))), .val (.int (own_chv q3 (48 : Int32) p4 (7 : Int32))), .val (.ref b7), .val (.ref b8), .val (.ref b9), .val (.ref b10), .val (.int (p1 &&& (3 : Int32))), .val (.ref b36), .val (.ref b37), .unset, .unset, .unset] [])) _
    refine st40 _ ?_
    show Steps p.tables e below (T40.setTop (mkF m 364 #[.val (.int p1), .val (.long q2), .second, .val (.long q3), .second, .val (.int p4), .val (.int (own_chv q2 (0 : Int32) p4 (0 : Int32))), .val (.int (own_chv q2 (16 : Int32) p4 (1 : Int32))), .val (.int (own_chv q2 (32 : Int32) p4 (2 : Int32))), .val (.int (own_chv q2 (48 : Int32) p4 (3 : Int32))), .val (.int (own_dav q3 p4)), .val (.int (own_chv q3 (16 : Int32) p4 (5 : Int32))), .val (.int (own_chv q3 (32 : Int32) p4 (6 : Int32))), .val (.int (own_chv q3 (48 : Int32) p4 (7 : Int32))), .val (.ref b7), .val (.ref b8), .val (.ref b9), .val (.ref b10), .val (.int (p1 &&& (3 : Int32))), .val (.ref b36), .val (.ref b37), .unset, .unset, .unset] [(.int 1)])) _
    refine st41 _ ?_
    exact retN X41 hx (t := .boolean) Bd.returns (by simp) (hb hby at_488) hr
  · skip
    exact ⟨rfl, N41⟩
def own_EL : List (String × Nat) := [("java/lang/String", 7)]
theorem own_EW {Z : State} {a0 : Array Value} (hw : ∀ d ∈ tables_1, d.before a0 Z = true) : EW Z a0 own_EL := EW.cons (own_w hw 98 rfl) (by decide) EW.nil
theorem own_safe {Z : State} {EL : List (String × Nat)} {vm : Vm} {h : Heap} {x : Addr} (hal : Z.vm.Alike vm) (E : Exa Z h x "java/lang/String") (F : Fld Z h x "java/lang/String" "value" "[B" .null) : Safe Z EL vm h x := fun B => by
  obtain ⟨p, -, u, a, -, q, -, G, rfl | rfl⟩ := B
  · obtain ⟨cS, ⟨⟨hc, -, -, ⟨c1, k1, i1, f1, -⟩, -, -, -, hv, -⟩, -, -⟩, -⟩ := G
    obtain ⟨cell, cf, k, i, f, g1, g2, -, -, -, -, g7⟩ := F
    obtain rfl : q.sC = cell := Option.some.inj ((show h[q.sa]? = some q.sC from hc).symm.trans g1)
    obtain ⟨k', w1, -⟩ := State.fieldFound?_setVm (s := Z) hal g2
    have w2 : (Wst Z vm h).fieldFound? "java/lang/String" "value" "[B" = some (cf, k', i, f) := w1
    have w3 : some (cf, k', i, f) = some (c1, k1, i1, q.fSV) := w2.symm.trans f1
    obtain ⟨-, -, -, rfl⟩ : cf = c1 ∧ k' = k1 ∧ i = i1 ∧ f = q.fSV := by simpa using w3
    cases hv.symm.trans g7
  · obtain ⟨cell, k, e1, e2, -, -, -⟩ := E
    obtain rfl : q.SA = cell := Option.some.inj ((show h[q.sd]? = some q.SA from G.hd).symm.trans e1)
    obtain ⟨cS, -, -, f, -⟩ := G
    have f2 : Z.vm.findClass "[B" = some q.SA.cls := by rw [← hal.findClass]; exact f
    exact ids_ne e2 f2 (by decide) rfl
theorem d4_8 : decode jdk_42_method_149_code 8 = .ok (.aload_n 0, 1) := by decide +kernel
theorem d4_9 : decode jdk_42_method_149_code 9 = .ok (.ldc 7, 2) := by decide +kernel
theorem own_strw : ∀ d ∈ Bundle.stringAtoms, d ∈ tables_1 := by decide +kernel
theorem d4_11 : decode jdk_42_method_149_code 11 = .ok (.getfield 9, 3) := by decide +kernel
theorem d4_14 : decode jdk_42_method_149_code 14 = .ok (.putfield 9, 3) := by decide +kernel
theorem d4_17 : decode jdk_42_method_149_code 17 = .ok (.aload_n 0, 1) := by decide +kernel
theorem d4_18 : decode jdk_42_method_149_code 18 = .ok (.ldc 7, 2) := by decide +kernel
theorem d4_20 : decode jdk_42_method_149_code 20 = .ok (.getfield 15, 3) := by decide +kernel
theorem d4_23 : decode jdk_42_method_149_code 23 = .ok (.putfield 15, 3) := by decide +kernel
theorem d4_26 : decode jdk_42_method_149_code 26 = .ok (.return_, 1) := by decide +kernel
def Q4e (Z : State) (a1 a2 : Addr) (h0 : Heap) (n0 : Nat) (v : Option Value) (h : Heap) (L : List Loc) : Prop := v = none ∧ Fr n0 L ∧ Keep h0 h [a1] ∧ Exa Z h a1 "java/lang/String" ∧ own_Str Z h h.size a1 []
theorem ef_4aa__0___Int32____0___Int32__n (m : MethodId) (x0 : Addr) (x1 : Addr) : entryFrame m #[(.ref x0), (.ref x1), (.int 0), (.int 0), .null] 6 = mkF m 0 #[.val (.ref x0), .val (.ref x1), .val (.int 0), .val (.int 0), .val .null, .unset] [] := by first | (simp [entryFrame, mkF, argsToLocals, Value.category]; done) | rfl
theorem rm4e (l : Launch) (Z : State) (a0 : Array Value) (hw : ∀ d ∈ tables_1, d.before a0 Z = true) (ws : List Jvm.Cond) (a1 a2 : Addr) (h0 : Heap) (n0 : Nat) (O0 : Old Z n0 h0) (HE_a1 : Exa Z h0 a1 "java/lang/String") (HF_a1_value : Fld Z h0 a1 "java/lang/String" "value" "[B" .null) (HF_a1_coder : Fld Z h0 a1 "java/lang/String" "coder" "B" (.int 0)) (g_a1 : n0 ≤ a1) :
    MetFree l (⟨"java/lang/String", "<init>", "([CIILjava/lang/Void;)V"⟩ : MethodName) (head1 (Jvm.Cond.code (⟨"java/lang/String", "<init>", "([CIILjava/lang/Void;)V"⟩ : MethodName) jdk_42_method_149_code 6 none :: ws) ({ frames := 1, cells := 4, slots := 8, locals := 12 } : Room)) (fun a U => a = #[(.ref a1), (.ref a2), (.int 0), (.int 0), .null] ∧ Z.Warmed39 U.vm ∧ U.heap = h0 ∧ CHv Z own_EL U.vm h0) (fun _ _ _ _ _ => True) (fun _ U o U' => ∃ v L, o = .returned v ∧ Q4e Z a1 a2 h0 n0 v U'.heap L ∧ CHr Z own_EL U.vm U.heap U'.vm U'.heap ∧ ReturnedEndW U o U' L ({ frames := 1, cells := 4, slots := 8, locals := 12 } : Room).cells ({ frames := 1, cells := 4, slots := 8, locals := 12 } : Room).slots) := by
  refine MetFree.of_bodySF (plainFor_of_name pnc_java_lang_String) hisR ?_
  intro p e s m args below meth c s₁ Bd hml0 hP hK
  obtain ⟨rfl, hZ_, hh, hCH⟩ := hP
  have hx := Bd.exec
  have hby := Bd.bytes
  have hml : c.maxLocals = 6 := hml0
  have hown : s.vm.findClass "java/lang/String" = some m.cls := findClass_of_methodNamed Bd.named
  have hnm := (name_of_methodNamed Bd.named Bd.method).1
  have X0 : Stand p l e ({ frames := 1, cells := 4, slots := 8, locals := 12 } : Room) (s.setVm s.vm) m #[(.ref a1), (.ref a2), (.int 0), (.int 0), .null] below meth c s₁ [] 0 0 := Stand.of_body Bd
  have hZ : Z.Warmed39 (s.setVm s.vm).vm := hZ_
  have hS0 : s.Since s.vm s.heap.size := (State.WarmedH.refl s).since s.heap.size
  have hk0 : s.heap.size ≤ h0.size := Nat.le_of_eq (by rw [hh])
  have e0 : s₁.heap = h0 := by rw [← hh, Bd.state]; rfl
  have N0 := Fr.nil n0
  have Z0 : n0 ≤ h0.size := O0.1 ▸ O0.2.1
  have pre0 : ∀ t, Steps p.tables e below (s₁.setTop (mkF m 0 #[.val (.ref a1), .val (.ref a2), .val (.int 0), .val (.int 0), .val .null, .unset] [])) t → Steps p.tables e below (s₁.setTop (entryFrame m #[(.ref a1), (.ref a2), (.int 0), (.int 0), .null] 6)) t := fun t k => castTop (ef_4aa__0___Int32____0___Int32__n m a1 a2) k
  have sf3 : Safe Z own_EL _ h0 a1 := own_safe hZ.alike HE_a1 HF_a1_value
  obtain ⟨T4, X4, e4, st4⟩ := initO X0 hx hZ hown (own_w hw 19 rfl) (own_w hw 20 rfl) (own_w hw 21 rfl) e0 (g := (mkF m 1 #[.val (.ref a1), .val (.ref a2), .val (.int 0), .val (.int 0), .val .null, .unset] [(.ref a1)])) rfl (by rw [hml]; rfl) rfl (hb hby d4_1) (by decide) (W := 0) (by show 2 * 0 + _ ≤ _; exact Nat.le_of_eq rfl) (by decide)
  obtain ⟨b5, T5, h5, k5n, t5, k5, X5, e5, E5, hS5, hk5, hZ5, ho5, lE5, lC5, lV5, lA5, la5, lb5, hL5, -, hs5, st5⟩ := ldcCH X4 hx hZ hown (own_w hw 98 rfl) (fun d hd => hw d (own_strw d hd)) e4 hS0 hk0 (own_EW hw) (by decide) hCH (vs := []) (z := (0 : Int32)) ⟨by decide, by decide⟩ (by decide) (by decide) (g := (mkF m 9 #[.val (.ref a1), .val (.ref a2), .val (.int 0), .val (.int 0), .val .null, .unset] [(.ref a1)])) rfl (hb hby d4_9) (n := 0) (by decide) (by decide) (by decide) (by decide)
  have hR6 := hL5
  have sf6_a1 := (CHr.safe hL5 HE_a1.lt sf3)
  have ch6 := CHr.trans (CHr.refl hCH) hR6
  have K7 : Keep h0 h5 [a1] := (Keep.refl h0 [a1]).ext E5
  have O8 : Old Z n0 h5 := O0.ext E5
  replace X5 := X5.more (cells' := 2) (slots' := 4) (by decide) (by decide)
  have ns5_a1 := hs5 a1 sf6_a1
  obtain ⟨T9, X9, e9, st9⟩ := getF X5 hx hZ5 ho5 (host := "") (Or.inl (own_w hw 55 rfl)) Via.refl e5 lV5 (g := (mkF m 11 #[.val (.ref a1), .val (.ref a2), .val (.int 0), .val (.int 0), .val .null, .unset] [(.ref b5), (.ref a1)])) rfl rfl (hb hby d4_11)
  have f10 := (HE_a1.ext E5)
  have f11 := (HF_a1_value.ext E5)
  obtain ⟨T12, h12, X12, e12, W12, st12⟩ := putF X9 hx hZ5 ho5 (host := "") (Or.inl (own_w hw 55 rfl)) Via.refl e9 f11 f10 (Or.inr ⟨(own_w hw 56 rfl), rfl, hnm⟩) (own_w hw 10 rfl) (ty := (.array .byte)) (by decide) rfl rfl (g := (mkF m 14 #[.val (.ref a1), .val (.ref a2), .val (.int 0), .val (.int 0), .val .null, .unset] [(.ref t5), (.ref a1)])) rfl rfl (hb hby d4_14)
  have N12 := Fr.snoc X12 N0 g_a1
  have hR13 := (CHr.wr W12 sf6_a1 hR6.1)
  have sf13_a1 := (Safe.wr W12 sf6_a1 hR6.1 sf6_a1)
  have ch13 := CHr.trans ch6 hR13
  have K14 : Keep h0 h12 [a1] := K7.wr W12 (Or.inl (List.mem_of_getElem? (i := 0) rfl))
  have O15 : Old Z n0 h12 := O8.wr W12 g_a1
  have Fw12 : Fld Z h12 a1 "java/lang/String" "value" "[B" (.ref t5) := f11.same W12
  obtain ⟨b16, T16, h16, k16n, t16, k16, X16, e16, E16, hS16, hk16, hZ16, ho16, lE16, lC16, lV16, lA16, la16, lb16, hL16, -, hs16, st16⟩ := ldcCH X12 hx hZ5 ho5 (own_w hw 98 rfl) (fun d hd => hw d (own_strw d hd)) e12 hS5 (Nat.le_trans hk5 (Keep.of_wr W12).1) (own_EW hw) (by decide) hR13.1 (vs := []) (z := (0 : Int32)) ⟨by decide, by decide⟩ (by decide) (by decide) (g := (mkF m 18 #[.val (.ref a1), .val (.ref a2), .val (.int 0), .val (.int 0), .val .null, .unset] [(.ref a1)])) rfl (hb hby d4_18) (n := 0) (by decide) (by decide) (by decide) (by decide)
  have hR17 := hL16
  have sf17_a1 := (CHr.safe hL16 (Nat.lt_of_lt_of_le HE_a1.lt (Nat.le_trans E5.1 (Keep.of_wr W12).1)) sf13_a1)
  have ch17 := CHr.trans ch13 hR17
  have K18 : Keep h0 h16 [a1] := K14.ext E16
  have O19 : Old Z n0 h16 := O15.ext E16
  replace X16 := X16.more (cells' := 4) (slots' := 8) (by decide) (by decide)
  have ns16_a1 := hs16 a1 sf17_a1
  obtain ⟨T20, X20, e20, st20⟩ := getF X16 hx hZ16 ho16 (host := "") (Or.inl (own_w hw 53 rfl)) Via.refl e16 lC16 (g := (mkF m 20 #[.val (.ref a1), .val (.ref a2), .val (.int 0), .val (.int 0), .val .null, .unset] [(.ref b16), (.ref a1)])) rfl rfl (hb hby d4_20)
  have f21 := ((f10.wr W12).ext E16)
  have f22 := (((HF_a1_coder.ext E5).other W12 (Or.inr (slot_ne (Or.inr (own_w hw 54 rfl)) (Or.inr (own_w hw 56 rfl)) (by decide) (t := .byte) (t' := (.array .byte)) (by decide) (by decide)))).ext E16)
  obtain ⟨T23, h23, X23, e23, W23, st23⟩ := putFN X20 hx hZ16 ho16 (own_w hw 53 rfl) Via.refl e20 f22 f21 (Or.inr ⟨(own_w hw 54 rfl), rfl, hnm⟩) (own_w hw 10 rfl) (ty := .byte) (v' := (.int 0)) (by decide) rfl rfl (g := (mkF m 23 #[.val (.ref a1), .val (.ref a2), .val (.int 0), .val (.int 0), .val .null, .unset] [(.int 0), (.ref a1)])) rfl rfl (hb hby d4_23)
  have N23 := Fr.snoc X23 N12 g_a1
  have hR24 := (CHr.wr W23 sf17_a1 hR17.1)
  have sf24_a1 := (Safe.wr W23 sf17_a1 hR17.1 sf17_a1)
  have ch24 := CHr.trans ch17 hR24
  have K25 : Keep h0 h23 [a1] := K18.wr W23 (Or.inl (List.mem_of_getElem? (i := 0) rfl))
  have O26 : Old Z n0 h23 := O19.wr W23 g_a1
  have Fw23 : Fld Z h23 a1 "java/lang/String" "coder" "B" (.int 0) := f22.same W23
  have f27 := (f21.wr W23)
  have f28 := ((Fw12.ext E16).other W23 (Or.inr (slot_ne (Or.inr (own_w hw 56 rfl)) (Or.inr (own_w hw 54 rfl)) (by decide) (t := (.array .byte)) (t' := .byte) (by decide) (by decide))))
  have f29 := (((lA5.other W12 (Ne.symm ns5_a1.2)).ext E16).other W23 (Ne.symm ns5_a1.2))
  have tS30 : own_Str Z h23 h23.size a1 [] := ⟨f27.lt, t5, _, _, _, _, f29.lt, f27, f28, Fw23, f29, Or.inl ⟨rfl, rfl, (fun c hc => by cases hc), rfl⟩⟩
  obtain ⟨fs, hr, hrun, hended, hend⟩ := X23.leaveW hS16 (by rw [e23]; exact (Nat.le_trans hk16 (Keep.of_wr W23).1)) (v := none) (fun _ => rfl)
  refine ⟨_, _, pre0 _ ?_, hrun, hended, _, _, rfl, ?_, ?_, hend.1, hend.2.1, hend.2.2.1, hend.2.2.2.mono (by decide) (by decide)⟩
  · show Steps p.tables e below (s₁.setTop (mkF m 0 #[.val (.ref a1), .val (.ref a2), .val (.int 0), .val (.int 0), .val .null, .unset] [])) _
    refine XS.aloadN X0.here hx rfl (hb hby d4_0) rfl rfl ?_
    refine st4 _ ?_
    refine XS.iloadN X4.here hx rfl (hb hby d4_4) rfl ?_
    refine XS.ifNo X4.here hx rfl (hb hby d4_5) rfl ((if0 _ _).trans (teq (by decide : (0 : Int32) = (0 : Int32))).2) ?_
    refine XS.aloadN X4.here hx rfl (hb hby d4_8) rfl rfl ?_
    refine st5 _ ?_
    refine st9 _ ?_
    refine st12 _ ?_
    refine XS.aloadN X12.here hx rfl (hb hby d4_17) rfl rfl ?_
    refine st16 _ ?_
    refine st20 _ ?_
    refine st23 _ ?_
    exact X23.returnOut hx Bd.returns (hb hby d4_26) hr
  · show Q4e Z a1 a2 h0 n0 _ T23.heap _
    rw [e23]
    exact ⟨rfl, N23, K25, f27, (own_Str.top tS30)⟩
  · show CHr Z own_EL s.vm s.heap T23.vm T23.heap
    rw [hh, e23]
    exact CHr.trans ch24 (CHv.at X23 hZ16 (own_EW hw) hR24.1)
def Q3e (Z : State) (a1 a2 : Addr) (k0 : ClassId) (h0 : Heap) (n0 : Nat) (v : Option Value) (h : Heap) (L : List Loc) : Prop := v = none ∧ Fr n0 L ∧ Keep h0 h [a1] ∧ Exa Z h a1 "java/lang/String" ∧ own_Str Z h h.size a1 []
theorem rm3e (l : Launch) (Z : State) (a0 : Array Value) (hw : ∀ d ∈ tables_1, d.before a0 Z = true) (ws : List Jvm.Cond) (a1 a2 : Addr) (k0 : ClassId) (h0 : Heap) (n0 : Nat) (O0 : Old Z n0 h0) (HE_a1 : Exa Z h0 a1 "java/lang/String") (HF_a1_value : Fld Z h0 a1 "java/lang/String" "value" "[B" .null) (HF_a1_coder : Fld Z h0 a1 "java/lang/String" "coder" "B" (.int 0)) (HV_a2 : Arv Z h0 a2 k0 .char (0 : Int32) [] (.int 0)) (g_a1 : n0 ≤ a1) :
    MetFree l (⟨"java/lang/String", "<init>", "([C)V"⟩ : MethodName) (head1 (Jvm.Cond.code (⟨"java/lang/String", "<init>", "([C)V"⟩ : MethodName) jdk_42_method_3_code 2 none :: ws) ({ frames := 2, cells := 4, slots := 8, locals := 29 } : Room)) (fun a U => a = #[(.ref a1), (.ref a2)] ∧ Z.Warmed39 U.vm ∧ U.heap = h0 ∧ CHv Z own_EL U.vm h0) (fun _ _ _ _ _ => True) (fun _ U o U' => ∃ v L, o = .returned v ∧ Q3e Z a1 a2 k0 h0 n0 v U'.heap L ∧ CHr Z own_EL U.vm U.heap U'.vm U'.heap ∧ ReturnedEndW U o U' L ({ frames := 2, cells := 4, slots := 8, locals := 29 } : Room).cells ({ frames := 2, cells := 4, slots := 8, locals := 29 } : Room).slots) := by
  refine MetFree.of_bodySF (plainFor_of_name pnc_java_lang_String) hisR ?_
  intro p e s m args below meth c s₁ Bd hml0 hP hK
  obtain ⟨rfl, hZ_, hh, hCH⟩ := hP
  have hx := Bd.exec
  have hby := Bd.bytes
  have hml : c.maxLocals = 2 := hml0
  have hown : s.vm.findClass "java/lang/String" = some m.cls := findClass_of_methodNamed Bd.named
  have hnm := (name_of_methodNamed Bd.named Bd.method).1
  have X0 : Stand p l e ({ frames := 2, cells := 4, slots := 8, locals := 29 } : Room) (s.setVm s.vm) m #[(.ref a1), (.ref a2)] below meth c s₁ [] 0 0 := Stand.of_body Bd
  have hZ : Z.Warmed39 (s.setVm s.vm).vm := hZ_
  have hS0 : s.Since s.vm s.heap.size := (State.WarmedH.refl s).since s.heap.size
  have hk0 : s.heap.size ≤ h0.size := Nat.le_of_eq (by rw [hh])
  have e0 : s₁.heap = h0 := by rw [← hh, Bd.state]; rfl
  have N0 := Fr.nil n0
  have Z0 : n0 ≤ h0.size := O0.1 ▸ O0.2.1
  have pre0 : ∀ t, Steps p.tables e below (s₁.setTop (mkF m 0 #[.val (.ref a1), .val (.ref a2)] [])) t → Steps p.tables e below (s₁.setTop (entryFrame m #[(.ref a1), (.ref a2)] 2)) t := fun t k => castTop (ef_3 m a1 a2) k
  obtain ⟨cl3, Ar3, q3, S3, Nn3, Hh3, G3⟩ := id HV_a2
  obtain ⟨vr4, _, ⟨T4, L4, k4, n4⟩, -, X4, hs24, hg24, ⟨Lc4, hQ4, l4, y4, z4, hR4⟩, st4⟩ := X0.specialBackS hx (y := (⟨"java/lang/String", "<init>", "([CIILjava/lang/Void;)V"⟩ : MethodName)) rfl hown (mvT hZ (own_w hw 15 rfl)) (mvT hZ (own_w hw 16 rfl)) (mvT hZ (own_w hw 18 rfl)) (by decide) (backOfSH (W := 0) (rm4e l Z a0 hw [] a1 a2 h0 n0 O0 HE_a1 HF_a1_value HF_a1_coder g_a1) hZ (own_w hw 18 rfl) (own_w hw 11 rfl) (by decide) (by decide) (own_EW hw) hCH) (g := (mkF m 6 #[.val (.ref a1), .val (.ref a2)] [.null, (.int 0), (.int 0), (.ref a2), (.ref a1)])) rfl (by rw [hml]; rfl) (Steps.refl _) (a := a1) (argsL := [(.ref a2), (.int 0), (.int 0), .null]) (rest := []) (lenOf pd_28 rfl) rfl (by show 2 * 0 + _ ≤ _; exact Nat.le_of_eq rfl) (hb hby d3_6) (fun _ _ => ⟨rfl, e0, (by decide : 0 + 4 ≤ _), (by decide : 0 + 8 ≤ _)⟩)
  dsimp only [Pt.U, Pt.locs, Pt.cells, Pt.slots] at X4 hs24 hg24 l4 y4 z4 hR4 st4 hQ4
  subst l4 y4 z4
  have hk24 : _ ≤ s₁.heap.size := (by rw [e0]; exact hk0)
  have hS4 : s.Since T4.vm T4.heap.size := foldS hS0 hk24 hs24 hg24
  have hZ4 : Z.Warmed39 (s.setVm T4.vm).vm := State.Warmed39.trans hZ hs24.1
  have ho4 : (s.setVm T4.vm).vm.findClass "java/lang/String" = some m.cls := by rw [show (s.setVm T4.vm).vm = T4.vm from rfl, hs24.1.alike.findClass]; exact hown
  replace X4 : Stand _ _ _ _ (s.setVm T4.vm) _ _ _ _ _ _ _ _ _ := X4
  obtain ⟨rfl, N4q, K4, Y4_0, Y4_1⟩ := hQ4
  have N4 := Fr.app N0 N4q
  replace X4 := X4.more (cells' := 4) (slots' := 8) (by decide) (by decide)
  have hR5 := hR4
  have ch5 := CHr.trans (CHr.refl hCH) hR5
  have K6 : Keep h0 T4.heap [a1] := (Keep.refl h0 [a1]).trans K4 (allS (Or.inl (List.mem_of_getElem? (i := 0) rfl)) all0)
  have O7 : Old Z n0 T4.heap := O0.keep K4 (allS g_a1 all0)
  obtain ⟨fs, hr, hrun, hended, hend⟩ := X4.leaveW hS4 (Nat.le_refl _) (v := none) (fun _ => rfl)
  refine ⟨_, _, pre0 _ ?_, hrun, hended, _, _, rfl, ?_, ?_, hend.1, hend.2.1, hend.2.2.1, hend.2.2.2.mono (by decide) (by decide)⟩
  · show Steps p.tables e below (s₁.setTop (mkF m 0 #[.val (.ref a1), .val (.ref a2)] [])) _
    refine XS.aloadN X0.here hx rfl (hb hby d3_0) rfl rfl ?_
    refine XS.aloadN X0.here hx rfl (hb hby d3_1) rfl rfl ?_
    refine XS.iconst X0.here hx rfl (hb hby d3_2) ?_
    refine XS.aloadN X0.here hx rfl (hb hby d3_3) rfl rfl ?_
    show Steps p.tables e below (s₁.setTop (mkF m 4 #[.val (.ref a1), .val (.ref a2)] [(.ref a2), (.int 0), (.ref a2), (.ref a1)])) _
    refine X0.arraylength hx (by rw [e0]; exact Ar3.1) (State.isArrayOf_alike hZ.alike Ar3.2.1) (g := (mkF m 4 #[.val (.ref a1), .val (.ref a2)] [(.ref a2), (.int 0), (.ref a2), (.ref a1)])) rfl rfl (hb hby d3_4) _ ?_
    rw [len_of S3 Nn3]
    refine XS.aconstNull X0.here hx rfl (hb hby d3_5) ?_
    refine st4.trans ?_
    exact X4.returnOut hx Bd.returns (hb hby d3_9) hr
  · show Q3e Z a1 a2 k0 h0 n0 _ T4.heap _
    exact ⟨rfl, N4, K6, (own_Str.exa Y4_1), (own_Str.top Y4_1)⟩
  · show CHr Z own_EL s.vm s.heap T4.vm T4.heap
    rw [hh]
    exact CHr.trans ch5 (CHv.at X4 hZ4 (own_EW hw) hR5.1)
def own_Met (l : Launch) (Z : State) (ws : List Jvm.Cond) (as : Array Value) (h0 : Heap) (n0 : Nat) : Prop := MetFree l x (head1 (Jvm.Cond.code x code maxLocals ret :: ws) room_1) (fun a U => a = as ∧ Z.Warmed39 U.vm ∧ U.heap = h0 ∧ CHv Z own_EL U.vm h0) (fun _ _ _ _ _ => True) (fun _ U o U' => ∃ v L, o = .returned v ∧ (v = some (.int 1) ∧ Fr n0 L) ∧ ReturnedEndW U o U' L room_1.cells room_1.slots)
theorem rm0s0 (l : Launch) (Z : State) (a0 : Array Value) (hw : ∀ d ∈ tables_1, d.before a0 Z = true) (ws : List Jvm.Cond) (p1 : Int32) (q2 q3 : Int64) (p4 zC : Int32) (fm : Value) (h0 : Heap) (n0 : Nat) (O0 : Old Z n0 h0) (h86_hc0 : own_ch (own_chv q2 (0 : Int32) p4 (0 : Int32))) (h86_hc1 : own_ch (own_chv q2 (16 : Int32) p4 (1 : Int32))) (h86_hc2 : own_ch (own_chv q2 (32 : Int32) p4 (2 : Int32))) (h86_hc3 : own_ch (own_chv q2 (48 : Int32) p4 (3 : Int32))) (h86_hc4 : own_ch (own_dav q3 p4)) (h86_hc5 : own_ch (own_chv q3 (16 : Int32) p4 (5 : Int32))) (h86_hc6 : own_ch (own_chv q3 (32 : Int32) p4 (6 : Int32))) (h86_hc7 : own_ch (own_chv q3 (48 : Int32) p4 (7 : Int32))) (hc224 : ¬ ((p1 &&& (3 : Int32)) = (0 : Int32))) (hc244 : ¬ ((p1 &&& (3 : Int32)) = (1 : Int32))) (hc264 : ¬ ((p1 &&& (3 : Int32)) = (2 : Int32))) (S_COMPACT_STRINGS : Sta Z Z.heap "java/lang/String" "COMPACT_STRINGS" "Z" (.int zC)) (h294_h1_hz : ¬ (zC = (0 : Int32))) :
    own_Met l Z ws #[(.int p1), (.long q2), (.long q3), (.int p4)] h0 n0 := by
  refine MetFree.of_bodySF (plainFor_of_name pnc_com_example_vestwright_vestwright_ValuesMonthPinLaw) hisR ?_
  intro p e s m args below meth c s₁ Bd hml0 hP hK
  obtain ⟨rfl, hZ_, hh, hCH⟩ := hP
  have hx := Bd.exec
  have hby := Bd.bytes
  have hml : c.maxLocals = 24 := hml0
  have hown : s.vm.findClass "com/example/vestwright/vestwright/ValuesMonthPinLaw" = some m.cls := findClass_of_methodNamed Bd.named
  have hnm := (name_of_methodNamed Bd.named Bd.method).1
  have X0 : Stand p l e room_1 (s.setVm s.vm) m #[(.int p1), (.long q2), (.long q3), (.int p4)] below meth c s₁ [] 0 0 := Stand.of_body Bd
  have hZ : Z.Warmed39 (s.setVm s.vm).vm := hZ_
  have hS0 : s.Since s.vm s.heap.size := (State.WarmedH.refl s).since s.heap.size
  have hk0 : s.heap.size ≤ h0.size := Nat.le_of_eq (by rw [hh])
  have e0 : s₁.heap = h0 := by rw [← hh, Bd.state]; rfl
  have N0 := Fr.nil n0
  have Z0 : n0 ≤ h0.size := O0.1 ▸ O0.2.1
  have pre0 : ∀ t, Steps p.tables e below (s₁.setTop (mkF m 0 #[.val (.int p1), .val (.long q2), .second, .val (.long q3), .second, .val (.int p4), .unset, .unset, .unset, .unset, .unset, .unset, .unset, .unset, .unset, .unset, .unset, .unset, .unset, .unset, .unset, .unset, .unset, .unset] [])) t → Steps p.tables e below (s₁.setTop (entryFrame m #[(.int p1), (.long q2), (.long q3), (.int p4)] maxLocals)) t := fun t k => castTop (ef_0 m p1 q2 q3 p4) k
  obtain ⟨T5, L5, X5, N5, e5, st5⟩ := tn0 hw p1 q2 q3 p4 h0 n0 X0 N0 hx hZ hby hml hown e0 O0
  obtain ⟨T6, L6, h6, b7, b8, b9, b10, k11, k12, k13, k14, X6, N6, e6, K6, Y6_z0, Y6_z1, Y6_z2, Y6_z3, Y6_n0, Y6_n1, Y6_n2, Y6_n3, Y6_n4, Y6_n5, Y6_0, Y6_1, Y6_2, Y6_3, st6⟩ := tn86 hw ((.val (.int p1))) ((.val (.long q2))) ((.second)) ((.val (.long q3))) ((.second)) ((.val (.int p4))) ((own_chv q2 (0 : Int32) p4 (0 : Int32))) ((own_chv q2 (16 : Int32) p4 (1 : Int32))) ((own_chv q2 (32 : Int32) p4 (2 : Int32))) ((own_chv q2 (48 : Int32) p4 (3 : Int32))) ((own_dav q3 p4)) ((own_chv q3 (16 : Int32) p4 (5 : Int32))) ((own_chv q3 (32 : Int32) p4 (6 : Int32))) ((own_chv q3 (48 : Int32) p4 (7 : Int32))) ((.unset)) ((.unset)) ((.unset)) ((.unset)) ((.unset)) ((.unset)) h0 n0 X5 N5 hx hZ hby hml hown e5 O0 h86_hc0 h86_hc1 h86_hc2 h86_hc3 h86_hc4 h86_hc5 h86_hc6 h86_hc7
  have g_b7 : n0 ≤ b7 := Nat.le_trans (Nat.le_trans Z0 (Keep.refl h0 []).1) Y6_z0
  have sz_b7 : h0.size ≤ b7 := Nat.le_trans (Keep.refl h0 []).1 Y6_z0
  have g_b8 : n0 ≤ b8 := Nat.le_trans (Nat.le_trans Z0 (Keep.refl h0 []).1) Y6_z1
  have sz_b8 : h0.size ≤ b8 := Nat.le_trans (Keep.refl h0 []).1 Y6_z1
  have g_b9 : n0 ≤ b9 := Nat.le_trans (Nat.le_trans Z0 (Keep.refl h0 []).1) Y6_z2
  have sz_b9 : h0.size ≤ b9 := Nat.le_trans (Keep.refl h0 []).1 Y6_z2
  have g_b10 : n0 ≤ b10 := Nat.le_trans (Nat.le_trans Z0 (Keep.refl h0 []).1) Y6_z3
  have sz_b10 : h0.size ≤ b10 := Nat.le_trans (Keep.refl h0 []).1 Y6_z3
  have hR15 := (CHr.keep K6 sf0 hCH)
  have ch15 := CHr.trans (CHr.refl hCH) hR15
  have K16 : Keep h0 h6 [] := (Keep.refl h0 []).trans K6 all0
  have O17 : Old Z n0 h6 := O0.keep K6 all0
  obtain ⟨T18, h18, X18, e18, E18, A18, D18, -, st18⟩ := newO X6 hx hZ hown (own_w hw 9 rfl) (own_w hw 10 rfl) (own_w hw 11 rfl) e6 (g := (mkF m 281 #[.val (.int p1), .val (.long q2), .second, .val (.long q3), .second, .val (.int p4), .val (.int (own_chv q2 (0 : Int32) p4 (0 : Int32))), .val (.int (own_chv q2 (16 : Int32) p4 (1 : Int32))), .val (.int (own_chv q2 (32 : Int32) p4 (2 : Int32))), .val (.int (own_chv q2 (48 : Int32) p4 (3 : Int32))), .val (.int (own_dav q3 p4)), .val (.int (own_chv q3 (16 : Int32) p4 (5 : Int32))), .val (.int (own_chv q3 (32 : Int32) p4 (6 : Int32))), .val (.int (own_chv q3 (48 : Int32) p4 (7 : Int32))), .val (.ref b7), .val (.ref b8), .val (.ref b9), .val (.ref b10), .val (.int (p1 &&& (3 : Int32))), .unset, .unset, .unset, .unset, .unset] [])) rfl (hb hby at_281) (by decide) (by decide)
  obtain ⟨b18, g18⟩ : ∃ z, z = h6.size := ⟨_, rfl⟩
  rw [← g18] at A18 D18 st18
  have g_b18 : n0 ≤ b18 := Nat.le_trans (Nat.le_trans Z0 K16.1) (Nat.le_of_eq g18.symm)
  have sz_b18 : h0.size ≤ b18 := Nat.le_trans K16.1 (Nat.le_of_eq g18.symm)
  have hR19 := (CHr.ext E18 hR15.1)
  have ch19 := CHr.trans ch15 hR19
  have K20 : Keep h0 h18 [] := K16.ext E18
  have O21 : Old Z n0 h18 := O17.ext E18
  have F_coder_b18 : Fld Z h18 b18 "java/lang/String" "coder" "B" (.int 0) := D18 (Or.inr (own_w hw 54 rfl)) (ty := .byte) (by decide)
  have F_value_b18 : Fld Z h18 b18 "java/lang/String" "value" "[B" .null := D18 (Or.inr (own_w hw 56 rfl)) (ty := (.array .byte)) (by decide)
  replace X18 := X18.more (cells' := 5) (slots' := 25) (by decide) (by decide)
  have f22 := (Y6_0.ext E18)
  obtain ⟨vr23, _, ⟨T23, L23, k23, n23⟩, -, X23, hs223, hg223, ⟨Lc23, hQ23, l23, y23, z23, hR23⟩, st23⟩ := X18.specialBackS hx (y := (⟨"java/lang/String", "<init>", "([C)V"⟩ : MethodName)) rfl hown (mvT hZ (own_w hw 12 rfl)) (mvT hZ (own_w hw 13 rfl)) (mvT hZ (own_w hw 14 rfl)) (by decide) (backOfSH (W := 1) (rm3e l Z a0 hw [] b18 b7 k11 h18 n0 O21 A18 F_value_b18 F_coder_b18 f22 g_b18) hZ (own_w hw 14 rfl) (own_w hw 11 rfl) (by decide) (by decide) (own_EW hw) hR19.1) (g := (mkF m 287 #[.val (.int p1), .val (.long q2), .second, .val (.long q3), .second, .val (.int p4), .val (.int (own_chv q2 (0 : Int32) p4 (0 : Int32))), .val (.int (own_chv q2 (16 : Int32) p4 (1 : Int32))), .val (.int (own_chv q2 (32 : Int32) p4 (2 : Int32))), .val (.int (own_chv q2 (48 : Int32) p4 (3 : Int32))), .val (.int (own_dav q3 p4)), .val (.int (own_chv q3 (16 : Int32) p4 (5 : Int32))), .val (.int (own_chv q3 (32 : Int32) p4 (6 : Int32))), .val (.int (own_chv q3 (48 : Int32) p4 (7 : Int32))), .val (.ref b7), .val (.ref b8), .val (.ref b9), .val (.ref b10), .val (.int (p1 &&& (3 : Int32))), .unset, .unset, .unset, .unset, .unset] [(.ref b7), (.ref b18), (.ref b18)])) rfl (by rw [hml]; rfl) (Steps.refl _) (a := b18) (argsL := [(.ref b7)]) (rest := [(.ref b18)]) (lenOf pd_26 rfl) rfl (by show 2 * 0 + _ ≤ _; exact Nat.le_of_eq rfl) (hb hby at_287) (fun _ _ => ⟨rfl, e18, (by decide : 5 + 4 ≤ _), (by decide : 25 + 8 ≤ _)⟩)
  dsimp only [Pt.U, Pt.locs, Pt.cells, Pt.slots] at X23 hs223 hg223 l23 y23 z23 hR23 st23 hQ23
  subst l23 y23 z23
  have hk223 : _ ≤ T18.heap.size := (by rw [e18]; exact (Nat.le_trans hk0 (Nat.le_trans K6.1 E18.1)))
  have hS23 : s.Since T23.vm T23.heap.size := foldS hS0 hk223 hs223 hg223
  have hZ23 : Z.Warmed39 (s.setVm T23.vm).vm := State.Warmed39.trans hZ hs223.1
  have ho23 : (s.setVm T23.vm).vm.findClass "com/example/vestwright/vestwright/ValuesMonthPinLaw" = some m.cls := by rw [show (s.setVm T23.vm).vm = T23.vm from rfl, hs223.1.alike.findClass]; exact hown
  replace X23 : Stand _ _ _ _ (s.setVm T23.vm) _ _ _ _ _ _ _ _ _ := X23
  obtain ⟨rfl, N23q, K23, Y23_0, Y23_1⟩ := hQ23
  have N23 := Fr.app N6 N23q
  replace X23 := X23.more (cells' := 9) (slots' := 33) (by decide) (by decide)
  have hR24 := hR23
  have ch24 := CHr.trans ch19 hR24
  have K25 : Keep h0 T23.heap [] := K20.trans K23 (allS (Or.inr sz_b18) all0)
  have O26 : Old Z n0 T23.heap := O21.keep K23 (allS g_b18 all0)
  obtain ⟨vr27, _, ⟨T27, L27, k27, n27⟩, -, X27, ⟨Lc27, hQ27, l27, y27, z27⟩, st27⟩ := Jvm.LawKit.callS X23 hx (y := (⟨"com/example/vestwright/vestwright/Values", "month", "(Ljava/lang/String;)Ljava/time/YearMonth;"⟩ : MethodName)) ho23 (mvT hZ23 (own_w hw 57 rfl)) (mvT hZ23 (own_w hw 58 rfl)) (mvT hZ23 (own_w hw 59 rfl)) (mvT hZ23 (own_w hw 60 rfl)) (by decide) (backOf (W := 0) (rm14n0 l Z a0 hw [] b18 zC T23.heap n0 O26 (own_Str.top Y23_1) S_COMPACT_STRINGS h294_h1_hz) hZ23 (own_w hw 60 rfl) (own_w hw 59 rfl) (by decide) (by decide)) (g := (mkF m 294 #[.val (.int p1), .val (.long q2), .second, .val (.long q3), .second, .val (.int p4), .val (.int (own_chv q2 (0 : Int32) p4 (0 : Int32))), .val (.int (own_chv q2 (16 : Int32) p4 (1 : Int32))), .val (.int (own_chv q2 (32 : Int32) p4 (2 : Int32))), .val (.int (own_chv q2 (48 : Int32) p4 (3 : Int32))), .val (.int (own_dav q3 p4)), .val (.int (own_chv q3 (16 : Int32) p4 (5 : Int32))), .val (.int (own_chv q3 (32 : Int32) p4 (6 : Int32))), .val (.int (own_chv q3 (48 : Int32) p4 (7 : Int32))), .val (.ref b7), .val (.ref b8), .val (.ref b9), .val (.ref b10), .val (.int (p1 &&& (3 : Int32))), .val (.ref b18), .unset, .unset, .unset, .unset] [(.ref b18)])) rfl (by rw [hml]; rfl) (argsL := [(.ref b18)]) (rest := []) (lenOf pd_19 rfl) rfl (by show 2 * 0 + _ ≤ _; exact Nat.le_of_eq rfl) (hb hby at_294) (fun _ _ => ⟨rfl, rfl, (by decide : 9 + 0 ≤ _), (by decide : 33 + 0 ≤ _)⟩)
  dsimp only [Pt.U, Pt.locs, Pt.cells, Pt.slots] at X27 l27 y27 z27 st27 hQ27
  subst l27 y27 z27
  obtain ⟨rfl, N27q, e27⟩ := hQ27
  have N27 := Fr.app N23 N27q
  replace X27 := X27.more (cells' := 9) (slots' := 33) (by decide) (by decide)
  replace X27 := X27.more (cells' := 10) (slots' := 60) (by decide) (by decide)
  obtain ⟨T28, L28, X28, N28, e28, st28⟩ := tts hw ((.val (.int p1))) ((.val (.long q2))) ((.second)) ((.val (.long q3))) ((.second)) ((.val (.int p4))) ((own_chv q2 (0 : Int32) p4 (0 : Int32))) ((own_chv q2 (16 : Int32) p4 (1 : Int32))) ((own_chv q2 (32 : Int32) p4 (2 : Int32))) ((own_chv q2 (48 : Int32) p4 (3 : Int32))) ((own_dav q3 p4)) ((own_chv q3 (16 : Int32) p4 (5 : Int32))) ((own_chv q3 (32 : Int32) p4 (6 : Int32))) ((.val (.int (own_chv q3 (48 : Int32) p4 (7 : Int32))))) ((.val (.ref b7))) ((.val (.ref b8))) ((.val (.ref b9))) ((.val (.ref b10))) ((p1 &&& (3 : Int32))) ((.val (.ref b18))) ((.val .null)) T23.heap n0 X27 N27 hx hZ23 hby hml ho23 e27 O26 hc224
  obtain ⟨T29, L29, X29, N29, e29, st29⟩ := tu0 hw ((.val (.int p1))) ((.val (.long q2))) ((.second)) ((.val (.long q3))) ((.second)) ((.val (.int p4))) ((own_chv q2 (0 : Int32) p4 (0 : Int32))) ((own_chv q2 (16 : Int32) p4 (1 : Int32))) ((own_chv q2 (32 : Int32) p4 (2 : Int32))) ((own_chv q2 (48 : Int32) p4 (3 : Int32))) ((own_dav q3 p4)) ((own_chv q3 (16 : Int32) p4 (5 : Int32))) ((own_chv q3 (32 : Int32) p4 (6 : Int32))) ((.val (.int (own_chv q3 (48 : Int32) p4 (7 : Int32))))) ((.val (.ref b7))) ((.val (.ref b8))) ((.val (.ref b9))) ((.val (.ref b10))) ((p1 &&& (3 : Int32))) ((.val (.ref b18))) T23.heap n0 X28 N28 hx hZ23 hby hml ho23 e28 O26
  obtain ⟨fs, hr, hrun, hended, hend⟩ := X29.leaveW hS23 (by rw [e29]; exact (Nat.le_refl _)) (v := some (.int 1)) (fun h => by rw [Bd.returns] at h; cases h)
  refine ⟨_, _, pre0 _ ?_, hrun, hended, _, _, rfl, ?_, hend.1, hend.2.1, hend.2.2.1, hend.2.2.2.mono (by decide) (by decide)⟩
  · show Steps p.tables e below (s₁.setTop (mkF m 0 #[.val (.int p1), .val (.long q2), .second, .val (.long q3), .second, .val (.int p4), .unset, .unset, .unset, .unset, .unset, .unset, .unset, .unset, .unset, .unset, .unset, .unset, .unset, .unset, .unset, .unset, .unset, .unset] [])) _
    refine st5 _ ?_
    show Steps p.tables e below (T5.setTop (mkF m 86 #[.val (.int p1), .val (.long q2), .second, .val (.long q3), .second, .val (.int p4), .val (.int (own_chv q2 (0 : Int32) p4 (0 : Int32))), .val (.int (own_chv q2 (16 : Int32) p4 (1 : Int32))), .val (.int (own_chv q2 (32 : Int32) p4 (2 : Int32))), .val (.int (own_chv q2 (48 : Int32) p4 (3 : Int32))), .val (.int (own_dav q3 p4)), .val (.int (own_chv q3 (16 : Int32) p4 (5 : Int32))), .val (.int (own_chv q3 (32 : Int32) p4 (6 : Int32))), .val (.int (own_chv q3 (48 : Int32) p4 (7 : Int32))), .unset, .unset, .unset, .unset, .unset, .unset, .unset, .unset, .unset, .unset] [])) _
    refine st6 _ ?_
    refine XS.iloadN X6.here hx rfl (hb hby at_217) rfl ?_
    refine XS.iconst X6.here hx rfl (hb hby at_218) ?_
    refine XS.iand X6.here hx rfl (hb hby at_219) rfl ?_
    refine XS.istore X6.here hx rfl (hb hby at_220) rfl (l' := #[.val (.int p1), .val (.long q2), .second, .val (.long q3), .second, .val (.int p4), .val (.int (own_chv q2 (0 : Int32) p4 (0 : Int32))), .val (.int (own_chv q2 (16 : Int32) p4 (1 : Int32))), .val (.int (own_chv q2 (32 : Int32) p4 (2 : Int32))), .val (.int (own_chv q2 (48 : Int32) p4 (3 : Int32))), .val (.int (own_dav q3 p4)), .val (.int (own_chv q3 (16 : Int32) p4 (5 : Int32))), .val (.int (own_chv q3 (32 : Int32) p4 (6 : Int32))), .val (.int (own_chv q3 (48 : Int32) p4 (7 : Int32))), .val (.ref b7), .val (.ref b8), .val (.ref b9), .val (.ref b10), .val (.int (p1 &&& (3 : Int32))), .unset, .unset, .unset, .unset, .unset]) rfl ?_
    refine XS.iload X6.here hx rfl (hb hby at_222) rfl ?_
    refine XS.ifYes X6.here hx rfl (pc0 := 224) (pc' := 241) rfl (hb hby at_224) rfl ((if0 _ _).trans (feq hc224).2) (by decide) (by decide) ?_
    show Steps p.tables e below (T6.setTop (mkF m 241 #[.val (.int p1), .val (.long q2), .second, .val (.long q3), .second, .val (.int p4), .val (.int (own_chv q2 (0 : Int32) p4 (0 : Int32))), .val (.int (own_chv q2 (16 : Int32) p4 (1 : Int32))), .val (.int (own_chv q2 (32 : Int32) p4 (2 : Int32))), .val (.int (own_chv q2 (48 : Int32) p4 (3 : Int32))), .val (.int (own_dav q3 p4)), .val (.int (own_chv q3 (16 : Int32) p4 (5 : Int32))), .val (.int (own_chv q3 (32 : Int32) p4 (6 : Int32))), .val (.int (own_chv q3 (48 : Int32) p4 (7 : Int32))), .val (.ref b7), .val (.ref b8), .val (.ref b9), .val (.ref b10), .val (.int (p1 &&& (3 : Int32))), .unset, .unset, .unset, .unset, .unset] [])) _
    refine XS.iload X6.here hx rfl (hb hby at_241) rfl ?_
    refine XS.iconst X6.here hx rfl (hb hby at_243) ?_
    refine XS.icmpYes X6.here hx rfl (pc0 := 244) (pc' := 261) rfl (hb hby at_244) rfl (feq hc244).2 (by decide) (by decide) ?_
    refine XS.iload X6.here hx rfl (hb hby at_261) rfl ?_
    refine XS.iconst X6.here hx rfl (hb hby at_263) ?_
    refine XS.icmpYes X6.here hx rfl (pc0 := 264) (pc' := 281) rfl (hb hby at_264) rfl (feq hc264).2 (by decide) (by decide) ?_
    refine st18 _ ?_
    refine XS.dup X18.here hx rfl (hb hby at_284) rfl rfl ?_
    refine XS.aload X18.here hx rfl (hb hby at_285) rfl rfl ?_
    refine st23.trans ?_
    refine XS.astore X23.here hx rfl (hb hby at_290) rfl rfl (l' := #[.val (.int p1), .val (.long q2), .second, .val (.long q3), .second, .val (.int p4), .val (.int (own_chv q2 (0 : Int32) p4 (0 : Int32))), .val (.int (own_chv q2 (16 : Int32) p4 (1 : Int32))), .val (.int (own_chv q2 (32 : Int32) p4 (2 : Int32))), .val (.int (own_chv q2 (48 : Int32) p4 (3 : Int32))), .val (.int (own_dav q3 p4)), .val (.int (own_chv q3 (16 : Int32) p4 (5 : Int32))), .val (.int (own_chv q3 (32 : Int32) p4 (6 : Int32))), .val (.int (own_chv q3 (48 : Int32) p4 (7 : Int32))), .val (.ref b7), .val (.ref b8), .val (.ref b9), .val (.ref b10), .val (.int (p1 &&& (3 : Int32))), .val (.ref b18), .unset, .unset, .unset, .unset]) rfl ?_
    refine XS.aload X23.here hx rfl (hb hby at_292) rfl rfl ?_
    refine st27 _ ?_
    refine XS.astore X27.here hx rfl (hb hby at_297) rfl rfl (l' := #[.val (.int p1), .val (.long q2), .second, .val (.long q3), .second, .val (.int p4), .val (.int (own_chv q2 (0 : Int32) p4 (0 : Int32))), .val (.int (own_chv q2 (16 : Int32) p4 (1 : Int32))), .val (.int (own_chv q2 (32 : Int32) p4 (2 : Int32))), .val (.int (own_chv q2 (48 : Int32) p4 (3 : Int32))), .val (.int (own_dav q3 p4)), .val (.int (own_chv q3 (16 : Int32) p4 (5 : Int32))), .val (.int (own_chv q3 (32 : Int32) p4 (6 : Int32))), .val (.int (own_chv q3 (48 : Int32) p4 (7 : Int32))), .val (.ref b7), .val (.ref b8), .val (.ref b9), .val (.ref b10), .val (.int (p1 &&& (3 : Int32))), .val (.ref b18), .val .null, .unset, .unset, .unset]) rfl ?_
    show Steps p.tables e below (T27.setTop (mkF m 299 #[.val (.int p1), .val (.long q2), .second, .val (.long q3), .second, .val (.int p4), .val (.int (own_chv q2 (0 : Int32) p4 (0 : Int32))), .val (.int (own_chv q2 (16 : Int32) p4 (1 : Int32))), .val (.int (own_chv q2 (32 : Int32) p4 (2 : Int32))), .val (.int (own_chv q2 (48 : Int32) p4 (3 : Int32))), .val (.int (own_dav q3 p4)), .val (.int (own_chv q3 (16 : Int32) p4 (5 : Int32))), .val (.int (own_chv q3 (32 : Int32) p4 (6 : Int32))), .val (.int (own_chv q3 (48 : Int32) p4 (7 : Int32))), .val (.ref b7), .val (.ref b8), .val (.ref b9), .val (.ref b10), .val (.int (p1 &&& (3 : Int32))), .val (.ref b18), .val .null, .unset, .unset, .unset] [])) _
    refine st28 _ ?_
    show Steps p.tables e below (T28.setTop (mkF m 364 #[.val (.int p1), .val (.long q2), .second, .val (.long q3), .second, .val (.int p4), .val (.int (own_chv q2 (0 : Int32) p4 (0 : Int32))), .val (.int (own_chv q2 (16 : Int32) p4 (1 : Int32))), .val (.int (own_chv q2 (32 : Int32) p4 (2 : Int32))), .val (.int (own_chv q2 (48 : Int32) p4 (3 : Int32))), .val (.int (own_dav q3 p4)), .val (.int (own_chv q3 (16 : Int32) p4 (5 : Int32))), .val (.int (own_chv q3 (32 : Int32) p4 (6 : Int32))), .val (.int (own_chv q3 (48 : Int32) p4 (7 : Int32))), .val (.ref b7), .val (.ref b8), .val (.ref b9), .val (.ref b10), .val (.int (p1 &&& (3 : Int32))), .val (.ref b18), .val .null, .unset, .unset, .unset] [(.int 0)])) _
    refine st29 _ ?_
    exact retN X29 hx (t := .boolean) Bd.returns (by simp) (hb hby at_457) hr
  · skip
    exact ⟨rfl, N29⟩
theorem own_chvc (q : Int64) (a b d : Int32) : own_ch (own_chv q a b d) := by
  unfold own_chv
  split <;> exact own_nch _
theorem own_davc (q : Int64) (a : Int32) : own_ch (own_dav q a) := by
  unfold own_dav
  split <;> exact own_nch _
theorem own_moL (c5 c6 : Int32) : own_mo c5 c6 = (((c5 - (48 : Int32)) * (10 : Int32)) + (c6 - (48 : Int32))) := by rw [own_mo, Int32.zero_add]
theorem own_yrL (c0 c1 c2 c3 : Int32) : own_yr c0 c1 c2 c3 = (((((c0 - (48 : Int32)) * (1000 : Int32)) + ((c1 - (48 : Int32)) * (100 : Int32))) + ((c2 - (48 : Int32)) * (10 : Int32))) + (c3 - (48 : Int32))) := by
  rw [own_yr, Int32.zero_add]
  simp only [Int32.add_mul, Int32.mul_assoc, show (10 : Int32) * 10 = 100 from rfl, show (100 : Int32) * 10 = 1000 from rfl]
theorem own_dgr {c : Int32} (h : own_dg c) : 0 ≤ (c - (48 : Int32)).toInt ∧ (c - (48 : Int32)).toInt ≤ 9 := by
  obtain ⟨h1, h2⟩ := h
  rw [Int32.lt_iff_toInt_lt, show (48 : Int32).toInt = 48 from rfl] at h1
  rw [Int32.lt_iff_toInt_lt, show (57 : Int32).toInt = 57 from rfl] at h2
  have q := c_isub c 48
  rw [show (48 : Int32).toInt = 48 from rfl] at q
  have r := rng32 (c - 48)
  omega
theorem own_yrr {c0 c1 c2 c3 : Int32} (d0 : own_dg c0) (d1 : own_dg c1) (d2 : own_dg c2) (d3 : own_dg c3) : 0 ≤ (own_yr c0 c1 c2 c3).toInt ∧ (own_yr c0 c1 c2 c3).toInt ≤ 9999 := by
  have a0 := own_dgr d0
  have a1 := own_dgr d1
  have a2 := own_dgr d2
  have a3 := own_dgr d3
  rw [own_yr, Int32.zero_add]
  generalize c0 - (48 : Int32) = x0 at *
  generalize c1 - (48 : Int32) = x1 at *
  generalize c2 - (48 : Int32) = x2 at *
  generalize c3 - (48 : Int32) = x3 at *
  have m0 := c_imul x0 10
  rw [show (10 : Int32).toInt = 10 from rfl] at m0
  have r0 := rng32 (x0 * 10)
  have b0 : (x0 * 10).toInt = x0.toInt * 10 := by omega
  generalize x0 * 10 = y0 at *
  have m1 := c_iadd y0 x1
  have r1 := rng32 (y0 + x1)
  have b1 : (y0 + x1).toInt = y0.toInt + x1.toInt := by omega
  generalize y0 + x1 = y1 at *
  have m2 := c_imul y1 10
  rw [show (10 : Int32).toInt = 10 from rfl] at m2
  have r2 := rng32 (y1 * 10)
  have b2 : (y1 * 10).toInt = y1.toInt * 10 := by omega
  generalize y1 * 10 = y2 at *
  have m3 := c_iadd y2 x2
  have r3 := rng32 (y2 + x2)
  have b3 : (y2 + x2).toInt = y2.toInt + x2.toInt := by omega
  generalize y2 + x2 = y3 at *
  have m4 := c_imul y3 10
  rw [show (10 : Int32).toInt = 10 from rfl] at m4
  have r4 := rng32 (y3 * 10)
  have b4 : (y3 * 10).toInt = y3.toInt * 10 := by omega
  generalize y3 * 10 = y4 at *
  have m5 := c_iadd y4 x3
  have r5 := rng32 (y4 + x3)
  have b5 : (y4 + x3).toInt = y4.toInt + x3.toInt := by omega
  omega
theorem own_lo {y : Int32} {w : Int64} (h : w.toInt ≤ y.toInt) : ¬ (lcmpW y.toInt64 w < (0 : Int32)) := fun q => by
  have q2 := (lw_lt _ _).mp q
  rw [Int64.lt_iff_toInt_lt, c_i2l] at q2
  omega
theorem own_hi {y : Int32} {w : Int64} (h : y.toInt ≤ w.toInt) : ¬ ((0 : Int32) < lcmpW y.toInt64 w) := fun q => by
  have q2 := (lw_gt _ _).mp q
  rw [Int64.lt_iff_toInt_lt, c_i2l] at q2
  omega
theorem own_met {l : Launch} {Z : State} {ws : List Jvm.Cond} {as : Array Value} {h0 : Heap} {n0 : Nat} (h : own_MetN l Z ws as h0 n0) : own_Met l Z ws as h0 n0 := by
  intro p e ha hc hk s m args below hf happ hP hK
  obtain ⟨n, o, q1, q2, q3, v, L, rfl, hv, hF⟩ := h p e ha hc hk s m args below hf happ ⟨hP.1, hP.2.1, hP.2.2.1⟩ hK
  exact ⟨n, _, q1, q2, q3, v, L, rfl, hv, ReturnedEndW.of_narrow hF.1 hF.2.1 hF.2.2⟩
theorem own_eqL {args : Array Value} {s : State} {t : Term} {n : Int64} (h : (Jvm.Cond.eq t (.long n)).value args s none s [] = some true) : t.eval args s none [] s = some (.long n) := by
  simp only [Cond.value, Term.eval] at h; cases ht : t.eval args s none [] s with | none => simp [ht] at h | some x => cases x <;> simp [ht] at h ⊢; exact h
theorem own_eqv {args : Array Value} {s : State} {t : Term} {n : Int32} (h : (Jvm.Cond.eq t (.int n)).value args s none s [] = some true) : t.eval args s none [] s = some (.int n) := by
  simp only [Cond.value, Term.eval] at h; cases ht : t.eval args s none [] s with | none => simp [ht] at h | some x => cases x <;> simp [ht] at h ⊢; exact h
theorem own_compact {s : State} {args : Array Value} {t : Term} (h1 : (Jvm.Cond.isInt t).value args s none s [] = some true) (h2 : (Jvm.Cond.not (.eq t (.int 0))).value args s none s [] = some true) : ∃ z : Int32, t.eval args s none [] s = some (.int z) ∧ ¬ z = 0 := by
  obtain ⟨z, ez⟩ := is_v h1
  refine ⟨z, ez, fun q => ?_⟩
  subst q
  simp [Cond.value, Term.eval, ez] at h2
theorem own_m255 (x : Int32) : ¬ (x &&& 255) < 0 ∧ ¬ (255 : Int32) < (x &&& 255) := by
  have h := c_and x 255 (by decide)
  rw [show (255 : Int32).toInt = 255 from rfl] at h
  rw [Int32.lt_iff_toInt_lt, Int32.lt_iff_toInt_lt, show (255 : Int32).toInt = 255 from rfl, show (0 : Int32).toInt = 0 from rfl]
  omega
theorem comes_1 {Post : Tables → Env → Array Value → State → Outcome → State → Prop} (hpost : ∀ tb e args s v u, (limb_1_1.after args s (.returned v) u = true ∧ limb_1_2.after args s (.returned v) u = true ∧ True) → ReturnedEndW s (.returned v) u (Jvm.fieldLocs frame_1_writes args s ++ Jvm.arrayLocs frame_1_arrays args s ++ Jvm.staticLocs frame_1_statics s) 24 1216 → Post tb e args s (.returned v) u) :
    ArmFor flags0 classFile x code maxLocals ret World_1 tables_1 room_1 Calls_1 rest_1 Pre_1 Post := by
  intro l hfl _ _ p e ha hcc hk s m args below hf hA hF happ hP
  obtain ⟨hcalls, hrest, hpre⟩ := hP
  obtain ⟨-, -, -, hnamed, -, -, -, hat⟩ := (Spec.applies_iff hf).mp happ
  obtain ⟨hg, hn⟩ := and_e (Cond.before_iff.mp (show (Jvm.Cond.and given_1 narrow_1).before args s = true from hpre))
  obtain ⟨hcount, gg0⟩ := and_e hg
  obtain ⟨ga0, gg1⟩ := and_e gg0
  obtain ⟨ga1, gg2⟩ := and_e gg1
  obtain ⟨ga2, gg3⟩ := and_e gg2
  obtain ⟨w0, w1, w2, w3, rfl⟩ : ∃ w0 w1 w2 w3 : Value, args = #[w0, w1, w2, w3] := by
    have hs : args.size = 4 := by simpa [Cond.value, given_1] using hcount
    obtain ⟨L⟩ := args
    match L, hs with
    | [w0, w1, w2, w3], _ => exact ⟨w0, w1, w2, w3, rfl⟩
  have hw := fun d (hd : d ∈ tables_1) => atoms_spec (ws := Jvm.Cond.code x code maxLocals ret :: tables_1) hat d (List.mem_cons_of_mem _ hd)
  have hfit : Fit s := fun {y c} hc i hi => by
    obtain ⟨ha, rfl⟩ := Array.getElem?_eq_some_iff.mp hc
    have q := List.all_eq_true.mp ((Array.all_eq_true_iff_forall_mem.mp hF) _ (Array.getElem_mem ha)) i (List.mem_range.mpr hi)
    simpa [Array.getElem?_eq_getElem hi] using q
  obtain ⟨hsets, hown0⟩ := atoms_of _ (rest_1_c_eq ▸ (show rest_1_c.before _ s = true from hrest))
  have hr0 := Cond.before_iff.mp hown0
  obtain ⟨i0, ei0⟩ := is_v ga0
  obtain rfl : w0 = (.int i0) := Option.some.inj ei0
  obtain ⟨i1, ei1⟩ := isL_v ga1
  obtain rfl : w1 = (.long i1) := Option.some.inj ei1
  obtain ⟨i2, ei2⟩ := isL_v ga2
  obtain rfl : w2 = (.long i2) := Option.some.inj ei2
  obtain ⟨i3, ei3⟩ := is_v gg3
  obtain rfl : w3 = (.int i3) := Option.some.inj ei3
  have hCH0 : CHv s own_EL s.vm s.heap := CHv.start (own_EW hw) (fun p hp => hcalls.1 p hp) (hsets _ (List.mem_of_getElem? (i := 2) rfl)) (own_w hw 27 rfl) (own_w hw 10 rfl)
  obtain ⟨zC, ez, hz⟩ := own_compact (Cond.before_iff.mp (hsets _ (List.mem_of_getElem? (i := 1) rfl))) (Cond.before_iff.mp (hsets _ (List.mem_of_getElem? (i := 2) rfl)))
  have SZ : Sta s s.heap "java/lang/String" "COMPACT_STRINGS" "Z" (.int zC) := Sta.start ez (Or.inl (hsets _ (List.mem_of_getElem? (i := 0) rfl)))
  obtain ⟨fm, ef, rf⟩ := isR_v (Cond.before_iff.mp (hsets _ (List.mem_of_getElem? (i := 8) rfl)))
  have SF : Sta s s.heap "jdk/internal/util/Preconditions" "SIOOBE_FORMATTER" "Ljava/util/function/BiFunction;" fm := Sta.start ef (Or.inl (hsets _ (List.mem_of_getElem? (i := 7) rfl)))
  have SA : Sta s s.heap "java/lang/StringUTF16" "$assertionsDisabled" "Z" (.int 1) := Sta.start (own_eqv (Cond.before_iff.mp (hsets _ (List.mem_of_getElem? (i := 12) rfl)))) (Or.inl (hsets _ (List.mem_of_getElem? (i := 11) rfl)))
  have SH : Sta s s.heap "java/lang/StringUTF16" "HI_BYTE_SHIFT" "I" (.int 0) := Sta.start (own_eqv (Cond.before_iff.mp (hsets _ (List.mem_of_getElem? (i := 15) rfl)))) (Or.inl (hsets _ (List.mem_of_getElem? (i := 14) rfl)))
  have SL : Sta s s.heap "java/lang/StringUTF16" "LO_BYTE_SHIFT" "I" (.int 8) := Sta.start (own_eqv (Cond.before_iff.mp (hsets _ (List.mem_of_getElem? (i := 18) rfl)))) (Or.inl (hsets _ (List.mem_of_getElem? (i := 17) rfl)))
  obtain ⟨wY, eY⟩ := exa_v (Cond.before_iff.mp (hsets _ (List.mem_of_getElem? (i := 25) rfl)))
  have SY : Sta s s.heap "java/time/temporal/ChronoField" "YEAR" "Ljava/time/temporal/ChronoField;" (.ref wY) := Sta.start (eY) (Or.inl (hsets _ (List.mem_of_getElem? (i := 20) rfl)))
  have EY := Exa.start eY (Cond.before_iff.mp (hsets _ (List.mem_of_getElem? (i := 25) rfl)))
  obtain ⟨wYR, eYR⟩ := exa_v (Cond.before_iff.mp (hsets _ (List.mem_of_getElem? (i := 41) rfl)))
  have FY : Fld s s.heap wY "java/time/temporal/ChronoField" "range" "Ljava/time/temporal/ValueRange;" (.ref wYR) := Fld.start ((fld_at eY).symm.trans eYR)
  have EYR := Exa.start eYR (Cond.before_iff.mp (hsets _ (List.mem_of_getElem? (i := 41) rfl)))
  have FYRn : Fld s s.heap wYR "java/time/temporal/ValueRange" "minSmallest" "J" (.long (-999999999)) := Fld.start ((fld_at eYR).symm.trans (own_eqL (Cond.before_iff.mp (hsets _ (List.mem_of_getElem? (i := 42) rfl)))))
  have FYRx : Fld s s.heap wYR "java/time/temporal/ValueRange" "maxLargest" "J" (.long 999999999) := Fld.start ((fld_at eYR).symm.trans (own_eqL (Cond.before_iff.mp (hsets _ (List.mem_of_getElem? (i := 45) rfl)))))
  obtain ⟨wM, eM⟩ := exa_v (Cond.before_iff.mp (hsets _ (List.mem_of_getElem? (i := 53) rfl)))
  have SM : Sta s s.heap "java/time/temporal/ChronoField" "MONTH_OF_YEAR" "Ljava/time/temporal/ChronoField;" (.ref wM) := Sta.start (eM) (Or.inl (hsets _ (List.mem_of_getElem? (i := 48) rfl)))
  have EM := Exa.start eM (Cond.before_iff.mp (hsets _ (List.mem_of_getElem? (i := 53) rfl)))
  obtain ⟨wMR, eMR⟩ := exa_v (Cond.before_iff.mp (hsets _ (List.mem_of_getElem? (i := 69) rfl)))
  have FM : Fld s s.heap wM "java/time/temporal/ChronoField" "range" "Ljava/time/temporal/ValueRange;" (.ref wMR) := Fld.start ((fld_at eM).symm.trans eMR)
  have EMR := Exa.start eMR (Cond.before_iff.mp (hsets _ (List.mem_of_getElem? (i := 69) rfl)))
  have FMRn : Fld s s.heap wMR "java/time/temporal/ValueRange" "minSmallest" "J" (.long 1) := Fld.start ((fld_at eMR).symm.trans (own_eqL (Cond.before_iff.mp (hsets _ (List.mem_of_getElem? (i := 70) rfl)))))
  have FMRx : Fld s s.heap wMR "java/time/temporal/ValueRange" "maxLargest" "J" (.long 12) := Fld.start ((fld_at eMR).symm.trans (own_eqL (Cond.before_iff.mp (hsets _ (List.mem_of_getElem? (i := 73) rfl)))))
  have C0 : own_ch (own_chv i1 (0 : Int32) i3 (0 : Int32)) := own_chvc _ _ _ _
  have C1 : own_ch (own_chv i1 (16 : Int32) i3 (1 : Int32)) := own_chvc _ _ _ _
  have C2 : own_ch (own_chv i1 (32 : Int32) i3 (2 : Int32)) := own_chvc _ _ _ _
  have C3 : own_ch (own_chv i1 (48 : Int32) i3 (3 : Int32)) := own_chvc _ _ _ _
  have C4 : own_ch (own_dav i2 i3) := own_davc _ _
  have C5 : own_ch (own_chv i2 (16 : Int32) i3 (5 : Int32)) := own_chvc _ _ _ _
  have C6 : own_ch (own_chv i2 (32 : Int32) i3 (6 : Int32)) := own_chvc _ _ _ _
  have C7 : own_ch (own_chv i2 (48 : Int32) i3 (7 : Int32)) := own_chvc _ _ _ _
  have key : own_Met l s tables_1 #[(.int i0), (.long i1), (.long i2), (.int i3)] s.heap s.heap.size := by
    by_cases j0 : (i0 &&& (3 : Int32)) = (0 : Int32)
    · by_cases hT : (own_dav i2 i3) = (45 : Int32) ∧ own_dg (own_chv i1 (0 : Int32) i3 (0 : Int32)) ∧ own_dg (own_chv i1 (16 : Int32) i3 (1 : Int32)) ∧ own_dg (own_chv i1 (32 : Int32) i3 (2 : Int32)) ∧ own_dg (own_chv i1 (48 : Int32) i3 (3 : Int32)) ∧ own_dg (own_chv i2 (16 : Int32) i3 (5 : Int32)) ∧ own_dg (own_chv i2 (32 : Int32) i3 (6 : Int32))
      · obtain ⟨e4, D0, D1, D2, D3, D5, D6⟩ := hT
        by_cases m1 : ((((own_chv i2 (16 : Int32) i3 (5 : Int32)) - (48 : Int32)) * (10 : Int32)) + ((own_chv i2 (32 : Int32) i3 (6 : Int32)) - (48 : Int32))) < (1 : Int32)
        · have hbad : ¬ own_ok (own_chv i1 (0 : Int32) i3 (0 : Int32)) (own_chv i1 (16 : Int32) i3 (1 : Int32)) (own_chv i1 (32 : Int32) i3 (2 : Int32)) (own_chv i1 (48 : Int32) i3 (3 : Int32)) (own_dav i2 i3) (own_chv i2 (16 : Int32) i3 (5 : Int32)) (own_chv i2 (32 : Int32) i3 (6 : Int32)) := fun q => q.2.2.2.1 (by rw [own_moL]; exact m1)
          exact own_met (rm0m1 l s _ hw tables_1 i0 i1 i2 i3 zC fm s.heap s.heap.size (Old.start s) C0 C1 C2 C3 C4 C5 C6 C7 SZ SA SH SL SF j0 hz (List.forall_mem_cons.mpr ⟨C0, (List.forall_mem_cons.mpr ⟨C1, (List.forall_mem_cons.mpr ⟨C2, (List.forall_mem_cons.mpr ⟨C3, (List.forall_mem_cons.mpr ⟨C4, (List.forall_mem_cons.mpr ⟨C5, (List.forall_mem_cons.mpr ⟨C6, (by intro c hc; cases hc)⟩)⟩)⟩)⟩)⟩)⟩)⟩) rf hbad e4 D0.1 D0.2 D1.1 D1.2 D2.1 D2.2 D3.1 D3.2 D5.1 D5.2 D6.1 D6.2 m1)
        · by_cases m2 : (12 : Int32) < ((((own_chv i2 (16 : Int32) i3 (5 : Int32)) - (48 : Int32)) * (10 : Int32)) + ((own_chv i2 (32 : Int32) i3 (6 : Int32)) - (48 : Int32)))
          · have hbad : ¬ own_ok (own_chv i1 (0 : Int32) i3 (0 : Int32)) (own_chv i1 (16 : Int32) i3 (1 : Int32)) (own_chv i1 (32 : Int32) i3 (2 : Int32)) (own_chv i1 (48 : Int32) i3 (3 : Int32)) (own_dav i2 i3) (own_chv i2 (16 : Int32) i3 (5 : Int32)) (own_chv i2 (32 : Int32) i3 (6 : Int32)) := fun q => q.2.2.2.2 (by rw [own_moL]; exact m2)
            exact own_met (rm0m2 l s _ hw tables_1 i0 i1 i2 i3 zC fm s.heap s.heap.size (Old.start s) C0 C1 C2 C3 C4 C5 C6 C7 SZ SA SH SL SF j0 hz (List.forall_mem_cons.mpr ⟨C0, (List.forall_mem_cons.mpr ⟨C1, (List.forall_mem_cons.mpr ⟨C2, (List.forall_mem_cons.mpr ⟨C3, (List.forall_mem_cons.mpr ⟨C4, (List.forall_mem_cons.mpr ⟨C5, (List.forall_mem_cons.mpr ⟨C6, (by intro c hc; cases hc)⟩)⟩)⟩)⟩)⟩)⟩)⟩) rf hbad e4 D0.1 D0.2 D1.1 D1.2 D2.1 D2.2 D3.1 D3.2 D5.1 D5.2 D6.1 D6.2 m1 m2)
          · have m1' : ¬ (own_mo (own_chv i2 (16 : Int32) i3 (5 : Int32)) (own_chv i2 (32 : Int32) i3 (6 : Int32)) < (1 : Int32)) := by rw [own_moL]; exact m1
            have m2' : ¬ ((12 : Int32) < own_mo (own_chv i2 (16 : Int32) i3 (5 : Int32)) (own_chv i2 (32 : Int32) i3 (6 : Int32))) := by rw [own_moL]; exact m2
            have ry := own_yrr D0 D1 D2 D3
            have hl1 := own_lo (y := own_yr (own_chv i1 (0 : Int32) i3 (0 : Int32)) (own_chv i1 (16 : Int32) i3 (1 : Int32)) (own_chv i1 (32 : Int32) i3 (2 : Int32)) (own_chv i1 (48 : Int32) i3 (3 : Int32))) (w := (-999999999)) (by rw [show (-999999999 : Int64).toInt = -999999999 from rfl]; omega)
            have hl2 := own_hi (y := own_yr (own_chv i1 (0 : Int32) i3 (0 : Int32)) (own_chv i1 (16 : Int32) i3 (1 : Int32)) (own_chv i1 (32 : Int32) i3 (2 : Int32)) (own_chv i1 (48 : Int32) i3 (3 : Int32))) (w := 999999999) (by rw [show (999999999 : Int64).toInt = 999999999 from rfl]; omega)
            have hl3 := own_lo (y := own_mo (own_chv i2 (16 : Int32) i3 (5 : Int32)) (own_chv i2 (32 : Int32) i3 (6 : Int32))) (w := 1) (by rw [Int32.lt_iff_toInt_lt, show (1 : Int32).toInt = 1 from rfl] at m1'; rw [show (1 : Int64).toInt = 1 from rfl]; omega)
            have hl4 := own_hi (y := own_mo (own_chv i2 (16 : Int32) i3 (5 : Int32)) (own_chv i2 (32 : Int32) i3 (6 : Int32))) (w := 12) (by rw [Int32.lt_iff_toInt_lt, show (12 : Int32).toInt = 12 from rfl] at m2'; rw [show (12 : Int64).toInt = 12 from rfl]; omega)
            exact own_met (rm0k l s _ hw tables_1 i0 i1 i2 i3 zC fm wY wYR (-999999999) 999999999 wM wMR 1 12 s.heap s.heap.size (Old.start s) C0 C1 C2 C3 C4 C5 C6 C7 SZ SA SH SL SF SY FY EY FYRn EYR FYRx SM FM EM FMRn EMR FMRx j0 hz (List.forall_mem_cons.mpr ⟨C0, (List.forall_mem_cons.mpr ⟨C1, (List.forall_mem_cons.mpr ⟨C2, (List.forall_mem_cons.mpr ⟨C3, (List.forall_mem_cons.mpr ⟨C4, (List.forall_mem_cons.mpr ⟨C5, (List.forall_mem_cons.mpr ⟨C6, (by intro c hc; cases hc)⟩)⟩)⟩)⟩)⟩)⟩)⟩) rf e4 D0.1 D0.2 D1.1 D1.2 D2.1 D2.2 D3.1 D3.2 D5.1 D5.2 D6.1 D6.2 m1' m2' hl1 hl2 hl3 hl4 m1 m2 (own_yrL _ _ _ _) (own_moL _ _))
      · have hbad : ¬ own_ok (own_chv i1 (0 : Int32) i3 (0 : Int32)) (own_chv i1 (16 : Int32) i3 (1 : Int32)) (own_chv i1 (32 : Int32) i3 (2 : Int32)) (own_chv i1 (48 : Int32) i3 (3 : Int32)) (own_dav i2 i3) (own_chv i2 (16 : Int32) i3 (5 : Int32)) (own_chv i2 (32 : Int32) i3 (6 : Int32)) := fun q => hT ⟨q.1, q.2.1.1, q.2.1.2.1, q.2.1.2.2.1, q.2.1.2.2.2, q.2.2.1.1, q.2.2.1.2⟩
        exact own_met (rm0b l s _ hw tables_1 i0 i1 i2 i3 zC fm s.heap s.heap.size (Old.start s) C0 C1 C2 C3 C4 C5 C6 C7 SZ SA SH SL SF j0 hz (List.forall_mem_cons.mpr ⟨C0, (List.forall_mem_cons.mpr ⟨C1, (List.forall_mem_cons.mpr ⟨C2, (List.forall_mem_cons.mpr ⟨C3, (List.forall_mem_cons.mpr ⟨C4, (List.forall_mem_cons.mpr ⟨C5, (List.forall_mem_cons.mpr ⟨C6, (by intro c hc; cases hc)⟩)⟩)⟩)⟩)⟩)⟩)⟩) rf hbad hT)
    · by_cases j1 : (i0 &&& (3 : Int32)) = (1 : Int32)
      · exact own_met (rm0s6 l s _ hw tables_1 i0 i1 i2 i3 zC fm s.heap s.heap.size (Old.start s) C0 C1 C2 C3 C4 C5 C6 C7 SZ SA SH SL j0 j1 hz (List.forall_mem_cons.mpr ⟨C0, (List.forall_mem_cons.mpr ⟨C1, (List.forall_mem_cons.mpr ⟨C2, (List.forall_mem_cons.mpr ⟨C3, (List.forall_mem_cons.mpr ⟨C4, (List.forall_mem_cons.mpr ⟨C5, (by intro c hc; cases hc)⟩)⟩)⟩)⟩)⟩)⟩))
      · by_cases j2 : (i0 &&& (3 : Int32)) = (2 : Int32)
        · exact own_met (rm0s8 l s _ hw tables_1 i0 i1 i2 i3 zC fm s.heap s.heap.size (Old.start s) C0 C1 C2 C3 C4 C5 C6 C7 SZ SA SH SL j0 j1 j2 hz (List.forall_mem_cons.mpr ⟨C0, (List.forall_mem_cons.mpr ⟨C1, (List.forall_mem_cons.mpr ⟨C2, (List.forall_mem_cons.mpr ⟨C3, (List.forall_mem_cons.mpr ⟨C4, (List.forall_mem_cons.mpr ⟨C5, (List.forall_mem_cons.mpr ⟨C6, (List.forall_mem_cons.mpr ⟨C7, (by intro c hc; cases hc)⟩)⟩)⟩)⟩)⟩)⟩)⟩)⟩))
        · exact rm0s0 l s _ hw tables_1 i0 i1 i2 i3 zC fm s.heap s.heap.size (Old.start s) C0 C1 C2 C3 C4 C5 C6 C7 j0 j1 j2 SZ hz
  obtain ⟨n, o, h1, h2, h3, _, L, rfl, ⟨rfl, N⟩, hq⟩ := key p e ha hcc hk s m _ below hf ((Spec.applies_iff_loose hf).mp happ).1 ⟨rfl, State.Warmed39.refl s, rfl, hCH0⟩ trivial
  refine ⟨n, _, h1, h2, h3, hpost _ _ _ _ _ _ ⟨Cond.after_iff.mpr rfl, Cond.after_iff.mpr (eq_i res_at (Term.int_eval (1)) rfl), trivial⟩ ⟨hq.1, hq.2.1, hq.2.2.1, (hq.2.2.2.sift fun y hy => Or.inr (N y hy)).mono (by decide) (by decide)⟩⟩
theorem main_1_1 : Claimed_1_1 := comes_1 fun _ _ _ _ _ _ h hF => ⟨h.1, hF⟩
theorem main_1_2 : Claimed_1_2 := comes_1 fun _ _ _ _ _ _ h hF => ⟨h.2.1, hF⟩
end Jvm.Pilot.@@N@@
namespace Jvm.Pilot.@@N@@
open Jvm Jvm.ClassFile Sem Op Lib Jvm.Free Jvm.Stand Jvm.Pilot.@@N@@.Jvm.D
/-! MADE BY PROGRAM (witnessworld.py) out of the Statement's table words and the real class files: 32 classes; the members and pool entries that the words name. The judged class is class 1, her method 1. -/
namespace start1
open Jvm.ClassFile
def u (s : String) : CpInfo := .utf8 (stringToUtf16 s)
/-- a pool by its gaps: so many unusable entries, then the entry; so many at the end -/
def gap : Nat → List CpInfo → List CpInfo
  | 0, r => r
  | n + 1, r => .unusable :: gap n r
def poolList (es : List (Nat × CpInfo)) (last : Nat) : List CpInfo := es.foldr (fun e r => gap e.1 (e.2 :: r)) (gap last [])
def pool (es : List (Nat × CpInfo)) (last : Nat) : Array CpInfo := ⟨poolList es last⟩
def fileOf (pool : Array CpInfo) (this : Nat) (attrs : Array Attribute := #[]) (ms : Array MethodInfo := #[]) (fl : Nat := 33) (sup : Nat := 0) (ifs : Array Nat := #[]) (fds : Array FieldInfo := #[]) : ClassFile where
  minorVersion := 0
  majorVersion := 65
  constantPool := pool
  accessFlags := fl
  thisClass := this
  superClass := sup
  interfaces := ifs
  fields := fds
  methods := ms
  attributes := attrs
def plain (name : String) (sup : Option ClassId) : Class where
  name := name
  kind := .ordinary
  loader := none
  accessFlags := 33
  super := sup
  interfaces := #[]
  cf := none
  fields := #[]
  methods := #[]
  instanceTypes := #[]
  staticTypes := #[]
  resolved := #[]
  callSites := []
  init := .initialized
  statics := none
  mirror := none

def pool0 : Array CpInfo := pool [(5, u "<init>"), (0, u "()V"), (1, .class_ 10), (1, u "java/lang/Object")] 113

def k0c0 : Code := { maxStack := 0, maxLocals := 1, code := object_method_1_code, exceptionTable := #[], attributes := #[] }
def k0m0 : Method := { name := "<init>", desc := "()V", sig := { parameters := [], returnType := none }, accessFlags := 1, code := some k0c0 }
/-- java/lang/Object -/
def k0 : Class := { plain "java/lang/Object" none with
  accessFlags := 33
  interfaces := #[]
  cf := some (fileOf pool0 8 #[] #[{ accessFlags := 1, nameIndex := 5, descriptorIndex := 6, attributes := #[] }] 33 0 #[] #[])
  fields := #[]
  methods := #[k0m0]
  instanceTypes := #[]
  staticTypes := #[]
  resolved := Array.replicate 124 none
  statics := none }

def pool1 : Array CpInfo := pool [(2, .class_ 4), (1, u "java/lang/Object"), (0, u "<init>"), (0, u "()V"), (0, .methodref 8 9), (0, .class_ 10), (0, .nameAndType 11 12), (0, u "com/example/vestwright/vestwright/ValuesMonthPinLaw"), (0, u "ch"), (0, u "(JIII)C"), (0, .methodref 8 14), (0, .nameAndType 15 16), (0, u "dash"), (0, u "(JI)C"), (0, .class_ 18), (0, u "java/lang/String"), (0, .methodref 17 20), (0, .nameAndType 5 21), (0, u "([C)V"), (0, .methodref 23 24), (0, .class_ 25), (0, .nameAndType 26 27), (0, u "com/example/vestwright/vestwright/Values"), (0, u "month"), (0, u "(Ljava/lang/String;)Ljava/time/YearMonth;"), (0, .methodref 8 29), (0, .nameAndType 30 31), (0, u "dig"), (0, u "(C)Z"), (0, .methodref 33 34), (0, .class_ 35), (0, .nameAndType 36 37), (0, u "java/time/YearMonth"), (0, u "getYear"), (0, u "()I"), (0, .methodref 33 39), (0, .nameAndType 40 37), (0, u "getMonthValue"), (0, .long 65535), (3, u "law"), (0, u "(IJJI)Z")] 5

def k1m0 : Method := { name := "<init>", desc := "()V", sig := { parameters := [], returnType := none }, accessFlags := 2, code := none }
def k1c1 : Code := { maxStack := 5, maxLocals := 24, code := code, exceptionTable := #[], attributes := #[] }
def k1m1 : Method := { name := "law", desc := "(IJJI)Z", sig := { parameters := [.int, .long, .long, .int], returnType := some .boolean }, accessFlags := 9, code := some k1c1 }
def k1c2 : Code := { maxStack := 2, maxLocals := 1, code := method_3_code, exceptionTable := #[], attributes := #[] }
def k1m2 : Method := { name := "dig", desc := "(C)Z", sig := { parameters := [.char], returnType := some .boolean }, accessFlags := 10, code := some k1c2 }
def k1c3 : Code := { maxStack := 4, maxLocals := 6, code := method_4_code, exceptionTable := #[], attributes := #[] }
def k1m3 : Method := { name := "ch", desc := "(JIII)C", sig := { parameters := [.long, .int, .int, .int], returnType := some .char }, accessFlags := 10, code := some k1c3 }
def k1c4 : Code := { maxStack := 4, maxLocals := 3, code := method_5_code, exceptionTable := #[], attributes := #[] }
def k1m4 : Method := { name := "dash", desc := "(JI)C", sig := { parameters := [.long, .int], returnType := some .char }, accessFlags := 10, code := some k1c4 }
/-- com/example/vestwright/vestwright/ValuesMonthPinLaw -/
def k1 : Class := { plain "com/example/vestwright/vestwright/ValuesMonthPinLaw" (some 0) with
  accessFlags := 49
  interfaces := #[]
  cf := some (fileOf pool1 8 #[] #[{ accessFlags := 2, nameIndex := 5, descriptorIndex := 6, attributes := #[] }, { accessFlags := 9, nameIndex := 45, descriptorIndex := 46, attributes := #[] }, { accessFlags := 10, nameIndex := 30, descriptorIndex := 31, attributes := #[] }, { accessFlags := 10, nameIndex := 11, descriptorIndex := 12, attributes := #[] }, { accessFlags := 10, nameIndex := 15, descriptorIndex := 16, attributes := #[] }] 49 2 #[] #[])
  fields := #[]
  methods := #[k1m0, k1m1, k1m2, k1m3, k1m4]
  instanceTypes := #[]
  staticTypes := #[]
  resolved := Array.replicate 52 none
  statics := none }

def pool2 : Array CpInfo := pool [(1, .class_ 2), (0, u "java/io/Serializable"), (0, .class_ 4), (0, u "java/lang/Object")] 2

/-- java/io/Serializable -/
def k2 : Class := { plain "java/io/Serializable" (some 0) with
  accessFlags := 1537
  interfaces := #[]
  cf := some (fileOf pool2 1 #[] #[] 1537 3 #[] #[])
  fields := #[]
  methods := #[]
  instanceTypes := #[]
  staticTypes := #[]
  resolved := Array.replicate 7 none
  statics := none }

def pool3 : Array CpInfo := pool [(1, .class_ 2), (0, u "java/lang/Comparable"), (0, .class_ 4), (0, u "java/lang/Object")] 7

/-- java/lang/Comparable -/
def k3 : Class := { plain "java/lang/Comparable" (some 0) with
  accessFlags := 1537
  interfaces := #[]
  cf := some (fileOf pool3 1 #[] #[] 1537 3 #[] #[])
  fields := #[]
  methods := #[]
  instanceTypes := #[]
  staticTypes := #[]
  resolved := Array.replicate 12 none
  statics := none }

def pool4 : Array CpInfo := pool [(2, .class_ 4), (1, u "java/lang/CharSequence"), (42, .class_ 48), (0, u "java/lang/CharSequence$1CodePointIterator"), (10, .class_ 60), (0, u "java/lang/CharSequence$1CharIterator"), (5, .class_ 67), (0, u "java/lang/Object")] 63

/-- java/lang/CharSequence -/
def k4 : Class := { plain "java/lang/CharSequence" (some 0) with
  accessFlags := 1537
  interfaces := #[]
  cf := some (fileOf pool4 2 #[.nestMembers #[47, 59]] #[] 1537 66 #[] #[])
  fields := #[]
  methods := #[]
  instanceTypes := #[]
  staticTypes := #[]
  resolved := Array.replicate 131 none
  statics := none }

def pool5 : Array CpInfo := pool [(1, .class_ 2), (0, u "java/lang/constant/Constable"), (0, .class_ 4), (0, u "java/lang/Object")] 6

/-- java/lang/constant/Constable -/
def k5 : Class := { plain "java/lang/constant/Constable" (some 0) with
  accessFlags := 1537
  interfaces := #[]
  cf := some (fileOf pool5 1 #[] #[] 1537 3 #[] #[])
  fields := #[]
  methods := #[]
  instanceTypes := #[]
  staticTypes := #[]
  resolved := Array.replicate 11 none
  statics := none }

def pool6 : Array CpInfo := pool [(1, .class_ 2), (0, u "java/lang/constant/ConstantDesc"), (0, .class_ 4), (0, u "java/lang/Object")] 32

/-- java/lang/constant/ConstantDesc -/
def k6 : Class := { plain "java/lang/constant/ConstantDesc" (some 0) with
  accessFlags := 1537
  interfaces := #[]
  cf := some (fileOf pool6 1 #[] #[] 1537 3 #[] #[])
  fields := #[]
  methods := #[]
  instanceTypes := #[]
  staticTypes := #[]
  resolved := Array.replicate 37 none
  statics := none }

def pool7 : Array CpInfo := pool [(1, .methodref 2 3), (0, .class_ 4), (0, .nameAndType 5 6), (0, u "java/lang/Object"), (0, u "<init>"), (0, u "()V"), (0, .string 8), (0, u ""), (0, .fieldref 10 11), (0, .class_ 12), (0, .nameAndType 13 14), (0, u "java/lang/String"), (0, u "value"), (0, u "[B"), (0, .fieldref 10 16), (0, .nameAndType 17 18), (0, u "coder"), (0, u "B"), (2, u "hash"), (0, u "I"), (2, u "hashIsZero"), (0, u "Z"), (0, .methodref 10 28), (0, .nameAndType 5 29), (0, u "([CIILjava/lang/Void;)V"), (8, .fieldref 10 39), (0, .nameAndType 40 26), (0, u "COMPACT_STRINGS"), (1, .class_ 44), (1, u "java/lang/StringUTF16"), (0, u "compress"), (1, .methodref 42 48), (0, .nameAndType 49 50), (0, u "coderFromArrayLen"), (0, u "([BI)B"), (56, .class_ 109), (1, u "java/lang/StringLatin1"), (32, u "()Z"), (34, .methodref 42 178), (0, .nameAndType 45 179), (0, u "([CII)[B"), (154, u "()I"), (0, .methodref 10 336), (0, .nameAndType 17 337), (0, u "()B"), (25, u "([BI)C"), (27, u "(II)V"), (35, u "(I)C"), (64, .methodref 10 493), (0, .nameAndType 494 142), (0, u "isLatin1"), (0, .methodref 107 496), (0, .nameAndType 497 363), (0, u "charAt"), (0, .methodref 42 496), (2, u "checkIndex"), (5, u "length"), (67, .class_ 576), (0, u "java/lang/CharSequence"), (22, u "CASE_INSENSITIVE_ORDER"), (0, u "Ljava/util/Comparator;"), (409, u "([C)V"), (42, .fieldref 1054 1055), (0, .class_ 1056), (0, .nameAndType 1057 1058), (0, u "jdk/internal/util/Preconditions"), (0, u "SIOOBE_FORMATTER"), (0, u "Ljava/util/function/BiFunction;"), (0, .methodref 1054 1060), (0, .nameAndType 501 1061), (0, u "(IILjava/util/function/BiFunction;)I"), (39, u "serialPersistentFields"), (0, u "[Ljava/io/ObjectStreamField;"), (0, .class_ 1104), (0, u "java/lang/String$CaseInsensitiveComparator"), (1, .class_ 1107), (0, u "java/io/Serializable"), (0, .class_ 1109), (0, u "java/lang/Comparable"), (0, .class_ 1111), (0, u "java/lang/constant/Constable"), (0, .class_ 1113), (0, u "java/lang/constant/ConstantDesc"), (2, u "serialVersionUID"), (0, u "J"), (3, u "REPL"), (0, u "C"), (2, u "LATIN1"), (1, u "UTF16")] 323

def k7m0 : Method := { name := "<init>", desc := "()V", sig := { parameters := [], returnType := none }, accessFlags := 1, code := none }
def k7c1 : Code := { maxStack := 5, maxLocals := 2, code := jdk_42_method_3_code, exceptionTable := #[], attributes := #[] }
def k7m1 : Method := { name := "<init>", desc := "([C)V", sig := { parameters := [(.array .char)], returnType := none }, accessFlags := 1, code := some k7c1 }
def k7c2 : Code := { maxStack := 2, maxLocals := 1, code := jdk_42_method_54_code, exceptionTable := #[], attributes := #[] }
def k7m2 : Method := { name := "length", desc := "()I", sig := { parameters := [], returnType := some .int }, accessFlags := 1, code := some k7c2 }
def k7c3 : Code := { maxStack := 2, maxLocals := 2, code := jdk_42_method_56_code, exceptionTable := #[], attributes := #[] }
def k7m3 : Method := { name := "charAt", desc := "(I)C", sig := { parameters := [.int], returnType := some .char }, accessFlags := 1, code := some k7c3 }
def k7c4 : Code := { maxStack := 4, maxLocals := 6, code := jdk_42_method_149_code, exceptionTable := #[], attributes := #[] }
def k7m4 : Method := { name := "<init>", desc := "([CIILjava/lang/Void;)V", sig := { parameters := [(.array .char), .int, .int, (.object "java/lang/Void")], returnType := none }, accessFlags := 2, code := some k7c4 }
def k7c5 : Code := { maxStack := 1, maxLocals := 1, code := jdk_42_method_152_code, exceptionTable := #[], attributes := #[] }
def k7m5 : Method := { name := "coder", desc := "()B", sig := { parameters := [], returnType := some .byte }, accessFlags := 0, code := some k7c5 }
def k7c6 : Code := { maxStack := 1, maxLocals := 1, code := jdk_42_method_154_code, exceptionTable := #[], attributes := #[] }
def k7m6 : Method := { name := "isLatin1", desc := "()Z", sig := { parameters := [], returnType := some .boolean }, accessFlags := 0, code := some k7c6 }
def k7c7 : Code := { maxStack := 3, maxLocals := 2, code := jdk_42_method_155_code, exceptionTable := #[], attributes := #[] }
def k7m7 : Method := { name := "checkIndex", desc := "(II)V", sig := { parameters := [.int, .int], returnType := none }, accessFlags := 8, code := some k7c7 }
/-- java/lang/String -/
def k7 : Class := { plain "java/lang/String" (some 0) with
  accessFlags := 49
  interfaces := #[2, 3, 4, 5, 6]
  cf := some (fileOf pool7 10 #[.nestMembers #[1103]] #[{ accessFlags := 1, nameIndex := 5, descriptorIndex := 6, attributes := #[] }, { accessFlags := 1, nameIndex := 5, descriptorIndex := 1010, attributes := #[] }, { accessFlags := 1, nameIndex := 507, descriptorIndex := 334, attributes := #[] }, { accessFlags := 1, nameIndex := 497, descriptorIndex := 427, attributes := #[] }, { accessFlags := 2, nameIndex := 5, descriptorIndex := 29, attributes := #[] }, { accessFlags := 0, nameIndex := 17, descriptorIndex := 337, attributes := #[] }, { accessFlags := 0, nameIndex := 494, descriptorIndex := 142, attributes := #[] }, { accessFlags := 8, nameIndex := 501, descriptorIndex := 391, attributes := #[] }] 49 2 #[1106, 1108, 575, 1110, 1112] #[{ accessFlags := 18, nameIndex := 13, descriptorIndex := 14, attributes := #[] }, { accessFlags := 18, nameIndex := 17, descriptorIndex := 18, attributes := #[] }, { accessFlags := 2, nameIndex := 21, descriptorIndex := 22, attributes := #[] }, { accessFlags := 2, nameIndex := 25, descriptorIndex := 26, attributes := #[] }, { accessFlags := 26, nameIndex := 1116, descriptorIndex := 1117, attributes := #[] }, { accessFlags := 24, nameIndex := 40, descriptorIndex := 26, attributes := #[] }, { accessFlags := 26, nameIndex := 1101, descriptorIndex := 1102, attributes := #[] }, { accessFlags := 26, nameIndex := 1121, descriptorIndex := 1122, attributes := #[] }, { accessFlags := 25, nameIndex := 599, descriptorIndex := 600, attributes := #[] }, { accessFlags := 24, nameIndex := 1125, descriptorIndex := 18, attributes := #[] }, { accessFlags := 24, nameIndex := 1127, descriptorIndex := 18, attributes := #[] }])
  fields := #[{ name := "value", type := (.array .byte), accessFlags := 18, slot := 0, constantValue := 0 }, { name := "coder", type := .byte, accessFlags := 18, slot := 1, constantValue := 0 }, { name := "hash", type := .int, accessFlags := 2, slot := 2, constantValue := 0 }, { name := "hashIsZero", type := .boolean, accessFlags := 2, slot := 3, constantValue := 0 }, { name := "serialVersionUID", type := .long, accessFlags := 26, slot := 0, constantValue := 0 }, { name := "COMPACT_STRINGS", type := .boolean, accessFlags := 24, slot := 1, constantValue := 0 }, { name := "serialPersistentFields", type := (.array (.object "java/io/ObjectStreamField")), accessFlags := 26, slot := 2, constantValue := 0 }, { name := "REPL", type := .char, accessFlags := 26, slot := 3, constantValue := 0 }, { name := "CASE_INSENSITIVE_ORDER", type := (.object "java/util/Comparator"), accessFlags := 25, slot := 4, constantValue := 0 }, { name := "LATIN1", type := .byte, accessFlags := 24, slot := 5, constantValue := 0 }, { name := "UTF16", type := .byte, accessFlags := 24, slot := 6, constantValue := 0 }]
  methods := #[k7m0, k7m1, k7m2, k7m3, k7m4, k7m5, k7m6, k7m7]
  instanceTypes := #[(.array .byte), .byte, .int, .boolean]
  staticTypes := #[.long, .boolean, (.array (.object "java/io/ObjectStreamField")), .char, (.object "java/util/Comparator"), .byte, .byte]
  resolved := Array.replicate 1451 none
  statics := some 0 }

def pool8 : Array CpInfo := pool [(3, .class_ 4), (0, u "java/lang/String"), (1, .class_ 8), (1, u "java/lang/Object"), (0, u "<init>"), (0, u "()V"), (0, .methodref 12 13), (0, .class_ 14), (0, .nameAndType 15 16), (0, u "java/lang/StringUTF16"), (0, u "newBytesLength"), (0, u "(I)I"), (3, .integer 1073741823), (23, .fieldref 12 45), (0, .nameAndType 46 47), (0, u "$assertionsDisabled"), (0, u "Z"), (0, .methodref 12 49), (0, .nameAndType 50 51), (0, u "length"), (0, u "([B)I"), (7, .fieldref 12 60), (0, .nameAndType 61 62), (0, u "HI_BYTE_SHIFT"), (0, u "I"), (0, .fieldref 12 64), (0, .nameAndType 65 62), (0, u "LO_BYTE_SHIFT"), (1, .methodref 12 68), (0, .nameAndType 69 70), (0, u "checkIndex"), (0, u "(I[B)V"), (0, .methodref 12 72), (0, .nameAndType 73 74), (0, u "getChar"), (0, u "([BI)C"), (32, .methodref 12 108), (0, .nameAndType 109 110), (0, u "newBytesFor"), (0, u "(I)[B"), (0, .methodref 12 112), (0, .nameAndType 113 114), (0, u "putChar"), (0, u "([BII)V"), (0, .methodref 12 116), (0, .nameAndType 117 118), (0, u "compress"), (0, u "([CI[BII)I"), (0, .methodref 12 120), (0, .nameAndType 121 122), (0, u "toBytes"), (0, u "([CII)[B"), (138, u "coderFromArrayLen"), (0, u "([BI)B"), (106, .class_ 371), (1, u "java/lang/StringUTF16$LinesSpliterator"), (20, u "charAt"), (21, .methodref 3 415), (0, .nameAndType 69 416), (0, u "(II)V"), (13, u "MAX_LENGTH"), (196, .class_ 628), (0, u "java/lang/StringUTF16$CodePointsSpliterator"), (0, .class_ 630), (0, u "java/lang/StringUTF16$CharsSpliterator")] 4

def k8m0 : Method := { name := "<init>", desc := "()V", sig := { parameters := [], returnType := none }, accessFlags := 0, code := none }
def k8c1 : Code := { maxStack := 1, maxLocals := 1, code := jdk_52_method_2_code, exceptionTable := #[], attributes := #[] }
def k8m1 : Method := { name := "newBytesFor", desc := "(I)[B", sig := { parameters := [.int], returnType := some (.array .byte) }, accessFlags := 9, code := some k8c1 }
def k8c2 : Code := { maxStack := 4, maxLocals := 1, code := jdk_52_method_3_code, exceptionTable := #[], attributes := #[] }
def k8m2 : Method := { name := "newBytesLength", desc := "(I)I", sig := { parameters := [.int], returnType := some .int }, accessFlags := 9, code := some k8c2 }
def k8c3 : Code := { maxStack := 4, maxLocals := 3, code := jdk_52_method_4_code, exceptionTable := #[], attributes := #[] }
def k8m3 : Method := { name := "putChar", desc := "([BII)V", sig := { parameters := [(.array .byte), .int, .int], returnType := none }, accessFlags := 8, code := some k8c3 }
def k8c4 : Code := { maxStack := 3, maxLocals := 2, code := jdk_52_method_5_code, exceptionTable := #[], attributes := #[] }
def k8m4 : Method := { name := "getChar", desc := "([BI)C", sig := { parameters := [(.array .byte), .int], returnType := some .char }, accessFlags := 8, code := some k8c4 }
def k8c5 : Code := { maxStack := 2, maxLocals := 1, code := jdk_52_method_6_code, exceptionTable := #[], attributes := #[] }
def k8m5 : Method := { name := "length", desc := "([B)I", sig := { parameters := [(.array .byte)], returnType := some .int }, accessFlags := 9, code := some k8c5 }
def k8c6 : Code := { maxStack := 4, maxLocals := 5, code := jdk_52_method_14_code, exceptionTable := #[], attributes := #[] }
def k8m6 : Method := { name := "toBytes", desc := "([CII)[B", sig := { parameters := [(.array .char), .int, .int], returnType := some (.array .byte) }, accessFlags := 9, code := some k8c6 }
def k8c7 : Code := { maxStack := 2, maxLocals := 2, code := jdk_52_method_15_code, exceptionTable := #[], attributes := #[] }
def k8m7 : Method := { name := "coderFromArrayLen", desc := "([BI)B", sig := { parameters := [(.array .byte), .int], returnType := some .byte }, accessFlags := 8, code := some k8c7 }
def k8c8 : Code := { maxStack := 5, maxLocals := 6, code := jdk_52_method_16_code, exceptionTable := #[], attributes := #[] }
def k8m8 : Method := { name := "compress", desc := "([CII)[B", sig := { parameters := [(.array .char), .int, .int], returnType := some (.array .byte) }, accessFlags := 9, code := some k8c8 }
def k8c9 : Code := { maxStack := 3, maxLocals := 7, code := jdk_52_method_21_code, exceptionTable := #[], attributes := #[] }
def k8m9 : Method := { name := "compress", desc := "([CI[BII)I", sig := { parameters := [(.array .char), .int, (.array .byte), .int, .int], returnType := some .int }, accessFlags := 9, code := some k8c9 }
def k8c10 : Code := { maxStack := 2, maxLocals := 2, code := jdk_52_method_83_code, exceptionTable := #[], attributes := #[] }
def k8m10 : Method := { name := "charAt", desc := "([BI)C", sig := { parameters := [(.array .byte), .int], returnType := some .char }, accessFlags := 9, code := some k8c10 }
def k8c11 : Code := { maxStack := 2, maxLocals := 2, code := jdk_52_method_91_code, exceptionTable := #[], attributes := #[] }
def k8m11 : Method := { name := "checkIndex", desc := "(I[B)V", sig := { parameters := [.int, (.array .byte)], returnType := none }, accessFlags := 9, code := some k8c11 }
/-- java/lang/StringUTF16 -/
def k8 : Class := { plain "java/lang/StringUTF16" (some 0) with
  accessFlags := 48
  interfaces := #[]
  cf := some (fileOf pool8 12 #[.nestMembers #[627, 629, 369]] #[{ accessFlags := 0, nameIndex := 9, descriptorIndex := 10, attributes := #[] }, { accessFlags := 9, nameIndex := 109, descriptorIndex := 110, attributes := #[] }, { accessFlags := 9, nameIndex := 15, descriptorIndex := 16, attributes := #[] }, { accessFlags := 8, nameIndex := 113, descriptorIndex := 114, attributes := #[] }, { accessFlags := 8, nameIndex := 73, descriptorIndex := 74, attributes := #[] }, { accessFlags := 9, nameIndex := 50, descriptorIndex := 51, attributes := #[] }, { accessFlags := 9, nameIndex := 121, descriptorIndex := 122, attributes := #[] }, { accessFlags := 8, nameIndex := 261, descriptorIndex := 262, attributes := #[] }, { accessFlags := 9, nameIndex := 117, descriptorIndex := 122, attributes := #[] }, { accessFlags := 9, nameIndex := 117, descriptorIndex := 118, attributes := #[] }, { accessFlags := 9, nameIndex := 392, descriptorIndex := 74, attributes := #[] }, { accessFlags := 9, nameIndex := 69, descriptorIndex := 70, attributes := #[] }] 48 6 #[] #[{ accessFlags := 26, nameIndex := 61, descriptorIndex := 62, attributes := #[] }, { accessFlags := 26, nameIndex := 65, descriptorIndex := 62, attributes := #[] }, { accessFlags := 24, nameIndex := 430, descriptorIndex := 62, attributes := #[] }, { accessFlags := 4120, nameIndex := 46, descriptorIndex := 47, attributes := #[] }])
  fields := #[{ name := "HI_BYTE_SHIFT", type := .int, accessFlags := 26, slot := 0, constantValue := 0 }, { name := "LO_BYTE_SHIFT", type := .int, accessFlags := 26, slot := 1, constantValue := 0 }, { name := "MAX_LENGTH", type := .int, accessFlags := 24, slot := 2, constantValue := 0 }, { name := "$assertionsDisabled", type := .boolean, accessFlags := 4120, slot := 3, constantValue := 0 }]
  methods := #[k8m0, k8m1, k8m2, k8m3, k8m4, k8m5, k8m6, k8m7, k8m8, k8m9, k8m10, k8m11]
  instanceTypes := #[]
  staticTypes := #[.int, .int, .int, .boolean]
  resolved := Array.replicate 635 none
  statics := some 1 }

def pool9 : Array CpInfo := pool [(1, .class_ 2), (0, u "com/example/vestwright/vestwright/Values"), (1, .class_ 6), (1, u "java/lang/Object"), (0, u "<init>"), (0, u "()V"), (0, .methodref 10 11), (0, .class_ 12), (0, .nameAndType 13 14), (0, u "java/lang/String"), (0, u "length"), (0, u "()I"), (0, .methodref 10 16), (0, .nameAndType 17 18), (0, u "charAt"), (0, u "(I)C"), (0, .methodref 1 20), (0, .nameAndType 21 22), (0, u "digits"), (0, u "(Ljava/lang/String;II)Z"), (0, .methodref 1 24), (0, .nameAndType 25 26), (0, u "number"), (0, u "(Ljava/lang/String;II)I"), (4, u "of"), (14, .methodref 47 48), (0, .class_ 49), (0, .nameAndType 31 50), (0, u "java/time/YearMonth"), (0, u "(II)Ljava/time/YearMonth;"), (82, u "DATE_FORM"), (0, u "Ljava/lang/String;"), (3, u "YEAR_FORM"), (2, u "MONTH_FORM"), (2, u "MONTH_DAY_FORM"), (2, u "CODE_FORM"), (2, u "YEAR_LENGTH"), (0, u "I"), (1, u "MONTH_LENGTH"), (1, u "DATE_LENGTH"), (1, u "MONTH_DAY_LENGTH"), (1, u "MONTH_DAY_DASH"), (1, u "FIRST_DASH"), (0, u "SECOND_DASH"), (0, u "MONTHS_IN_A_YEAR"), (1, u "MOST_LONG_DIGITS"), (8, u "month"), (0, u "(Ljava/lang/String;)Ljava/time/YearMonth;")] 43

def k9m0 : Method := { name := "<init>", desc := "()V", sig := { parameters := [], returnType := none }, accessFlags := 2, code := none }
def k9c1 : Code := { maxStack := 3, maxLocals := 2, code := prog_6_method_4_code, exceptionTable := #[], attributes := #[] }
def k9m1 : Method := { name := "month", desc := "(Ljava/lang/String;)Ljava/time/YearMonth;", sig := { parameters := [(.object "java/lang/String")], returnType := some (.object "java/time/YearMonth") }, accessFlags := 9, code := some k9c1 }
def k9c2 : Code := { maxStack := 3, maxLocals := 5, code := prog_6_method_12_code, exceptionTable := #[], attributes := #[] }
def k9m2 : Method := { name := "number", desc := "(Ljava/lang/String;II)I", sig := { parameters := [(.object "java/lang/String"), .int, .int], returnType := some .int }, accessFlags := 10, code := some k9c2 }
def k9c3 : Code := { maxStack := 2, maxLocals := 5, code := prog_6_method_13_code, exceptionTable := #[], attributes := #[] }
def k9m3 : Method := { name := "digits", desc := "(Ljava/lang/String;II)Z", sig := { parameters := [(.object "java/lang/String"), .int, .int], returnType := some .boolean }, accessFlags := 10, code := some k9c3 }
/-- com/example/vestwright/vestwright/Values -/
def k9 : Class := { plain "com/example/vestwright/vestwright/Values" (some 0) with
  accessFlags := 49
  interfaces := #[]
  cf := some (fileOf pool9 1 #[] #[{ accessFlags := 2, nameIndex := 7, descriptorIndex := 8, attributes := #[] }, { accessFlags := 9, nameIndex := 174, descriptorIndex := 175, attributes := #[] }, { accessFlags := 10, nameIndex := 25, descriptorIndex := 26, attributes := #[] }, { accessFlags := 10, nameIndex := 21, descriptorIndex := 22, attributes := #[] }] 49 4 #[] #[{ accessFlags := 25, nameIndex := 133, descriptorIndex := 134, attributes := #[] }, { accessFlags := 25, nameIndex := 138, descriptorIndex := 134, attributes := #[] }, { accessFlags := 25, nameIndex := 141, descriptorIndex := 134, attributes := #[] }, { accessFlags := 25, nameIndex := 144, descriptorIndex := 134, attributes := #[] }, { accessFlags := 25, nameIndex := 147, descriptorIndex := 134, attributes := #[] }, { accessFlags := 26, nameIndex := 150, descriptorIndex := 151, attributes := #[] }, { accessFlags := 26, nameIndex := 153, descriptorIndex := 151, attributes := #[] }, { accessFlags := 26, nameIndex := 155, descriptorIndex := 151, attributes := #[] }, { accessFlags := 26, nameIndex := 157, descriptorIndex := 151, attributes := #[] }, { accessFlags := 26, nameIndex := 159, descriptorIndex := 151, attributes := #[] }, { accessFlags := 26, nameIndex := 161, descriptorIndex := 151, attributes := #[] }, { accessFlags := 26, nameIndex := 162, descriptorIndex := 151, attributes := #[] }, { accessFlags := 26, nameIndex := 163, descriptorIndex := 151, attributes := #[] }, { accessFlags := 26, nameIndex := 165, descriptorIndex := 151, attributes := #[] }])
  fields := #[{ name := "DATE_FORM", type := (.object "java/lang/String"), accessFlags := 25, slot := 0, constantValue := 0 }, { name := "YEAR_FORM", type := (.object "java/lang/String"), accessFlags := 25, slot := 1, constantValue := 0 }, { name := "MONTH_FORM", type := (.object "java/lang/String"), accessFlags := 25, slot := 2, constantValue := 0 }, { name := "MONTH_DAY_FORM", type := (.object "java/lang/String"), accessFlags := 25, slot := 3, constantValue := 0 }, { name := "CODE_FORM", type := (.object "java/lang/String"), accessFlags := 25, slot := 4, constantValue := 0 }, { name := "YEAR_LENGTH", type := .int, accessFlags := 26, slot := 5, constantValue := 0 }, { name := "MONTH_LENGTH", type := .int, accessFlags := 26, slot := 6, constantValue := 0 }, { name := "DATE_LENGTH", type := .int, accessFlags := 26, slot := 7, constantValue := 0 }, { name := "MONTH_DAY_LENGTH", type := .int, accessFlags := 26, slot := 8, constantValue := 0 }, { name := "MONTH_DAY_DASH", type := .int, accessFlags := 26, slot := 9, constantValue := 0 }, { name := "FIRST_DASH", type := .int, accessFlags := 26, slot := 10, constantValue := 0 }, { name := "SECOND_DASH", type := .int, accessFlags := 26, slot := 11, constantValue := 0 }, { name := "MONTHS_IN_A_YEAR", type := .int, accessFlags := 26, slot := 12, constantValue := 0 }, { name := "MOST_LONG_DIGITS", type := .int, accessFlags := 26, slot := 13, constantValue := 0 }]
  methods := #[k9m0, k9m1, k9m2, k9m3]
  instanceTypes := #[]
  staticTypes := #[(.object "java/lang/String"), (.object "java/lang/String"), (.object "java/lang/String"), (.object "java/lang/String"), (.object "java/lang/String"), .int, .int, .int, .int, .int, .int, .int, .int, .int]
  resolved := Array.replicate 219 none
  statics := none }

def pool10 : Array CpInfo := pool [(2, .class_ 4), (1, u "java/lang/Object"), (0, u "<init>"), (0, u "()V"), (17, .class_ 26), (1, u "jdk/internal/util/Preconditions"), (6, u "checkIndex"), (21, .class_ 56), (0, u "jdk/internal/util/Preconditions$4"), (57, .class_ 115), (0, u "jdk/internal/util/Preconditions$1"), (7, u "SIOOBE_FORMATTER"), (0, u "Ljava/util/function/BiFunction;"), (0, .class_ 126), (0, u "jdk/internal/util/Preconditions$2"), (3, u "AIOOBE_FORMATTER"), (0, .class_ 132), (0, u "jdk/internal/util/Preconditions$3"), (3, u "IOOBE_FORMATTER"), (41, u "(IILjava/util/function/BiFunction;)I")] 15

def k10m0 : Method := { name := "<init>", desc := "()V", sig := { parameters := [], returnType := none }, accessFlags := 1, code := none }
def k10c1 : Code := { maxStack := 3, maxLocals := 3, code := jdk_41_method_11_code, exceptionTable := #[], attributes := #[] }
def k10m1 : Method := { name := "checkIndex", desc := "(IILjava/util/function/BiFunction;)I", sig := { parameters := [.int, .int, (.object "java/util/function/BiFunction")], returnType := some .int }, accessFlags := 9, code := some k10c1 }
/-- jdk/internal/util/Preconditions -/
def k10 : Class := { plain "jdk/internal/util/Preconditions" (some 0) with
  accessFlags := 33
  interfaces := #[]
  cf := some (fileOf pool10 24 #[.nestMembers #[55, 131, 125, 114]] #[{ accessFlags := 1, nameIndex := 5, descriptorIndex := 6, attributes := #[] }, { accessFlags := 9, nameIndex := 33, descriptorIndex := 178, attributes := #[] }] 33 2 #[] #[{ accessFlags := 25, nameIndex := 123, descriptorIndex := 124, attributes := #[] }, { accessFlags := 25, nameIndex := 130, descriptorIndex := 124, attributes := #[] }, { accessFlags := 25, nameIndex := 136, descriptorIndex := 124, attributes := #[] }])
  fields := #[{ name := "SIOOBE_FORMATTER", type := (.object "java/util/function/BiFunction"), accessFlags := 25, slot := 0, constantValue := 0 }, { name := "AIOOBE_FORMATTER", type := (.object "java/util/function/BiFunction"), accessFlags := 25, slot := 1, constantValue := 0 }, { name := "IOOBE_FORMATTER", type := (.object "java/util/function/BiFunction"), accessFlags := 25, slot := 2, constantValue := 0 }]
  methods := #[k10m0, k10m1]
  instanceTypes := #[]
  staticTypes := #[(.object "java/util/function/BiFunction"), (.object "java/util/function/BiFunction"), (.object "java/util/function/BiFunction")]
  resolved := Array.replicate 194 none
  statics := some 2 }

def pool11 : Array CpInfo := pool [(1, .class_ 2), (0, u "java/lang/String"), (1, .class_ 6), (1, u "java/lang/Object"), (0, u "<init>"), (0, u "()V"), (0, .methodref 1 10), (0, .nameAndType 11 12), (0, u "checkIndex"), (0, u "(II)V"), (1, .class_ 16), (1, u "java/lang/StringLatin1"), (36, u "([BI)C"), (67, u "$assertionsDisabled"), (0, u "Z"), (98, .class_ 223), (1, u "java/lang/StringLatin1$LinesSpliterator"), (28, u "charAt"), (137, .class_ 391), (0, u "java/lang/StringLatin1$CharsSpliterator")] 3

def k11m0 : Method := { name := "<init>", desc := "()V", sig := { parameters := [], returnType := none }, accessFlags := 0, code := none }
def k11c1 : Code := { maxStack := 2, maxLocals := 2, code := jdk_43_method_2_code, exceptionTable := #[], attributes := #[] }
def k11m1 : Method := { name := "charAt", desc := "([BI)C", sig := { parameters := [(.array .byte), .int], returnType := some .char }, accessFlags := 9, code := some k11c1 }
/-- java/lang/StringLatin1 -/
def k11 : Class := { plain "java/lang/StringLatin1" (some 0) with
  accessFlags := 48
  interfaces := #[]
  cf := some (fileOf pool11 14 #[.nestMembers #[390, 221]] #[{ accessFlags := 0, nameIndex := 7, descriptorIndex := 8, attributes := #[] }, { accessFlags := 9, nameIndex := 252, descriptorIndex := 53, attributes := #[] }] 48 4 #[] #[{ accessFlags := 4120, nameIndex := 121, descriptorIndex := 122, attributes := #[] }])
  fields := #[{ name := "$assertionsDisabled", type := .boolean, accessFlags := 4120, slot := 0, constantValue := 0 }]
  methods := #[k11m0, k11m1]
  instanceTypes := #[]
  staticTypes := #[.boolean]
  resolved := Array.replicate 395 none
  statics := none }

def pool12 : Array CpInfo := pool [(4, .class_ 6), (1, u "java/time/temporal/TemporalAccessor"), (95, .class_ 103), (0, u "java/lang/Object")] 21

/-- java/time/temporal/TemporalAccessor -/
def k12 : Class := { plain "java/time/temporal/TemporalAccessor" (some 0) with
  accessFlags := 1537
  interfaces := #[]
  cf := some (fileOf pool12 4 #[] #[] 1537 102 #[] #[])
  fields := #[]
  methods := #[]
  instanceTypes := #[]
  staticTypes := #[]
  resolved := Array.replicate 125 none
  statics := none }

def pool13 : Array CpInfo := pool [(22, .class_ 24), (1, u "java/time/temporal/Temporal"), (2, .class_ 28), (0, u "java/lang/Object"), (0, .class_ 30), (0, u "java/time/temporal/TemporalAccessor")] 25

/-- java/time/temporal/Temporal -/
def k13 : Class := { plain "java/time/temporal/Temporal" (some 0) with
  accessFlags := 1537
  interfaces := #[12]
  cf := some (fileOf pool13 22 #[] #[] 1537 27 #[29] #[])
  fields := #[]
  methods := #[]
  instanceTypes := #[]
  staticTypes := #[]
  resolved := Array.replicate 56 none
  statics := none }

def pool14 : Array CpInfo := pool [(1, .class_ 2), (0, u "java/time/temporal/TemporalAdjuster"), (0, .class_ 4), (0, u "java/lang/Object")] 6

/-- java/time/temporal/TemporalAdjuster -/
def k14 : Class := { plain "java/time/temporal/TemporalAdjuster" (some 0) with
  accessFlags := 1537
  interfaces := #[]
  cf := some (fileOf pool14 1 #[] #[] 1537 3 #[] #[])
  fields := #[]
  methods := #[]
  instanceTypes := #[]
  staticTypes := #[]
  resolved := Array.replicate 11 none
  statics := none }

def pool15 : Array CpInfo := pool [(8, .class_ 10), (1, u "java/time/YearMonth"), (13, u "getYear"), (0, u "()I"), (6, u "of"), (2, u "month"), (13, u "(II)Ljava/time/YearMonth;"), (0, .fieldref 51 52), (0, .class_ 53), (0, .nameAndType 54 55), (0, u "java/time/temporal/ChronoField"), (0, u "YEAR"), (0, u "Ljava/time/temporal/ChronoField;"), (0, .methodref 51 57), (0, .nameAndType 58 59), (0, u "checkValidValue"), (0, u "(J)J"), (0, .fieldref 51 61), (0, .nameAndType 62 55), (0, u "MONTH_OF_YEAR"), (0, .methodref 8 64), (0, .nameAndType 65 66), (0, u "<init>"), (0, u "(II)V"), (32, .nameAndType 65 100), (0, u "()V"), (29, u "PARSER"), (0, u "Ljava/time/format/DateTimeFormatter;"), (15, .methodref 148 99), (0, .class_ 149), (0, u "java/lang/Object"), (0, .fieldref 8 151), (0, .nameAndType 152 153), (0, u "year"), (0, u "I"), (0, .fieldref 8 155), (0, .nameAndType 35 153), (54, .class_ 212), (1, u "java/time/temporal/Temporal"), (12, .class_ 227), (1, u "java/time/YearMonth$1"), (41, .class_ 271), (1, u "java/time/temporal/TemporalAdjuster"), (193, .class_ 466), (0, u "java/lang/Comparable"), (0, .class_ 468), (0, u "java/io/Serializable"), (0, u "serialVersionUID"), (0, u "J"), (33, u "getMonthValue")] 96

def k15c0 : Code := { maxStack := 4, maxLocals := 2, code := jdk_2340_method_5_code, exceptionTable := #[], attributes := #[] }
def k15m0 : Method := { name := "of", desc := "(II)Ljava/time/YearMonth;", sig := { parameters := [.int, .int], returnType := some (.object "java/time/YearMonth") }, accessFlags := 9, code := some k15c0 }
def k15c1 : Code := { maxStack := 2, maxLocals := 3, code := jdk_2340_method_9_code, exceptionTable := #[], attributes := #[] }
def k15m1 : Method := { name := "<init>", desc := "(II)V", sig := { parameters := [.int, .int], returnType := none }, accessFlags := 2, code := some k15c1 }
def k15c2 : Code := { maxStack := 1, maxLocals := 1, code := jdk_2340_method_17_code, exceptionTable := #[], attributes := #[] }
def k15m2 : Method := { name := "getYear", desc := "()I", sig := { parameters := [], returnType := some .int }, accessFlags := 1, code := some k15c2 }
def k15c3 : Code := { maxStack := 1, maxLocals := 1, code := jdk_2340_method_18_code, exceptionTable := #[], attributes := #[] }
def k15m3 : Method := { name := "getMonthValue", desc := "()I", sig := { parameters := [], returnType := some .int }, accessFlags := 1, code := some k15c3 }
/-- java/time/YearMonth -/
def k15 : Class := { plain "java/time/YearMonth" (some 0) with
  accessFlags := 49
  interfaces := #[13, 14, 3, 2]
  cf := some (fileOf pool15 8 #[.nestMembers #[225]] #[{ accessFlags := 9, nameIndex := 32, descriptorIndex := 49, attributes := #[] }, { accessFlags := 2, nameIndex := 65, descriptorIndex := 66, attributes := #[] }, { accessFlags := 1, nameIndex := 24, descriptorIndex := 25, attributes := #[] }, { accessFlags := 1, nameIndex := 504, descriptorIndex := 25, attributes := #[] }] 49 148 #[210, 269, 465, 467] #[{ accessFlags := 26, nameIndex := 469, descriptorIndex := 470, attributes := #[] }, { accessFlags := 26, nameIndex := 130, descriptorIndex := 131, attributes := #[] }, { accessFlags := 18, nameIndex := 152, descriptorIndex := 153, attributes := #[] }, { accessFlags := 18, nameIndex := 35, descriptorIndex := 153, attributes := #[] }])
  fields := #[{ name := "serialVersionUID", type := .long, accessFlags := 26, slot := 0, constantValue := 0 }, { name := "PARSER", type := (.object "java/time/format/DateTimeFormatter"), accessFlags := 26, slot := 1, constantValue := 0 }, { name := "year", type := .int, accessFlags := 18, slot := 0, constantValue := 0 }, { name := "month", type := .int, accessFlags := 18, slot := 1, constantValue := 0 }]
  methods := #[k15m0, k15m1, k15m2, k15m3]
  instanceTypes := #[.int, .int]
  staticTypes := #[.long, (.object "java/time/format/DateTimeFormatter")]
  resolved := Array.replicate 601 none
  statics := none }

def pool16 : Array CpInfo := pool [(2, .class_ 4), (1, u "java/lang/Enum"), (0, u "name"), (0, u "Ljava/lang/String;"), (2, u "ordinal"), (0, u "I"), (1, .class_ 14), (1, u "java/lang/Object"), (4, u "hash"), (86, .class_ 108), (1, u "java/lang/Enum$EnumDesc"), (2, .class_ 112), (0, u "java/lang/constant/Constable"), (0, .class_ 114), (0, u "java/lang/Comparable"), (0, .class_ 116), (0, u "java/io/Serializable")] 87

/-- java/lang/Enum -/
def k16 : Class := { plain "java/lang/Enum" (some 0) with
  accessFlags := 1057
  interfaces := #[5, 3, 2]
  cf := some (fileOf pool16 2 #[.nestMembers #[106]] #[] 1057 12 #[111, 113, 115] #[{ accessFlags := 18, nameIndex := 5, descriptorIndex := 6, attributes := #[] }, { accessFlags := 18, nameIndex := 9, descriptorIndex := 10, attributes := #[] }, { accessFlags := 2, nameIndex := 19, descriptorIndex := 10, attributes := #[] }])
  fields := #[{ name := "name", type := (.object "java/lang/String"), accessFlags := 18, slot := 0, constantValue := 0 }, { name := "ordinal", type := .int, accessFlags := 18, slot := 1, constantValue := 0 }, { name := "hash", type := .int, accessFlags := 2, slot := 2, constantValue := 0 }]
  methods := #[]
  instanceTypes := #[(.object "java/lang/String"), .int, .int]
  staticTypes := #[]
  resolved := Array.replicate 204 none
  statics := none }

def pool17 : Array CpInfo := pool [(10, .class_ 12), (1, u "java/time/temporal/TemporalField"), (2, .class_ 16), (0, u "java/lang/Object")] 39

/-- java/time/temporal/TemporalField -/
def k17 : Class := { plain "java/time/temporal/TemporalField" (some 0) with
  accessFlags := 1537
  interfaces := #[]
  cf := some (fileOf pool17 10 #[] #[] 1537 15 #[] #[])
  fields := #[]
  methods := #[]
  instanceTypes := #[]
  staticTypes := #[]
  resolved := Array.replicate 56 none
  statics := none }

def pool18 : Array CpInfo := pool [(1, .class_ 2), (0, u "java/time/temporal/ChronoField"), (2, u "NANO_OF_SECOND"), (0, u "Ljava/time/temporal/ChronoField;"), (2, u "NANO_OF_DAY"), (2, u "MICRO_OF_SECOND"), (2, u "MICRO_OF_DAY"), (2, u "MILLI_OF_SECOND"), (2, u "MILLI_OF_DAY"), (2, u "SECOND_OF_MINUTE"), (2, u "SECOND_OF_DAY"), (2, u "MINUTE_OF_HOUR"), (2, u "MINUTE_OF_DAY"), (2, u "HOUR_OF_AMPM"), (2, u "CLOCK_HOUR_OF_AMPM"), (2, u "HOUR_OF_DAY"), (2, u "CLOCK_HOUR_OF_DAY"), (2, u "AMPM_OF_DAY"), (2, u "DAY_OF_WEEK"), (2, u "ALIGNED_DAY_OF_WEEK_IN_MONTH"), (2, u "ALIGNED_DAY_OF_WEEK_IN_YEAR"), (2, u "DAY_OF_MONTH"), (2, u "DAY_OF_YEAR"), (2, u "EPOCH_DAY"), (2, u "ALIGNED_WEEK_OF_MONTH"), (2, u "ALIGNED_WEEK_OF_YEAR"), (2, u "MONTH_OF_YEAR"), (2, u "PROLEPTIC_MONTH"), (2, u "YEAR_OF_ERA"), (2, u "YEAR"), (2, u "ERA"), (2, u "INSTANT_SECONDS"), (2, u "OFFSET_SECONDS"), (2, u "$VALUES"), (0, u "[Ljava/time/temporal/ChronoField;"), (6, .class_ 106), (1, u "java/lang/Enum"), (8, u "name"), (0, u "Ljava/lang/String;"), (2, u "baseUnit"), (0, u "Ljava/time/temporal/TemporalUnit;"), (2, u "rangeUnit"), (0, .fieldref 1 125), (0, .nameAndType 126 127), (0, u "range"), (0, u "Ljava/time/temporal/ValueRange;"), (2, u "displayNameKey"), (59, .methodref 1 191), (0, .nameAndType 126 192), (0, u "()Ljava/time/temporal/ValueRange;"), (0, .methodref 194 195), (0, .class_ 196), (0, .nameAndType 197 198), (0, u "java/time/temporal/ValueRange"), (0, u "checkValidValue"), (0, u "(JLjava/time/temporal/TemporalField;)J"), (256, .class_ 456), (0, u "java/time/temporal/TemporalField"), (27, u "(J)J")] 22

def k18c0 : Code := { maxStack := 1, maxLocals := 1, code := jdk_2395_method_8_code, exceptionTable := #[], attributes := #[] }
def k18m0 : Method := { name := "range", desc := "()Ljava/time/temporal/ValueRange;", sig := { parameters := [], returnType := some (.object "java/time/temporal/ValueRange") }, accessFlags := 1, code := some k18c0 }
def k18c1 : Code := { maxStack := 4, maxLocals := 3, code := jdk_2395_method_11_code, exceptionTable := #[], attributes := #[] }
def k18m1 : Method := { name := "checkValidValue", desc := "(J)J", sig := { parameters := [.long], returnType := some .long }, accessFlags := 1, code := some k18c1 }
/-- java/time/temporal/ChronoField -/
def k18 : Class := { plain "java/time/temporal/ChronoField" (some 16) with
  accessFlags := 16433
  interfaces := #[17]
  cf := some (fileOf pool18 1 #[] #[{ accessFlags := 1, nameIndex := 126, descriptorIndex := 192, attributes := #[] }, { accessFlags := 1, nameIndex := 197, descriptorIndex := 484, attributes := #[] }] 16433 104 #[455] #[{ accessFlags := 16409, nameIndex := 5, descriptorIndex := 6, attributes := #[] }, { accessFlags := 16409, nameIndex := 9, descriptorIndex := 6, attributes := #[] }, { accessFlags := 16409, nameIndex := 12, descriptorIndex := 6, attributes := #[] }, { accessFlags := 16409, nameIndex := 15, descriptorIndex := 6, attributes := #[] }, { accessFlags := 16409, nameIndex := 18, descriptorIndex := 6, attributes := #[] }, { accessFlags := 16409, nameIndex := 21, descriptorIndex := 6, attributes := #[] }, { accessFlags := 16409, nameIndex := 24, descriptorIndex := 6, attributes := #[] }, { accessFlags := 16409, nameIndex := 27, descriptorIndex := 6, attributes := #[] }, { accessFlags := 16409, nameIndex := 30, descriptorIndex := 6, attributes := #[] }, { accessFlags := 16409, nameIndex := 33, descriptorIndex := 6, attributes := #[] }, { accessFlags := 16409, nameIndex := 36, descriptorIndex := 6, attributes := #[] }, { accessFlags := 16409, nameIndex := 39, descriptorIndex := 6, attributes := #[] }, { accessFlags := 16409, nameIndex := 42, descriptorIndex := 6, attributes := #[] }, { accessFlags := 16409, nameIndex := 45, descriptorIndex := 6, attributes := #[] }, { accessFlags := 16409, nameIndex := 48, descriptorIndex := 6, attributes := #[] }, { accessFlags := 16409, nameIndex := 51, descriptorIndex := 6, attributes := #[] }, { accessFlags := 16409, nameIndex := 54, descriptorIndex := 6, attributes := #[] }, { accessFlags := 16409, nameIndex := 57, descriptorIndex := 6, attributes := #[] }, { accessFlags := 16409, nameIndex := 60, descriptorIndex := 6, attributes := #[] }, { accessFlags := 16409, nameIndex := 63, descriptorIndex := 6, attributes := #[] }, { accessFlags := 16409, nameIndex := 66, descriptorIndex := 6, attributes := #[] }, { accessFlags := 16409, nameIndex := 69, descriptorIndex := 6, attributes := #[] }, { accessFlags := 16409, nameIndex := 72, descriptorIndex := 6, attributes := #[] }, { accessFlags := 16409, nameIndex := 75, descriptorIndex := 6, attributes := #[] }, { accessFlags := 16409, nameIndex := 78, descriptorIndex := 6, attributes := #[] }, { accessFlags := 16409, nameIndex := 81, descriptorIndex := 6, attributes := #[] }, { accessFlags := 16409, nameIndex := 84, descriptorIndex := 6, attributes := #[] }, { accessFlags := 16409, nameIndex := 87, descriptorIndex := 6, attributes := #[] }, { accessFlags := 16409, nameIndex := 90, descriptorIndex := 6, attributes := #[] }, { accessFlags := 16409, nameIndex := 93, descriptorIndex := 6, attributes := #[] }, { accessFlags := 18, nameIndex := 115, descriptorIndex := 116, attributes := #[] }, { accessFlags := 18, nameIndex := 119, descriptorIndex := 120, attributes := #[] }, { accessFlags := 18, nameIndex := 123, descriptorIndex := 120, attributes := #[] }, { accessFlags := 18, nameIndex := 126, descriptorIndex := 127, attributes := #[] }, { accessFlags := 18, nameIndex := 130, descriptorIndex := 116, attributes := #[] }, { accessFlags := 4122, nameIndex := 96, descriptorIndex := 97, attributes := #[] }])
  fields := #[{ name := "NANO_OF_SECOND", type := (.object "java/time/temporal/ChronoField"), accessFlags := 16409, slot := 0, constantValue := 0 }, { name := "NANO_OF_DAY", type := (.object "java/time/temporal/ChronoField"), accessFlags := 16409, slot := 1, constantValue := 0 }, { name := "MICRO_OF_SECOND", type := (.object "java/time/temporal/ChronoField"), accessFlags := 16409, slot := 2, constantValue := 0 }, { name := "MICRO_OF_DAY", type := (.object "java/time/temporal/ChronoField"), accessFlags := 16409, slot := 3, constantValue := 0 }, { name := "MILLI_OF_SECOND", type := (.object "java/time/temporal/ChronoField"), accessFlags := 16409, slot := 4, constantValue := 0 }, { name := "MILLI_OF_DAY", type := (.object "java/time/temporal/ChronoField"), accessFlags := 16409, slot := 5, constantValue := 0 }, { name := "SECOND_OF_MINUTE", type := (.object "java/time/temporal/ChronoField"), accessFlags := 16409, slot := 6, constantValue := 0 }, { name := "SECOND_OF_DAY", type := (.object "java/time/temporal/ChronoField"), accessFlags := 16409, slot := 7, constantValue := 0 }, { name := "MINUTE_OF_HOUR", type := (.object "java/time/temporal/ChronoField"), accessFlags := 16409, slot := 8, constantValue := 0 }, { name := "MINUTE_OF_DAY", type := (.object "java/time/temporal/ChronoField"), accessFlags := 16409, slot := 9, constantValue := 0 }, { name := "HOUR_OF_AMPM", type := (.object "java/time/temporal/ChronoField"), accessFlags := 16409, slot := 10, constantValue := 0 }, { name := "CLOCK_HOUR_OF_AMPM", type := (.object "java/time/temporal/ChronoField"), accessFlags := 16409, slot := 11, constantValue := 0 }, { name := "HOUR_OF_DAY", type := (.object "java/time/temporal/ChronoField"), accessFlags := 16409, slot := 12, constantValue := 0 }, { name := "CLOCK_HOUR_OF_DAY", type := (.object "java/time/temporal/ChronoField"), accessFlags := 16409, slot := 13, constantValue := 0 }, { name := "AMPM_OF_DAY", type := (.object "java/time/temporal/ChronoField"), accessFlags := 16409, slot := 14, constantValue := 0 }, { name := "DAY_OF_WEEK", type := (.object "java/time/temporal/ChronoField"), accessFlags := 16409, slot := 15, constantValue := 0 }, { name := "ALIGNED_DAY_OF_WEEK_IN_MONTH", type := (.object "java/time/temporal/ChronoField"), accessFlags := 16409, slot := 16, constantValue := 0 }, { name := "ALIGNED_DAY_OF_WEEK_IN_YEAR", type := (.object "java/time/temporal/ChronoField"), accessFlags := 16409, slot := 17, constantValue := 0 }, { name := "DAY_OF_MONTH", type := (.object "java/time/temporal/ChronoField"), accessFlags := 16409, slot := 18, constantValue := 0 }, { name := "DAY_OF_YEAR", type := (.object "java/time/temporal/ChronoField"), accessFlags := 16409, slot := 19, constantValue := 0 }, { name := "EPOCH_DAY", type := (.object "java/time/temporal/ChronoField"), accessFlags := 16409, slot := 20, constantValue := 0 }, { name := "ALIGNED_WEEK_OF_MONTH", type := (.object "java/time/temporal/ChronoField"), accessFlags := 16409, slot := 21, constantValue := 0 }, { name := "ALIGNED_WEEK_OF_YEAR", type := (.object "java/time/temporal/ChronoField"), accessFlags := 16409, slot := 22, constantValue := 0 }, { name := "MONTH_OF_YEAR", type := (.object "java/time/temporal/ChronoField"), accessFlags := 16409, slot := 23, constantValue := 0 }, { name := "PROLEPTIC_MONTH", type := (.object "java/time/temporal/ChronoField"), accessFlags := 16409, slot := 24, constantValue := 0 }, { name := "YEAR_OF_ERA", type := (.object "java/time/temporal/ChronoField"), accessFlags := 16409, slot := 25, constantValue := 0 }, { name := "YEAR", type := (.object "java/time/temporal/ChronoField"), accessFlags := 16409, slot := 26, constantValue := 0 }, { name := "ERA", type := (.object "java/time/temporal/ChronoField"), accessFlags := 16409, slot := 27, constantValue := 0 }, { name := "INSTANT_SECONDS", type := (.object "java/time/temporal/ChronoField"), accessFlags := 16409, slot := 28, constantValue := 0 }, { name := "OFFSET_SECONDS", type := (.object "java/time/temporal/ChronoField"), accessFlags := 16409, slot := 29, constantValue := 0 }, { name := "name", type := (.object "java/lang/String"), accessFlags := 18, slot := 3, constantValue := 0 }, { name := "baseUnit", type := (.object "java/time/temporal/TemporalUnit"), accessFlags := 18, slot := 4, constantValue := 0 }, { name := "rangeUnit", type := (.object "java/time/temporal/TemporalUnit"), accessFlags := 18, slot := 5, constantValue := 0 }, { name := "range", type := (.object "java/time/temporal/ValueRange"), accessFlags := 18, slot := 6, constantValue := 0 }, { name := "displayNameKey", type := (.object "java/lang/String"), accessFlags := 18, slot := 7, constantValue := 0 }, { name := "$VALUES", type := (.array (.object "java/time/temporal/ChronoField")), accessFlags := 4122, slot := 30, constantValue := 0 }]
  methods := #[k18m0, k18m1]
  instanceTypes := #[(.object "java/lang/String"), .int, .int, (.object "java/lang/String"), (.object "java/time/temporal/TemporalUnit"), (.object "java/time/temporal/TemporalUnit"), (.object "java/time/temporal/ValueRange"), (.object "java/lang/String")]
  staticTypes := #[(.object "java/time/temporal/ChronoField"), (.object "java/time/temporal/ChronoField"), (.object "java/time/temporal/ChronoField"), (.object "java/time/temporal/ChronoField"), (.object "java/time/temporal/ChronoField"), (.object "java/time/temporal/ChronoField"), (.object "java/time/temporal/ChronoField"), (.object "java/time/temporal/ChronoField"), (.object "java/time/temporal/ChronoField"), (.object "java/time/temporal/ChronoField"), (.object "java/time/temporal/ChronoField"), (.object "java/time/temporal/ChronoField"), (.object "java/time/temporal/ChronoField"), (.object "java/time/temporal/ChronoField"), (.object "java/time/temporal/ChronoField"), (.object "java/time/temporal/ChronoField"), (.object "java/time/temporal/ChronoField"), (.object "java/time/temporal/ChronoField"), (.object "java/time/temporal/ChronoField"), (.object "java/time/temporal/ChronoField"), (.object "java/time/temporal/ChronoField"), (.object "java/time/temporal/ChronoField"), (.object "java/time/temporal/ChronoField"), (.object "java/time/temporal/ChronoField"), (.object "java/time/temporal/ChronoField"), (.object "java/time/temporal/ChronoField"), (.object "java/time/temporal/ChronoField"), (.object "java/time/temporal/ChronoField"), (.object "java/time/temporal/ChronoField"), (.object "java/time/temporal/ChronoField"), (.array (.object "java/time/temporal/ChronoField"))]
  resolved := Array.replicate 507 none
  statics := some 3 }

def pool19 : Array CpInfo := pool [(9, .class_ 10), (0, u "java/time/temporal/ValueRange"), (18, .class_ 31), (1, u "java/lang/Object"), (1, .fieldref 9 34), (0, .nameAndType 35 36), (0, u "minSmallest"), (0, u "J"), (2, u "minLargest"), (2, u "maxSmallest"), (0, .fieldref 9 44), (0, .nameAndType 45 36), (0, u "maxLargest"), (0, .methodref 9 47), (0, .nameAndType 48 49), (0, u "getMinimum"), (0, u "()J"), (4, .methodref 9 55), (0, .nameAndType 56 49), (0, u "getMaximum"), (6, .methodref 9 64), (0, .nameAndType 65 66), (0, u "isValidValue"), (0, u "(J)Z"), (54, .class_ 122), (0, u "java/io/Serializable"), (0, u "serialVersionUID"), (17, u "checkValidValue"), (0, u "(JLjava/time/temporal/TemporalField;)J")] 24

def k19c0 : Code := { maxStack := 2, maxLocals := 1, code := jdk_2423_method_6_code, exceptionTable := #[], attributes := #[] }
def k19m0 : Method := { name := "getMinimum", desc := "()J", sig := { parameters := [], returnType := some .long }, accessFlags := 1, code := some k19c0 }
def k19c1 : Code := { maxStack := 2, maxLocals := 1, code := jdk_2423_method_9_code, exceptionTable := #[], attributes := #[] }
def k19m1 : Method := { name := "getMaximum", desc := "()J", sig := { parameters := [], returnType := some .long }, accessFlags := 1, code := some k19c1 }
def k19c2 : Code := { maxStack := 4, maxLocals := 3, code := jdk_2423_method_11_code, exceptionTable := #[], attributes := #[] }
def k19m2 : Method := { name := "isValidValue", desc := "(J)Z", sig := { parameters := [.long], returnType := some .boolean }, accessFlags := 1, code := some k19c2 }
def k19c3 : Code := { maxStack := 6, maxLocals := 4, code := jdk_2423_method_13_code, exceptionTable := #[], attributes := #[] }
def k19m3 : Method := { name := "checkValidValue", desc := "(JLjava/time/temporal/TemporalField;)J", sig := { parameters := [.long, (.object "java/time/temporal/TemporalField")], returnType := some .long }, accessFlags := 1, code := some k19c3 }
/-- java/time/temporal/ValueRange -/
def k19 : Class := { plain "java/time/temporal/ValueRange" (some 0) with
  accessFlags := 49
  interfaces := #[2]
  cf := some (fileOf pool19 9 #[] #[{ accessFlags := 1, nameIndex := 48, descriptorIndex := 49, attributes := #[] }, { accessFlags := 1, nameIndex := 56, descriptorIndex := 49, attributes := #[] }, { accessFlags := 1, nameIndex := 65, descriptorIndex := 66, attributes := #[] }, { accessFlags := 1, nameIndex := 141, descriptorIndex := 142, attributes := #[] }] 49 29 #[121] #[{ accessFlags := 26, nameIndex := 123, descriptorIndex := 36, attributes := #[] }, { accessFlags := 18, nameIndex := 35, descriptorIndex := 36, attributes := #[] }, { accessFlags := 18, nameIndex := 39, descriptorIndex := 36, attributes := #[] }, { accessFlags := 18, nameIndex := 42, descriptorIndex := 36, attributes := #[] }, { accessFlags := 18, nameIndex := 45, descriptorIndex := 36, attributes := #[] }])
  fields := #[{ name := "serialVersionUID", type := .long, accessFlags := 26, slot := 0, constantValue := 0 }, { name := "minSmallest", type := .long, accessFlags := 18, slot := 0, constantValue := 0 }, { name := "minLargest", type := .long, accessFlags := 18, slot := 1, constantValue := 0 }, { name := "maxSmallest", type := .long, accessFlags := 18, slot := 2, constantValue := 0 }, { name := "maxLargest", type := .long, accessFlags := 18, slot := 3, constantValue := 0 }]
  methods := #[k19m0, k19m1, k19m2, k19m3]
  instanceTypes := #[.long, .long, .long, .long]
  staticTypes := #[.long]
  resolved := Array.replicate 167 none
  statics := none }

def pool20 : Array CpInfo := pool [(9, u "<init>"), (6, .class_ 18), (1, u "java/lang/Object"), (0, u "()V"), (1, .class_ 23), (1, u "jdk/internal/util/ArraysSupport"), (0, u "LOG2_ARRAY_LONG_INDEX_SCALE"), (0, u "I"), (2, u "U"), (0, u "Ljdk/internal/misc/Unsafe;"), (8, u "BIG_ENDIAN"), (0, u "Z"), (8, u "LOG2_BYTE_BIT_SIZE"), (4, u "LOG2_ARRAY_INT_INDEX_SCALE"), (54, u "JLA"), (0, u "Ljdk/internal/access/JavaLangAccess;"), (11, u "LOG2_ARRAY_BOOLEAN_INDEX_SCALE"), (9, u "LOG2_ARRAY_BYTE_INDEX_SCALE"), (5, u "LOG2_ARRAY_CHAR_INDEX_SCALE"), (5, u "LOG2_ARRAY_SHORT_INDEX_SCALE"), (18, u "LOG2_ARRAY_FLOAT_INDEX_SCALE"), (24, u "LOG2_ARRAY_DOUBLE_INDEX_SCALE"), (89, u "T_BOOLEAN"), (2, u "T_CHAR"), (1, u "T_FLOAT"), (1, u "T_DOUBLE"), (1, u "T_BYTE"), (1, u "T_SHORT"), (1, u "T_INT"), (1, u "T_LONG"), (1, u "SOFT_MAX_ARRAY_LENGTH")] 83

def k20m0 : Method := { name := "<init>", desc := "()V", sig := { parameters := [], returnType := none }, accessFlags := 2, code := none }
/-- jdk/internal/util/ArraysSupport -/
def k20 : Class := { plain "jdk/internal/util/ArraysSupport" (some 0) with
  accessFlags := 33
  interfaces := #[]
  cf := some (fileOf pool20 21 #[] #[{ accessFlags := 2, nameIndex := 9, descriptorIndex := 19, attributes := #[] }] 33 16 #[] #[{ accessFlags := 24, nameIndex := 28, descriptorIndex := 29, attributes := #[] }, { accessFlags := 26, nameIndex := 38, descriptorIndex := 39, attributes := #[] }, { accessFlags := 25, nameIndex := 121, descriptorIndex := 25, attributes := #[] }, { accessFlags := 25, nameIndex := 131, descriptorIndex := 25, attributes := #[] }, { accessFlags := 25, nameIndex := 137, descriptorIndex := 25, attributes := #[] }, { accessFlags := 25, nameIndex := 143, descriptorIndex := 25, attributes := #[] }, { accessFlags := 25, nameIndex := 53, descriptorIndex := 25, attributes := #[] }, { accessFlags := 25, nameIndex := 24, descriptorIndex := 25, attributes := #[] }, { accessFlags := 25, nameIndex := 162, descriptorIndex := 25, attributes := #[] }, { accessFlags := 25, nameIndex := 187, descriptorIndex := 25, attributes := #[] }, { accessFlags := 26, nameIndex := 48, descriptorIndex := 25, attributes := #[] }, { accessFlags := 25, nameIndex := 277, descriptorIndex := 25, attributes := #[] }, { accessFlags := 25, nameIndex := 280, descriptorIndex := 25, attributes := #[] }, { accessFlags := 25, nameIndex := 282, descriptorIndex := 25, attributes := #[] }, { accessFlags := 25, nameIndex := 284, descriptorIndex := 25, attributes := #[] }, { accessFlags := 25, nameIndex := 286, descriptorIndex := 25, attributes := #[] }, { accessFlags := 25, nameIndex := 288, descriptorIndex := 25, attributes := #[] }, { accessFlags := 25, nameIndex := 290, descriptorIndex := 25, attributes := #[] }, { accessFlags := 25, nameIndex := 292, descriptorIndex := 25, attributes := #[] }, { accessFlags := 26, nameIndex := 108, descriptorIndex := 109, attributes := #[] }, { accessFlags := 25, nameIndex := 294, descriptorIndex := 25, attributes := #[] }])
  fields := #[{ name := "U", type := (.object "jdk/internal/misc/Unsafe"), accessFlags := 24, slot := 0, constantValue := 0 }, { name := "BIG_ENDIAN", type := .boolean, accessFlags := 26, slot := 1, constantValue := 0 }, { name := "LOG2_ARRAY_BOOLEAN_INDEX_SCALE", type := .int, accessFlags := 25, slot := 2, constantValue := 0 }, { name := "LOG2_ARRAY_BYTE_INDEX_SCALE", type := .int, accessFlags := 25, slot := 3, constantValue := 0 }, { name := "LOG2_ARRAY_CHAR_INDEX_SCALE", type := .int, accessFlags := 25, slot := 4, constantValue := 0 }, { name := "LOG2_ARRAY_SHORT_INDEX_SCALE", type := .int, accessFlags := 25, slot := 5, constantValue := 0 }, { name := "LOG2_ARRAY_INT_INDEX_SCALE", type := .int, accessFlags := 25, slot := 6, constantValue := 0 }, { name := "LOG2_ARRAY_LONG_INDEX_SCALE", type := .int, accessFlags := 25, slot := 7, constantValue := 0 }, { name := "LOG2_ARRAY_FLOAT_INDEX_SCALE", type := .int, accessFlags := 25, slot := 8, constantValue := 0 }, { name := "LOG2_ARRAY_DOUBLE_INDEX_SCALE", type := .int, accessFlags := 25, slot := 9, constantValue := 0 }, { name := "LOG2_BYTE_BIT_SIZE", type := .int, accessFlags := 26, slot := 10, constantValue := 0 }, { name := "T_BOOLEAN", type := .int, accessFlags := 25, slot := 11, constantValue := 0 }, { name := "T_CHAR", type := .int, accessFlags := 25, slot := 12, constantValue := 0 }, { name := "T_FLOAT", type := .int, accessFlags := 25, slot := 13, constantValue := 0 }, { name := "T_DOUBLE", type := .int, accessFlags := 25, slot := 14, constantValue := 0 }, { name := "T_BYTE", type := .int, accessFlags := 25, slot := 15, constantValue := 0 }, { name := "T_SHORT", type := .int, accessFlags := 25, slot := 16, constantValue := 0 }, { name := "T_INT", type := .int, accessFlags := 25, slot := 17, constantValue := 0 }, { name := "T_LONG", type := .int, accessFlags := 25, slot := 18, constantValue := 0 }, { name := "JLA", type := (.object "jdk/internal/access/JavaLangAccess"), accessFlags := 26, slot := 19, constantValue := 0 }, { name := "SOFT_MAX_ARRAY_LENGTH", type := .int, accessFlags := 25, slot := 20, constantValue := 0 }]
  methods := #[k20m0]
  instanceTypes := #[]
  staticTypes := #[(.object "jdk/internal/misc/Unsafe"), .boolean, .int, .int, .int, .int, .int, .int, .int, .int, .int, .int, .int, .int, .int, .int, .int, .int, .int, (.object "jdk/internal/access/JavaLangAccess"), .int]
  resolved := Array.replicate 378 none
  statics := none }

def pool21 : Array CpInfo := pool [(4, .class_ 6), (1, u "java/time/temporal/TemporalUnit"), (23, .class_ 31), (0, u "java/lang/Object")] 27

/-- java/time/temporal/TemporalUnit -/
def k21 : Class := { plain "java/time/temporal/TemporalUnit" (some 0) with
  accessFlags := 1537
  interfaces := #[]
  cf := some (fileOf pool21 4 #[] #[] 1537 30 #[] #[])
  fields := #[]
  methods := #[]
  instanceTypes := #[]
  staticTypes := #[]
  resolved := Array.replicate 59 none
  statics := none }

def pool22 : Array CpInfo := pool [(1, .class_ 2), (0, u "java/time/temporal/ChronoUnit"), (2, u "NANOS"), (0, u "Ljava/time/temporal/ChronoUnit;"), (2, u "MICROS"), (2, u "MILLIS"), (2, u "SECONDS"), (2, u "MINUTES"), (2, u "HOURS"), (2, u "HALF_DAYS"), (2, u "DAYS"), (2, u "WEEKS"), (2, u "MONTHS"), (2, u "YEARS"), (2, u "DECADES"), (2, u "CENTURIES"), (2, u "MILLENNIA"), (2, u "ERAS"), (2, u "FOREVER"), (2, u "$VALUES"), (0, u "[Ljava/time/temporal/ChronoUnit;"), (6, .class_ 64), (1, u "java/lang/Enum"), (8, u "name"), (0, u "Ljava/lang/String;"), (2, u "duration"), (0, u "Ljava/time/Duration;"), (117, .class_ 197), (0, u "java/time/temporal/TemporalUnit")] 39

/-- java/time/temporal/ChronoUnit -/
def k22 : Class := { plain "java/time/temporal/ChronoUnit" (some 16) with
  accessFlags := 16433
  interfaces := #[21]
  cf := some (fileOf pool22 1 #[] #[] 16433 62 #[196] #[{ accessFlags := 16409, nameIndex := 5, descriptorIndex := 6, attributes := #[] }, { accessFlags := 16409, nameIndex := 9, descriptorIndex := 6, attributes := #[] }, { accessFlags := 16409, nameIndex := 12, descriptorIndex := 6, attributes := #[] }, { accessFlags := 16409, nameIndex := 15, descriptorIndex := 6, attributes := #[] }, { accessFlags := 16409, nameIndex := 18, descriptorIndex := 6, attributes := #[] }, { accessFlags := 16409, nameIndex := 21, descriptorIndex := 6, attributes := #[] }, { accessFlags := 16409, nameIndex := 24, descriptorIndex := 6, attributes := #[] }, { accessFlags := 16409, nameIndex := 27, descriptorIndex := 6, attributes := #[] }, { accessFlags := 16409, nameIndex := 30, descriptorIndex := 6, attributes := #[] }, { accessFlags := 16409, nameIndex := 33, descriptorIndex := 6, attributes := #[] }, { accessFlags := 16409, nameIndex := 36, descriptorIndex := 6, attributes := #[] }, { accessFlags := 16409, nameIndex := 39, descriptorIndex := 6, attributes := #[] }, { accessFlags := 16409, nameIndex := 42, descriptorIndex := 6, attributes := #[] }, { accessFlags := 16409, nameIndex := 45, descriptorIndex := 6, attributes := #[] }, { accessFlags := 16409, nameIndex := 48, descriptorIndex := 6, attributes := #[] }, { accessFlags := 16409, nameIndex := 51, descriptorIndex := 6, attributes := #[] }, { accessFlags := 18, nameIndex := 73, descriptorIndex := 74, attributes := #[] }, { accessFlags := 18, nameIndex := 77, descriptorIndex := 78, attributes := #[] }, { accessFlags := 4122, nameIndex := 54, descriptorIndex := 55, attributes := #[] }])
  fields := #[{ name := "NANOS", type := (.object "java/time/temporal/ChronoUnit"), accessFlags := 16409, slot := 0, constantValue := 0 }, { name := "MICROS", type := (.object "java/time/temporal/ChronoUnit"), accessFlags := 16409, slot := 1, constantValue := 0 }, { name := "MILLIS", type := (.object "java/time/temporal/ChronoUnit"), accessFlags := 16409, slot := 2, constantValue := 0 }, { name := "SECONDS", type := (.object "java/time/temporal/ChronoUnit"), accessFlags := 16409, slot := 3, constantValue := 0 }, { name := "MINUTES", type := (.object "java/time/temporal/ChronoUnit"), accessFlags := 16409, slot := 4, constantValue := 0 }, { name := "HOURS", type := (.object "java/time/temporal/ChronoUnit"), accessFlags := 16409, slot := 5, constantValue := 0 }, { name := "HALF_DAYS", type := (.object "java/time/temporal/ChronoUnit"), accessFlags := 16409, slot := 6, constantValue := 0 }, { name := "DAYS", type := (.object "java/time/temporal/ChronoUnit"), accessFlags := 16409, slot := 7, constantValue := 0 }, { name := "WEEKS", type := (.object "java/time/temporal/ChronoUnit"), accessFlags := 16409, slot := 8, constantValue := 0 }, { name := "MONTHS", type := (.object "java/time/temporal/ChronoUnit"), accessFlags := 16409, slot := 9, constantValue := 0 }, { name := "YEARS", type := (.object "java/time/temporal/ChronoUnit"), accessFlags := 16409, slot := 10, constantValue := 0 }, { name := "DECADES", type := (.object "java/time/temporal/ChronoUnit"), accessFlags := 16409, slot := 11, constantValue := 0 }, { name := "CENTURIES", type := (.object "java/time/temporal/ChronoUnit"), accessFlags := 16409, slot := 12, constantValue := 0 }, { name := "MILLENNIA", type := (.object "java/time/temporal/ChronoUnit"), accessFlags := 16409, slot := 13, constantValue := 0 }, { name := "ERAS", type := (.object "java/time/temporal/ChronoUnit"), accessFlags := 16409, slot := 14, constantValue := 0 }, { name := "FOREVER", type := (.object "java/time/temporal/ChronoUnit"), accessFlags := 16409, slot := 15, constantValue := 0 }, { name := "name", type := (.object "java/lang/String"), accessFlags := 18, slot := 3, constantValue := 0 }, { name := "duration", type := (.object "java/time/Duration"), accessFlags := 18, slot := 4, constantValue := 0 }, { name := "$VALUES", type := (.array (.object "java/time/temporal/ChronoUnit")), accessFlags := 4122, slot := 16, constantValue := 0 }]
  methods := #[]
  instanceTypes := #[(.object "java/lang/String"), .int, .int, (.object "java/lang/String"), (.object "java/time/Duration")]
  staticTypes := #[(.object "java/time/temporal/ChronoUnit"), (.object "java/time/temporal/ChronoUnit"), (.object "java/time/temporal/ChronoUnit"), (.object "java/time/temporal/ChronoUnit"), (.object "java/time/temporal/ChronoUnit"), (.object "java/time/temporal/ChronoUnit"), (.object "java/time/temporal/ChronoUnit"), (.object "java/time/temporal/ChronoUnit"), (.object "java/time/temporal/ChronoUnit"), (.object "java/time/temporal/ChronoUnit"), (.object "java/time/temporal/ChronoUnit"), (.object "java/time/temporal/ChronoUnit"), (.object "java/time/temporal/ChronoUnit"), (.object "java/time/temporal/ChronoUnit"), (.object "java/time/temporal/ChronoUnit"), (.object "java/time/temporal/ChronoUnit"), (.array (.object "java/time/temporal/ChronoUnit"))]
  resolved := Array.replicate 237 none
  statics := some 4 }

def pool23 : Array CpInfo := pool [(1, .class_ 2), (0, u "java/time/temporal/TemporalAmount"), (0, .class_ 4), (0, u "java/lang/Object")] 11

/-- java/time/temporal/TemporalAmount -/
def k23 : Class := { plain "java/time/temporal/TemporalAmount" (some 0) with
  accessFlags := 1537
  interfaces := #[]
  cf := some (fileOf pool23 1 #[] #[] 1537 3 #[] #[])
  fields := #[]
  methods := #[]
  instanceTypes := #[]
  staticTypes := #[]
  resolved := Array.replicate 16 none
  statics := none }

def pool24 : Array CpInfo := pool [(11, .class_ 13), (1, u "java/time/Duration"), (20, u "ZERO"), (0, u "Ljava/time/Duration;"), (13, .class_ 51), (1, u "java/time/temporal/TemporalAmount"), (27, .class_ 81), (1, u "java/time/Duration$Lazy"), (35, u "seconds"), (101, .class_ 220), (0, u "java/lang/Object"), (2, u "J"), (2, u "nanos"), (0, u "I"), (11, .class_ 241), (1, u "java/time/Duration$DurationUnits"), (27, .class_ 271), (1, u "java/time/Duration$1"), (91, u "BI_NANOS_PER_SECOND"), (0, u "Ljava/math/BigInteger;"), (120, .class_ 486), (0, u "java/lang/Comparable"), (0, .class_ 488), (0, u "java/io/Serializable"), (0, u "serialVersionUID")] 166

/-- java/time/Duration -/
def k24 : Class := { plain "java/time/Duration" (some 0) with
  accessFlags := 49
  interfaces := #[23, 3, 2]
  cf := some (fileOf pool24 11 #[.nestMembers #[269, 239, 79]] #[] 49 219 #[49, 485, 487] #[{ accessFlags := 25, nameIndex := 34, descriptorIndex := 35, attributes := #[] }, { accessFlags := 26, nameIndex := 489, descriptorIndex := 223, attributes := #[] }, { accessFlags := 26, nameIndex := 363, descriptorIndex := 364, attributes := #[] }, { accessFlags := 18, nameIndex := 117, descriptorIndex := 223, attributes := #[] }, { accessFlags := 18, nameIndex := 226, descriptorIndex := 227, attributes := #[] }])
  fields := #[{ name := "ZERO", type := (.object "java/time/Duration"), accessFlags := 25, slot := 0, constantValue := 0 }, { name := "serialVersionUID", type := .long, accessFlags := 26, slot := 1, constantValue := 0 }, { name := "BI_NANOS_PER_SECOND", type := (.object "java/math/BigInteger"), accessFlags := 26, slot := 2, constantValue := 0 }, { name := "seconds", type := .long, accessFlags := 18, slot := 0, constantValue := 0 }, { name := "nanos", type := .int, accessFlags := 18, slot := 1, constantValue := 0 }]
  methods := #[]
  instanceTypes := #[.long, .int]
  staticTypes := #[(.object "java/time/Duration"), .long, (.object "java/math/BigInteger")]
  resolved := Array.replicate 656 none
  statics := none }

def pool25 : Array CpInfo := pool [(1, u "java/lang/Cloneable"), (0, .class_ 1), (0, u "java/lang/Object"), (0, .class_ 3)] 3

/-- java/lang/Cloneable -/
def k25 : Class := { plain "java/lang/Cloneable" (some 0) with
  accessFlags := 1537
  interfaces := #[]
  cf := some (fileOf pool25 2 #[] #[] 1537 4 #[] #[])
  fields := #[]
  methods := #[]
  instanceTypes := #[]
  staticTypes := #[]
  resolved := Array.replicate 8 none
  statics := none }

/-- the primitive byte -/
def k26 : Class := { plain "byte" none with kind := .primitive 'B', accessFlags := 0x411 }
/-- [B -/
def k27 : Class := { plain "[B" (some 0) with kind := .array 26 .byte, interfaces := #[25, 2], accessFlags := 1041 }

/-- the primitive char -/
def k28 : Class := { plain "char" none with kind := .primitive 'C', accessFlags := 0x411 }
/-- [C -/
def k29 : Class := { plain "[C" (some 0) with kind := .array 28 .char, interfaces := #[25, 2], accessFlags := 1041 }

/-- the primitive int -/
def k30 : Class := { plain "int" none with kind := .primitive 'I', accessFlags := 0x411 }
/-- [I -/
def k31 : Class := { plain "[I" (some 0) with kind := .array 30 .int, interfaces := #[25, 2], accessFlags := 1041 }

def heap : Heap := #[{ cls := 7, slots := #[.long 0, .int 1, .null, .int 0, .null, .int 0, .int 0], vm := .statics 7 },
  { cls := 8, slots := #[.int 0, .int 8, .int 0, .int 1], vm := .statics 8 },
  { cls := 10, slots := #[.null, .null, .null], vm := .statics 10 },
  { cls := 18, slots := #[.null, .null, .null, .null, .null, .null, .null, .null, .null, .null, .null, .null, .null, .null, .null, .null, .null, .null, .null, .null, .null, .null, .null, .ref 13, .null, .null, .ref 12, .null, .null, .null, .null], vm := .statics 18 },
  { cls := 22, slots := #[.null, .null, .null, .null, .null, .null, .null, .null, .null, .ref 7, .ref 6, .null, .null, .null, .null, .ref 8, .null], vm := .statics 22 },
  { cls := 7, slots := #[.null, .int 0, .int 0, .int 0], vm := .none },
  { cls := 22, slots := #[.ref 5, .int 10, .int 0, .ref 5, .ref 9], vm := .none },
  { cls := 22, slots := #[.ref 5, .int 9, .int 0, .ref 5, .ref 9], vm := .none },
  { cls := 22, slots := #[.ref 5, .int 15, .int 0, .ref 5, .ref 9], vm := .none },
  { cls := 24, slots := #[.long 0, .int 0], vm := .none },
  { cls := 19, slots := #[.long (-999999999), .long (-999999999), .long 999999999, .long 999999999], vm := .none },
  { cls := 19, slots := #[.long 1, .long 1, .long 12, .long 12], vm := .none },
  { cls := 18, slots := #[.ref 5, .int 26, .int 0, .ref 5, .ref 6, .ref 8, .ref 10, .ref 5], vm := .none },
  { cls := 18, slots := #[.ref 5, .int 23, .int 0, .ref 5, .ref 7, .ref 6, .ref 11, .ref 5], vm := .none }]
def classes : Array Class := #[k0, k1, k2, k3, k4, k5, k6, k7, k8, k9, k10, k11, k12, k13, k14, k15, k16, k17, k18, k19, k20, k21, k22, k23, k24, k25, k26, k27, k28, k29, k30, k31]
def interned : List (Array UInt16 × Addr) := []
def slotsUsed : Nat := 107
def theMethod : MethodId := ⟨1, 1⟩
def args0 : Array Value := #[.int 0, .long 0, .long 0, .int 0]
def aboutOver (below : List Frame) : State where
  vm := { classes := classes, interned := interned.toArray }
  heap := heap
  slotsUsed := slotsUsed
  threads := #[{ frames := .invoking theMethod args0 :: below }]
def below0 : List Frame := [.native { method := ⟨0, 0⟩, args := #[] }]
def about1 : State := aboutOver below0
def p0 : Program := .bare "" "" ""
def e0 : Env := launch0.env 0 0 0
theorem w_frames : about1.frames = Frame.invoking theMethod args0 :: below0 := rfl
set_option maxRecDepth 65536 in
theorem w_args : argsFit about1.vm theMethod args0 = true := by decide +kernel
set_option maxRecDepth 65536 in
theorem w_heap : heapFits about1 = true := by decide +kernel
set_option maxRecDepth 65536 in
theorem w_runnable : about1.curStatus? = some .runnable := by decide +kernel
set_option maxRecDepth 65536 in
theorem w_alone : about1.alone = true := by decide +kernel
set_option maxRecDepth 65536 in
theorem w_named : about1.methodNamed? x = some theMethod := by decide +kernel
set_option maxRecDepth 65536 in
theorem w_hears : about1.hears theMethod below0 = true := by decide +kernel
set_option maxRecDepth 65536 in
theorem w_ripe : about1.ripe theMethod args0 below0 = true := by decide +kernel
theorem w_running : about1.status = .running := rfl
set_option maxRecDepth 65536 in
theorem w_room : about1.hasRoom e0.platform room_1 = true :=
  launch0.hasRoom_least _ room_1 (by decide +kernel) (by decide +kernel) (by decide +kernel) (by decide +kernel) (by decide +kernel) (by decide +kernel)
theorem allAtoms_all (ts : List Jvm.Cond) (a : Array Jvm.Value) (st : Jvm.State) : (allAtoms ts).before a st = ts.all (fun c => c.before a st) := by
  induction ts with
  | nil => rfl
  | cons c t ih =>
    show (Jvm.Cond.and c (allAtoms t)).before a st = _
    rw [Jvm.Cond.before_and, ih, List.all_cons]
def words1 : List Jvm.Cond := Jvm.Cond.code x code maxLocals ret :: tables_1
/-- a 'code' word, met by the world's own term for the bytes: nothing is compared byte by byte -/
theorem code_word {y : MethodName} {bytes : ByteArray} {mx : Nat} {rt : Option FieldType} {a : Array Value} {s : State} {m : MethodId} {meth : Method} {c : Code} (h1 : s.methodNamed? y = some m) (h2 : s.vm.method? m = some meth) (h3 : meth.code = some c) (h4 : c.code = bytes)
    (h5 : (c.maxLocals == mx && c.exceptionTable.isEmpty && decide (c.maxStack ≤ mostOperands) && decide (meth.sig.returnType = rt) && !meth.locks && decide (parseMethodDescriptor y.desc = some meth.sig)) = true) : (Jvm.Cond.code y bytes mx rt).before a s = true := by
  simp only [Bool.and_eq_true, beq_iff_eq, Bool.not_eq_true', decide_eq_true_eq] at h5
  obtain ⟨⟨⟨⟨⟨g1, g2⟩, g3⟩, g4⟩, g5⟩, g6⟩ := h5
  simp [Cond.before, Cond.holds, Cond.value, h1, h2, h3, h4, g1, g2, g3, g4, g5, g6]
def isCode : Jvm.Cond → Bool
  | .code _ _ _ _ => true
  | _ => false
theorem all_split {L : List Jvm.Cond} {P : Jvm.Cond → Bool} (h1 : L.all (fun c => isCode c || P c) = true) (h2 : ∀ c ∈ L.filter isCode, P c = true) : L.all P = true := by
  refine List.all_eq_true.mpr fun c hc => ?_
  have h := List.all_eq_true.mp h1 c hc
  rcases Bool.eq_false_or_eq_true (isCode c) with hi | hi
  · exact h2 c (List.mem_filter.mpr ⟨hc, hi⟩)
  · simpa [hi] using h
set_option maxRecDepth 65536 in
theorem w_c0 : (Jvm.Cond.code x code maxLocals ret).before args0 about1 = true := code_word (m := ⟨1, 1⟩) (meth := k1m1) (c := k1c1) (by decide +kernel) rfl rfl rfl (by decide +kernel)
set_option maxRecDepth 65536 in
theorem w_c1 : (Jvm.Cond.code ({ cls := "com/example/vestwright/vestwright/ValuesMonthPinLaw", name := "ch", desc := "(JIII)C" } : Jvm.MethodName) method_4_code (6 : Nat) (Option.some Jvm.ClassFile.FieldType.char)).before args0 about1 = true := code_word (m := ⟨1, 3⟩) (meth := k1m3) (c := k1c3) (by decide +kernel) rfl rfl rfl (by decide +kernel)
set_option maxRecDepth 65536 in
theorem w_c2 : (Jvm.Cond.code ({ cls := "com/example/vestwright/vestwright/ValuesMonthPinLaw", name := "dash", desc := "(JI)C" } : Jvm.MethodName) method_5_code (3 : Nat) (Option.some Jvm.ClassFile.FieldType.char)).before args0 about1 = true := code_word (m := ⟨1, 4⟩) (meth := k1m4) (c := k1c4) (by decide +kernel) rfl rfl rfl (by decide +kernel)
set_option maxRecDepth 65536 in
theorem w_c3 : (Jvm.Cond.code ({ cls := "java/lang/String", name := "<init>", desc := "([C)V" } : Jvm.MethodName) jdk_42_method_3_code (2 : Nat) (Option.none : Option Jvm.ClassFile.FieldType)).before args0 about1 = true := code_word (m := ⟨7, 1⟩) (meth := k7m1) (c := k7c1) (by decide +kernel) rfl rfl rfl (by decide +kernel)
set_option maxRecDepth 65536 in
theorem w_c4 : (Jvm.Cond.code ({ cls := "java/lang/String", name := "<init>", desc := "([CIILjava/lang/Void;)V" } : Jvm.MethodName) jdk_42_method_149_code (6 : Nat) (Option.none : Option Jvm.ClassFile.FieldType)).before args0 about1 = true := code_word (m := ⟨7, 4⟩) (meth := k7m4) (c := k7c4) (by decide +kernel) rfl rfl rfl (by decide +kernel)
set_option maxRecDepth 65536 in
theorem w_c5 : (Jvm.Cond.code ({ cls := "java/lang/Object", name := "<init>", desc := "()V" } : Jvm.MethodName) object_method_1_code (1 : Nat) (Option.none : Option Jvm.ClassFile.FieldType)).before args0 about1 = true := code_word (m := ⟨0, 0⟩) (meth := k0m0) (c := k0c0) (by decide +kernel) rfl rfl rfl (by decide +kernel)
set_option maxRecDepth 65536 in
theorem w_c6 : (Jvm.Cond.code ({ cls := "java/lang/StringUTF16", name := "compress", desc := "([CII)[B" } : Jvm.MethodName) jdk_52_method_16_code (6 : Nat) (Option.some (Jvm.ClassFile.FieldType.array Jvm.ClassFile.FieldType.byte))).before args0 about1 = true := code_word (m := ⟨8, 8⟩) (meth := k8m8) (c := k8c8) (by decide +kernel) rfl rfl rfl (by decide +kernel)
set_option maxRecDepth 65536 in
theorem w_c7 : (Jvm.Cond.code ({ cls := "java/lang/StringUTF16", name := "compress", desc := "([CI[BII)I" } : Jvm.MethodName) jdk_52_method_21_code (7 : Nat) (Option.some Jvm.ClassFile.FieldType.int)).before args0 about1 = true := code_word (m := ⟨8, 9⟩) (meth := k8m9) (c := k8c9) (by decide +kernel) rfl rfl rfl (by decide +kernel)
set_option maxRecDepth 65536 in
theorem w_c8 : (Jvm.Cond.code ({ cls := "java/lang/StringUTF16", name := "toBytes", desc := "([CII)[B" } : Jvm.MethodName) jdk_52_method_14_code (5 : Nat) (Option.some (Jvm.ClassFile.FieldType.array Jvm.ClassFile.FieldType.byte))).before args0 about1 = true := code_word (m := ⟨8, 6⟩) (meth := k8m6) (c := k8c6) (by decide +kernel) rfl rfl rfl (by decide +kernel)
set_option maxRecDepth 65536 in
theorem w_c9 : (Jvm.Cond.code ({ cls := "java/lang/StringUTF16", name := "newBytesFor", desc := "(I)[B" } : Jvm.MethodName) jdk_52_method_2_code (1 : Nat) (Option.some (Jvm.ClassFile.FieldType.array Jvm.ClassFile.FieldType.byte))).before args0 about1 = true := code_word (m := ⟨8, 1⟩) (meth := k8m1) (c := k8c1) (by decide +kernel) rfl rfl rfl (by decide +kernel)
set_option maxRecDepth 65536 in
theorem w_c10 : (Jvm.Cond.code ({ cls := "java/lang/StringUTF16", name := "newBytesLength", desc := "(I)I" } : Jvm.MethodName) jdk_52_method_3_code (1 : Nat) (Option.some Jvm.ClassFile.FieldType.int)).before args0 about1 = true := code_word (m := ⟨8, 2⟩) (meth := k8m2) (c := k8c2) (by decide +kernel) rfl rfl rfl (by decide +kernel)
set_option maxRecDepth 65536 in
theorem w_c11 : (Jvm.Cond.code ({ cls := "java/lang/StringUTF16", name := "putChar", desc := "([BII)V" } : Jvm.MethodName) jdk_52_method_4_code (3 : Nat) (Option.none : Option Jvm.ClassFile.FieldType)).before args0 about1 = true := code_word (m := ⟨8, 3⟩) (meth := k8m3) (c := k8c3) (by decide +kernel) rfl rfl rfl (by decide +kernel)
set_option maxRecDepth 65536 in
theorem w_c12 : (Jvm.Cond.code ({ cls := "java/lang/StringUTF16", name := "getChar", desc := "([BI)C" } : Jvm.MethodName) jdk_52_method_5_code (2 : Nat) (Option.some Jvm.ClassFile.FieldType.char)).before args0 about1 = true := code_word (m := ⟨8, 4⟩) (meth := k8m4) (c := k8c4) (by decide +kernel) rfl rfl rfl (by decide +kernel)
set_option maxRecDepth 65536 in
theorem w_c13 : (Jvm.Cond.code ({ cls := "java/lang/StringUTF16", name := "coderFromArrayLen", desc := "([BI)B" } : Jvm.MethodName) jdk_52_method_15_code (2 : Nat) (Option.some Jvm.ClassFile.FieldType.byte)).before args0 about1 = true := code_word (m := ⟨8, 7⟩) (meth := k8m7) (c := k8c7) (by decide +kernel) rfl rfl rfl (by decide +kernel)
set_option maxRecDepth 65536 in
theorem w_c14 : (Jvm.Cond.code ({ cls := "com/example/vestwright/vestwright/Values", name := "month", desc := "(Ljava/lang/String;)Ljava/time/YearMonth;" } : Jvm.MethodName) prog_6_method_4_code (2 : Nat) (Option.some (Jvm.ClassFile.FieldType.object "java/time/YearMonth"))).before args0 about1 = true := code_word (m := ⟨9, 1⟩) (meth := k9m1) (c := k9c1) (by decide +kernel) rfl rfl rfl (by decide +kernel)
set_option maxRecDepth 65536 in
theorem w_c15 : (Jvm.Cond.code ({ cls := "java/lang/String", name := "length", desc := "()I" } : Jvm.MethodName) jdk_42_method_54_code (1 : Nat) (Option.some Jvm.ClassFile.FieldType.int)).before args0 about1 = true := code_word (m := ⟨7, 2⟩) (meth := k7m2) (c := k7c2) (by decide +kernel) rfl rfl rfl (by decide +kernel)
set_option maxRecDepth 65536 in
theorem w_c16 : (Jvm.Cond.code ({ cls := "java/lang/String", name := "coder", desc := "()B" } : Jvm.MethodName) jdk_42_method_152_code (1 : Nat) (Option.some Jvm.ClassFile.FieldType.byte)).before args0 about1 = true := code_word (m := ⟨7, 5⟩) (meth := k7m5) (c := k7c5) (by decide +kernel) rfl rfl rfl (by decide +kernel)
set_option maxRecDepth 65536 in
theorem w_c17 : (Jvm.Cond.code ({ cls := "java/lang/String", name := "charAt", desc := "(I)C" } : Jvm.MethodName) jdk_42_method_56_code (2 : Nat) (Option.some Jvm.ClassFile.FieldType.char)).before args0 about1 = true := code_word (m := ⟨7, 3⟩) (meth := k7m3) (c := k7c3) (by decide +kernel) rfl rfl rfl (by decide +kernel)
set_option maxRecDepth 65536 in
theorem w_c18 : (Jvm.Cond.code ({ cls := "java/lang/String", name := "isLatin1", desc := "()Z" } : Jvm.MethodName) jdk_42_method_154_code (1 : Nat) (Option.some Jvm.ClassFile.FieldType.boolean)).before args0 about1 = true := code_word (m := ⟨7, 6⟩) (meth := k7m6) (c := k7c6) (by decide +kernel) rfl rfl rfl (by decide +kernel)
set_option maxRecDepth 65536 in
theorem w_c19 : (Jvm.Cond.code ({ cls := "java/lang/StringUTF16", name := "charAt", desc := "([BI)C" } : Jvm.MethodName) jdk_52_method_83_code (2 : Nat) (Option.some Jvm.ClassFile.FieldType.char)).before args0 about1 = true := code_word (m := ⟨8, 10⟩) (meth := k8m10) (c := k8c10) (by decide +kernel) rfl rfl rfl (by decide +kernel)
set_option maxRecDepth 65536 in
theorem w_c20 : (Jvm.Cond.code ({ cls := "java/lang/StringUTF16", name := "checkIndex", desc := "(I[B)V" } : Jvm.MethodName) jdk_52_method_91_code (2 : Nat) (Option.none : Option Jvm.ClassFile.FieldType)).before args0 about1 = true := code_word (m := ⟨8, 11⟩) (meth := k8m11) (c := k8c11) (by decide +kernel) rfl rfl rfl (by decide +kernel)
set_option maxRecDepth 65536 in
theorem w_c21 : (Jvm.Cond.code ({ cls := "java/lang/StringUTF16", name := "length", desc := "([B)I" } : Jvm.MethodName) jdk_52_method_6_code (1 : Nat) (Option.some Jvm.ClassFile.FieldType.int)).before args0 about1 = true := code_word (m := ⟨8, 5⟩) (meth := k8m5) (c := k8c5) (by decide +kernel) rfl rfl rfl (by decide +kernel)
set_option maxRecDepth 65536 in
theorem w_c22 : (Jvm.Cond.code ({ cls := "java/lang/String", name := "checkIndex", desc := "(II)V" } : Jvm.MethodName) jdk_42_method_155_code (2 : Nat) (Option.none : Option Jvm.ClassFile.FieldType)).before args0 about1 = true := code_word (m := ⟨7, 7⟩) (meth := k7m7) (c := k7c7) (by decide +kernel) rfl rfl rfl (by decide +kernel)
set_option maxRecDepth 65536 in
theorem w_c23 : (Jvm.Cond.code ({ cls := "jdk/internal/util/Preconditions", name := "checkIndex", desc := "(IILjava/util/function/BiFunction;)I" } : Jvm.MethodName) jdk_41_method_11_code (3 : Nat) (Option.some Jvm.ClassFile.FieldType.int)).before args0 about1 = true := code_word (m := ⟨10, 1⟩) (meth := k10m1) (c := k10c1) (by decide +kernel) rfl rfl rfl (by decide +kernel)
set_option maxRecDepth 65536 in
theorem w_c24 : (Jvm.Cond.code ({ cls := "java/lang/StringLatin1", name := "charAt", desc := "([BI)C" } : Jvm.MethodName) jdk_43_method_2_code (2 : Nat) (Option.some Jvm.ClassFile.FieldType.char)).before args0 about1 = true := code_word (m := ⟨11, 1⟩) (meth := k11m1) (c := k11c1) (by decide +kernel) rfl rfl rfl (by decide +kernel)
set_option maxRecDepth 65536 in
theorem w_c25 : (Jvm.Cond.code ({ cls := "com/example/vestwright/vestwright/Values", name := "digits", desc := "(Ljava/lang/String;II)Z" } : Jvm.MethodName) prog_6_method_13_code (5 : Nat) (Option.some Jvm.ClassFile.FieldType.boolean)).before args0 about1 = true := code_word (m := ⟨9, 3⟩) (meth := k9m3) (c := k9c3) (by decide +kernel) rfl rfl rfl (by decide +kernel)
set_option maxRecDepth 65536 in
theorem w_c26 : (Jvm.Cond.code ({ cls := "com/example/vestwright/vestwright/ValuesMonthPinLaw", name := "dig", desc := "(C)Z" } : Jvm.MethodName) method_3_code (1 : Nat) (Option.some Jvm.ClassFile.FieldType.boolean)).before args0 about1 = true := code_word (m := ⟨1, 2⟩) (meth := k1m2) (c := k1c2) (by decide +kernel) rfl rfl rfl (by decide +kernel)
set_option maxRecDepth 65536 in
theorem w_c27 : (Jvm.Cond.code ({ cls := "com/example/vestwright/vestwright/Values", name := "number", desc := "(Ljava/lang/String;II)I" } : Jvm.MethodName) prog_6_method_12_code (5 : Nat) (Option.some Jvm.ClassFile.FieldType.int)).before args0 about1 = true := code_word (m := ⟨9, 2⟩) (meth := k9m2) (c := k9c2) (by decide +kernel) rfl rfl rfl (by decide +kernel)
set_option maxRecDepth 65536 in
theorem w_c28 : (Jvm.Cond.code ({ cls := "java/time/YearMonth", name := "of", desc := "(II)Ljava/time/YearMonth;" } : Jvm.MethodName) jdk_2340_method_5_code (2 : Nat) (Option.some (Jvm.ClassFile.FieldType.object "java/time/YearMonth"))).before args0 about1 = true := code_word (m := ⟨15, 0⟩) (meth := k15m0) (c := k15c0) (by decide +kernel) rfl rfl rfl (by decide +kernel)
set_option maxRecDepth 65536 in
theorem w_c29 : (Jvm.Cond.code ({ cls := "java/time/temporal/ChronoField", name := "checkValidValue", desc := "(J)J" } : Jvm.MethodName) jdk_2395_method_11_code (3 : Nat) (Option.some Jvm.ClassFile.FieldType.long)).before args0 about1 = true := code_word (m := ⟨18, 1⟩) (meth := k18m1) (c := k18c1) (by decide +kernel) rfl rfl rfl (by decide +kernel)
set_option maxRecDepth 65536 in
theorem w_c30 : (Jvm.Cond.code ({ cls := "java/time/temporal/ChronoField", name := "range", desc := "()Ljava/time/temporal/ValueRange;" } : Jvm.MethodName) jdk_2395_method_8_code (1 : Nat) (Option.some (Jvm.ClassFile.FieldType.object "java/time/temporal/ValueRange"))).before args0 about1 = true := code_word (m := ⟨18, 0⟩) (meth := k18m0) (c := k18c0) (by decide +kernel) rfl rfl rfl (by decide +kernel)
set_option maxRecDepth 65536 in
theorem w_c31 : (Jvm.Cond.code ({ cls := "java/time/temporal/ValueRange", name := "checkValidValue", desc := "(JLjava/time/temporal/TemporalField;)J" } : Jvm.MethodName) jdk_2423_method_13_code (4 : Nat) (Option.some Jvm.ClassFile.FieldType.long)).before args0 about1 = true := code_word (m := ⟨19, 3⟩) (meth := k19m3) (c := k19c3) (by decide +kernel) rfl rfl rfl (by decide +kernel)
set_option maxRecDepth 65536 in
theorem w_c32 : (Jvm.Cond.code ({ cls := "java/time/temporal/ValueRange", name := "isValidValue", desc := "(J)Z" } : Jvm.MethodName) jdk_2423_method_11_code (3 : Nat) (Option.some Jvm.ClassFile.FieldType.boolean)).before args0 about1 = true := code_word (m := ⟨19, 2⟩) (meth := k19m2) (c := k19c2) (by decide +kernel) rfl rfl rfl (by decide +kernel)
set_option maxRecDepth 65536 in
theorem w_c33 : (Jvm.Cond.code ({ cls := "java/time/temporal/ValueRange", name := "getMinimum", desc := "()J" } : Jvm.MethodName) jdk_2423_method_6_code (1 : Nat) (Option.some Jvm.ClassFile.FieldType.long)).before args0 about1 = true := code_word (m := ⟨19, 0⟩) (meth := k19m0) (c := k19c0) (by decide +kernel) rfl rfl rfl (by decide +kernel)
set_option maxRecDepth 65536 in
theorem w_c34 : (Jvm.Cond.code ({ cls := "java/time/temporal/ValueRange", name := "getMaximum", desc := "()J" } : Jvm.MethodName) jdk_2423_method_9_code (1 : Nat) (Option.some Jvm.ClassFile.FieldType.long)).before args0 about1 = true := code_word (m := ⟨19, 1⟩) (meth := k19m1) (c := k19c1) (by decide +kernel) rfl rfl rfl (by decide +kernel)
set_option maxRecDepth 65536 in
theorem w_c35 : (Jvm.Cond.code ({ cls := "java/time/YearMonth", name := "<init>", desc := "(II)V" } : Jvm.MethodName) jdk_2340_method_9_code (3 : Nat) (Option.none : Option Jvm.ClassFile.FieldType)).before args0 about1 = true := code_word (m := ⟨15, 1⟩) (meth := k15m1) (c := k15c1) (by decide +kernel) rfl rfl rfl (by decide +kernel)
set_option maxRecDepth 65536 in
theorem w_c36 : (Jvm.Cond.code ({ cls := "java/time/YearMonth", name := "getYear", desc := "()I" } : Jvm.MethodName) jdk_2340_method_17_code (1 : Nat) (Option.some Jvm.ClassFile.FieldType.int)).before args0 about1 = true := code_word (m := ⟨15, 2⟩) (meth := k15m2) (c := k15c2) (by decide +kernel) rfl rfl rfl (by decide +kernel)
set_option maxRecDepth 65536 in
theorem w_c37 : (Jvm.Cond.code ({ cls := "java/time/YearMonth", name := "getMonthValue", desc := "()I" } : Jvm.MethodName) jdk_2340_method_18_code (1 : Nat) (Option.some Jvm.ClassFile.FieldType.int)).before args0 about1 = true := code_word (m := ⟨15, 3⟩) (meth := k15m3) (c := k15c3) (by decide +kernel) rfl rfl rfl (by decide +kernel)
def codes1 : List Jvm.Cond := [Jvm.Cond.code x code maxLocals ret, Jvm.Cond.code ({ cls := "com/example/vestwright/vestwright/ValuesMonthPinLaw", name := "ch", desc := "(JIII)C" } : Jvm.MethodName) method_4_code (6 : Nat) (Option.some Jvm.ClassFile.FieldType.char), Jvm.Cond.code ({ cls := "com/example/vestwright/vestwright/ValuesMonthPinLaw", name := "dash", desc := "(JI)C" } : Jvm.MethodName) method_5_code (3 : Nat) (Option.some Jvm.ClassFile.FieldType.char), Jvm.Cond.code ({ cls := "java/lang/String", name := "<init>", desc := "([C)V" } : Jvm.MethodName) jdk_42_method_3_code (2 : Nat) (Option.none : Option Jvm.ClassFile.FieldType), Jvm.Cond.code ({ cls := "java/lang/String", name := "<init>", desc := "([CIILjava/lang/Void;)V" } : Jvm.MethodName) jdk_42_method_149_code (6 : Nat) (Option.none : Option Jvm.ClassFile.FieldType), Jvm.Cond.code ({ cls := "java/lang/Object", name := "<init>", desc := "()V" } : Jvm.MethodName) object_method_1_code (1 : Nat) (Option.none : Option Jvm.ClassFile.FieldType), Jvm.Cond.code ({ cls := "java/lang/StringUTF16", name := "compress", desc := "([CII)[B" } : Jvm.MethodName) jdk_52_method_16_code (6 : Nat) (Option.some (Jvm.ClassFile.FieldType.array Jvm.ClassFile.FieldType.byte)), Jvm.Cond.code ({ cls := "java/lang/StringUTF16", name := "compress", desc := "([CI[BII)I" } : Jvm.MethodName) jdk_52_method_21_code (7 : Nat) (Option.some Jvm.ClassFile.FieldType.int), Jvm.Cond.code ({ cls := "java/lang/StringUTF16", name := "toBytes", desc := "([CII)[B" } : Jvm.MethodName) jdk_52_method_14_code (5 : Nat) (Option.some (Jvm.ClassFile.FieldType.array Jvm.ClassFile.FieldType.byte)), Jvm.Cond.code ({ cls := "java/lang/StringUTF16", name := "newBytesFor", desc := "(I)[B" } : Jvm.MethodName) jdk_52_method_2_code (1 : Nat) (Option.some (Jvm.ClassFile.FieldType.array Jvm.ClassFile.FieldType.byte)), Jvm.Cond.code ({ cls := "java/lang/StringUTF16", name := "newBytesLength", desc := "(I)I" } : Jvm.MethodName) jdk_52_method_3_code (1 : Nat) (Option.some Jvm.ClassFile.FieldType.int), Jvm.Cond.code ({ cls := "java/lang/StringUTF16", name := "putChar", desc := "([BII)V" } : Jvm.MethodName) jdk_52_method_4_code (3 : Nat) (Option.none : Option Jvm.ClassFile.FieldType), Jvm.Cond.code ({ cls := "java/lang/StringUTF16", name := "getChar", desc := "([BI)C" } : Jvm.MethodName) jdk_52_method_5_code (2 : Nat) (Option.some Jvm.ClassFile.FieldType.char), Jvm.Cond.code ({ cls := "java/lang/StringUTF16", name := "coderFromArrayLen", desc := "([BI)B" } : Jvm.MethodName) jdk_52_method_15_code (2 : Nat) (Option.some Jvm.ClassFile.FieldType.byte), Jvm.Cond.code ({ cls := "com/example/vestwright/vestwright/Values", name := "month", desc := "(Ljava/lang/String;)Ljava/time/YearMonth;" } : Jvm.MethodName) prog_6_method_4_code (2 : Nat) (Option.some (Jvm.ClassFile.FieldType.object "java/time/YearMonth")), Jvm.Cond.code ({ cls := "java/lang/String", name := "length", desc := "()I" } : Jvm.MethodName) jdk_42_method_54_code (1 : Nat) (Option.some Jvm.ClassFile.FieldType.int), Jvm.Cond.code ({ cls := "java/lang/String", name := "coder", desc := "()B" } : Jvm.MethodName) jdk_42_method_152_code (1 : Nat) (Option.some Jvm.ClassFile.FieldType.byte), Jvm.Cond.code ({ cls := "java/lang/String", name := "charAt", desc := "(I)C" } : Jvm.MethodName) jdk_42_method_56_code (2 : Nat) (Option.some Jvm.ClassFile.FieldType.char), Jvm.Cond.code ({ cls := "java/lang/String", name := "isLatin1", desc := "()Z" } : Jvm.MethodName) jdk_42_method_154_code (1 : Nat) (Option.some Jvm.ClassFile.FieldType.boolean), Jvm.Cond.code ({ cls := "java/lang/StringUTF16", name := "charAt", desc := "([BI)C" } : Jvm.MethodName) jdk_52_method_83_code (2 : Nat) (Option.some Jvm.ClassFile.FieldType.char), Jvm.Cond.code ({ cls := "java/lang/StringUTF16", name := "checkIndex", desc := "(I[B)V" } : Jvm.MethodName) jdk_52_method_91_code (2 : Nat) (Option.none : Option Jvm.ClassFile.FieldType), Jvm.Cond.code ({ cls := "java/lang/StringUTF16", name := "length", desc := "([B)I" } : Jvm.MethodName) jdk_52_method_6_code (1 : Nat) (Option.some Jvm.ClassFile.FieldType.int), Jvm.Cond.code ({ cls := "java/lang/String", name := "checkIndex", desc := "(II)V" } : Jvm.MethodName) jdk_42_method_155_code (2 : Nat) (Option.none : Option Jvm.ClassFile.FieldType), Jvm.Cond.code ({ cls := "jdk/internal/util/Preconditions", name := "checkIndex", desc := "(IILjava/util/function/BiFunction;)I" } : Jvm.MethodName) jdk_41_method_11_code (3 : Nat) (Option.some Jvm.ClassFile.FieldType.int), Jvm.Cond.code ({ cls := "java/lang/StringLatin1", name := "charAt", desc := "([BI)C" } : Jvm.MethodName) jdk_43_method_2_code (2 : Nat) (Option.some Jvm.ClassFile.FieldType.char), Jvm.Cond.code ({ cls := "com/example/vestwright/vestwright/Values", name := "digits", desc := "(Ljava/lang/String;II)Z" } : Jvm.MethodName) prog_6_method_13_code (5 : Nat) (Option.some Jvm.ClassFile.FieldType.boolean), Jvm.Cond.code ({ cls := "com/example/vestwright/vestwright/ValuesMonthPinLaw", name := "dig", desc := "(C)Z" } : Jvm.MethodName) method_3_code (1 : Nat) (Option.some Jvm.ClassFile.FieldType.boolean), Jvm.Cond.code ({ cls := "com/example/vestwright/vestwright/Values", name := "number", desc := "(Ljava/lang/String;II)I" } : Jvm.MethodName) prog_6_method_12_code (5 : Nat) (Option.some Jvm.ClassFile.FieldType.int), Jvm.Cond.code ({ cls := "java/time/YearMonth", name := "of", desc := "(II)Ljava/time/YearMonth;" } : Jvm.MethodName) jdk_2340_method_5_code (2 : Nat) (Option.some (Jvm.ClassFile.FieldType.object "java/time/YearMonth")), Jvm.Cond.code ({ cls := "java/time/temporal/ChronoField", name := "checkValidValue", desc := "(J)J" } : Jvm.MethodName) jdk_2395_method_11_code (3 : Nat) (Option.some Jvm.ClassFile.FieldType.long), Jvm.Cond.code ({ cls := "java/time/temporal/ChronoField", name := "range", desc := "()Ljava/time/temporal/ValueRange;" } : Jvm.MethodName) jdk_2395_method_8_code (1 : Nat) (Option.some (Jvm.ClassFile.FieldType.object "java/time/temporal/ValueRange")), Jvm.Cond.code ({ cls := "java/time/temporal/ValueRange", name := "checkValidValue", desc := "(JLjava/time/temporal/TemporalField;)J" } : Jvm.MethodName) jdk_2423_method_13_code (4 : Nat) (Option.some Jvm.ClassFile.FieldType.long), Jvm.Cond.code ({ cls := "java/time/temporal/ValueRange", name := "isValidValue", desc := "(J)Z" } : Jvm.MethodName) jdk_2423_method_11_code (3 : Nat) (Option.some Jvm.ClassFile.FieldType.boolean), Jvm.Cond.code ({ cls := "java/time/temporal/ValueRange", name := "getMinimum", desc := "()J" } : Jvm.MethodName) jdk_2423_method_6_code (1 : Nat) (Option.some Jvm.ClassFile.FieldType.long), Jvm.Cond.code ({ cls := "java/time/temporal/ValueRange", name := "getMaximum", desc := "()J" } : Jvm.MethodName) jdk_2423_method_9_code (1 : Nat) (Option.some Jvm.ClassFile.FieldType.long), Jvm.Cond.code ({ cls := "java/time/YearMonth", name := "<init>", desc := "(II)V" } : Jvm.MethodName) jdk_2340_method_9_code (3 : Nat) (Option.none : Option Jvm.ClassFile.FieldType), Jvm.Cond.code ({ cls := "java/time/YearMonth", name := "getYear", desc := "()I" } : Jvm.MethodName) jdk_2340_method_17_code (1 : Nat) (Option.some Jvm.ClassFile.FieldType.int), Jvm.Cond.code ({ cls := "java/time/YearMonth", name := "getMonthValue", desc := "()I" } : Jvm.MethodName) jdk_2340_method_18_code (1 : Nat) (Option.some Jvm.ClassFile.FieldType.int)]
set_option maxRecDepth 65536 in
theorem codes_eq : words1.filter isCode = codes1 := rfl
theorem w_codes : ∀ c ∈ words1.filter isCode, c.before args0 about1 = true := by
  rw [codes_eq]
  intro c hc
  simp only [codes1, List.mem_cons, List.not_mem_nil, or_false] at hc
  rcases hc with rfl | rfl | rfl | rfl | rfl | rfl | rfl | rfl | rfl | rfl | rfl | rfl | rfl | rfl | rfl | rfl | rfl | rfl | rfl | rfl | rfl | rfl | rfl | rfl | rfl | rfl | rfl | rfl | rfl | rfl | rfl | rfl | rfl | rfl | rfl | rfl | rfl | rfl
  · exact w_c0
  · exact w_c1
  · exact w_c2
  · exact w_c3
  · exact w_c4
  · exact w_c5
  · exact w_c6
  · exact w_c7
  · exact w_c8
  · exact w_c9
  · exact w_c10
  · exact w_c11
  · exact w_c12
  · exact w_c13
  · exact w_c14
  · exact w_c15
  · exact w_c16
  · exact w_c17
  · exact w_c18
  · exact w_c19
  · exact w_c20
  · exact w_c21
  · exact w_c22
  · exact w_c23
  · exact w_c24
  · exact w_c25
  · exact w_c26
  · exact w_c27
  · exact w_c28
  · exact w_c29
  · exact w_c30
  · exact w_c31
  · exact w_c32
  · exact w_c33
  · exact w_c34
  · exact w_c35
  · exact w_c36
  · exact w_c37
set_option maxRecDepth 65536 in
theorem w_t1 : (words1.take 24).all (fun c => isCode c || c.before args0 about1) = true := by decide +kernel
set_option maxRecDepth 65536 in
theorem w_t2 : ((words1.drop 24).take 24).all (fun c => isCode c || c.before args0 about1) = true := by decide +kernel
set_option maxRecDepth 65536 in
theorem w_t3 : (((words1.drop 24).drop 24).take 24).all (fun c => isCode c || c.before args0 about1) = true := by decide +kernel
set_option maxRecDepth 65536 in
theorem w_t4 : ((((words1.drop 24).drop 24).drop 24).take 24).all (fun c => isCode c || c.before args0 about1) = true := by decide +kernel
set_option maxRecDepth 65536 in
theorem w_t5 : (((((words1.drop 24).drop 24).drop 24).drop 24).take 24).all (fun c => isCode c || c.before args0 about1) = true := by decide +kernel
set_option maxRecDepth 65536 in
theorem w_t6 : ((((((words1.drop 24).drop 24).drop 24).drop 24).drop 24).take 24).all (fun c => isCode c || c.before args0 about1) = true := by decide +kernel
set_option maxRecDepth 65536 in
theorem w_t7 : (((((((words1.drop 24).drop 24).drop 24).drop 24).drop 24).drop 24).take 24).all (fun c => isCode c || c.before args0 about1) = true := by decide +kernel
set_option maxRecDepth 65536 in
theorem w_t8 : (((((((words1.drop 24).drop 24).drop 24).drop 24).drop 24).drop 24).drop 24).all (fun c => isCode c || c.before args0 about1) = true := by decide +kernel
theorem w_tables : (allAtoms (Jvm.Cond.code x code maxLocals ret :: tables_1)).before args0 about1 = true := by
  rw [allAtoms_all]
  show words1.all (fun c => c.before args0 about1) = true
  refine all_split ?_ w_codes
  rw [← List.take_append_drop 24 words1, List.all_append, w_t1, ← List.take_append_drop 24 (words1.drop 24), List.all_append, w_t2, ← List.take_append_drop 24 ((words1.drop 24).drop 24), List.all_append, w_t3, ← List.take_append_drop 24 (((words1.drop 24).drop 24).drop 24), List.all_append, w_t4, ← List.take_append_drop 24 ((((words1.drop 24).drop 24).drop 24).drop 24), List.all_append, w_t5, ← List.take_append_drop 24 (((((words1.drop 24).drop 24).drop 24).drop 24).drop 24), List.all_append, w_t6, ← List.take_append_drop 24 ((((((words1.drop 24).drop 24).drop 24).drop 24).drop 24).drop 24), List.all_append, w_t7, w_t8]
  rfl
set_option maxRecDepth 65536 in
theorem w_rest : rest_1_c.before args0 about1 = true := by decide +kernel
set_option maxRecDepth 65536 in
theorem w_case : (Jvm.Cond.and given_1 narrow_1).before args0 about1 = true := by decide +kernel
set_option maxRecDepth 65536 in
theorem w_consts : constsHeld consts_1 about1 := Jvm.Lit.constsHeldB_iff.mp (by decide +kernel)
theorem w_applies : (headSpec (Jvm.Cond.code x code maxLocals ret :: tables_1) room_1).applies x e0.platform about1 = true :=
  (Spec.applies_iff w_frames).mpr ⟨w_running, w_runnable, w_alone, w_named, w_hears, w_ripe, w_room, w_tables⟩
theorem atStart : AtStart classFile x code maxLocals ret World_1 tables_1 room_1 Calls_1 rest_1 Pre_1 launch0 p0 e0 about1 theMethod args0 below0 :=
  ⟨lists_1, trivial, launch0.admits_env _ _ _, launch0.least_env, fairChoices_fair.cas, fairChoices_fair.clock, w_frames, w_args, w_heap, w_applies, ⟨w_consts, trivial⟩, w_rest, w_case⟩
end start1
theorem witness_1 : WitnessClaimed_1 := ⟨start1.p0, start1.e0, start1.about1, start1.theMethod, start1.args0, start1.below0, start1.atStart⟩
end Jvm.Pilot.@@N@@
