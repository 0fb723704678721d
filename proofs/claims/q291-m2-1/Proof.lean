import JvmDerived
import JvmDerived.Pilot.@@N@@Statement
import JvmDerived.Pilot.@@N@@Code
set_option linter.unusedVariables false
set_option linter.unusedSimpArgs false
namespace Jvm.RoadKit
open Sem ClassFile Op Lib Jvm.Stand Jvm.Free Jvm.LawKit
theorem own_retI {p : Program} {l : Launch} {e : Env} {R : Room} {s : State} {m : MethodId} {args : Array Value} {below : List Frame} {meth : Method} {c : Code} {T : State} {locs : List Loc} {cells slots : Nat} (X : Stand p l e R s m args below meth c T locs cells slots) (hx : p.tables.exec = Jvm.exec) {pc : Nat} {Ls : Array Slot} {z : Int32} {rest : List Value} (hret : meth.sig.returnType = some .int) (hd : decode c.code pc = .ok (.ireturn, 1)) {fs : List Frame}
    (hl : ∀ (f : JFrame) (acts : List Action), f.method = m → f.locked = none → f.entered = [] → (doReturn e (T.setTop f) acts (some (.int z))).1 = T.setFrames fs) : Steps p.tables e below (T.setTop (mkF m pc Ls (.int z :: rest))) (T.setFrames fs) :=
  retOut X hx hret rfl (Or.inl ⟨rfl, Or.inl rfl, z, rfl⟩) hd hl
theorem own_retR {p : Program} {l : Launch} {e : Env} {R : Room} {s : State} {m : MethodId} {args : Array Value} {below : List Frame} {meth : Method} {c : Code} {T : State} {locs : List Loc} {cells slots : Nat} (X : Stand p l e R s m args below meth c T locs cells slots) (hx : p.tables.exec = Jvm.exec) {pc : Nat} {Ls : Array Slot} {w : Value} {t : FieldType} {rest : List Value} (hret : meth.sig.returnType = some t) (ht : t.isReference = true) (hw : w.isRef = true) (hd : decode c.code pc = .ok (.areturn, 1)) {fs : List Frame}
    (hl : ∀ (f : JFrame) (acts : List Action), f.method = m → f.locked = none → f.entered = [] → (doReturn e (T.setTop f) acts (some w)).1 = T.setFrames fs) : Steps p.tables e below (T.setTop (mkF m pc Ls (w :: rest))) (T.setFrames fs) :=
  retOut X hx hret (by rcases ref_cases hw with rfl | ⟨a, rfl⟩ <;> cases t <;> first | rfl | (cases ht; done)) (Or.inr (Or.inr (Or.inr (Or.inr ⟨rfl, ht, hw⟩)))) hd hl
end Jvm.RoadKit
/- laws to paste: Road.backV, Road.lenW, Road.chN, Road.empW, Road.codOf (cut by pick.py; bodies as the Statement names them) -/
namespace Jvm.Pilot.@@N@@
namespace StrChars
open Jvm Sem ClassFile Op Lib Jvm.Stand Jvm.Free.XT Jvm.Free.ALB Jvm.Free.JM Jvm.Free
open Jvm.Lib.Cold (StaticIs)
/-- a char array whose places are chars -/
def Ch (a : Addr) (A : Cell) (U : State) : Prop := Arr .char a A U ∧ Typed .char A
theorem Ch.mv {a : Addr} {A : Cell} {U U' : State} (h : Ch a A U) (hal : U.vm.Alike U'.vm) (hh : U'.heap = U.heap) : Ch a A U' := ⟨h.1.mv hal hh, h.2⟩
theorem Ch.keep {a : Addr} {A : Cell} {U U' : State} (h : Ch a A U) (hal : U.vm.Alike U'.vm) (hk : U'.heap[a]? = some A) : Ch a A U' := ⟨h.1.keep hal hk, h.2⟩
/-- what place i of a char[]'s cell holds -/
def cv (A : Cell) (i : Nat) : Int32 := match A.slots[i]? with | some (.int x) => x | _ => 0
theorem Ch.get {a : Addr} {A : Cell} {U : State} (h : Ch a A U) {i : Nat} (hi : i < A.slots.size) : A.slots[i]? = some (.int (cv A i)) := by
  have e := Array.getElem?_eq_getElem hi
  have f := h.2 i _ e
  unfold cv; rw [e]
  generalize A.slots[i] = v at f
  cases v <;> simp [fits] at f ⊢
/-- the byte that i2b leaves of a char -/
def lo8 (x : Int32) : Int32 := x.toInt8.toInt32
theorem fits_lo8 (y : Int32) : fits .byte (.int (lo8 y)) = true := by
  have h1 := y.toInt8.le_toInt
  have h2 := y.toInt8.toInt_lt
  simp only [lo8, fits, Bool.and_eq_true, decide_eq_true_eq, Int32.le_iff_toInt_le, Int8.toInt_toInt32, show (-128 : Int32).toInt = -128 from by decide, show (127 : Int32).toInt = 127 from by decide]
  omega
/-- A' is A but that each place j of lo .. hi - 1 holds f j -/
def Laid (A A' : Cell) (lo hi : Nat) (f : Nat → Value) : Prop := A'.cls = A.cls ∧ A'.vm = A.vm ∧ A'.slots.size = A.slots.size ∧ ∀ i, A'.slots[i]? = if lo ≤ i ∧ i < hi then some (f i) else A.slots[i]?
theorem Laid.zero (A : Cell) (lo : Nat) (f : Nat → Value) : Laid A A lo (lo + 0) f := ⟨rfl, rfl, rfl, fun i => by rw [if_neg (by omega)]⟩
theorem Laid.step {A Ak : Cell} {lo k : Nat} {f : Nat → Value} {v : Value} (h : Laid A Ak lo k f) (hlo : lo ≤ k) (hk : k < Ak.slots.size) (hv : v = f k) : Laid A (Ak.setSlot k v) lo (k + 1) f := by
  refine ⟨h.1, h.2.1, by simpa [Cell.setSlot] using h.2.2.1, fun i => ?_⟩
  by_cases e : k = i
  · subst e; rw [Cell.slots_setSlot_self v hk, if_pos (by omega), hv]
  · rw [Cell.slots_setSlot_ne v e, h.2.2.2 i]
    by_cases q : lo ≤ i ∧ i < k
    · rw [if_pos q, if_pos (by omega)]
    · rw [if_neg q, if_neg (by omega)]
def U16 : String := "java/lang/StringUTF16"
namespace Cmp5
def yN : MethodName := ⟨"java/lang/StringUTF16", "compress", "([CI[BII)I"⟩
abbrev yB : ByteArray := jdk_52_method_21_code
theorem d0 : decode yB 0 = .ok (.iconst 0, 1) := by decide +kernel
theorem d1 : decode yB 1 = .ok (.istore 5, 2) := by decide +kernel
theorem d3 : decode yB 3 = .ok (.iload 5, 2) := by decide +kernel
theorem d5 : decode yB 5 = .ok (.iload 4, 2) := by decide +kernel
theorem d7 : decode yB 7 = .ok (.if_icmp (.ge) 37, 3) := by decide +kernel
theorem d10 : decode yB 10 = .ok (.aload_n 0, 1) := by decide +kernel
theorem d11 : decode yB 11 = .ok (.iload_n 1, 1) := by decide +kernel
theorem d12 : decode yB 12 = .ok (.caload, 1) := by decide +kernel
theorem d13 : decode yB 13 = .ok (.istore 6, 2) := by decide +kernel
theorem d15 : decode yB 15 = .ok (.iload 6, 2) := by decide +kernel
theorem d17 : decode yB 17 = .ok (.sipush 255, 3) := by decide +kernel
theorem d20 : decode yB 20 = .ok (.if_icmp (.le) 6, 3) := by decide +kernel
theorem d26 : decode yB 26 = .ok (.aload_n 2, 1) := by decide +kernel
theorem d27 : decode yB 27 = .ok (.iload_n 3, 1) := by decide +kernel
theorem d28 : decode yB 28 = .ok (.iload 6, 2) := by decide +kernel
theorem d30 : decode yB 30 = .ok (.i2b, 1) := by decide +kernel
theorem d31 : decode yB 31 = .ok (.bastore, 1) := by decide +kernel
theorem d32 : decode yB 32 = .ok (.iinc 1 1, 3) := by decide +kernel
theorem d35 : decode yB 35 = .ok (.iinc 3 1, 3) := by decide +kernel
theorem d38 : decode yB 38 = .ok (.iinc 5 1, 3) := by decide +kernel
theorem d41 : decode yB 41 = .ok (.goto (-38), 3) := by decide +kernel
theorem d44 : decode yB 44 = .ok (.iload 4, 2) := by decide +kernel
theorem d46 : decode yB 46 = .ok (.ireturn, 1) := by decide +kernel
def site : List Cond := []
def tab : Cond := tabOf yN yB 7 (some .int) site
def P (b : Addr) (A : Cell) (d : Addr) (B : Cell) (o q len : Nat) (args : Array Value) (s : State) : Prop := args = #[.ref b, .int (Int32.ofNat o), .ref d, .int (Int32.ofNat q), .int (Int32.ofNat len)] ∧ Ch b A s ∧ Arr .byte d B s ∧ b ≠ d ∧ o + len ≤ A.slots.size ∧ q + len ≤ B.slots.size ∧ ∀ i, i < len → ¬ 255 < cv A (o + i)
def E (b : Addr) (A : Cell) (d : Addr) (B : Cell) (o q len : Nat) (r : Option Value) (s u : State) : Prop := r = some (.int (Int32.ofNat len)) ∧ ∃ B', Put d B' s u ∧ Laid B B' q (q + len) (fun j => Value.int (lo8 (cv A (o + (j - q)))))
/-- no char of the range above 255: len; the places written hold each char's low byte -/
theorem law (l : Launch) (b : Addr) (A : Cell) (d : Addr) (B : Cell) (o q len : Nat) : Law l yN 5 5 0 0 yB 7 (some .int) site (P b A d B o q len) (E b A d B o q len) (copyLocs d q len) 0 0 := by
  refine Law.of_walk (plainFor_of_name (by decide +kernel)) (by decide +kernel) (by decide +kernel) (by decide) (fun _ _ h => by rw [h.1]; rfl) (fun _ U U' hal hh h => ⟨h.1, h.2.1.mv hal hh, h.2.2.1.mv hal hh, h.2.2.2⟩) (fun r U U' V V' h1 hal h2 h => ⟨h.1, h.2.elim fun B' q => ⟨B', q.1.mv h1 h2, q.2⟩⟩) ?_
  intro p e s m args below meth c s₁ X0 hexec hbytes hml hret hlk hnm hown hh0 W hP
  obtain ⟨rfl, hA, hB, hne, l1, l2, hp⟩ := hP
  have c1 : Steps p.tables e below (s₁.setTop (entryFrame m #[.ref b, .int (Int32.ofNat o), .ref d, .int (Int32.ofNat q), .int (Int32.ofNat len)] 7)) (s₁.setTop (mkF m 0 #[.val (.ref b), .val (.int (Int32.ofNat o)), .val (.ref d), .val (.int (Int32.ofNat q)), .val (.int (Int32.ofNat len)), .unset, .unset] [])) := entry rfl
  have hA0 := hA.1.mv X0.warmed.alike hh0
  have hB0 := hB.mv X0.warmed.alike hh0
  have a31 := hA.1.2.2.2
  have c2 : Steps p.tables e below (s₁.setTop (entryFrame m #[.ref b, .int (Int32.ofNat o), .ref d, .int (Int32.ofNat q), .int (Int32.ofNat len)] 7)) (s₁.setTop (mkF m 3 #[.val (.ref b), .val (.int (Int32.ofNat o)), .val (.ref d), .val (.int (Int32.ofNat q)), .val (.int (Int32.ofNat len)), .val (.int 0), .unset] [])) := c1.trans (by
    refine iconstV X0.here hexec rfl 0 (hb hbytes d0) (by decide) ?_
    refine XS.istore X0.here hexec rfl (hb hbytes d1) rfl rfl ?_
    exact Steps.refl _)
  have loop : ∀ (r i : Nat), i + r = len → ∀ (z : Slot), (z = .unset ∨ ∃ w, z = .val w ∧ w.category = 1) → ∀ (Tl : State) (Bk : Cell), Stand p l e { frames := 0, locals := 0, cells := 0, slots := 0 } s m #[.ref b, .int (Int32.ofNat o), .ref d, .int (Int32.ofNat q), .int (Int32.ofNat len)] below meth c Tl ([] ++ copyLocs d q i) 0 0 → Put d Bk s₁ Tl → Laid B Bk q (q + i) (fun j => Value.int (lo8 (cv A (o + (j - q))))) →
      Steps p.tables e below (s₁.setTop (entryFrame m #[.ref b, .int (Int32.ofNat o), .ref d, .int (Int32.ofNat q), .int (Int32.ofNat len)] 7)) (Tl.setTop (mkF m 3 #[.val (.ref b), .val (.int (Int32.ofNat (o + i))), .val (.ref d), .val (.int (Int32.ofNat (q + i))), .val (.int (Int32.ofNat len)), .val (.int (Int32.ofNat i)), z] [])) → ∃ (T' : State) (B' : Cell) (z' : Slot), Stand p l e { frames := 0, locals := 0, cells := 0, slots := 0 } s m #[.ref b, .int (Int32.ofNat o), .ref d, .int (Int32.ofNat q), .int (Int32.ofNat len)] below meth c T' ([] ++ copyLocs d q len) 0 0 ∧ Put d B' s₁ T' ∧ Laid B B' q (q + len) (fun j => Value.int (lo8 (cv A (o + (j - q))))) ∧
      Steps p.tables e below (s₁.setTop (entryFrame m #[.ref b, .int (Int32.ofNat o), .ref d, .int (Int32.ofNat q), .int (Int32.ofNat len)] 7)) (T'.setTop (mkF m 3 #[.val (.ref b), .val (.int (Int32.ofNat (o + len))), .val (.ref d), .val (.int (Int32.ofNat (q + len))), .val (.int (Int32.ofNat len)), .val (.int (Int32.ofNat len)), z'] [])) := by
    intro r
    induction r with
    | zero =>
      intro i hi z hz Tl Bk Xl pl fl cl
      have hil : i = len := by omega
      rw [hil] at Xl fl cl
      exact ⟨Tl, Bk, z, Xl, pl, fl, cl⟩
    | succ r ih =>
      intro i hi z hz Tl Bk Xl pl fl cl
      have all := X0.warmed.alike.symm.trans Xl.warmed.alike
      have hAl := hA0.keep all (pl.other hne hA0.1)
      have hBk := hB0.like all pl.1 fl.1 fl.2.1 fl.2.2.1
      have hlt : q + i < Bk.slots.size := by rw [fl.2.2.1]; omega
      have c3 : Steps p.tables e below (s₁.setTop (entryFrame m #[.ref b, .int (Int32.ofNat o), .ref d, .int (Int32.ofNat q), .int (Int32.ofNat len)] 7)) (Tl.setTop (mkF m 12 #[.val (.ref b), .val (.int (Int32.ofNat (o + i))), .val (.ref d), .val (.int (Int32.ofNat (q + i))), .val (.int (Int32.ofNat len)), .val (.int (Int32.ofNat i)), z] [.int (Int32.ofNat (o + i)), .ref b])) := cl.trans (by
        refine XS.iload Xl.here hexec rfl (hb hbytes d3) rfl ?_
        refine XS.iload Xl.here hexec rfl (hb hbytes d5) rfl ?_
        refine XS.icmpNo Xl.here hexec rfl (hb hbytes d7) rfl (ii_ge_f (lt32 (by omega) (by omega))) ?_
        refine XS.aloadN Xl.here hexec rfl (hb hbytes d10) rfl rfl ?_
        refine XS.iloadN Xl.here hexec rfl (hb hbytes d11) rfl ?_
        exact Steps.refl _)
      have c4 : Steps p.tables e below (s₁.setTop (entryFrame m #[.ref b, .int (Int32.ofNat o), .ref d, .int (Int32.ofNat q), .int (Int32.ofNat len)] 7)) (Tl.setTop (mkF m 13 #[.val (.ref b), .val (.int (Int32.ofNat (o + i))), .val (.ref d), .val (.int (Int32.ofNat (q + i))), .val (.int (Int32.ofNat len)), .val (.int (Int32.ofNat i)), z] [.int (cv A (o + i))])) := c3.trans (by
        refine Xl.aget hexec hAl rfl (hA.get (i := o + i) (by omega)) rfl rfl (hb hbytes d12) ?_
        exact Steps.refl _)
      have c5 : Steps p.tables e below (s₁.setTop (entryFrame m #[.ref b, .int (Int32.ofNat o), .ref d, .int (Int32.ofNat q), .int (Int32.ofNat len)] 7)) (Tl.setTop (mkF m 15 #[.val (.ref b), .val (.int (Int32.ofNat (o + i))), .val (.ref d), .val (.int (Int32.ofNat (q + i))), .val (.int (Int32.ofNat len)), .val (.int (Int32.ofNat i)), .val (.int (cv A (o + i)))] [])) := c4.trans (by
        refine XS.istoreS Xl.here hexec rfl (hb hbytes d13) rfl rfl hz ?_
        exact Steps.refl _)
      have c6 : Steps p.tables e below (s₁.setTop (entryFrame m #[.ref b, .int (Int32.ofNat o), .ref d, .int (Int32.ofNat q), .int (Int32.ofNat len)] 7)) (Tl.setTop (mkF m 31 #[.val (.ref b), .val (.int (Int32.ofNat (o + i))), .val (.ref d), .val (.int (Int32.ofNat (q + i))), .val (.int (Int32.ofNat len)), .val (.int (Int32.ofNat i)), .val (.int (cv A (o + i)))] [.int (lo8 (cv A (o + i))), .int (Int32.ofNat (q + i)), .ref d])) := c5.trans (by
        refine XS.iload Xl.here hexec rfl (hb hbytes d15) rfl ?_
        refine sipushV Xl.here hexec rfl 255 (hb hbytes d17) (by decide) ?_
        refine XS.icmpYes Xl.here hexec rfl (pc0 := 20) rfl (hb hbytes d20) rfl (ii_le_t (hp i (by omega))) (by decide) rfl ?_
        refine XS.aloadN Xl.here hexec rfl (hb hbytes d26) rfl rfl ?_
        refine XS.iloadN Xl.here hexec rfl (hb hbytes d27) rfl ?_
        refine XS.iload Xl.here hexec rfl (hb hbytes d28) rfl ?_
        refine i2b Xl.here hexec rfl (hb hbytes d30) rfl ?_
        exact Steps.refl _)
      obtain ⟨T7, X7, p7, st7⟩ := Xl.aput hexec hBk rfl hlt rfl (fits_lo8 (cv A (o + i))) (g := (mkF m 31 #[.val (.ref b), .val (.int (Int32.ofNat (o + i))), .val (.ref d), .val (.int (Int32.ofNat (q + i))), .val (.int (Int32.ofNat len)), .val (.int (Int32.ofNat i)), .val (.int (cv A (o + i)))] [.int (lo8 (cv A (o + i))), .int (Int32.ofNat (q + i)), .ref d])) rfl (rest := []) rfl (hb hbytes d31)
      have c8 : Steps p.tables e below (s₁.setTop (entryFrame m #[.ref b, .int (Int32.ofNat o), .ref d, .int (Int32.ofNat q), .int (Int32.ofNat len)] 7)) (T7.setTop (mkF m 32 #[.val (.ref b), .val (.int (Int32.ofNat (o + i))), .val (.ref d), .val (.int (Int32.ofNat (q + i))), .val (.int (Int32.ofNat len)), .val (.int (Int32.ofNat i)), .val (.int (cv A (o + i)))] [])) := c6.trans (st7 _ (Steps.refl _))
      have c9 : Steps p.tables e below (s₁.setTop (entryFrame m #[.ref b, .int (Int32.ofNat o), .ref d, .int (Int32.ofNat q), .int (Int32.ofNat len)] 7)) (T7.setTop (mkF m 3 #[.val (.ref b), .val (.int (Int32.ofNat (o + i) + 1)), .val (.ref d), .val (.int (Int32.ofNat (q + i) + 1)), .val (.int (Int32.ofNat len)), .val (.int (Int32.ofNat i + 1)), .val (.int (cv A (o + i)))] [])) := c8.trans (by
        refine iincV X7.here hexec rfl 1 (hb hbytes d32) (by decide) rfl rfl ?_
        refine iincV X7.here hexec rfl 1 (hb hbytes d35) (by decide) rfl rfl ?_
        refine iincV X7.here hexec rfl 1 (hb hbytes d38) (by decide) rfl rfl ?_
        refine XS.goto X7.here hexec rfl (pc0 := 41) rfl (hb hbytes d41) (by decide) rfl ?_
        exact Steps.refl _)
      have c10 : Steps p.tables e below (s₁.setTop (entryFrame m #[.ref b, .int (Int32.ofNat o), .ref d, .int (Int32.ofNat q), .int (Int32.ofNat len)] 7)) (T7.setTop (mkF m 3 #[.val (.ref b), .val (.int (Int32.ofNat (o + (i + 1)))), .val (.ref d), .val (.int (Int32.ofNat (q + (i + 1)))), .val (.int (Int32.ofNat len)), .val (.int (Int32.ofNat (i + 1))), .val (.int (cv A (o + i)))] [])) := by
        have := c9
        rw [succ32, succ32, succ32] at this
        exact this
      exact ih (i + 1) (by omega) _ (Or.inr ⟨_, rfl, rfl⟩) T7 _ (by rw [copyLocs_step, ← List.append_assoc]; exact X7) (pl.trans p7) (fl.step (by omega) hlt (by simp)) c10
  obtain ⟨T9, B9, z9, X9, p9, f9, g9⟩ := loop len 0 (by omega) .unset (Or.inl rfl) s₁ B (by simpa [copyLocs] using X0) ⟨hB0.1, fun _ _ => rfl, rfl⟩ (Laid.zero _ _ _) c2
  have c11 : Steps p.tables e below (s₁.setTop (entryFrame m #[.ref b, .int (Int32.ofNat o), .ref d, .int (Int32.ofNat q), .int (Int32.ofNat len)] 7)) (T9.setTop (mkF m 46 #[.val (.ref b), .val (.int (Int32.ofNat (o + len))), .val (.ref d), .val (.int (Int32.ofNat (q + len))), .val (.int (Int32.ofNat len)), .val (.int (Int32.ofNat len)), z9] [.int (Int32.ofNat len)])) := g9.trans (by
    refine XS.iload X9.here hexec rfl (hb hbytes d3) rfl ?_
    refine XS.iload X9.here hexec rfl (hb hbytes d5) rfl ?_
    refine XS.icmpYes X9.here hexec rfl (pc0 := 7) rfl (hb hbytes d7) rfl (ii_ge_t (nlt32 (by omega) (Nat.le_refl _))) (by decide) rfl ?_
    refine XS.iload X9.here hexec rfl (hb hbytes d44) rfl ?_
    exact Steps.refl _)
  exact ⟨T9, some (.int (Int32.ofNat len)), _, _, _, X9, by simp, rfl, rfl, (fun h => by cases h), ⟨rfl, B9, p9.from hh0, f9⟩, fun fs hl => c11.trans (X9.ireturnOut hexec hret rfl (Or.inl rfl) (hb hbytes d46) hl)⟩
end Cmp5
namespace Cmp3
def yN : MethodName := ⟨"java/lang/StringUTF16", "compress", "([CII)[B"⟩
abbrev yB : ByteArray := jdk_52_method_16_code
theorem d0 : decode yB 0 = .ok (.iload_n 2, 1) := by decide +kernel
theorem d1 : decode yB 1 = .ok (.newarray .byte, 2) := by decide +kernel
theorem d3 : decode yB 3 = .ok (.astore_n 3, 1) := by decide +kernel
theorem d4 : decode yB 4 = .ok (.aload_n 0, 1) := by decide +kernel
theorem d5 : decode yB 5 = .ok (.iload_n 1, 1) := by decide +kernel
theorem d6 : decode yB 6 = .ok (.aload_n 3, 1) := by decide +kernel
theorem d7 : decode yB 7 = .ok (.iconst 0, 1) := by decide +kernel
theorem d8 : decode yB 8 = .ok (.iload_n 2, 1) := by decide +kernel
theorem d9 : decode yB 9 = .ok (.invokestatic 115, 3) := by decide +kernel
theorem d12 : decode yB 12 = .ok (.istore 4, 2) := by decide +kernel
theorem d14 : decode yB 14 = .ok (.iload 4, 2) := by decide +kernel
theorem d16 : decode yB 16 = .ok (.iload_n 2, 1) := by decide +kernel
theorem d17 : decode yB 17 = .ok (.if_icmp (.eq) 40, 3) := by decide +kernel
theorem d57 : decode yB 57 = .ok (.aload_n 3, 1) := by decide +kernel
theorem d58 : decode yB 58 = .ok (.areturn, 1) := by decide +kernel
def site : List Cond := [.arrayClass .byte, Cmp5.tab] ++ staticW U16 115 Cmp5.yN
def tab : Cond := tabOf yN yB 6 (some (.array .byte)) site
def P (b : Addr) (A : Cell) (o len : Nat) (args : Array Value) (s : State) : Prop := args = #[.ref b, .int (Int32.ofNat o), .int (Int32.ofNat len)] ∧ Ch b A s ∧ o + len ≤ A.slots.size ∧ len ≤ 536870912 ∧ ∀ i, i < len → ¬ 255 < cv A (o + i)
def E (b : Addr) (A : Cell) (o len : Nat) (r : Option Value) (s u : State) : Prop := NewArr .byte "[B" len (fun j => .int (lo8 (cv A (o + j)))) r s u ∧ u.heap.size = s.heap.size + 1
/-- no char of the range above 255: a new byte[] of their low bytes -/
theorem law (l : Launch) (b : Addr) (A : Cell) (o len : Nat) : Law l yN 3 3 1 18 yB 6 (some (.array .byte)) site (P b A o len) (E b A o len) [] 1 len := by
  refine Law.of_walk (plainFor_of_name (by decide +kernel)) (by decide +kernel) (by decide +kernel) (by decide) (fun _ _ h => by rw [h.1]; rfl) (fun _ U U' hal hh h => ⟨h.1, h.2.1.mv hal hh, h.2.2⟩) (fun r U U' V V' h1 hal h2 h => ⟨NewArr.mv r U U' V V' h1 hal h2 h.1, by rw [h1, h2]; exact h.2⟩) ?_
  intro p e s m args below meth c s₁ X0 hexec hbytes hml hret hlk hnm hown hh0 W hP
  obtain ⟨rfl, hA, l1, l2, hp⟩ := hP
  have a31 := hA.1.2.2.2
  have c1 : Steps p.tables e below (s₁.setTop (entryFrame m #[.ref b, .int (Int32.ofNat o), .int (Int32.ofNat len)] 6)) (s₁.setTop (mkF m 0 #[.val (.ref b), .val (.int (Int32.ofNat o)), .val (.int (Int32.ofNat len)), .unset, .unset, .unset] [])) := entry rfl
  have c2 : Steps p.tables e below (s₁.setTop (entryFrame m #[.ref b, .int (Int32.ofNat o), .int (Int32.ofNat len)] 6)) (s₁.setTop (mkF m 1 #[.val (.ref b), .val (.int (Int32.ofNat o)), .val (.int (Int32.ofNat len)), .unset, .unset, .unset] [.int (Int32.ofNat len)])) := c1.trans (by
    refine XS.iloadN X0.here hexec rfl (hb hbytes d0) rfl ?_
    exact Steps.refl _)
  obtain ⟨T3, B3, X3, ba3, bs3, bv3, bh3, bf3, st3⟩ := X0.anew hexec (atype := .byte) (wk W (.arrayClass .byte)) rfl (by show len * 1 ≤ _; omega) (by omega) (g := (mkF m 1 #[.val (.ref b), .val (.int (Int32.ofNat o)), .val (.int (Int32.ofNat len)), .unset, .unset, .unset] [.int (Int32.ofNat len)])) rfl (hb hbytes d1) (rest := []) rfl (Nat.le_refl _) (by show 0 + len ≤ len; omega)
  rw [hh0] at ba3 st3
  have kp3 : XT.Kept s T3 := (XT.Kept.of_eq hh0).push bh3
  have hA3 := hA.keep X3.warmed.alike (kp3 _ _ hA.1.1)
  have hne : b ≠ s.heap.size := hA.1.ne
  have c4 : Steps p.tables e below (s₁.setTop (entryFrame m #[.ref b, .int (Int32.ofNat o), .int (Int32.ofNat len)] 6)) (T3.setTop (mkF m 3 #[.val (.ref b), .val (.int (Int32.ofNat o)), .val (.int (Int32.ofNat len)), .unset, .unset, .unset] [.ref s.heap.size])) := c2.trans (st3 _ (Steps.refl _))
  have c5 : Steps p.tables e below (s₁.setTop (entryFrame m #[.ref b, .int (Int32.ofNat o), .int (Int32.ofNat len)] 6)) (T3.setTop (mkF m 9 #[.val (.ref b), .val (.int (Int32.ofNat o)), .val (.int (Int32.ofNat len)), .val (.ref s.heap.size), .unset, .unset] [.int (Int32.ofNat len), .int 0, .ref s.heap.size, .int (Int32.ofNat o), .ref b])) := c4.trans (by
    refine XS.astoreN X3.here hexec rfl (hb hbytes d3) rfl rfl rfl ?_
    refine XS.aloadN X3.here hexec rfl (hb hbytes d4) rfl rfl ?_
    refine XS.iloadN X3.here hexec rfl (hb hbytes d5) rfl ?_
    refine XS.aloadN X3.here hexec rfl (hb hbytes d6) rfl rfl ?_
    refine iconstV X3.here hexec rfl 0 (hb hbytes d7) (by decide) ?_
    refine XS.iloadN X3.here hexec rfl (hb hbytes d8) rfl ?_
    exact Steps.refl _)
  obtain ⟨v6, T6, X6, E6, g6⟩ := X3.callS hexec (Cmp5.law l b A s.heap.size B3 o 0 len) hown (wks W (staticW U16 115 Cmp5.yN)) (wk W Cmp5.tab) (W := 0) (Nat.le_of_ble_eq_true rfl) (Nat.le_of_ble_eq_true rfl) (Nat.le_refl _) (by show 0 + len + 0 ≤ len; omega) (g := (mkF m 9 #[.val (.ref b), .val (.int (Int32.ofNat o)), .val (.int (Int32.ofNat len)), .val (.ref s.heap.size), .unset, .unset] [.int (Int32.ofNat len), .int (Int32.ofNat 0), .ref s.heap.size, .int (Int32.ofNat o), .ref b])) rfl (by rw [hml]; rfl) c5 (argsL := [.ref b, .int (Int32.ofNat o), .ref s.heap.size, .int (Int32.ofNat 0), .int (Int32.ofNat len)]) (rest := []) rfl rfl (by show 2 * 0 + 0 ≤ _; decide) (hb hbytes d9) (⟨rfl, hA3, ba3, hne, l1, by rw [bs3]; simp, hp⟩)
  obtain ⟨rfl, B6, p6, f6⟩ := E6
  have c7 : Steps p.tables e below (s₁.setTop (entryFrame m #[.ref b, .int (Int32.ofNat o), .int (Int32.ofNat len)] 6)) (T6.setTop (mkF m 12 #[.val (.ref b), .val (.int (Int32.ofNat o)), .val (.int (Int32.ofNat len)), .val (.ref s.heap.size), .unset, .unset] [.int (Int32.ofNat len)])) := g6
  have c8 : Steps p.tables e below (s₁.setTop (entryFrame m #[.ref b, .int (Int32.ofNat o), .int (Int32.ofNat len)] 6)) (T6.setTop (mkF m 58 #[.val (.ref b), .val (.int (Int32.ofNat o)), .val (.int (Int32.ofNat len)), .val (.ref s.heap.size), .val (.int (Int32.ofNat len)), .unset] [.ref s.heap.size])) := c7.trans (by
    refine XS.istore X6.here hexec rfl (hb hbytes d12) rfl rfl ?_
    refine XS.iload X6.here hexec rfl (hb hbytes d14) rfl ?_
    refine XS.iloadN X6.here hexec rfl (hb hbytes d16) rfl ?_
    refine XS.icmpYes X6.here hexec rfl (pc0 := 17) rfl (hb hbytes d17) rfl (ii_eq_t rfl) (by decide) rfl ?_
    refine XS.aloadN X6.here hexec rfl (hb hbytes d57) rfl rfl ?_
    exact Steps.refl _)
  have X8 := X6.wide (L' := []) (cells' := 1) (slots' := len) (fun x hx hlt => by
    simp only [List.nil_append, copyLocs, List.mem_map, List.mem_range] at hx
    obtain ⟨i, -, rfl⟩ := hx
    exact absurd hlt (Nat.lt_irrefl _)) (Nat.le_refl _) (by omega)
  exact ⟨T6, some (.ref s.heap.size), _, _, _, X8, rfl, rfl, rfl, (fun h => by cases h), ⟨⟨rfl, B6, ba3.like (X3.warmed.alike.symm.trans X6.warmed.alike) p6.1 f6.1 f6.2.1 f6.2.2.1, f6.2.1.trans bv3, by rw [X6.warmed.alike.findClass, f6.1]; exact bf3, by rw [f6.2.2.1, bs3]; simp, fun j hj => by rw [f6.2.2.2 j, if_pos (by omega)]; rfl, kp3.put p6 (Nat.le_refl _)⟩, by rw [p6.2.2, bh3, hh0]; simp⟩, fun fs hl => c8.trans (X8.areturnOut hexec rfl hret rfl (hb hbytes d58) hl)⟩
end Cmp3
namespace CodL
def yN : MethodName := ⟨"java/lang/StringUTF16", "coderFromArrayLen", "([BI)B"⟩
abbrev yB : ByteArray := jdk_52_method_15_code
theorem d0 : decode yB 0 = .ok (.iload_n 1, 1) := by decide +kernel
theorem d1 : decode yB 1 = .ok (.aload_n 0, 1) := by decide +kernel
theorem d2 : decode yB 2 = .ok (.arraylength, 1) := by decide +kernel
theorem d3 : decode yB 3 = .ok (.isub, 1) := by decide +kernel
theorem d4 : decode yB 4 = .ok (.bipush 31, 2) := by decide +kernel
theorem d6 : decode yB 6 = .ok (.iushr, 1) := by decide +kernel
theorem d7 : decode yB 7 = .ok (.i2b, 1) := by decide +kernel
theorem d8 : decode yB 8 = .ok (.ireturn, 1) := by decide +kernel
def site : List Cond := []
def tab : Cond := tabOf yN yB 2 (some .byte) site
def P (d : Addr) (B : Cell) (args : Array Value) (s : State) : Prop := args = #[.ref d, .int (Int32.ofNat B.slots.size)] ∧ Arr .byte d B s
def E (r : Option Value) (s u : State) : Prop := XT.PureE (some (.int 0)) r s u
/-- an array as long as the number of chars: LATIN1 -/
theorem law (l : Launch) (d : Addr) (B : Cell) : Law l yN 2 2 0 0 yB 2 (some .byte) site (P d B) E [] 0 0 := by
  refine Law.of_walk (plainFor_of_name (by decide +kernel)) (by decide +kernel) (by decide +kernel) (by decide) (fun _ _ h => by rw [h.1]; rfl) (fun _ U U' hal hh h => ⟨h.1, h.2.mv hal hh⟩) (fun r U U' V V' h1 hal h2 h => XT.PureE.mv r U U' V V' h1 hal h2 h) ?_
  intro p e s m args below meth c s₁ X0 hexec hbytes hml hret hlk hnm hown hh0 W hP
  obtain ⟨rfl, hB⟩ := hP
  have hB0 := hB.mv X0.warmed.alike hh0
  have c1 : Steps p.tables e below (s₁.setTop (entryFrame m #[.ref d, .int (Int32.ofNat B.slots.size)] 2)) (s₁.setTop (mkF m 0 #[.val (.ref d), .val (.int (Int32.ofNat B.slots.size))] [])) := entry rfl
  have c2 : Steps p.tables e below (s₁.setTop (entryFrame m #[.ref d, .int (Int32.ofNat B.slots.size)] 2)) (s₁.setTop (mkF m 2 #[.val (.ref d), .val (.int (Int32.ofNat B.slots.size))] [.ref d, .int (Int32.ofNat B.slots.size)])) := c1.trans (by
    refine XS.iloadN X0.here hexec rfl (hb hbytes d0) rfl ?_
    refine XS.aloadN X0.here hexec rfl (hb hbytes d1) rfl rfl ?_
    exact Steps.refl _)
  have c3 : Steps p.tables e below (s₁.setTop (entryFrame m #[.ref d, .int (Int32.ofNat B.slots.size)] 2)) (s₁.setTop (mkF m 8 #[.val (.ref d), .val (.int (Int32.ofNat B.slots.size))] [.int (lo8 (ushr (Int32.ofNat B.slots.size - Int32.ofNat B.slots.size) 31))])) := c2.trans (by
    refine X0.alen hexec hB0 rfl rfl (hb hbytes d2) ?_
    refine XS.isub X0.here hexec rfl (hb hbytes d3) rfl ?_
    refine bipushV X0.here hexec rfl 31 (hb hbytes d4) (by decide) ?_
    refine iushr X0.here hexec rfl (hb hbytes d6) rfl ?_
    refine i2b X0.here hexec rfl (hb hbytes d7) rfl ?_
    exact Steps.refl _)
  have e0 : lo8 (ushr (Int32.ofNat B.slots.size - Int32.ofNat B.slots.size) 31) = 0 := by rw [Int32.sub_self]; decide
  rw [e0] at c3
  exact ⟨s₁, some (.int 0), _, _, _, X0, rfl, rfl, rfl, (fun h => by cases h), ⟨rfl, hh0⟩, fun fs hl => c3.trans (X0.ireturnOut hexec hret rfl (Or.inr (Or.inr (Or.inl rfl))) (hb hbytes d8) hl)⟩
end CodL
/-- the String at a is Latin-1 over a new byte[] (the heap's one new cell): the low bytes of the len chars of A from o on; every cell but a is kept -/
def Got (a : Addr) (D : Cell) (fV fC : Field) (A : Cell) (o len : Nat) (r : Option Value) (s u : State) : Prop := r = none ∧ ∃ D' V : Cell, Blank "java/lang/String" a D' u ∧ Same D D' [fV.slot, fC.slot] ∧ D'.slots[fV.slot]? = some (.ref s.heap.size) ∧ D'.slots[fC.slot]? = some (.int 0) ∧ Arr .byte s.heap.size V u ∧ V.vm = .none ∧ u.vm.findClass "[B" = some V.cls ∧ V.slots.size = len ∧ (∀ j, j < len → V.slots[j]? = some (.int (lo8 (cv A (o + j))))) ∧ (∀ (y : Addr) (c : Cell), y ≠ a → s.heap[y]? = some c → u.heap[y]? = some c) ∧ u.heap.size = s.heap.size + 1
theorem Got.mv {a : Addr} {D A : Cell} {fV fC : Field} {o len : Nat} : ∀ r (U U' V V' : State), U'.heap = U.heap → V.vm.Alike V'.vm → V'.heap = V.heap → Got a D fV fC A o len r U V → Got a D fV fC A o len r U' V' :=
  fun r U U' V V' h1 hal h2 ⟨e0, D', X, a1, a2, a3, a4, a5, a6, a7, a8, a9, a10, a11⟩ => ⟨e0, D', X, a1.mv hal h2, a2, by rw [h1]; exact a3, a4, by rw [h1]; exact a5.mv hal h2, a6, by rw [hal.findClass]; exact a7, a8, a9, by rw [h1, h2]; exact a10, by rw [h1, h2]; exact a11⟩
namespace New4
def yN : MethodName := ⟨"java/lang/String", "<init>", "([CIILjava/lang/Void;)V"⟩
abbrev yB : ByteArray := jdk_42_method_149_code
theorem d0 : decode yB 0 = .ok (.aload_n 0, 1) := by decide +kernel
theorem d1 : decode yB 1 = .ok (.invokespecial 1, 3) := by decide +kernel
theorem d4 : decode yB 4 = .ok (.iload_n 3, 1) := by decide +kernel
theorem d5 : decode yB 5 = .ok (.ifCond (.ne) 22, 3) := by decide +kernel
theorem d27 : decode yB 27 = .ok (.getstatic 38, 3) := by decide +kernel
theorem d30 : decode yB 30 = .ok (.ifCond (.eq) 28, 3) := by decide +kernel
theorem d33 : decode yB 33 = .ok (.aload_n 1, 1) := by decide +kernel
theorem d34 : decode yB 34 = .ok (.iload_n 2, 1) := by decide +kernel
theorem d35 : decode yB 35 = .ok (.iload_n 3, 1) := by decide +kernel
theorem d36 : decode yB 36 = .ok (.invokestatic 177, 3) := by decide +kernel
theorem d39 : decode yB 39 = .ok (.astore 5, 2) := by decide +kernel
theorem d41 : decode yB 41 = .ok (.aload_n 0, 1) := by decide +kernel
theorem d42 : decode yB 42 = .ok (.aload 5, 2) := by decide +kernel
theorem d44 : decode yB 44 = .ok (.iload_n 3, 1) := by decide +kernel
theorem d45 : decode yB 45 = .ok (.invokestatic 47, 3) := by decide +kernel
theorem d48 : decode yB 48 = .ok (.putfield 15, 3) := by decide +kernel
theorem d51 : decode yB 51 = .ok (.aload_n 0, 1) := by decide +kernel
theorem d52 : decode yB 52 = .ok (.aload 5, 2) := by decide +kernel
theorem d54 : decode yB 54 = .ok (.putfield 9, 3) := by decide +kernel
theorem d57 : decode yB 57 = .ok (.return_, 1) := by decide +kernel
def site : List Cond := [.fieldLink "java/lang/String" 38 "java/lang/String" "COMPACT_STRINGS" "Z", Cmp3.tab, CodL.tab, .laysFinal "java/lang/String" "java/lang/String" "value" "[B", .fieldLink "java/lang/String" 9 "java/lang/String" "value" "[B", .laysFinal "java/lang/String" "java/lang/String" "coder" "B", .fieldLink "java/lang/String" 15 "java/lang/String" "coder" "B"] ++ objW "java/lang/String" 1 ++ staticW "java/lang/String" 177 Cmp3.yN ++ staticW "java/lang/String" 47 CodL.yN
def tab : Cond := tabOf yN yB 6 none site
def P (a : Addr) (D : Cell) (fV fC : Field) (b : Addr) (A : Cell) (z : Int32) (o len : Nat) (args : Array Value) (s : State) : Prop := args = #[.ref a, .ref b, .int (Int32.ofNat o), .int (Int32.ofNat len), .null] ∧ Blank "java/lang/String" a D s ∧ Found "java/lang/String" "value" "[B" fV s ∧ Found "java/lang/String" "coder" "B" fC s ∧ Ch b A s ∧ StaticIs s "java/lang/String" "COMPACT_STRINGS" "Z" (.int z) ∧ ¬ z = 0 ∧ 0 < len ∧ o + len ≤ A.slots.size ∧ len ≤ 536870912 ∧ ∀ i, i < len → ¬ 255 < cv A (o + i)
def E (a : Addr) (D : Cell) (fV fC : Field) (A : Cell) (o len : Nat) (r : Option Value) (s u : State) : Prop := Got a D fV fC A o len r s u
/-- len > 0, no char of the range above 255: a Latin-1 String of their low bytes -/
theorem law (l : Launch) (a : Addr) (D : Cell) (fV fC : Field) (b : Addr) (A : Cell) (z : Int32) (o len : Nat) : Law l yN 5 4 2 35 yB 6 none site (P a D fV fC b A z o len) (E a D fV fC A o len) [⟨a, fC.slot⟩, ⟨a, fV.slot⟩] 1 len := by
  refine Law.of_walk (plainFor_of_name (by decide +kernel)) (by decide +kernel) (by decide +kernel) (by decide) (fun _ _ h => by rw [h.1]; rfl) (fun _ U U' hal hh h => ⟨h.1, h.2.1.mv hal hh, h.2.2.1.al hal, h.2.2.2.1.al hal, h.2.2.2.2.1.mv hal hh, h.2.2.2.2.2.1.there hal hh, h.2.2.2.2.2.2⟩) (fun r U U' V V' h1 hal h2 h => Got.mv r U U' V V' h1 hal h2 h) ?_
  intro p e s m args below meth c s₁ X0 hexec hbytes hml hret hlk hnm hown hh0 W hP
  obtain ⟨rfl, hB, f1, f2, hA, s1, hz, l0, l1, l2, hp⟩ := hP
  have a31 := hA.1.2.2.2
  have c1 : Steps p.tables e below (s₁.setTop (entryFrame m #[.ref a, .ref b, .int (Int32.ofNat o), .int (Int32.ofNat len), .null] 6)) (s₁.setTop (mkF m 0 #[.val (.ref a), .val (.ref b), .val (.int (Int32.ofNat o)), .val (.int (Int32.ofNat len)), .val .null, .unset] [])) := entry rfl
  have c2 : Steps p.tables e below (s₁.setTop (entryFrame m #[.ref a, .ref b, .int (Int32.ofNat o), .int (Int32.ofNat len), .null] 6)) (s₁.setTop (mkF m 1 #[.val (.ref a), .val (.ref b), .val (.int (Int32.ofNat o)), .val (.int (Int32.ofNat len)), .val .null, .unset] [.ref a])) := c1.trans (by
    refine XS.aloadN X0.here hexec rfl (hb hbytes d0) rfl rfl ?_
    exact Steps.refl _)
  obtain ⟨T3, X3, q3, st3⟩ := X0.oinit hexec hown (wks W (objW "java/lang/String" 1)) (g := (mkF m 1 #[.val (.ref a), .val (.ref b), .val (.int (Int32.ofNat o)), .val (.int (Int32.ofNat len)), .val .null, .unset] [.ref a])) rfl (by rw [hml]; rfl) (rest := []) rfl (hb hbytes d1) (W := 0) (by show 2 * 0 + 0 ≤ _; decide) (Nat.le_of_ble_eq_true rfl) (Nat.le_of_ble_eq_true rfl)
  have hh3 := q3.trans hh0
  have c4 : Steps p.tables e below (s₁.setTop (entryFrame m #[.ref a, .ref b, .int (Int32.ofNat o), .int (Int32.ofNat len), .null] 6)) (T3.setTop (mkF m 27 #[.val (.ref a), .val (.ref b), .val (.int (Int32.ofNat o)), .val (.int (Int32.ofNat len)), .val .null, .unset] [])) := (c2.trans (st3 _ (Steps.refl _))).trans (by
    refine XS.iloadN X3.here hexec rfl (hb hbytes d4) rfl ?_
    refine XS.ifYes X3.here hexec rfl (pc0 := 5) rfl (hb hbytes d5) rfl (i0_ne_t (nz32 (by omega) l0)) (by decide) rfl ?_
    exact Steps.refl _)
  obtain ⟨T5, X5, q5, st5⟩ := X3.sget hexec hown (wk W (.fieldLink "java/lang/String" 38 "java/lang/String" "COMPACT_STRINGS" "Z")) s1 (fun _ _ h => by rw [hh3]; exact h) (g := (mkF m 27 #[.val (.ref a), .val (.ref b), .val (.int (Int32.ofNat o)), .val (.int (Int32.ofNat len)), .val .null, .unset] [])) rfl (hb hbytes d27)
  have hh5 := q5.trans hh3
  have c6 : Steps p.tables e below (s₁.setTop (entryFrame m #[.ref a, .ref b, .int (Int32.ofNat o), .int (Int32.ofNat len), .null] 6)) (T5.setTop (mkF m 30 #[.val (.ref a), .val (.ref b), .val (.int (Int32.ofNat o)), .val (.int (Int32.ofNat len)), .val .null, .unset] [.int z])) := c4.trans (st5 _ (Steps.refl _))
  have c7 : Steps p.tables e below (s₁.setTop (entryFrame m #[.ref a, .ref b, .int (Int32.ofNat o), .int (Int32.ofNat len), .null] 6)) (T5.setTop (mkF m 36 #[.val (.ref a), .val (.ref b), .val (.int (Int32.ofNat o)), .val (.int (Int32.ofNat len)), .val .null, .unset] [.int (Int32.ofNat len), .int (Int32.ofNat o), .ref b])) := c6.trans (by
    refine XS.ifNo X5.here hexec rfl (hb hbytes d30) rfl (i0_eq_f hz) ?_
    refine XS.aloadN X5.here hexec rfl (hb hbytes d33) rfl rfl ?_
    refine XS.iloadN X5.here hexec rfl (hb hbytes d34) rfl ?_
    refine XS.iloadN X5.here hexec rfl (hb hbytes d35) rfl ?_
    exact Steps.refl _)
  obtain ⟨v8, T8, X8, E8, g8⟩ := X5.callS hexec (Cmp3.law l b A o len) hown (wks W (staticW "java/lang/String" 177 Cmp3.yN)) (wk W Cmp3.tab) (W := 0) (Nat.le_of_ble_eq_true rfl) (Nat.le_of_ble_eq_true rfl) (Nat.le_refl _) (by show 0 + len ≤ len; omega) (g := (mkF m 36 #[.val (.ref a), .val (.ref b), .val (.int (Int32.ofNat o)), .val (.int (Int32.ofNat len)), .val .null, .unset] [.int (Int32.ofNat len), .int (Int32.ofNat o), .ref b])) rfl (by rw [hml]; rfl) c7 (argsL := [.ref b, .int (Int32.ofNat o), .int (Int32.ofNat len)]) (rest := []) rfl rfl (by show 2 * 0 + 0 ≤ _; decide) (hb hbytes d36) (⟨rfl, hA.mv X5.warmed.alike hh5, l1, l2, hp⟩)
  obtain ⟨e8, z8⟩ := E8
  obtain ⟨rfl, N, n1, n2, n3, n4, n5, n6⟩ := NewArr.mv _ T5 s _ _ hh5.symm (Vm.Alike.refl _) rfl e8
  rw [hh5] at z8
  have hB1 := hB.keep X8.warmed.alike (n6 _ _ hB.1)
  have hne : s.heap.size ≠ a := (Nat.ne_of_lt (Array.getElem?_eq_some_iff.mp hB.1).1).symm
  have c9 : Steps p.tables e below (s₁.setTop (entryFrame m #[.ref a, .ref b, .int (Int32.ofNat o), .int (Int32.ofNat len), .null] 6)) (T8.setTop (mkF m 39 #[.val (.ref a), .val (.ref b), .val (.int (Int32.ofNat o)), .val (.int (Int32.ofNat len)), .val .null, .unset] [.ref s.heap.size])) := g8
  have c10 : Steps p.tables e below (s₁.setTop (entryFrame m #[.ref a, .ref b, .int (Int32.ofNat o), .int (Int32.ofNat len), .null] 6)) (T8.setTop (mkF m 45 #[.val (.ref a), .val (.ref b), .val (.int (Int32.ofNat o)), .val (.int (Int32.ofNat len)), .val .null, .val (.ref s.heap.size)] [.int (Int32.ofNat N.slots.size), .ref s.heap.size, .ref a])) := by
    have hc : Steps p.tables e below (s₁.setTop (entryFrame m #[.ref a, .ref b, .int (Int32.ofNat o), .int (Int32.ofNat len), .null] 6)) (T8.setTop (mkF m 45 #[.val (.ref a), .val (.ref b), .val (.int (Int32.ofNat o)), .val (.int (Int32.ofNat len)), .val .null, .val (.ref s.heap.size)] [.int (Int32.ofNat len), .ref s.heap.size, .ref a])) := c9.trans (by
      refine XS.astore X8.here hexec rfl (hb hbytes d39) rfl rfl rfl ?_
      refine XS.aloadN X8.here hexec rfl (hb hbytes d41) rfl rfl ?_
      refine XS.aload X8.here hexec rfl (hb hbytes d42) rfl rfl ?_
      refine XS.iloadN X8.here hexec rfl (hb hbytes d44) rfl ?_
      exact Steps.refl _)
    rw [n4]; exact hc
  obtain ⟨v11, T11, X11, E11, g11⟩ := X8.callS hexec (CodL.law l s.heap.size N) hown (wks W (staticW "java/lang/String" 47 CodL.yN)) (wk W CodL.tab) (W := 1) (Nat.le_of_ble_eq_true rfl) (Nat.le_of_ble_eq_true rfl) (Nat.le_refl _) (by show 0 + len + 0 ≤ len; omega) (g := (mkF m 45 #[.val (.ref a), .val (.ref b), .val (.int (Int32.ofNat o)), .val (.int (Int32.ofNat len)), .val .null, .val (.ref s.heap.size)] [.int (Int32.ofNat N.slots.size), .ref s.heap.size, .ref a])) rfl (by rw [hml]; rfl) c10 (argsL := [.ref s.heap.size, .int (Int32.ofNat N.slots.size)]) (rest := [.ref a]) rfl rfl (by show 2 * 0 + (1 + 0) ≤ _; decide) (hb hbytes d45) (⟨rfl, n1⟩)
  obtain ⟨rfl, q11⟩ := E11
  have hB11 := hB1.mv (X8.warmed.alike.symm.trans X11.warmed.alike) q11
  have c12 : Steps p.tables e below (s₁.setTop (entryFrame m #[.ref a, .ref b, .int (Int32.ofNat o), .int (Int32.ofNat len), .null] 6)) (T11.setTop (mkF m 48 #[.val (.ref a), .val (.ref b), .val (.int (Int32.ofNat o)), .val (.int (Int32.ofNat len)), .val .null, .val (.ref s.heap.size)] [.int 0, .ref a])) := g11
  obtain ⟨T13, X13, p13, bl13, sl13, st13⟩ := X11.finit hexec hown (wk W (.fieldLink "java/lang/String" 15 "java/lang/String" "coder" "B")) (Or.inr ⟨_, (wk W (.laysFinal "java/lang/String" "java/lang/String" "coder" "B"))⟩) (Or.inl ⟨rfl, hnm⟩) f2 (Or.inl rfl) hB11 (t := .byte) (by decide +kernel) rfl (g := (mkF m 48 #[.val (.ref a), .val (.ref b), .val (.int (Int32.ofNat o)), .val (.int (Int32.ofNat len)), .val .null, .val (.ref s.heap.size)] [.int 0, .ref a])) rfl (rest := []) rfl (hb hbytes d48)
  have c14 : Steps p.tables e below (s₁.setTop (entryFrame m #[.ref a, .ref b, .int (Int32.ofNat o), .int (Int32.ofNat len), .null] 6)) (T13.setTop (mkF m 54 #[.val (.ref a), .val (.ref b), .val (.int (Int32.ofNat o)), .val (.int (Int32.ofNat len)), .val .null, .val (.ref s.heap.size)] [.ref s.heap.size, .ref a])) := (c12.trans (st13 _ (Steps.refl _))).trans (by
    refine XS.aloadN X13.here hexec rfl (hb hbytes d51) rfl rfl ?_
    refine XS.aload X13.here hexec rfl (hb hbytes d52) rfl rfl ?_
    exact Steps.refl _)
  obtain ⟨T15, X15, p15, bl15, sl15, st15⟩ := X13.finit hexec hown (wk W (.fieldLink "java/lang/String" 9 "java/lang/String" "value" "[B")) (Or.inr ⟨_, (wk W (.laysFinal "java/lang/String" "java/lang/String" "value" "[B"))⟩) (Or.inl ⟨rfl, hnm⟩) f1 (Or.inl rfl) bl13 (t := (.array .byte)) (by decide +kernel) rfl (g := (mkF m 54 #[.val (.ref a), .val (.ref b), .val (.int (Int32.ofNat o)), .val (.int (Int32.ofNat len)), .val .null, .val (.ref s.heap.size)] [.ref s.heap.size, .ref a])) rfl (rest := []) rfl (hb hbytes d54)
  have c16 : Steps p.tables e below (s₁.setTop (entryFrame m #[.ref a, .ref b, .int (Int32.ofNat o), .int (Int32.ofNat len), .null] 6)) (T15.setTop (mkF m 57 #[.val (.ref a), .val (.ref b), .val (.int (Int32.ofNat o)), .val (.int (Int32.ofNat len)), .val .null, .val (.ref s.heap.size)] [])) := c14.trans (st15 _ (Steps.refl _))
  have ap := apart (Or.inr ⟨_, (wk W (.laysFinal "java/lang/String" "java/lang/String" "value" "[B"))⟩) (Or.inr ⟨_, (wk W (.laysFinal "java/lang/String" "java/lang/String" "coder" "B"))⟩) f1 f2 (t₁ := .array .byte) (t₂ := .byte) (by decide +kernel) (by decide +kernel) (by decide)
  have al := X8.warmed.alike.symm.trans X15.warmed.alike
  have n7 : T11.heap[s.heap.size]? = some N := by rw [q11]; exact n1.1
  exact ⟨T15, none, _, _, _, X15, by simp, rfl, by omega, (fun _ => rfl), ⟨rfl, _, N, bl15, ((Same.refl D _).set _ (by simp)).set _ (by simp), sl15, (Cell.slots_setSlot_ne _ ap).trans sl13, n1.keep al (p15.other hne (p13.other hne n7)), n2, by rw [al.findClass]; exact n3, n4, n5, fun y c h1 h2 => p15.other h1 (p13.other h1 (by rw [q11]; exact n6 y c h2)), by rw [p15.2.2, p13.2.2, q11]; exact z8⟩, fun fs hl => c16.trans (X15.returnOut hexec hret (hb hbytes d57) hl)⟩
end New4
namespace New1
def yN : MethodName := ⟨"java/lang/String", "<init>", "([C)V"⟩
abbrev yB : ByteArray := jdk_42_method_3_code
theorem d0 : decode yB 0 = .ok (.aload_n 0, 1) := by decide +kernel
theorem d1 : decode yB 1 = .ok (.aload_n 1, 1) := by decide +kernel
theorem d2 : decode yB 2 = .ok (.iconst 0, 1) := by decide +kernel
theorem d3 : decode yB 3 = .ok (.aload_n 1, 1) := by decide +kernel
theorem d4 : decode yB 4 = .ok (.arraylength, 1) := by decide +kernel
theorem d5 : decode yB 5 = .ok (.aconst_null, 1) := by decide +kernel
theorem d6 : decode yB 6 = .ok (.invokespecial 27, 3) := by decide +kernel
theorem d9 : decode yB 9 = .ok (.return_, 1) := by decide +kernel
def site : List Cond := [New4.tab] ++ initW "java/lang/String" 27 New4.yN
def tab : Cond := tabOf yN yB 2 none site
def P (a : Addr) (D : Cell) (fV fC : Field) (b : Addr) (A : Cell) (z : Int32) (args : Array Value) (s : State) : Prop := args = #[.ref a, .ref b] ∧ Blank "java/lang/String" a D s ∧ Found "java/lang/String" "value" "[B" fV s ∧ Found "java/lang/String" "coder" "B" fC s ∧ Ch b A s ∧ StaticIs s "java/lang/String" "COMPACT_STRINGS" "Z" (.int z) ∧ ¬ z = 0 ∧ 0 < A.slots.size ∧ A.slots.size ≤ 536870912 ∧ ∀ i, i < A.slots.size → ¬ 255 < cv A i
def E (a : Addr) (D : Cell) (fV fC : Field) (A : Cell) (r : Option Value) (s u : State) : Prop := Got a D fV fC A 0 A.slots.size r s u
/-- new String(chars), not empty, no char above 255: a Latin-1 String of their low bytes -/
theorem law (l : Launch) (a : Addr) (D : Cell) (fV fC : Field) (b : Addr) (A : Cell) (z : Int32) : Law l yN 2 1 3 52 yB 2 none site (P a D fV fC b A z) (E a D fV fC A) [⟨a, fC.slot⟩, ⟨a, fV.slot⟩] 1 A.slots.size := by
  refine Law.of_walk (plainFor_of_name (by decide +kernel)) (by decide +kernel) (by decide +kernel) (by decide) (fun _ _ h => by rw [h.1]; rfl) (fun _ U U' hal hh h => ⟨h.1, h.2.1.mv hal hh, h.2.2.1.al hal, h.2.2.2.1.al hal, h.2.2.2.2.1.mv hal hh, h.2.2.2.2.2.1.there hal hh, h.2.2.2.2.2.2⟩) (fun r U U' V V' h1 hal h2 h => Got.mv r U U' V V' h1 hal h2 h) ?_
  intro p e s m args below meth c s₁ X0 hexec hbytes hml hret hlk hnm hown hh0 W hP
  obtain ⟨rfl, hB, f1, f2, hA, s1, hz, l0, l2, hp⟩ := hP
  have c1 : Steps p.tables e below (s₁.setTop (entryFrame m #[.ref a, .ref b] 2)) (s₁.setTop (mkF m 0 #[.val (.ref a), .val (.ref b)] [])) := entry rfl
  have c2 : Steps p.tables e below (s₁.setTop (entryFrame m #[.ref a, .ref b] 2)) (s₁.setTop (mkF m 6 #[.val (.ref a), .val (.ref b)] [.null, .int (Int32.ofNat A.slots.size), .int 0, .ref b, .ref a])) := c1.trans (by
    refine XS.aloadN X0.here hexec rfl (hb hbytes d0) rfl rfl ?_
    refine XS.aloadN X0.here hexec rfl (hb hbytes d1) rfl rfl ?_
    refine iconstV X0.here hexec rfl 0 (hb hbytes d2) (by decide) ?_
    refine XS.aloadN X0.here hexec rfl (hb hbytes d3) rfl rfl ?_
    refine X0.alen hexec (hA.1.mv X0.warmed.alike hh0) rfl rfl (hb hbytes d4) ?_
    refine XS.aconstNull X0.here hexec rfl (hb hbytes d5) ?_
    exact Steps.refl _)
  obtain ⟨v3, T3, X3, E3, g3⟩ := X0.callN hexec (New4.law l a D fV fC b A z 0 A.slots.size) rfl hown (wks W (initW "java/lang/String" 27 New4.yN)) (W New4.tab (by simp only [site, List.mem_cons, List.mem_append, true_or, or_true])) (W := 0) (Nat.le_of_ble_eq_true rfl) (Nat.le_of_ble_eq_true rfl) (Nat.le_refl _) (by show 0 + A.slots.size ≤ A.slots.size; omega) (g := (mkF m 6 #[.val (.ref a), .val (.ref b)] [.null, .int (Int32.ofNat A.slots.size), .int (Int32.ofNat 0), .ref b, .ref a])) rfl (by rw [hml]; rfl) c2 (argsL := [.ref b, .int (Int32.ofNat 0), .int (Int32.ofNat A.slots.size), .null]) (rest := []) rfl rfl (by show 2 * 0 + 0 ≤ _; decide) (hb hbytes d6) (⟨rfl, hB.mv X0.warmed.alike hh0, f1.al X0.warmed.alike, f2.al X0.warmed.alike, hA.mv X0.warmed.alike hh0, s1.there X0.warmed.alike hh0, hz, l0, by omega, l2, fun i hi => by rw [Nat.zero_add]; exact hp i hi⟩)
  have e0 := Got.mv _ s₁ s _ _ hh0.symm (Vm.Alike.refl _) rfl E3
  obtain rfl := e0.1
  have c4 : Steps p.tables e below (s₁.setTop (entryFrame m #[.ref a, .ref b] 2)) (T3.setTop (mkF m 9 #[.val (.ref a), .val (.ref b)] [])) := g3
  exact ⟨T3, none, _, _, _, X3, by simp, rfl, by omega, (fun _ => rfl), e0, fun fs hl => c4.trans (X3.returnOut hexec hret (hb hbytes d9) hl)⟩
theorem pays {l : Launch} {R : Room} {p : Program} {e : Env} {below : List Frame} {s : State} {sargs : Array Value} {len W : Nat} (a : Addr) (D : Cell) (fV fC : Field) (b : Addr) (A : Cell) (z : Int32) (htab : tab.before sargs s = true) (hfr : 4 ≤ R.frames) (hlo : W + 65 ≤ R.locals) :
    Back l R p e below s sargs yN len W (fun A₁ a₁ => A₁.cells + 1 ≤ R.cells ∧ A₁.slots + A.slots.size ≤ R.slots ∧ P a D fV fC b A z a₁ A₁.U) (fun A₁ _ v₁ B₁ => E a D fV fC A v₁ A₁.U B₁.U ∧ B₁.locs = A₁.locs ++ [⟨a, fC.slot⟩, ⟨a, fV.slot⟩] ∧ B₁.cells = A₁.cells + 1 ∧ B₁.slots = A₁.slots + A.slots.size) :=
  (law l a D fV fC b A z).pays htab hfr (by omega)
end New1
/-- the byte, read back as charAt reads it, is the char -/
theorem lo8_mask {x : Int32} (h0 : ¬ x < 0) (h1 : ¬ 255 < x) : lo8 x &&& 255 = x := by
  have t : ∀ k : Fin 256, lo8 (Int32.ofNat k.val) &&& 255 = Int32.ofNat k.val := by decide +kernel
  rw [Int32.lt_iff_toInt_lt] at h0 h1
  have e0 : (0 : Int32).toInt = 0 := rfl
  have e1 : (255 : Int32).toInt = 255 := rfl
  obtain ⟨k, hk⟩ : ∃ k : Nat, x.toInt = k := ⟨x.toInt.toNat, by omega⟩
  have hx : x = Int32.ofNat k := Int32.toInt_inj.mp (by rw [hk, Int32.toInt_ofNat_small (by omega)])
  rw [hx]
  exact t ⟨k, by omega⟩
end StrChars
namespace StrChars.Road
open Jvm Sem ClassFile Op Lib Jvm.Stand Jvm.Free Jvm.Free.XT
open Jvm.Lib.Cold (StaticIs)
abbrev ST : String := "java/lang/String"
/-- every table word that New1's law asks, flat -/
abbrev words : List Jvm.Cond := [.code New1.yN New1.yB 2 none, .initialized ST, .methodLink ST 27 New4.yN, .instanceMethod New4.yN,
  .code New4.yN New4.yB 6 none, .fieldLink ST 38 ST "COMPACT_STRINGS" "Z", .laysFinal ST ST "value" "[B", .fieldLink ST 9 ST "value" "[B", .laysFinal ST ST "coder" "B", .fieldLink ST 15 ST "coder" "B",
  .methodLink ST 1 Lib.objectInit, .instanceMethod Lib.objectInit, .code Lib.objectInit ⟨#[0xb1]⟩ 1 none, .methodLink ST 177 Cmp3.yN, .static Cmp3.yN, .methodLink ST 47 CodL.yN, .static CodL.yN,
  .code Cmp3.yN Cmp3.yB 6 (some (.array .byte)), .initialized U16, .arrayClass .byte, .methodLink U16 115 Cmp5.yN, .static Cmp5.yN, .code Cmp5.yN Cmp5.yB 7 (some .int), .code CodL.yN CodL.yB 2 (some .byte)]
theorem tab_of {a : Array Value} {s : State} (h : ∀ w ∈ words, w.before a s = true) : New1.tab.before a s = true := by
  have h5 : Cmp5.tab.before a s = true := unparts (wk h (.code Cmp5.yN Cmp5.yB 7 (some .int))) (wks h (.initialized Cmp5.yN.cls :: Cmp5.site))
  have hc : CodL.tab.before a s = true := unparts (wk h (.code CodL.yN CodL.yB 2 (some .byte))) (wks h (.initialized CodL.yN.cls :: CodL.site))
  have q5 : ∀ w ∈ Cmp5.tab :: words, w.before a s = true := fun w hw => (List.mem_cons.mp hw).elim (fun e => e ▸ h5) (h w)
  have h3 : Cmp3.tab.before a s = true := unparts (wk q5 (.code Cmp3.yN Cmp3.yB 6 (some (.array .byte)))) (wks q5 (.initialized Cmp3.yN.cls :: Cmp3.site))
  have q3 : ∀ w ∈ Cmp3.tab :: CodL.tab :: words, w.before a s = true := fun w hw => (List.mem_cons.mp hw).elim (fun e => e ▸ h3) fun hw => (List.mem_cons.mp hw).elim (fun e => e ▸ hc) (h w)
  have h4 : New4.tab.before a s = true := unparts (wk q3 (.code New4.yN New4.yB 6 none)) (wks q3 (.initialized New4.yN.cls :: New4.site))
  have q4 : ∀ w ∈ New4.tab :: words, w.before a s = true := fun w hw => (List.mem_cons.mp hw).elim (fun e => e ▸ h4) (h w)
  exact unparts (wk q4 (.code New1.yN New1.yB 2 none)) (wks q4 (.initialized New1.yN.cls :: New1.site))
/-- the words ride from the start Z to the walk's own state -/
theorem moved {Z s : State} {a0 args : Array Value} (hZ : Z.Warmed39 s.vm) (hw : ∀ d ∈ words, d.before a0 Z = true) : ∀ d ∈ words, d.before args s = true := fun d hd => by
  have q := hw d hd
  have t : ∀ d ∈ words, d = .arrayClass .byte ∨ (d.onTables && d.keepsFace) = true := by decide +kernel
  rcases t d hd with rfl | t
  · exact RoadKit.mvA hZ q
  · exact RoadKit.mv hZ q t
/-- WHAT COMES BACK, over the tables of the start Z: h the heap at the call, h' behind it -/
def Q (Z : State) (x : Addr) (A : Cell) (h : Heap) (v : Option Value) (h' : Heap) (L : List Loc) : Prop := v = none ∧ (∀ y ∈ L, y.base = x) ∧ RoadKit.Keep h h' [x] ∧ h'.size = h.size + 1 ∧ RoadKit.Exa Z h' x ST ∧ RoadKit.Fld Z h' x ST "value" "[B" (.ref h.size) ∧ RoadKit.Fld Z h' x ST "coder" "B" (.int 0) ∧
  (∃ V : Cell, RoadKit.Arr Z h' h.size V .byte ∧ V.vm = .none ∧ Z.vm.findClass "[B" = some V.cls ∧ V.slots.size = A.slots.size ∧ ∀ j, j < A.slots.size → V.slots[j]? = some (.int (lo8 (cv A j)))) ∧
  ∀ (O n d : String) (w : Value), RoadKit.Fld Z h x O n d w → RoadKit.slotOf Z O n d ≠ RoadKit.slotOf Z ST "value" "[B" → RoadKit.slotOf Z O n d ≠ RoadKit.slotOf Z ST "coder" "B" → RoadKit.Fld Z h' x O n d w
/-- **new String(chars) AT A CALL, IN THE ROAD'S FORM**: for specialBack behind newO: x the fresh String, b the char[] with the cell A -/
theorem back {p : Program} {l : Launch} {e : Env} {R : Room} {s : State} {args : Array Value} {below : List Frame} {len W : Nat} {Z : State} {a0 : Array Value} {h : Heap} (hZ : Z.Warmed39 s.vm) (hw : ∀ d ∈ words, d.before a0 Z = true) {kI : Nat} (wi : (Jvm.Cond.instantiable ST kI).before a0 Z = true)
    {x b : Addr} {A : Cell} {z : Int32} {v0 c0 : Value} (E : RoadKit.Exa Z h x ST) (V : RoadKit.Fld Z h x ST "value" "[B" v0) (C : RoadKit.Fld Z h x ST "coder" "B" c0) (K : RoadKit.Arr Z h b A .char) (hty : Typed .char A) (S : RoadKit.Sta Z h ST "COMPACT_STRINGS" "Z" (.int z)) (hz : ¬ z = 0)
    (l0 : 0 < A.slots.size) (l2 : A.slots.size ≤ 536870912) (hp : ∀ i, i < A.slots.size → ¬ 255 < cv A i) (hfr : 4 ≤ R.frames) (hlo : W + 65 ≤ R.locals) :
    Back l R p e below s args New1.yN len W (fun P a => a = #[.ref x, .ref b] ∧ P.U.heap = h ∧ P.cells + 1 ≤ R.cells ∧ P.slots + A.slots.size ≤ R.slots)
      (fun P _ v B => ∃ L, Q Z x A h v B.U.heap L ∧ B.locs = P.locs ++ L ∧ B.cells = P.cells + 1 ∧ B.slots = P.slots + A.slots.size) := by
  intro m meth c P g ig mk a X hg hsize hdg hW hn hp'
  obtain ⟨rfl, rfl, r1, r2⟩ := hp'
  have al : Z.vm.Alike P.U.vm := hZ.alike.trans X.warmed.alike
  obtain ⟨D, cfV, kV, iV, fV, hD, gV, stV, knV, obV, asV, slV⟩ := id V
  obtain ⟨D', cfC, kC, iC, fC, hD', gC, stC, -, -, asC, slC⟩ := id C
  cases hD.symm.trans hD'
  obtain ⟨D2, kD, e1, e2, e3, e4, e5⟩ := id E
  cases hD.symm.trans e1
  obtain ⟨c2, k2, i1, i2, i3, -⟩ := Cond.instantiable_spec wi
  cases e2.symm.trans i1
  cases e3.symm.trans i2
  obtain ⟨kU, u1, u2⟩ := al.2.2 _ _ e3
  have hB : Blank ST x D P.U := ⟨hD, ⟨knV, fun q hq => by rw [hq] at obV; cases obV⟩, by rw [al.findClass]; exact e2, kU, u1, by rw [u2]; exact i3, by rw [u2]; exact e5 i3⟩
  have F1 : Found ST "value" "[B" fV P.U := ⟨SBG.found_only al ⟨cfV, kV, iV, gV⟩, stV⟩
  have F2 : Found ST "coder" "B" fC P.U := ⟨SBG.found_only al ⟨cfC, kC, iC, gC⟩, stC⟩
  have hA : Ch b A P.U := ⟨⟨K.1, State.isArrayOf_alike al K.2.1, K.2.2, by omega⟩, hty⟩
  have hS : StaticIs P.U ST "COMPACT_STRINGS" "Z" (.int z) := by
    obtain ⟨cfS, iS, kS, fS, st, cS, t1, t2, t3, t4, t5, t6, t7⟩ := S
    exact StaticIs.there (s := { Z with heap := P.U.heap }) ⟨cfS, iS, kS, fS, st, cS, t1, t2, t3, t4, t5, (fun q => by rw [q] at t6; cases t6), t7⟩ al rfl
  obtain ⟨v, B, X', ⟨⟨hv, E', V', q1, q2, q3, q4, q5, q6, q7, q8, q9, q10, q11⟩, hl, hc, hs⟩, st⟩ := New1.pays x D fV fC b A z (tab_of (moved hZ hw)) hfr hlo m meth c P g ig mk _ X hg hsize hdg hW hn ⟨r1, r2, rfl, hB, F1, F2, hA, hS, hz, l0, l2, hp⟩
  have al' : Z.vm.Alike B.U.vm := hZ.alike.trans X'.warmed.alike
  have hsz : E'.slots.size = D.slots.size := by
    obtain ⟨-, -, -, kB, w1, w2, w3⟩ := q1
    obtain ⟨kB', y1, y2⟩ := al'.2.2 _ _ e3
    rw [q2.2.1] at w1
    cases w1.symm.trans y1
    rw [w3, e5 i3, y2]
  refine ⟨v, B, X', ⟨_, ⟨hv, ?_, ⟨by omega, fun y cy hy hn' => q10 y cy (by simpa using hn') hy, fun y cy hy => ?_⟩, q11, ⟨E', _, q1.1, by rw [q2.2.1]; exact e2, by rw [q2.2.1]; exact e3, by rw [q2.1]; exact obV, fun _ => by rw [hsz]; exact e5 i3⟩,
    ⟨E', cfV, kV, iV, fV, q1.1, gV, stV, by rw [q2.1]; exact knV, by rw [q2.1]; exact obV, by rw [q2.2.1]; exact asV, q3⟩, ⟨E', cfC, kC, iC, fC, q1.1, gC, stC, by rw [q2.1]; exact knV, by rw [q2.1]; exact obV, by rw [q2.2.1]; exact asC, q4⟩,
    ⟨V', ⟨q5.1, State.isArrayOf_alike al'.symm q5.2.1, q5.2.2.1⟩, q6, by rw [← al'.findClass]; exact q7, q8, fun j hj => by have := q9 j hj; rwa [Nat.zero_add] at this⟩, fun O n d w F n1 n2 => ?_⟩, hl, hc, hs⟩, st⟩
  · intro y hy
    simp only [List.mem_cons, List.not_mem_nil, or_false] at hy
    rcases hy with rfl | rfl <;> rfl
  · by_cases q : y = x
    · subst q
      cases hD.symm.trans hy
      exact ⟨E', q1.1, q2.2.1, q2.1, hsz⟩
    · exact ⟨cy, q10 y cy q hy, rfl, rfl, rfl⟩
  · obtain ⟨D3, cf, k, i, f, g1, g2, g3, g4, g5, g6, g7⟩ := F
    cases hD.symm.trans g1
    simp only [RoadKit.slotOf, g2, gV, gC, Option.map_some, Option.getD_some] at n1 n2
    exact ⟨E', cf, k, i, f, q1.1, g2, g3, by rw [q2.1]; exact g4, by rw [q2.1]; exact g5, by rw [q2.2.1]; exact g6, by rw [q2.2.2 f.slot (by simp [n1, n2])]; exact g7⟩
end StrChars.Road
namespace StrChars.Road
open Jvm Sem ClassFile Op Lib Jvm.Stand Jvm.Free Jvm.Free.XT
/-- WHAT COMES BACK, the byte[] as a list of values -/
def QA (Z : State) (x : Addr) (zn : Int32) (cs : List Int32) (h : Heap) (v : Option Value) (h' : Heap) (L : List Loc) : Prop := v = none ∧ (∀ y ∈ L, y.base = x) ∧ RoadKit.Keep h h' [x] ∧ h'.size = h.size + 1 ∧ RoadKit.Exa Z h' x ST ∧ RoadKit.Fld Z h' x ST "value" "[B" (.ref h.size) ∧ RoadKit.Fld Z h' x ST "coder" "B" (.int 0) ∧
  (∃ kb, Z.vm.findClass "[B" = some kb ∧ RoadKit.Arv Z h' h.size kb .byte zn (cs.map fun c => .int (lo8 c)) (.int 0)) ∧
  ∀ (O n d : String) (w : Value), RoadKit.Fld Z h x O n d w → RoadKit.slotOf Z O n d ≠ RoadKit.slotOf Z ST "value" "[B" → RoadKit.slotOf Z O n d ≠ RoadKit.slotOf Z ST "coder" "B" → RoadKit.Fld Z h' x O n d w
/-- **new String(chars) AT A CALL, THE ARRAYS AS LISTS**: the char[] at b holds cs, not empty, no char above 255 -/
theorem backArv {p : Program} {l : Launch} {e : Env} {R : Room} {s : State} {args : Array Value} {below : List Frame} {len W : Nat} {Z : State} {a0 : Array Value} {h : Heap} (hZ : Z.Warmed39 s.vm) (hw : ∀ d ∈ words, d.before a0 Z = true) {kI : Nat} (wi : (Jvm.Cond.instantiable ST kI).before a0 Z = true)
    {x b : Addr} {k : ClassId} {zn z : Int32} {cs : List Int32} {dv v0 c0 : Value} (E : RoadKit.Exa Z h x ST) (V : RoadKit.Fld Z h x ST "value" "[B" v0) (C : RoadKit.Fld Z h x ST "coder" "B" c0) (K : RoadKit.Arv Z h b k .char zn (cs.map Value.int) dv) (S : RoadKit.Sta Z h ST "COMPACT_STRINGS" "Z" (.int z)) (hz : ¬ z = 0)
    (hlen : zn.toNatClampNeg = cs.length) (h0 : 0 < cs.length) (hbig : cs.length ≤ 536870912) (hall : ∀ c ∈ cs, ¬ 255 < c) (hfr : 4 ≤ R.frames) (hlo : W + 65 ≤ R.locals) :
    Back l R p e below s args New1.yN len W (fun P a => a = #[.ref x, .ref b] ∧ P.U.heap = h ∧ P.cells + 1 ≤ R.cells ∧ P.slots + cs.length ≤ R.slots)
      (fun P _ v B => ∃ L, QA Z x zn cs h v B.U.heap L ∧ B.locs = P.locs ++ L ∧ B.cells = P.cells + 1 ∧ B.slots = P.slots + cs.length) := by
  obtain ⟨A, K1, K2, K3, K4, K5, K6⟩ := K
  have e : A.slots.size = cs.length := K3.trans hlen
  have hat : ∀ (i : Nat) (hi : i < cs.length), A.slots[i]? = some (.int cs[i]) := fun i hi => by rw [K5 i (by omega)]; simp [List.getD_eq_getElem?_getD, hi]
  have hcv : ∀ (i : Nat) (hi : i < cs.length), cv A i = cs[i] := fun i hi => by unfold cv; rw [hat i hi]
  have hty : Typed .char A := fun i v hv => by
    have hi : i < A.slots.size := (Array.getElem?_eq_some_iff.mp hv).1
    have q := K5 i hi
    rw [hv] at q
    rw [Option.some.inj q]
    exact K6 i hi
  refine Back.mono (back hZ hw wi E V C K1 hty S hz (by omega) (by omega) (fun i hi => by rw [hcv i (by omega)]; exact hall _ (List.getElem_mem _)) hfr hlo) (fun P a hp => ⟨hp.1, hp.2.1, hp.2.2.1, by rw [e]; exact hp.2.2.2⟩) (fun P a v B hp hq => ?_)
  obtain ⟨L, ⟨q1, q2, q3, q4, q5, q6, q7, ⟨V', v1, v2, v3, v4, v5⟩, q9⟩, hl, hc, hs⟩ := hq
  refine ⟨L, ⟨q1, q2, q3, q4, q5, q6, q7, ⟨V'.cls, v3, V', v1, rfl, by rw [v4, e, hlen], K4, fun i hi => ?_, fun i hi => ?_⟩, q9⟩, hl, hc, by rw [hs, e]⟩
  · have hi' : i < cs.length := by omega
    rw [v5 i (by omega), hcv i hi']; simp [List.getD_eq_getElem?_getD, hi']
  · have hi' : i < cs.length := by omega
    simp only [List.getD_eq_getElem?_getD, List.getElem?_map, List.getElem?_eq_getElem hi', Option.map_some, Option.getD_some]
    exact fits_lo8 _
end StrChars.Road
namespace StrChars.Road
open Jvm Sem ClassFile Op Lib Jvm.Stand Jvm.Free Jvm.Free.XT
/-- WHAT COMES BACK, in the writer's own shape -/
def QV (Z : State) (x : Addr) (N : Int32) (bs : List Int32) (h : Heap) (n0 : Nat) (v : Option Value) (h' : Heap) (L : List Loc) : Prop := v = none ∧ RoadKit.Fr n0 L ∧ RoadKit.Keep h h' [x] ∧ RoadKit.Exa Z h' x ST ∧ RoadKit.Fld Z h' x ST "coder" "B" (.int 0) ∧
  ∃ (t : Addr) (kb : ClassId), n0 ≤ t ∧ h.size ≤ t ∧ ¬ t = x ∧ RoadKit.Fld Z h' x ST "value" "[B" (.ref t) ∧ RoadKit.Arv Z h' t kb .byte N (bs.map Value.int) (.int 0)
/-- **new String(chars) AT A CALL, FOR THE WRITER**: a char[] of n known ints, each 0 to 255 -/
theorem backV {p : Program} {l : Launch} {e : Env} {R : Room} {s : State} {args : Array Value} {below : List Frame} {len W : Nat} {Z : State} {a0 : Array Value} {h : Heap} (hZ : Z.Warmed39 s.vm) (hw : ∀ d ∈ words, d.before a0 Z = true) {kI : Nat} (wi : (Jvm.Cond.instantiable ST kI).before a0 Z = true)
    {x b : Addr} {kC : ClassId} {cs bs : List Int32} {d v0 c0 : Value} {z N : Int32} {n n0 : Nat} (hx0 : n0 ≤ x) (hh0 : n0 ≤ h.size) (E : RoadKit.Exa Z h x ST) (V : RoadKit.Fld Z h x ST "value" "[B" v0) (C : RoadKit.Fld Z h x ST "coder" "B" c0) (K : RoadKit.Arv Z h b kC .char N (cs.map Value.int) d) (S : RoadKit.Sta Z h ST "COMPACT_STRINGS" "Z" (.int z)) (hz : ¬ z = 0)
    (hn : cs.length = n) (hN : N = Int32.ofNat n) (l0 : 0 < n) (l2 : n ≤ 4000) (hp : ∀ c ∈ cs, ¬ c < 0 ∧ ¬ (255 : Int32) < c) (hb : bs = cs.map (fun c => c.toInt8.toInt32)) (hfr : 4 ≤ R.frames) (hlo : W + 65 ≤ R.locals) :
    Back l R p e below s args (⟨"java/lang/String", "<init>", "([C)V"⟩ : MethodName) len W (fun P a => a = #[.ref x, .ref b] ∧ P.U.heap = h ∧ P.cells + 1 ≤ R.cells ∧ P.slots + n ≤ R.slots)
      (fun P _ v B => ∃ L, QV Z x N bs h n0 v B.U.heap L ∧ B.locs = P.locs ++ L ∧ B.cells = P.cells + 1 ∧ B.slots = P.slots + n) := by
  subst hn hN hb
  refine Back.mono (backArv hZ hw wi E V C K S hz (n32 (by omega)) l0 (by omega) (fun c hc => (hp c hc).2) hfr hlo) (fun P a hp => hp) (fun P a v B hp hq => ?_)
  obtain ⟨L, ⟨q1, q2, q3, q4, q5, q6, q7, ⟨kb, v1, v2⟩, q9⟩, hl, hc, hs⟩ := hq
  exact ⟨L, ⟨q1, fun y hy => by rw [q2 y hy]; exact hx0, q3, q5, q7, h.size, kb, hh0, Nat.le_refl _, Nat.ne_of_gt E.lt, q6, by rw [List.map_map]; exact v2⟩, hl, hc, hs⟩
end StrChars.Road
namespace StrChars
open Jvm Sem ClassFile Op Lib Jvm.Stand Jvm.Free.XT Jvm.Free.ALB Jvm.Free.JM Jvm.Free
open Jvm.Lib.Cold (StaticIs)
def hi8 (x : Int32) : Int32 := lo8 (x >>> ((8 : Int32) &&& 31))
/-- what StringUTF16.getChar makes of two bytes -/
def pairCh (u v : Int32) : Int32 := (((u &&& 255) <<< ((0 : Int32) &&& 31)) ||| ((v &&& 255) <<< ((8 : Int32) &&& 31))).toUInt32.toUInt16.toUInt32.toInt32
theorem shr0 (c : Int32) : c >>> ((0 : Int32) &&& 31) = c := by
  have e : ((0 : Int32) &&& 31) = 0 := by decide
  rw [e]
  apply Int32.toBitVec_inj.mp
  rw [Int32.toBitVec_shiftRight]
  have e1 : ((0 : Int32).toBitVec.smod 32) = 0#32 := by decide
  rw [e1, BitVec.sshiftRight_eq']
  exact BitVec.sshiftRight_zero
theorem lo8_and (x : Int32) : (lo8 x &&& 255).toBitVec.toNat = x.toBitVec.toNat % 256 := by
  have h : (lo8 x).toBitVec = (x.toBitVec.signExtend 8).signExtend 32 := by rw [lo8, Int8.toBitVec_toInt32, Int32.toBitVec_toInt8]
  rw [Int32.toBitVec_and, BitVec.toNat_and, h]
  have e : ((x.toBitVec.signExtend 8).signExtend 32).toNat % 256 = x.toBitVec.toNat % 256 := by
    rw [BitVec.toNat_signExtend]
    have hlt := x.toBitVec.isLt
    simp only [BitVec.toNat_setWidth, BitVec.toNat_signExtend]
    split <;> split <;> omega
  rw [← e]
  exact Nat.and_two_pow_sub_one_eq_mod _ 8
theorem pair_says {c : Int32} (h0 : ¬ c < 0) (h1 : ¬ 65535 < c) : pairCh (lo8 c) (hi8 c) = c := by
  rw [Int32.lt_iff_toInt_lt] at h0 h1
  have e0 : (0 : Int32).toInt = 0 := rfl
  have e1 : (65535 : Int32).toInt = 65535 := rfl
  have hc : c.toInt = c.toBitVec.toNat := by
    have := c.toBitVec.isLt
    have e : c.toInt = c.toBitVec.toInt := rfl
    rw [e] at h0 h1
    rw [e]
    rw [BitVec.toInt_eq_toNat_cond] at h0 h1 ⊢
    split at h0 <;> split <;> omega
  have hn : c.toBitVec.toNat < 65536 := by omega
  have a1 := lo8_and c
  have a2 : (hi8 c &&& 255).toBitVec.toNat = c.toBitVec.toNat / 256 := by
    rw [hi8, lo8_and]
    have e : ((8 : Int32) &&& 31) = 8 := by decide
    rw [e, Int32.toBitVec_shiftRight]
    have e2 : ((8 : Int32).toBitVec.smod 32) = 8#32 := by decide
    rw [e2, BitVec.sshiftRight_eq', BitVec.toNat_sshiftRight_of_msb_false (by rw [BitVec.msb_eq_false_iff_two_mul_lt]; omega)]
    show c.toBitVec.toNat >>> 8 % 256 = _
    rw [Nat.shiftRight_eq_div_pow]
    omega
  unfold pairCh
  apply Int32.toBitVec_inj.mp
  apply BitVec.eq_of_toNat_eq
  have f0 : ((0 : Int32) &&& 31) = 0 := by decide
  have f8 : ((8 : Int32) &&& 31) = 8 := by decide
  rw [f0, f8]
  have g : (((lo8 c &&& 255) <<< (0 : Int32)) ||| ((hi8 c &&& 255) <<< (8 : Int32))).toBitVec.toNat = c.toBitVec.toNat := by
    rw [Int32.toBitVec_or, Int32.toBitVec_shiftLeft, Int32.toBitVec_shiftLeft]
    have s0 : ((0 : Int32).toBitVec.smod 32) = 0#32 := by decide
    have s8 : ((8 : Int32).toBitVec.smod 32) = 8#32 := by decide
    rw [s0, s8, BitVec.toNat_or]
    simp only [BitVec.shiftLeft_eq', BitVec.toNat_shiftLeft, a1, a2]
    show (c.toBitVec.toNat % 256) <<< 0 % 2 ^ 32 ||| (c.toBitVec.toNat / 256) <<< 8 % 2 ^ 32 = _
    rw [Nat.shiftLeft_zero, Nat.mod_eq_of_lt (show c.toBitVec.toNat % 256 < 2 ^ 32 by omega), Nat.mod_eq_of_lt (show (c.toBitVec.toNat / 256) <<< 8 < 2 ^ 32 by rw [Nat.shiftLeft_eq]; omega), Nat.or_comm, ← Nat.shiftLeft_add_eq_or_of_lt (by omega), Nat.shiftLeft_eq]
    omega
  show BitVec.toNat (((((lo8 c &&& 255) <<< (0 : Int32)) ||| ((hi8 c &&& 255) <<< (8 : Int32))).toBitVec.setWidth 16).setWidth 32) = _
  rw [BitVec.toNat_setWidth, BitVec.toNat_setWidth, g]
  omega
end StrChars
namespace StrChars
open Jvm Sem ClassFile Op Lib Jvm.Stand Jvm.Free.XT Jvm.Free.ALB Jvm.Free.JM Jvm.Free
open Jvm.Lib.Cold (StaticIs)
theorem shr1 {n : Nat} (h : 2 * n < 2 ^ 31) : Int32.ofNat (2 * n) >>> ((1 : Int32) &&& 31) = Int32.ofNat n := by
  have e : ((1 : Int32) &&& 31) = 1 := by decide
  rw [e]
  apply Int32.toBitVec_inj.mp
  rw [Int32.toBitVec_shiftRight]
  have e1 : ((1 : Int32).toBitVec.smod 32) = 1#32 := by decide
  have hm : (BitVec.ofNat 32 (2 * n)).toNat = 2 * n := by rw [BitVec.toNat_ofNat, Nat.mod_eq_of_lt (by omega)]
  rw [e1, BitVec.sshiftRight_eq']
  apply BitVec.eq_of_toNat_eq
  show ((BitVec.ofNat 32 (2 * n)).sshiftRight 1).toNat = (BitVec.ofNat 32 n).toNat
  rw [BitVec.toNat_sshiftRight_of_msb_false (by rw [BitVec.msb_eq_false_iff_two_mul_lt, hm]; omega), hm, BitVec.toNat_ofNat, Nat.shiftRight_eq_div_pow]
  omega
/-- charAt's cast of a byte read back -/
def chr8 (u : Int32) : Int32 := (u &&& 255).toUInt32.toUInt16.toUInt32.toInt32
theorem chr8_lo8 {c : Int32} (h0 : ¬ c < 0) (h1 : ¬ 255 < c) : chr8 (lo8 c) = c := by
  have t : ∀ k : Fin 256, (Int32.ofNat k.val).toUInt32.toUInt16.toUInt32.toInt32 = Int32.ofNat k.val := by decide +kernel
  unfold chr8
  rw [lo8_mask h0 h1]
  rw [Int32.lt_iff_toInt_lt] at h0 h1
  have e0 : (0 : Int32).toInt = 0 := rfl
  have e1 : (255 : Int32).toInt = 255 := rfl
  obtain ⟨k, hk⟩ : ∃ k : Nat, c.toInt = k := ⟨c.toInt.toNat, by omega⟩
  have hx : c = Int32.ofNat k := Int32.toInt_inj.mp (by rw [hk, Int32.toInt_ofNat_small (by omega)])
  rw [hx]
  exact t ⟨k, by omega⟩
theorem narrow_ch {c : Int32} (h0 : ¬ c < 0) (h1 : ¬ 65535 < c) : narrow .char (.int c) = .int c := by
  have q : narrow .char (.int (pairCh (lo8 c) (hi8 c))) = .int (pairCh (lo8 c) (hi8 c)) := narrow_c _
  rwa [pair_says h0 h1] at q
/-- the array's cell V codes the n chars f 0 .. f (n - 1) by the coder cd, as the JDK does: coder 1 just where some char is above 255 -/
def Cod (cd : Int32) (n : Nat) (f : Nat → Int32) (V : Cell) : Prop := (cd = 0 ∧ V.slots.size = n ∧ ∀ j, j < n → V.slots[j]? = some (.int (lo8 (f j))) ∧ ¬ 255 < f j) ∨ (cd = 1 ∧ V.slots.size = 2 * n ∧ (∀ j, j < n → V.slots[2 * j]? = some (.int (lo8 (f j))) ∧ V.slots[2 * j + 1]? = some (.int (hi8 (f j)))) ∧ ∃ j, j < n ∧ 255 < f j)
theorem Cod.cd {cd : Int32} {n : Nat} {f : Nat → Int32} {V : Cell} (h : Cod cd n f V) : cd = 0 ∨ cd = 1 := h.imp (fun q => q.1) fun q => q.1
theorem Cod.len {cd : Int32} {n : Nat} {f : Nat → Int32} {V : Cell} (h : Cod cd n f V) (hs : V.slots.size < 2 ^ 31) : Int32.ofNat V.slots.size >>> (cd &&& 31) = Int32.ofNat n := by
  rcases h with ⟨rfl, h, -⟩ | ⟨rfl, h, -⟩
  · rw [shr0, h]
  · rw [h, shr1 (by omega)]
/-- **x is a String of the n chars f 0 .. f (n - 1)**, Latin-1 or UTF-16; its array at t has the cell V -/
def Txt (x t : Addr) (V : Cell) (cd : Int32) (n : Nat) (f : Nat → Int32) (U : State) : Prop := Exact "java/lang/String" x U ∧ Has x "java/lang/String" "value" "[B" (.ref t) U ∧ Has x "java/lang/String" "coder" "B" (.int cd) U ∧ XT.Arr .byte t V U ∧ Cod cd n f V ∧ ∀ j, j < n → ¬ f j < 0 ∧ ¬ 65535 < f j
theorem Txt.mv {x t : Addr} {V : Cell} {cd : Int32} {n : Nat} {f : Nat → Int32} {U U' : State} (h : Txt x t V cd n f U) (hal : U.vm.Alike U'.vm) (hh : U'.heap = U.heap) : Txt x t V cd n f U' := ⟨h.1.mv hal hh, h.2.1.mv hal hh, h.2.2.1.mv hal hh, h.2.2.2.1.mv hal hh, h.2.2.2.2⟩
namespace Cdr
def yN : MethodName := ⟨"java/lang/String", "coder", "()B"⟩
abbrev yB : ByteArray := jdk_42_method_152_code
theorem d0 : decode yB 0 = .ok (.getstatic 38, 3) := by decide +kernel
theorem d3 : decode yB 3 = .ok (.ifCond (.eq) 10, 3) := by decide +kernel
theorem d6 : decode yB 6 = .ok (.aload_n 0, 1) := by decide +kernel
theorem d7 : decode yB 7 = .ok (.getfield 15, 3) := by decide +kernel
theorem d10 : decode yB 10 = .ok (.goto 4, 3) := by decide +kernel
theorem d14 : decode yB 14 = .ok (.ireturn, 1) := by decide +kernel
def site : List Cond := [.fieldLink "java/lang/String" 38 "java/lang/String" "COMPACT_STRINGS" "Z", .fieldLink "java/lang/String" 15 "java/lang/String" "coder" "B"]
def tab : Cond := tabOf yN yB 1 (some .byte) site
def P (x : Addr) (cd z : Int32) (args : Array Value) (s : State) : Prop := args = #[.ref x] ∧ Has x "java/lang/String" "coder" "B" (.int cd) s ∧ (cd = 0 ∨ cd = 1) ∧ StaticIs s "java/lang/String" "COMPACT_STRINGS" "Z" (.int z) ∧ ¬ z = 0
def E (cd : Int32) (r : Option Value) (s u : State) : Prop := XT.PureE (some (.int cd)) r s u
theorem law (l : Launch) (x : Addr) (cd z : Int32) : Law l yN 1 0 0 0 yB 1 (some .byte) site (P x cd z) (E cd) [] 0 0 := by
  refine Law.of_walk (plainFor_of_name (by decide +kernel)) (by decide +kernel) (by decide +kernel) (by decide) (fun _ _ h => by rw [h.1]; rfl) (fun _ U U' hal hh h => ⟨h.1, h.2.1.mv hal hh, h.2.2.1, h.2.2.2.1.there hal hh, h.2.2.2.2⟩) (fun r U U' V V' h1 hal h2 h => XT.PureE.mv r U U' V V' h1 hal h2 h) ?_
  intro p e s m args below meth c s₁ X0 hexec hbytes hml hret hlk hnm hown hh0 W hP
  obtain ⟨rfl, hx, hc, s1, hz⟩ := hP
  have c1 : Steps p.tables e below (s₁.setTop (entryFrame m #[.ref x] 1)) (s₁.setTop (mkF m 0 #[.val (.ref x)] [])) := entry rfl
  obtain ⟨T2, X2, q2, st2⟩ := X0.sget hexec hown (wk W (.fieldLink "java/lang/String" 38 "java/lang/String" "COMPACT_STRINGS" "Z")) s1 (fun _ _ h => by rw [hh0]; exact h) (g := (mkF m 0 #[.val (.ref x)] [])) rfl (hb hbytes d0)
  have hh2 := q2.trans hh0
  have c3 : Steps p.tables e below (s₁.setTop (entryFrame m #[.ref x] 1)) (T2.setTop (mkF m 7 #[.val (.ref x)] [.ref x])) := (c1.trans (st2 _ (Steps.refl _))).trans (by
    refine XS.ifNo X2.here hexec rfl (hb hbytes d3) rfl (i0_eq_f hz) ?_
    refine XS.aloadN X2.here hexec rfl (hb hbytes d6) rfl rfl ?_
    exact Steps.refl _)
  obtain ⟨T4, X4, q4, st4⟩ := X2.hget hexec hown (wk W (.fieldLink "java/lang/String" 15 "java/lang/String" "coder" "B")) (hx.mv X2.warmed.alike hh2) (g := (mkF m 7 #[.val (.ref x)] [.ref x])) rfl (rest := []) rfl (hb hbytes d7)
  have c5 : Steps p.tables e below (s₁.setTop (entryFrame m #[.ref x] 1)) (T4.setTop (mkF m 14 #[.val (.ref x)] [.int cd])) := (c3.trans (st4 _ (Steps.refl _))).trans (by
    refine XS.goto X4.here hexec rfl (pc0 := 10) rfl (hb hbytes d10) (by decide) rfl ?_
    exact Steps.refl _)
  exact ⟨T4, some (.int cd), _, _, _, X4, rfl, rfl, rfl, (fun h => by cases h), ⟨rfl, q4.trans hh2⟩, fun fs hl => c5.trans (X4.ireturnOut hexec hret (by rcases hc with rfl | rfl <;> rfl) (Or.inr (Or.inr (Or.inl rfl))) (hb hbytes d14) hl)⟩
end Cdr
namespace Len
def yN : MethodName := ⟨"java/lang/String", "length", "()I"⟩
abbrev yB : ByteArray := jdk_42_method_54_code
theorem d0 : decode yB 0 = .ok (.aload_n 0, 1) := by decide +kernel
theorem d1 : decode yB 1 = .ok (.getfield 9, 3) := by decide +kernel
theorem d4 : decode yB 4 = .ok (.arraylength, 1) := by decide +kernel
theorem d5 : decode yB 5 = .ok (.aload_n 0, 1) := by decide +kernel
theorem d6 : decode yB 6 = .ok (.invokevirtual 335, 3) := by decide +kernel
theorem d9 : decode yB 9 = .ok (.ishr, 1) := by decide +kernel
theorem d10 : decode yB 10 = .ok (.ireturn, 1) := by decide +kernel
def site : List Cond := [.fieldLink "java/lang/String" 9 "java/lang/String" "value" "[B", Cdr.tab] ++ virtW "java/lang/String" 335 "java/lang/String" Cdr.yN Cdr.yN
def tab : Cond := tabOf yN yB 1 (some .int) site
def P (x t : Addr) (V : Cell) (cd : Int32) (n : Nat) (f : Nat → Int32) (z : Int32) (args : Array Value) (s : State) : Prop := args = #[.ref x] ∧ Txt x t V cd n f s ∧ StaticIs s "java/lang/String" "COMPACT_STRINGS" "Z" (.int z) ∧ ¬ z = 0
def E (n : Nat) (r : Option Value) (s u : State) : Prop := XT.PureE (some (.int (Int32.ofNat n))) r s u
/-- length() of a String of n chars, in either coding -/
theorem law (l : Launch) (x t : Addr) (V : Cell) (cd : Int32) (n : Nat) (f : Nat → Int32) (z : Int32) : Law l yN 1 0 1 13 yB 1 (some .int) site (P x t V cd n f z) (E n) [] 0 0 := by
  refine Law.of_walk (plainFor_of_name (by decide +kernel)) (by decide +kernel) (by decide +kernel) (by decide) (fun _ _ h => by rw [h.1]; rfl) (fun _ U U' hal hh h => ⟨h.1, h.2.1.mv hal hh, h.2.2.1.there hal hh, h.2.2.2⟩) (fun r U U' V V' h1 hal h2 h => XT.PureE.mv r U U' V V' h1 hal h2 h) ?_
  intro p e s m args below meth c s₁ X0 hexec hbytes hml hret hlk hnm hown hh0 W hP
  obtain ⟨rfl, hx, s1, hz⟩ := hP
  have v31 := hx.2.2.2.1.2.2.2
  have c1 : Steps p.tables e below (s₁.setTop (entryFrame m #[.ref x] 1)) (s₁.setTop (mkF m 1 #[.val (.ref x)] [.ref x])) := Steps.trans (entry rfl) (by
    show Steps p.tables e below (s₁.setTop (mkF m 0 #[.val (.ref x)] [])) _
    refine XS.aloadN X0.here hexec rfl (hb hbytes d0) rfl rfl ?_
    exact Steps.refl _)
  obtain ⟨T2, X2, q2, st2⟩ := X0.hget hexec hown (wk W (.fieldLink "java/lang/String" 9 "java/lang/String" "value" "[B")) (hx.mv X0.warmed.alike hh0).2.1 (g := (mkF m 1 #[.val (.ref x)] [.ref x])) rfl (rest := []) rfl (hb hbytes d1)
  have hh2 := q2.trans hh0
  have hx2 := hx.mv X2.warmed.alike hh2
  have c3 : Steps p.tables e below (s₁.setTop (entryFrame m #[.ref x] 1)) (T2.setTop (mkF m 6 #[.val (.ref x)] [.ref x, .int (Int32.ofNat V.slots.size)])) := (c1.trans (st2 _ (Steps.refl _))).trans (by
    refine X2.alen hexec hx2.2.2.2.1 rfl rfl (hb hbytes d4) ?_
    refine XS.aloadN X2.here hexec rfl (hb hbytes d5) rfl rfl ?_
    exact Steps.refl _)
  obtain ⟨v4, T4, X4, E4, g4⟩ := X2.callV hexec (Cdr.law l x cd z) hown (wks W (virtW "java/lang/String" 335 "java/lang/String" Cdr.yN Cdr.yN)) rfl (by decide) (wk W Cdr.tab) (W := 1) (Nat.le_of_ble_eq_true rfl) (Nat.le_of_ble_eq_true rfl) (Nat.le_refl _) (Nat.le_refl _) (hx2.1.fc X2.warmed.alike) hx2.1.is (g := (mkF m 6 #[.val (.ref x)] [.ref x, .int (Int32.ofNat V.slots.size)])) rfl (by rw [hml]; rfl) c3 (argsL := []) (rest := [.int (Int32.ofNat V.slots.size)]) rfl rfl (by show 2 * 0 + (1 + 0) ≤ _; decide) (hb hbytes d6) (⟨rfl, hx2.2.2.1, hx.2.2.2.2.1.cd, s1.there X2.warmed.alike hh2, hz⟩)
  obtain ⟨rfl, q4⟩ := E4
  have c5 : Steps p.tables e below (s₁.setTop (entryFrame m #[.ref x] 1)) (T4.setTop (mkF m 10 #[.val (.ref x)] [.int (Int32.ofNat V.slots.size >>> (cd &&& 31))])) := Steps.trans g4 (by
    refine ishr X4.here hexec rfl (hb hbytes d9) rfl ?_
    exact Steps.refl _)
  rw [hx.2.2.2.2.1.len v31] at c5
  exact ⟨T4, some (.int (Int32.ofNat n)), _, _, _, X4, rfl, rfl, rfl, (fun h => by cases h), ⟨rfl, q4.trans hh2⟩, fun fs hl => c5.trans (X4.ireturnOut hexec hret rfl (Or.inl rfl) (hb hbytes d10) hl)⟩
theorem pays {l : Launch} {R : Room} {p : Program} {e : Env} {below : List Frame} {s : State} {sargs : Array Value} {len W : Nat} (x t : Addr) (V : Cell) (cd : Int32) (n : Nat) (f : Nat → Int32) (z : Int32) (htab : tab.before sargs s = true) (hfr : 2 ≤ R.frames) (hlo : W + 25 ≤ R.locals) :
    Back l R p e below s sargs yN len W (fun A₁ a₁ => A₁.cells + 0 ≤ R.cells ∧ A₁.slots + 0 ≤ R.slots ∧ P x t V cd n f z a₁ A₁.U) (fun A₁ _ v₁ B₁ => E n v₁ A₁.U B₁.U ∧ B₁.locs = A₁.locs ++ [] ∧ B₁.cells = A₁.cells + 0 ∧ B₁.slots = A₁.slots + 0) :=
  (law l x t V cd n f z).pays htab hfr (by omega)
end Len
namespace IsL
def yN : MethodName := ⟨"java/lang/String", "isLatin1", "()Z"⟩
abbrev yB : ByteArray := jdk_42_method_154_code
theorem d0 : decode yB 0 = .ok (.getstatic 38, 3) := by decide +kernel
theorem d3 : decode yB 3 = .ok (.ifCond (.eq) 14, 3) := by decide +kernel
theorem d6 : decode yB 6 = .ok (.aload_n 0, 1) := by decide +kernel
theorem d7 : decode yB 7 = .ok (.getfield 15, 3) := by decide +kernel
theorem d10 : decode yB 10 = .ok (.ifCond (.ne) 7, 3) := by decide +kernel
theorem d13 : decode yB 13 = .ok (.iconst 1, 1) := by decide +kernel
theorem d14 : decode yB 14 = .ok (.goto 4, 3) := by decide +kernel
theorem d17 : decode yB 17 = .ok (.iconst 0, 1) := by decide +kernel
theorem d18 : decode yB 18 = .ok (.ireturn, 1) := by decide +kernel
def site : List Cond := [.fieldLink "java/lang/String" 38 "java/lang/String" "COMPACT_STRINGS" "Z", .fieldLink "java/lang/String" 15 "java/lang/String" "coder" "B"]
def tab : Cond := tabOf yN yB 1 (some .boolean) site
def P (x : Addr) (cd z : Int32) (args : Array Value) (s : State) : Prop := args = #[.ref x] ∧ Has x "java/lang/String" "coder" "B" (.int cd) s ∧ (cd = 0 ∨ cd = 1) ∧ StaticIs s "java/lang/String" "COMPACT_STRINGS" "Z" (.int z) ∧ ¬ z = 0
def E (cd : Int32) (r : Option Value) (s u : State) : Prop := XT.PureE (some (.int (1 - cd))) r s u
theorem law (l : Launch) (x : Addr) (cd z : Int32) : Law l yN 1 0 0 0 yB 1 (some .boolean) site (P x cd z) (E cd) [] 0 0 := by
  refine Law.of_walk (plainFor_of_name (by decide +kernel)) (by decide +kernel) (by decide +kernel) (by decide) (fun _ _ h => by rw [h.1]; rfl) (fun _ U U' hal hh h => ⟨h.1, h.2.1.mv hal hh, h.2.2.1, h.2.2.2.1.there hal hh, h.2.2.2.2⟩) (fun r U U' V V' h1 hal h2 h => XT.PureE.mv r U U' V V' h1 hal h2 h) ?_
  intro p e s m args below meth c s₁ X0 hexec hbytes hml hret hlk hnm hown hh0 W hP
  obtain ⟨rfl, hx, hc, s1, hz⟩ := hP
  have c1 : Steps p.tables e below (s₁.setTop (entryFrame m #[.ref x] 1)) (s₁.setTop (mkF m 0 #[.val (.ref x)] [])) := entry rfl
  obtain ⟨T2, X2, q2, st2⟩ := X0.sget hexec hown (wk W (.fieldLink "java/lang/String" 38 "java/lang/String" "COMPACT_STRINGS" "Z")) s1 (fun _ _ h => by rw [hh0]; exact h) (g := (mkF m 0 #[.val (.ref x)] [])) rfl (hb hbytes d0)
  have hh2 := q2.trans hh0
  have c3 : Steps p.tables e below (s₁.setTop (entryFrame m #[.ref x] 1)) (T2.setTop (mkF m 7 #[.val (.ref x)] [.ref x])) := (c1.trans (st2 _ (Steps.refl _))).trans (by
    refine XS.ifNo X2.here hexec rfl (hb hbytes d3) rfl (i0_eq_f hz) ?_
    refine XS.aloadN X2.here hexec rfl (hb hbytes d6) rfl rfl ?_
    exact Steps.refl _)
  obtain ⟨T4, X4, q4, st4⟩ := X2.hget hexec hown (wk W (.fieldLink "java/lang/String" 15 "java/lang/String" "coder" "B")) (hx.mv X2.warmed.alike hh2) (g := (mkF m 7 #[.val (.ref x)] [.ref x])) rfl (rest := []) rfl (hb hbytes d7)
  have c5 : Steps p.tables e below (s₁.setTop (entryFrame m #[.ref x] 1)) (T4.setTop (mkF m 10 #[.val (.ref x)] [.int cd])) := c3.trans (st4 _ (Steps.refl _))
  have c6 : Steps p.tables e below (s₁.setTop (entryFrame m #[.ref x] 1)) (T4.setTop (mkF m 18 #[.val (.ref x)] [.int (1 - cd)])) := by
    rcases hc with rfl | rfl
    · exact c5.trans (by
        refine XS.ifNo X4.here hexec rfl (hb hbytes d10) rfl (i0_ne_f rfl) ?_
        refine iconstV X4.here hexec rfl 1 (hb hbytes d13) (by decide) ?_
        refine XS.goto X4.here hexec rfl (pc0 := 14) rfl (hb hbytes d14) (by decide) rfl ?_
        exact Steps.refl _)
    · exact c5.trans (by
        refine XS.ifYes X4.here hexec rfl (pc0 := 10) rfl (hb hbytes d10) rfl (i0_ne_t (by decide)) (by decide) rfl ?_
        refine iconstV X4.here hexec rfl 0 (hb hbytes d17) (by decide) ?_
        exact Steps.refl _)
  exact ⟨T4, some (.int (1 - cd)), _, _, _, X4, rfl, rfl, rfl, (fun h => by cases h), ⟨rfl, q4.trans hh2⟩, fun fs hl => c6.trans (X4.ireturnOut hexec hret (by rcases hc with rfl | rfl <;> rfl) (Or.inr (Or.inl rfl)) (hb hbytes d18) hl)⟩
end IsL
namespace LChA
def yN : MethodName := ⟨"java/lang/StringLatin1", "charAt", "([BI)C"⟩
abbrev yB : ByteArray := jdk_43_method_2_code
theorem d0 : decode yB 0 = .ok (.iload_n 1, 1) := by decide +kernel
theorem d1 : decode yB 1 = .ok (.aload_n 0, 1) := by decide +kernel
theorem d2 : decode yB 2 = .ok (.arraylength, 1) := by decide +kernel
theorem d3 : decode yB 3 = .ok (.invokestatic 9, 3) := by decide +kernel
theorem d6 : decode yB 6 = .ok (.aload_n 0, 1) := by decide +kernel
theorem d7 : decode yB 7 = .ok (.iload_n 1, 1) := by decide +kernel
theorem d8 : decode yB 8 = .ok (.baload, 1) := by decide +kernel
theorem d9 : decode yB 9 = .ok (.sipush 255, 3) := by decide +kernel
theorem d12 : decode yB 12 = .ok (.iand, 1) := by decide +kernel
theorem d13 : decode yB 13 = .ok (.i2c, 1) := by decide +kernel
theorem d14 : decode yB 14 = .ok (.ireturn, 1) := by decide +kernel
def site : List Cond := [JO.Str_checkIndex.tab] ++ staticW "java/lang/StringLatin1" 9 JO.Str_checkIndex.yN
def tab : Cond := tabOf yN yB 2 (some .char) site
def P (t : Addr) (V : Cell) (i : Nat) (u : Int32) (fm : Value) (args : Array Value) (s : State) : Prop := args = #[.ref t, .int (Int32.ofNat i)] ∧ XT.Arr .byte t V s ∧ V.slots[i]? = some (.int u) ∧ (StaticIs s "jdk/internal/util/Preconditions" "SIOOBE_FORMATTER" "Ljava/util/function/BiFunction;" fm ∧ fm.isRef = true)
def E (u : Int32) (r : Option Value) (s w : State) : Prop := XT.PureE (some (.int (chr8 u))) r s w
theorem law (l : Launch) (t : Addr) (V : Cell) (i : Nat) (u : Int32) (fm : Value) : Law l yN 2 2 2 27 yB 2 (some .char) site (P t V i u fm) (E u) [] 0 0 := by
  refine Law.of_walk (plainFor_of_name (by decide +kernel)) (by decide +kernel) (by decide +kernel) (by decide) (fun _ _ h => by rw [h.1]; rfl) (fun _ U U' hal hh h => ⟨h.1, h.2.1.mv hal hh, h.2.2.1, h.2.2.2.1.there hal hh, h.2.2.2.2⟩) (fun r U U' V V' h1 hal h2 h => XT.PureE.mv r U U' V V' h1 hal h2 h) ?_
  intro p e s m args below meth c s₁ X0 hexec hbytes hml hret hlk hnm hown hh0 W hP
  obtain ⟨rfl, hV, hu, s1, rf⟩ := hP
  have v31 := hV.2.2.2
  have hi : i < V.slots.size := (Array.getElem?_eq_some_iff.mp hu).1
  have c1 : Steps p.tables e below (s₁.setTop (entryFrame m #[.ref t, .int (Int32.ofNat i)] 2)) (s₁.setTop (mkF m 0 #[.val (.ref t), .val (.int (Int32.ofNat i))] [])) := entry rfl
  have c2 : Steps p.tables e below (s₁.setTop (entryFrame m #[.ref t, .int (Int32.ofNat i)] 2)) (s₁.setTop (mkF m 3 #[.val (.ref t), .val (.int (Int32.ofNat i))] [.int (Int32.ofNat V.slots.size), .int (Int32.ofNat i)])) := c1.trans (by
    refine XS.iloadN X0.here hexec rfl (hb hbytes d0) rfl ?_
    refine XS.aloadN X0.here hexec rfl (hb hbytes d1) rfl rfl ?_
    refine X0.alen hexec (hV.mv X0.warmed.alike hh0) rfl rfl (hb hbytes d2) ?_
    exact Steps.refl _)
  obtain ⟨v3, T3, X3, E3, g3⟩ := X0.callS hexec (JO.Str_checkIndex.law l (Int32.ofNat i) (Int32.ofNat V.slots.size) fm) hown (wks W (staticW "java/lang/StringLatin1" 9 JO.Str_checkIndex.yN)) (wk W JO.Str_checkIndex.tab) (W := 0) (Nat.le_of_ble_eq_true rfl) (Nat.le_of_ble_eq_true rfl) (Nat.le_refl _) (Nat.le_refl _) (g := (mkF m 3 #[.val (.ref t), .val (.int (Int32.ofNat i))] [.int (Int32.ofNat V.slots.size), .int (Int32.ofNat i)])) rfl (by rw [hml]; rfl) c2 (argsL := [.int (Int32.ofNat i), .int (Int32.ofNat V.slots.size)]) (rest := []) rfl rfl (by show 2 * 0 + 0 ≤ _; decide) (hb hbytes d3) (⟨rfl, rf, s1.there X0.warmed.alike hh0, Int32.ofNat_not_neg (by omega), lt32 v31 hi⟩)
  obtain ⟨rfl, q3⟩ := E3
  have hh3 := q3.trans hh0
  have c4 : Steps p.tables e below (s₁.setTop (entryFrame m #[.ref t, .int (Int32.ofNat i)] 2)) (T3.setTop (mkF m 14 #[.val (.ref t), .val (.int (Int32.ofNat i))] [.int (chr8 u)])) := Steps.trans g3 (by
    refine XS.aloadN X3.here hexec rfl (hb hbytes d6) rfl rfl ?_
    refine XS.iloadN X3.here hexec rfl (hb hbytes d7) rfl ?_
    refine X3.aget hexec (hV.mv X3.warmed.alike hh3) rfl hu rfl rfl (hb hbytes d8) ?_
    refine sipushV X3.here hexec rfl 255 (hb hbytes d9) (by decide) ?_
    refine XS.iand X3.here hexec rfl (hb hbytes d12) rfl ?_
    refine i2c X3.here hexec rfl (hb hbytes d13) rfl ?_
    exact Steps.refl _)
  exact ⟨T3, some (.int (chr8 u)), _, _, _, X3, rfl, rfl, rfl, (fun h => by cases h), ⟨rfl, hh3⟩, fun fs hl => c4.trans (X3.ireturnOut hexec hret (narrow_c _) (Or.inr (Or.inr (Or.inr (Or.inl rfl)))) (hb hbytes d14) hl)⟩
end LChA
end StrChars
namespace StrChars.Road
open Jvm Sem ClassFile Op Lib Jvm.Stand Jvm.Free Jvm.Free.XT
open Jvm.Lib.Cold (StaticIs)
theorem consq {a : Array Value} {s : State} {c : Jvm.Cond} {L : List Jvm.Cond} (h0 : c.before a s = true) (h : ∀ w ∈ L, w.before a s = true) : ∀ w ∈ c :: L, w.before a s = true := fun w hw => (List.mem_cons.mp hw).elim (fun e => e ▸ h0) (h w)
/-- the words of String.length(), either coding -/
abbrev wordsLen : List Jvm.Cond := [.code Len.yN Len.yB 1 (some .int), .initialized ST, .fieldLink ST 9 ST "value" "[B", .fieldLink ST 38 ST "COMPACT_STRINGS" "Z", .fieldLink ST 15 ST "coder" "B", .code Cdr.yN Cdr.yB 1 (some .byte), .methodLink ST 335 Cdr.yN, .declares Cdr.yN, .selects ST Cdr.yN Cdr.yN, .instanceMethod Cdr.yN]
theorem tabLen_of {a : Array Value} {s : State} (h : ∀ w ∈ wordsLen, w.before a s = true) : Len.tab.before a s = true := by
  have hc : Cdr.tab.before a s = true := unparts (wk h (.code Cdr.yN Cdr.yB 1 (some .byte))) (wks h (.initialized Cdr.yN.cls :: Cdr.site))
  have q := consq hc h
  exact unparts (wk q (.code Len.yN Len.yB 1 (some .int))) (wks q (.initialized Len.yN.cls :: Len.site))
theorem movedLen {Z s : State} {a0 args : Array Value} (hZ : Z.Warmed39 s.vm) (hw : ∀ d ∈ wordsLen, d.before a0 Z = true) : ∀ d ∈ wordsLen, d.before args s = true := fun d hd => by
  have q := hw d hd
  have t : ∀ d ∈ wordsLen, d = .arrayClass .byte ∨ (d.onTables && d.keepsFace) = true := by decide +kernel
  rcases t d hd with rfl | t
  · exact RoadKit.mvA hZ q
  · exact RoadKit.mv hZ q t
/-- the bytes of the chars cs, low before high -/
def wideBytes : List Int32 → List Value
  | [] => []
  | c :: cs => .int (lo8 c) :: .int (hi8 c) :: wideBytes cs
theorem wide_lo (d : Value) : ∀ (cs : List Int32) (j : Nat), j < cs.length → (wideBytes cs).getD (2 * j) d = .int (lo8 (cs.getD j 0))
  | [], j, h => absurd h (Nat.not_lt_zero j)
  | c :: cs, 0, _ => rfl
  | c :: cs, j + 1, h => by
    have q := wide_lo d cs j (by simpa using h)
    rw [show 2 * (j + 1) = 2 * j + 1 + 1 from by omega]
    simpa [wideBytes] using q
theorem wide_hi (d : Value) : ∀ (cs : List Int32) (j : Nat), j < cs.length → (wideBytes cs).getD (2 * j + 1) d = .int (hi8 (cs.getD j 0))
  | [], j, h => absurd h (Nat.not_lt_zero j)
  | c :: cs, 0, _ => rfl
  | c :: cs, j + 1, h => by
    have q := wide_hi d cs j (by simpa using h)
    rw [show 2 * (j + 1) + 1 = 2 * j + 1 + 1 + 1 from by omega]
    simpa [wideBytes] using q
theorem low_at (d : Value) (cs : List Int32) (j : Nat) (h : j < cs.length) : (cs.map fun c => Value.int (lo8 c)).getD j d = .int (lo8 (cs.getD j 0)) := by
  simp [List.getD_eq_getElem?_getD, h]
/-- an array of N2 bytes vs codes the chars cs by the coder cd -/
def CodA (cs : List Int32) (cd N2 : Int32) (vs : List Value) : Prop := (cd = 0 ∧ N2 = Int32.ofNat cs.length ∧ vs = (cs.map fun c => Value.int (lo8 c)) ∧ ∀ c ∈ cs, ¬ 255 < c) ∨ (cd = 1 ∧ N2 = Int32.ofNat (2 * cs.length) ∧ vs = wideBytes cs ∧ ∃ c ∈ cs, 255 < c)
theorem CodA.cod {cs : List Int32} {cd N2 : Int32} {vs : List Value} {V : Cell} (h : CodA cs cd N2 vs) (hn : 2 * cs.length < 2 ^ 31) (hs : V.slots.size = N2.toNatClampNeg) (hv : RoadKit.Has V vs (.int 0)) : Cod cd cs.length (fun j => cs.getD j 0) V := by
  rcases h with ⟨rfl, rfl, rfl, h⟩ | ⟨rfl, rfl, rfl, c, hc, hw⟩
  · rw [n32 (by omega)] at hs
    exact Or.inl ⟨rfl, hs, fun j hj => ⟨by rw [hv j (by omega), low_at _ _ _ hj], by
      have e : cs.getD j 0 = cs[j] := by simp [List.getD_eq_getElem?_getD, hj]
      show ¬ 255 < cs.getD j 0
      rw [e]; exact h _ (List.getElem_mem _)⟩⟩
  · rw [n32 (by omega)] at hs
    obtain ⟨j, hj, rfl⟩ := List.getElem_of_mem hc
    exact Or.inr ⟨rfl, hs, fun j hj => ⟨by rw [hv _ (by omega), wide_lo _ _ _ hj], by rw [hv _ (by omega), wide_hi _ _ _ hj]⟩, j, hj, by
      have e : cs.getD j 0 = cs[j] := by simp [List.getD_eq_getElem?_getD, hj]
      show 255 < cs.getD j 0
      rw [e]; exact hw⟩
/-- an object of exactly java/lang/String, its two fields found: as the laws ask it -/
theorem strObj {Z U : State} {a0 : Array Value} {kI : Nat} (wi : (Jvm.Cond.instantiable ST kI).before a0 Z = true) (al : Z.vm.Alike U.vm) {x : Addr} {v0 c0 : Value} (E : RoadKit.Exa Z U.heap x ST) (V : RoadKit.Fld Z U.heap x ST "value" "[B" v0) (C : RoadKit.Fld Z U.heap x ST "coder" "B" c0) :
    ∃ (D : Cell) (fV fC : Field), Blank ST x D U ∧ Found ST "value" "[B" fV U ∧ Found ST "coder" "B" fC U ∧ D.slots[fV.slot]? = some v0 ∧ D.slots[fC.slot]? = some c0 ∧ RoadKit.slotOf Z ST "value" "[B" = fV.slot ∧ RoadKit.slotOf Z ST "coder" "B" = fC.slot := by
  obtain ⟨D, cfV, kV, iV, fV, hD, gV, stV, knV, obV, asV, slV⟩ := V
  obtain ⟨D', cfC, kC, iC, fC, hD', gC, stC, -, -, asC, slC⟩ := C
  cases hD.symm.trans hD'
  obtain ⟨D2, kD, e1, e2, e3, e4, e5⟩ := E
  cases hD.symm.trans e1
  obtain ⟨c2, k2, i1, i2, i3, -⟩ := Cond.instantiable_spec wi
  cases e2.symm.trans i1
  cases e3.symm.trans i2
  obtain ⟨kU, u1, u2⟩ := al.2.2 _ _ e3
  exact ⟨D, fV, fC, ⟨hD, ⟨knV, fun q hq => by rw [hq] at obV; cases obV⟩, by rw [al.findClass]; exact e2, kU, u1, by rw [u2]; exact i3, by rw [u2]; exact e5 i3⟩, ⟨SBG.found_only al ⟨cfV, kV, iV, gV⟩, stV⟩, ⟨SBG.found_only al ⟨cfC, kC, iC, gC⟩, stC⟩, slV, slC, by simp [RoadKit.slotOf, gV], by simp [RoadKit.slotOf, gC]⟩
theorem sta_is {Z U : State} (al : Z.vm.Alike U.vm) {C n d : String} {v : Value} (S : RoadKit.Sta Z U.heap C n d v) : StaticIs U C n d v := by
  obtain ⟨cfS, iS, kS, fS, st, cS, t1, t2, t3, t4, t5, t6, t7⟩ := S
  exact StaticIs.there (s := { Z with heap := U.heap }) ⟨cfS, iS, kS, fS, st, cS, t1, t2, t3, t4, t5, (fun q => by rw [q] at t6; cases t6), t7⟩ al rfl
/-- **length() OF SUCH A STRING** -/
theorem lenW {p : Program} {l : Launch} {e : Env} {R : Room} {s : State} {args : Array Value} {below : List Frame} {len W : Nat} {Z : State} {a0 : Array Value} {h : Heap} (hZ : Z.Warmed39 s.vm) (hw : ∀ d ∈ wordsLen, d.before a0 Z = true) {kI : Nat} (wi : (Jvm.Cond.instantiable ST kI).before a0 Z = true)
    {x t : Addr} {kb : ClassId} {cs : List Int32} {cd N2 z : Int32} {vs : List Value} (E : RoadKit.Exa Z h x ST) (V : RoadKit.Fld Z h x ST "value" "[B" (.ref t)) (C : RoadKit.Fld Z h x ST "coder" "B" (.int cd)) (K : RoadKit.Arv Z h t kb .byte N2 vs (.int 0)) (hc : CodA cs cd N2 vs) (hb : ∀ c ∈ cs, ¬ c < 0 ∧ ¬ (65535 : Int32) < c)
    (S : RoadKit.Sta Z h ST "COMPACT_STRINGS" "Z" (.int z)) (hz : ¬ z = 0) (l2 : cs.length ≤ 4000) (hfr : 2 ≤ R.frames) (hlo : W + 25 ≤ R.locals) :
    Back l R p e below s args (⟨"java/lang/String", "length", "()I"⟩ : MethodName) len W (fun P a => a = #[.ref x] ∧ P.U.heap = h ∧ P.cells + 0 ≤ R.cells ∧ P.slots + 0 ≤ R.slots)
      (fun P _ v B => ∃ L, (v = some (.int (Int32.ofNat cs.length)) ∧ L = [] ∧ B.U.heap = h) ∧ B.locs = P.locs ++ L ∧ B.cells = P.cells + 0 ∧ B.slots = P.slots + 0) := by
  obtain ⟨A, K1, K2, K3, K4, K5, K6⟩ := K
  have hcod := hc.cod (by omega) K3 K5
  intro m meth c P g ig mk a X hg hsize hdg hW hn hp'
  obtain ⟨rfl, rfl, r1, r2⟩ := hp'
  have al : Z.vm.Alike P.U.vm := hZ.alike.trans X.warmed.alike
  obtain ⟨D, fV, fC, hB, F1, F2, g1, g2, -, -⟩ := strObj wi al E V C
  have hx : Txt x t A cd cs.length (fun j => cs.getD j 0) P.U := ⟨⟨_, hB.2.2.1, D, hB.1, rfl, by cases q : D.vm <;> first | rfl | exact absurd q (hB.2.1.2 _)⟩, Has.of hB F1 g1, Has.of hB F2 g2, ⟨K1.1, State.isArrayOf_alike al K1.2.1, K1.2.2, by rcases hcod with ⟨-, q, -⟩ | ⟨-, q, -⟩ <;> omega⟩, hcod, fun j hj => by
    have e : cs.getD j 0 = cs[j] := by simp [List.getD_eq_getElem?_getD, hj]
    show ¬ cs.getD j 0 < 0 ∧ ¬ 65535 < cs.getD j 0
    rw [e]; exact hb _ (List.getElem_mem _)⟩
  obtain ⟨v, B, X', ⟨⟨hv, hh⟩, hl, hk, hs⟩, st⟩ := Len.pays x t A cd cs.length (fun j => cs.getD j 0) z (tabLen_of (movedLen hZ hw)) hfr hlo m meth c P g ig mk _ X hg hsize hdg hW hn ⟨r1, r2, rfl, hx, sta_is al S, hz⟩
  exact ⟨v, B, X', ⟨[], ⟨hv, rfl, hh⟩, hl, hk, hs⟩, st⟩
end StrChars.Road
namespace StrChars
open Jvm Sem ClassFile Op Lib Jvm.Stand Jvm.Free.XT Jvm.Free.ALB Jvm.Free.JM Jvm.Free
open Jvm.Lib.Cold (StaticIs)
namespace Emp
def yN : MethodName := ⟨"java/lang/String", "isEmpty", "()Z"⟩
abbrev yB : ByteArray := jdk_42_method_55_code
theorem d0 : decode yB 0 = .ok (.aload_n 0, 1) := by decide +kernel
theorem d1 : decode yB 1 = .ok (.getfield 9, 3) := by decide +kernel
theorem d4 : decode yB 4 = .ok (.arraylength, 1) := by decide +kernel
theorem d5 : decode yB 5 = .ok (.ifCond (.ne) 7, 3) := by decide +kernel
theorem d8 : decode yB 8 = .ok (.iconst 1, 1) := by decide +kernel
theorem d9 : decode yB 9 = .ok (.goto 4, 3) := by decide +kernel
theorem d12 : decode yB 12 = .ok (.iconst 0, 1) := by decide +kernel
theorem d13 : decode yB 13 = .ok (.ireturn, 1) := by decide +kernel
def site : List Cond := [.fieldLink "java/lang/String" 9 "java/lang/String" "value" "[B"]
def tab : Cond := tabOf yN yB 1 (some .boolean) site
def P (x t : Addr) (V : Cell) (cd : Int32) (n : Nat) (f : Nat → Int32) (args : Array Value) (s : State) : Prop := args = #[.ref x] ∧ Txt x t V cd n f s
def E (n : Nat) (r : Option Value) (s u : State) : Prop := XT.PureE (some (.int (if n = 0 then 1 else 0))) r s u
/-- isEmpty() of a String of n chars -/
theorem law (l : Launch) (x t : Addr) (V : Cell) (cd : Int32) (n : Nat) (f : Nat → Int32) : Law l yN 1 0 0 0 yB 1 (some .boolean) site (P x t V cd n f) (E n) [] 0 0 := by
  refine Law.of_walk (plainFor_of_name (by decide +kernel)) (by decide +kernel) (by decide +kernel) (by decide) (fun _ _ h => by rw [h.1]; rfl) (fun _ U U' hal hh h => ⟨h.1, h.2.mv hal hh⟩) (fun r U U' V V' h1 hal h2 h => XT.PureE.mv r U U' V V' h1 hal h2 h) ?_
  intro p e s m args below meth c s₁ X0 hexec hbytes hml hret hlk hnm hown hh0 W hP
  obtain ⟨rfl, hx⟩ := hP
  have v31 := hx.2.2.2.1.2.2.2
  have c1 : Steps p.tables e below (s₁.setTop (entryFrame m #[.ref x] 1)) (s₁.setTop (mkF m 1 #[.val (.ref x)] [.ref x])) := Steps.trans (entry rfl) (by
    show Steps p.tables e below (s₁.setTop (mkF m 0 #[.val (.ref x)] [])) _
    refine XS.aloadN X0.here hexec rfl (hb hbytes d0) rfl rfl ?_
    exact Steps.refl _)
  obtain ⟨T2, X2, q2, st2⟩ := X0.hget hexec hown (wk W (.fieldLink "java/lang/String" 9 "java/lang/String" "value" "[B")) (hx.mv X0.warmed.alike hh0).2.1 (g := (mkF m 1 #[.val (.ref x)] [.ref x])) rfl (rest := []) rfl (hb hbytes d1)
  have hh2 := q2.trans hh0
  have hx2 := hx.mv X2.warmed.alike hh2
  have c3 : Steps p.tables e below (s₁.setTop (entryFrame m #[.ref x] 1)) (T2.setTop (mkF m 5 #[.val (.ref x)] [.int (Int32.ofNat V.slots.size)])) := (c1.trans (st2 _ (Steps.refl _))).trans (by
    refine X2.alen hexec hx2.2.2.2.1 rfl rfl (hb hbytes d4) ?_
    exact Steps.refl _)
  have hz : V.slots.size = 0 ↔ n = 0 := by
    rcases hx.2.2.2.2.1 with ⟨-, q, -⟩ | ⟨-, q, -⟩ <;> omega
  by_cases h0 : n = 0
  · have c4 : Steps p.tables e below (s₁.setTop (entryFrame m #[.ref x] 1)) (T2.setTop (mkF m 13 #[.val (.ref x)] [.int 1])) := c3.trans (by
      refine XS.ifNo X2.here hexec rfl (hb hbytes d5) rfl (i0_ne_f (by rw [hz.mpr h0]; rfl)) ?_
      refine iconstV X2.here hexec rfl 1 (hb hbytes d8) (by decide) ?_
      refine XS.goto X2.here hexec rfl (pc0 := 9) rfl (hb hbytes d9) (by decide) rfl ?_
      exact Steps.refl _)
    exact ⟨T2, some (.int 1), _, _, _, X2, rfl, rfl, rfl, (fun h => by cases h), ⟨by rw [if_pos h0], hh2⟩, fun fs hl => c4.trans (X2.ireturnOut hexec hret rfl (Or.inr (Or.inl rfl)) (hb hbytes d13) hl)⟩
  · have c4 : Steps p.tables e below (s₁.setTop (entryFrame m #[.ref x] 1)) (T2.setTop (mkF m 13 #[.val (.ref x)] [.int 0])) := c3.trans (by
      refine XS.ifYes X2.here hexec rfl (pc0 := 5) rfl (hb hbytes d5) rfl (i0_ne_t (nz32 v31 (by omega))) (by decide) rfl ?_
      refine iconstV X2.here hexec rfl 0 (hb hbytes d12) (by decide) ?_
      exact Steps.refl _)
    exact ⟨T2, some (.int 0), _, _, _, X2, rfl, rfl, rfl, (fun h => by cases h), ⟨by rw [if_neg h0], hh2⟩, fun fs hl => c4.trans (X2.ireturnOut hexec hret rfl (Or.inr (Or.inl rfl)) (hb hbytes d13) hl)⟩
theorem pays {l : Launch} {R : Room} {p : Program} {e : Env} {below : List Frame} {s : State} {sargs : Array Value} {len W : Nat} (x t : Addr) (V : Cell) (cd : Int32) (n : Nat) (f : Nat → Int32) (htab : tab.before sargs s = true) (hfr : 1 ≤ R.frames) (hlo : W + 12 ≤ R.locals) :
    Back l R p e below s sargs yN len W (fun A₁ a₁ => A₁.cells + 0 ≤ R.cells ∧ A₁.slots + 0 ≤ R.slots ∧ P x t V cd n f a₁ A₁.U) (fun A₁ _ v₁ B₁ => E n v₁ A₁.U B₁.U ∧ B₁.locs = A₁.locs ++ [] ∧ B₁.cells = A₁.cells + 0 ∧ B₁.slots = A₁.slots + 0) :=
  (law l x t V cd n f).pays htab hfr (by omega)
end Emp
end StrChars
namespace StrChars.Road
open Jvm Sem ClassFile Op Lib Jvm.Stand Jvm.Free Jvm.Free.XT
open Jvm.Lib.Cold (StaticIs)
/-- the words of String.isEmpty() -/
abbrev wordsEmp : List Jvm.Cond := [.code Emp.yN Emp.yB 1 (some .boolean), .initialized ST, .fieldLink ST 9 ST "value" "[B"]
theorem tabEmp_of {a : Array Value} {s : State} (h : ∀ w ∈ wordsEmp, w.before a s = true) : Emp.tab.before a s = true := unparts (wk h (.code Emp.yN Emp.yB 1 (some .boolean))) (wks h (.initialized Emp.yN.cls :: Emp.site))
theorem movedEmp {Z s : State} {a0 args : Array Value} (hZ : Z.Warmed39 s.vm) (hw : ∀ d ∈ wordsEmp, d.before a0 Z = true) : ∀ d ∈ wordsEmp, d.before args s = true := fun d hd => by
  have t : ∀ d ∈ wordsEmp, (d.onTables && d.keepsFace) = true := by decide +kernel
  exact RoadKit.mv hZ (hw d hd) (t d hd)
/-- the road's facts of a String, as the laws ask it -/
theorem txt_of {Z U : State} {a0 : Array Value} {kI : Nat} (wi : (Jvm.Cond.instantiable ST kI).before a0 Z = true) (al : Z.vm.Alike U.vm) {x t : Addr} {kb : ClassId} {cs : List Int32} {cd N2 : Int32} {vs : List Value} (E : RoadKit.Exa Z U.heap x ST) (V : RoadKit.Fld Z U.heap x ST "value" "[B" (.ref t)) (C : RoadKit.Fld Z U.heap x ST "coder" "B" (.int cd)) (K : RoadKit.Arv Z U.heap t kb .byte N2 vs (.int 0)) (hc : CodA cs cd N2 vs) (hb : ∀ c ∈ cs, ¬ c < 0 ∧ ¬ (65535 : Int32) < c) (l2 : cs.length ≤ 4000) :
    ∃ A, Txt x t A cd cs.length (fun j => cs.getD j 0) U := by
  obtain ⟨A, K1, K2, K3, K4, K5, K6⟩ := K
  have hcod := hc.cod (by omega) K3 K5
  obtain ⟨D, fV, fC, hB, F1, F2, g1, g2, -, -⟩ := strObj wi al E V C
  exact ⟨A, ⟨_, hB.2.2.1, D, hB.1, rfl, by cases q : D.vm <;> first | rfl | exact absurd q (hB.2.1.2 _)⟩, Has.of hB F1 g1, Has.of hB F2 g2, ⟨K1.1, State.isArrayOf_alike al K1.2.1, K1.2.2, by rcases hcod with ⟨-, q, -⟩ | ⟨-, q, -⟩ <;> omega⟩, hcod, fun j hj => by
    have e : cs.getD j 0 = cs[j] := by simp [List.getD_eq_getElem?_getD, hj]
    show ¬ cs.getD j 0 < 0 ∧ ¬ 65535 < cs.getD j 0
    rw [e]; exact hb _ (List.getElem_mem _)⟩
/-- **isEmpty() OF SUCH A STRING** -/
theorem empW {p : Program} {l : Launch} {e : Env} {R : Room} {s : State} {args : Array Value} {below : List Frame} {len W : Nat} {Z : State} {a0 : Array Value} {h : Heap} (hZ : Z.Warmed39 s.vm) (hw : ∀ d ∈ wordsEmp, d.before a0 Z = true) {kI : Nat} (wi : (Jvm.Cond.instantiable ST kI).before a0 Z = true)
    {x t : Addr} {kb : ClassId} {cs : List Int32} {cd N2 : Int32} {vs : List Value} (E : RoadKit.Exa Z h x ST) (V : RoadKit.Fld Z h x ST "value" "[B" (.ref t)) (C : RoadKit.Fld Z h x ST "coder" "B" (.int cd)) (K : RoadKit.Arv Z h t kb .byte N2 vs (.int 0)) (hc : CodA cs cd N2 vs) (hb : ∀ c ∈ cs, ¬ c < 0 ∧ ¬ (65535 : Int32) < c) (l2 : cs.length ≤ 4000) (hfr : 1 ≤ R.frames) (hlo : W + 12 ≤ R.locals) :
    Back l R p e below s args (⟨"java/lang/String", "isEmpty", "()Z"⟩ : MethodName) len W (fun P a => a = #[.ref x] ∧ P.U.heap = h ∧ P.cells + 0 ≤ R.cells ∧ P.slots + 0 ≤ R.slots)
      (fun P _ v B => ∃ L, (v = some (.int (if cs.length = 0 then 1 else 0)) ∧ L = [] ∧ B.U.heap = h) ∧ B.locs = P.locs ++ L ∧ B.cells = P.cells + 0 ∧ B.slots = P.slots + 0) := by
  intro m meth c P g ig mk a X hg hsize hdg hW hn hp'
  obtain ⟨rfl, rfl, r1, r2⟩ := hp'
  have al : Z.vm.Alike P.U.vm := hZ.alike.trans X.warmed.alike
  obtain ⟨A, hx⟩ := txt_of wi al E V C K hc hb l2
  obtain ⟨v, B, X', ⟨⟨hv, hh⟩, hl, hk, hs⟩, st⟩ := Emp.pays x t A cd cs.length (fun j => cs.getD j 0) (tabEmp_of (movedEmp hZ hw)) hfr hlo m meth c P g ig mk _ X hg hsize hdg hW hn ⟨r1, r2, rfl, hx⟩
  exact ⟨v, B, X', ⟨[], ⟨hv, rfl, hh⟩, hl, hk, hs⟩, st⟩
end StrChars.Road
namespace StrChars
open Jvm Sem ClassFile Op Lib Jvm.Stand Jvm.Free.XT Jvm.Free.ALB Jvm.Free.JM Jvm.Free
open Jvm.Lib.Cold (StaticIs)
namespace ChN
def yN : MethodName := ⟨"java/lang/String", "charAt", "(I)C"⟩
abbrev yB : ByteArray := jdk_42_method_56_code
theorem d0 : decode yB 0 = .ok (.aload_n 0, 1) := by decide +kernel
theorem d1 : decode yB 1 = .ok (.invokevirtual 492, 3) := by decide +kernel
theorem d4 : decode yB 4 = .ok (.ifCond (.eq) 12, 3) := by decide +kernel
theorem d7 : decode yB 7 = .ok (.aload_n 0, 1) := by decide +kernel
theorem d8 : decode yB 8 = .ok (.getfield 9, 3) := by decide +kernel
theorem d11 : decode yB 11 = .ok (.iload_n 1, 1) := by decide +kernel
theorem d12 : decode yB 12 = .ok (.invokestatic 495, 3) := by decide +kernel
theorem d15 : decode yB 15 = .ok (.ireturn, 1) := by decide +kernel
def site : List Cond := [.fieldLink "java/lang/String" 9 "java/lang/String" "value" "[B", IsL.tab, LChA.tab] ++ virtW "java/lang/String" 492 "java/lang/String" IsL.yN IsL.yN ++ staticW "java/lang/String" 495 LChA.yN
def tab : Cond := tabOf yN yB 2 (some .char) site
def P (x t : Addr) (V : Cell) (n : Nat) (f : Nat → Int32) (z : Int32) (fm : Value) (i : Nat) (args : Array Value) (s : State) : Prop := args = #[.ref x, .int (Int32.ofNat i)] ∧ Txt x t V 0 n f s ∧ i < n ∧ StaticIs s "java/lang/String" "COMPACT_STRINGS" "Z" (.int z) ∧ ¬ z = 0 ∧ StaticIs s "jdk/internal/util/Preconditions" "SIOOBE_FORMATTER" "Ljava/util/function/BiFunction;" fm ∧ fm.isRef = true
def E (f : Nat → Int32) (i : Nat) (r : Option Value) (s u : State) : Prop := XT.PureE (some (.int (f i))) r s u
/-- charAt(i) of a Latin-1 String of n chars, i < n: f i -/
theorem law (l : Launch) (x t : Addr) (V : Cell) (n : Nat) (f : Nat → Int32) (z : Int32) (fm : Value) (i : Nat) : Law l yN 2 1 3 40 yB 2 (some .char) site (P x t V n f z fm i) (E f i) [] 0 0 := by
  refine Law.of_walk (plainFor_of_name (by decide +kernel)) (by decide +kernel) (by decide +kernel) (by decide) (fun _ _ h => by rw [h.1]; rfl) (fun _ U U' hal hh h => ⟨h.1, h.2.1.mv hal hh, h.2.2.1, h.2.2.2.1.there hal hh, h.2.2.2.2.1, h.2.2.2.2.2.1.there hal hh, h.2.2.2.2.2.2⟩) (fun r U U' V V' h1 hal h2 h => XT.PureE.mv r U U' V V' h1 hal h2 h) ?_
  intro p e s m args below meth c s₁ X0 hexec hbytes hml hret hlk hnm hown hh0 W hP
  obtain ⟨rfl, hx, hi, s1, hz, s3, rf⟩ := hP
  have v31 := hx.2.2.2.1.2.2.2
  have hr := hx.2.2.2.2.2 i hi
  have hx0 := hx.mv X0.warmed.alike hh0
  have c1 : Steps p.tables e below (s₁.setTop (entryFrame m #[.ref x, .int (Int32.ofNat i)] 2)) (s₁.setTop (mkF m 1 #[.val (.ref x), .val (.int (Int32.ofNat i))] [.ref x])) := Steps.trans (entry rfl) (by
    show Steps p.tables e below (s₁.setTop (mkF m 0 #[.val (.ref x), .val (.int (Int32.ofNat i))] [])) _
    refine XS.aloadN X0.here hexec rfl (hb hbytes d0) rfl rfl ?_
    exact Steps.refl _)
  obtain ⟨v2, T2, X2, E2, g2⟩ := X0.callV hexec (IsL.law l x 0 z) hown (wks W (virtW "java/lang/String" 492 "java/lang/String" IsL.yN IsL.yN)) rfl (by decide) (wk W IsL.tab) (W := 0) (Nat.le_of_ble_eq_true rfl) (Nat.le_of_ble_eq_true rfl) (Nat.le_refl _) (Nat.le_refl _) (hx0.1.fc X0.warmed.alike) hx0.1.is (g := (mkF m 1 #[.val (.ref x), .val (.int (Int32.ofNat i))] [.ref x])) rfl (by rw [hml]; rfl) c1 (argsL := []) (rest := []) rfl rfl (by show 2 * 0 + 0 ≤ _; decide) (hb hbytes d1) (⟨rfl, hx0.2.2.1, hx.2.2.2.2.1.cd, s1.there X0.warmed.alike hh0, hz⟩)
  obtain ⟨rfl, q2⟩ := E2
  have hh2 := q2.trans hh0
  have hx2 := hx.mv X2.warmed.alike hh2
  obtain ⟨-, k1, k2⟩ | ⟨k0, -⟩ := hx.2.2.2.2.1
  · have c3 : Steps p.tables e below (s₁.setTop (entryFrame m #[.ref x, .int (Int32.ofNat i)] 2)) (T2.setTop (mkF m 8 #[.val (.ref x), .val (.int (Int32.ofNat i))] [.ref x])) := Steps.trans g2 (by
      refine XS.ifNo X2.here hexec rfl (hb hbytes d4) rfl (i0_eq_f (by decide)) ?_
      refine XS.aloadN X2.here hexec rfl (hb hbytes d7) rfl rfl ?_
      exact Steps.refl _)
    obtain ⟨T4, X4, q4, st4⟩ := X2.hget hexec hown (wk W (.fieldLink "java/lang/String" 9 "java/lang/String" "value" "[B")) hx2.2.1 (g := (mkF m 8 #[.val (.ref x), .val (.int (Int32.ofNat i))] [.ref x])) rfl (rest := []) rfl (hb hbytes d8)
    have hh4 := q4.trans hh2
    have c5 : Steps p.tables e below (s₁.setTop (entryFrame m #[.ref x, .int (Int32.ofNat i)] 2)) (T4.setTop (mkF m 12 #[.val (.ref x), .val (.int (Int32.ofNat i))] [.int (Int32.ofNat i), .ref t])) := (c3.trans (st4 _ (Steps.refl _))).trans (by
      refine XS.iloadN X4.here hexec rfl (hb hbytes d11) rfl ?_
      exact Steps.refl _)
    obtain ⟨v6, T6, X6, E6, g6⟩ := X4.callS hexec (LChA.law l t V i (lo8 (f i)) fm) hown (wks W (staticW "java/lang/String" 495 LChA.yN)) (wk W LChA.tab) (W := 0) (Nat.le_of_ble_eq_true rfl) (Nat.le_of_ble_eq_true rfl) (Nat.le_refl _) (Nat.le_refl _) (g := (mkF m 12 #[.val (.ref x), .val (.int (Int32.ofNat i))] [.int (Int32.ofNat i), .ref t])) rfl (by rw [hml]; rfl) c5 (argsL := [.ref t, .int (Int32.ofNat i)]) (rest := []) rfl rfl (by show 2 * 0 + 0 ≤ _; decide) (hb hbytes d12) (⟨rfl, hx.2.2.2.1.mv X4.warmed.alike hh4, (k2 i hi).1, s3.there X4.warmed.alike hh4, rf⟩)
    obtain ⟨rfl, q6⟩ := E6
    rw [chr8_lo8 hr.1 (k2 i hi).2] at g6
    exact ⟨T6, some (.int (f i)), _, _, _, X6, rfl, rfl, rfl, (fun h => by cases h), ⟨rfl, q6.trans hh4⟩, fun fs hl => Steps.trans g6 (X6.ireturnOut hexec hret (narrow_ch hr.1 hr.2) (Or.inr (Or.inr (Or.inr (Or.inl rfl)))) (hb hbytes d15) hl)⟩
  · exact absurd k0 (by decide)
theorem pays {l : Launch} {R : Room} {p : Program} {e : Env} {below : List Frame} {s : State} {sargs : Array Value} {len W : Nat} (x t : Addr) (V : Cell) (n : Nat) (f : Nat → Int32) (z : Int32) (fm : Value) (i : Nat) (htab : tab.before sargs s = true) (hfr : 4 ≤ R.frames) (hlo : W + 53 ≤ R.locals) :
    Back l R p e below s sargs yN len W (fun A₁ a₁ => A₁.cells + 0 ≤ R.cells ∧ A₁.slots + 0 ≤ R.slots ∧ P x t V n f z fm i a₁ A₁.U) (fun A₁ _ v₁ B₁ => E f i v₁ A₁.U B₁.U ∧ B₁.locs = A₁.locs ++ [] ∧ B₁.cells = A₁.cells + 0 ∧ B₁.slots = A₁.slots + 0) :=
  (law l x t V n f z fm i).pays htab hfr (by omega)
end ChN
end StrChars
namespace StrChars.Road
open Jvm Sem ClassFile Op Lib Jvm.Stand Jvm.Free Jvm.Free.XT
open Jvm.Lib.Cold (StaticIs)
/-- the words of String.charAt(int), the Latin-1 road alone -/
abbrev wordsChN : List Jvm.Cond := [.code ChN.yN ChN.yB 2 (some .char), .initialized ST, .fieldLink ST 9 ST "value" "[B", .fieldLink ST 38 ST "COMPACT_STRINGS" "Z", .fieldLink ST 15 ST "coder" "B", .code IsL.yN IsL.yB 1 (some .boolean), .methodLink ST 492 IsL.yN, .declares IsL.yN, .selects ST IsL.yN IsL.yN, .instanceMethod IsL.yN,
  .methodLink ST 495 LChA.yN, .static LChA.yN, .code LChA.yN LChA.yB 2 (some .char), .initialized "java/lang/StringLatin1", .methodLink "java/lang/StringLatin1" 9 JO.Str_checkIndex.yN, .static JO.Str_checkIndex.yN, .code JO.Str_checkIndex.yN JO.Str_checkIndex.yB 2 none,
  .fieldLink ST 1053 "jdk/internal/util/Preconditions" "SIOOBE_FORMATTER" "Ljava/util/function/BiFunction;", .methodLink ST 1059 JC.PreCheck.yN, .static JC.PreCheck.yN, .code JC.PreCheck.yN JC.PreCheck.yB 3 (some .int), .initialized "jdk/internal/util/Preconditions"]
theorem tabChN_of {a : Array Value} {s : State} (h : ∀ w ∈ wordsChN, w.before a s = true) : ChN.tab.before a s = true := by
  have hp : JC.PreCheck.tab.before a s = true := unparts (wk h (.code JC.PreCheck.yN JC.PreCheck.yB 3 (some .int))) (wks h (.initialized JC.PreCheck.yN.cls :: JC.PreCheck.site))
  have qk := consq hp h
  have hk : JO.Str_checkIndex.tab.before a s = true := unparts (wk qk (.code JO.Str_checkIndex.yN JO.Str_checkIndex.yB 2 none)) (wks qk (.initialized JO.Str_checkIndex.yN.cls :: JO.Str_checkIndex.site))
  have ql := consq hk h
  have hl : LChA.tab.before a s = true := unparts (wk ql (.code LChA.yN LChA.yB 2 (some .char))) (wks ql (.initialized LChA.yN.cls :: LChA.site))
  have hi : IsL.tab.before a s = true := unparts (wk h (.code IsL.yN IsL.yB 1 (some .boolean))) (wks h (.initialized IsL.yN.cls :: IsL.site))
  have q := consq hi (consq hl h)
  exact unparts (wk q (.code ChN.yN ChN.yB 2 (some .char))) (wks q (.initialized ChN.yN.cls :: ChN.site))
theorem movedChN {Z s : State} {a0 args : Array Value} (hZ : Z.Warmed39 s.vm) (hw : ∀ d ∈ wordsChN, d.before a0 Z = true) : ∀ d ∈ wordsChN, d.before args s = true := fun d hd => by
  have t : ∀ d ∈ wordsChN, (d.onTables && d.keepsFace) = true := by decide +kernel
  exact RoadKit.mv hZ (hw d hd) (t d hd)
/-- **charAt(i) OF A LATIN-1 STRING**, i < n: the char -/
theorem chN {p : Program} {l : Launch} {e : Env} {R : Room} {s : State} {args : Array Value} {below : List Frame} {len W : Nat} {Z : State} {a0 : Array Value} {h : Heap} (hZ : Z.Warmed39 s.vm) (hw : ∀ d ∈ wordsChN, d.before a0 Z = true) {kI : Nat} (wi : (Jvm.Cond.instantiable ST kI).before a0 Z = true)
    {x t : Addr} {kb : ClassId} {cs : List Int32} {N2 z : Int32} {vs : List Value} {fm : Value} {i : Nat} {j : Int32} (E : RoadKit.Exa Z h x ST) (V : RoadKit.Fld Z h x ST "value" "[B" (.ref t)) (C : RoadKit.Fld Z h x ST "coder" "B" (.int 0)) (K : RoadKit.Arv Z h t kb .byte N2 vs (.int 0)) (hc : CodA cs 0 N2 vs) (hb : ∀ c ∈ cs, ¬ c < 0 ∧ ¬ (65535 : Int32) < c)
    (S : RoadKit.Sta Z h ST "COMPACT_STRINGS" "Z" (.int z)) (hz : ¬ z = 0) (F : RoadKit.Sta Z h "jdk/internal/util/Preconditions" "SIOOBE_FORMATTER" "Ljava/util/function/BiFunction;" fm) (rf : fm.isRef = true) (l2 : cs.length ≤ 4000) (hi : i < cs.length) (hj : j = Int32.ofNat i) (hfr : 4 ≤ R.frames) (hlo : W + 53 ≤ R.locals) :
    Back l R p e below s args (⟨"java/lang/String", "charAt", "(I)C"⟩ : MethodName) len W (fun P a => a = #[.ref x, .int j] ∧ P.U.heap = h ∧ P.cells + 0 ≤ R.cells ∧ P.slots + 0 ≤ R.slots)
      (fun P _ v B => ∃ L, (v = some (.int (cs.getD i 0)) ∧ L = [] ∧ B.U.heap = h) ∧ B.locs = P.locs ++ L ∧ B.cells = P.cells + 0 ∧ B.slots = P.slots + 0) := by
  subst hj
  intro m meth c P g ig mk a X hg hsize hdg hW hn hp'
  obtain ⟨rfl, rfl, r1, r2⟩ := hp'
  have al : Z.vm.Alike P.U.vm := hZ.alike.trans X.warmed.alike
  obtain ⟨A, hx⟩ := txt_of wi al E V C K hc hb l2
  obtain ⟨v, B, X', ⟨⟨hv, hh⟩, hl, hk, hs⟩, st⟩ := ChN.pays x t A cs.length (fun j => cs.getD j 0) z fm i (tabChN_of (movedChN hZ hw)) hfr hlo m meth c P g ig mk _ X hg hsize hdg hW hn ⟨r1, r2, rfl, hx, hi, sta_is al S, hz, sta_is al F, rf⟩
  exact ⟨v, B, X', ⟨[], ⟨hv, rfl, hh⟩, hl, hk, hs⟩, st⟩
/-- what backV says of its String, as the contracts of this text ask it: cs's low bytes, coder 0 -/
theorem codOf {cs : List Int32} {n : Nat} (hn : cs.length = n) (hb : ∀ c ∈ cs, ¬ 255 < c) : CodA cs 0 (Int32.ofNat n) ((cs.map lo8).map Value.int) := Or.inl ⟨rfl, by rw [hn], by simp [List.map_map, Function.comp_def], hb⟩
end StrChars.Road
end Jvm.Pilot.@@N@@

namespace Jvm.Pilot.@@N@@
open Jvm Jvm.ClassFile Sem Op Lib Jvm.Free Jvm.Stand Jvm.LawKit Jvm.RoadKit Bundle Jvm.Pilot.@@N@@.Jvm.D
/-- at heap h the object x, older than B, is a String of the chars cs, each 0 to 255, whose bytes lie in an array older than B -/
def own_Str (Z : State) (h : Heap) (B : Nat) (x : Addr) (cs : List Int32) : Prop :=
  (x < B ∧ cs.length ≤ 4000 ∧ ∀ c ∈ cs, ¬ c < 0 ∧ ¬ (255 : Int32) < c) ∧ ∃ (t : Addr) (kb : ClassId), t < B ∧ Exa Z h x "java/lang/String" ∧ Fld Z h x "java/lang/String" "value" "[B" (.ref t) ∧ Fld Z h x "java/lang/String" "coder" "B" (.int 0) ∧ Arv Z h t kb .byte (Int32.ofNat cs.length) ((cs.map (fun c => c.toInt8.toInt32)).map Value.int) (.int 0)
theorem own_Str.exa {Z : State} {h : Heap} {B : Nat} {x : Addr} {cs : List Int32} (F : own_Str Z h B x cs) : Exa Z h x "java/lang/String" := by obtain ⟨-, t, kb, -, E, -⟩ := F; exact E
theorem own_Str.top {Z : State} {h : Heap} {B : Nat} {x : Addr} {cs : List Int32} (F : own_Str Z h B x cs) : own_Str Z h h.size x cs := by
  obtain ⟨⟨-, q1, q2⟩, t, kb, -, E, V, C, A⟩ := F
  exact ⟨⟨E.lt, q1, q2⟩, t, kb, A.lt, E, V, C, A⟩
theorem own_Str.ext {Z : State} {h h' : Heap} {B : Nat} {x : Addr} {cs : List Int32} (F : own_Str Z h B x cs) (X : Ext h h') : own_Str Z h' B x cs := by
  obtain ⟨q, t, kb, r, E, V, C, A⟩ := F
  exact ⟨q, t, kb, r, E.ext X, V.ext X, C.ext X, A.ext X⟩
theorem own_Str.keep {Z : State} {h h' : Heap} {B : Nat} {x : Addr} {cs : List Int32} {ws : List Addr} (F : own_Str Z h B x cs) (K : Keep h h' ws) (hb : ∀ a ∈ ws, B ≤ a) : own_Str Z h' B x cs := by
  obtain ⟨q, t, kb, r, E, V, C, A⟩ := F
  have n1 : x ∉ ws := fun z => Nat.not_lt.mpr (hb x z) q.1
  have n2 : t ∉ ws := fun z => Nat.not_lt.mpr (hb t z) r
  exact ⟨q, t, kb, r, E.keep K, V.keep K n1, C.keep K n1, A.keep K n2⟩
theorem own_up {cs : List Int32} (h : ∀ c ∈ cs, ¬ c < 0 ∧ ¬ (255 : Int32) < c) : ∀ c ∈ cs, ¬ c < 0 ∧ ¬ (65535 : Int32) < c := fun c hc => ⟨(h c hc).1, fun q => (h c hc).2 (by
  rw [Int32.lt_iff_toInt_lt, show (65535 : Int32).toInt = 65535 from rfl] at q
  rw [Int32.lt_iff_toInt_lt, show (255 : Int32).toInt = 255 from rfl]
  omega)⟩
theorem d11_0 : decode jdk_30_method_1_code 0 = .ok (.aload_n 0, 1) := by decide +kernel
theorem d11_1 : decode jdk_30_method_1_code 1 = .ok (.invokespecial 1, 3) := by decide +kernel
theorem d11_4 : decode jdk_30_method_1_code 4 = .ok (.return_, 1) := by decide +kernel
def Q11 (Z : State) (a1 : Addr) (h0 : Heap) (n0 : Nat) (v : Option Value) (h : Heap) (L : List Loc) : Prop := v = none ∧ Fr n0 L ∧ h = h0
theorem ef_11 (m : MethodId) (x0 : Addr) : entryFrame m #[(.ref x0)] 1 = mkF m 0 #[.val (.ref x0)] [] := by first | (simp [entryFrame, mkF, argsToLocals, Value.category]; done) | rfl
theorem pnc_java_lang_Record : plainName "java/lang/Record" = true := by first | (simp [plainName, overriddenIn]; done) | decide +kernel
set_option maxRecDepth 65536 in
set_option maxHeartbeats 40000000 in
theorem rm11 (l : Launch) (Z : State) (a0 : Array Value) (hw : ∀ d ∈ tables_1, d.before a0 Z = true) (ws : List Jvm.Cond) (a1 : Addr) (h0 : Heap) (n0 : Nat) (O0 : Old Z n0 h0) :
    MetFree l (⟨"java/lang/Record", "<init>", "()V"⟩ : MethodName) (head1 (Jvm.Cond.code (⟨"java/lang/Record", "<init>", "()V"⟩ : MethodName) jdk_30_method_1_code 1 none :: ws) ({ frames := 1, cells := 0, slots := 0, locals := 12 } : Room)) (fun a U => a = #[(.ref a1)] ∧ Z.Warmed39 U.vm ∧ U.heap = h0) (fun _ _ _ _ _ => True) (fun _ U o U' => ∃ v L, o = .returned v ∧ Q11 Z a1 h0 n0 v U'.heap L ∧ FrameEnd U o U' L ({ frames := 1, cells := 0, slots := 0, locals := 12 } : Room).cells ({ frames := 1, cells := 0, slots := 0, locals := 12 } : Room).slots) := by
  refine MetFree.of_bodySF (plainFor_of_name pnc_java_lang_Record) hisR ?_
  intro p e s m args below meth c s₁ Bd hml0 hP hK
  obtain ⟨rfl, hZ, hh⟩ := hP
  have hx := Bd.exec
  have hby := Bd.bytes
  have hml : c.maxLocals = 1 := hml0
  have hown : s.vm.findClass "java/lang/Record" = some m.cls := findClass_of_methodNamed Bd.named
  have hnm := (name_of_methodNamed Bd.named Bd.method).1
  have X0 : Stand p l e ({ frames := 1, cells := 0, slots := 0, locals := 12 } : Room) s m #[(.ref a1)] below meth c s₁ [] 0 0 := Stand.of_body Bd
  have e0 : s₁.heap = h0 := by rw [← hh, Bd.state]; rfl
  have N0 := Fr.nil n0
  have Z0 : n0 ≤ h0.size := O0.1 ▸ O0.2.1
  have pre0 : ∀ t, Steps p.tables e below (s₁.setTop (mkF m 0 #[.val (.ref a1)] [])) t → Steps p.tables e below (s₁.setTop (entryFrame m #[(.ref a1)] 1)) t := fun t k => castTop (ef_11 m a1) k
  obtain ⟨T2, X2, e2, st2⟩ := initO X0 hx hZ hown (hw _ (List.mem_of_getElem? (i := 53) rfl)) (hw _ (List.mem_of_getElem? (i := 16) rfl)) (hw _ (List.mem_of_getElem? (i := 17) rfl)) e0 (g := (mkF m 1 #[.val (.ref a1)] [(.ref a1)])) rfl (by rw [hml]; rfl) rfl (hb hby d11_1) (by decide) (W := 0) (by show 2 * 0 + _ ≤ _; exact Nat.le_of_eq rfl) (by decide)
  obtain ⟨fs, hr, hrun, hended, hW, hsame⟩ := X2.leave (v := none) (fun _ => rfl)
  refine ⟨_, _, pre0 _ ?_, hrun, hended, _, _, rfl, ?_, ⟨_, rfl⟩, hW, hsame.mono (by decide) (by decide)⟩
  · show Steps p.tables e below (s₁.setTop (mkF m 0 #[.val (.ref a1)] [])) _
    refine XS.aloadN X0.here hx rfl (hb hby d11_0) rfl rfl ?_
    show Steps p.tables e below (s₁.setTop (mkF m 1 #[.val (.ref a1)] [(.ref a1)])) _
    refine st2 _ ?_
    show Steps p.tables e below (T2.setTop (mkF m 4 #[.val (.ref a1)] [])) _
    exact X2.returnOut hx Bd.returns (hb hby d11_4) hr
  · show Q11 Z a1 h0 n0 _ T2.heap _
    rw [e2]
    exact ⟨rfl, N0, rfl⟩
theorem d1_0 : decode method_2_code 0 = .ok (.iconst 1, 1) := by decide +kernel
theorem d1_1 : decode method_2_code 1 = .ok (.newarray .char, 2) := by decide +kernel
theorem d1_3 : decode method_2_code 3 = .ok (.dup, 1) := by decide +kernel
theorem d1_4 : decode method_2_code 4 = .ok (.iconst 0, 1) := by decide +kernel
theorem d1_5 : decode method_2_code 5 = .ok (.iload_n 1, 1) := by decide +kernel
theorem d1_6 : decode method_2_code 6 = .ok (.castore, 1) := by decide +kernel
theorem d1_7 : decode method_2_code 7 = .ok (.astore 5, 2) := by decide +kernel
theorem d1_9 : decode method_2_code 9 = .ok (.iconst 2, 1) := by decide +kernel
theorem d1_10 : decode method_2_code 10 = .ok (.newarray .char, 2) := by decide +kernel
theorem d1_12 : decode method_2_code 12 = .ok (.dup, 1) := by decide +kernel
theorem d1_13 : decode method_2_code 13 = .ok (.iconst 0, 1) := by decide +kernel
theorem d1_14 : decode method_2_code 14 = .ok (.iload_n 1, 1) := by decide +kernel
theorem d1_15 : decode method_2_code 15 = .ok (.castore, 1) := by decide +kernel
theorem d1_16 : decode method_2_code 16 = .ok (.dup, 1) := by decide +kernel
theorem d1_17 : decode method_2_code 17 = .ok (.iconst 1, 1) := by decide +kernel
theorem d1_18 : decode method_2_code 18 = .ok (.iload_n 2, 1) := by decide +kernel
theorem d1_19 : decode method_2_code 19 = .ok (.castore, 1) := by decide +kernel
theorem d1_20 : decode method_2_code 20 = .ok (.astore 6, 2) := by decide +kernel
theorem d1_22 : decode method_2_code 22 = .ok (.iconst 3, 1) := by decide +kernel
theorem d1_23 : decode method_2_code 23 = .ok (.newarray .char, 2) := by decide +kernel
theorem d1_25 : decode method_2_code 25 = .ok (.dup, 1) := by decide +kernel
theorem d1_26 : decode method_2_code 26 = .ok (.iconst 0, 1) := by decide +kernel
theorem d1_27 : decode method_2_code 27 = .ok (.iload_n 1, 1) := by decide +kernel
theorem d1_28 : decode method_2_code 28 = .ok (.castore, 1) := by decide +kernel
theorem d1_29 : decode method_2_code 29 = .ok (.dup, 1) := by decide +kernel
theorem d1_30 : decode method_2_code 30 = .ok (.iconst 1, 1) := by decide +kernel
theorem d1_31 : decode method_2_code 31 = .ok (.iload_n 2, 1) := by decide +kernel
theorem d1_32 : decode method_2_code 32 = .ok (.castore, 1) := by decide +kernel
theorem d1_33 : decode method_2_code 33 = .ok (.dup, 1) := by decide +kernel
theorem d1_34 : decode method_2_code 34 = .ok (.iconst 2, 1) := by decide +kernel
theorem d1_35 : decode method_2_code 35 = .ok (.iload_n 3, 1) := by decide +kernel
theorem d1_36 : decode method_2_code 36 = .ok (.castore, 1) := by decide +kernel
theorem d1_37 : decode method_2_code 37 = .ok (.astore 7, 2) := by decide +kernel
theorem d1_39 : decode method_2_code 39 = .ok (.iconst 4, 1) := by decide +kernel
theorem d1_40 : decode method_2_code 40 = .ok (.newarray .char, 2) := by decide +kernel
theorem d1_42 : decode method_2_code 42 = .ok (.dup, 1) := by decide +kernel
theorem d1_43 : decode method_2_code 43 = .ok (.iconst 0, 1) := by decide +kernel
theorem d1_44 : decode method_2_code 44 = .ok (.iload_n 1, 1) := by decide +kernel
theorem d1_45 : decode method_2_code 45 = .ok (.castore, 1) := by decide +kernel
theorem d1_46 : decode method_2_code 46 = .ok (.dup, 1) := by decide +kernel
theorem d1_47 : decode method_2_code 47 = .ok (.iconst 1, 1) := by decide +kernel
theorem d1_48 : decode method_2_code 48 = .ok (.iload_n 2, 1) := by decide +kernel
theorem d1_49 : decode method_2_code 49 = .ok (.castore, 1) := by decide +kernel
theorem d1_50 : decode method_2_code 50 = .ok (.dup, 1) := by decide +kernel
theorem d1_51 : decode method_2_code 51 = .ok (.iconst 2, 1) := by decide +kernel
theorem d1_52 : decode method_2_code 52 = .ok (.iload_n 3, 1) := by decide +kernel
theorem d1_53 : decode method_2_code 53 = .ok (.castore, 1) := by decide +kernel
theorem d1_54 : decode method_2_code 54 = .ok (.dup, 1) := by decide +kernel
theorem d1_55 : decode method_2_code 55 = .ok (.iconst 3, 1) := by decide +kernel
theorem d1_56 : decode method_2_code 56 = .ok (.iload 4, 2) := by decide +kernel
theorem d1_58 : decode method_2_code 58 = .ok (.castore, 1) := by decide +kernel
theorem d1_59 : decode method_2_code 59 = .ok (.astore 8, 2) := by decide +kernel
theorem d1_61 : decode method_2_code 61 = .ok (.iload_n 0, 1) := by decide +kernel
theorem d1_62 : decode method_2_code 62 = .ok (.iconst 1, 1) := by decide +kernel
theorem d1_63 : decode method_2_code 63 = .ok (.if_icmp .ne 13, 3) := by decide +kernel
theorem d1_66 : decode method_2_code 66 = .ok (.new 7, 3) := by decide +kernel
theorem d1_69 : decode method_2_code 69 = .ok (.dup, 1) := by decide +kernel
theorem d1_70 : decode method_2_code 70 = .ok (.aload 5, 2) := by decide +kernel
theorem d1_72 : decode method_2_code 72 = .ok (.invokespecial 9, 3) := by decide +kernel
theorem own_in_words : ∀ d ∈ StrChars.Road.words, d ∈ tables_1 := by decide +kernel
theorem pd_15 : parseMethodDescriptor "([C)V" = some ⟨[(.array .char)], none⟩ := by decide +kernel
theorem d1_75 : decode method_2_code 75 = .ok (.areturn, 1) := by decide +kernel
def Q1n1 (Z : State) (p1 p2 p3 p4 w60 : Int32) (h0 : Heap) (n0 : Nat) (v : Option Value) (h : Heap) (L : List Loc) : Prop := ∃ b57 : Addr, v = some (.ref b57) ∧ Fr n0 L ∧ Keep h0 h [] ∧ h0.size ≤ b57 ∧ Exa Z h b57 "java/lang/String" ∧ own_Str Z h h.size b57 [p1.toUInt32.toUInt16.toUInt32.toInt32]
theorem ef_1__1___Int32__aaaa (m : MethodId) (x1 : Int32) (x2 : Int32) (x3 : Int32) (x4 : Int32) : entryFrame m #[(.int (1 : Int32)), (.int x1), (.int x2), (.int x3), (.int x4)] 9 = mkF m 0 #[.val (.int (1 : Int32)), .val (.int x1), .val (.int x2), .val (.int x3), .val (.int x4), .unset, .unset, .unset, .unset] [] := by first | (simp [entryFrame, mkF, argsToLocals, Value.category]; done) | rfl
theorem pnc_com_example_wattle_wattle_FigureUnreadablePinLaw : plainName "com/example/wattle/wattle/FigureUnreadablePinLaw" = true := by first | (simp [plainName, overriddenIn]; done) | decide +kernel
set_option maxRecDepth 65536 in
set_option maxHeartbeats 40000000 in
theorem rm1n1 (l : Launch) (Z : State) (a0 : Array Value) (hw : ∀ d ∈ tables_1, d.before a0 Z = true) (ws : List Jvm.Cond) (p1 p2 p3 p4 w60 : Int32) (h0 : Heap) (n0 : Nat) (O0 : Old Z n0 h0) (S_COMPACT_STRINGS : Sta Z Z.heap "java/lang/String" "COMPACT_STRINGS" "Z" (.int w60)) (hzcs : ¬ (w60 = (0 : Int32))) (hch72 : ∀ c ∈ ([p1.toUInt32.toUInt16.toUInt32.toInt32] : List Int32), ¬ c < 0 ∧ ¬ (255 : Int32) < c) :
    MetFree l (⟨"com/example/wattle/wattle/FigureUnreadablePinLaw", "text", "(ICCCC)Ljava/lang/String;"⟩ : MethodName) (head1 (Jvm.Cond.code (⟨"com/example/wattle/wattle/FigureUnreadablePinLaw", "text", "(ICCCC)Ljava/lang/String;"⟩ : MethodName) method_2_code 9 (some (.object "java/lang/String")) :: ws) ({ frames := 4, cells := 6, slots := 15, locals := 66 } : Room)) (fun a U => a = #[(.int (1 : Int32)), (.int p1), (.int p2), (.int p3), (.int p4)] ∧ Z.Warmed39 U.vm ∧ U.heap = h0) (fun _ _ _ _ _ => True) (fun _ U o U' => ∃ v L, o = .returned v ∧ Q1n1 Z p1 p2 p3 p4 w60 h0 n0 v U'.heap L ∧ FrameEnd U o U' L ({ frames := 4, cells := 6, slots := 15, locals := 66 } : Room).cells ({ frames := 4, cells := 6, slots := 15, locals := 66 } : Room).slots) := by
  refine MetFree.of_bodySF (plainFor_of_name pnc_com_example_wattle_wattle_FigureUnreadablePinLaw) hisR ?_
  intro p e s m args below meth c s₁ Bd hml0 hP hK
  obtain ⟨rfl, hZ, hh⟩ := hP
  have hx := Bd.exec
  have hby := Bd.bytes
  have hml : c.maxLocals = 9 := hml0
  have hown : s.vm.findClass "com/example/wattle/wattle/FigureUnreadablePinLaw" = some m.cls := findClass_of_methodNamed Bd.named
  have hnm := (name_of_methodNamed Bd.named Bd.method).1
  have X0 : Stand p l e ({ frames := 4, cells := 6, slots := 15, locals := 66 } : Room) s m #[(.int (1 : Int32)), (.int p1), (.int p2), (.int p3), (.int p4)] below meth c s₁ [] 0 0 := Stand.of_body Bd
  have e0 : s₁.heap = h0 := by rw [← hh, Bd.state]; rfl
  have N0 := Fr.nil n0
  have Z0 : n0 ≤ h0.size := O0.1 ▸ O0.2.1
  have pre0 : ∀ t, Steps p.tables e below (s₁.setTop (mkF m 0 #[.val (.int (1 : Int32)), .val (.int p1), .val (.int p2), .val (.int p3), .val (.int p4), .unset, .unset, .unset, .unset] [])) t → Steps p.tables e below (s₁.setTop (entryFrame m #[(.int (1 : Int32)), (.int p1), (.int p2), (.int p3), (.int p4)] 9)) t := fun t k => castTop (ef_1__1___Int32__aaaa m p1 p2 p3 p4) k
  obtain ⟨T5, h5, k5, X5, e5, E5, A5, st5⟩ := newP X0 hx hZ (hw _ (List.mem_of_getElem? (i := 4) rfl)) e0 (g := (mkF m 1 #[.val (.int (1 : Int32)), .val (.int p1), .val (.int p2), .val (.int p3), .val (.int p4), .unset, .unset, .unset, .unset] [(.int (1 : Int32))])) rfl (hb hby d1_1) rfl (by decide) (cap := 1) (by decide) (by decide) (by decide) (by decide)
  obtain ⟨b5, g5⟩ : ∃ z, z = h0.size := ⟨_, rfl⟩
  rw [← g5] at A5 st5
  have g_b5 : n0 ≤ b5 := Nat.le_trans (Nat.le_trans Z0 (Keep.refl h0 []).1) (Nat.le_of_eq g5.symm)
  have sz_b5 : h0.size ≤ b5 := Nat.le_trans (Keep.refl h0 []).1 (Nat.le_of_eq g5.symm)
  have K6 : Keep h0 h5 [] := (Keep.refl h0 []).ext E5
  have O7 : Old Z n0 h5 := O0.ext E5
  have V5 : Arv Z h5 b5 k5 .char (1 : Int32) [(.int (0 : Int32))] (.int (0 : Int32)) := (Arv.new A5 (by decide)).pad (pad_rep [] (.int (0 : Int32)) 1)
  replace X5 := X5.more (cells' := 1) (slots' := 1) (by decide) (by decide)
  obtain ⟨cl8, Ar8, q8, S8, Nn8, Hh8, G8⟩ := id V5
  have hin8 : ¬ ((0 : Int32) < 0 ∨ cl8.slots.size ≤ ((0 : Int32)).toNatClampNeg) := inb_of S8 ⟨by decide, by decide⟩
  obtain ⟨T9, h9, X9, e9, W9, st9⟩ := stC X5 hx hZ e5 Ar8 (j := (0 : Int32)) hin8 (g := (mkF m 6 #[.val (.int (1 : Int32)), .val (.int p1), .val (.int p2), .val (.int p3), .val (.int p4), .unset, .unset, .unset, .unset] [(.int p1), (.int (0 : Int32)), (.ref b5), (.ref b5)])) rfl rfl (hb hby d1_6)
  have N9 := Fr.snoc X9 N0 g_b5
  have K10 : Keep h0 h9 [] := K6.wr W9 (Or.inr sz_b5)
  have O11 : Old Z n0 h9 := O7.wr W9 g_b5
  have V9 : Arv Z h9 b5 k5 .char (1 : Int32) [(.int p1.toUInt32.toUInt16.toUInt32.toInt32)] (.int (0 : Int32)) := Arv.set Ar8 q8 S8 Nn8 Hh8 G8 (fits_nar_char _) W9 0 rfl (Nat.le_of_ble_eq_true rfl)
  obtain ⟨T12, h12, k12, X12, e12, E12, A12, st12⟩ := newP X9 hx hZ (hw _ (List.mem_of_getElem? (i := 4) rfl)) e9 (g := (mkF m 10 #[.val (.int (1 : Int32)), .val (.int p1), .val (.int p2), .val (.int p3), .val (.int p4), .val (.ref b5), .unset, .unset, .unset] [(.int (2 : Int32))])) rfl (hb hby d1_10) rfl (by decide) (cap := 2) (by decide) (by decide) (by decide) (by decide)
  obtain ⟨b12, g12⟩ : ∃ z, z = h9.size := ⟨_, rfl⟩
  rw [← g12] at A12 st12
  have g_b12 : n0 ≤ b12 := Nat.le_trans (Nat.le_trans Z0 K10.1) (Nat.le_of_eq g12.symm)
  have sz_b12 : h0.size ≤ b12 := Nat.le_trans K10.1 (Nat.le_of_eq g12.symm)
  have K13 : Keep h0 h12 [] := K10.ext E12
  have O14 : Old Z n0 h12 := O11.ext E12
  have V12 : Arv Z h12 b12 k12 .char (2 : Int32) [(.int (0 : Int32)), (.int (0 : Int32))] (.int (0 : Int32)) := (Arv.new A12 (by decide)).pad (pad_rep [] (.int (0 : Int32)) 2)
  replace X12 := X12.more (cells' := 2) (slots' := 3) (by decide) (by decide)
  obtain ⟨cl15, Ar15, q15, S15, Nn15, Hh15, G15⟩ := id V12
  have hin15 : ¬ ((0 : Int32) < 0 ∨ cl15.slots.size ≤ ((0 : Int32)).toNatClampNeg) := inb_of S15 ⟨by decide, by decide⟩
  obtain ⟨T16, h16, X16, e16, W16, st16⟩ := stC X12 hx hZ e12 Ar15 (j := (0 : Int32)) hin15 (g := (mkF m 15 #[.val (.int (1 : Int32)), .val (.int p1), .val (.int p2), .val (.int p3), .val (.int p4), .val (.ref b5), .unset, .unset, .unset] [(.int p1), (.int (0 : Int32)), (.ref b12), (.ref b12)])) rfl rfl (hb hby d1_15)
  have N16 := Fr.snoc X16 N9 g_b12
  have K17 : Keep h0 h16 [] := K13.wr W16 (Or.inr sz_b12)
  have O18 : Old Z n0 h16 := O14.wr W16 g_b12
  have V16 : Arv Z h16 b12 k12 .char (2 : Int32) [(.int p1.toUInt32.toUInt16.toUInt32.toInt32), (.int (0 : Int32))] (.int (0 : Int32)) := Arv.set Ar15 q15 S15 Nn15 Hh15 G15 (fits_nar_char _) W16 0 rfl (Nat.le_of_ble_eq_true rfl)
  obtain ⟨cl19, Ar19, q19, S19, Nn19, Hh19, G19⟩ := id V16
  have hin19 : ¬ ((1 : Int32) < 0 ∨ cl19.slots.size ≤ ((1 : Int32)).toNatClampNeg) := inb_of S19 ⟨by decide, by decide⟩
  obtain ⟨T20, h20, X20, e20, W20, st20⟩ := stC X16 hx hZ e16 Ar19 (j := (1 : Int32)) hin19 (g := (mkF m 19 #[.val (.int (1 : Int32)), .val (.int p1), .val (.int p2), .val (.int p3), .val (.int p4), .val (.ref b5), .unset, .unset, .unset] [(.int p2), (.int (1 : Int32)), (.ref b12), (.ref b12)])) rfl rfl (hb hby d1_19)
  have N20 := Fr.snoc X20 N16 g_b12
  have K21 : Keep h0 h20 [] := K17.wr W20 (Or.inr sz_b12)
  have O22 : Old Z n0 h20 := O18.wr W20 g_b12
  have V20 : Arv Z h20 b12 k12 .char (2 : Int32) [(.int p1.toUInt32.toUInt16.toUInt32.toInt32), (.int p2.toUInt32.toUInt16.toUInt32.toInt32)] (.int (0 : Int32)) := Arv.set Ar19 q19 S19 Nn19 Hh19 G19 (fits_nar_char _) W20 1 rfl (Nat.le_of_ble_eq_true rfl)
  obtain ⟨T23, h23, k23, X23, e23, E23, A23, st23⟩ := newP X20 hx hZ (hw _ (List.mem_of_getElem? (i := 4) rfl)) e20 (g := (mkF m 23 #[.val (.int (1 : Int32)), .val (.int p1), .val (.int p2), .val (.int p3), .val (.int p4), .val (.ref b5), .val (.ref b12), .unset, .unset] [(.int (3 : Int32))])) rfl (hb hby d1_23) rfl (by decide) (cap := 3) (by decide) (by decide) (by decide) (by decide)
  obtain ⟨b23, g23⟩ : ∃ z, z = h20.size := ⟨_, rfl⟩
  rw [← g23] at A23 st23
  have g_b23 : n0 ≤ b23 := Nat.le_trans (Nat.le_trans Z0 K21.1) (Nat.le_of_eq g23.symm)
  have sz_b23 : h0.size ≤ b23 := Nat.le_trans K21.1 (Nat.le_of_eq g23.symm)
  have K24 : Keep h0 h23 [] := K21.ext E23
  have O25 : Old Z n0 h23 := O22.ext E23
  have V23 : Arv Z h23 b23 k23 .char (3 : Int32) [(.int (0 : Int32)), (.int (0 : Int32)), (.int (0 : Int32))] (.int (0 : Int32)) := (Arv.new A23 (by decide)).pad (pad_rep [] (.int (0 : Int32)) 3)
  replace X23 := X23.more (cells' := 3) (slots' := 6) (by decide) (by decide)
  obtain ⟨cl26, Ar26, q26, S26, Nn26, Hh26, G26⟩ := id V23
  have hin26 : ¬ ((0 : Int32) < 0 ∨ cl26.slots.size ≤ ((0 : Int32)).toNatClampNeg) := inb_of S26 ⟨by decide, by decide⟩
  obtain ⟨T27, h27, X27, e27, W27, st27⟩ := stC X23 hx hZ e23 Ar26 (j := (0 : Int32)) hin26 (g := (mkF m 28 #[.val (.int (1 : Int32)), .val (.int p1), .val (.int p2), .val (.int p3), .val (.int p4), .val (.ref b5), .val (.ref b12), .unset, .unset] [(.int p1), (.int (0 : Int32)), (.ref b23), (.ref b23)])) rfl rfl (hb hby d1_28)
  have N27 := Fr.snoc X27 N20 g_b23
  have K28 : Keep h0 h27 [] := K24.wr W27 (Or.inr sz_b23)
  have O29 : Old Z n0 h27 := O25.wr W27 g_b23
  have V27 : Arv Z h27 b23 k23 .char (3 : Int32) [(.int p1.toUInt32.toUInt16.toUInt32.toInt32), (.int (0 : Int32)), (.int (0 : Int32))] (.int (0 : Int32)) := Arv.set Ar26 q26 S26 Nn26 Hh26 G26 (fits_nar_char _) W27 0 rfl (Nat.le_of_ble_eq_true rfl)
  obtain ⟨cl30, Ar30, q30, S30, Nn30, Hh30, G30⟩ := id V27
  have hin30 : ¬ ((1 : Int32) < 0 ∨ cl30.slots.size ≤ ((1 : Int32)).toNatClampNeg) := inb_of S30 ⟨by decide, by decide⟩
  obtain ⟨T31, h31, X31, e31, W31, st31⟩ := stC X27 hx hZ e27 Ar30 (j := (1 : Int32)) hin30 (g := (mkF m 32 #[.val (.int (1 : Int32)), .val (.int p1), .val (.int p2), .val (.int p3), .val (.int p4), .val (.ref b5), .val (.ref b12), .unset, .unset] [(.int p2), (.int (1 : Int32)), (.ref b23), (.ref b23)])) rfl rfl (hb hby d1_32)
  have N31 := Fr.snoc X31 N27 g_b23
  have K32 : Keep h0 h31 [] := K28.wr W31 (Or.inr sz_b23)
  have O33 : Old Z n0 h31 := O29.wr W31 g_b23
  have V31 : Arv Z h31 b23 k23 .char (3 : Int32) [(.int p1.toUInt32.toUInt16.toUInt32.toInt32), (.int p2.toUInt32.toUInt16.toUInt32.toInt32), (.int (0 : Int32))] (.int (0 : Int32)) := Arv.set Ar30 q30 S30 Nn30 Hh30 G30 (fits_nar_char _) W31 1 rfl (Nat.le_of_ble_eq_true rfl)
  obtain ⟨cl34, Ar34, q34, S34, Nn34, Hh34, G34⟩ := id V31
  have hin34 : ¬ ((2 : Int32) < 0 ∨ cl34.slots.size ≤ ((2 : Int32)).toNatClampNeg) := inb_of S34 ⟨by decide, by decide⟩
  obtain ⟨T35, h35, X35, e35, W35, st35⟩ := stC X31 hx hZ e31 Ar34 (j := (2 : Int32)) hin34 (g := (mkF m 36 #[.val (.int (1 : Int32)), .val (.int p1), .val (.int p2), .val (.int p3), .val (.int p4), .val (.ref b5), .val (.ref b12), .unset, .unset] [(.int p3), (.int (2 : Int32)), (.ref b23), (.ref b23)])) rfl rfl (hb hby d1_36)
  have N35 := Fr.snoc X35 N31 g_b23
  have K36 : Keep h0 h35 [] := K32.wr W35 (Or.inr sz_b23)
  have O37 : Old Z n0 h35 := O33.wr W35 g_b23
  have V35 : Arv Z h35 b23 k23 .char (3 : Int32) [(.int p1.toUInt32.toUInt16.toUInt32.toInt32), (.int p2.toUInt32.toUInt16.toUInt32.toInt32), (.int p3.toUInt32.toUInt16.toUInt32.toInt32)] (.int (0 : Int32)) := Arv.set Ar34 q34 S34 Nn34 Hh34 G34 (fits_nar_char _) W35 2 rfl (Nat.le_of_ble_eq_true rfl)
  obtain ⟨T38, h38, k38, X38, e38, E38, A38, st38⟩ := newP X35 hx hZ (hw _ (List.mem_of_getElem? (i := 4) rfl)) e35 (g := (mkF m 40 #[.val (.int (1 : Int32)), .val (.int p1), .val (.int p2), .val (.int p3), .val (.int p4), .val (.ref b5), .val (.ref b12), .val (.ref b23), .unset] [(.int (4 : Int32))])) rfl (hb hby d1_40) rfl (by decide) (cap := 4) (by decide) (by decide) (by decide) (by decide)
  obtain ⟨b38, g38⟩ : ∃ z, z = h35.size := ⟨_, rfl⟩
  rw [← g38] at A38 st38
  have g_b38 : n0 ≤ b38 := Nat.le_trans (Nat.le_trans Z0 K36.1) (Nat.le_of_eq g38.symm)
  have sz_b38 : h0.size ≤ b38 := Nat.le_trans K36.1 (Nat.le_of_eq g38.symm)
  have K39 : Keep h0 h38 [] := K36.ext E38
  have O40 : Old Z n0 h38 := O37.ext E38
  have V38 : Arv Z h38 b38 k38 .char (4 : Int32) [(.int (0 : Int32)), (.int (0 : Int32)), (.int (0 : Int32)), (.int (0 : Int32))] (.int (0 : Int32)) := (Arv.new A38 (by decide)).pad (pad_rep [] (.int (0 : Int32)) 4)
  replace X38 := X38.more (cells' := 4) (slots' := 10) (by decide) (by decide)
  obtain ⟨cl41, Ar41, q41, S41, Nn41, Hh41, G41⟩ := id V38
  have hin41 : ¬ ((0 : Int32) < 0 ∨ cl41.slots.size ≤ ((0 : Int32)).toNatClampNeg) := inb_of S41 ⟨by decide, by decide⟩
  obtain ⟨T42, h42, X42, e42, W42, st42⟩ := stC X38 hx hZ e38 Ar41 (j := (0 : Int32)) hin41 (g := (mkF m 45 #[.val (.int (1 : Int32)), .val (.int p1), .val (.int p2), .val (.int p3), .val (.int p4), .val (.ref b5), .val (.ref b12), .val (.ref b23), .unset] [(.int p1), (.int (0 : Int32)), (.ref b38), (.ref b38)])) rfl rfl (hb hby d1_45)
  have N42 := Fr.snoc X42 N35 g_b38
  have K43 : Keep h0 h42 [] := K39.wr W42 (Or.inr sz_b38)
  have O44 : Old Z n0 h42 := O40.wr W42 g_b38
  have V42 : Arv Z h42 b38 k38 .char (4 : Int32) [(.int p1.toUInt32.toUInt16.toUInt32.toInt32), (.int (0 : Int32)), (.int (0 : Int32)), (.int (0 : Int32))] (.int (0 : Int32)) := Arv.set Ar41 q41 S41 Nn41 Hh41 G41 (fits_nar_char _) W42 0 rfl (Nat.le_of_ble_eq_true rfl)
  obtain ⟨cl45, Ar45, q45, S45, Nn45, Hh45, G45⟩ := id V42
  have hin45 : ¬ ((1 : Int32) < 0 ∨ cl45.slots.size ≤ ((1 : Int32)).toNatClampNeg) := inb_of S45 ⟨by decide, by decide⟩
  obtain ⟨T46, h46, X46, e46, W46, st46⟩ := stC X42 hx hZ e42 Ar45 (j := (1 : Int32)) hin45 (g := (mkF m 49 #[.val (.int (1 : Int32)), .val (.int p1), .val (.int p2), .val (.int p3), .val (.int p4), .val (.ref b5), .val (.ref b12), .val (.ref b23), .unset] [(.int p2), (.int (1 : Int32)), (.ref b38), (.ref b38)])) rfl rfl (hb hby d1_49)
  have N46 := Fr.snoc X46 N42 g_b38
  have K47 : Keep h0 h46 [] := K43.wr W46 (Or.inr sz_b38)
  have O48 : Old Z n0 h46 := O44.wr W46 g_b38
  have V46 : Arv Z h46 b38 k38 .char (4 : Int32) [(.int p1.toUInt32.toUInt16.toUInt32.toInt32), (.int p2.toUInt32.toUInt16.toUInt32.toInt32), (.int (0 : Int32)), (.int (0 : Int32))] (.int (0 : Int32)) := Arv.set Ar45 q45 S45 Nn45 Hh45 G45 (fits_nar_char _) W46 1 rfl (Nat.le_of_ble_eq_true rfl)
  obtain ⟨cl49, Ar49, q49, S49, Nn49, Hh49, G49⟩ := id V46
  have hin49 : ¬ ((2 : Int32) < 0 ∨ cl49.slots.size ≤ ((2 : Int32)).toNatClampNeg) := inb_of S49 ⟨by decide, by decide⟩
  obtain ⟨T50, h50, X50, e50, W50, st50⟩ := stC X46 hx hZ e46 Ar49 (j := (2 : Int32)) hin49 (g := (mkF m 53 #[.val (.int (1 : Int32)), .val (.int p1), .val (.int p2), .val (.int p3), .val (.int p4), .val (.ref b5), .val (.ref b12), .val (.ref b23), .unset] [(.int p3), (.int (2 : Int32)), (.ref b38), (.ref b38)])) rfl rfl (hb hby d1_53)
  have N50 := Fr.snoc X50 N46 g_b38
  have K51 : Keep h0 h50 [] := K47.wr W50 (Or.inr sz_b38)
  have O52 : Old Z n0 h50 := O48.wr W50 g_b38
  have V50 : Arv Z h50 b38 k38 .char (4 : Int32) [(.int p1.toUInt32.toUInt16.toUInt32.toInt32), (.int p2.toUInt32.toUInt16.toUInt32.toInt32), (.int p3.toUInt32.toUInt16.toUInt32.toInt32), (.int (0 : Int32))] (.int (0 : Int32)) := Arv.set Ar49 q49 S49 Nn49 Hh49 G49 (fits_nar_char _) W50 2 rfl (Nat.le_of_ble_eq_true rfl)
  obtain ⟨cl53, Ar53, q53, S53, Nn53, Hh53, G53⟩ := id V50
  have hin53 : ¬ ((3 : Int32) < 0 ∨ cl53.slots.size ≤ ((3 : Int32)).toNatClampNeg) := inb_of S53 ⟨by decide, by decide⟩
  obtain ⟨T54, h54, X54, e54, W54, st54⟩ := stC X50 hx hZ e50 Ar53 (j := (3 : Int32)) hin53 (g := (mkF m 58 #[.val (.int (1 : Int32)), .val (.int p1), .val (.int p2), .val (.int p3), .val (.int p4), .val (.ref b5), .val (.ref b12), .val (.ref b23), .unset] [(.int p4), (.int (3 : Int32)), (.ref b38), (.ref b38)])) rfl rfl (hb hby d1_58)
  have N54 := Fr.snoc X54 N50 g_b38
  have K55 : Keep h0 h54 [] := K51.wr W54 (Or.inr sz_b38)
  have O56 : Old Z n0 h54 := O52.wr W54 g_b38
  have V54 : Arv Z h54 b38 k38 .char (4 : Int32) [(.int p1.toUInt32.toUInt16.toUInt32.toInt32), (.int p2.toUInt32.toUInt16.toUInt32.toInt32), (.int p3.toUInt32.toUInt16.toUInt32.toInt32), (.int p4.toUInt32.toUInt16.toUInt32.toInt32)] (.int (0 : Int32)) := Arv.set Ar53 q53 S53 Nn53 Hh53 G53 (fits_nar_char _) W54 3 rfl (Nat.le_of_ble_eq_true rfl)
  obtain ⟨T57, h57, X57, e57, E57, A57, D57, -, st57⟩ := newO X54 hx hZ hown (hw _ (List.mem_of_getElem? (i := 5) rfl)) (hw _ (List.mem_of_getElem? (i := 6) rfl)) (hw _ (List.mem_of_getElem? (i := 7) rfl)) e54 (g := (mkF m 66 #[.val (.int (1 : Int32)), .val (.int p1), .val (.int p2), .val (.int p3), .val (.int p4), .val (.ref b5), .val (.ref b12), .val (.ref b23), .val (.ref b38)] [])) rfl (hb hby d1_66) (by decide) (by decide)
  obtain ⟨b57, g57⟩ : ∃ z, z = h54.size := ⟨_, rfl⟩
  rw [← g57] at A57 D57 st57
  have g_b57 : n0 ≤ b57 := Nat.le_trans (Nat.le_trans Z0 K55.1) (Nat.le_of_eq g57.symm)
  have sz_b57 : h0.size ≤ b57 := Nat.le_trans K55.1 (Nat.le_of_eq g57.symm)
  have K58 : Keep h0 h57 [] := K55.ext E57
  have O59 : Old Z n0 h57 := O56.ext E57
  have F_coder_b57 : Fld Z h57 b57 "java/lang/String" "coder" "B" (.int (0 : Int32)) := D57 (Or.inr (hw _ (List.mem_of_getElem? (i := 31) rfl))) (ty := .byte) (by decide)
  have F_value_b57 : Fld Z h57 b57 "java/lang/String" "value" "[B" .null := D57 (Or.inr (hw _ (List.mem_of_getElem? (i := 33) rfl))) (ty := (.array .byte)) (by decide)
  replace X57 := X57.more (cells' := 5) (slots' := 14) (by decide) (by decide)
  have f61 := (((((((((((((V9.ext E12).other W16 (Nat.ne_of_lt (Nat.lt_of_lt_of_le (Nat.lt_of_lt_of_le V5.lt (Keep.of_wr W9).1) (Nat.le_of_eq g12.symm)))).other W20 (Nat.ne_of_lt (Nat.lt_of_lt_of_le (Nat.lt_of_lt_of_le V5.lt (Keep.of_wr W9).1) (Nat.le_of_eq g12.symm)))).ext E23).other W27 (Nat.ne_of_lt (Nat.lt_of_lt_of_le (Nat.lt_of_lt_of_le V5.lt (Nat.le_trans (Nat.le_trans (Nat.le_trans (Keep.of_wr W9).1 E12.1) (Keep.of_wr W16).1) (Keep.of_wr W20).1)) (Nat.le_of_eq g23.symm)))).other W31 (Nat.ne_of_lt (Nat.lt_of_lt_of_le (Nat.lt_of_lt_of_le V5.lt (Nat.le_trans (Nat.le_trans (Nat.le_trans (Keep.of_wr W9).1 E12.1) (Keep.of_wr W16).1) (Keep.of_wr W20).1)) (Nat.le_of_eq g23.symm)))).other W35 (Nat.ne_of_lt (Nat.lt_of_lt_of_le (Nat.lt_of_lt_of_le V5.lt (Nat.le_trans (Nat.le_trans (Nat.le_trans (Keep.of_wr W9).1 E12.1) (Keep.of_wr W16).1) (Keep.of_wr W20).1)) (Nat.le_of_eq g23.symm)))).ext E38).other W42 (Nat.ne_of_lt (Nat.lt_of_lt_of_le (Nat.lt_of_lt_of_le V5.lt (Nat.le_trans (Nat.le_trans (Nat.le_trans (Nat.le_trans (Nat.le_trans (Nat.le_trans (Nat.le_trans (Keep.of_wr W9).1 E12.1) (Keep.of_wr W16).1) (Keep.of_wr W20).1) E23.1) (Keep.of_wr W27).1) (Keep.of_wr W31).1) (Keep.of_wr W35).1)) (Nat.le_of_eq g38.symm)))).other W46 (Nat.ne_of_lt (Nat.lt_of_lt_of_le (Nat.lt_of_lt_of_le V5.lt (Nat.le_trans (Nat.le_trans (Nat.le_trans (Nat.le_trans (Nat.le_trans (Nat.le_trans (Nat.le_trans (Keep.of_wr W9).1 E12.1) (Keep.of_wr W16).1) (Keep.of_wr W20).1) E23.1) (Keep.of_wr W27).1) (Keep.of_wr W31).1) (Keep.of_wr W35).1)) (Nat.le_of_eq g38.symm)))).other W50 (Nat.ne_of_lt (Nat.lt_of_lt_of_le (Nat.lt_of_lt_of_le V5.lt (Nat.le_trans (Nat.le_trans (Nat.le_trans (Nat.le_trans (Nat.le_trans (Nat.le_trans (Nat.le_trans (Keep.of_wr W9).1 E12.1) (Keep.of_wr W16).1) (Keep.of_wr W20).1) E23.1) (Keep.of_wr W27).1) (Keep.of_wr W31).1) (Keep.of_wr W35).1)) (Nat.le_of_eq g38.symm)))).other W54 (Nat.ne_of_lt (Nat.lt_of_lt_of_le (Nat.lt_of_lt_of_le V5.lt (Nat.le_trans (Nat.le_trans (Nat.le_trans (Nat.le_trans (Nat.le_trans (Nat.le_trans (Nat.le_trans (Keep.of_wr W9).1 E12.1) (Keep.of_wr W16).1) (Keep.of_wr W20).1) E23.1) (Keep.of_wr W27).1) (Keep.of_wr W31).1) (Keep.of_wr W35).1)) (Nat.le_of_eq g38.symm)))).ext E57)
  obtain ⟨vr62, _, ⟨T62, L62, k62, n62⟩, -, X62, ⟨Lc62, hQ62, l62, y62, z62⟩, st62⟩ := X57.specialBack hx (y := (⟨"java/lang/String", "<init>", "([C)V"⟩ : MethodName)) rfl hown (mvT hZ (hw _ (List.mem_of_getElem? (i := 8) rfl))) (mvT hZ (hw _ (List.mem_of_getElem? (i := 9) rfl))) (mvT hZ (hw _ (List.mem_of_getElem? (i := 10) rfl))) (by decide) (StrChars.Road.backV (W := 1) hZ (fun d hd => hw d (own_in_words d hd)) (kI := 4) (hw _ (List.mem_of_getElem? (i := 6) rfl)) (cs := [p1.toUInt32.toUInt16.toUInt32.toInt32]) (bs := ([p1.toUInt32.toUInt16.toUInt32.toInt32] : List Int32).map (fun c => c.toInt8.toInt32)) (n := 1) g_b57 (Nat.le_trans Z0 K58.1) A57 F_value_b57 F_coder_b57 f61 (S_COMPACT_STRINGS.ext O59.2) hzcs rfl rfl (by decide) (by decide) hch72 rfl (by decide) (by decide)) (g := (mkF m 72 #[.val (.int (1 : Int32)), .val (.int p1), .val (.int p2), .val (.int p3), .val (.int p4), .val (.ref b5), .val (.ref b12), .val (.ref b23), .val (.ref b38)] [(.ref b5), (.ref b57), (.ref b57)])) rfl (by rw [hml]; rfl) (Steps.refl _) (a := b57) (argsL := [(.ref b5)]) (rest := [(.ref b57)]) (lenOf pd_15 rfl) rfl (by show 2 * 0 + _ ≤ _; exact Nat.le_of_eq rfl) (hb hby d1_72) (fun _ _ => ⟨rfl, e57, (by decide : 5 + 1 ≤ _), (by decide : 14 + 1 ≤ _)⟩)
  dsimp only [Pt.U, Pt.locs, Pt.cells, Pt.slots] at X62 l62 y62 z62 st62 hQ62
  subst l62 y62 z62
  obtain ⟨rfl, N62q, K62, sE62, sC62, st62_t, sk62, -, sz62, -, sV62, sA62⟩ := hQ62
  have N62 := Fr.app N54 N62q
  replace X62 := X62.more (cells' := 6) (slots' := 15) (by decide) (by decide)
  have K63 : Keep h0 T62.heap [] := K58.trans K62 (allS (Or.inr sz_b57) all0)
  have O64 : Old Z n0 T62.heap := O59.keep K62 (allS g_b57 all0)
  have tS62 : own_Str Z T62.heap T62.heap.size b57 [p1.toUInt32.toUInt16.toUInt32.toInt32] := ⟨⟨sE62.lt, Nat.le_of_ble_eq_true rfl, hch72⟩, st62_t, sk62, sA62.lt, sE62, sV62, sC62, sA62⟩
  obtain ⟨fs, hr, hrun, hended, hW, hsame⟩ := X62.leave (v := some (.ref b57)) (fun h => by rw [Bd.returns] at h; cases h)
  refine ⟨_, _, pre0 _ ?_, hrun, hended, _, _, rfl, ?_, ⟨_, rfl⟩, hW, hsame.mono (by decide) (by decide)⟩
  · show Steps p.tables e below (s₁.setTop (mkF m 0 #[.val (.int (1 : Int32)), .val (.int p1), .val (.int p2), .val (.int p3), .val (.int p4), .unset, .unset, .unset, .unset] [])) _
    refine XS.iconst X0.here hx rfl (hb hby d1_0) ?_
    show Steps p.tables e below (s₁.setTop (mkF m 1 #[.val (.int (1 : Int32)), .val (.int p1), .val (.int p2), .val (.int p3), .val (.int p4), .unset, .unset, .unset, .unset] [(.int (1 : Int32))])) _
    refine st5 _ ?_
    show Steps p.tables e below (T5.setTop (mkF m 3 #[.val (.int (1 : Int32)), .val (.int p1), .val (.int p2), .val (.int p3), .val (.int p4), .unset, .unset, .unset, .unset] [(.ref b5)])) _
    refine XS.dup X5.here hx rfl (hb hby d1_3) rfl rfl ?_
    show Steps p.tables e below (T5.setTop (mkF m 4 #[.val (.int (1 : Int32)), .val (.int p1), .val (.int p2), .val (.int p3), .val (.int p4), .unset, .unset, .unset, .unset] [(.ref b5), (.ref b5)])) _
    refine XS.iconst X5.here hx rfl (hb hby d1_4) ?_
    show Steps p.tables e below (T5.setTop (mkF m 5 #[.val (.int (1 : Int32)), .val (.int p1), .val (.int p2), .val (.int p3), .val (.int p4), .unset, .unset, .unset, .unset] [(.int (0 : Int32)), (.ref b5), (.ref b5)])) _
    refine XS.iloadN X5.here hx rfl (hb hby d1_5) rfl ?_
    show Steps p.tables e below (T5.setTop (mkF m 6 #[.val (.int (1 : Int32)), .val (.int p1), .val (.int p2), .val (.int p3), .val (.int p4), .unset, .unset, .unset, .unset] [(.int p1), (.int (0 : Int32)), (.ref b5), (.ref b5)])) _
    refine st9 _ ?_
    show Steps p.tables e below (T9.setTop (mkF m 7 #[.val (.int (1 : Int32)), .val (.int p1), .val (.int p2), .val (.int p3), .val (.int p4), .unset, .unset, .unset, .unset] [(.ref b5)])) _
    refine XS.astore X9.here hx rfl (hb hby d1_7) rfl rfl (l' := #[.val (.int (1 : Int32)), .val (.int p1), .val (.int p2), .val (.int p3), .val (.int p4), .val (.ref b5), .unset, .unset, .unset]) rfl ?_
    show Steps p.tables e below (T9.setTop (mkF m 9 #[.val (.int (1 : Int32)), .val (.int p1), .val (.int p2), .val (.int p3), .val (.int p4), .val (.ref b5), .unset, .unset, .unset] [])) _
    refine XS.iconst X9.here hx rfl (hb hby d1_9) ?_
    show Steps p.tables e below (T9.setTop (mkF m 10 #[.val (.int (1 : Int32)), .val (.int p1), .val (.int p2), .val (.int p3), .val (.int p4), .val (.ref b5), .unset, .unset, .unset] [(.int (2 : Int32))])) _
    refine st12 _ ?_
    show Steps p.tables e below (T12.setTop (mkF m 12 #[.val (.int (1 : Int32)), .val (.int p1), .val (.int p2), .val (.int p3), .val (.int p4), .val (.ref b5), .unset, .unset, .unset] [(.ref b12)])) _
    refine XS.dup X12.here hx rfl (hb hby d1_12) rfl rfl ?_
    show Steps p.tables e below (T12.setTop (mkF m 13 #[.val (.int (1 : Int32)), .val (.int p1), .val (.int p2), .val (.int p3), .val (.int p4), .val (.ref b5), .unset, .unset, .unset] [(.ref b12), (.ref b12)])) _
    refine XS.iconst X12.here hx rfl (hb hby d1_13) ?_
    show Steps p.tables e below (T12.setTop (mkF m 14 #[.val (.int (1 : Int32)), .val (.int p1), .val (.int p2), .val (.int p3), .val (.int p4), .val (.ref b5), .unset, .unset, .unset] [(.int (0 : Int32)), (.ref b12), (.ref b12)])) _
    refine XS.iloadN X12.here hx rfl (hb hby d1_14) rfl ?_
    show Steps p.tables e below (T12.setTop (mkF m 15 #[.val (.int (1 : Int32)), .val (.int p1), .val (.int p2), .val (.int p3), .val (.int p4), .val (.ref b5), .unset, .unset, .unset] [(.int p1), (.int (0 : Int32)), (.ref b12), (.ref b12)])) _
    refine st16 _ ?_
    show Steps p.tables e below (T16.setTop (mkF m 16 #[.val (.int (1 : Int32)), .val (.int p1), .val (.int p2), .val (.int p3), .val (.int p4), .val (.ref b5), .unset, .unset, .unset] [(.ref b12)])) _
    refine XS.dup X16.here hx rfl (hb hby d1_16) rfl rfl ?_
    show Steps p.tables e below (T16.setTop (mkF m 17 #[.val (.int (1 : Int32)), .val (.int p1), .val (.int p2), .val (.int p3), .val (.int p4), .val (.ref b5), .unset, .unset, .unset] [(.ref b12), (.ref b12)])) _
    refine XS.iconst X16.here hx rfl (hb hby d1_17) ?_
    show Steps p.tables e below (T16.setTop (mkF m 18 #[.val (.int (1 : Int32)), .val (.int p1), .val (.int p2), .val (.int p3), .val (.int p4), .val (.ref b5), .unset, .unset, .unset] [(.int (1 : Int32)), (.ref b12), (.ref b12)])) _
    refine XS.iloadN X16.here hx rfl (hb hby d1_18) rfl ?_
    show Steps p.tables e below (T16.setTop (mkF m 19 #[.val (.int (1 : Int32)), .val (.int p1), .val (.int p2), .val (.int p3), .val (.int p4), .val (.ref b5), .unset, .unset, .unset] [(.int p2), (.int (1 : Int32)), (.ref b12), (.ref b12)])) _
    refine st20 _ ?_
    show Steps p.tables e below (T20.setTop (mkF m 20 #[.val (.int (1 : Int32)), .val (.int p1), .val (.int p2), .val (.int p3), .val (.int p4), .val (.ref b5), .unset, .unset, .unset] [(.ref b12)])) _
    refine XS.astore X20.here hx rfl (hb hby d1_20) rfl rfl (l' := #[.val (.int (1 : Int32)), .val (.int p1), .val (.int p2), .val (.int p3), .val (.int p4), .val (.ref b5), .val (.ref b12), .unset, .unset]) rfl ?_
    show Steps p.tables e below (T20.setTop (mkF m 22 #[.val (.int (1 : Int32)), .val (.int p1), .val (.int p2), .val (.int p3), .val (.int p4), .val (.ref b5), .val (.ref b12), .unset, .unset] [])) _
    refine XS.iconst X20.here hx rfl (hb hby d1_22) ?_
    show Steps p.tables e below (T20.setTop (mkF m 23 #[.val (.int (1 : Int32)), .val (.int p1), .val (.int p2), .val (.int p3), .val (.int p4), .val (.ref b5), .val (.ref b12), .unset, .unset] [(.int (3 : Int32))])) _
    refine st23 _ ?_
    show Steps p.tables e below (T23.setTop (mkF m 25 #[.val (.int (1 : Int32)), .val (.int p1), .val (.int p2), .val (.int p3), .val (.int p4), .val (.ref b5), .val (.ref b12), .unset, .unset] [(.ref b23)])) _
    refine XS.dup X23.here hx rfl (hb hby d1_25) rfl rfl ?_
    show Steps p.tables e below (T23.setTop (mkF m 26 #[.val (.int (1 : Int32)), .val (.int p1), .val (.int p2), .val (.int p3), .val (.int p4), .val (.ref b5), .val (.ref b12), .unset, .unset] [(.ref b23), (.ref b23)])) _
    refine XS.iconst X23.here hx rfl (hb hby d1_26) ?_
    show Steps p.tables e below (T23.setTop (mkF m 27 #[.val (.int (1 : Int32)), .val (.int p1), .val (.int p2), .val (.int p3), .val (.int p4), .val (.ref b5), .val (.ref b12), .unset, .unset] [(.int (0 : Int32)), (.ref b23), (.ref b23)])) _
    refine XS.iloadN X23.here hx rfl (hb hby d1_27) rfl ?_
    show Steps p.tables e below (T23.setTop (mkF m 28 #[.val (.int (1 : Int32)), .val (.int p1), .val (.int p2), .val (.int p3), .val (.int p4), .val (.ref b5), .val (.ref b12), .unset, .unset] [(.int p1), (.int (0 : Int32)), (.ref b23), (.ref b23)])) _
    refine st27 _ ?_
    show Steps p.tables e below (T27.setTop (mkF m 29 #[.val (.int (1 : Int32)), .val (.int p1), .val (.int p2), .val (.int p3), .val (.int p4), .val (.ref b5), .val (.ref b12), .unset, .unset] [(.ref b23)])) _
    refine XS.dup X27.here hx rfl (hb hby d1_29) rfl rfl ?_
    show Steps p.tables e below (T27.setTop (mkF m 30 #[.val (.int (1 : Int32)), .val (.int p1), .val (.int p2), .val (.int p3), .val (.int p4), .val (.ref b5), .val (.ref b12), .unset, .unset] [(.ref b23), (.ref b23)])) _
    refine XS.iconst X27.here hx rfl (hb hby d1_30) ?_
    show Steps p.tables e below (T27.setTop (mkF m 31 #[.val (.int (1 : Int32)), .val (.int p1), .val (.int p2), .val (.int p3), .val (.int p4), .val (.ref b5), .val (.ref b12), .unset, .unset] [(.int (1 : Int32)), (.ref b23), (.ref b23)])) _
    refine XS.iloadN X27.here hx rfl (hb hby d1_31) rfl ?_
    show Steps p.tables e below (T27.setTop (mkF m 32 #[.val (.int (1 : Int32)), .val (.int p1), .val (.int p2), .val (.int p3), .val (.int p4), .val (.ref b5), .val (.ref b12), .unset, .unset] [(.int p2), (.int (1 : Int32)), (.ref b23), (.ref b23)])) _
    refine st31 _ ?_
    show Steps p.tables e below (T31.setTop (mkF m 33 #[.val (.int (1 : Int32)), .val (.int p1), .val (.int p2), .val (.int p3), .val (.int p4), .val (.ref b5), .val (.ref b12), .unset, .unset] [(.ref b23)])) _
    refine XS.dup X31.here hx rfl (hb hby d1_33) rfl rfl ?_
    show Steps p.tables e below (T31.setTop (mkF m 34 #[.val (.int (1 : Int32)), .val (.int p1), .val (.int p2), .val (.int p3), .val (.int p4), .val (.ref b5), .val (.ref b12), .unset, .unset] [(.ref b23), (.ref b23)])) _
    refine XS.iconst X31.here hx rfl (hb hby d1_34) ?_
    show Steps p.tables e below (T31.setTop (mkF m 35 #[.val (.int (1 : Int32)), .val (.int p1), .val (.int p2), .val (.int p3), .val (.int p4), .val (.ref b5), .val (.ref b12), .unset, .unset] [(.int (2 : Int32)), (.ref b23), (.ref b23)])) _
    refine XS.iloadN X31.here hx rfl (hb hby d1_35) rfl ?_
    show Steps p.tables e below (T31.setTop (mkF m 36 #[.val (.int (1 : Int32)), .val (.int p1), .val (.int p2), .val (.int p3), .val (.int p4), .val (.ref b5), .val (.ref b12), .unset, .unset] [(.int p3), (.int (2 : Int32)), (.ref b23), (.ref b23)])) _
    refine st35 _ ?_
    show Steps p.tables e below (T35.setTop (mkF m 37 #[.val (.int (1 : Int32)), .val (.int p1), .val (.int p2), .val (.int p3), .val (.int p4), .val (.ref b5), .val (.ref b12), .unset, .unset] [(.ref b23)])) _
    refine XS.astore X35.here hx rfl (hb hby d1_37) rfl rfl (l' := #[.val (.int (1 : Int32)), .val (.int p1), .val (.int p2), .val (.int p3), .val (.int p4), .val (.ref b5), .val (.ref b12), .val (.ref b23), .unset]) rfl ?_
    show Steps p.tables e below (T35.setTop (mkF m 39 #[.val (.int (1 : Int32)), .val (.int p1), .val (.int p2), .val (.int p3), .val (.int p4), .val (.ref b5), .val (.ref b12), .val (.ref b23), .unset] [])) _
    refine XS.iconst X35.here hx rfl (hb hby d1_39) ?_
    show Steps p.tables e below (T35.setTop (mkF m 40 #[.val (.int (1 : Int32)), .val (.int p1), .val (.int p2), .val (.int p3), .val (.int p4), .val (.ref b5), .val (.ref b12), .val (.ref b23), .unset] [(.int (4 : Int32))])) _
    refine st38 _ ?_
    show Steps p.tables e below (T38.setTop (mkF m 42 #[.val (.int (1 : Int32)), .val (.int p1), .val (.int p2), .val (.int p3), .val (.int p4), .val (.ref b5), .val (.ref b12), .val (.ref b23), .unset] [(.ref b38)])) _
    refine XS.dup X38.here hx rfl (hb hby d1_42) rfl rfl ?_
    show Steps p.tables e below (T38.setTop (mkF m 43 #[.val (.int (1 : Int32)), .val (.int p1), .val (.int p2), .val (.int p3), .val (.int p4), .val (.ref b5), .val (.ref b12), .val (.ref b23), .unset] [(.ref b38), (.ref b38)])) _
    refine XS.iconst X38.here hx rfl (hb hby d1_43) ?_
    show Steps p.tables e below (T38.setTop (mkF m 44 #[.val (.int (1 : Int32)), .val (.int p1), .val (.int p2), .val (.int p3), .val (.int p4), .val (.ref b5), .val (.ref b12), .val (.ref b23), .unset] [(.int (0 : Int32)), (.ref b38), (.ref b38)])) _
    refine XS.iloadN X38.here hx rfl (hb hby d1_44) rfl ?_
    show Steps p.tables e below (T38.setTop (mkF m 45 #[.val (.int (1 : Int32)), .val (.int p1), .val (.int p2), .val (.int p3), .val (.int p4), .val (.ref b5), .val (.ref b12), .val (.ref b23), .unset] [(.int p1), (.int (0 : Int32)), (.ref b38), (.ref b38)])) _
    refine st42 _ ?_
    show Steps p.tables e below (T42.setTop (mkF m 46 #[.val (.int (1 : Int32)), .val (.int p1), .val (.int p2), .val (.int p3), .val (.int p4), .val (.ref b5), .val (.ref b12), .val (.ref b23), .unset] [(.ref b38)])) _
    refine XS.dup X42.here hx rfl (hb hby d1_46) rfl rfl ?_
    show Steps p.tables e below (T42.setTop (mkF m 47 #[.val (.int (1 : Int32)), .val (.int p1), .val (.int p2), .val (.int p3), .val (.int p4), .val (.ref b5), .val (.ref b12), .val (.ref b23), .unset] [(.ref b38), (.ref b38)])) _
    refine XS.iconst X42.here hx rfl (hb hby d1_47) ?_
    show Steps p.tables e below (T42.setTop (mkF m 48 #[.val (.int (1 : Int32)), .val (.int p1), .val (.int p2), .val (.int p3), .val (.int p4), .val (.ref b5), .val (.ref b12), .val (.ref b23), .unset] [(.int (1 : Int32)), (.ref b38), (.ref b38)])) _
    refine XS.iloadN X42.here hx rfl (hb hby d1_48) rfl ?_
    show Steps p.tables e below (T42.setTop (mkF m 49 #[.val (.int (1 : Int32)), .val (.int p1), .val (.int p2), .val (.int p3), .val (.int p4), .val (.ref b5), .val (.ref b12), .val (.ref b23), .unset] [(.int p2), (.int (1 : Int32)), (.ref b38), (.ref b38)])) _
    refine st46 _ ?_
    show Steps p.tables e below (T46.setTop (mkF m 50 #[.val (.int (1 : Int32)), .val (.int p1), .val (.int p2), .val (.int p3), .val (.int p4), .val (.ref b5), .val (.ref b12), .val (.ref b23), .unset] [(.ref b38)])) _
    refine XS.dup X46.here hx rfl (hb hby d1_50) rfl rfl ?_
    show Steps p.tables e below (T46.setTop (mkF m 51 #[.val (.int (1 : Int32)), .val (.int p1), .val (.int p2), .val (.int p3), .val (.int p4), .val (.ref b5), .val (.ref b12), .val (.ref b23), .unset] [(.ref b38), (.ref b38)])) _
    refine XS.iconst X46.here hx rfl (hb hby d1_51) ?_
    show Steps p.tables e below (T46.setTop (mkF m 52 #[.val (.int (1 : Int32)), .val (.int p1), .val (.int p2), .val (.int p3), .val (.int p4), .val (.ref b5), .val (.ref b12), .val (.ref b23), .unset] [(.int (2 : Int32)), (.ref b38), (.ref b38)])) _
    refine XS.iloadN X46.here hx rfl (hb hby d1_52) rfl ?_
    show Steps p.tables e below (T46.setTop (mkF m 53 #[.val (.int (1 : Int32)), .val (.int p1), .val (.int p2), .val (.int p3), .val (.int p4), .val (.ref b5), .val (.ref b12), .val (.ref b23), .unset] [(.int p3), (.int (2 : Int32)), (.ref b38), (.ref b38)])) _
    refine st50 _ ?_
    show Steps p.tables e below (T50.setTop (mkF m 54 #[.val (.int (1 : Int32)), .val (.int p1), .val (.int p2), .val (.int p3), .val (.int p4), .val (.ref b5), .val (.ref b12), .val (.ref b23), .unset] [(.ref b38)])) _
    refine XS.dup X50.here hx rfl (hb hby d1_54) rfl rfl ?_
    show Steps p.tables e below (T50.setTop (mkF m 55 #[.val (.int (1 : Int32)), .val (.int p1), .val (.int p2), .val (.int p3), .val (.int p4), .val (.ref b5), .val (.ref b12), .val (.ref b23), .unset] [(.ref b38), (.ref b38)])) _
    refine XS.iconst X50.here hx rfl (hb hby d1_55) ?_
    show Steps p.tables e below (T50.setTop (mkF m 56 #[.val (.int (1 : Int32)), .val (.int p1), .val (.int p2), .val (.int p3), .val (.int p4), .val (.ref b5), .val (.ref b12), .val (.ref b23), .unset] [(.int (3 : Int32)), (.ref b38), (.ref b38)])) _
    refine XS.iload X50.here hx rfl (hb hby d1_56) rfl ?_
    show Steps p.tables e below (T50.setTop (mkF m 58 #[.val (.int (1 : Int32)), .val (.int p1), .val (.int p2), .val (.int p3), .val (.int p4), .val (.ref b5), .val (.ref b12), .val (.ref b23), .unset] [(.int p4), (.int (3 : Int32)), (.ref b38), (.ref b38)])) _
    refine st54 _ ?_
    show Steps p.tables e below (T54.setTop (mkF m 59 #[.val (.int (1 : Int32)), .val (.int p1), .val (.int p2), .val (.int p3), .val (.int p4), .val (.ref b5), .val (.ref b12), .val (.ref b23), .unset] [(.ref b38)])) _
    refine XS.astore X54.here hx rfl (hb hby d1_59) rfl rfl (l' := #[.val (.int (1 : Int32)), .val (.int p1), .val (.int p2), .val (.int p3), .val (.int p4), .val (.ref b5), .val (.ref b12), .val (.ref b23), .val (.ref b38)]) rfl ?_
    show Steps p.tables e below (T54.setTop (mkF m 61 #[.val (.int (1 : Int32)), .val (.int p1), .val (.int p2), .val (.int p3), .val (.int p4), .val (.ref b5), .val (.ref b12), .val (.ref b23), .val (.ref b38)] [])) _
    refine XS.iloadN X54.here hx rfl (hb hby d1_61) rfl ?_
    show Steps p.tables e below (T54.setTop (mkF m 62 #[.val (.int (1 : Int32)), .val (.int p1), .val (.int p2), .val (.int p3), .val (.int p4), .val (.ref b5), .val (.ref b12), .val (.ref b23), .val (.ref b38)] [(.int (1 : Int32))])) _
    refine XS.iconst X54.here hx rfl (hb hby d1_62) ?_
    show Steps p.tables e below (T54.setTop (mkF m 63 #[.val (.int (1 : Int32)), .val (.int p1), .val (.int p2), .val (.int p3), .val (.int p4), .val (.ref b5), .val (.ref b12), .val (.ref b23), .val (.ref b38)] [(.int (1 : Int32)), (.int (1 : Int32))])) _
    refine XS.icmpNo X54.here hx rfl (hb hby d1_63) rfl (teq (by decide : (1 : Int32) = (1 : Int32))).2 ?_
    show Steps p.tables e below (T54.setTop (mkF m 66 #[.val (.int (1 : Int32)), .val (.int p1), .val (.int p2), .val (.int p3), .val (.int p4), .val (.ref b5), .val (.ref b12), .val (.ref b23), .val (.ref b38)] [])) _
    refine st57 _ ?_
    show Steps p.tables e below (T57.setTop (mkF m 69 #[.val (.int (1 : Int32)), .val (.int p1), .val (.int p2), .val (.int p3), .val (.int p4), .val (.ref b5), .val (.ref b12), .val (.ref b23), .val (.ref b38)] [(.ref b57)])) _
    refine XS.dup X57.here hx rfl (hb hby d1_69) rfl rfl ?_
    show Steps p.tables e below (T57.setTop (mkF m 70 #[.val (.int (1 : Int32)), .val (.int p1), .val (.int p2), .val (.int p3), .val (.int p4), .val (.ref b5), .val (.ref b12), .val (.ref b23), .val (.ref b38)] [(.ref b57), (.ref b57)])) _
    refine XS.aload X57.here hx rfl (hb hby d1_70) rfl rfl ?_
    show Steps p.tables e below (T57.setTop (mkF m 72 #[.val (.int (1 : Int32)), .val (.int p1), .val (.int p2), .val (.int p3), .val (.int p4), .val (.ref b5), .val (.ref b12), .val (.ref b23), .val (.ref b38)] [(.ref b5), (.ref b57), (.ref b57)])) _
    refine st62.trans ?_
    show Steps p.tables e below (T62.setTop (mkF m 75 #[.val (.int (1 : Int32)), .val (.int p1), .val (.int p2), .val (.int p3), .val (.int p4), .val (.ref b5), .val (.ref b12), .val (.ref b23), .val (.ref b38)] [(.ref b57)])) _
    exact own_retR X62 hx Bd.returns rfl rfl (hb hby d1_75) hr
  · show Q1n1 Z p1 p2 p3 p4 w60 h0 n0 _ T62.heap _
    exact ⟨b57, rfl, N62, K63, sz_b57, (own_Str.exa tS62), (own_Str.top tS62)⟩
theorem d1_76 : decode method_2_code 76 = .ok (.iload_n 0, 1) := by decide +kernel
theorem d1_77 : decode method_2_code 77 = .ok (.iconst 2, 1) := by decide +kernel
theorem d1_78 : decode method_2_code 78 = .ok (.if_icmp .ne 13, 3) := by decide +kernel
theorem d1_81 : decode method_2_code 81 = .ok (.new 7, 3) := by decide +kernel
theorem d1_84 : decode method_2_code 84 = .ok (.dup, 1) := by decide +kernel
theorem d1_85 : decode method_2_code 85 = .ok (.aload 6, 2) := by decide +kernel
theorem d1_87 : decode method_2_code 87 = .ok (.invokespecial 9, 3) := by decide +kernel
theorem d1_90 : decode method_2_code 90 = .ok (.areturn, 1) := by decide +kernel
def Q1n2 (Z : State) (p1 p2 p3 p4 w60 : Int32) (h0 : Heap) (n0 : Nat) (v : Option Value) (h : Heap) (L : List Loc) : Prop := ∃ b57 : Addr, v = some (.ref b57) ∧ Fr n0 L ∧ Keep h0 h [] ∧ h0.size ≤ b57 ∧ Exa Z h b57 "java/lang/String" ∧ own_Str Z h h.size b57 [p1.toUInt32.toUInt16.toUInt32.toInt32, p2.toUInt32.toUInt16.toUInt32.toInt32]
theorem ef_1__2___Int32__aaaa (m : MethodId) (x1 : Int32) (x2 : Int32) (x3 : Int32) (x4 : Int32) : entryFrame m #[(.int (2 : Int32)), (.int x1), (.int x2), (.int x3), (.int x4)] 9 = mkF m 0 #[.val (.int (2 : Int32)), .val (.int x1), .val (.int x2), .val (.int x3), .val (.int x4), .unset, .unset, .unset, .unset] [] := by first | (simp [entryFrame, mkF, argsToLocals, Value.category]; done) | rfl
set_option maxRecDepth 65536 in
set_option maxHeartbeats 40000000 in
theorem rm1n2 (l : Launch) (Z : State) (a0 : Array Value) (hw : ∀ d ∈ tables_1, d.before a0 Z = true) (ws : List Jvm.Cond) (p1 p2 p3 p4 w60 : Int32) (h0 : Heap) (n0 : Nat) (O0 : Old Z n0 h0) (S_COMPACT_STRINGS : Sta Z Z.heap "java/lang/String" "COMPACT_STRINGS" "Z" (.int w60)) (hzcs : ¬ (w60 = (0 : Int32))) (hch87 : ∀ c ∈ ([p1.toUInt32.toUInt16.toUInt32.toInt32, p2.toUInt32.toUInt16.toUInt32.toInt32] : List Int32), ¬ c < 0 ∧ ¬ (255 : Int32) < c) :
    MetFree l (⟨"com/example/wattle/wattle/FigureUnreadablePinLaw", "text", "(ICCCC)Ljava/lang/String;"⟩ : MethodName) (head1 (Jvm.Cond.code (⟨"com/example/wattle/wattle/FigureUnreadablePinLaw", "text", "(ICCCC)Ljava/lang/String;"⟩ : MethodName) method_2_code 9 (some (.object "java/lang/String")) :: ws) ({ frames := 4, cells := 6, slots := 16, locals := 66 } : Room)) (fun a U => a = #[(.int (2 : Int32)), (.int p1), (.int p2), (.int p3), (.int p4)] ∧ Z.Warmed39 U.vm ∧ U.heap = h0) (fun _ _ _ _ _ => True) (fun _ U o U' => ∃ v L, o = .returned v ∧ Q1n2 Z p1 p2 p3 p4 w60 h0 n0 v U'.heap L ∧ FrameEnd U o U' L ({ frames := 4, cells := 6, slots := 16, locals := 66 } : Room).cells ({ frames := 4, cells := 6, slots := 16, locals := 66 } : Room).slots) := by
  refine MetFree.of_bodySF (plainFor_of_name pnc_com_example_wattle_wattle_FigureUnreadablePinLaw) hisR ?_
  intro p e s m args below meth c s₁ Bd hml0 hP hK
  obtain ⟨rfl, hZ, hh⟩ := hP
  have hx := Bd.exec
  have hby := Bd.bytes
  have hml : c.maxLocals = 9 := hml0
  have hown : s.vm.findClass "com/example/wattle/wattle/FigureUnreadablePinLaw" = some m.cls := findClass_of_methodNamed Bd.named
  have hnm := (name_of_methodNamed Bd.named Bd.method).1
  have X0 : Stand p l e ({ frames := 4, cells := 6, slots := 16, locals := 66 } : Room) s m #[(.int (2 : Int32)), (.int p1), (.int p2), (.int p3), (.int p4)] below meth c s₁ [] 0 0 := Stand.of_body Bd
  have e0 : s₁.heap = h0 := by rw [← hh, Bd.state]; rfl
  have N0 := Fr.nil n0
  have Z0 : n0 ≤ h0.size := O0.1 ▸ O0.2.1
  have pre0 : ∀ t, Steps p.tables e below (s₁.setTop (mkF m 0 #[.val (.int (2 : Int32)), .val (.int p1), .val (.int p2), .val (.int p3), .val (.int p4), .unset, .unset, .unset, .unset] [])) t → Steps p.tables e below (s₁.setTop (entryFrame m #[(.int (2 : Int32)), (.int p1), (.int p2), (.int p3), (.int p4)] 9)) t := fun t k => castTop (ef_1__2___Int32__aaaa m p1 p2 p3 p4) k
  obtain ⟨T5, h5, k5, X5, e5, E5, A5, st5⟩ := newP X0 hx hZ (hw _ (List.mem_of_getElem? (i := 4) rfl)) e0 (g := (mkF m 1 #[.val (.int (2 : Int32)), .val (.int p1), .val (.int p2), .val (.int p3), .val (.int p4), .unset, .unset, .unset, .unset] [(.int (1 : Int32))])) rfl (hb hby d1_1) rfl (by decide) (cap := 1) (by decide) (by decide) (by decide) (by decide)
  obtain ⟨b5, g5⟩ : ∃ z, z = h0.size := ⟨_, rfl⟩
  rw [← g5] at A5 st5
  have g_b5 : n0 ≤ b5 := Nat.le_trans (Nat.le_trans Z0 (Keep.refl h0 []).1) (Nat.le_of_eq g5.symm)
  have sz_b5 : h0.size ≤ b5 := Nat.le_trans (Keep.refl h0 []).1 (Nat.le_of_eq g5.symm)
  have K6 : Keep h0 h5 [] := (Keep.refl h0 []).ext E5
  have O7 : Old Z n0 h5 := O0.ext E5
  have V5 : Arv Z h5 b5 k5 .char (1 : Int32) [(.int (0 : Int32))] (.int (0 : Int32)) := (Arv.new A5 (by decide)).pad (pad_rep [] (.int (0 : Int32)) 1)
  replace X5 := X5.more (cells' := 1) (slots' := 1) (by decide) (by decide)
  obtain ⟨cl8, Ar8, q8, S8, Nn8, Hh8, G8⟩ := id V5
  have hin8 : ¬ ((0 : Int32) < 0 ∨ cl8.slots.size ≤ ((0 : Int32)).toNatClampNeg) := inb_of S8 ⟨by decide, by decide⟩
  obtain ⟨T9, h9, X9, e9, W9, st9⟩ := stC X5 hx hZ e5 Ar8 (j := (0 : Int32)) hin8 (g := (mkF m 6 #[.val (.int (2 : Int32)), .val (.int p1), .val (.int p2), .val (.int p3), .val (.int p4), .unset, .unset, .unset, .unset] [(.int p1), (.int (0 : Int32)), (.ref b5), (.ref b5)])) rfl rfl (hb hby d1_6)
  have N9 := Fr.snoc X9 N0 g_b5
  have K10 : Keep h0 h9 [] := K6.wr W9 (Or.inr sz_b5)
  have O11 : Old Z n0 h9 := O7.wr W9 g_b5
  have V9 : Arv Z h9 b5 k5 .char (1 : Int32) [(.int p1.toUInt32.toUInt16.toUInt32.toInt32)] (.int (0 : Int32)) := Arv.set Ar8 q8 S8 Nn8 Hh8 G8 (fits_nar_char _) W9 0 rfl (Nat.le_of_ble_eq_true rfl)
  obtain ⟨T12, h12, k12, X12, e12, E12, A12, st12⟩ := newP X9 hx hZ (hw _ (List.mem_of_getElem? (i := 4) rfl)) e9 (g := (mkF m 10 #[.val (.int (2 : Int32)), .val (.int p1), .val (.int p2), .val (.int p3), .val (.int p4), .val (.ref b5), .unset, .unset, .unset] [(.int (2 : Int32))])) rfl (hb hby d1_10) rfl (by decide) (cap := 2) (by decide) (by decide) (by decide) (by decide)
  obtain ⟨b12, g12⟩ : ∃ z, z = h9.size := ⟨_, rfl⟩
  rw [← g12] at A12 st12
  have g_b12 : n0 ≤ b12 := Nat.le_trans (Nat.le_trans Z0 K10.1) (Nat.le_of_eq g12.symm)
  have sz_b12 : h0.size ≤ b12 := Nat.le_trans K10.1 (Nat.le_of_eq g12.symm)
  have K13 : Keep h0 h12 [] := K10.ext E12
  have O14 : Old Z n0 h12 := O11.ext E12
  have V12 : Arv Z h12 b12 k12 .char (2 : Int32) [(.int (0 : Int32)), (.int (0 : Int32))] (.int (0 : Int32)) := (Arv.new A12 (by decide)).pad (pad_rep [] (.int (0 : Int32)) 2)
  replace X12 := X12.more (cells' := 2) (slots' := 3) (by decide) (by decide)
  obtain ⟨cl15, Ar15, q15, S15, Nn15, Hh15, G15⟩ := id V12
  have hin15 : ¬ ((0 : Int32) < 0 ∨ cl15.slots.size ≤ ((0 : Int32)).toNatClampNeg) := inb_of S15 ⟨by decide, by decide⟩
  obtain ⟨T16, h16, X16, e16, W16, st16⟩ := stC X12 hx hZ e12 Ar15 (j := (0 : Int32)) hin15 (g := (mkF m 15 #[.val (.int (2 : Int32)), .val (.int p1), .val (.int p2), .val (.int p3), .val (.int p4), .val (.ref b5), .unset, .unset, .unset] [(.int p1), (.int (0 : Int32)), (.ref b12), (.ref b12)])) rfl rfl (hb hby d1_15)
  have N16 := Fr.snoc X16 N9 g_b12
  have K17 : Keep h0 h16 [] := K13.wr W16 (Or.inr sz_b12)
  have O18 : Old Z n0 h16 := O14.wr W16 g_b12
  have V16 : Arv Z h16 b12 k12 .char (2 : Int32) [(.int p1.toUInt32.toUInt16.toUInt32.toInt32), (.int (0 : Int32))] (.int (0 : Int32)) := Arv.set Ar15 q15 S15 Nn15 Hh15 G15 (fits_nar_char _) W16 0 rfl (Nat.le_of_ble_eq_true rfl)
  obtain ⟨cl19, Ar19, q19, S19, Nn19, Hh19, G19⟩ := id V16
  have hin19 : ¬ ((1 : Int32) < 0 ∨ cl19.slots.size ≤ ((1 : Int32)).toNatClampNeg) := inb_of S19 ⟨by decide, by decide⟩
  obtain ⟨T20, h20, X20, e20, W20, st20⟩ := stC X16 hx hZ e16 Ar19 (j := (1 : Int32)) hin19 (g := (mkF m 19 #[.val (.int (2 : Int32)), .val (.int p1), .val (.int p2), .val (.int p3), .val (.int p4), .val (.ref b5), .unset, .unset, .unset] [(.int p2), (.int (1 : Int32)), (.ref b12), (.ref b12)])) rfl rfl (hb hby d1_19)
  have N20 := Fr.snoc X20 N16 g_b12
  have K21 : Keep h0 h20 [] := K17.wr W20 (Or.inr sz_b12)
  have O22 : Old Z n0 h20 := O18.wr W20 g_b12
  have V20 : Arv Z h20 b12 k12 .char (2 : Int32) [(.int p1.toUInt32.toUInt16.toUInt32.toInt32), (.int p2.toUInt32.toUInt16.toUInt32.toInt32)] (.int (0 : Int32)) := Arv.set Ar19 q19 S19 Nn19 Hh19 G19 (fits_nar_char _) W20 1 rfl (Nat.le_of_ble_eq_true rfl)
  obtain ⟨T23, h23, k23, X23, e23, E23, A23, st23⟩ := newP X20 hx hZ (hw _ (List.mem_of_getElem? (i := 4) rfl)) e20 (g := (mkF m 23 #[.val (.int (2 : Int32)), .val (.int p1), .val (.int p2), .val (.int p3), .val (.int p4), .val (.ref b5), .val (.ref b12), .unset, .unset] [(.int (3 : Int32))])) rfl (hb hby d1_23) rfl (by decide) (cap := 3) (by decide) (by decide) (by decide) (by decide)
  obtain ⟨b23, g23⟩ : ∃ z, z = h20.size := ⟨_, rfl⟩
  rw [← g23] at A23 st23
  have g_b23 : n0 ≤ b23 := Nat.le_trans (Nat.le_trans Z0 K21.1) (Nat.le_of_eq g23.symm)
  have sz_b23 : h0.size ≤ b23 := Nat.le_trans K21.1 (Nat.le_of_eq g23.symm)
  have K24 : Keep h0 h23 [] := K21.ext E23
  have O25 : Old Z n0 h23 := O22.ext E23
  have V23 : Arv Z h23 b23 k23 .char (3 : Int32) [(.int (0 : Int32)), (.int (0 : Int32)), (.int (0 : Int32))] (.int (0 : Int32)) := (Arv.new A23 (by decide)).pad (pad_rep [] (.int (0 : Int32)) 3)
  replace X23 := X23.more (cells' := 3) (slots' := 6) (by decide) (by decide)
  obtain ⟨cl26, Ar26, q26, S26, Nn26, Hh26, G26⟩ := id V23
  have hin26 : ¬ ((0 : Int32) < 0 ∨ cl26.slots.size ≤ ((0 : Int32)).toNatClampNeg) := inb_of S26 ⟨by decide, by decide⟩
  obtain ⟨T27, h27, X27, e27, W27, st27⟩ := stC X23 hx hZ e23 Ar26 (j := (0 : Int32)) hin26 (g := (mkF m 28 #[.val (.int (2 : Int32)), .val (.int p1), .val (.int p2), .val (.int p3), .val (.int p4), .val (.ref b5), .val (.ref b12), .unset, .unset] [(.int p1), (.int (0 : Int32)), (.ref b23), (.ref b23)])) rfl rfl (hb hby d1_28)
  have N27 := Fr.snoc X27 N20 g_b23
  have K28 : Keep h0 h27 [] := K24.wr W27 (Or.inr sz_b23)
  have O29 : Old Z n0 h27 := O25.wr W27 g_b23
  have V27 : Arv Z h27 b23 k23 .char (3 : Int32) [(.int p1.toUInt32.toUInt16.toUInt32.toInt32), (.int (0 : Int32)), (.int (0 : Int32))] (.int (0 : Int32)) := Arv.set Ar26 q26 S26 Nn26 Hh26 G26 (fits_nar_char _) W27 0 rfl (Nat.le_of_ble_eq_true rfl)
  obtain ⟨cl30, Ar30, q30, S30, Nn30, Hh30, G30⟩ := id V27
  have hin30 : ¬ ((1 : Int32) < 0 ∨ cl30.slots.size ≤ ((1 : Int32)).toNatClampNeg) := inb_of S30 ⟨by decide, by decide⟩
  obtain ⟨T31, h31, X31, e31, W31, st31⟩ := stC X27 hx hZ e27 Ar30 (j := (1 : Int32)) hin30 (g := (mkF m 32 #[.val (.int (2 : Int32)), .val (.int p1), .val (.int p2), .val (.int p3), .val (.int p4), .val (.ref b5), .val (.ref b12), .unset, .unset] [(.int p2), (.int (1 : Int32)), (.ref b23), (.ref b23)])) rfl rfl (hb hby d1_32)
  have N31 := Fr.snoc X31 N27 g_b23
  have K32 : Keep h0 h31 [] := K28.wr W31 (Or.inr sz_b23)
  have O33 : Old Z n0 h31 := O29.wr W31 g_b23
  have V31 : Arv Z h31 b23 k23 .char (3 : Int32) [(.int p1.toUInt32.toUInt16.toUInt32.toInt32), (.int p2.toUInt32.toUInt16.toUInt32.toInt32), (.int (0 : Int32))] (.int (0 : Int32)) := Arv.set Ar30 q30 S30 Nn30 Hh30 G30 (fits_nar_char _) W31 1 rfl (Nat.le_of_ble_eq_true rfl)
  obtain ⟨cl34, Ar34, q34, S34, Nn34, Hh34, G34⟩ := id V31
  have hin34 : ¬ ((2 : Int32) < 0 ∨ cl34.slots.size ≤ ((2 : Int32)).toNatClampNeg) := inb_of S34 ⟨by decide, by decide⟩
  obtain ⟨T35, h35, X35, e35, W35, st35⟩ := stC X31 hx hZ e31 Ar34 (j := (2 : Int32)) hin34 (g := (mkF m 36 #[.val (.int (2 : Int32)), .val (.int p1), .val (.int p2), .val (.int p3), .val (.int p4), .val (.ref b5), .val (.ref b12), .unset, .unset] [(.int p3), (.int (2 : Int32)), (.ref b23), (.ref b23)])) rfl rfl (hb hby d1_36)
  have N35 := Fr.snoc X35 N31 g_b23
  have K36 : Keep h0 h35 [] := K32.wr W35 (Or.inr sz_b23)
  have O37 : Old Z n0 h35 := O33.wr W35 g_b23
  have V35 : Arv Z h35 b23 k23 .char (3 : Int32) [(.int p1.toUInt32.toUInt16.toUInt32.toInt32), (.int p2.toUInt32.toUInt16.toUInt32.toInt32), (.int p3.toUInt32.toUInt16.toUInt32.toInt32)] (.int (0 : Int32)) := Arv.set Ar34 q34 S34 Nn34 Hh34 G34 (fits_nar_char _) W35 2 rfl (Nat.le_of_ble_eq_true rfl)
  obtain ⟨T38, h38, k38, X38, e38, E38, A38, st38⟩ := newP X35 hx hZ (hw _ (List.mem_of_getElem? (i := 4) rfl)) e35 (g := (mkF m 40 #[.val (.int (2 : Int32)), .val (.int p1), .val (.int p2), .val (.int p3), .val (.int p4), .val (.ref b5), .val (.ref b12), .val (.ref b23), .unset] [(.int (4 : Int32))])) rfl (hb hby d1_40) rfl (by decide) (cap := 4) (by decide) (by decide) (by decide) (by decide)
  obtain ⟨b38, g38⟩ : ∃ z, z = h35.size := ⟨_, rfl⟩
  rw [← g38] at A38 st38
  have g_b38 : n0 ≤ b38 := Nat.le_trans (Nat.le_trans Z0 K36.1) (Nat.le_of_eq g38.symm)
  have sz_b38 : h0.size ≤ b38 := Nat.le_trans K36.1 (Nat.le_of_eq g38.symm)
  have K39 : Keep h0 h38 [] := K36.ext E38
  have O40 : Old Z n0 h38 := O37.ext E38
  have V38 : Arv Z h38 b38 k38 .char (4 : Int32) [(.int (0 : Int32)), (.int (0 : Int32)), (.int (0 : Int32)), (.int (0 : Int32))] (.int (0 : Int32)) := (Arv.new A38 (by decide)).pad (pad_rep [] (.int (0 : Int32)) 4)
  replace X38 := X38.more (cells' := 4) (slots' := 10) (by decide) (by decide)
  obtain ⟨cl41, Ar41, q41, S41, Nn41, Hh41, G41⟩ := id V38
  have hin41 : ¬ ((0 : Int32) < 0 ∨ cl41.slots.size ≤ ((0 : Int32)).toNatClampNeg) := inb_of S41 ⟨by decide, by decide⟩
  obtain ⟨T42, h42, X42, e42, W42, st42⟩ := stC X38 hx hZ e38 Ar41 (j := (0 : Int32)) hin41 (g := (mkF m 45 #[.val (.int (2 : Int32)), .val (.int p1), .val (.int p2), .val (.int p3), .val (.int p4), .val (.ref b5), .val (.ref b12), .val (.ref b23), .unset] [(.int p1), (.int (0 : Int32)), (.ref b38), (.ref b38)])) rfl rfl (hb hby d1_45)
  have N42 := Fr.snoc X42 N35 g_b38
  have K43 : Keep h0 h42 [] := K39.wr W42 (Or.inr sz_b38)
  have O44 : Old Z n0 h42 := O40.wr W42 g_b38
  have V42 : Arv Z h42 b38 k38 .char (4 : Int32) [(.int p1.toUInt32.toUInt16.toUInt32.toInt32), (.int (0 : Int32)), (.int (0 : Int32)), (.int (0 : Int32))] (.int (0 : Int32)) := Arv.set Ar41 q41 S41 Nn41 Hh41 G41 (fits_nar_char _) W42 0 rfl (Nat.le_of_ble_eq_true rfl)
  obtain ⟨cl45, Ar45, q45, S45, Nn45, Hh45, G45⟩ := id V42
  have hin45 : ¬ ((1 : Int32) < 0 ∨ cl45.slots.size ≤ ((1 : Int32)).toNatClampNeg) := inb_of S45 ⟨by decide, by decide⟩
  obtain ⟨T46, h46, X46, e46, W46, st46⟩ := stC X42 hx hZ e42 Ar45 (j := (1 : Int32)) hin45 (g := (mkF m 49 #[.val (.int (2 : Int32)), .val (.int p1), .val (.int p2), .val (.int p3), .val (.int p4), .val (.ref b5), .val (.ref b12), .val (.ref b23), .unset] [(.int p2), (.int (1 : Int32)), (.ref b38), (.ref b38)])) rfl rfl (hb hby d1_49)
  have N46 := Fr.snoc X46 N42 g_b38
  have K47 : Keep h0 h46 [] := K43.wr W46 (Or.inr sz_b38)
  have O48 : Old Z n0 h46 := O44.wr W46 g_b38
  have V46 : Arv Z h46 b38 k38 .char (4 : Int32) [(.int p1.toUInt32.toUInt16.toUInt32.toInt32), (.int p2.toUInt32.toUInt16.toUInt32.toInt32), (.int (0 : Int32)), (.int (0 : Int32))] (.int (0 : Int32)) := Arv.set Ar45 q45 S45 Nn45 Hh45 G45 (fits_nar_char _) W46 1 rfl (Nat.le_of_ble_eq_true rfl)
  obtain ⟨cl49, Ar49, q49, S49, Nn49, Hh49, G49⟩ := id V46
  have hin49 : ¬ ((2 : Int32) < 0 ∨ cl49.slots.size ≤ ((2 : Int32)).toNatClampNeg) := inb_of S49 ⟨by decide, by decide⟩
  obtain ⟨T50, h50, X50, e50, W50, st50⟩ := stC X46 hx hZ e46 Ar49 (j := (2 : Int32)) hin49 (g := (mkF m 53 #[.val (.int (2 : Int32)), .val (.int p1), .val (.int p2), .val (.int p3), .val (.int p4), .val (.ref b5), .val (.ref b12), .val (.ref b23), .unset] [(.int p3), (.int (2 : Int32)), (.ref b38), (.ref b38)])) rfl rfl (hb hby d1_53)
  have N50 := Fr.snoc X50 N46 g_b38
  have K51 : Keep h0 h50 [] := K47.wr W50 (Or.inr sz_b38)
  have O52 : Old Z n0 h50 := O48.wr W50 g_b38
  have V50 : Arv Z h50 b38 k38 .char (4 : Int32) [(.int p1.toUInt32.toUInt16.toUInt32.toInt32), (.int p2.toUInt32.toUInt16.toUInt32.toInt32), (.int p3.toUInt32.toUInt16.toUInt32.toInt32), (.int (0 : Int32))] (.int (0 : Int32)) := Arv.set Ar49 q49 S49 Nn49 Hh49 G49 (fits_nar_char _) W50 2 rfl (Nat.le_of_ble_eq_true rfl)
  obtain ⟨cl53, Ar53, q53, S53, Nn53, Hh53, G53⟩ := id V50
  have hin53 : ¬ ((3 : Int32) < 0 ∨ cl53.slots.size ≤ ((3 : Int32)).toNatClampNeg) := inb_of S53 ⟨by decide, by decide⟩
  obtain ⟨T54, h54, X54, e54, W54, st54⟩ := stC X50 hx hZ e50 Ar53 (j := (3 : Int32)) hin53 (g := (mkF m 58 #[.val (.int (2 : Int32)), .val (.int p1), .val (.int p2), .val (.int p3), .val (.int p4), .val (.ref b5), .val (.ref b12), .val (.ref b23), .unset] [(.int p4), (.int (3 : Int32)), (.ref b38), (.ref b38)])) rfl rfl (hb hby d1_58)
  have N54 := Fr.snoc X54 N50 g_b38
  have K55 : Keep h0 h54 [] := K51.wr W54 (Or.inr sz_b38)
  have O56 : Old Z n0 h54 := O52.wr W54 g_b38
  have V54 : Arv Z h54 b38 k38 .char (4 : Int32) [(.int p1.toUInt32.toUInt16.toUInt32.toInt32), (.int p2.toUInt32.toUInt16.toUInt32.toInt32), (.int p3.toUInt32.toUInt16.toUInt32.toInt32), (.int p4.toUInt32.toUInt16.toUInt32.toInt32)] (.int (0 : Int32)) := Arv.set Ar53 q53 S53 Nn53 Hh53 G53 (fits_nar_char _) W54 3 rfl (Nat.le_of_ble_eq_true rfl)
  obtain ⟨T57, h57, X57, e57, E57, A57, D57, -, st57⟩ := newO X54 hx hZ hown (hw _ (List.mem_of_getElem? (i := 5) rfl)) (hw _ (List.mem_of_getElem? (i := 6) rfl)) (hw _ (List.mem_of_getElem? (i := 7) rfl)) e54 (g := (mkF m 81 #[.val (.int (2 : Int32)), .val (.int p1), .val (.int p2), .val (.int p3), .val (.int p4), .val (.ref b5), .val (.ref b12), .val (.ref b23), .val (.ref b38)] [])) rfl (hb hby d1_81) (by decide) (by decide)
  obtain ⟨b57, g57⟩ : ∃ z, z = h54.size := ⟨_, rfl⟩
  rw [← g57] at A57 D57 st57
  have g_b57 : n0 ≤ b57 := Nat.le_trans (Nat.le_trans Z0 K55.1) (Nat.le_of_eq g57.symm)
  have sz_b57 : h0.size ≤ b57 := Nat.le_trans K55.1 (Nat.le_of_eq g57.symm)
  have K58 : Keep h0 h57 [] := K55.ext E57
  have O59 : Old Z n0 h57 := O56.ext E57
  have F_coder_b57 : Fld Z h57 b57 "java/lang/String" "coder" "B" (.int (0 : Int32)) := D57 (Or.inr (hw _ (List.mem_of_getElem? (i := 31) rfl))) (ty := .byte) (by decide)
  have F_value_b57 : Fld Z h57 b57 "java/lang/String" "value" "[B" .null := D57 (Or.inr (hw _ (List.mem_of_getElem? (i := 33) rfl))) (ty := (.array .byte)) (by decide)
  replace X57 := X57.more (cells' := 5) (slots' := 14) (by decide) (by decide)
  have f61 := ((((((((((V20.ext E23).other W27 (Nat.ne_of_lt (Nat.lt_of_lt_of_le (Nat.lt_of_lt_of_le V12.lt (Nat.le_trans (Keep.of_wr W16).1 (Keep.of_wr W20).1)) (Nat.le_of_eq g23.symm)))).other W31 (Nat.ne_of_lt (Nat.lt_of_lt_of_le (Nat.lt_of_lt_of_le V12.lt (Nat.le_trans (Keep.of_wr W16).1 (Keep.of_wr W20).1)) (Nat.le_of_eq g23.symm)))).other W35 (Nat.ne_of_lt (Nat.lt_of_lt_of_le (Nat.lt_of_lt_of_le V12.lt (Nat.le_trans (Keep.of_wr W16).1 (Keep.of_wr W20).1)) (Nat.le_of_eq g23.symm)))).ext E38).other W42 (Nat.ne_of_lt (Nat.lt_of_lt_of_le (Nat.lt_of_lt_of_le V12.lt (Nat.le_trans (Nat.le_trans (Nat.le_trans (Nat.le_trans (Nat.le_trans (Keep.of_wr W16).1 (Keep.of_wr W20).1) E23.1) (Keep.of_wr W27).1) (Keep.of_wr W31).1) (Keep.of_wr W35).1)) (Nat.le_of_eq g38.symm)))).other W46 (Nat.ne_of_lt (Nat.lt_of_lt_of_le (Nat.lt_of_lt_of_le V12.lt (Nat.le_trans (Nat.le_trans (Nat.le_trans (Nat.le_trans (Nat.le_trans (Keep.of_wr W16).1 (Keep.of_wr W20).1) E23.1) (Keep.of_wr W27).1) (Keep.of_wr W31).1) (Keep.of_wr W35).1)) (Nat.le_of_eq g38.symm)))).other W50 (Nat.ne_of_lt (Nat.lt_of_lt_of_le (Nat.lt_of_lt_of_le V12.lt (Nat.le_trans (Nat.le_trans (Nat.le_trans (Nat.le_trans (Nat.le_trans (Keep.of_wr W16).1 (Keep.of_wr W20).1) E23.1) (Keep.of_wr W27).1) (Keep.of_wr W31).1) (Keep.of_wr W35).1)) (Nat.le_of_eq g38.symm)))).other W54 (Nat.ne_of_lt (Nat.lt_of_lt_of_le (Nat.lt_of_lt_of_le V12.lt (Nat.le_trans (Nat.le_trans (Nat.le_trans (Nat.le_trans (Nat.le_trans (Keep.of_wr W16).1 (Keep.of_wr W20).1) E23.1) (Keep.of_wr W27).1) (Keep.of_wr W31).1) (Keep.of_wr W35).1)) (Nat.le_of_eq g38.symm)))).ext E57)
  obtain ⟨vr62, _, ⟨T62, L62, k62, n62⟩, -, X62, ⟨Lc62, hQ62, l62, y62, z62⟩, st62⟩ := X57.specialBack hx (y := (⟨"java/lang/String", "<init>", "([C)V"⟩ : MethodName)) rfl hown (mvT hZ (hw _ (List.mem_of_getElem? (i := 8) rfl))) (mvT hZ (hw _ (List.mem_of_getElem? (i := 9) rfl))) (mvT hZ (hw _ (List.mem_of_getElem? (i := 10) rfl))) (by decide) (StrChars.Road.backV (W := 1) hZ (fun d hd => hw d (own_in_words d hd)) (kI := 4) (hw _ (List.mem_of_getElem? (i := 6) rfl)) (cs := [p1.toUInt32.toUInt16.toUInt32.toInt32, p2.toUInt32.toUInt16.toUInt32.toInt32]) (bs := ([p1.toUInt32.toUInt16.toUInt32.toInt32, p2.toUInt32.toUInt16.toUInt32.toInt32] : List Int32).map (fun c => c.toInt8.toInt32)) (n := 2) g_b57 (Nat.le_trans Z0 K58.1) A57 F_value_b57 F_coder_b57 f61 (S_COMPACT_STRINGS.ext O59.2) hzcs rfl rfl (by decide) (by decide) hch87 rfl (by decide) (by decide)) (g := (mkF m 87 #[.val (.int (2 : Int32)), .val (.int p1), .val (.int p2), .val (.int p3), .val (.int p4), .val (.ref b5), .val (.ref b12), .val (.ref b23), .val (.ref b38)] [(.ref b12), (.ref b57), (.ref b57)])) rfl (by rw [hml]; rfl) (Steps.refl _) (a := b57) (argsL := [(.ref b12)]) (rest := [(.ref b57)]) (lenOf pd_15 rfl) rfl (by show 2 * 0 + _ ≤ _; exact Nat.le_of_eq rfl) (hb hby d1_87) (fun _ _ => ⟨rfl, e57, (by decide : 5 + 1 ≤ _), (by decide : 14 + 2 ≤ _)⟩)
  dsimp only [Pt.U, Pt.locs, Pt.cells, Pt.slots] at X62 l62 y62 z62 st62 hQ62
  subst l62 y62 z62
  obtain ⟨rfl, N62q, K62, sE62, sC62, st62_t, sk62, -, sz62, -, sV62, sA62⟩ := hQ62
  have N62 := Fr.app N54 N62q
  replace X62 := X62.more (cells' := 6) (slots' := 16) (by decide) (by decide)
  have K63 : Keep h0 T62.heap [] := K58.trans K62 (allS (Or.inr sz_b57) all0)
  have O64 : Old Z n0 T62.heap := O59.keep K62 (allS g_b57 all0)
  have tS62 : own_Str Z T62.heap T62.heap.size b57 [p1.toUInt32.toUInt16.toUInt32.toInt32, p2.toUInt32.toUInt16.toUInt32.toInt32] := ⟨⟨sE62.lt, Nat.le_of_ble_eq_true rfl, hch87⟩, st62_t, sk62, sA62.lt, sE62, sV62, sC62, sA62⟩
  obtain ⟨fs, hr, hrun, hended, hW, hsame⟩ := X62.leave (v := some (.ref b57)) (fun h => by rw [Bd.returns] at h; cases h)
  refine ⟨_, _, pre0 _ ?_, hrun, hended, _, _, rfl, ?_, ⟨_, rfl⟩, hW, hsame.mono (by decide) (by decide)⟩
  · show Steps p.tables e below (s₁.setTop (mkF m 0 #[.val (.int (2 : Int32)), .val (.int p1), .val (.int p2), .val (.int p3), .val (.int p4), .unset, .unset, .unset, .unset] [])) _
    refine XS.iconst X0.here hx rfl (hb hby d1_0) ?_
    show Steps p.tables e below (s₁.setTop (mkF m 1 #[.val (.int (2 : Int32)), .val (.int p1), .val (.int p2), .val (.int p3), .val (.int p4), .unset, .unset, .unset, .unset] [(.int (1 : Int32))])) _
    refine st5 _ ?_
    show Steps p.tables e below (T5.setTop (mkF m 3 #[.val (.int (2 : Int32)), .val (.int p1), .val (.int p2), .val (.int p3), .val (.int p4), .unset, .unset, .unset, .unset] [(.ref b5)])) _
    refine XS.dup X5.here hx rfl (hb hby d1_3) rfl rfl ?_
    show Steps p.tables e below (T5.setTop (mkF m 4 #[.val (.int (2 : Int32)), .val (.int p1), .val (.int p2), .val (.int p3), .val (.int p4), .unset, .unset, .unset, .unset] [(.ref b5), (.ref b5)])) _
    refine XS.iconst X5.here hx rfl (hb hby d1_4) ?_
    show Steps p.tables e below (T5.setTop (mkF m 5 #[.val (.int (2 : Int32)), .val (.int p1), .val (.int p2), .val (.int p3), .val (.int p4), .unset, .unset, .unset, .unset] [(.int (0 : Int32)), (.ref b5), (.ref b5)])) _
    refine XS.iloadN X5.here hx rfl (hb hby d1_5) rfl ?_
    show Steps p.tables e below (T5.setTop (mkF m 6 #[.val (.int (2 : Int32)), .val (.int p1), .val (.int p2), .val (.int p3), .val (.int p4), .unset, .unset, .unset, .unset] [(.int p1), (.int (0 : Int32)), (.ref b5), (.ref b5)])) _
    refine st9 _ ?_
    show Steps p.tables e below (T9.setTop (mkF m 7 #[.val (.int (2 : Int32)), .val (.int p1), .val (.int p2), .val (.int p3), .val (.int p4), .unset, .unset, .unset, .unset] [(.ref b5)])) _
    refine XS.astore X9.here hx rfl (hb hby d1_7) rfl rfl (l' := #[.val (.int (2 : Int32)), .val (.int p1), .val (.int p2), .val (.int p3), .val (.int p4), .val (.ref b5), .unset, .unset, .unset]) rfl ?_
    show Steps p.tables e below (T9.setTop (mkF m 9 #[.val (.int (2 : Int32)), .val (.int p1), .val (.int p2), .val (.int p3), .val (.int p4), .val (.ref b5), .unset, .unset, .unset] [])) _
    refine XS.iconst X9.here hx rfl (hb hby d1_9) ?_
    show Steps p.tables e below (T9.setTop (mkF m 10 #[.val (.int (2 : Int32)), .val (.int p1), .val (.int p2), .val (.int p3), .val (.int p4), .val (.ref b5), .unset, .unset, .unset] [(.int (2 : Int32))])) _
    refine st12 _ ?_
    show Steps p.tables e below (T12.setTop (mkF m 12 #[.val (.int (2 : Int32)), .val (.int p1), .val (.int p2), .val (.int p3), .val (.int p4), .val (.ref b5), .unset, .unset, .unset] [(.ref b12)])) _
    refine XS.dup X12.here hx rfl (hb hby d1_12) rfl rfl ?_
    show Steps p.tables e below (T12.setTop (mkF m 13 #[.val (.int (2 : Int32)), .val (.int p1), .val (.int p2), .val (.int p3), .val (.int p4), .val (.ref b5), .unset, .unset, .unset] [(.ref b12), (.ref b12)])) _
    refine XS.iconst X12.here hx rfl (hb hby d1_13) ?_
    show Steps p.tables e below (T12.setTop (mkF m 14 #[.val (.int (2 : Int32)), .val (.int p1), .val (.int p2), .val (.int p3), .val (.int p4), .val (.ref b5), .unset, .unset, .unset] [(.int (0 : Int32)), (.ref b12), (.ref b12)])) _
    refine XS.iloadN X12.here hx rfl (hb hby d1_14) rfl ?_
    show Steps p.tables e below (T12.setTop (mkF m 15 #[.val (.int (2 : Int32)), .val (.int p1), .val (.int p2), .val (.int p3), .val (.int p4), .val (.ref b5), .unset, .unset, .unset] [(.int p1), (.int (0 : Int32)), (.ref b12), (.ref b12)])) _
    refine st16 _ ?_
    show Steps p.tables e below (T16.setTop (mkF m 16 #[.val (.int (2 : Int32)), .val (.int p1), .val (.int p2), .val (.int p3), .val (.int p4), .val (.ref b5), .unset, .unset, .unset] [(.ref b12)])) _
    refine XS.dup X16.here hx rfl (hb hby d1_16) rfl rfl ?_
    show Steps p.tables e below (T16.setTop (mkF m 17 #[.val (.int (2 : Int32)), .val (.int p1), .val (.int p2), .val (.int p3), .val (.int p4), .val (.ref b5), .unset, .unset, .unset] [(.ref b12), (.ref b12)])) _
    refine XS.iconst X16.here hx rfl (hb hby d1_17) ?_
    show Steps p.tables e below (T16.setTop (mkF m 18 #[.val (.int (2 : Int32)), .val (.int p1), .val (.int p2), .val (.int p3), .val (.int p4), .val (.ref b5), .unset, .unset, .unset] [(.int (1 : Int32)), (.ref b12), (.ref b12)])) _
    refine XS.iloadN X16.here hx rfl (hb hby d1_18) rfl ?_
    show Steps p.tables e below (T16.setTop (mkF m 19 #[.val (.int (2 : Int32)), .val (.int p1), .val (.int p2), .val (.int p3), .val (.int p4), .val (.ref b5), .unset, .unset, .unset] [(.int p2), (.int (1 : Int32)), (.ref b12), (.ref b12)])) _
    refine st20 _ ?_
    show Steps p.tables e below (T20.setTop (mkF m 20 #[.val (.int (2 : Int32)), .val (.int p1), .val (.int p2), .val (.int p3), .val (.int p4), .val (.ref b5), .unset, .unset, .unset] [(.ref b12)])) _
    refine XS.astore X20.here hx rfl (hb hby d1_20) rfl rfl (l' := #[.val (.int (2 : Int32)), .val (.int p1), .val (.int p2), .val (.int p3), .val (.int p4), .val (.ref b5), .val (.ref b12), .unset, .unset]) rfl ?_
    show Steps p.tables e below (T20.setTop (mkF m 22 #[.val (.int (2 : Int32)), .val (.int p1), .val (.int p2), .val (.int p3), .val (.int p4), .val (.ref b5), .val (.ref b12), .unset, .unset] [])) _
    refine XS.iconst X20.here hx rfl (hb hby d1_22) ?_
    show Steps p.tables e below (T20.setTop (mkF m 23 #[.val (.int (2 : Int32)), .val (.int p1), .val (.int p2), .val (.int p3), .val (.int p4), .val (.ref b5), .val (.ref b12), .unset, .unset] [(.int (3 : Int32))])) _
    refine st23 _ ?_
    show Steps p.tables e below (T23.setTop (mkF m 25 #[.val (.int (2 : Int32)), .val (.int p1), .val (.int p2), .val (.int p3), .val (.int p4), .val (.ref b5), .val (.ref b12), .unset, .unset] [(.ref b23)])) _
    refine XS.dup X23.here hx rfl (hb hby d1_25) rfl rfl ?_
    show Steps p.tables e below (T23.setTop (mkF m 26 #[.val (.int (2 : Int32)), .val (.int p1), .val (.int p2), .val (.int p3), .val (.int p4), .val (.ref b5), .val (.ref b12), .unset, .unset] [(.ref b23), (.ref b23)])) _
    refine XS.iconst X23.here hx rfl (hb hby d1_26) ?_
    show Steps p.tables e below (T23.setTop (mkF m 27 #[.val (.int (2 : Int32)), .val (.int p1), .val (.int p2), .val (.int p3), .val (.int p4), .val (.ref b5), .val (.ref b12), .unset, .unset] [(.int (0 : Int32)), (.ref b23), (.ref b23)])) _
    refine XS.iloadN X23.here hx rfl (hb hby d1_27) rfl ?_
    show Steps p.tables e below (T23.setTop (mkF m 28 #[.val (.int (2 : Int32)), .val (.int p1), .val (.int p2), .val (.int p3), .val (.int p4), .val (.ref b5), .val (.ref b12), .unset, .unset] [(.int p1), (.int (0 : Int32)), (.ref b23), (.ref b23)])) _
    refine st27 _ ?_
    show Steps p.tables e below (T27.setTop (mkF m 29 #[.val (.int (2 : Int32)), .val (.int p1), .val (.int p2), .val (.int p3), .val (.int p4), .val (.ref b5), .val (.ref b12), .unset, .unset] [(.ref b23)])) _
    refine XS.dup X27.here hx rfl (hb hby d1_29) rfl rfl ?_
    show Steps p.tables e below (T27.setTop (mkF m 30 #[.val (.int (2 : Int32)), .val (.int p1), .val (.int p2), .val (.int p3), .val (.int p4), .val (.ref b5), .val (.ref b12), .unset, .unset] [(.ref b23), (.ref b23)])) _
    refine XS.iconst X27.here hx rfl (hb hby d1_30) ?_
    show Steps p.tables e below (T27.setTop (mkF m 31 #[.val (.int (2 : Int32)), .val (.int p1), .val (.int p2), .val (.int p3), .val (.int p4), .val (.ref b5), .val (.ref b12), .unset, .unset] [(.int (1 : Int32)), (.ref b23), (.ref b23)])) _
    refine XS.iloadN X27.here hx rfl (hb hby d1_31) rfl ?_
    show Steps p.tables e below (T27.setTop (mkF m 32 #[.val (.int (2 : Int32)), .val (.int p1), .val (.int p2), .val (.int p3), .val (.int p4), .val (.ref b5), .val (.ref b12), .unset, .unset] [(.int p2), (.int (1 : Int32)), (.ref b23), (.ref b23)])) _
    refine st31 _ ?_
    show Steps p.tables e below (T31.setTop (mkF m 33 #[.val (.int (2 : Int32)), .val (.int p1), .val (.int p2), .val (.int p3), .val (.int p4), .val (.ref b5), .val (.ref b12), .unset, .unset] [(.ref b23)])) _
    refine XS.dup X31.here hx rfl (hb hby d1_33) rfl rfl ?_
    show Steps p.tables e below (T31.setTop (mkF m 34 #[.val (.int (2 : Int32)), .val (.int p1), .val (.int p2), .val (.int p3), .val (.int p4), .val (.ref b5), .val (.ref b12), .unset, .unset] [(.ref b23), (.ref b23)])) _
    refine XS.iconst X31.here hx rfl (hb hby d1_34) ?_
    show Steps p.tables e below (T31.setTop (mkF m 35 #[.val (.int (2 : Int32)), .val (.int p1), .val (.int p2), .val (.int p3), .val (.int p4), .val (.ref b5), .val (.ref b12), .unset, .unset] [(.int (2 : Int32)), (.ref b23), (.ref b23)])) _
    refine XS.iloadN X31.here hx rfl (hb hby d1_35) rfl ?_
    show Steps p.tables e below (T31.setTop (mkF m 36 #[.val (.int (2 : Int32)), .val (.int p1), .val (.int p2), .val (.int p3), .val (.int p4), .val (.ref b5), .val (.ref b12), .unset, .unset] [(.int p3), (.int (2 : Int32)), (.ref b23), (.ref b23)])) _
    refine st35 _ ?_
    show Steps p.tables e below (T35.setTop (mkF m 37 #[.val (.int (2 : Int32)), .val (.int p1), .val (.int p2), .val (.int p3), .val (.int p4), .val (.ref b5), .val (.ref b12), .unset, .unset] [(.ref b23)])) _
    refine XS.astore X35.here hx rfl (hb hby d1_37) rfl rfl (l' := #[.val (.int (2 : Int32)), .val (.int p1), .val (.int p2), .val (.int p3), .val (.int p4), .val (.ref b5), .val (.ref b12), .val (.ref b23), .unset]) rfl ?_
    show Steps p.tables e below (T35.setTop (mkF m 39 #[.val (.int (2 : Int32)), .val (.int p1), .val (.int p2), .val (.int p3), .val (.int p4), .val (.ref b5), .val (.ref b12), .val (.ref b23), .unset] [])) _
    refine XS.iconst X35.here hx rfl (hb hby d1_39) ?_
    show Steps p.tables e below (T35.setTop (mkF m 40 #[.val (.int (2 : Int32)), .val (.int p1), .val (.int p2), .val (.int p3), .val (.int p4), .val (.ref b5), .val (.ref b12), .val (.ref b23), .unset] [(.int (4 : Int32))])) _
    refine st38 _ ?_
    show Steps p.tables e below (T38.setTop (mkF m 42 #[.val (.int (2 : Int32)), .val (.int p1), .val (.int p2), .val (.int p3), .val (.int p4), .val (.ref b5), .val (.ref b12), .val (.ref b23), .unset] [(.ref b38)])) _
    refine XS.dup X38.here hx rfl (hb hby d1_42) rfl rfl ?_
    show Steps p.tables e below (T38.setTop (mkF m 43 #[.val (.int (2 : Int32)), .val (.int p1), .val (.int p2), .val (.int p3), .val (.int p4), .val (.ref b5), .val (.ref b12), .val (.ref b23), .unset] [(.ref b38), (.ref b38)])) _
    refine XS.iconst X38.here hx rfl (hb hby d1_43) ?_
    show Steps p.tables e below (T38.setTop (mkF m 44 #[.val (.int (2 : Int32)), .val (.int p1), .val (.int p2), .val (.int p3), .val (.int p4), .val (.ref b5), .val (.ref b12), .val (.ref b23), .unset] [(.int (0 : Int32)), (.ref b38), (.ref b38)])) _
    refine XS.iloadN X38.here hx rfl (hb hby d1_44) rfl ?_
    show Steps p.tables e below (T38.setTop (mkF m 45 #[.val (.int (2 : Int32)), .val (.int p1), .val (.int p2), .val (.int p3), .val (.int p4), .val (.ref b5), .val (.ref b12), .val (.ref b23), .unset] [(.int p1), (.int (0 : Int32)), (.ref b38), (.ref b38)])) _
    refine st42 _ ?_
    show Steps p.tables e below (T42.setTop (mkF m 46 #[.val (.int (2 : Int32)), .val (.int p1), .val (.int p2), .val (.int p3), .val (.int p4), .val (.ref b5), .val (.ref b12), .val (.ref b23), .unset] [(.ref b38)])) _
    refine XS.dup X42.here hx rfl (hb hby d1_46) rfl rfl ?_
    show Steps p.tables e below (T42.setTop (mkF m 47 #[.val (.int (2 : Int32)), .val (.int p1), .val (.int p2), .val (.int p3), .val (.int p4), .val (.ref b5), .val (.ref b12), .val (.ref b23), .unset] [(.ref b38), (.ref b38)])) _
    refine XS.iconst X42.here hx rfl (hb hby d1_47) ?_
    show Steps p.tables e below (T42.setTop (mkF m 48 #[.val (.int (2 : Int32)), .val (.int p1), .val (.int p2), .val (.int p3), .val (.int p4), .val (.ref b5), .val (.ref b12), .val (.ref b23), .unset] [(.int (1 : Int32)), (.ref b38), (.ref b38)])) _
    refine XS.iloadN X42.here hx rfl (hb hby d1_48) rfl ?_
    show Steps p.tables e below (T42.setTop (mkF m 49 #[.val (.int (2 : Int32)), .val (.int p1), .val (.int p2), .val (.int p3), .val (.int p4), .val (.ref b5), .val (.ref b12), .val (.ref b23), .unset] [(.int p2), (.int (1 : Int32)), (.ref b38), (.ref b38)])) _
    refine st46 _ ?_
    show Steps p.tables e below (T46.setTop (mkF m 50 #[.val (.int (2 : Int32)), .val (.int p1), .val (.int p2), .val (.int p3), .val (.int p4), .val (.ref b5), .val (.ref b12), .val (.ref b23), .unset] [(.ref b38)])) _
    refine XS.dup X46.here hx rfl (hb hby d1_50) rfl rfl ?_
    show Steps p.tables e below (T46.setTop (mkF m 51 #[.val (.int (2 : Int32)), .val (.int p1), .val (.int p2), .val (.int p3), .val (.int p4), .val (.ref b5), .val (.ref b12), .val (.ref b23), .unset] [(.ref b38), (.ref b38)])) _
    refine XS.iconst X46.here hx rfl (hb hby d1_51) ?_
    show Steps p.tables e below (T46.setTop (mkF m 52 #[.val (.int (2 : Int32)), .val (.int p1), .val (.int p2), .val (.int p3), .val (.int p4), .val (.ref b5), .val (.ref b12), .val (.ref b23), .unset] [(.int (2 : Int32)), (.ref b38), (.ref b38)])) _
    refine XS.iloadN X46.here hx rfl (hb hby d1_52) rfl ?_
    show Steps p.tables e below (T46.setTop (mkF m 53 #[.val (.int (2 : Int32)), .val (.int p1), .val (.int p2), .val (.int p3), .val (.int p4), .val (.ref b5), .val (.ref b12), .val (.ref b23), .unset] [(.int p3), (.int (2 : Int32)), (.ref b38), (.ref b38)])) _
    refine st50 _ ?_
    show Steps p.tables e below (T50.setTop (mkF m 54 #[.val (.int (2 : Int32)), .val (.int p1), .val (.int p2), .val (.int p3), .val (.int p4), .val (.ref b5), .val (.ref b12), .val (.ref b23), .unset] [(.ref b38)])) _
    refine XS.dup X50.here hx rfl (hb hby d1_54) rfl rfl ?_
    show Steps p.tables e below (T50.setTop (mkF m 55 #[.val (.int (2 : Int32)), .val (.int p1), .val (.int p2), .val (.int p3), .val (.int p4), .val (.ref b5), .val (.ref b12), .val (.ref b23), .unset] [(.ref b38), (.ref b38)])) _
    refine XS.iconst X50.here hx rfl (hb hby d1_55) ?_
    show Steps p.tables e below (T50.setTop (mkF m 56 #[.val (.int (2 : Int32)), .val (.int p1), .val (.int p2), .val (.int p3), .val (.int p4), .val (.ref b5), .val (.ref b12), .val (.ref b23), .unset] [(.int (3 : Int32)), (.ref b38), (.ref b38)])) _
    refine XS.iload X50.here hx rfl (hb hby d1_56) rfl ?_
    show Steps p.tables e below (T50.setTop (mkF m 58 #[.val (.int (2 : Int32)), .val (.int p1), .val (.int p2), .val (.int p3), .val (.int p4), .val (.ref b5), .val (.ref b12), .val (.ref b23), .unset] [(.int p4), (.int (3 : Int32)), (.ref b38), (.ref b38)])) _
    refine st54 _ ?_
    show Steps p.tables e below (T54.setTop (mkF m 59 #[.val (.int (2 : Int32)), .val (.int p1), .val (.int p2), .val (.int p3), .val (.int p4), .val (.ref b5), .val (.ref b12), .val (.ref b23), .unset] [(.ref b38)])) _
    refine XS.astore X54.here hx rfl (hb hby d1_59) rfl rfl (l' := #[.val (.int (2 : Int32)), .val (.int p1), .val (.int p2), .val (.int p3), .val (.int p4), .val (.ref b5), .val (.ref b12), .val (.ref b23), .val (.ref b38)]) rfl ?_
    show Steps p.tables e below (T54.setTop (mkF m 61 #[.val (.int (2 : Int32)), .val (.int p1), .val (.int p2), .val (.int p3), .val (.int p4), .val (.ref b5), .val (.ref b12), .val (.ref b23), .val (.ref b38)] [])) _
    refine XS.iloadN X54.here hx rfl (hb hby d1_61) rfl ?_
    show Steps p.tables e below (T54.setTop (mkF m 62 #[.val (.int (2 : Int32)), .val (.int p1), .val (.int p2), .val (.int p3), .val (.int p4), .val (.ref b5), .val (.ref b12), .val (.ref b23), .val (.ref b38)] [(.int (2 : Int32))])) _
    refine XS.iconst X54.here hx rfl (hb hby d1_62) ?_
    show Steps p.tables e below (T54.setTop (mkF m 63 #[.val (.int (2 : Int32)), .val (.int p1), .val (.int p2), .val (.int p3), .val (.int p4), .val (.ref b5), .val (.ref b12), .val (.ref b23), .val (.ref b38)] [(.int (1 : Int32)), (.int (2 : Int32))])) _
    refine XS.icmpYes X54.here hx rfl (pc0 := 63) (pc' := 76) rfl (hb hby d1_63) rfl (feq (by decide : ¬ ((2 : Int32) = (1 : Int32)))).2 (by decide) (by decide) ?_
    show Steps p.tables e below (T54.setTop (mkF m 76 #[.val (.int (2 : Int32)), .val (.int p1), .val (.int p2), .val (.int p3), .val (.int p4), .val (.ref b5), .val (.ref b12), .val (.ref b23), .val (.ref b38)] [])) _
    refine XS.iloadN X54.here hx rfl (hb hby d1_76) rfl ?_
    show Steps p.tables e below (T54.setTop (mkF m 77 #[.val (.int (2 : Int32)), .val (.int p1), .val (.int p2), .val (.int p3), .val (.int p4), .val (.ref b5), .val (.ref b12), .val (.ref b23), .val (.ref b38)] [(.int (2 : Int32))])) _
    refine XS.iconst X54.here hx rfl (hb hby d1_77) ?_
    show Steps p.tables e below (T54.setTop (mkF m 78 #[.val (.int (2 : Int32)), .val (.int p1), .val (.int p2), .val (.int p3), .val (.int p4), .val (.ref b5), .val (.ref b12), .val (.ref b23), .val (.ref b38)] [(.int (2 : Int32)), (.int (2 : Int32))])) _
    refine XS.icmpNo X54.here hx rfl (hb hby d1_78) rfl (teq (by decide : (2 : Int32) = (2 : Int32))).2 ?_
    show Steps p.tables e below (T54.setTop (mkF m 81 #[.val (.int (2 : Int32)), .val (.int p1), .val (.int p2), .val (.int p3), .val (.int p4), .val (.ref b5), .val (.ref b12), .val (.ref b23), .val (.ref b38)] [])) _
    refine st57 _ ?_
    show Steps p.tables e below (T57.setTop (mkF m 84 #[.val (.int (2 : Int32)), .val (.int p1), .val (.int p2), .val (.int p3), .val (.int p4), .val (.ref b5), .val (.ref b12), .val (.ref b23), .val (.ref b38)] [(.ref b57)])) _
    refine XS.dup X57.here hx rfl (hb hby d1_84) rfl rfl ?_
    show Steps p.tables e below (T57.setTop (mkF m 85 #[.val (.int (2 : Int32)), .val (.int p1), .val (.int p2), .val (.int p3), .val (.int p4), .val (.ref b5), .val (.ref b12), .val (.ref b23), .val (.ref b38)] [(.ref b57), (.ref b57)])) _
    refine XS.aload X57.here hx rfl (hb hby d1_85) rfl rfl ?_
    show Steps p.tables e below (T57.setTop (mkF m 87 #[.val (.int (2 : Int32)), .val (.int p1), .val (.int p2), .val (.int p3), .val (.int p4), .val (.ref b5), .val (.ref b12), .val (.ref b23), .val (.ref b38)] [(.ref b12), (.ref b57), (.ref b57)])) _
    refine st62.trans ?_
    show Steps p.tables e below (T62.setTop (mkF m 90 #[.val (.int (2 : Int32)), .val (.int p1), .val (.int p2), .val (.int p3), .val (.int p4), .val (.ref b5), .val (.ref b12), .val (.ref b23), .val (.ref b38)] [(.ref b57)])) _
    exact own_retR X62 hx Bd.returns rfl rfl (hb hby d1_90) hr
  · show Q1n2 Z p1 p2 p3 p4 w60 h0 n0 _ T62.heap _
    exact ⟨b57, rfl, N62, K63, sz_b57, (own_Str.exa tS62), (own_Str.top tS62)⟩
theorem d1_91 : decode method_2_code 91 = .ok (.iload_n 0, 1) := by decide +kernel
theorem d1_92 : decode method_2_code 92 = .ok (.iconst 3, 1) := by decide +kernel
theorem d1_93 : decode method_2_code 93 = .ok (.if_icmp .ne 13, 3) := by decide +kernel
theorem d1_96 : decode method_2_code 96 = .ok (.new 7, 3) := by decide +kernel
theorem d1_99 : decode method_2_code 99 = .ok (.dup, 1) := by decide +kernel
theorem d1_100 : decode method_2_code 100 = .ok (.aload 7, 2) := by decide +kernel
theorem d1_102 : decode method_2_code 102 = .ok (.invokespecial 9, 3) := by decide +kernel
theorem d1_105 : decode method_2_code 105 = .ok (.areturn, 1) := by decide +kernel
def Q1n3 (Z : State) (p1 p2 p3 p4 w60 : Int32) (h0 : Heap) (n0 : Nat) (v : Option Value) (h : Heap) (L : List Loc) : Prop := ∃ b57 : Addr, v = some (.ref b57) ∧ Fr n0 L ∧ Keep h0 h [] ∧ h0.size ≤ b57 ∧ Exa Z h b57 "java/lang/String" ∧ own_Str Z h h.size b57 [p1.toUInt32.toUInt16.toUInt32.toInt32, p2.toUInt32.toUInt16.toUInt32.toInt32, p3.toUInt32.toUInt16.toUInt32.toInt32]
theorem ef_1__3___Int32__aaaa (m : MethodId) (x1 : Int32) (x2 : Int32) (x3 : Int32) (x4 : Int32) : entryFrame m #[(.int (3 : Int32)), (.int x1), (.int x2), (.int x3), (.int x4)] 9 = mkF m 0 #[.val (.int (3 : Int32)), .val (.int x1), .val (.int x2), .val (.int x3), .val (.int x4), .unset, .unset, .unset, .unset] [] := by first | (simp [entryFrame, mkF, argsToLocals, Value.category]; done) | rfl
set_option maxRecDepth 65536 in
set_option maxHeartbeats 40000000 in
theorem rm1n3 (l : Launch) (Z : State) (a0 : Array Value) (hw : ∀ d ∈ tables_1, d.before a0 Z = true) (ws : List Jvm.Cond) (p1 p2 p3 p4 w60 : Int32) (h0 : Heap) (n0 : Nat) (O0 : Old Z n0 h0) (S_COMPACT_STRINGS : Sta Z Z.heap "java/lang/String" "COMPACT_STRINGS" "Z" (.int w60)) (hzcs : ¬ (w60 = (0 : Int32))) (hch102 : ∀ c ∈ ([p1.toUInt32.toUInt16.toUInt32.toInt32, p2.toUInt32.toUInt16.toUInt32.toInt32, p3.toUInt32.toUInt16.toUInt32.toInt32] : List Int32), ¬ c < 0 ∧ ¬ (255 : Int32) < c) :
    MetFree l (⟨"com/example/wattle/wattle/FigureUnreadablePinLaw", "text", "(ICCCC)Ljava/lang/String;"⟩ : MethodName) (head1 (Jvm.Cond.code (⟨"com/example/wattle/wattle/FigureUnreadablePinLaw", "text", "(ICCCC)Ljava/lang/String;"⟩ : MethodName) method_2_code 9 (some (.object "java/lang/String")) :: ws) ({ frames := 4, cells := 6, slots := 17, locals := 66 } : Room)) (fun a U => a = #[(.int (3 : Int32)), (.int p1), (.int p2), (.int p3), (.int p4)] ∧ Z.Warmed39 U.vm ∧ U.heap = h0) (fun _ _ _ _ _ => True) (fun _ U o U' => ∃ v L, o = .returned v ∧ Q1n3 Z p1 p2 p3 p4 w60 h0 n0 v U'.heap L ∧ FrameEnd U o U' L ({ frames := 4, cells := 6, slots := 17, locals := 66 } : Room).cells ({ frames := 4, cells := 6, slots := 17, locals := 66 } : Room).slots) := by
  refine MetFree.of_bodySF (plainFor_of_name pnc_com_example_wattle_wattle_FigureUnreadablePinLaw) hisR ?_
  intro p e s m args below meth c s₁ Bd hml0 hP hK
  obtain ⟨rfl, hZ, hh⟩ := hP
  have hx := Bd.exec
  have hby := Bd.bytes
  have hml : c.maxLocals = 9 := hml0
  have hown : s.vm.findClass "com/example/wattle/wattle/FigureUnreadablePinLaw" = some m.cls := findClass_of_methodNamed Bd.named
  have hnm := (name_of_methodNamed Bd.named Bd.method).1
  have X0 : Stand p l e ({ frames := 4, cells := 6, slots := 17, locals := 66 } : Room) s m #[(.int (3 : Int32)), (.int p1), (.int p2), (.int p3), (.int p4)] below meth c s₁ [] 0 0 := Stand.of_body Bd
  have e0 : s₁.heap = h0 := by rw [← hh, Bd.state]; rfl
  have N0 := Fr.nil n0
  have Z0 : n0 ≤ h0.size := O0.1 ▸ O0.2.1
  have pre0 : ∀ t, Steps p.tables e below (s₁.setTop (mkF m 0 #[.val (.int (3 : Int32)), .val (.int p1), .val (.int p2), .val (.int p3), .val (.int p4), .unset, .unset, .unset, .unset] [])) t → Steps p.tables e below (s₁.setTop (entryFrame m #[(.int (3 : Int32)), (.int p1), (.int p2), (.int p3), (.int p4)] 9)) t := fun t k => castTop (ef_1__3___Int32__aaaa m p1 p2 p3 p4) k
  obtain ⟨T5, h5, k5, X5, e5, E5, A5, st5⟩ := newP X0 hx hZ (hw _ (List.mem_of_getElem? (i := 4) rfl)) e0 (g := (mkF m 1 #[.val (.int (3 : Int32)), .val (.int p1), .val (.int p2), .val (.int p3), .val (.int p4), .unset, .unset, .unset, .unset] [(.int (1 : Int32))])) rfl (hb hby d1_1) rfl (by decide) (cap := 1) (by decide) (by decide) (by decide) (by decide)
  obtain ⟨b5, g5⟩ : ∃ z, z = h0.size := ⟨_, rfl⟩
  rw [← g5] at A5 st5
  have g_b5 : n0 ≤ b5 := Nat.le_trans (Nat.le_trans Z0 (Keep.refl h0 []).1) (Nat.le_of_eq g5.symm)
  have sz_b5 : h0.size ≤ b5 := Nat.le_trans (Keep.refl h0 []).1 (Nat.le_of_eq g5.symm)
  have K6 : Keep h0 h5 [] := (Keep.refl h0 []).ext E5
  have O7 : Old Z n0 h5 := O0.ext E5
  have V5 : Arv Z h5 b5 k5 .char (1 : Int32) [(.int (0 : Int32))] (.int (0 : Int32)) := (Arv.new A5 (by decide)).pad (pad_rep [] (.int (0 : Int32)) 1)
  replace X5 := X5.more (cells' := 1) (slots' := 1) (by decide) (by decide)
  obtain ⟨cl8, Ar8, q8, S8, Nn8, Hh8, G8⟩ := id V5
  have hin8 : ¬ ((0 : Int32) < 0 ∨ cl8.slots.size ≤ ((0 : Int32)).toNatClampNeg) := inb_of S8 ⟨by decide, by decide⟩
  obtain ⟨T9, h9, X9, e9, W9, st9⟩ := stC X5 hx hZ e5 Ar8 (j := (0 : Int32)) hin8 (g := (mkF m 6 #[.val (.int (3 : Int32)), .val (.int p1), .val (.int p2), .val (.int p3), .val (.int p4), .unset, .unset, .unset, .unset] [(.int p1), (.int (0 : Int32)), (.ref b5), (.ref b5)])) rfl rfl (hb hby d1_6)
  have N9 := Fr.snoc X9 N0 g_b5
  have K10 : Keep h0 h9 [] := K6.wr W9 (Or.inr sz_b5)
  have O11 : Old Z n0 h9 := O7.wr W9 g_b5
  have V9 : Arv Z h9 b5 k5 .char (1 : Int32) [(.int p1.toUInt32.toUInt16.toUInt32.toInt32)] (.int (0 : Int32)) := Arv.set Ar8 q8 S8 Nn8 Hh8 G8 (fits_nar_char _) W9 0 rfl (Nat.le_of_ble_eq_true rfl)
  obtain ⟨T12, h12, k12, X12, e12, E12, A12, st12⟩ := newP X9 hx hZ (hw _ (List.mem_of_getElem? (i := 4) rfl)) e9 (g := (mkF m 10 #[.val (.int (3 : Int32)), .val (.int p1), .val (.int p2), .val (.int p3), .val (.int p4), .val (.ref b5), .unset, .unset, .unset] [(.int (2 : Int32))])) rfl (hb hby d1_10) rfl (by decide) (cap := 2) (by decide) (by decide) (by decide) (by decide)
  obtain ⟨b12, g12⟩ : ∃ z, z = h9.size := ⟨_, rfl⟩
  rw [← g12] at A12 st12
  have g_b12 : n0 ≤ b12 := Nat.le_trans (Nat.le_trans Z0 K10.1) (Nat.le_of_eq g12.symm)
  have sz_b12 : h0.size ≤ b12 := Nat.le_trans K10.1 (Nat.le_of_eq g12.symm)
  have K13 : Keep h0 h12 [] := K10.ext E12
  have O14 : Old Z n0 h12 := O11.ext E12
  have V12 : Arv Z h12 b12 k12 .char (2 : Int32) [(.int (0 : Int32)), (.int (0 : Int32))] (.int (0 : Int32)) := (Arv.new A12 (by decide)).pad (pad_rep [] (.int (0 : Int32)) 2)
  replace X12 := X12.more (cells' := 2) (slots' := 3) (by decide) (by decide)
  obtain ⟨cl15, Ar15, q15, S15, Nn15, Hh15, G15⟩ := id V12
  have hin15 : ¬ ((0 : Int32) < 0 ∨ cl15.slots.size ≤ ((0 : Int32)).toNatClampNeg) := inb_of S15 ⟨by decide, by decide⟩
  obtain ⟨T16, h16, X16, e16, W16, st16⟩ := stC X12 hx hZ e12 Ar15 (j := (0 : Int32)) hin15 (g := (mkF m 15 #[.val (.int (3 : Int32)), .val (.int p1), .val (.int p2), .val (.int p3), .val (.int p4), .val (.ref b5), .unset, .unset, .unset] [(.int p1), (.int (0 : Int32)), (.ref b12), (.ref b12)])) rfl rfl (hb hby d1_15)
  have N16 := Fr.snoc X16 N9 g_b12
  have K17 : Keep h0 h16 [] := K13.wr W16 (Or.inr sz_b12)
  have O18 : Old Z n0 h16 := O14.wr W16 g_b12
  have V16 : Arv Z h16 b12 k12 .char (2 : Int32) [(.int p1.toUInt32.toUInt16.toUInt32.toInt32), (.int (0 : Int32))] (.int (0 : Int32)) := Arv.set Ar15 q15 S15 Nn15 Hh15 G15 (fits_nar_char _) W16 0 rfl (Nat.le_of_ble_eq_true rfl)
  obtain ⟨cl19, Ar19, q19, S19, Nn19, Hh19, G19⟩ := id V16
  have hin19 : ¬ ((1 : Int32) < 0 ∨ cl19.slots.size ≤ ((1 : Int32)).toNatClampNeg) := inb_of S19 ⟨by decide, by decide⟩
  obtain ⟨T20, h20, X20, e20, W20, st20⟩ := stC X16 hx hZ e16 Ar19 (j := (1 : Int32)) hin19 (g := (mkF m 19 #[.val (.int (3 : Int32)), .val (.int p1), .val (.int p2), .val (.int p3), .val (.int p4), .val (.ref b5), .unset, .unset, .unset] [(.int p2), (.int (1 : Int32)), (.ref b12), (.ref b12)])) rfl rfl (hb hby d1_19)
  have N20 := Fr.snoc X20 N16 g_b12
  have K21 : Keep h0 h20 [] := K17.wr W20 (Or.inr sz_b12)
  have O22 : Old Z n0 h20 := O18.wr W20 g_b12
  have V20 : Arv Z h20 b12 k12 .char (2 : Int32) [(.int p1.toUInt32.toUInt16.toUInt32.toInt32), (.int p2.toUInt32.toUInt16.toUInt32.toInt32)] (.int (0 : Int32)) := Arv.set Ar19 q19 S19 Nn19 Hh19 G19 (fits_nar_char _) W20 1 rfl (Nat.le_of_ble_eq_true rfl)
  obtain ⟨T23, h23, k23, X23, e23, E23, A23, st23⟩ := newP X20 hx hZ (hw _ (List.mem_of_getElem? (i := 4) rfl)) e20 (g := (mkF m 23 #[.val (.int (3 : Int32)), .val (.int p1), .val (.int p2), .val (.int p3), .val (.int p4), .val (.ref b5), .val (.ref b12), .unset, .unset] [(.int (3 : Int32))])) rfl (hb hby d1_23) rfl (by decide) (cap := 3) (by decide) (by decide) (by decide) (by decide)
  obtain ⟨b23, g23⟩ : ∃ z, z = h20.size := ⟨_, rfl⟩
  rw [← g23] at A23 st23
  have g_b23 : n0 ≤ b23 := Nat.le_trans (Nat.le_trans Z0 K21.1) (Nat.le_of_eq g23.symm)
  have sz_b23 : h0.size ≤ b23 := Nat.le_trans K21.1 (Nat.le_of_eq g23.symm)
  have K24 : Keep h0 h23 [] := K21.ext E23
  have O25 : Old Z n0 h23 := O22.ext E23
  have V23 : Arv Z h23 b23 k23 .char (3 : Int32) [(.int (0 : Int32)), (.int (0 : Int32)), (.int (0 : Int32))] (.int (0 : Int32)) := (Arv.new A23 (by decide)).pad (pad_rep [] (.int (0 : Int32)) 3)
  replace X23 := X23.more (cells' := 3) (slots' := 6) (by decide) (by decide)
  obtain ⟨cl26, Ar26, q26, S26, Nn26, Hh26, G26⟩ := id V23
  have hin26 : ¬ ((0 : Int32) < 0 ∨ cl26.slots.size ≤ ((0 : Int32)).toNatClampNeg) := inb_of S26 ⟨by decide, by decide⟩
  obtain ⟨T27, h27, X27, e27, W27, st27⟩ := stC X23 hx hZ e23 Ar26 (j := (0 : Int32)) hin26 (g := (mkF m 28 #[.val (.int (3 : Int32)), .val (.int p1), .val (.int p2), .val (.int p3), .val (.int p4), .val (.ref b5), .val (.ref b12), .unset, .unset] [(.int p1), (.int (0 : Int32)), (.ref b23), (.ref b23)])) rfl rfl (hb hby d1_28)
  have N27 := Fr.snoc X27 N20 g_b23
  have K28 : Keep h0 h27 [] := K24.wr W27 (Or.inr sz_b23)
  have O29 : Old Z n0 h27 := O25.wr W27 g_b23
  have V27 : Arv Z h27 b23 k23 .char (3 : Int32) [(.int p1.toUInt32.toUInt16.toUInt32.toInt32), (.int (0 : Int32)), (.int (0 : Int32))] (.int (0 : Int32)) := Arv.set Ar26 q26 S26 Nn26 Hh26 G26 (fits_nar_char _) W27 0 rfl (Nat.le_of_ble_eq_true rfl)
  obtain ⟨cl30, Ar30, q30, S30, Nn30, Hh30, G30⟩ := id V27
  have hin30 : ¬ ((1 : Int32) < 0 ∨ cl30.slots.size ≤ ((1 : Int32)).toNatClampNeg) := inb_of S30 ⟨by decide, by decide⟩
  obtain ⟨T31, h31, X31, e31, W31, st31⟩ := stC X27 hx hZ e27 Ar30 (j := (1 : Int32)) hin30 (g := (mkF m 32 #[.val (.int (3 : Int32)), .val (.int p1), .val (.int p2), .val (.int p3), .val (.int p4), .val (.ref b5), .val (.ref b12), .unset, .unset] [(.int p2), (.int (1 : Int32)), (.ref b23), (.ref b23)])) rfl rfl (hb hby d1_32)
  have N31 := Fr.snoc X31 N27 g_b23
  have K32 : Keep h0 h31 [] := K28.wr W31 (Or.inr sz_b23)
  have O33 : Old Z n0 h31 := O29.wr W31 g_b23
  have V31 : Arv Z h31 b23 k23 .char (3 : Int32) [(.int p1.toUInt32.toUInt16.toUInt32.toInt32), (.int p2.toUInt32.toUInt16.toUInt32.toInt32), (.int (0 : Int32))] (.int (0 : Int32)) := Arv.set Ar30 q30 S30 Nn30 Hh30 G30 (fits_nar_char _) W31 1 rfl (Nat.le_of_ble_eq_true rfl)
  obtain ⟨cl34, Ar34, q34, S34, Nn34, Hh34, G34⟩ := id V31
  have hin34 : ¬ ((2 : Int32) < 0 ∨ cl34.slots.size ≤ ((2 : Int32)).toNatClampNeg) := inb_of S34 ⟨by decide, by decide⟩
  obtain ⟨T35, h35, X35, e35, W35, st35⟩ := stC X31 hx hZ e31 Ar34 (j := (2 : Int32)) hin34 (g := (mkF m 36 #[.val (.int (3 : Int32)), .val (.int p1), .val (.int p2), .val (.int p3), .val (.int p4), .val (.ref b5), .val (.ref b12), .unset, .unset] [(.int p3), (.int (2 : Int32)), (.ref b23), (.ref b23)])) rfl rfl (hb hby d1_36)
  have N35 := Fr.snoc X35 N31 g_b23
  have K36 : Keep h0 h35 [] := K32.wr W35 (Or.inr sz_b23)
  have O37 : Old Z n0 h35 := O33.wr W35 g_b23
  have V35 : Arv Z h35 b23 k23 .char (3 : Int32) [(.int p1.toUInt32.toUInt16.toUInt32.toInt32), (.int p2.toUInt32.toUInt16.toUInt32.toInt32), (.int p3.toUInt32.toUInt16.toUInt32.toInt32)] (.int (0 : Int32)) := Arv.set Ar34 q34 S34 Nn34 Hh34 G34 (fits_nar_char _) W35 2 rfl (Nat.le_of_ble_eq_true rfl)
  obtain ⟨T38, h38, k38, X38, e38, E38, A38, st38⟩ := newP X35 hx hZ (hw _ (List.mem_of_getElem? (i := 4) rfl)) e35 (g := (mkF m 40 #[.val (.int (3 : Int32)), .val (.int p1), .val (.int p2), .val (.int p3), .val (.int p4), .val (.ref b5), .val (.ref b12), .val (.ref b23), .unset] [(.int (4 : Int32))])) rfl (hb hby d1_40) rfl (by decide) (cap := 4) (by decide) (by decide) (by decide) (by decide)
  obtain ⟨b38, g38⟩ : ∃ z, z = h35.size := ⟨_, rfl⟩
  rw [← g38] at A38 st38
  have g_b38 : n0 ≤ b38 := Nat.le_trans (Nat.le_trans Z0 K36.1) (Nat.le_of_eq g38.symm)
  have sz_b38 : h0.size ≤ b38 := Nat.le_trans K36.1 (Nat.le_of_eq g38.symm)
  have K39 : Keep h0 h38 [] := K36.ext E38
  have O40 : Old Z n0 h38 := O37.ext E38
  have V38 : Arv Z h38 b38 k38 .char (4 : Int32) [(.int (0 : Int32)), (.int (0 : Int32)), (.int (0 : Int32)), (.int (0 : Int32))] (.int (0 : Int32)) := (Arv.new A38 (by decide)).pad (pad_rep [] (.int (0 : Int32)) 4)
  replace X38 := X38.more (cells' := 4) (slots' := 10) (by decide) (by decide)
  obtain ⟨cl41, Ar41, q41, S41, Nn41, Hh41, G41⟩ := id V38
  have hin41 : ¬ ((0 : Int32) < 0 ∨ cl41.slots.size ≤ ((0 : Int32)).toNatClampNeg) := inb_of S41 ⟨by decide, by decide⟩
  obtain ⟨T42, h42, X42, e42, W42, st42⟩ := stC X38 hx hZ e38 Ar41 (j := (0 : Int32)) hin41 (g := (mkF m 45 #[.val (.int (3 : Int32)), .val (.int p1), .val (.int p2), .val (.int p3), .val (.int p4), .val (.ref b5), .val (.ref b12), .val (.ref b23), .unset] [(.int p1), (.int (0 : Int32)), (.ref b38), (.ref b38)])) rfl rfl (hb hby d1_45)
  have N42 := Fr.snoc X42 N35 g_b38
  have K43 : Keep h0 h42 [] := K39.wr W42 (Or.inr sz_b38)
  have O44 : Old Z n0 h42 := O40.wr W42 g_b38
  have V42 : Arv Z h42 b38 k38 .char (4 : Int32) [(.int p1.toUInt32.toUInt16.toUInt32.toInt32), (.int (0 : Int32)), (.int (0 : Int32)), (.int (0 : Int32))] (.int (0 : Int32)) := Arv.set Ar41 q41 S41 Nn41 Hh41 G41 (fits_nar_char _) W42 0 rfl (Nat.le_of_ble_eq_true rfl)
  obtain ⟨cl45, Ar45, q45, S45, Nn45, Hh45, G45⟩ := id V42
  have hin45 : ¬ ((1 : Int32) < 0 ∨ cl45.slots.size ≤ ((1 : Int32)).toNatClampNeg) := inb_of S45 ⟨by decide, by decide⟩
  obtain ⟨T46, h46, X46, e46, W46, st46⟩ := stC X42 hx hZ e42 Ar45 (j := (1 : Int32)) hin45 (g := (mkF m 49 #[.val (.int (3 : Int32)), .val (.int p1), .val (.int p2), .val (.int p3), .val (.int p4), .val (.ref b5), .val (.ref b12), .val (.ref b23), .unset] [(.int p2), (.int (1 : Int32)), (.ref b38), (.ref b38)])) rfl rfl (hb hby d1_49)
  have N46 := Fr.snoc X46 N42 g_b38
  have K47 : Keep h0 h46 [] := K43.wr W46 (Or.inr sz_b38)
  have O48 : Old Z n0 h46 := O44.wr W46 g_b38
  have V46 : Arv Z h46 b38 k38 .char (4 : Int32) [(.int p1.toUInt32.toUInt16.toUInt32.toInt32), (.int p2.toUInt32.toUInt16.toUInt32.toInt32), (.int (0 : Int32)), (.int (0 : Int32))] (.int (0 : Int32)) := Arv.set Ar45 q45 S45 Nn45 Hh45 G45 (fits_nar_char _) W46 1 rfl (Nat.le_of_ble_eq_true rfl)
  obtain ⟨cl49, Ar49, q49, S49, Nn49, Hh49, G49⟩ := id V46
  have hin49 : ¬ ((2 : Int32) < 0 ∨ cl49.slots.size ≤ ((2 : Int32)).toNatClampNeg) := inb_of S49 ⟨by decide, by decide⟩
  obtain ⟨T50, h50, X50, e50, W50, st50⟩ := stC X46 hx hZ e46 Ar49 (j := (2 : Int32)) hin49 (g := (mkF m 53 #[.val (.int (3 : Int32)), .val (.int p1), .val (.int p2), .val (.int p3), .val (.int p4), .val (.ref b5), .val (.ref b12), .val (.ref b23), .unset] [(.int p3), (.int (2 : Int32)), (.ref b38), (.ref b38)])) rfl rfl (hb hby d1_53)
  have N50 := Fr.snoc X50 N46 g_b38
  have K51 : Keep h0 h50 [] := K47.wr W50 (Or.inr sz_b38)
  have O52 : Old Z n0 h50 := O48.wr W50 g_b38
  have V50 : Arv Z h50 b38 k38 .char (4 : Int32) [(.int p1.toUInt32.toUInt16.toUInt32.toInt32), (.int p2.toUInt32.toUInt16.toUInt32.toInt32), (.int p3.toUInt32.toUInt16.toUInt32.toInt32), (.int (0 : Int32))] (.int (0 : Int32)) := Arv.set Ar49 q49 S49 Nn49 Hh49 G49 (fits_nar_char _) W50 2 rfl (Nat.le_of_ble_eq_true rfl)
  obtain ⟨cl53, Ar53, q53, S53, Nn53, Hh53, G53⟩ := id V50
  have hin53 : ¬ ((3 : Int32) < 0 ∨ cl53.slots.size ≤ ((3 : Int32)).toNatClampNeg) := inb_of S53 ⟨by decide, by decide⟩
  obtain ⟨T54, h54, X54, e54, W54, st54⟩ := stC X50 hx hZ e50 Ar53 (j := (3 : Int32)) hin53 (g := (mkF m 58 #[.val (.int (3 : Int32)), .val (.int p1), .val (.int p2), .val (.int p3), .val (.int p4), .val (.ref b5), .val (.ref b12), .val (.ref b23), .unset] [(.int p4), (.int (3 : Int32)), (.ref b38), (.ref b38)])) rfl rfl (hb hby d1_58)
  have N54 := Fr.snoc X54 N50 g_b38
  have K55 : Keep h0 h54 [] := K51.wr W54 (Or.inr sz_b38)
  have O56 : Old Z n0 h54 := O52.wr W54 g_b38
  have V54 : Arv Z h54 b38 k38 .char (4 : Int32) [(.int p1.toUInt32.toUInt16.toUInt32.toInt32), (.int p2.toUInt32.toUInt16.toUInt32.toInt32), (.int p3.toUInt32.toUInt16.toUInt32.toInt32), (.int p4.toUInt32.toUInt16.toUInt32.toInt32)] (.int (0 : Int32)) := Arv.set Ar53 q53 S53 Nn53 Hh53 G53 (fits_nar_char _) W54 3 rfl (Nat.le_of_ble_eq_true rfl)
  obtain ⟨T57, h57, X57, e57, E57, A57, D57, -, st57⟩ := newO X54 hx hZ hown (hw _ (List.mem_of_getElem? (i := 5) rfl)) (hw _ (List.mem_of_getElem? (i := 6) rfl)) (hw _ (List.mem_of_getElem? (i := 7) rfl)) e54 (g := (mkF m 96 #[.val (.int (3 : Int32)), .val (.int p1), .val (.int p2), .val (.int p3), .val (.int p4), .val (.ref b5), .val (.ref b12), .val (.ref b23), .val (.ref b38)] [])) rfl (hb hby d1_96) (by decide) (by decide)
  obtain ⟨b57, g57⟩ : ∃ z, z = h54.size := ⟨_, rfl⟩
  rw [← g57] at A57 D57 st57
  have g_b57 : n0 ≤ b57 := Nat.le_trans (Nat.le_trans Z0 K55.1) (Nat.le_of_eq g57.symm)
  have sz_b57 : h0.size ≤ b57 := Nat.le_trans K55.1 (Nat.le_of_eq g57.symm)
  have K58 : Keep h0 h57 [] := K55.ext E57
  have O59 : Old Z n0 h57 := O56.ext E57
  have F_coder_b57 : Fld Z h57 b57 "java/lang/String" "coder" "B" (.int (0 : Int32)) := D57 (Or.inr (hw _ (List.mem_of_getElem? (i := 31) rfl))) (ty := .byte) (by decide)
  have F_value_b57 : Fld Z h57 b57 "java/lang/String" "value" "[B" .null := D57 (Or.inr (hw _ (List.mem_of_getElem? (i := 33) rfl))) (ty := (.array .byte)) (by decide)
  replace X57 := X57.more (cells' := 5) (slots' := 14) (by decide) (by decide)
  have f61 := ((((((V35.ext E38).other W42 (Nat.ne_of_lt (Nat.lt_of_lt_of_le (Nat.lt_of_lt_of_le V23.lt (Nat.le_trans (Nat.le_trans (Keep.of_wr W27).1 (Keep.of_wr W31).1) (Keep.of_wr W35).1)) (Nat.le_of_eq g38.symm)))).other W46 (Nat.ne_of_lt (Nat.lt_of_lt_of_le (Nat.lt_of_lt_of_le V23.lt (Nat.le_trans (Nat.le_trans (Keep.of_wr W27).1 (Keep.of_wr W31).1) (Keep.of_wr W35).1)) (Nat.le_of_eq g38.symm)))).other W50 (Nat.ne_of_lt (Nat.lt_of_lt_of_le (Nat.lt_of_lt_of_le V23.lt (Nat.le_trans (Nat.le_trans (Keep.of_wr W27).1 (Keep.of_wr W31).1) (Keep.of_wr W35).1)) (Nat.le_of_eq g38.symm)))).other W54 (Nat.ne_of_lt (Nat.lt_of_lt_of_le (Nat.lt_of_lt_of_le V23.lt (Nat.le_trans (Nat.le_trans (Keep.of_wr W27).1 (Keep.of_wr W31).1) (Keep.of_wr W35).1)) (Nat.le_of_eq g38.symm)))).ext E57)
  obtain ⟨vr62, _, ⟨T62, L62, k62, n62⟩, -, X62, ⟨Lc62, hQ62, l62, y62, z62⟩, st62⟩ := X57.specialBack hx (y := (⟨"java/lang/String", "<init>", "([C)V"⟩ : MethodName)) rfl hown (mvT hZ (hw _ (List.mem_of_getElem? (i := 8) rfl))) (mvT hZ (hw _ (List.mem_of_getElem? (i := 9) rfl))) (mvT hZ (hw _ (List.mem_of_getElem? (i := 10) rfl))) (by decide) (StrChars.Road.backV (W := 1) hZ (fun d hd => hw d (own_in_words d hd)) (kI := 4) (hw _ (List.mem_of_getElem? (i := 6) rfl)) (cs := [p1.toUInt32.toUInt16.toUInt32.toInt32, p2.toUInt32.toUInt16.toUInt32.toInt32, p3.toUInt32.toUInt16.toUInt32.toInt32]) (bs := ([p1.toUInt32.toUInt16.toUInt32.toInt32, p2.toUInt32.toUInt16.toUInt32.toInt32, p3.toUInt32.toUInt16.toUInt32.toInt32] : List Int32).map (fun c => c.toInt8.toInt32)) (n := 3) g_b57 (Nat.le_trans Z0 K58.1) A57 F_value_b57 F_coder_b57 f61 (S_COMPACT_STRINGS.ext O59.2) hzcs rfl rfl (by decide) (by decide) hch102 rfl (by decide) (by decide)) (g := (mkF m 102 #[.val (.int (3 : Int32)), .val (.int p1), .val (.int p2), .val (.int p3), .val (.int p4), .val (.ref b5), .val (.ref b12), .val (.ref b23), .val (.ref b38)] [(.ref b23), (.ref b57), (.ref b57)])) rfl (by rw [hml]; rfl) (Steps.refl _) (a := b57) (argsL := [(.ref b23)]) (rest := [(.ref b57)]) (lenOf pd_15 rfl) rfl (by show 2 * 0 + _ ≤ _; exact Nat.le_of_eq rfl) (hb hby d1_102) (fun _ _ => ⟨rfl, e57, (by decide : 5 + 1 ≤ _), (by decide : 14 + 3 ≤ _)⟩)
  dsimp only [Pt.U, Pt.locs, Pt.cells, Pt.slots] at X62 l62 y62 z62 st62 hQ62
  subst l62 y62 z62
  obtain ⟨rfl, N62q, K62, sE62, sC62, st62_t, sk62, -, sz62, -, sV62, sA62⟩ := hQ62
  have N62 := Fr.app N54 N62q
  replace X62 := X62.more (cells' := 6) (slots' := 17) (by decide) (by decide)
  have K63 : Keep h0 T62.heap [] := K58.trans K62 (allS (Or.inr sz_b57) all0)
  have O64 : Old Z n0 T62.heap := O59.keep K62 (allS g_b57 all0)
  have tS62 : own_Str Z T62.heap T62.heap.size b57 [p1.toUInt32.toUInt16.toUInt32.toInt32, p2.toUInt32.toUInt16.toUInt32.toInt32, p3.toUInt32.toUInt16.toUInt32.toInt32] := ⟨⟨sE62.lt, Nat.le_of_ble_eq_true rfl, hch102⟩, st62_t, sk62, sA62.lt, sE62, sV62, sC62, sA62⟩
  obtain ⟨fs, hr, hrun, hended, hW, hsame⟩ := X62.leave (v := some (.ref b57)) (fun h => by rw [Bd.returns] at h; cases h)
  refine ⟨_, _, pre0 _ ?_, hrun, hended, _, _, rfl, ?_, ⟨_, rfl⟩, hW, hsame.mono (by decide) (by decide)⟩
  · show Steps p.tables e below (s₁.setTop (mkF m 0 #[.val (.int (3 : Int32)), .val (.int p1), .val (.int p2), .val (.int p3), .val (.int p4), .unset, .unset, .unset, .unset] [])) _
    refine XS.iconst X0.here hx rfl (hb hby d1_0) ?_
    show Steps p.tables e below (s₁.setTop (mkF m 1 #[.val (.int (3 : Int32)), .val (.int p1), .val (.int p2), .val (.int p3), .val (.int p4), .unset, .unset, .unset, .unset] [(.int (1 : Int32))])) _
    refine st5 _ ?_
    show Steps p.tables e below (T5.setTop (mkF m 3 #[.val (.int (3 : Int32)), .val (.int p1), .val (.int p2), .val (.int p3), .val (.int p4), .unset, .unset, .unset, .unset] [(.ref b5)])) _
    refine XS.dup X5.here hx rfl (hb hby d1_3) rfl rfl ?_
    show Steps p.tables e below (T5.setTop (mkF m 4 #[.val (.int (3 : Int32)), .val (.int p1), .val (.int p2), .val (.int p3), .val (.int p4), .unset, .unset, .unset, .unset] [(.ref b5), (.ref b5)])) _
    refine XS.iconst X5.here hx rfl (hb hby d1_4) ?_
    show Steps p.tables e below (T5.setTop (mkF m 5 #[.val (.int (3 : Int32)), .val (.int p1), .val (.int p2), .val (.int p3), .val (.int p4), .unset, .unset, .unset, .unset] [(.int (0 : Int32)), (.ref b5), (.ref b5)])) _
    refine XS.iloadN X5.here hx rfl (hb hby d1_5) rfl ?_
    show Steps p.tables e below (T5.setTop (mkF m 6 #[.val (.int (3 : Int32)), .val (.int p1), .val (.int p2), .val (.int p3), .val (.int p4), .unset, .unset, .unset, .unset] [(.int p1), (.int (0 : Int32)), (.ref b5), (.ref b5)])) _
    refine st9 _ ?_
    show Steps p.tables e below (T9.setTop (mkF m 7 #[.val (.int (3 : Int32)), .val (.int p1), .val (.int p2), .val (.int p3), .val (.int p4), .unset, .unset, .unset, .unset] [(.ref b5)])) _
    refine XS.astore X9.here hx rfl (hb hby d1_7) rfl rfl (l' := #[.val (.int (3 : Int32)), .val (.int p1), .val (.int p2), .val (.int p3), .val (.int p4), .val (.ref b5), .unset, .unset, .unset]) rfl ?_
    show Steps p.tables e below (T9.setTop (mkF m 9 #[.val (.int (3 : Int32)), .val (.int p1), .val (.int p2), .val (.int p3), .val (.int p4), .val (.ref b5), .unset, .unset, .unset] [])) _
    refine XS.iconst X9.here hx rfl (hb hby d1_9) ?_
    show Steps p.tables e below (T9.setTop (mkF m 10 #[.val (.int (3 : Int32)), .val (.int p1), .val (.int p2), .val (.int p3), .val (.int p4), .val (.ref b5), .unset, .unset, .unset] [(.int (2 : Int32))])) _
    refine st12 _ ?_
    show Steps p.tables e below (T12.setTop (mkF m 12 #[.val (.int (3 : Int32)), .val (.int p1), .val (.int p2), .val (.int p3), .val (.int p4), .val (.ref b5), .unset, .unset, .unset] [(.ref b12)])) _
    refine XS.dup X12.here hx rfl (hb hby d1_12) rfl rfl ?_
    show Steps p.tables e below (T12.setTop (mkF m 13 #[.val (.int (3 : Int32)), .val (.int p1), .val (.int p2), .val (.int p3), .val (.int p4), .val (.ref b5), .unset, .unset, .unset] [(.ref b12), (.ref b12)])) _
    refine XS.iconst X12.here hx rfl (hb hby d1_13) ?_
    show Steps p.tables e below (T12.setTop (mkF m 14 #[.val (.int (3 : Int32)), .val (.int p1), .val (.int p2), .val (.int p3), .val (.int p4), .val (.ref b5), .unset, .unset, .unset] [(.int (0 : Int32)), (.ref b12), (.ref b12)])) _
    refine XS.iloadN X12.here hx rfl (hb hby d1_14) rfl ?_
    show Steps p.tables e below (T12.setTop (mkF m 15 #[.val (.int (3 : Int32)), .val (.int p1), .val (.int p2), .val (.int p3), .val (.int p4), .val (.ref b5), .unset, .unset, .unset] [(.int p1), (.int (0 : Int32)), (.ref b12), (.ref b12)])) _
    refine st16 _ ?_
    show Steps p.tables e below (T16.setTop (mkF m 16 #[.val (.int (3 : Int32)), .val (.int p1), .val (.int p2), .val (.int p3), .val (.int p4), .val (.ref b5), .unset, .unset, .unset] [(.ref b12)])) _
    refine XS.dup X16.here hx rfl (hb hby d1_16) rfl rfl ?_
    show Steps p.tables e below (T16.setTop (mkF m 17 #[.val (.int (3 : Int32)), .val (.int p1), .val (.int p2), .val (.int p3), .val (.int p4), .val (.ref b5), .unset, .unset, .unset] [(.ref b12), (.ref b12)])) _
    refine XS.iconst X16.here hx rfl (hb hby d1_17) ?_
    show Steps p.tables e below (T16.setTop (mkF m 18 #[.val (.int (3 : Int32)), .val (.int p1), .val (.int p2), .val (.int p3), .val (.int p4), .val (.ref b5), .unset, .unset, .unset] [(.int (1 : Int32)), (.ref b12), (.ref b12)])) _
    refine XS.iloadN X16.here hx rfl (hb hby d1_18) rfl ?_
    show Steps p.tables e below (T16.setTop (mkF m 19 #[.val (.int (3 : Int32)), .val (.int p1), .val (.int p2), .val (.int p3), .val (.int p4), .val (.ref b5), .unset, .unset, .unset] [(.int p2), (.int (1 : Int32)), (.ref b12), (.ref b12)])) _
    refine st20 _ ?_
    show Steps p.tables e below (T20.setTop (mkF m 20 #[.val (.int (3 : Int32)), .val (.int p1), .val (.int p2), .val (.int p3), .val (.int p4), .val (.ref b5), .unset, .unset, .unset] [(.ref b12)])) _
    refine XS.astore X20.here hx rfl (hb hby d1_20) rfl rfl (l' := #[.val (.int (3 : Int32)), .val (.int p1), .val (.int p2), .val (.int p3), .val (.int p4), .val (.ref b5), .val (.ref b12), .unset, .unset]) rfl ?_
    show Steps p.tables e below (T20.setTop (mkF m 22 #[.val (.int (3 : Int32)), .val (.int p1), .val (.int p2), .val (.int p3), .val (.int p4), .val (.ref b5), .val (.ref b12), .unset, .unset] [])) _
    refine XS.iconst X20.here hx rfl (hb hby d1_22) ?_
    show Steps p.tables e below (T20.setTop (mkF m 23 #[.val (.int (3 : Int32)), .val (.int p1), .val (.int p2), .val (.int p3), .val (.int p4), .val (.ref b5), .val (.ref b12), .unset, .unset] [(.int (3 : Int32))])) _
    refine st23 _ ?_
    show Steps p.tables e below (T23.setTop (mkF m 25 #[.val (.int (3 : Int32)), .val (.int p1), .val (.int p2), .val (.int p3), .val (.int p4), .val (.ref b5), .val (.ref b12), .unset, .unset] [(.ref b23)])) _
    refine XS.dup X23.here hx rfl (hb hby d1_25) rfl rfl ?_
    show Steps p.tables e below (T23.setTop (mkF m 26 #[.val (.int (3 : Int32)), .val (.int p1), .val (.int p2), .val (.int p3), .val (.int p4), .val (.ref b5), .val (.ref b12), .unset, .unset] [(.ref b23), (.ref b23)])) _
    refine XS.iconst X23.here hx rfl (hb hby d1_26) ?_
    show Steps p.tables e below (T23.setTop (mkF m 27 #[.val (.int (3 : Int32)), .val (.int p1), .val (.int p2), .val (.int p3), .val (.int p4), .val (.ref b5), .val (.ref b12), .unset, .unset] [(.int (0 : Int32)), (.ref b23), (.ref b23)])) _
    refine XS.iloadN X23.here hx rfl (hb hby d1_27) rfl ?_
    show Steps p.tables e below (T23.setTop (mkF m 28 #[.val (.int (3 : Int32)), .val (.int p1), .val (.int p2), .val (.int p3), .val (.int p4), .val (.ref b5), .val (.ref b12), .unset, .unset] [(.int p1), (.int (0 : Int32)), (.ref b23), (.ref b23)])) _
    refine st27 _ ?_
    show Steps p.tables e below (T27.setTop (mkF m 29 #[.val (.int (3 : Int32)), .val (.int p1), .val (.int p2), .val (.int p3), .val (.int p4), .val (.ref b5), .val (.ref b12), .unset, .unset] [(.ref b23)])) _
    refine XS.dup X27.here hx rfl (hb hby d1_29) rfl rfl ?_
    show Steps p.tables e below (T27.setTop (mkF m 30 #[.val (.int (3 : Int32)), .val (.int p1), .val (.int p2), .val (.int p3), .val (.int p4), .val (.ref b5), .val (.ref b12), .unset, .unset] [(.ref b23), (.ref b23)])) _
    refine XS.iconst X27.here hx rfl (hb hby d1_30) ?_
    show Steps p.tables e below (T27.setTop (mkF m 31 #[.val (.int (3 : Int32)), .val (.int p1), .val (.int p2), .val (.int p3), .val (.int p4), .val (.ref b5), .val (.ref b12), .unset, .unset] [(.int (1 : Int32)), (.ref b23), (.ref b23)])) _
    refine XS.iloadN X27.here hx rfl (hb hby d1_31) rfl ?_
    show Steps p.tables e below (T27.setTop (mkF m 32 #[.val (.int (3 : Int32)), .val (.int p1), .val (.int p2), .val (.int p3), .val (.int p4), .val (.ref b5), .val (.ref b12), .unset, .unset] [(.int p2), (.int (1 : Int32)), (.ref b23), (.ref b23)])) _
    refine st31 _ ?_
    show Steps p.tables e below (T31.setTop (mkF m 33 #[.val (.int (3 : Int32)), .val (.int p1), .val (.int p2), .val (.int p3), .val (.int p4), .val (.ref b5), .val (.ref b12), .unset, .unset] [(.ref b23)])) _
    refine XS.dup X31.here hx rfl (hb hby d1_33) rfl rfl ?_
    show Steps p.tables e below (T31.setTop (mkF m 34 #[.val (.int (3 : Int32)), .val (.int p1), .val (.int p2), .val (.int p3), .val (.int p4), .val (.ref b5), .val (.ref b12), .unset, .unset] [(.ref b23), (.ref b23)])) _
    refine XS.iconst X31.here hx rfl (hb hby d1_34) ?_
    show Steps p.tables e below (T31.setTop (mkF m 35 #[.val (.int (3 : Int32)), .val (.int p1), .val (.int p2), .val (.int p3), .val (.int p4), .val (.ref b5), .val (.ref b12), .unset, .unset] [(.int (2 : Int32)), (.ref b23), (.ref b23)])) _
    refine XS.iloadN X31.here hx rfl (hb hby d1_35) rfl ?_
    show Steps p.tables e below (T31.setTop (mkF m 36 #[.val (.int (3 : Int32)), .val (.int p1), .val (.int p2), .val (.int p3), .val (.int p4), .val (.ref b5), .val (.ref b12), .unset, .unset] [(.int p3), (.int (2 : Int32)), (.ref b23), (.ref b23)])) _
    refine st35 _ ?_
    show Steps p.tables e below (T35.setTop (mkF m 37 #[.val (.int (3 : Int32)), .val (.int p1), .val (.int p2), .val (.int p3), .val (.int p4), .val (.ref b5), .val (.ref b12), .unset, .unset] [(.ref b23)])) _
    refine XS.astore X35.here hx rfl (hb hby d1_37) rfl rfl (l' := #[.val (.int (3 : Int32)), .val (.int p1), .val (.int p2), .val (.int p3), .val (.int p4), .val (.ref b5), .val (.ref b12), .val (.ref b23), .unset]) rfl ?_
    show Steps p.tables e below (T35.setTop (mkF m 39 #[.val (.int (3 : Int32)), .val (.int p1), .val (.int p2), .val (.int p3), .val (.int p4), .val (.ref b5), .val (.ref b12), .val (.ref b23), .unset] [])) _
    refine XS.iconst X35.here hx rfl (hb hby d1_39) ?_
    show Steps p.tables e below (T35.setTop (mkF m 40 #[.val (.int (3 : Int32)), .val (.int p1), .val (.int p2), .val (.int p3), .val (.int p4), .val (.ref b5), .val (.ref b12), .val (.ref b23), .unset] [(.int (4 : Int32))])) _
    refine st38 _ ?_
    show Steps p.tables e below (T38.setTop (mkF m 42 #[.val (.int (3 : Int32)), .val (.int p1), .val (.int p2), .val (.int p3), .val (.int p4), .val (.ref b5), .val (.ref b12), .val (.ref b23), .unset] [(.ref b38)])) _
    refine XS.dup X38.here hx rfl (hb hby d1_42) rfl rfl ?_
    show Steps p.tables e below (T38.setTop (mkF m 43 #[.val (.int (3 : Int32)), .val (.int p1), .val (.int p2), .val (.int p3), .val (.int p4), .val (.ref b5), .val (.ref b12), .val (.ref b23), .unset] [(.ref b38), (.ref b38)])) _
    refine XS.iconst X38.here hx rfl (hb hby d1_43) ?_
    show Steps p.tables e below (T38.setTop (mkF m 44 #[.val (.int (3 : Int32)), .val (.int p1), .val (.int p2), .val (.int p3), .val (.int p4), .val (.ref b5), .val (.ref b12), .val (.ref b23), .unset] [(.int (0 : Int32)), (.ref b38), (.ref b38)])) _
    refine XS.iloadN X38.here hx rfl (hb hby d1_44) rfl ?_
    show Steps p.tables e below (T38.setTop (mkF m 45 #[.val (.int (3 : Int32)), .val (.int p1), .val (.int p2), .val (.int p3), .val (.int p4), .val (.ref b5), .val (.ref b12), .val (.ref b23), .unset] [(.int p1), (.int (0 : Int32)), (.ref b38), (.ref b38)])) _
    refine st42 _ ?_
    show Steps p.tables e below (T42.setTop (mkF m 46 #[.val (.int (3 : Int32)), .val (.int p1), .val (.int p2), .val (.int p3), .val (.int p4), .val (.ref b5), .val (.ref b12), .val (.ref b23), .unset] [(.ref b38)])) _
    refine XS.dup X42.here hx rfl (hb hby d1_46) rfl rfl ?_
    show Steps p.tables e below (T42.setTop (mkF m 47 #[.val (.int (3 : Int32)), .val (.int p1), .val (.int p2), .val (.int p3), .val (.int p4), .val (.ref b5), .val (.ref b12), .val (.ref b23), .unset] [(.ref b38), (.ref b38)])) _
    refine XS.iconst X42.here hx rfl (hb hby d1_47) ?_
    show Steps p.tables e below (T42.setTop (mkF m 48 #[.val (.int (3 : Int32)), .val (.int p1), .val (.int p2), .val (.int p3), .val (.int p4), .val (.ref b5), .val (.ref b12), .val (.ref b23), .unset] [(.int (1 : Int32)), (.ref b38), (.ref b38)])) _
    refine XS.iloadN X42.here hx rfl (hb hby d1_48) rfl ?_
    show Steps p.tables e below (T42.setTop (mkF m 49 #[.val (.int (3 : Int32)), .val (.int p1), .val (.int p2), .val (.int p3), .val (.int p4), .val (.ref b5), .val (.ref b12), .val (.ref b23), .unset] [(.int p2), (.int (1 : Int32)), (.ref b38), (.ref b38)])) _
    refine st46 _ ?_
    show Steps p.tables e below (T46.setTop (mkF m 50 #[.val (.int (3 : Int32)), .val (.int p1), .val (.int p2), .val (.int p3), .val (.int p4), .val (.ref b5), .val (.ref b12), .val (.ref b23), .unset] [(.ref b38)])) _
    refine XS.dup X46.here hx rfl (hb hby d1_50) rfl rfl ?_
    show Steps p.tables e below (T46.setTop (mkF m 51 #[.val (.int (3 : Int32)), .val (.int p1), .val (.int p2), .val (.int p3), .val (.int p4), .val (.ref b5), .val (.ref b12), .val (.ref b23), .unset] [(.ref b38), (.ref b38)])) _
    refine XS.iconst X46.here hx rfl (hb hby d1_51) ?_
    show Steps p.tables e below (T46.setTop (mkF m 52 #[.val (.int (3 : Int32)), .val (.int p1), .val (.int p2), .val (.int p3), .val (.int p4), .val (.ref b5), .val (.ref b12), .val (.ref b23), .unset] [(.int (2 : Int32)), (.ref b38), (.ref b38)])) _
    refine XS.iloadN X46.here hx rfl (hb hby d1_52) rfl ?_
    show Steps p.tables e below (T46.setTop (mkF m 53 #[.val (.int (3 : Int32)), .val (.int p1), .val (.int p2), .val (.int p3), .val (.int p4), .val (.ref b5), .val (.ref b12), .val (.ref b23), .unset] [(.int p3), (.int (2 : Int32)), (.ref b38), (.ref b38)])) _
    refine st50 _ ?_
    show Steps p.tables e below (T50.setTop (mkF m 54 #[.val (.int (3 : Int32)), .val (.int p1), .val (.int p2), .val (.int p3), .val (.int p4), .val (.ref b5), .val (.ref b12), .val (.ref b23), .unset] [(.ref b38)])) _
    refine XS.dup X50.here hx rfl (hb hby d1_54) rfl rfl ?_
    show Steps p.tables e below (T50.setTop (mkF m 55 #[.val (.int (3 : Int32)), .val (.int p1), .val (.int p2), .val (.int p3), .val (.int p4), .val (.ref b5), .val (.ref b12), .val (.ref b23), .unset] [(.ref b38), (.ref b38)])) _
    refine XS.iconst X50.here hx rfl (hb hby d1_55) ?_
    show Steps p.tables e below (T50.setTop (mkF m 56 #[.val (.int (3 : Int32)), .val (.int p1), .val (.int p2), .val (.int p3), .val (.int p4), .val (.ref b5), .val (.ref b12), .val (.ref b23), .unset] [(.int (3 : Int32)), (.ref b38), (.ref b38)])) _
    refine XS.iload X50.here hx rfl (hb hby d1_56) rfl ?_
    show Steps p.tables e below (T50.setTop (mkF m 58 #[.val (.int (3 : Int32)), .val (.int p1), .val (.int p2), .val (.int p3), .val (.int p4), .val (.ref b5), .val (.ref b12), .val (.ref b23), .unset] [(.int p4), (.int (3 : Int32)), (.ref b38), (.ref b38)])) _
    refine st54 _ ?_
    show Steps p.tables e below (T54.setTop (mkF m 59 #[.val (.int (3 : Int32)), .val (.int p1), .val (.int p2), .val (.int p3), .val (.int p4), .val (.ref b5), .val (.ref b12), .val (.ref b23), .unset] [(.ref b38)])) _
    refine XS.astore X54.here hx rfl (hb hby d1_59) rfl rfl (l' := #[.val (.int (3 : Int32)), .val (.int p1), .val (.int p2), .val (.int p3), .val (.int p4), .val (.ref b5), .val (.ref b12), .val (.ref b23), .val (.ref b38)]) rfl ?_
    show Steps p.tables e below (T54.setTop (mkF m 61 #[.val (.int (3 : Int32)), .val (.int p1), .val (.int p2), .val (.int p3), .val (.int p4), .val (.ref b5), .val (.ref b12), .val (.ref b23), .val (.ref b38)] [])) _
    refine XS.iloadN X54.here hx rfl (hb hby d1_61) rfl ?_
    show Steps p.tables e below (T54.setTop (mkF m 62 #[.val (.int (3 : Int32)), .val (.int p1), .val (.int p2), .val (.int p3), .val (.int p4), .val (.ref b5), .val (.ref b12), .val (.ref b23), .val (.ref b38)] [(.int (3 : Int32))])) _
    refine XS.iconst X54.here hx rfl (hb hby d1_62) ?_
    show Steps p.tables e below (T54.setTop (mkF m 63 #[.val (.int (3 : Int32)), .val (.int p1), .val (.int p2), .val (.int p3), .val (.int p4), .val (.ref b5), .val (.ref b12), .val (.ref b23), .val (.ref b38)] [(.int (1 : Int32)), (.int (3 : Int32))])) _
    refine XS.icmpYes X54.here hx rfl (pc0 := 63) (pc' := 76) rfl (hb hby d1_63) rfl (feq (by decide : ¬ ((3 : Int32) = (1 : Int32)))).2 (by decide) (by decide) ?_
    show Steps p.tables e below (T54.setTop (mkF m 76 #[.val (.int (3 : Int32)), .val (.int p1), .val (.int p2), .val (.int p3), .val (.int p4), .val (.ref b5), .val (.ref b12), .val (.ref b23), .val (.ref b38)] [])) _
    refine XS.iloadN X54.here hx rfl (hb hby d1_76) rfl ?_
    show Steps p.tables e below (T54.setTop (mkF m 77 #[.val (.int (3 : Int32)), .val (.int p1), .val (.int p2), .val (.int p3), .val (.int p4), .val (.ref b5), .val (.ref b12), .val (.ref b23), .val (.ref b38)] [(.int (3 : Int32))])) _
    refine XS.iconst X54.here hx rfl (hb hby d1_77) ?_
    show Steps p.tables e below (T54.setTop (mkF m 78 #[.val (.int (3 : Int32)), .val (.int p1), .val (.int p2), .val (.int p3), .val (.int p4), .val (.ref b5), .val (.ref b12), .val (.ref b23), .val (.ref b38)] [(.int (2 : Int32)), (.int (3 : Int32))])) _
    refine XS.icmpYes X54.here hx rfl (pc0 := 78) (pc' := 91) rfl (hb hby d1_78) rfl (feq (by decide : ¬ ((3 : Int32) = (2 : Int32)))).2 (by decide) (by decide) ?_
    show Steps p.tables e below (T54.setTop (mkF m 91 #[.val (.int (3 : Int32)), .val (.int p1), .val (.int p2), .val (.int p3), .val (.int p4), .val (.ref b5), .val (.ref b12), .val (.ref b23), .val (.ref b38)] [])) _
    refine XS.iloadN X54.here hx rfl (hb hby d1_91) rfl ?_
    show Steps p.tables e below (T54.setTop (mkF m 92 #[.val (.int (3 : Int32)), .val (.int p1), .val (.int p2), .val (.int p3), .val (.int p4), .val (.ref b5), .val (.ref b12), .val (.ref b23), .val (.ref b38)] [(.int (3 : Int32))])) _
    refine XS.iconst X54.here hx rfl (hb hby d1_92) ?_
    show Steps p.tables e below (T54.setTop (mkF m 93 #[.val (.int (3 : Int32)), .val (.int p1), .val (.int p2), .val (.int p3), .val (.int p4), .val (.ref b5), .val (.ref b12), .val (.ref b23), .val (.ref b38)] [(.int (3 : Int32)), (.int (3 : Int32))])) _
    refine XS.icmpNo X54.here hx rfl (hb hby d1_93) rfl (teq (by decide : (3 : Int32) = (3 : Int32))).2 ?_
    show Steps p.tables e below (T54.setTop (mkF m 96 #[.val (.int (3 : Int32)), .val (.int p1), .val (.int p2), .val (.int p3), .val (.int p4), .val (.ref b5), .val (.ref b12), .val (.ref b23), .val (.ref b38)] [])) _
    refine st57 _ ?_
    show Steps p.tables e below (T57.setTop (mkF m 99 #[.val (.int (3 : Int32)), .val (.int p1), .val (.int p2), .val (.int p3), .val (.int p4), .val (.ref b5), .val (.ref b12), .val (.ref b23), .val (.ref b38)] [(.ref b57)])) _
    refine XS.dup X57.here hx rfl (hb hby d1_99) rfl rfl ?_
    show Steps p.tables e below (T57.setTop (mkF m 100 #[.val (.int (3 : Int32)), .val (.int p1), .val (.int p2), .val (.int p3), .val (.int p4), .val (.ref b5), .val (.ref b12), .val (.ref b23), .val (.ref b38)] [(.ref b57), (.ref b57)])) _
    refine XS.aload X57.here hx rfl (hb hby d1_100) rfl rfl ?_
    show Steps p.tables e below (T57.setTop (mkF m 102 #[.val (.int (3 : Int32)), .val (.int p1), .val (.int p2), .val (.int p3), .val (.int p4), .val (.ref b5), .val (.ref b12), .val (.ref b23), .val (.ref b38)] [(.ref b23), (.ref b57), (.ref b57)])) _
    refine st62.trans ?_
    show Steps p.tables e below (T62.setTop (mkF m 105 #[.val (.int (3 : Int32)), .val (.int p1), .val (.int p2), .val (.int p3), .val (.int p4), .val (.ref b5), .val (.ref b12), .val (.ref b23), .val (.ref b38)] [(.ref b57)])) _
    exact own_retR X62 hx Bd.returns rfl rfl (hb hby d1_105) hr
  · show Q1n3 Z p1 p2 p3 p4 w60 h0 n0 _ T62.heap _
    exact ⟨b57, rfl, N62, K63, sz_b57, (own_Str.exa tS62), (own_Str.top tS62)⟩
theorem d1_106 : decode method_2_code 106 = .ok (.new 7, 3) := by decide +kernel
theorem d1_109 : decode method_2_code 109 = .ok (.dup, 1) := by decide +kernel
theorem d1_110 : decode method_2_code 110 = .ok (.aload 8, 2) := by decide +kernel
theorem d1_112 : decode method_2_code 112 = .ok (.invokespecial 9, 3) := by decide +kernel
theorem d1_115 : decode method_2_code 115 = .ok (.areturn, 1) := by decide +kernel
def Q1n4 (Z : State) (p1 p2 p3 p4 w60 : Int32) (h0 : Heap) (n0 : Nat) (v : Option Value) (h : Heap) (L : List Loc) : Prop := ∃ b57 : Addr, v = some (.ref b57) ∧ Fr n0 L ∧ Keep h0 h [] ∧ h0.size ≤ b57 ∧ Exa Z h b57 "java/lang/String" ∧ own_Str Z h h.size b57 [p1.toUInt32.toUInt16.toUInt32.toInt32, p2.toUInt32.toUInt16.toUInt32.toInt32, p3.toUInt32.toUInt16.toUInt32.toInt32, p4.toUInt32.toUInt16.toUInt32.toInt32]
theorem ef_1__4___Int32__aaaa (m : MethodId) (x1 : Int32) (x2 : Int32) (x3 : Int32) (x4 : Int32) : entryFrame m #[(.int (4 : Int32)), (.int x1), (.int x2), (.int x3), (.int x4)] 9 = mkF m 0 #[.val (.int (4 : Int32)), .val (.int x1), .val (.int x2), .val (.int x3), .val (.int x4), .unset, .unset, .unset, .unset] [] := by first | (simp [entryFrame, mkF, argsToLocals, Value.category]; done) | rfl
set_option maxRecDepth 65536 in
set_option maxHeartbeats 40000000 in
theorem rm1n4 (l : Launch) (Z : State) (a0 : Array Value) (hw : ∀ d ∈ tables_1, d.before a0 Z = true) (ws : List Jvm.Cond) (p1 p2 p3 p4 w60 : Int32) (h0 : Heap) (n0 : Nat) (O0 : Old Z n0 h0) (S_COMPACT_STRINGS : Sta Z Z.heap "java/lang/String" "COMPACT_STRINGS" "Z" (.int w60)) (hzcs : ¬ (w60 = (0 : Int32))) (hch112 : ∀ c ∈ ([p1.toUInt32.toUInt16.toUInt32.toInt32, p2.toUInt32.toUInt16.toUInt32.toInt32, p3.toUInt32.toUInt16.toUInt32.toInt32, p4.toUInt32.toUInt16.toUInt32.toInt32] : List Int32), ¬ c < 0 ∧ ¬ (255 : Int32) < c) :
    MetFree l (⟨"com/example/wattle/wattle/FigureUnreadablePinLaw", "text", "(ICCCC)Ljava/lang/String;"⟩ : MethodName) (head1 (Jvm.Cond.code (⟨"com/example/wattle/wattle/FigureUnreadablePinLaw", "text", "(ICCCC)Ljava/lang/String;"⟩ : MethodName) method_2_code 9 (some (.object "java/lang/String")) :: ws) ({ frames := 4, cells := 6, slots := 18, locals := 66 } : Room)) (fun a U => a = #[(.int (4 : Int32)), (.int p1), (.int p2), (.int p3), (.int p4)] ∧ Z.Warmed39 U.vm ∧ U.heap = h0) (fun _ _ _ _ _ => True) (fun _ U o U' => ∃ v L, o = .returned v ∧ Q1n4 Z p1 p2 p3 p4 w60 h0 n0 v U'.heap L ∧ FrameEnd U o U' L ({ frames := 4, cells := 6, slots := 18, locals := 66 } : Room).cells ({ frames := 4, cells := 6, slots := 18, locals := 66 } : Room).slots) := by
  refine MetFree.of_bodySF (plainFor_of_name pnc_com_example_wattle_wattle_FigureUnreadablePinLaw) hisR ?_
  intro p e s m args below meth c s₁ Bd hml0 hP hK
  obtain ⟨rfl, hZ, hh⟩ := hP
  have hx := Bd.exec
  have hby := Bd.bytes
  have hml : c.maxLocals = 9 := hml0
  have hown : s.vm.findClass "com/example/wattle/wattle/FigureUnreadablePinLaw" = some m.cls := findClass_of_methodNamed Bd.named
  have hnm := (name_of_methodNamed Bd.named Bd.method).1
  have X0 : Stand p l e ({ frames := 4, cells := 6, slots := 18, locals := 66 } : Room) s m #[(.int (4 : Int32)), (.int p1), (.int p2), (.int p3), (.int p4)] below meth c s₁ [] 0 0 := Stand.of_body Bd
  have e0 : s₁.heap = h0 := by rw [← hh, Bd.state]; rfl
  have N0 := Fr.nil n0
  have Z0 : n0 ≤ h0.size := O0.1 ▸ O0.2.1
  have pre0 : ∀ t, Steps p.tables e below (s₁.setTop (mkF m 0 #[.val (.int (4 : Int32)), .val (.int p1), .val (.int p2), .val (.int p3), .val (.int p4), .unset, .unset, .unset, .unset] [])) t → Steps p.tables e below (s₁.setTop (entryFrame m #[(.int (4 : Int32)), (.int p1), (.int p2), (.int p3), (.int p4)] 9)) t := fun t k => castTop (ef_1__4___Int32__aaaa m p1 p2 p3 p4) k
  obtain ⟨T5, h5, k5, X5, e5, E5, A5, st5⟩ := newP X0 hx hZ (hw _ (List.mem_of_getElem? (i := 4) rfl)) e0 (g := (mkF m 1 #[.val (.int (4 : Int32)), .val (.int p1), .val (.int p2), .val (.int p3), .val (.int p4), .unset, .unset, .unset, .unset] [(.int (1 : Int32))])) rfl (hb hby d1_1) rfl (by decide) (cap := 1) (by decide) (by decide) (by decide) (by decide)
  obtain ⟨b5, g5⟩ : ∃ z, z = h0.size := ⟨_, rfl⟩
  rw [← g5] at A5 st5
  have g_b5 : n0 ≤ b5 := Nat.le_trans (Nat.le_trans Z0 (Keep.refl h0 []).1) (Nat.le_of_eq g5.symm)
  have sz_b5 : h0.size ≤ b5 := Nat.le_trans (Keep.refl h0 []).1 (Nat.le_of_eq g5.symm)
  have K6 : Keep h0 h5 [] := (Keep.refl h0 []).ext E5
  have O7 : Old Z n0 h5 := O0.ext E5
  have V5 : Arv Z h5 b5 k5 .char (1 : Int32) [(.int (0 : Int32))] (.int (0 : Int32)) := (Arv.new A5 (by decide)).pad (pad_rep [] (.int (0 : Int32)) 1)
  replace X5 := X5.more (cells' := 1) (slots' := 1) (by decide) (by decide)
  obtain ⟨cl8, Ar8, q8, S8, Nn8, Hh8, G8⟩ := id V5
  have hin8 : ¬ ((0 : Int32) < 0 ∨ cl8.slots.size ≤ ((0 : Int32)).toNatClampNeg) := inb_of S8 ⟨by decide, by decide⟩
  obtain ⟨T9, h9, X9, e9, W9, st9⟩ := stC X5 hx hZ e5 Ar8 (j := (0 : Int32)) hin8 (g := (mkF m 6 #[.val (.int (4 : Int32)), .val (.int p1), .val (.int p2), .val (.int p3), .val (.int p4), .unset, .unset, .unset, .unset] [(.int p1), (.int (0 : Int32)), (.ref b5), (.ref b5)])) rfl rfl (hb hby d1_6)
  have N9 := Fr.snoc X9 N0 g_b5
  have K10 : Keep h0 h9 [] := K6.wr W9 (Or.inr sz_b5)
  have O11 : Old Z n0 h9 := O7.wr W9 g_b5
  have V9 : Arv Z h9 b5 k5 .char (1 : Int32) [(.int p1.toUInt32.toUInt16.toUInt32.toInt32)] (.int (0 : Int32)) := Arv.set Ar8 q8 S8 Nn8 Hh8 G8 (fits_nar_char _) W9 0 rfl (Nat.le_of_ble_eq_true rfl)
  obtain ⟨T12, h12, k12, X12, e12, E12, A12, st12⟩ := newP X9 hx hZ (hw _ (List.mem_of_getElem? (i := 4) rfl)) e9 (g := (mkF m 10 #[.val (.int (4 : Int32)), .val (.int p1), .val (.int p2), .val (.int p3), .val (.int p4), .val (.ref b5), .unset, .unset, .unset] [(.int (2 : Int32))])) rfl (hb hby d1_10) rfl (by decide) (cap := 2) (by decide) (by decide) (by decide) (by decide)
  obtain ⟨b12, g12⟩ : ∃ z, z = h9.size := ⟨_, rfl⟩
  rw [← g12] at A12 st12
  have g_b12 : n0 ≤ b12 := Nat.le_trans (Nat.le_trans Z0 K10.1) (Nat.le_of_eq g12.symm)
  have sz_b12 : h0.size ≤ b12 := Nat.le_trans K10.1 (Nat.le_of_eq g12.symm)
  have K13 : Keep h0 h12 [] := K10.ext E12
  have O14 : Old Z n0 h12 := O11.ext E12
  have V12 : Arv Z h12 b12 k12 .char (2 : Int32) [(.int (0 : Int32)), (.int (0 : Int32))] (.int (0 : Int32)) := (Arv.new A12 (by decide)).pad (pad_rep [] (.int (0 : Int32)) 2)
  replace X12 := X12.more (cells' := 2) (slots' := 3) (by decide) (by decide)
  obtain ⟨cl15, Ar15, q15, S15, Nn15, Hh15, G15⟩ := id V12
  have hin15 : ¬ ((0 : Int32) < 0 ∨ cl15.slots.size ≤ ((0 : Int32)).toNatClampNeg) := inb_of S15 ⟨by decide, by decide⟩
  obtain ⟨T16, h16, X16, e16, W16, st16⟩ := stC X12 hx hZ e12 Ar15 (j := (0 : Int32)) hin15 (g := (mkF m 15 #[.val (.int (4 : Int32)), .val (.int p1), .val (.int p2), .val (.int p3), .val (.int p4), .val (.ref b5), .unset, .unset, .unset] [(.int p1), (.int (0 : Int32)), (.ref b12), (.ref b12)])) rfl rfl (hb hby d1_15)
  have N16 := Fr.snoc X16 N9 g_b12
  have K17 : Keep h0 h16 [] := K13.wr W16 (Or.inr sz_b12)
  have O18 : Old Z n0 h16 := O14.wr W16 g_b12
  have V16 : Arv Z h16 b12 k12 .char (2 : Int32) [(.int p1.toUInt32.toUInt16.toUInt32.toInt32), (.int (0 : Int32))] (.int (0 : Int32)) := Arv.set Ar15 q15 S15 Nn15 Hh15 G15 (fits_nar_char _) W16 0 rfl (Nat.le_of_ble_eq_true rfl)
  obtain ⟨cl19, Ar19, q19, S19, Nn19, Hh19, G19⟩ := id V16
  have hin19 : ¬ ((1 : Int32) < 0 ∨ cl19.slots.size ≤ ((1 : Int32)).toNatClampNeg) := inb_of S19 ⟨by decide, by decide⟩
  obtain ⟨T20, h20, X20, e20, W20, st20⟩ := stC X16 hx hZ e16 Ar19 (j := (1 : Int32)) hin19 (g := (mkF m 19 #[.val (.int (4 : Int32)), .val (.int p1), .val (.int p2), .val (.int p3), .val (.int p4), .val (.ref b5), .unset, .unset, .unset] [(.int p2), (.int (1 : Int32)), (.ref b12), (.ref b12)])) rfl rfl (hb hby d1_19)
  have N20 := Fr.snoc X20 N16 g_b12
  have K21 : Keep h0 h20 [] := K17.wr W20 (Or.inr sz_b12)
  have O22 : Old Z n0 h20 := O18.wr W20 g_b12
  have V20 : Arv Z h20 b12 k12 .char (2 : Int32) [(.int p1.toUInt32.toUInt16.toUInt32.toInt32), (.int p2.toUInt32.toUInt16.toUInt32.toInt32)] (.int (0 : Int32)) := Arv.set Ar19 q19 S19 Nn19 Hh19 G19 (fits_nar_char _) W20 1 rfl (Nat.le_of_ble_eq_true rfl)
  obtain ⟨T23, h23, k23, X23, e23, E23, A23, st23⟩ := newP X20 hx hZ (hw _ (List.mem_of_getElem? (i := 4) rfl)) e20 (g := (mkF m 23 #[.val (.int (4 : Int32)), .val (.int p1), .val (.int p2), .val (.int p3), .val (.int p4), .val (.ref b5), .val (.ref b12), .unset, .unset] [(.int (3 : Int32))])) rfl (hb hby d1_23) rfl (by decide) (cap := 3) (by decide) (by decide) (by decide) (by decide)
  obtain ⟨b23, g23⟩ : ∃ z, z = h20.size := ⟨_, rfl⟩
  rw [← g23] at A23 st23
  have g_b23 : n0 ≤ b23 := Nat.le_trans (Nat.le_trans Z0 K21.1) (Nat.le_of_eq g23.symm)
  have sz_b23 : h0.size ≤ b23 := Nat.le_trans K21.1 (Nat.le_of_eq g23.symm)
  have K24 : Keep h0 h23 [] := K21.ext E23
  have O25 : Old Z n0 h23 := O22.ext E23
  have V23 : Arv Z h23 b23 k23 .char (3 : Int32) [(.int (0 : Int32)), (.int (0 : Int32)), (.int (0 : Int32))] (.int (0 : Int32)) := (Arv.new A23 (by decide)).pad (pad_rep [] (.int (0 : Int32)) 3)
  replace X23 := X23.more (cells' := 3) (slots' := 6) (by decide) (by decide)
  obtain ⟨cl26, Ar26, q26, S26, Nn26, Hh26, G26⟩ := id V23
  have hin26 : ¬ ((0 : Int32) < 0 ∨ cl26.slots.size ≤ ((0 : Int32)).toNatClampNeg) := inb_of S26 ⟨by decide, by decide⟩
  obtain ⟨T27, h27, X27, e27, W27, st27⟩ := stC X23 hx hZ e23 Ar26 (j := (0 : Int32)) hin26 (g := (mkF m 28 #[.val (.int (4 : Int32)), .val (.int p1), .val (.int p2), .val (.int p3), .val (.int p4), .val (.ref b5), .val (.ref b12), .unset, .unset] [(.int p1), (.int (0 : Int32)), (.ref b23), (.ref b23)])) rfl rfl (hb hby d1_28)
  have N27 := Fr.snoc X27 N20 g_b23
  have K28 : Keep h0 h27 [] := K24.wr W27 (Or.inr sz_b23)
  have O29 : Old Z n0 h27 := O25.wr W27 g_b23
  have V27 : Arv Z h27 b23 k23 .char (3 : Int32) [(.int p1.toUInt32.toUInt16.toUInt32.toInt32), (.int (0 : Int32)), (.int (0 : Int32))] (.int (0 : Int32)) := Arv.set Ar26 q26 S26 Nn26 Hh26 G26 (fits_nar_char _) W27 0 rfl (Nat.le_of_ble_eq_true rfl)
  obtain ⟨cl30, Ar30, q30, S30, Nn30, Hh30, G30⟩ := id V27
  have hin30 : ¬ ((1 : Int32) < 0 ∨ cl30.slots.size ≤ ((1 : Int32)).toNatClampNeg) := inb_of S30 ⟨by decide, by decide⟩
  obtain ⟨T31, h31, X31, e31, W31, st31⟩ := stC X27 hx hZ e27 Ar30 (j := (1 : Int32)) hin30 (g := (mkF m 32 #[.val (.int (4 : Int32)), .val (.int p1), .val (.int p2), .val (.int p3), .val (.int p4), .val (.ref b5), .val (.ref b12), .unset, .unset] [(.int p2), (.int (1 : Int32)), (.ref b23), (.ref b23)])) rfl rfl (hb hby d1_32)
  have N31 := Fr.snoc X31 N27 g_b23
  have K32 : Keep h0 h31 [] := K28.wr W31 (Or.inr sz_b23)
  have O33 : Old Z n0 h31 := O29.wr W31 g_b23
  have V31 : Arv Z h31 b23 k23 .char (3 : Int32) [(.int p1.toUInt32.toUInt16.toUInt32.toInt32), (.int p2.toUInt32.toUInt16.toUInt32.toInt32), (.int (0 : Int32))] (.int (0 : Int32)) := Arv.set Ar30 q30 S30 Nn30 Hh30 G30 (fits_nar_char _) W31 1 rfl (Nat.le_of_ble_eq_true rfl)
  obtain ⟨cl34, Ar34, q34, S34, Nn34, Hh34, G34⟩ := id V31
  have hin34 : ¬ ((2 : Int32) < 0 ∨ cl34.slots.size ≤ ((2 : Int32)).toNatClampNeg) := inb_of S34 ⟨by decide, by decide⟩
  obtain ⟨T35, h35, X35, e35, W35, st35⟩ := stC X31 hx hZ e31 Ar34 (j := (2 : Int32)) hin34 (g := (mkF m 36 #[.val (.int (4 : Int32)), .val (.int p1), .val (.int p2), .val (.int p3), .val (.int p4), .val (.ref b5), .val (.ref b12), .unset, .unset] [(.int p3), (.int (2 : Int32)), (.ref b23), (.ref b23)])) rfl rfl (hb hby d1_36)
  have N35 := Fr.snoc X35 N31 g_b23
  have K36 : Keep h0 h35 [] := K32.wr W35 (Or.inr sz_b23)
  have O37 : Old Z n0 h35 := O33.wr W35 g_b23
  have V35 : Arv Z h35 b23 k23 .char (3 : Int32) [(.int p1.toUInt32.toUInt16.toUInt32.toInt32), (.int p2.toUInt32.toUInt16.toUInt32.toInt32), (.int p3.toUInt32.toUInt16.toUInt32.toInt32)] (.int (0 : Int32)) := Arv.set Ar34 q34 S34 Nn34 Hh34 G34 (fits_nar_char _) W35 2 rfl (Nat.le_of_ble_eq_true rfl)
  obtain ⟨T38, h38, k38, X38, e38, E38, A38, st38⟩ := newP X35 hx hZ (hw _ (List.mem_of_getElem? (i := 4) rfl)) e35 (g := (mkF m 40 #[.val (.int (4 : Int32)), .val (.int p1), .val (.int p2), .val (.int p3), .val (.int p4), .val (.ref b5), .val (.ref b12), .val (.ref b23), .unset] [(.int (4 : Int32))])) rfl (hb hby d1_40) rfl (by decide) (cap := 4) (by decide) (by decide) (by decide) (by decide)
  obtain ⟨b38, g38⟩ : ∃ z, z = h35.size := ⟨_, rfl⟩
  rw [← g38] at A38 st38
  have g_b38 : n0 ≤ b38 := Nat.le_trans (Nat.le_trans Z0 K36.1) (Nat.le_of_eq g38.symm)
  have sz_b38 : h0.size ≤ b38 := Nat.le_trans K36.1 (Nat.le_of_eq g38.symm)
  have K39 : Keep h0 h38 [] := K36.ext E38
  have O40 : Old Z n0 h38 := O37.ext E38
  have V38 : Arv Z h38 b38 k38 .char (4 : Int32) [(.int (0 : Int32)), (.int (0 : Int32)), (.int (0 : Int32)), (.int (0 : Int32))] (.int (0 : Int32)) := (Arv.new A38 (by decide)).pad (pad_rep [] (.int (0 : Int32)) 4)
  replace X38 := X38.more (cells' := 4) (slots' := 10) (by decide) (by decide)
  obtain ⟨cl41, Ar41, q41, S41, Nn41, Hh41, G41⟩ := id V38
  have hin41 : ¬ ((0 : Int32) < 0 ∨ cl41.slots.size ≤ ((0 : Int32)).toNatClampNeg) := inb_of S41 ⟨by decide, by decide⟩
  obtain ⟨T42, h42, X42, e42, W42, st42⟩ := stC X38 hx hZ e38 Ar41 (j := (0 : Int32)) hin41 (g := (mkF m 45 #[.val (.int (4 : Int32)), .val (.int p1), .val (.int p2), .val (.int p3), .val (.int p4), .val (.ref b5), .val (.ref b12), .val (.ref b23), .unset] [(.int p1), (.int (0 : Int32)), (.ref b38), (.ref b38)])) rfl rfl (hb hby d1_45)
  have N42 := Fr.snoc X42 N35 g_b38
  have K43 : Keep h0 h42 [] := K39.wr W42 (Or.inr sz_b38)
  have O44 : Old Z n0 h42 := O40.wr W42 g_b38
  have V42 : Arv Z h42 b38 k38 .char (4 : Int32) [(.int p1.toUInt32.toUInt16.toUInt32.toInt32), (.int (0 : Int32)), (.int (0 : Int32)), (.int (0 : Int32))] (.int (0 : Int32)) := Arv.set Ar41 q41 S41 Nn41 Hh41 G41 (fits_nar_char _) W42 0 rfl (Nat.le_of_ble_eq_true rfl)
  obtain ⟨cl45, Ar45, q45, S45, Nn45, Hh45, G45⟩ := id V42
  have hin45 : ¬ ((1 : Int32) < 0 ∨ cl45.slots.size ≤ ((1 : Int32)).toNatClampNeg) := inb_of S45 ⟨by decide, by decide⟩
  obtain ⟨T46, h46, X46, e46, W46, st46⟩ := stC X42 hx hZ e42 Ar45 (j := (1 : Int32)) hin45 (g := (mkF m 49 #[.val (.int (4 : Int32)), .val (.int p1), .val (.int p2), .val (.int p3), .val (.int p4), .val (.ref b5), .val (.ref b12), .val (.ref b23), .unset] [(.int p2), (.int (1 : Int32)), (.ref b38), (.ref b38)])) rfl rfl (hb hby d1_49)
  have N46 := Fr.snoc X46 N42 g_b38
  have K47 : Keep h0 h46 [] := K43.wr W46 (Or.inr sz_b38)
  have O48 : Old Z n0 h46 := O44.wr W46 g_b38
  have V46 : Arv Z h46 b38 k38 .char (4 : Int32) [(.int p1.toUInt32.toUInt16.toUInt32.toInt32), (.int p2.toUInt32.toUInt16.toUInt32.toInt32), (.int (0 : Int32)), (.int (0 : Int32))] (.int (0 : Int32)) := Arv.set Ar45 q45 S45 Nn45 Hh45 G45 (fits_nar_char _) W46 1 rfl (Nat.le_of_ble_eq_true rfl)
  obtain ⟨cl49, Ar49, q49, S49, Nn49, Hh49, G49⟩ := id V46
  have hin49 : ¬ ((2 : Int32) < 0 ∨ cl49.slots.size ≤ ((2 : Int32)).toNatClampNeg) := inb_of S49 ⟨by decide, by decide⟩
  obtain ⟨T50, h50, X50, e50, W50, st50⟩ := stC X46 hx hZ e46 Ar49 (j := (2 : Int32)) hin49 (g := (mkF m 53 #[.val (.int (4 : Int32)), .val (.int p1), .val (.int p2), .val (.int p3), .val (.int p4), .val (.ref b5), .val (.ref b12), .val (.ref b23), .unset] [(.int p3), (.int (2 : Int32)), (.ref b38), (.ref b38)])) rfl rfl (hb hby d1_53)
  have N50 := Fr.snoc X50 N46 g_b38
  have K51 : Keep h0 h50 [] := K47.wr W50 (Or.inr sz_b38)
  have O52 : Old Z n0 h50 := O48.wr W50 g_b38
  have V50 : Arv Z h50 b38 k38 .char (4 : Int32) [(.int p1.toUInt32.toUInt16.toUInt32.toInt32), (.int p2.toUInt32.toUInt16.toUInt32.toInt32), (.int p3.toUInt32.toUInt16.toUInt32.toInt32), (.int (0 : Int32))] (.int (0 : Int32)) := Arv.set Ar49 q49 S49 Nn49 Hh49 G49 (fits_nar_char _) W50 2 rfl (Nat.le_of_ble_eq_true rfl)
  obtain ⟨cl53, Ar53, q53, S53, Nn53, Hh53, G53⟩ := id V50
  have hin53 : ¬ ((3 : Int32) < 0 ∨ cl53.slots.size ≤ ((3 : Int32)).toNatClampNeg) := inb_of S53 ⟨by decide, by decide⟩
  obtain ⟨T54, h54, X54, e54, W54, st54⟩ := stC X50 hx hZ e50 Ar53 (j := (3 : Int32)) hin53 (g := (mkF m 58 #[.val (.int (4 : Int32)), .val (.int p1), .val (.int p2), .val (.int p3), .val (.int p4), .val (.ref b5), .val (.ref b12), .val (.ref b23), .unset] [(.int p4), (.int (3 : Int32)), (.ref b38), (.ref b38)])) rfl rfl (hb hby d1_58)
  have N54 := Fr.snoc X54 N50 g_b38
  have K55 : Keep h0 h54 [] := K51.wr W54 (Or.inr sz_b38)
  have O56 : Old Z n0 h54 := O52.wr W54 g_b38
  have V54 : Arv Z h54 b38 k38 .char (4 : Int32) [(.int p1.toUInt32.toUInt16.toUInt32.toInt32), (.int p2.toUInt32.toUInt16.toUInt32.toInt32), (.int p3.toUInt32.toUInt16.toUInt32.toInt32), (.int p4.toUInt32.toUInt16.toUInt32.toInt32)] (.int (0 : Int32)) := Arv.set Ar53 q53 S53 Nn53 Hh53 G53 (fits_nar_char _) W54 3 rfl (Nat.le_of_ble_eq_true rfl)
  obtain ⟨T57, h57, X57, e57, E57, A57, D57, -, st57⟩ := newO X54 hx hZ hown (hw _ (List.mem_of_getElem? (i := 5) rfl)) (hw _ (List.mem_of_getElem? (i := 6) rfl)) (hw _ (List.mem_of_getElem? (i := 7) rfl)) e54 (g := (mkF m 106 #[.val (.int (4 : Int32)), .val (.int p1), .val (.int p2), .val (.int p3), .val (.int p4), .val (.ref b5), .val (.ref b12), .val (.ref b23), .val (.ref b38)] [])) rfl (hb hby d1_106) (by decide) (by decide)
  obtain ⟨b57, g57⟩ : ∃ z, z = h54.size := ⟨_, rfl⟩
  rw [← g57] at A57 D57 st57
  have g_b57 : n0 ≤ b57 := Nat.le_trans (Nat.le_trans Z0 K55.1) (Nat.le_of_eq g57.symm)
  have sz_b57 : h0.size ≤ b57 := Nat.le_trans K55.1 (Nat.le_of_eq g57.symm)
  have K58 : Keep h0 h57 [] := K55.ext E57
  have O59 : Old Z n0 h57 := O56.ext E57
  have F_coder_b57 : Fld Z h57 b57 "java/lang/String" "coder" "B" (.int (0 : Int32)) := D57 (Or.inr (hw _ (List.mem_of_getElem? (i := 31) rfl))) (ty := .byte) (by decide)
  have F_value_b57 : Fld Z h57 b57 "java/lang/String" "value" "[B" .null := D57 (Or.inr (hw _ (List.mem_of_getElem? (i := 33) rfl))) (ty := (.array .byte)) (by decide)
  replace X57 := X57.more (cells' := 5) (slots' := 14) (by decide) (by decide)
  have f61 := (V54.ext E57)
  obtain ⟨vr62, _, ⟨T62, L62, k62, n62⟩, -, X62, ⟨Lc62, hQ62, l62, y62, z62⟩, st62⟩ := X57.specialBack hx (y := (⟨"java/lang/String", "<init>", "([C)V"⟩ : MethodName)) rfl hown (mvT hZ (hw _ (List.mem_of_getElem? (i := 8) rfl))) (mvT hZ (hw _ (List.mem_of_getElem? (i := 9) rfl))) (mvT hZ (hw _ (List.mem_of_getElem? (i := 10) rfl))) (by decide) (StrChars.Road.backV (W := 1) hZ (fun d hd => hw d (own_in_words d hd)) (kI := 4) (hw _ (List.mem_of_getElem? (i := 6) rfl)) (cs := [p1.toUInt32.toUInt16.toUInt32.toInt32, p2.toUInt32.toUInt16.toUInt32.toInt32, p3.toUInt32.toUInt16.toUInt32.toInt32, p4.toUInt32.toUInt16.toUInt32.toInt32]) (bs := ([p1.toUInt32.toUInt16.toUInt32.toInt32, p2.toUInt32.toUInt16.toUInt32.toInt32, p3.toUInt32.toUInt16.toUInt32.toInt32, p4.toUInt32.toUInt16.toUInt32.toInt32] : List Int32).map (fun c => c.toInt8.toInt32)) (n := 4) g_b57 (Nat.le_trans Z0 K58.1) A57 F_value_b57 F_coder_b57 f61 (S_COMPACT_STRINGS.ext O59.2) hzcs rfl rfl (by decide) (by decide) hch112 rfl (by decide) (by decide)) (g := (mkF m 112 #[.val (.int (4 : Int32)), .val (.int p1), .val (.int p2), .val (.int p3), .val (.int p4), .val (.ref b5), .val (.ref b12), .val (.ref b23), .val (.ref b38)] [(.ref b38), (.ref b57), (.ref b57)])) rfl (by rw [hml]; rfl) (Steps.refl _) (a := b57) (argsL := [(.ref b38)]) (rest := [(.ref b57)]) (lenOf pd_15 rfl) rfl (by show 2 * 0 + _ ≤ _; exact Nat.le_of_eq rfl) (hb hby d1_112) (fun _ _ => ⟨rfl, e57, (by decide : 5 + 1 ≤ _), (by decide : 14 + 4 ≤ _)⟩)
  dsimp only [Pt.U, Pt.locs, Pt.cells, Pt.slots] at X62 l62 y62 z62 st62 hQ62
  subst l62 y62 z62
  obtain ⟨rfl, N62q, K62, sE62, sC62, st62_t, sk62, -, sz62, -, sV62, sA62⟩ := hQ62
  have N62 := Fr.app N54 N62q
  replace X62 := X62.more (cells' := 6) (slots' := 18) (by decide) (by decide)
  have K63 : Keep h0 T62.heap [] := K58.trans K62 (allS (Or.inr sz_b57) all0)
  have O64 : Old Z n0 T62.heap := O59.keep K62 (allS g_b57 all0)
  have tS62 : own_Str Z T62.heap T62.heap.size b57 [p1.toUInt32.toUInt16.toUInt32.toInt32, p2.toUInt32.toUInt16.toUInt32.toInt32, p3.toUInt32.toUInt16.toUInt32.toInt32, p4.toUInt32.toUInt16.toUInt32.toInt32] := ⟨⟨sE62.lt, Nat.le_of_ble_eq_true rfl, hch112⟩, st62_t, sk62, sA62.lt, sE62, sV62, sC62, sA62⟩
  obtain ⟨fs, hr, hrun, hended, hW, hsame⟩ := X62.leave (v := some (.ref b57)) (fun h => by rw [Bd.returns] at h; cases h)
  refine ⟨_, _, pre0 _ ?_, hrun, hended, _, _, rfl, ?_, ⟨_, rfl⟩, hW, hsame.mono (by decide) (by decide)⟩
  · show Steps p.tables e below (s₁.setTop (mkF m 0 #[.val (.int (4 : Int32)), .val (.int p1), .val (.int p2), .val (.int p3), .val (.int p4), .unset, .unset, .unset, .unset] [])) _
    refine XS.iconst X0.here hx rfl (hb hby d1_0) ?_
    show Steps p.tables e below (s₁.setTop (mkF m 1 #[.val (.int (4 : Int32)), .val (.int p1), .val (.int p2), .val (.int p3), .val (.int p4), .unset, .unset, .unset, .unset] [(.int (1 : Int32))])) _
    refine st5 _ ?_
    show Steps p.tables e below (T5.setTop (mkF m 3 #[.val (.int (4 : Int32)), .val (.int p1), .val (.int p2), .val (.int p3), .val (.int p4), .unset, .unset, .unset, .unset] [(.ref b5)])) _
    refine XS.dup X5.here hx rfl (hb hby d1_3) rfl rfl ?_
    show Steps p.tables e below (T5.setTop (mkF m 4 #[.val (.int (4 : Int32)), .val (.int p1), .val (.int p2), .val (.int p3), .val (.int p4), .unset, .unset, .unset, .unset] [(.ref b5), (.ref b5)])) _
    refine XS.iconst X5.here hx rfl (hb hby d1_4) ?_
    show Steps p.tables e below (T5.setTop (mkF m 5 #[.val (.int (4 : Int32)), .val (.int p1), .val (.int p2), .val (.int p3), .val (.int p4), .unset, .unset, .unset, .unset] [(.int (0 : Int32)), (.ref b5), (.ref b5)])) _
    refine XS.iloadN X5.here hx rfl (hb hby d1_5) rfl ?_
    show Steps p.tables e below (T5.setTop (mkF m 6 #[.val (.int (4 : Int32)), .val (.int p1), .val (.int p2), .val (.int p3), .val (.int p4), .unset, .unset, .unset, .unset] [(.int p1), (.int (0 : Int32)), (.ref b5), (.ref b5)])) _
    refine st9 _ ?_
    show Steps p.tables e below (T9.setTop (mkF m 7 #[.val (.int (4 : Int32)), .val (.int p1), .val (.int p2), .val (.int p3), .val (.int p4), .unset, .unset, .unset, .unset] [(.ref b5)])) _
    refine XS.astore X9.here hx rfl (hb hby d1_7) rfl rfl (l' := #[.val (.int (4 : Int32)), .val (.int p1), .val (.int p2), .val (.int p3), .val (.int p4), .val (.ref b5), .unset, .unset, .unset]) rfl ?_
    show Steps p.tables e below (T9.setTop (mkF m 9 #[.val (.int (4 : Int32)), .val (.int p1), .val (.int p2), .val (.int p3), .val (.int p4), .val (.ref b5), .unset, .unset, .unset] [])) _
    refine XS.iconst X9.here hx rfl (hb hby d1_9) ?_
    show Steps p.tables e below (T9.setTop (mkF m 10 #[.val (.int (4 : Int32)), .val (.int p1), .val (.int p2), .val (.int p3), .val (.int p4), .val (.ref b5), .unset, .unset, .unset] [(.int (2 : Int32))])) _
    refine st12 _ ?_
    show Steps p.tables e below (T12.setTop (mkF m 12 #[.val (.int (4 : Int32)), .val (.int p1), .val (.int p2), .val (.int p3), .val (.int p4), .val (.ref b5), .unset, .unset, .unset] [(.ref b12)])) _
    refine XS.dup X12.here hx rfl (hb hby d1_12) rfl rfl ?_
    show Steps p.tables e below (T12.setTop (mkF m 13 #[.val (.int (4 : Int32)), .val (.int p1), .val (.int p2), .val (.int p3), .val (.int p4), .val (.ref b5), .unset, .unset, .unset] [(.ref b12), (.ref b12)])) _
    refine XS.iconst X12.here hx rfl (hb hby d1_13) ?_
    show Steps p.tables e below (T12.setTop (mkF m 14 #[.val (.int (4 : Int32)), .val (.int p1), .val (.int p2), .val (.int p3), .val (.int p4), .val (.ref b5), .unset, .unset, .unset] [(.int (0 : Int32)), (.ref b12), (.ref b12)])) _
    refine XS.iloadN X12.here hx rfl (hb hby d1_14) rfl ?_
    show Steps p.tables e below (T12.setTop (mkF m 15 #[.val (.int (4 : Int32)), .val (.int p1), .val (.int p2), .val (.int p3), .val (.int p4), .val (.ref b5), .unset, .unset, .unset] [(.int p1), (.int (0 : Int32)), (.ref b12), (.ref b12)])) _
    refine st16 _ ?_
    show Steps p.tables e below (T16.setTop (mkF m 16 #[.val (.int (4 : Int32)), .val (.int p1), .val (.int p2), .val (.int p3), .val (.int p4), .val (.ref b5), .unset, .unset, .unset] [(.ref b12)])) _
    refine XS.dup X16.here hx rfl (hb hby d1_16) rfl rfl ?_
    show Steps p.tables e below (T16.setTop (mkF m 17 #[.val (.int (4 : Int32)), .val (.int p1), .val (.int p2), .val (.int p3), .val (.int p4), .val (.ref b5), .unset, .unset, .unset] [(.ref b12), (.ref b12)])) _
    refine XS.iconst X16.here hx rfl (hb hby d1_17) ?_
    show Steps p.tables e below (T16.setTop (mkF m 18 #[.val (.int (4 : Int32)), .val (.int p1), .val (.int p2), .val (.int p3), .val (.int p4), .val (.ref b5), .unset, .unset, .unset] [(.int (1 : Int32)), (.ref b12), (.ref b12)])) _
    refine XS.iloadN X16.here hx rfl (hb hby d1_18) rfl ?_
    show Steps p.tables e below (T16.setTop (mkF m 19 #[.val (.int (4 : Int32)), .val (.int p1), .val (.int p2), .val (.int p3), .val (.int p4), .val (.ref b5), .unset, .unset, .unset] [(.int p2), (.int (1 : Int32)), (.ref b12), (.ref b12)])) _
    refine st20 _ ?_
    show Steps p.tables e below (T20.setTop (mkF m 20 #[.val (.int (4 : Int32)), .val (.int p1), .val (.int p2), .val (.int p3), .val (.int p4), .val (.ref b5), .unset, .unset, .unset] [(.ref b12)])) _
    refine XS.astore X20.here hx rfl (hb hby d1_20) rfl rfl (l' := #[.val (.int (4 : Int32)), .val (.int p1), .val (.int p2), .val (.int p3), .val (.int p4), .val (.ref b5), .val (.ref b12), .unset, .unset]) rfl ?_
    show Steps p.tables e below (T20.setTop (mkF m 22 #[.val (.int (4 : Int32)), .val (.int p1), .val (.int p2), .val (.int p3), .val (.int p4), .val (.ref b5), .val (.ref b12), .unset, .unset] [])) _
    refine XS.iconst X20.here hx rfl (hb hby d1_22) ?_
    show Steps p.tables e below (T20.setTop (mkF m 23 #[.val (.int (4 : Int32)), .val (.int p1), .val (.int p2), .val (.int p3), .val (.int p4), .val (.ref b5), .val (.ref b12), .unset, .unset] [(.int (3 : Int32))])) _
    refine st23 _ ?_
    show Steps p.tables e below (T23.setTop (mkF m 25 #[.val (.int (4 : Int32)), .val (.int p1), .val (.int p2), .val (.int p3), .val (.int p4), .val (.ref b5), .val (.ref b12), .unset, .unset] [(.ref b23)])) _
    refine XS.dup X23.here hx rfl (hb hby d1_25) rfl rfl ?_
    show Steps p.tables e below (T23.setTop (mkF m 26 #[.val (.int (4 : Int32)), .val (.int p1), .val (.int p2), .val (.int p3), .val (.int p4), .val (.ref b5), .val (.ref b12), .unset, .unset] [(.ref b23), (.ref b23)])) _
    refine XS.iconst X23.here hx rfl (hb hby d1_26) ?_
    show Steps p.tables e below (T23.setTop (mkF m 27 #[.val (.int (4 : Int32)), .val (.int p1), .val (.int p2), .val (.int p3), .val (.int p4), .val (.ref b5), .val (.ref b12), .unset, .unset] [(.int (0 : Int32)), (.ref b23), (.ref b23)])) _
    refine XS.iloadN X23.here hx rfl (hb hby d1_27) rfl ?_
    show Steps p.tables e below (T23.setTop (mkF m 28 #[.val (.int (4 : Int32)), .val (.int p1), .val (.int p2), .val (.int p3), .val (.int p4), .val (.ref b5), .val (.ref b12), .unset, .unset] [(.int p1), (.int (0 : Int32)), (.ref b23), (.ref b23)])) _
    refine st27 _ ?_
    show Steps p.tables e below (T27.setTop (mkF m 29 #[.val (.int (4 : Int32)), .val (.int p1), .val (.int p2), .val (.int p3), .val (.int p4), .val (.ref b5), .val (.ref b12), .unset, .unset] [(.ref b23)])) _
    refine XS.dup X27.here hx rfl (hb hby d1_29) rfl rfl ?_
    show Steps p.tables e below (T27.setTop (mkF m 30 #[.val (.int (4 : Int32)), .val (.int p1), .val (.int p2), .val (.int p3), .val (.int p4), .val (.ref b5), .val (.ref b12), .unset, .unset] [(.ref b23), (.ref b23)])) _
    refine XS.iconst X27.here hx rfl (hb hby d1_30) ?_
    show Steps p.tables e below (T27.setTop (mkF m 31 #[.val (.int (4 : Int32)), .val (.int p1), .val (.int p2), .val (.int p3), .val (.int p4), .val (.ref b5), .val (.ref b12), .unset, .unset] [(.int (1 : Int32)), (.ref b23), (.ref b23)])) _
    refine XS.iloadN X27.here hx rfl (hb hby d1_31) rfl ?_
    show Steps p.tables e below (T27.setTop (mkF m 32 #[.val (.int (4 : Int32)), .val (.int p1), .val (.int p2), .val (.int p3), .val (.int p4), .val (.ref b5), .val (.ref b12), .unset, .unset] [(.int p2), (.int (1 : Int32)), (.ref b23), (.ref b23)])) _
    refine st31 _ ?_
    show Steps p.tables e below (T31.setTop (mkF m 33 #[.val (.int (4 : Int32)), .val (.int p1), .val (.int p2), .val (.int p3), .val (.int p4), .val (.ref b5), .val (.ref b12), .unset, .unset] [(.ref b23)])) _
    refine XS.dup X31.here hx rfl (hb hby d1_33) rfl rfl ?_
    show Steps p.tables e below (T31.setTop (mkF m 34 #[.val (.int (4 : Int32)), .val (.int p1), .val (.int p2), .val (.int p3), .val (.int p4), .val (.ref b5), .val (.ref b12), .unset, .unset] [(.ref b23), (.ref b23)])) _
    refine XS.iconst X31.here hx rfl (hb hby d1_34) ?_
    show Steps p.tables e below (T31.setTop (mkF m 35 #[.val (.int (4 : Int32)), .val (.int p1), .val (.int p2), .val (.int p3), .val (.int p4), .val (.ref b5), .val (.ref b12), .unset, .unset] [(.int (2 : Int32)), (.ref b23), (.ref b23)])) _
    refine XS.iloadN X31.here hx rfl (hb hby d1_35) rfl ?_
    show Steps p.tables e below (T31.setTop (mkF m 36 #[.val (.int (4 : Int32)), .val (.int p1), .val (.int p2), .val (.int p3), .val (.int p4), .val (.ref b5), .val (.ref b12), .unset, .unset] [(.int p3), (.int (2 : Int32)), (.ref b23), (.ref b23)])) _
    refine st35 _ ?_
    show Steps p.tables e below (T35.setTop (mkF m 37 #[.val (.int (4 : Int32)), .val (.int p1), .val (.int p2), .val (.int p3), .val (.int p4), .val (.ref b5), .val (.ref b12), .unset, .unset] [(.ref b23)])) _
    refine XS.astore X35.here hx rfl (hb hby d1_37) rfl rfl (l' := #[.val (.int (4 : Int32)), .val (.int p1), .val (.int p2), .val (.int p3), .val (.int p4), .val (.ref b5), .val (.ref b12), .val (.ref b23), .unset]) rfl ?_
    show Steps p.tables e below (T35.setTop (mkF m 39 #[.val (.int (4 : Int32)), .val (.int p1), .val (.int p2), .val (.int p3), .val (.int p4), .val (.ref b5), .val (.ref b12), .val (.ref b23), .unset] [])) _
    refine XS.iconst X35.here hx rfl (hb hby d1_39) ?_
    show Steps p.tables e below (T35.setTop (mkF m 40 #[.val (.int (4 : Int32)), .val (.int p1), .val (.int p2), .val (.int p3), .val (.int p4), .val (.ref b5), .val (.ref b12), .val (.ref b23), .unset] [(.int (4 : Int32))])) _
    refine st38 _ ?_
    show Steps p.tables e below (T38.setTop (mkF m 42 #[.val (.int (4 : Int32)), .val (.int p1), .val (.int p2), .val (.int p3), .val (.int p4), .val (.ref b5), .val (.ref b12), .val (.ref b23), .unset] [(.ref b38)])) _
    refine XS.dup X38.here hx rfl (hb hby d1_42) rfl rfl ?_
    show Steps p.tables e below (T38.setTop (mkF m 43 #[.val (.int (4 : Int32)), .val (.int p1), .val (.int p2), .val (.int p3), .val (.int p4), .val (.ref b5), .val (.ref b12), .val (.ref b23), .unset] [(.ref b38), (.ref b38)])) _
    refine XS.iconst X38.here hx rfl (hb hby d1_43) ?_
    show Steps p.tables e below (T38.setTop (mkF m 44 #[.val (.int (4 : Int32)), .val (.int p1), .val (.int p2), .val (.int p3), .val (.int p4), .val (.ref b5), .val (.ref b12), .val (.ref b23), .unset] [(.int (0 : Int32)), (.ref b38), (.ref b38)])) _
    refine XS.iloadN X38.here hx rfl (hb hby d1_44) rfl ?_
    show Steps p.tables e below (T38.setTop (mkF m 45 #[.val (.int (4 : Int32)), .val (.int p1), .val (.int p2), .val (.int p3), .val (.int p4), .val (.ref b5), .val (.ref b12), .val (.ref b23), .unset] [(.int p1), (.int (0 : Int32)), (.ref b38), (.ref b38)])) _
    refine st42 _ ?_
    show Steps p.tables e below (T42.setTop (mkF m 46 #[.val (.int (4 : Int32)), .val (.int p1), .val (.int p2), .val (.int p3), .val (.int p4), .val (.ref b5), .val (.ref b12), .val (.ref b23), .unset] [(.ref b38)])) _
    refine XS.dup X42.here hx rfl (hb hby d1_46) rfl rfl ?_
    show Steps p.tables e below (T42.setTop (mkF m 47 #[.val (.int (4 : Int32)), .val (.int p1), .val (.int p2), .val (.int p3), .val (.int p4), .val (.ref b5), .val (.ref b12), .val (.ref b23), .unset] [(.ref b38), (.ref b38)])) _
    refine XS.iconst X42.here hx rfl (hb hby d1_47) ?_
    show Steps p.tables e below (T42.setTop (mkF m 48 #[.val (.int (4 : Int32)), .val (.int p1), .val (.int p2), .val (.int p3), .val (.int p4), .val (.ref b5), .val (.ref b12), .val (.ref b23), .unset] [(.int (1 : Int32)), (.ref b38), (.ref b38)])) _
    refine XS.iloadN X42.here hx rfl (hb hby d1_48) rfl ?_
    show Steps p.tables e below (T42.setTop (mkF m 49 #[.val (.int (4 : Int32)), .val (.int p1), .val (.int p2), .val (.int p3), .val (.int p4), .val (.ref b5), .val (.ref b12), .val (.ref b23), .unset] [(.int p2), (.int (1 : Int32)), (.ref b38), (.ref b38)])) _
    refine st46 _ ?_
    show Steps p.tables e below (T46.setTop (mkF m 50 #[.val (.int (4 : Int32)), .val (.int p1), .val (.int p2), .val (.int p3), .val (.int p4), .val (.ref b5), .val (.ref b12), .val (.ref b23), .unset] [(.ref b38)])) _
    refine XS.dup X46.here hx rfl (hb hby d1_50) rfl rfl ?_
    show Steps p.tables e below (T46.setTop (mkF m 51 #[.val (.int (4 : Int32)), .val (.int p1), .val (.int p2), .val (.int p3), .val (.int p4), .val (.ref b5), .val (.ref b12), .val (.ref b23), .unset] [(.ref b38), (.ref b38)])) _
    refine XS.iconst X46.here hx rfl (hb hby d1_51) ?_
    show Steps p.tables e below (T46.setTop (mkF m 52 #[.val (.int (4 : Int32)), .val (.int p1), .val (.int p2), .val (.int p3), .val (.int p4), .val (.ref b5), .val (.ref b12), .val (.ref b23), .unset] [(.int (2 : Int32)), (.ref b38), (.ref b38)])) _
    refine XS.iloadN X46.here hx rfl (hb hby d1_52) rfl ?_
    show Steps p.tables e below (T46.setTop (mkF m 53 #[.val (.int (4 : Int32)), .val (.int p1), .val (.int p2), .val (.int p3), .val (.int p4), .val (.ref b5), .val (.ref b12), .val (.ref b23), .unset] [(.int p3), (.int (2 : Int32)), (.ref b38), (.ref b38)])) _
    refine st50 _ ?_
    show Steps p.tables e below (T50.setTop (mkF m 54 #[.val (.int (4 : Int32)), .val (.int p1), .val (.int p2), .val (.int p3), .val (.int p4), .val (.ref b5), .val (.ref b12), .val (.ref b23), .unset] [(.ref b38)])) _
    refine XS.dup X50.here hx rfl (hb hby d1_54) rfl rfl ?_
    show Steps p.tables e below (T50.setTop (mkF m 55 #[.val (.int (4 : Int32)), .val (.int p1), .val (.int p2), .val (.int p3), .val (.int p4), .val (.ref b5), .val (.ref b12), .val (.ref b23), .unset] [(.ref b38), (.ref b38)])) _
    refine XS.iconst X50.here hx rfl (hb hby d1_55) ?_
    show Steps p.tables e below (T50.setTop (mkF m 56 #[.val (.int (4 : Int32)), .val (.int p1), .val (.int p2), .val (.int p3), .val (.int p4), .val (.ref b5), .val (.ref b12), .val (.ref b23), .unset] [(.int (3 : Int32)), (.ref b38), (.ref b38)])) _
    refine XS.iload X50.here hx rfl (hb hby d1_56) rfl ?_
    show Steps p.tables e below (T50.setTop (mkF m 58 #[.val (.int (4 : Int32)), .val (.int p1), .val (.int p2), .val (.int p3), .val (.int p4), .val (.ref b5), .val (.ref b12), .val (.ref b23), .unset] [(.int p4), (.int (3 : Int32)), (.ref b38), (.ref b38)])) _
    refine st54 _ ?_
    show Steps p.tables e below (T54.setTop (mkF m 59 #[.val (.int (4 : Int32)), .val (.int p1), .val (.int p2), .val (.int p3), .val (.int p4), .val (.ref b5), .val (.ref b12), .val (.ref b23), .unset] [(.ref b38)])) _
    refine XS.astore X54.here hx rfl (hb hby d1_59) rfl rfl (l' := #[.val (.int (4 : Int32)), .val (.int p1), .val (.int p2), .val (.int p3), .val (.int p4), .val (.ref b5), .val (.ref b12), .val (.ref b23), .val (.ref b38)]) rfl ?_
    show Steps p.tables e below (T54.setTop (mkF m 61 #[.val (.int (4 : Int32)), .val (.int p1), .val (.int p2), .val (.int p3), .val (.int p4), .val (.ref b5), .val (.ref b12), .val (.ref b23), .val (.ref b38)] [])) _
    refine XS.iloadN X54.here hx rfl (hb hby d1_61) rfl ?_
    show Steps p.tables e below (T54.setTop (mkF m 62 #[.val (.int (4 : Int32)), .val (.int p1), .val (.int p2), .val (.int p3), .val (.int p4), .val (.ref b5), .val (.ref b12), .val (.ref b23), .val (.ref b38)] [(.int (4 : Int32))])) _
    refine XS.iconst X54.here hx rfl (hb hby d1_62) ?_
    show Steps p.tables e below (T54.setTop (mkF m 63 #[.val (.int (4 : Int32)), .val (.int p1), .val (.int p2), .val (.int p3), .val (.int p4), .val (.ref b5), .val (.ref b12), .val (.ref b23), .val (.ref b38)] [(.int (1 : Int32)), (.int (4 : Int32))])) _
    refine XS.icmpYes X54.here hx rfl (pc0 := 63) (pc' := 76) rfl (hb hby d1_63) rfl (feq (by decide : ¬ ((4 : Int32) = (1 : Int32)))).2 (by decide) (by decide) ?_
    show Steps p.tables e below (T54.setTop (mkF m 76 #[.val (.int (4 : Int32)), .val (.int p1), .val (.int p2), .val (.int p3), .val (.int p4), .val (.ref b5), .val (.ref b12), .val (.ref b23), .val (.ref b38)] [])) _
    refine XS.iloadN X54.here hx rfl (hb hby d1_76) rfl ?_
    show Steps p.tables e below (T54.setTop (mkF m 77 #[.val (.int (4 : Int32)), .val (.int p1), .val (.int p2), .val (.int p3), .val (.int p4), .val (.ref b5), .val (.ref b12), .val (.ref b23), .val (.ref b38)] [(.int (4 : Int32))])) _
    refine XS.iconst X54.here hx rfl (hb hby d1_77) ?_
    show Steps p.tables e below (T54.setTop (mkF m 78 #[.val (.int (4 : Int32)), .val (.int p1), .val (.int p2), .val (.int p3), .val (.int p4), .val (.ref b5), .val (.ref b12), .val (.ref b23), .val (.ref b38)] [(.int (2 : Int32)), (.int (4 : Int32))])) _
    refine XS.icmpYes X54.here hx rfl (pc0 := 78) (pc' := 91) rfl (hb hby d1_78) rfl (feq (by decide : ¬ ((4 : Int32) = (2 : Int32)))).2 (by decide) (by decide) ?_
    show Steps p.tables e below (T54.setTop (mkF m 91 #[.val (.int (4 : Int32)), .val (.int p1), .val (.int p2), .val (.int p3), .val (.int p4), .val (.ref b5), .val (.ref b12), .val (.ref b23), .val (.ref b38)] [])) _
    refine XS.iloadN X54.here hx rfl (hb hby d1_91) rfl ?_
    show Steps p.tables e below (T54.setTop (mkF m 92 #[.val (.int (4 : Int32)), .val (.int p1), .val (.int p2), .val (.int p3), .val (.int p4), .val (.ref b5), .val (.ref b12), .val (.ref b23), .val (.ref b38)] [(.int (4 : Int32))])) _
    refine XS.iconst X54.here hx rfl (hb hby d1_92) ?_
    show Steps p.tables e below (T54.setTop (mkF m 93 #[.val (.int (4 : Int32)), .val (.int p1), .val (.int p2), .val (.int p3), .val (.int p4), .val (.ref b5), .val (.ref b12), .val (.ref b23), .val (.ref b38)] [(.int (3 : Int32)), (.int (4 : Int32))])) _
    refine XS.icmpYes X54.here hx rfl (pc0 := 93) (pc' := 106) rfl (hb hby d1_93) rfl (feq (by decide : ¬ ((4 : Int32) = (3 : Int32)))).2 (by decide) (by decide) ?_
    show Steps p.tables e below (T54.setTop (mkF m 106 #[.val (.int (4 : Int32)), .val (.int p1), .val (.int p2), .val (.int p3), .val (.int p4), .val (.ref b5), .val (.ref b12), .val (.ref b23), .val (.ref b38)] [])) _
    refine st57 _ ?_
    show Steps p.tables e below (T57.setTop (mkF m 109 #[.val (.int (4 : Int32)), .val (.int p1), .val (.int p2), .val (.int p3), .val (.int p4), .val (.ref b5), .val (.ref b12), .val (.ref b23), .val (.ref b38)] [(.ref b57)])) _
    refine XS.dup X57.here hx rfl (hb hby d1_109) rfl rfl ?_
    show Steps p.tables e below (T57.setTop (mkF m 110 #[.val (.int (4 : Int32)), .val (.int p1), .val (.int p2), .val (.int p3), .val (.int p4), .val (.ref b5), .val (.ref b12), .val (.ref b23), .val (.ref b38)] [(.ref b57), (.ref b57)])) _
    refine XS.aload X57.here hx rfl (hb hby d1_110) rfl rfl ?_
    show Steps p.tables e below (T57.setTop (mkF m 112 #[.val (.int (4 : Int32)), .val (.int p1), .val (.int p2), .val (.int p3), .val (.int p4), .val (.ref b5), .val (.ref b12), .val (.ref b23), .val (.ref b38)] [(.ref b38), (.ref b57), (.ref b57)])) _
    refine st62.trans ?_
    show Steps p.tables e below (T62.setTop (mkF m 115 #[.val (.int (4 : Int32)), .val (.int p1), .val (.int p2), .val (.int p3), .val (.int p4), .val (.ref b5), .val (.ref b12), .val (.ref b23), .val (.ref b38)] [(.ref b57)])) _
    exact own_retR X62 hx Bd.returns rfl rfl (hb hby d1_115) hr
  · show Q1n4 Z p1 p2 p3 p4 w60 h0 n0 _ T62.heap _
    exact ⟨b57, rfl, N62, K63, sz_b57, (own_Str.exa tS62), (own_Str.top tS62)⟩
theorem d9_0 : decode jdk_32_method_1_code 0 = .ok (.getstatic 1, 3) := by decide +kernel
theorem d9_3 : decode jdk_32_method_1_code 3 = .ok (.astore_n 0, 1) := by decide +kernel
theorem d9_4 : decode jdk_32_method_1_code 4 = .ok (.aload_n 0, 1) := by decide +kernel
theorem d9_5 : decode jdk_32_method_1_code 5 = .ok (.areturn, 1) := by decide +kernel
def Q9 (Z : State) (w1 : Addr) (h0 : Heap) (n0 : Nat) (v : Option Value) (h : Heap) (L : List Loc) : Prop := v = some (.ref w1) ∧ Fr n0 L ∧ h = h0
theorem ef_9 (m : MethodId)  : entryFrame m #[] 1 = mkF m 0 #[.unset] [] := by first | (simp [entryFrame, mkF, argsToLocals, Value.category]; done) | rfl
theorem pnc_java_util_Optional : plainName "java/util/Optional" = true := by first | (simp [plainName, overriddenIn]; done) | decide +kernel
set_option maxRecDepth 65536 in
set_option maxHeartbeats 40000000 in
theorem rm9 (l : Launch) (Z : State) (a0 : Array Value) (hw : ∀ d ∈ tables_1, d.before a0 Z = true) (ws : List Jvm.Cond) (w1 : Addr) (h0 : Heap) (n0 : Nat) (O0 : Old Z n0 h0) (S_EMPTY : Sta Z Z.heap "java/util/Optional" "EMPTY" "Ljava/util/Optional;" (.ref w1)) :
    MetFree l (⟨"java/util/Optional", "empty", "()Ljava/util/Optional;"⟩ : MethodName) (head1 (Jvm.Cond.code (⟨"java/util/Optional", "empty", "()Ljava/util/Optional;"⟩ : MethodName) jdk_32_method_1_code 1 (some (.object "java/util/Optional")) :: ws) ({ frames := 0, cells := 0, slots := 0, locals := 0 } : Room)) (fun a U => a = #[] ∧ Z.Warmed39 U.vm ∧ U.heap = h0) (fun _ _ _ _ _ => True) (fun _ U o U' => ∃ v L, o = .returned v ∧ Q9 Z w1 h0 n0 v U'.heap L ∧ FrameEnd U o U' L ({ frames := 0, cells := 0, slots := 0, locals := 0 } : Room).cells ({ frames := 0, cells := 0, slots := 0, locals := 0 } : Room).slots) := by
  refine MetFree.of_bodySF (plainFor_of_name pnc_java_util_Optional) hisR ?_
  intro p e s m args below meth c s₁ Bd hml0 hP hK
  obtain ⟨rfl, hZ, hh⟩ := hP
  have hx := Bd.exec
  have hby := Bd.bytes
  have hml : c.maxLocals = 1 := hml0
  have hown : s.vm.findClass "java/util/Optional" = some m.cls := findClass_of_methodNamed Bd.named
  have hnm := (name_of_methodNamed Bd.named Bd.method).1
  have X0 : Stand p l e ({ frames := 0, cells := 0, slots := 0, locals := 0 } : Room) s m #[] below meth c s₁ [] 0 0 := Stand.of_body Bd
  have e0 : s₁.heap = h0 := by rw [← hh, Bd.state]; rfl
  have N0 := Fr.nil n0
  have Z0 : n0 ≤ h0.size := O0.1 ▸ O0.2.1
  have pre0 : ∀ t, Steps p.tables e below (s₁.setTop (mkF m 0 #[.unset] [])) t → Steps p.tables e below (s₁.setTop (entryFrame m #[] 1)) t := fun t k => castTop (ef_9 m ) k
  obtain ⟨T2, X2, e2, st2⟩ := getS2 X0 hx hZ hown (host := "") (Or.inl (hw _ (List.mem_of_getElem? (i := 44) rfl))) Via.refl e0 (S_EMPTY.ext O0.2) (g := (mkF m 0 #[.unset] [])) rfl (hb hby d9_0)
  obtain ⟨fs, hr, hrun, hended, hW, hsame⟩ := X2.leave (v := some (.ref w1)) (fun h => by rw [Bd.returns] at h; cases h)
  refine ⟨_, _, pre0 _ ?_, hrun, hended, _, _, rfl, ?_, ⟨_, rfl⟩, hW, hsame.mono (by decide) (by decide)⟩
  · show Steps p.tables e below (s₁.setTop (mkF m 0 #[.unset] [])) _
    refine st2 _ ?_
    show Steps p.tables e below (T2.setTop (mkF m 3 #[.unset] [(.ref w1)])) _
    refine XS.astoreN X2.here hx rfl (hb hby d9_3) rfl rfl (l' := #[.val (.ref w1)]) rfl ?_
    show Steps p.tables e below (T2.setTop (mkF m 4 #[.val (.ref w1)] [])) _
    refine XS.aloadN X2.here hx rfl (hb hby d9_4) rfl rfl ?_
    show Steps p.tables e below (T2.setTop (mkF m 5 #[.val (.ref w1)] [(.ref w1)])) _
    exact own_retR X2 hx Bd.returns rfl rfl (hb hby d9_5) hr
  · show Q9 Z w1 h0 n0 _ T2.heap _
    rw [e2]
    exact ⟨rfl, N0, rfl⟩
theorem d12_0 : decode jdk_32_method_6_code 0 = .ok (.aload_n 0, 1) := by decide +kernel
theorem d12_1 : decode jdk_32_method_6_code 1 = .ok (.getfield 13, 3) := by decide +kernel
theorem d12_4 : decode jdk_32_method_6_code 4 = .ok (.ifnull 7, 3) := by decide +kernel
theorem d12_11 : decode jdk_32_method_6_code 11 = .ok (.iconst 0, 1) := by decide +kernel
theorem d12_12 : decode jdk_32_method_6_code 12 = .ok (.ireturn, 1) := by decide +kernel
def Q12 (Z : State) (a1 : Addr) (h0 : Heap) (n0 : Nat) (v : Option Value) (h : Heap) (L : List Loc) : Prop := v = some (.int (0 : Int32)) ∧ Fr n0 L ∧ h = h0
theorem ef_12 (m : MethodId) (x0 : Addr) : entryFrame m #[(.ref x0)] 1 = mkF m 0 #[.val (.ref x0)] [] := by first | (simp [entryFrame, mkF, argsToLocals, Value.category]; done) | rfl
set_option maxRecDepth 65536 in
set_option maxHeartbeats 40000000 in
theorem rm12 (l : Launch) (Z : State) (a0 : Array Value) (hw : ∀ d ∈ tables_1, d.before a0 Z = true) (ws : List Jvm.Cond) (a1 : Addr) (h0 : Heap) (n0 : Nat) (O0 : Old Z n0 h0) (HF_a1_value : Fld Z h0 a1 "java/util/Optional" "value" "Ljava/lang/Object;" .null) :
    MetFree l (⟨"java/util/Optional", "isPresent", "()Z"⟩ : MethodName) (head1 (Jvm.Cond.code (⟨"java/util/Optional", "isPresent", "()Z"⟩ : MethodName) jdk_32_method_6_code 1 (some .boolean) :: ws) ({ frames := 0, cells := 0, slots := 0, locals := 0 } : Room)) (fun a U => a = #[(.ref a1)] ∧ Z.Warmed39 U.vm ∧ U.heap = h0) (fun _ _ _ _ _ => True) (fun _ U o U' => ∃ v L, o = .returned v ∧ Q12 Z a1 h0 n0 v U'.heap L ∧ FrameEnd U o U' L ({ frames := 0, cells := 0, slots := 0, locals := 0 } : Room).cells ({ frames := 0, cells := 0, slots := 0, locals := 0 } : Room).slots) := by
  refine MetFree.of_bodySF (plainFor_of_name pnc_java_util_Optional) hisR ?_
  intro p e s m args below meth c s₁ Bd hml0 hP hK
  obtain ⟨rfl, hZ, hh⟩ := hP
  have hx := Bd.exec
  have hby := Bd.bytes
  have hml : c.maxLocals = 1 := hml0
  have hown : s.vm.findClass "java/util/Optional" = some m.cls := findClass_of_methodNamed Bd.named
  have hnm := (name_of_methodNamed Bd.named Bd.method).1
  have X0 : Stand p l e ({ frames := 0, cells := 0, slots := 0, locals := 0 } : Room) s m #[(.ref a1)] below meth c s₁ [] 0 0 := Stand.of_body Bd
  have e0 : s₁.heap = h0 := by rw [← hh, Bd.state]; rfl
  have N0 := Fr.nil n0
  have Z0 : n0 ≤ h0.size := O0.1 ▸ O0.2.1
  have pre0 : ∀ t, Steps p.tables e below (s₁.setTop (mkF m 0 #[.val (.ref a1)] [])) t → Steps p.tables e below (s₁.setTop (entryFrame m #[(.ref a1)] 1)) t := fun t k => castTop (ef_12 m a1) k
  obtain ⟨T2, X2, e2, st2⟩ := getF X0 hx hZ hown (host := "") (Or.inl (hw _ (List.mem_of_getElem? (i := 59) rfl))) Via.refl e0 HF_a1_value (g := (mkF m 1 #[.val (.ref a1)] [(.ref a1)])) rfl rfl (hb hby d12_1)
  obtain ⟨fs, hr, hrun, hended, hW, hsame⟩ := X2.leave (v := some (.int (0 : Int32))) (fun h => by rw [Bd.returns] at h; cases h)
  refine ⟨_, _, pre0 _ ?_, hrun, hended, _, _, rfl, ?_, ⟨_, rfl⟩, hW, hsame.mono (by decide) (by decide)⟩
  · show Steps p.tables e below (s₁.setTop (mkF m 0 #[.val (.ref a1)] [])) _
    refine XS.aloadN X0.here hx rfl (hb hby d12_0) rfl rfl ?_
    show Steps p.tables e below (s₁.setTop (mkF m 1 #[.val (.ref a1)] [(.ref a1)])) _
    refine st2 _ ?_
    show Steps p.tables e below (T2.setTop (mkF m 4 #[.val (.ref a1)] [.null])) _
    refine XS.ifnullYes X2.here hx rfl (pc0 := 4) (pc' := 11) rfl (hb hby d12_4) rfl (by decide) (by decide) ?_
    show Steps p.tables e below (T2.setTop (mkF m 11 #[.val (.ref a1)] [])) _
    refine XS.iconst X2.here hx rfl (hb hby d12_11) ?_
    show Steps p.tables e below (T2.setTop (mkF m 12 #[.val (.ref a1)] [(.int (0 : Int32))])) _
    exact retN X2 hx (t := .boolean) Bd.returns (by simp) (hb hby d12_12) hr
  · show Q12 Z a1 h0 n0 _ T2.heap _
    rw [e2]
    exact ⟨rfl, N0, rfl⟩
theorem d22_0 : decode jdk_42_method_66_code 0 = .ok (.aload_n 0, 1) := by decide +kernel
theorem d22_1 : decode jdk_42_method_66_code 1 = .ok (.aload_n 1, 1) := by decide +kernel
theorem d22_2 : decode jdk_42_method_66_code 2 = .ok (.if_acmp .ne 5, 3) := by decide +kernel
theorem d22_5 : decode jdk_42_method_66_code 5 = .ok (.iconst 1, 1) := by decide +kernel
theorem d22_6 : decode jdk_42_method_66_code 6 = .ok (.ireturn, 1) := by decide +kernel
def Q22 (Z : State) (a1 a2 : Addr) (h0 : Heap) (n0 : Nat) (v : Option Value) (h : Heap) (L : List Loc) : Prop := v = some (.int (1 : Int32)) ∧ Fr n0 L ∧ h = h0
theorem ef_22 (m : MethodId) (x0 : Addr) (x1 : Addr) : entryFrame m #[(.ref x0), (.ref x1)] 3 = mkF m 0 #[.val (.ref x0), .val (.ref x1), .unset] [] := by first | (simp [entryFrame, mkF, argsToLocals, Value.category]; done) | rfl
theorem pnc_java_lang_String : plainName "java/lang/String" = true := by first | (simp [plainName, overriddenIn]; done) | decide +kernel
set_option maxRecDepth 65536 in
set_option maxHeartbeats 40000000 in
theorem rm22 (l : Launch) (Z : State) (a0 : Array Value) (hw : ∀ d ∈ tables_1, d.before a0 Z = true) (ws : List Jvm.Cond) (a1 a2 : Addr) (h0 : Heap) (n0 : Nat) (O0 : Old Z n0 h0) (ha2 : a1 = a2) :
    MetFree l (⟨"java/lang/String", "equals", "(Ljava/lang/Object;)Z"⟩ : MethodName) (head1 (Jvm.Cond.code (⟨"java/lang/String", "equals", "(Ljava/lang/Object;)Z"⟩ : MethodName) jdk_42_method_66_code 3 (some .boolean) :: ws) ({ frames := 0, cells := 0, slots := 0, locals := 0 } : Room)) (fun a U => a = #[(.ref a1), (.ref a2)] ∧ Z.Warmed39 U.vm ∧ U.heap = h0) (fun _ _ _ _ _ => True) (fun _ U o U' => ∃ v L, o = .returned v ∧ Q22 Z a1 a2 h0 n0 v U'.heap L ∧ FrameEnd U o U' L ({ frames := 0, cells := 0, slots := 0, locals := 0 } : Room).cells ({ frames := 0, cells := 0, slots := 0, locals := 0 } : Room).slots) := by
  refine MetFree.of_bodySF (plainFor_of_name pnc_java_lang_String) hisR ?_
  intro p e s m args below meth c s₁ Bd hml0 hP hK
  obtain ⟨rfl, hZ, hh⟩ := hP
  have hx := Bd.exec
  have hby := Bd.bytes
  have hml : c.maxLocals = 3 := hml0
  have hown : s.vm.findClass "java/lang/String" = some m.cls := findClass_of_methodNamed Bd.named
  have hnm := (name_of_methodNamed Bd.named Bd.method).1
  have X0 : Stand p l e ({ frames := 0, cells := 0, slots := 0, locals := 0 } : Room) s m #[(.ref a1), (.ref a2)] below meth c s₁ [] 0 0 := Stand.of_body Bd
  have e0 : s₁.heap = h0 := by rw [← hh, Bd.state]; rfl
  have N0 := Fr.nil n0
  have Z0 : n0 ≤ h0.size := O0.1 ▸ O0.2.1
  have pre0 : ∀ t, Steps p.tables e below (s₁.setTop (mkF m 0 #[.val (.ref a1), .val (.ref a2), .unset] [])) t → Steps p.tables e below (s₁.setTop (entryFrame m #[(.ref a1), (.ref a2)] 3)) t := fun t k => castTop (ef_22 m a1 a2) k
  obtain ⟨fs, hr, hrun, hended, hW, hsame⟩ := X0.leave (v := some (.int (1 : Int32))) (fun h => by rw [Bd.returns] at h; cases h)
  refine ⟨_, _, pre0 _ ?_, hrun, hended, _, _, rfl, ?_, ⟨_, rfl⟩, hW, hsame.mono (by decide) (by decide)⟩
  · show Steps p.tables e below (s₁.setTop (mkF m 0 #[.val (.ref a1), .val (.ref a2), .unset] [])) _
    refine XS.aloadN X0.here hx rfl (hb hby d22_0) rfl rfl ?_
    show Steps p.tables e below (s₁.setTop (mkF m 1 #[.val (.ref a1), .val (.ref a2), .unset] [(.ref a1)])) _
    refine XS.aloadN X0.here hx rfl (hb hby d22_1) rfl rfl ?_
    show Steps p.tables e below (s₁.setTop (mkF m 2 #[.val (.ref a1), .val (.ref a2), .unset] [(.ref a2), (.ref a1)])) _
    refine Jvm.RoadKit.acmp (g := (mkF m 2 #[.val (.ref a1), .val (.ref a2), .unset] [(.ref a2), (.ref a1)])) X0 hx rfl rfl rfl (pc0 := 2) (pc' := 5) (same := true) rfl (hb hby d22_2) rfl (decide_eq_true (congrArg Value.ref ha2)) (by decide) (by decide) ?_
    show Steps p.tables e below (s₁.setTop (mkF m 5 #[.val (.ref a1), .val (.ref a2), .unset] [])) _
    refine XS.iconst X0.here hx rfl (hb hby d22_5) ?_
    show Steps p.tables e below (s₁.setTop (mkF m 6 #[.val (.ref a1), .val (.ref a2), .unset] [(.int (1 : Int32))])) _
    exact retN X0 hx (t := .boolean) Bd.returns (by simp) (hb hby d22_6) hr
  · show Q22 Z a1 a2 h0 n0 _ s₁.heap _
    rw [e0]
    exact ⟨rfl, N0, rfl⟩
theorem d14_0 : decode prog_20_method_9_code 0 = .ok (.aload_n 0, 1) := by decide +kernel
theorem d14_1 : decode prog_20_method_9_code 1 = .ok (.getfield 31, 3) := by decide +kernel
theorem d14_4 : decode prog_20_method_9_code 4 = .ok (.areturn, 1) := by decide +kernel
def Q14 (Z : State) (a1 w2 : Addr) (h0 : Heap) (n0 : Nat) (v : Option Value) (h : Heap) (L : List Loc) : Prop := v = some (.ref w2) ∧ Fr n0 L ∧ h = h0
theorem ef_14 (m : MethodId) (x0 : Addr) : entryFrame m #[(.ref x0)] 1 = mkF m 0 #[.val (.ref x0)] [] := by first | (simp [entryFrame, mkF, argsToLocals, Value.category]; done) | rfl
theorem pnc_com_example_wattle_wattle_Figure : plainName "com/example/wattle/wattle/Figure" = true := by first | (simp [plainName, overriddenIn]; done) | decide +kernel
set_option maxRecDepth 65536 in
set_option maxHeartbeats 40000000 in
theorem rm14 (l : Launch) (Z : State) (a0 : Array Value) (hw : ∀ d ∈ tables_1, d.before a0 Z = true) (ws : List Jvm.Cond) (a1 w2 : Addr) (h0 : Heap) (n0 : Nat) (O0 : Old Z n0 h0) (HF_a1_shown : Fld Z h0 a1 "com/example/wattle/wattle/Figure" "shown" "Ljava/lang/String;" (.ref w2)) :
    MetFree l (⟨"com/example/wattle/wattle/Figure", "shown", "()Ljava/lang/String;"⟩ : MethodName) (head1 (Jvm.Cond.code (⟨"com/example/wattle/wattle/Figure", "shown", "()Ljava/lang/String;"⟩ : MethodName) prog_20_method_9_code 1 (some (.object "java/lang/String")) :: ws) ({ frames := 0, cells := 0, slots := 0, locals := 0 } : Room)) (fun a U => a = #[(.ref a1)] ∧ Z.Warmed39 U.vm ∧ U.heap = h0) (fun _ _ _ _ _ => True) (fun _ U o U' => ∃ v L, o = .returned v ∧ Q14 Z a1 w2 h0 n0 v U'.heap L ∧ FrameEnd U o U' L ({ frames := 0, cells := 0, slots := 0, locals := 0 } : Room).cells ({ frames := 0, cells := 0, slots := 0, locals := 0 } : Room).slots) := by
  refine MetFree.of_bodySF (plainFor_of_name pnc_com_example_wattle_wattle_Figure) hisR ?_
  intro p e s m args below meth c s₁ Bd hml0 hP hK
  obtain ⟨rfl, hZ, hh⟩ := hP
  have hx := Bd.exec
  have hby := Bd.bytes
  have hml : c.maxLocals = 1 := hml0
  have hown : s.vm.findClass "com/example/wattle/wattle/Figure" = some m.cls := findClass_of_methodNamed Bd.named
  have hnm := (name_of_methodNamed Bd.named Bd.method).1
  have X0 : Stand p l e ({ frames := 0, cells := 0, slots := 0, locals := 0 } : Room) s m #[(.ref a1)] below meth c s₁ [] 0 0 := Stand.of_body Bd
  have e0 : s₁.heap = h0 := by rw [← hh, Bd.state]; rfl
  have N0 := Fr.nil n0
  have Z0 : n0 ≤ h0.size := O0.1 ▸ O0.2.1
  have pre0 : ∀ t, Steps p.tables e below (s₁.setTop (mkF m 0 #[.val (.ref a1)] [])) t → Steps p.tables e below (s₁.setTop (entryFrame m #[(.ref a1)] 1)) t := fun t k => castTop (ef_14 m a1) k
  obtain ⟨T3, X3, e3, st3⟩ := getF X0 hx hZ hown (host := "") (Or.inl (hw _ (List.mem_of_getElem? (i := 68) rfl))) Via.refl e0 HF_a1_shown (g := (mkF m 1 #[.val (.ref a1)] [(.ref a1)])) rfl rfl (hb hby d14_1)
  obtain ⟨fs, hr, hrun, hended, hW, hsame⟩ := X3.leave (v := some (.ref w2)) (fun h => by rw [Bd.returns] at h; cases h)
  refine ⟨_, _, pre0 _ ?_, hrun, hended, _, _, rfl, ?_, ⟨_, rfl⟩, hW, hsame.mono (by decide) (by decide)⟩
  · show Steps p.tables e below (s₁.setTop (mkF m 0 #[.val (.ref a1)] [])) _
    refine XS.aloadN X0.here hx rfl (hb hby d14_0) rfl rfl ?_
    show Steps p.tables e below (s₁.setTop (mkF m 1 #[.val (.ref a1)] [(.ref a1)])) _
    refine st3 _ ?_
    show Steps p.tables e below (T3.setTop (mkF m 4 #[.val (.ref a1)] [(.ref w2)])) _
    exact own_retR X3 hx Bd.returns rfl rfl (hb hby d14_4) hr
  · show Q14 Z a1 w2 h0 n0 _ T3.heap _
    rw [e3]
    exact ⟨rfl, N0, rfl⟩
theorem d10_0 : decode prog_20_method_1_code 0 = .ok (.aload_n 0, 1) := by decide +kernel
theorem d10_1 : decode prog_20_method_1_code 1 = .ok (.invokespecial 1, 3) := by decide +kernel
theorem pd_4 : parseMethodDescriptor "()V" = some ⟨[], none⟩ := by decide +kernel
theorem d10_4 : decode prog_20_method_1_code 4 = .ok (.aload_n 1, 1) := by decide +kernel
theorem d10_5 : decode prog_20_method_1_code 5 = .ok (.invokevirtual 7, 3) := by decide +kernel
theorem pd_5 : parseMethodDescriptor "()Z" = some ⟨[], some .boolean⟩ := by decide +kernel
theorem d10_8 : decode prog_20_method_1_code 8 = .ok (.aload_n 2, 1) := by decide +kernel
theorem d10_9 : decode prog_20_method_1_code 9 = .ok (.invokevirtual 13, 3) := by decide +kernel
theorem own_in_wordsEmp : ∀ d ∈ StrChars.Road.wordsEmp, d ∈ tables_1 := by decide +kernel
theorem d10_12 : decode prog_20_method_1_code 12 = .ok (.if_icmp .eq 13, 3) := by decide +kernel
theorem d10_25 : decode prog_20_method_1_code 25 = .ok (.aload_n 0, 1) := by decide +kernel
theorem d10_26 : decode prog_20_method_1_code 26 = .ok (.aload_n 1, 1) := by decide +kernel
theorem d10_27 : decode prog_20_method_1_code 27 = .ok (.putfield 25, 3) := by decide +kernel
theorem d10_30 : decode prog_20_method_1_code 30 = .ok (.aload_n 0, 1) := by decide +kernel
theorem d10_31 : decode prog_20_method_1_code 31 = .ok (.aload_n 2, 1) := by decide +kernel
theorem d10_32 : decode prog_20_method_1_code 32 = .ok (.putfield 31, 3) := by decide +kernel
theorem d10_35 : decode prog_20_method_1_code 35 = .ok (.return_, 1) := by decide +kernel
def Q10n1 (Z : State) (a1 a2 a3 : Addr) (c0 : Int32) (u8 u13 : Value) (h0 : Heap) (n0 : Nat) (v : Option Value) (h : Heap) (L : List Loc) : Prop := v = none ∧ Fr n0 L ∧ Keep h0 h [a1] ∧ Exa Z h a1 "com/example/wattle/wattle/Figure" ∧ Fld Z h a1 "com/example/wattle/wattle/Figure" "shown" "Ljava/lang/String;" (.ref a3) ∧ Fld Z h a1 "com/example/wattle/wattle/Figure" "value" "Ljava/util/Optional;" (.ref a2)
theorem ef_10 (m : MethodId) (x0 : Addr) (x1 : Addr) (x2 : Addr) : entryFrame m #[(.ref x0), (.ref x1), (.ref x2)] 3 = mkF m 0 #[.val (.ref x0), .val (.ref x1), .val (.ref x2)] [] := by first | (simp [entryFrame, mkF, argsToLocals, Value.category]; done) | rfl
set_option maxRecDepth 65536 in
set_option maxHeartbeats 40000000 in
theorem rm10n1 (l : Launch) (Z : State) (a0 : Array Value) (hw : ∀ d ∈ tables_1, d.before a0 Z = true) (ws : List Jvm.Cond) (a1 a2 a3 : Addr) (c0 : Int32) (u8 u13 : Value) (h0 : Heap) (n0 : Nat) (O0 : Old Z n0 h0) (HE_a2 : Exa Z h0 a2 "java/util/Optional") (HF_a2_value : Fld Z h0 a2 "java/util/Optional" "value" "Ljava/lang/Object;" .null) (HT_a3 : own_Str Z h0 h0.size a3 [c0]) (HE_a1 : Exa Z h0 a1 "com/example/wattle/wattle/Figure") (HF_a1_value : Fld Z h0 a1 "com/example/wattle/wattle/Figure" "value" "Ljava/util/Optional;" u8) (g_a1 : n0 ≤ a1) (HF_a1_shown : Fld Z h0 a1 "com/example/wattle/wattle/Figure" "shown" "Ljava/lang/String;" u13) :
    MetFree l (⟨"com/example/wattle/wattle/Figure", "<init>", "(Ljava/util/Optional;Ljava/lang/String;)V"⟩ : MethodName) (head1 (Jvm.Cond.code (⟨"com/example/wattle/wattle/Figure", "<init>", "(Ljava/util/Optional;Ljava/lang/String;)V"⟩ : MethodName) prog_20_method_1_code 3 none :: ws) ({ frames := 2, cells := 0, slots := 0, locals := 24 } : Room)) (fun a U => a = #[(.ref a1), (.ref a2), (.ref a3)] ∧ Z.Warmed39 U.vm ∧ U.heap = h0) (fun _ _ _ _ _ => True) (fun _ U o U' => ∃ v L, o = .returned v ∧ Q10n1 Z a1 a2 a3 c0 u8 u13 h0 n0 v U'.heap L ∧ FrameEnd U o U' L ({ frames := 2, cells := 0, slots := 0, locals := 24 } : Room).cells ({ frames := 2, cells := 0, slots := 0, locals := 24 } : Room).slots) := by
  refine MetFree.of_bodySF (plainFor_of_name pnc_com_example_wattle_wattle_Figure) hisR ?_
  intro p e s m args below meth c s₁ Bd hml0 hP hK
  obtain ⟨rfl, hZ, hh⟩ := hP
  have hx := Bd.exec
  have hby := Bd.bytes
  have hml : c.maxLocals = 3 := hml0
  have hown : s.vm.findClass "com/example/wattle/wattle/Figure" = some m.cls := findClass_of_methodNamed Bd.named
  have hnm := (name_of_methodNamed Bd.named Bd.method).1
  have X0 : Stand p l e ({ frames := 2, cells := 0, slots := 0, locals := 24 } : Room) s m #[(.ref a1), (.ref a2), (.ref a3)] below meth c s₁ [] 0 0 := Stand.of_body Bd
  have e0 : s₁.heap = h0 := by rw [← hh, Bd.state]; rfl
  have N0 := Fr.nil n0
  have Z0 : n0 ≤ h0.size := O0.1 ▸ O0.2.1
  have pre0 : ∀ t, Steps p.tables e below (s₁.setTop (mkF m 0 #[.val (.ref a1), .val (.ref a2), .val (.ref a3)] [])) t → Steps p.tables e below (s₁.setTop (entryFrame m #[(.ref a1), (.ref a2), (.ref a3)] 3)) t := fun t k => castTop (ef_10 m a1 a2 a3) k
  obtain ⟨vr4, _, ⟨T4, L4, k4, n4⟩, -, X4, ⟨Lc4, hQ4, l4, y4, z4⟩, st4⟩ := X0.specialBack hx (y := (⟨"java/lang/Record", "<init>", "()V"⟩ : MethodName)) rfl hown (mvT hZ (hw _ (List.mem_of_getElem? (i := 48) rfl))) (mvT hZ (hw _ (List.mem_of_getElem? (i := 49) rfl))) (mvT hZ (hw _ (List.mem_of_getElem? (i := 52) rfl))) (by decide) (backOf (W := 0) (rm11 l Z a0 hw [] a1 h0 n0 O0) hZ (hw _ (List.mem_of_getElem? (i := 52) rfl)) (hw _ (List.mem_of_getElem? (i := 51) rfl)) (by decide) (by decide)) (g := (mkF m 1 #[.val (.ref a1), .val (.ref a2), .val (.ref a3)] [(.ref a1)])) rfl (by rw [hml]; rfl) (Steps.refl _) (a := a1) (argsL := []) (rest := []) (lenOf pd_4 rfl) rfl (by show 2 * 0 + _ ≤ _; exact Nat.le_of_eq rfl) (hb hby d10_1) (fun _ _ => ⟨rfl, e0, (by decide : 0 + 0 ≤ _), (by decide : 0 + 0 ≤ _)⟩)
  dsimp only [Pt.U, Pt.locs, Pt.cells, Pt.slots] at X4 l4 y4 z4 st4 hQ4
  subst l4 y4 z4
  obtain ⟨rfl, N4q, e4⟩ := hQ4
  have N4 := Fr.app N0 N4q
  replace X4 := X4.more (cells' := 0) (slots' := 0) (by decide) (by decide)
  obtain ⟨cq5, kq5, q5a, q5b, q5c⟩ := isOf hZ e4 HE_a2
  obtain ⟨vr5, _, ⟨T5, L5, k5, n5⟩, -, X5, ⟨Lc5, hQ5, l5, y5, z5⟩, st5⟩ := X4.virtualBack hx (y := (⟨"java/util/Optional", "isPresent", "()Z"⟩ : MethodName)) (z := (⟨"java/util/Optional", "isPresent", "()Z"⟩ : MethodName)) hown (mvT hZ (hw _ (List.mem_of_getElem? (i := 54) rfl))) (mvT hZ (hw _ (List.mem_of_getElem? (i := 55) rfl))) (notFace_of_selects (args := #[]) (mvT hZ (hw _ (List.mem_of_getElem? (i := 57) rfl)))) (mvT hZ (hw _ (List.mem_of_getElem? (i := 57) rfl))) (mvT hZ (hw _ (List.mem_of_getElem? (i := 56) rfl))) (by decide) (backOf (W := 0) (rm12 l Z a0 hw [] a2 h0 n0 O0 HF_a2_value) hZ (hw _ (List.mem_of_getElem? (i := 58) rfl)) (hw _ (List.mem_of_getElem? (i := 42) rfl)) (by decide) (by decide)) q5a q5c (g := (mkF m 5 #[.val (.ref a1), .val (.ref a2), .val (.ref a3)] [(.ref a2)])) rfl (by rw [hml]; rfl) (Steps.refl _) (argsL := []) (rest := []) (lenOf pd_5 rfl) rfl (by show 2 * 0 + _ ≤ _; exact Nat.le_of_eq rfl) (hb hby d10_5) (fun _ _ => ⟨rfl, e4, (by decide : 0 + 0 ≤ _), (by decide : 0 + 0 ≤ _)⟩)
  dsimp only [Pt.U, Pt.locs, Pt.cells, Pt.slots] at X5 l5 y5 z5 st5 hQ5
  subst l5 y5 z5
  obtain ⟨rfl, N5q, e5⟩ := hQ5
  have N5 := Fr.app N4 N5q
  replace X5 := X5.more (cells' := 0) (slots' := 0) (by decide) (by decide)
  obtain ⟨⟨tx6, tl6, tp6⟩, ty6, tk6, tt6, tE6, tV6, tC6, tA6⟩ := id HT_a3
  obtain ⟨cq7, kq7, q7a, q7b, q7c⟩ := isOf hZ e5 (own_Str.exa HT_a3)
  obtain ⟨vr7, _, ⟨T7, L7, k7, n7⟩, -, X7, ⟨Lc7, hQ7, l7, y7, z7⟩, st7⟩ := X5.virtualBack hx (y := (⟨"java/lang/String", "isEmpty", "()Z"⟩ : MethodName)) (z := (⟨"java/lang/String", "isEmpty", "()Z"⟩ : MethodName)) hown (mvT hZ (hw _ (List.mem_of_getElem? (i := 61) rfl))) (mvT hZ (hw _ (List.mem_of_getElem? (i := 62) rfl))) (notFace_of_selects (args := #[]) (mvT hZ (hw _ (List.mem_of_getElem? (i := 64) rfl)))) (mvT hZ (hw _ (List.mem_of_getElem? (i := 64) rfl))) (mvT hZ (hw _ (List.mem_of_getElem? (i := 63) rfl))) (by decide) (StrChars.Road.empW (W := 1) hZ (fun d hd => hw d (own_in_wordsEmp d hd)) (kI := 4) (hw _ (List.mem_of_getElem? (i := 6) rfl)) tE6 tV6 tC6 tA6 (StrChars.Road.codOf (cs := [c0]) (n := ([c0] : List Int32).length) rfl (fun c hc => (tp6 c hc).2)) (own_up tp6) tl6 (by decide) (by decide)) q7a q7c (g := (mkF m 9 #[.val (.ref a1), .val (.ref a2), .val (.ref a3)] [(.ref a3), (.int (0 : Int32))])) rfl (by rw [hml]; rfl) (Steps.refl _) (argsL := []) (rest := [(.int (0 : Int32))]) (lenOf pd_5 rfl) rfl (by show 2 * 0 + _ ≤ _; exact Nat.le_of_eq rfl) (hb hby d10_9) (fun _ _ => ⟨rfl, e5, (by decide : 0 + 0 ≤ _), (by decide : 0 + 0 ≤ _)⟩)
  dsimp only [Pt.U, Pt.locs, Pt.cells, Pt.slots] at X7 l7 y7 z7 st7 hQ7
  subst l7 y7 z7
  obtain ⟨rfl, rfl, e7⟩ := hQ7
  have N7 := Fr.app N5 (Fr.nil n0)
  replace X7 := X7.more (cells' := 0) (slots' := 0) (by decide) (by decide)
  obtain ⟨T9, h9, X9, e9, W9, st9⟩ := putF X7 hx hZ hown (host := "") (Or.inl (hw _ (List.mem_of_getElem? (i := 66) rfl))) Via.refl e7 HF_a1_value HE_a1 (Or.inr ⟨(hw _ (List.mem_of_getElem? (i := 67) rfl)), rfl, hnm⟩) (hw _ (List.mem_of_getElem? (i := 39) rfl)) (ty := (.object "java/util/Optional")) (by decide) rfl rfl (g := (mkF m 27 #[.val (.ref a1), .val (.ref a2), .val (.ref a3)] [(.ref a2), (.ref a1)])) rfl rfl (hb hby d10_27)
  have N9 := Fr.snoc X9 N7 g_a1
  have K10 : Keep h0 h9 [a1] := (Keep.refl h0 [a1]).wr W9 (Or.inl (List.mem_of_getElem? (i := 0) rfl))
  have O11 : Old Z n0 h9 := O0.wr W9 g_a1
  have Fw9 : Fld Z h9 a1 "com/example/wattle/wattle/Figure" "value" "Ljava/util/Optional;" (.ref a2) := HF_a1_value.same W9
  have f12 := (HE_a1.wr W9)
  have f14 := (HF_a1_shown.other W9 (Or.inr (slot_ne (Or.inr (hw _ (List.mem_of_getElem? (i := 69) rfl))) (Or.inr (hw _ (List.mem_of_getElem? (i := 67) rfl))) (by decide) (t := (.object "java/lang/String")) (t' := (.object "java/util/Optional")) (by decide) (by decide))))
  obtain ⟨T15, h15, X15, e15, W15, st15⟩ := putF X9 hx hZ hown (host := "") (Or.inl (hw _ (List.mem_of_getElem? (i := 68) rfl))) Via.refl e9 f14 f12 (Or.inr ⟨(hw _ (List.mem_of_getElem? (i := 69) rfl)), rfl, hnm⟩) (hw _ (List.mem_of_getElem? (i := 39) rfl)) (ty := (.object "java/lang/String")) (by decide) rfl rfl (g := (mkF m 32 #[.val (.ref a1), .val (.ref a2), .val (.ref a3)] [(.ref a3), (.ref a1)])) rfl rfl (hb hby d10_32)
  have N15 := Fr.snoc X15 N9 g_a1
  have K16 : Keep h0 h15 [a1] := K10.wr W15 (Or.inl (List.mem_of_getElem? (i := 0) rfl))
  have O17 : Old Z n0 h15 := O11.wr W15 g_a1
  have Fw15 : Fld Z h15 a1 "com/example/wattle/wattle/Figure" "shown" "Ljava/lang/String;" (.ref a3) := f14.same W15
  have f18 := (f12.wr W15)
  have f19 := (Fw9.other W15 (Or.inr (slot_ne (Or.inr (hw _ (List.mem_of_getElem? (i := 67) rfl))) (Or.inr (hw _ (List.mem_of_getElem? (i := 69) rfl))) (by decide) (t := (.object "java/util/Optional")) (t' := (.object "java/lang/String")) (by decide) (by decide))))
  obtain ⟨fs, hr, hrun, hended, hW, hsame⟩ := X15.leave (v := none) (fun _ => rfl)
  refine ⟨_, _, pre0 _ ?_, hrun, hended, _, _, rfl, ?_, ⟨_, rfl⟩, hW, hsame.mono (by decide) (by decide)⟩
  · show Steps p.tables e below (s₁.setTop (mkF m 0 #[.val (.ref a1), .val (.ref a2), .val (.ref a3)] [])) _
    refine XS.aloadN X0.here hx rfl (hb hby d10_0) rfl rfl ?_
    show Steps p.tables e below (s₁.setTop (mkF m 1 #[.val (.ref a1), .val (.ref a2), .val (.ref a3)] [(.ref a1)])) _
    refine st4.trans ?_
    show Steps p.tables e below (T4.setTop (mkF m 4 #[.val (.ref a1), .val (.ref a2), .val (.ref a3)] [])) _
    refine XS.aloadN X4.here hx rfl (hb hby d10_4) rfl rfl ?_
    show Steps p.tables e below (T4.setTop (mkF m 5 #[.val (.ref a1), .val (.ref a2), .val (.ref a3)] [(.ref a2)])) _
    refine st5.trans ?_
    show Steps p.tables e below (T5.setTop (mkF m 8 #[.val (.ref a1), .val (.ref a2), .val (.ref a3)] [(.int (0 : Int32))])) _
    refine XS.aloadN X5.here hx rfl (hb hby d10_8) rfl rfl ?_
    show Steps p.tables e below (T5.setTop (mkF m 9 #[.val (.ref a1), .val (.ref a2), .val (.ref a3)] [(.ref a3), (.int (0 : Int32))])) _
    refine st7.trans ?_
    show Steps p.tables e below (T7.setTop (mkF m 12 #[.val (.ref a1), .val (.ref a2), .val (.ref a3)] [(.int (0 : Int32)), (.int (0 : Int32))])) _
    refine XS.icmpYes X7.here hx rfl (pc0 := 12) (pc' := 25) rfl (hb hby d10_12) rfl (teq (by decide : (0 : Int32) = (0 : Int32))).1 (by decide) (by decide) ?_
    show Steps p.tables e below (T7.setTop (mkF m 25 #[.val (.ref a1), .val (.ref a2), .val (.ref a3)] [])) _
    refine XS.aloadN X7.here hx rfl (hb hby d10_25) rfl rfl ?_
    show Steps p.tables e below (T7.setTop (mkF m 26 #[.val (.ref a1), .val (.ref a2), .val (.ref a3)] [(.ref a1)])) _
    refine XS.aloadN X7.here hx rfl (hb hby d10_26) rfl rfl ?_
    show Steps p.tables e below (T7.setTop (mkF m 27 #[.val (.ref a1), .val (.ref a2), .val (.ref a3)] [(.ref a2), (.ref a1)])) _
    refine st9 _ ?_
    show Steps p.tables e below (T9.setTop (mkF m 30 #[.val (.ref a1), .val (.ref a2), .val (.ref a3)] [])) _
    refine XS.aloadN X9.here hx rfl (hb hby d10_30) rfl rfl ?_
    show Steps p.tables e below (T9.setTop (mkF m 31 #[.val (.ref a1), .val (.ref a2), .val (.ref a3)] [(.ref a1)])) _
    refine XS.aloadN X9.here hx rfl (hb hby d10_31) rfl rfl ?_
    show Steps p.tables e below (T9.setTop (mkF m 32 #[.val (.ref a1), .val (.ref a2), .val (.ref a3)] [(.ref a3), (.ref a1)])) _
    refine st15 _ ?_
    show Steps p.tables e below (T15.setTop (mkF m 35 #[.val (.ref a1), .val (.ref a2), .val (.ref a3)] [])) _
    exact X15.returnOut hx Bd.returns (hb hby d10_35) hr
  · show Q10n1 Z a1 a2 a3 c0 u8 u13 h0 n0 _ T15.heap _
    rw [e15]
    exact ⟨rfl, N15, K16, f18, Fw15, f19⟩
def Q10n2 (Z : State) (a1 a2 a3 : Addr) (c0 c1 : Int32) (u8 u13 : Value) (h0 : Heap) (n0 : Nat) (v : Option Value) (h : Heap) (L : List Loc) : Prop := v = none ∧ Fr n0 L ∧ Keep h0 h [a1] ∧ Exa Z h a1 "com/example/wattle/wattle/Figure" ∧ Fld Z h a1 "com/example/wattle/wattle/Figure" "shown" "Ljava/lang/String;" (.ref a3) ∧ Fld Z h a1 "com/example/wattle/wattle/Figure" "value" "Ljava/util/Optional;" (.ref a2)
set_option maxRecDepth 65536 in
set_option maxHeartbeats 40000000 in
theorem rm10n2 (l : Launch) (Z : State) (a0 : Array Value) (hw : ∀ d ∈ tables_1, d.before a0 Z = true) (ws : List Jvm.Cond) (a1 a2 a3 : Addr) (c0 c1 : Int32) (u8 u13 : Value) (h0 : Heap) (n0 : Nat) (O0 : Old Z n0 h0) (HE_a2 : Exa Z h0 a2 "java/util/Optional") (HF_a2_value : Fld Z h0 a2 "java/util/Optional" "value" "Ljava/lang/Object;" .null) (HT_a3 : own_Str Z h0 h0.size a3 [c0, c1]) (HE_a1 : Exa Z h0 a1 "com/example/wattle/wattle/Figure") (HF_a1_value : Fld Z h0 a1 "com/example/wattle/wattle/Figure" "value" "Ljava/util/Optional;" u8) (g_a1 : n0 ≤ a1) (HF_a1_shown : Fld Z h0 a1 "com/example/wattle/wattle/Figure" "shown" "Ljava/lang/String;" u13) :
    MetFree l (⟨"com/example/wattle/wattle/Figure", "<init>", "(Ljava/util/Optional;Ljava/lang/String;)V"⟩ : MethodName) (head1 (Jvm.Cond.code (⟨"com/example/wattle/wattle/Figure", "<init>", "(Ljava/util/Optional;Ljava/lang/String;)V"⟩ : MethodName) prog_20_method_1_code 3 none :: ws) ({ frames := 2, cells := 0, slots := 0, locals := 24 } : Room)) (fun a U => a = #[(.ref a1), (.ref a2), (.ref a3)] ∧ Z.Warmed39 U.vm ∧ U.heap = h0) (fun _ _ _ _ _ => True) (fun _ U o U' => ∃ v L, o = .returned v ∧ Q10n2 Z a1 a2 a3 c0 c1 u8 u13 h0 n0 v U'.heap L ∧ FrameEnd U o U' L ({ frames := 2, cells := 0, slots := 0, locals := 24 } : Room).cells ({ frames := 2, cells := 0, slots := 0, locals := 24 } : Room).slots) := by
  refine MetFree.of_bodySF (plainFor_of_name pnc_com_example_wattle_wattle_Figure) hisR ?_
  intro p e s m args below meth c s₁ Bd hml0 hP hK
  obtain ⟨rfl, hZ, hh⟩ := hP
  have hx := Bd.exec
  have hby := Bd.bytes
  have hml : c.maxLocals = 3 := hml0
  have hown : s.vm.findClass "com/example/wattle/wattle/Figure" = some m.cls := findClass_of_methodNamed Bd.named
  have hnm := (name_of_methodNamed Bd.named Bd.method).1
  have X0 : Stand p l e ({ frames := 2, cells := 0, slots := 0, locals := 24 } : Room) s m #[(.ref a1), (.ref a2), (.ref a3)] below meth c s₁ [] 0 0 := Stand.of_body Bd
  have e0 : s₁.heap = h0 := by rw [← hh, Bd.state]; rfl
  have N0 := Fr.nil n0
  have Z0 : n0 ≤ h0.size := O0.1 ▸ O0.2.1
  have pre0 : ∀ t, Steps p.tables e below (s₁.setTop (mkF m 0 #[.val (.ref a1), .val (.ref a2), .val (.ref a3)] [])) t → Steps p.tables e below (s₁.setTop (entryFrame m #[(.ref a1), (.ref a2), (.ref a3)] 3)) t := fun t k => castTop (ef_10 m a1 a2 a3) k
  obtain ⟨vr4, _, ⟨T4, L4, k4, n4⟩, -, X4, ⟨Lc4, hQ4, l4, y4, z4⟩, st4⟩ := X0.specialBack hx (y := (⟨"java/lang/Record", "<init>", "()V"⟩ : MethodName)) rfl hown (mvT hZ (hw _ (List.mem_of_getElem? (i := 48) rfl))) (mvT hZ (hw _ (List.mem_of_getElem? (i := 49) rfl))) (mvT hZ (hw _ (List.mem_of_getElem? (i := 52) rfl))) (by decide) (backOf (W := 0) (rm11 l Z a0 hw [] a1 h0 n0 O0) hZ (hw _ (List.mem_of_getElem? (i := 52) rfl)) (hw _ (List.mem_of_getElem? (i := 51) rfl)) (by decide) (by decide)) (g := (mkF m 1 #[.val (.ref a1), .val (.ref a2), .val (.ref a3)] [(.ref a1)])) rfl (by rw [hml]; rfl) (Steps.refl _) (a := a1) (argsL := []) (rest := []) (lenOf pd_4 rfl) rfl (by show 2 * 0 + _ ≤ _; exact Nat.le_of_eq rfl) (hb hby d10_1) (fun _ _ => ⟨rfl, e0, (by decide : 0 + 0 ≤ _), (by decide : 0 + 0 ≤ _)⟩)
  dsimp only [Pt.U, Pt.locs, Pt.cells, Pt.slots] at X4 l4 y4 z4 st4 hQ4
  subst l4 y4 z4
  obtain ⟨rfl, N4q, e4⟩ := hQ4
  have N4 := Fr.app N0 N4q
  replace X4 := X4.more (cells' := 0) (slots' := 0) (by decide) (by decide)
  obtain ⟨cq5, kq5, q5a, q5b, q5c⟩ := isOf hZ e4 HE_a2
  obtain ⟨vr5, _, ⟨T5, L5, k5, n5⟩, -, X5, ⟨Lc5, hQ5, l5, y5, z5⟩, st5⟩ := X4.virtualBack hx (y := (⟨"java/util/Optional", "isPresent", "()Z"⟩ : MethodName)) (z := (⟨"java/util/Optional", "isPresent", "()Z"⟩ : MethodName)) hown (mvT hZ (hw _ (List.mem_of_getElem? (i := 54) rfl))) (mvT hZ (hw _ (List.mem_of_getElem? (i := 55) rfl))) (notFace_of_selects (args := #[]) (mvT hZ (hw _ (List.mem_of_getElem? (i := 57) rfl)))) (mvT hZ (hw _ (List.mem_of_getElem? (i := 57) rfl))) (mvT hZ (hw _ (List.mem_of_getElem? (i := 56) rfl))) (by decide) (backOf (W := 0) (rm12 l Z a0 hw [] a2 h0 n0 O0 HF_a2_value) hZ (hw _ (List.mem_of_getElem? (i := 58) rfl)) (hw _ (List.mem_of_getElem? (i := 42) rfl)) (by decide) (by decide)) q5a q5c (g := (mkF m 5 #[.val (.ref a1), .val (.ref a2), .val (.ref a3)] [(.ref a2)])) rfl (by rw [hml]; rfl) (Steps.refl _) (argsL := []) (rest := []) (lenOf pd_5 rfl) rfl (by show 2 * 0 + _ ≤ _; exact Nat.le_of_eq rfl) (hb hby d10_5) (fun _ _ => ⟨rfl, e4, (by decide : 0 + 0 ≤ _), (by decide : 0 + 0 ≤ _)⟩)
  dsimp only [Pt.U, Pt.locs, Pt.cells, Pt.slots] at X5 l5 y5 z5 st5 hQ5
  subst l5 y5 z5
  obtain ⟨rfl, N5q, e5⟩ := hQ5
  have N5 := Fr.app N4 N5q
  replace X5 := X5.more (cells' := 0) (slots' := 0) (by decide) (by decide)
  obtain ⟨⟨tx6, tl6, tp6⟩, ty6, tk6, tt6, tE6, tV6, tC6, tA6⟩ := id HT_a3
  obtain ⟨cq7, kq7, q7a, q7b, q7c⟩ := isOf hZ e5 (own_Str.exa HT_a3)
  obtain ⟨vr7, _, ⟨T7, L7, k7, n7⟩, -, X7, ⟨Lc7, hQ7, l7, y7, z7⟩, st7⟩ := X5.virtualBack hx (y := (⟨"java/lang/String", "isEmpty", "()Z"⟩ : MethodName)) (z := (⟨"java/lang/String", "isEmpty", "()Z"⟩ : MethodName)) hown (mvT hZ (hw _ (List.mem_of_getElem? (i := 61) rfl))) (mvT hZ (hw _ (List.mem_of_getElem? (i := 62) rfl))) (notFace_of_selects (args := #[]) (mvT hZ (hw _ (List.mem_of_getElem? (i := 64) rfl)))) (mvT hZ (hw _ (List.mem_of_getElem? (i := 64) rfl))) (mvT hZ (hw _ (List.mem_of_getElem? (i := 63) rfl))) (by decide) (StrChars.Road.empW (W := 1) hZ (fun d hd => hw d (own_in_wordsEmp d hd)) (kI := 4) (hw _ (List.mem_of_getElem? (i := 6) rfl)) tE6 tV6 tC6 tA6 (StrChars.Road.codOf (cs := [c0, c1]) (n := ([c0, c1] : List Int32).length) rfl (fun c hc => (tp6 c hc).2)) (own_up tp6) tl6 (by decide) (by decide)) q7a q7c (g := (mkF m 9 #[.val (.ref a1), .val (.ref a2), .val (.ref a3)] [(.ref a3), (.int (0 : Int32))])) rfl (by rw [hml]; rfl) (Steps.refl _) (argsL := []) (rest := [(.int (0 : Int32))]) (lenOf pd_5 rfl) rfl (by show 2 * 0 + _ ≤ _; exact Nat.le_of_eq rfl) (hb hby d10_9) (fun _ _ => ⟨rfl, e5, (by decide : 0 + 0 ≤ _), (by decide : 0 + 0 ≤ _)⟩)
  dsimp only [Pt.U, Pt.locs, Pt.cells, Pt.slots] at X7 l7 y7 z7 st7 hQ7
  subst l7 y7 z7
  obtain ⟨rfl, rfl, e7⟩ := hQ7
  have N7 := Fr.app N5 (Fr.nil n0)
  replace X7 := X7.more (cells' := 0) (slots' := 0) (by decide) (by decide)
  obtain ⟨T9, h9, X9, e9, W9, st9⟩ := putF X7 hx hZ hown (host := "") (Or.inl (hw _ (List.mem_of_getElem? (i := 66) rfl))) Via.refl e7 HF_a1_value HE_a1 (Or.inr ⟨(hw _ (List.mem_of_getElem? (i := 67) rfl)), rfl, hnm⟩) (hw _ (List.mem_of_getElem? (i := 39) rfl)) (ty := (.object "java/util/Optional")) (by decide) rfl rfl (g := (mkF m 27 #[.val (.ref a1), .val (.ref a2), .val (.ref a3)] [(.ref a2), (.ref a1)])) rfl rfl (hb hby d10_27)
  have N9 := Fr.snoc X9 N7 g_a1
  have K10 : Keep h0 h9 [a1] := (Keep.refl h0 [a1]).wr W9 (Or.inl (List.mem_of_getElem? (i := 0) rfl))
  have O11 : Old Z n0 h9 := O0.wr W9 g_a1
  have Fw9 : Fld Z h9 a1 "com/example/wattle/wattle/Figure" "value" "Ljava/util/Optional;" (.ref a2) := HF_a1_value.same W9
  have f12 := (HE_a1.wr W9)
  have f14 := (HF_a1_shown.other W9 (Or.inr (slot_ne (Or.inr (hw _ (List.mem_of_getElem? (i := 69) rfl))) (Or.inr (hw _ (List.mem_of_getElem? (i := 67) rfl))) (by decide) (t := (.object "java/lang/String")) (t' := (.object "java/util/Optional")) (by decide) (by decide))))
  obtain ⟨T15, h15, X15, e15, W15, st15⟩ := putF X9 hx hZ hown (host := "") (Or.inl (hw _ (List.mem_of_getElem? (i := 68) rfl))) Via.refl e9 f14 f12 (Or.inr ⟨(hw _ (List.mem_of_getElem? (i := 69) rfl)), rfl, hnm⟩) (hw _ (List.mem_of_getElem? (i := 39) rfl)) (ty := (.object "java/lang/String")) (by decide) rfl rfl (g := (mkF m 32 #[.val (.ref a1), .val (.ref a2), .val (.ref a3)] [(.ref a3), (.ref a1)])) rfl rfl (hb hby d10_32)
  have N15 := Fr.snoc X15 N9 g_a1
  have K16 : Keep h0 h15 [a1] := K10.wr W15 (Or.inl (List.mem_of_getElem? (i := 0) rfl))
  have O17 : Old Z n0 h15 := O11.wr W15 g_a1
  have Fw15 : Fld Z h15 a1 "com/example/wattle/wattle/Figure" "shown" "Ljava/lang/String;" (.ref a3) := f14.same W15
  have f18 := (f12.wr W15)
  have f19 := (Fw9.other W15 (Or.inr (slot_ne (Or.inr (hw _ (List.mem_of_getElem? (i := 67) rfl))) (Or.inr (hw _ (List.mem_of_getElem? (i := 69) rfl))) (by decide) (t := (.object "java/util/Optional")) (t' := (.object "java/lang/String")) (by decide) (by decide))))
  obtain ⟨fs, hr, hrun, hended, hW, hsame⟩ := X15.leave (v := none) (fun _ => rfl)
  refine ⟨_, _, pre0 _ ?_, hrun, hended, _, _, rfl, ?_, ⟨_, rfl⟩, hW, hsame.mono (by decide) (by decide)⟩
  · show Steps p.tables e below (s₁.setTop (mkF m 0 #[.val (.ref a1), .val (.ref a2), .val (.ref a3)] [])) _
    refine XS.aloadN X0.here hx rfl (hb hby d10_0) rfl rfl ?_
    show Steps p.tables e below (s₁.setTop (mkF m 1 #[.val (.ref a1), .val (.ref a2), .val (.ref a3)] [(.ref a1)])) _
    refine st4.trans ?_
    show Steps p.tables e below (T4.setTop (mkF m 4 #[.val (.ref a1), .val (.ref a2), .val (.ref a3)] [])) _
    refine XS.aloadN X4.here hx rfl (hb hby d10_4) rfl rfl ?_
    show Steps p.tables e below (T4.setTop (mkF m 5 #[.val (.ref a1), .val (.ref a2), .val (.ref a3)] [(.ref a2)])) _
    refine st5.trans ?_
    show Steps p.tables e below (T5.setTop (mkF m 8 #[.val (.ref a1), .val (.ref a2), .val (.ref a3)] [(.int (0 : Int32))])) _
    refine XS.aloadN X5.here hx rfl (hb hby d10_8) rfl rfl ?_
    show Steps p.tables e below (T5.setTop (mkF m 9 #[.val (.ref a1), .val (.ref a2), .val (.ref a3)] [(.ref a3), (.int (0 : Int32))])) _
    refine st7.trans ?_
    show Steps p.tables e below (T7.setTop (mkF m 12 #[.val (.ref a1), .val (.ref a2), .val (.ref a3)] [(.int (0 : Int32)), (.int (0 : Int32))])) _
    refine XS.icmpYes X7.here hx rfl (pc0 := 12) (pc' := 25) rfl (hb hby d10_12) rfl (teq (by decide : (0 : Int32) = (0 : Int32))).1 (by decide) (by decide) ?_
    show Steps p.tables e below (T7.setTop (mkF m 25 #[.val (.ref a1), .val (.ref a2), .val (.ref a3)] [])) _
    refine XS.aloadN X7.here hx rfl (hb hby d10_25) rfl rfl ?_
    show Steps p.tables e below (T7.setTop (mkF m 26 #[.val (.ref a1), .val (.ref a2), .val (.ref a3)] [(.ref a1)])) _
    refine XS.aloadN X7.here hx rfl (hb hby d10_26) rfl rfl ?_
    show Steps p.tables e below (T7.setTop (mkF m 27 #[.val (.ref a1), .val (.ref a2), .val (.ref a3)] [(.ref a2), (.ref a1)])) _
    refine st9 _ ?_
    show Steps p.tables e below (T9.setTop (mkF m 30 #[.val (.ref a1), .val (.ref a2), .val (.ref a3)] [])) _
    refine XS.aloadN X9.here hx rfl (hb hby d10_30) rfl rfl ?_
    show Steps p.tables e below (T9.setTop (mkF m 31 #[.val (.ref a1), .val (.ref a2), .val (.ref a3)] [(.ref a1)])) _
    refine XS.aloadN X9.here hx rfl (hb hby d10_31) rfl rfl ?_
    show Steps p.tables e below (T9.setTop (mkF m 32 #[.val (.ref a1), .val (.ref a2), .val (.ref a3)] [(.ref a3), (.ref a1)])) _
    refine st15 _ ?_
    show Steps p.tables e below (T15.setTop (mkF m 35 #[.val (.ref a1), .val (.ref a2), .val (.ref a3)] [])) _
    exact X15.returnOut hx Bd.returns (hb hby d10_35) hr
  · show Q10n2 Z a1 a2 a3 c0 c1 u8 u13 h0 n0 _ T15.heap _
    rw [e15]
    exact ⟨rfl, N15, K16, f18, Fw15, f19⟩
def Q10n3 (Z : State) (a1 a2 a3 : Addr) (c0 c1 c2 : Int32) (u8 u13 : Value) (h0 : Heap) (n0 : Nat) (v : Option Value) (h : Heap) (L : List Loc) : Prop := v = none ∧ Fr n0 L ∧ Keep h0 h [a1] ∧ Exa Z h a1 "com/example/wattle/wattle/Figure" ∧ Fld Z h a1 "com/example/wattle/wattle/Figure" "shown" "Ljava/lang/String;" (.ref a3) ∧ Fld Z h a1 "com/example/wattle/wattle/Figure" "value" "Ljava/util/Optional;" (.ref a2)
set_option maxRecDepth 65536 in
set_option maxHeartbeats 40000000 in
theorem rm10n3 (l : Launch) (Z : State) (a0 : Array Value) (hw : ∀ d ∈ tables_1, d.before a0 Z = true) (ws : List Jvm.Cond) (a1 a2 a3 : Addr) (c0 c1 c2 : Int32) (u8 u13 : Value) (h0 : Heap) (n0 : Nat) (O0 : Old Z n0 h0) (HE_a2 : Exa Z h0 a2 "java/util/Optional") (HF_a2_value : Fld Z h0 a2 "java/util/Optional" "value" "Ljava/lang/Object;" .null) (HT_a3 : own_Str Z h0 h0.size a3 [c0, c1, c2]) (HE_a1 : Exa Z h0 a1 "com/example/wattle/wattle/Figure") (HF_a1_value : Fld Z h0 a1 "com/example/wattle/wattle/Figure" "value" "Ljava/util/Optional;" u8) (g_a1 : n0 ≤ a1) (HF_a1_shown : Fld Z h0 a1 "com/example/wattle/wattle/Figure" "shown" "Ljava/lang/String;" u13) :
    MetFree l (⟨"com/example/wattle/wattle/Figure", "<init>", "(Ljava/util/Optional;Ljava/lang/String;)V"⟩ : MethodName) (head1 (Jvm.Cond.code (⟨"com/example/wattle/wattle/Figure", "<init>", "(Ljava/util/Optional;Ljava/lang/String;)V"⟩ : MethodName) prog_20_method_1_code 3 none :: ws) ({ frames := 2, cells := 0, slots := 0, locals := 24 } : Room)) (fun a U => a = #[(.ref a1), (.ref a2), (.ref a3)] ∧ Z.Warmed39 U.vm ∧ U.heap = h0) (fun _ _ _ _ _ => True) (fun _ U o U' => ∃ v L, o = .returned v ∧ Q10n3 Z a1 a2 a3 c0 c1 c2 u8 u13 h0 n0 v U'.heap L ∧ FrameEnd U o U' L ({ frames := 2, cells := 0, slots := 0, locals := 24 } : Room).cells ({ frames := 2, cells := 0, slots := 0, locals := 24 } : Room).slots) := by
  refine MetFree.of_bodySF (plainFor_of_name pnc_com_example_wattle_wattle_Figure) hisR ?_
  intro p e s m args below meth c s₁ Bd hml0 hP hK
  obtain ⟨rfl, hZ, hh⟩ := hP
  have hx := Bd.exec
  have hby := Bd.bytes
  have hml : c.maxLocals = 3 := hml0
  have hown : s.vm.findClass "com/example/wattle/wattle/Figure" = some m.cls := findClass_of_methodNamed Bd.named
  have hnm := (name_of_methodNamed Bd.named Bd.method).1
  have X0 : Stand p l e ({ frames := 2, cells := 0, slots := 0, locals := 24 } : Room) s m #[(.ref a1), (.ref a2), (.ref a3)] below meth c s₁ [] 0 0 := Stand.of_body Bd
  have e0 : s₁.heap = h0 := by rw [← hh, Bd.state]; rfl
  have N0 := Fr.nil n0
  have Z0 : n0 ≤ h0.size := O0.1 ▸ O0.2.1
  have pre0 : ∀ t, Steps p.tables e below (s₁.setTop (mkF m 0 #[.val (.ref a1), .val (.ref a2), .val (.ref a3)] [])) t → Steps p.tables e below (s₁.setTop (entryFrame m #[(.ref a1), (.ref a2), (.ref a3)] 3)) t := fun t k => castTop (ef_10 m a1 a2 a3) k
  obtain ⟨vr4, _, ⟨T4, L4, k4, n4⟩, -, X4, ⟨Lc4, hQ4, l4, y4, z4⟩, st4⟩ := X0.specialBack hx (y := (⟨"java/lang/Record", "<init>", "()V"⟩ : MethodName)) rfl hown (mvT hZ (hw _ (List.mem_of_getElem? (i := 48) rfl))) (mvT hZ (hw _ (List.mem_of_getElem? (i := 49) rfl))) (mvT hZ (hw _ (List.mem_of_getElem? (i := 52) rfl))) (by decide) (backOf (W := 0) (rm11 l Z a0 hw [] a1 h0 n0 O0) hZ (hw _ (List.mem_of_getElem? (i := 52) rfl)) (hw _ (List.mem_of_getElem? (i := 51) rfl)) (by decide) (by decide)) (g := (mkF m 1 #[.val (.ref a1), .val (.ref a2), .val (.ref a3)] [(.ref a1)])) rfl (by rw [hml]; rfl) (Steps.refl _) (a := a1) (argsL := []) (rest := []) (lenOf pd_4 rfl) rfl (by show 2 * 0 + _ ≤ _; exact Nat.le_of_eq rfl) (hb hby d10_1) (fun _ _ => ⟨rfl, e0, (by decide : 0 + 0 ≤ _), (by decide : 0 + 0 ≤ _)⟩)
  dsimp only [Pt.U, Pt.locs, Pt.cells, Pt.slots] at X4 l4 y4 z4 st4 hQ4
  subst l4 y4 z4
  obtain ⟨rfl, N4q, e4⟩ := hQ4
  have N4 := Fr.app N0 N4q
  replace X4 := X4.more (cells' := 0) (slots' := 0) (by decide) (by decide)
  obtain ⟨cq5, kq5, q5a, q5b, q5c⟩ := isOf hZ e4 HE_a2
  obtain ⟨vr5, _, ⟨T5, L5, k5, n5⟩, -, X5, ⟨Lc5, hQ5, l5, y5, z5⟩, st5⟩ := X4.virtualBack hx (y := (⟨"java/util/Optional", "isPresent", "()Z"⟩ : MethodName)) (z := (⟨"java/util/Optional", "isPresent", "()Z"⟩ : MethodName)) hown (mvT hZ (hw _ (List.mem_of_getElem? (i := 54) rfl))) (mvT hZ (hw _ (List.mem_of_getElem? (i := 55) rfl))) (notFace_of_selects (args := #[]) (mvT hZ (hw _ (List.mem_of_getElem? (i := 57) rfl)))) (mvT hZ (hw _ (List.mem_of_getElem? (i := 57) rfl))) (mvT hZ (hw _ (List.mem_of_getElem? (i := 56) rfl))) (by decide) (backOf (W := 0) (rm12 l Z a0 hw [] a2 h0 n0 O0 HF_a2_value) hZ (hw _ (List.mem_of_getElem? (i := 58) rfl)) (hw _ (List.mem_of_getElem? (i := 42) rfl)) (by decide) (by decide)) q5a q5c (g := (mkF m 5 #[.val (.ref a1), .val (.ref a2), .val (.ref a3)] [(.ref a2)])) rfl (by rw [hml]; rfl) (Steps.refl _) (argsL := []) (rest := []) (lenOf pd_5 rfl) rfl (by show 2 * 0 + _ ≤ _; exact Nat.le_of_eq rfl) (hb hby d10_5) (fun _ _ => ⟨rfl, e4, (by decide : 0 + 0 ≤ _), (by decide : 0 + 0 ≤ _)⟩)
  dsimp only [Pt.U, Pt.locs, Pt.cells, Pt.slots] at X5 l5 y5 z5 st5 hQ5
  subst l5 y5 z5
  obtain ⟨rfl, N5q, e5⟩ := hQ5
  have N5 := Fr.app N4 N5q
  replace X5 := X5.more (cells' := 0) (slots' := 0) (by decide) (by decide)
  obtain ⟨⟨tx6, tl6, tp6⟩, ty6, tk6, tt6, tE6, tV6, tC6, tA6⟩ := id HT_a3
  obtain ⟨cq7, kq7, q7a, q7b, q7c⟩ := isOf hZ e5 (own_Str.exa HT_a3)
  obtain ⟨vr7, _, ⟨T7, L7, k7, n7⟩, -, X7, ⟨Lc7, hQ7, l7, y7, z7⟩, st7⟩ := X5.virtualBack hx (y := (⟨"java/lang/String", "isEmpty", "()Z"⟩ : MethodName)) (z := (⟨"java/lang/String", "isEmpty", "()Z"⟩ : MethodName)) hown (mvT hZ (hw _ (List.mem_of_getElem? (i := 61) rfl))) (mvT hZ (hw _ (List.mem_of_getElem? (i := 62) rfl))) (notFace_of_selects (args := #[]) (mvT hZ (hw _ (List.mem_of_getElem? (i := 64) rfl)))) (mvT hZ (hw _ (List.mem_of_getElem? (i := 64) rfl))) (mvT hZ (hw _ (List.mem_of_getElem? (i := 63) rfl))) (by decide) (StrChars.Road.empW (W := 1) hZ (fun d hd => hw d (own_in_wordsEmp d hd)) (kI := 4) (hw _ (List.mem_of_getElem? (i := 6) rfl)) tE6 tV6 tC6 tA6 (StrChars.Road.codOf (cs := [c0, c1, c2]) (n := ([c0, c1, c2] : List Int32).length) rfl (fun c hc => (tp6 c hc).2)) (own_up tp6) tl6 (by decide) (by decide)) q7a q7c (g := (mkF m 9 #[.val (.ref a1), .val (.ref a2), .val (.ref a3)] [(.ref a3), (.int (0 : Int32))])) rfl (by rw [hml]; rfl) (Steps.refl _) (argsL := []) (rest := [(.int (0 : Int32))]) (lenOf pd_5 rfl) rfl (by show 2 * 0 + _ ≤ _; exact Nat.le_of_eq rfl) (hb hby d10_9) (fun _ _ => ⟨rfl, e5, (by decide : 0 + 0 ≤ _), (by decide : 0 + 0 ≤ _)⟩)
  dsimp only [Pt.U, Pt.locs, Pt.cells, Pt.slots] at X7 l7 y7 z7 st7 hQ7
  subst l7 y7 z7
  obtain ⟨rfl, rfl, e7⟩ := hQ7
  have N7 := Fr.app N5 (Fr.nil n0)
  replace X7 := X7.more (cells' := 0) (slots' := 0) (by decide) (by decide)
  obtain ⟨T9, h9, X9, e9, W9, st9⟩ := putF X7 hx hZ hown (host := "") (Or.inl (hw _ (List.mem_of_getElem? (i := 66) rfl))) Via.refl e7 HF_a1_value HE_a1 (Or.inr ⟨(hw _ (List.mem_of_getElem? (i := 67) rfl)), rfl, hnm⟩) (hw _ (List.mem_of_getElem? (i := 39) rfl)) (ty := (.object "java/util/Optional")) (by decide) rfl rfl (g := (mkF m 27 #[.val (.ref a1), .val (.ref a2), .val (.ref a3)] [(.ref a2), (.ref a1)])) rfl rfl (hb hby d10_27)
  have N9 := Fr.snoc X9 N7 g_a1
  have K10 : Keep h0 h9 [a1] := (Keep.refl h0 [a1]).wr W9 (Or.inl (List.mem_of_getElem? (i := 0) rfl))
  have O11 : Old Z n0 h9 := O0.wr W9 g_a1
  have Fw9 : Fld Z h9 a1 "com/example/wattle/wattle/Figure" "value" "Ljava/util/Optional;" (.ref a2) := HF_a1_value.same W9
  have f12 := (HE_a1.wr W9)
  have f14 := (HF_a1_shown.other W9 (Or.inr (slot_ne (Or.inr (hw _ (List.mem_of_getElem? (i := 69) rfl))) (Or.inr (hw _ (List.mem_of_getElem? (i := 67) rfl))) (by decide) (t := (.object "java/lang/String")) (t' := (.object "java/util/Optional")) (by decide) (by decide))))
  obtain ⟨T15, h15, X15, e15, W15, st15⟩ := putF X9 hx hZ hown (host := "") (Or.inl (hw _ (List.mem_of_getElem? (i := 68) rfl))) Via.refl e9 f14 f12 (Or.inr ⟨(hw _ (List.mem_of_getElem? (i := 69) rfl)), rfl, hnm⟩) (hw _ (List.mem_of_getElem? (i := 39) rfl)) (ty := (.object "java/lang/String")) (by decide) rfl rfl (g := (mkF m 32 #[.val (.ref a1), .val (.ref a2), .val (.ref a3)] [(.ref a3), (.ref a1)])) rfl rfl (hb hby d10_32)
  have N15 := Fr.snoc X15 N9 g_a1
  have K16 : Keep h0 h15 [a1] := K10.wr W15 (Or.inl (List.mem_of_getElem? (i := 0) rfl))
  have O17 : Old Z n0 h15 := O11.wr W15 g_a1
  have Fw15 : Fld Z h15 a1 "com/example/wattle/wattle/Figure" "shown" "Ljava/lang/String;" (.ref a3) := f14.same W15
  have f18 := (f12.wr W15)
  have f19 := (Fw9.other W15 (Or.inr (slot_ne (Or.inr (hw _ (List.mem_of_getElem? (i := 67) rfl))) (Or.inr (hw _ (List.mem_of_getElem? (i := 69) rfl))) (by decide) (t := (.object "java/util/Optional")) (t' := (.object "java/lang/String")) (by decide) (by decide))))
  obtain ⟨fs, hr, hrun, hended, hW, hsame⟩ := X15.leave (v := none) (fun _ => rfl)
  refine ⟨_, _, pre0 _ ?_, hrun, hended, _, _, rfl, ?_, ⟨_, rfl⟩, hW, hsame.mono (by decide) (by decide)⟩
  · show Steps p.tables e below (s₁.setTop (mkF m 0 #[.val (.ref a1), .val (.ref a2), .val (.ref a3)] [])) _
    refine XS.aloadN X0.here hx rfl (hb hby d10_0) rfl rfl ?_
    show Steps p.tables e below (s₁.setTop (mkF m 1 #[.val (.ref a1), .val (.ref a2), .val (.ref a3)] [(.ref a1)])) _
    refine st4.trans ?_
    show Steps p.tables e below (T4.setTop (mkF m 4 #[.val (.ref a1), .val (.ref a2), .val (.ref a3)] [])) _
    refine XS.aloadN X4.here hx rfl (hb hby d10_4) rfl rfl ?_
    show Steps p.tables e below (T4.setTop (mkF m 5 #[.val (.ref a1), .val (.ref a2), .val (.ref a3)] [(.ref a2)])) _
    refine st5.trans ?_
    show Steps p.tables e below (T5.setTop (mkF m 8 #[.val (.ref a1), .val (.ref a2), .val (.ref a3)] [(.int (0 : Int32))])) _
    refine XS.aloadN X5.here hx rfl (hb hby d10_8) rfl rfl ?_
    show Steps p.tables e below (T5.setTop (mkF m 9 #[.val (.ref a1), .val (.ref a2), .val (.ref a3)] [(.ref a3), (.int (0 : Int32))])) _
    refine st7.trans ?_
    show Steps p.tables e below (T7.setTop (mkF m 12 #[.val (.ref a1), .val (.ref a2), .val (.ref a3)] [(.int (0 : Int32)), (.int (0 : Int32))])) _
    refine XS.icmpYes X7.here hx rfl (pc0 := 12) (pc' := 25) rfl (hb hby d10_12) rfl (teq (by decide : (0 : Int32) = (0 : Int32))).1 (by decide) (by decide) ?_
    show Steps p.tables e below (T7.setTop (mkF m 25 #[.val (.ref a1), .val (.ref a2), .val (.ref a3)] [])) _
    refine XS.aloadN X7.here hx rfl (hb hby d10_25) rfl rfl ?_
    show Steps p.tables e below (T7.setTop (mkF m 26 #[.val (.ref a1), .val (.ref a2), .val (.ref a3)] [(.ref a1)])) _
    refine XS.aloadN X7.here hx rfl (hb hby d10_26) rfl rfl ?_
    show Steps p.tables e below (T7.setTop (mkF m 27 #[.val (.ref a1), .val (.ref a2), .val (.ref a3)] [(.ref a2), (.ref a1)])) _
    refine st9 _ ?_
    show Steps p.tables e below (T9.setTop (mkF m 30 #[.val (.ref a1), .val (.ref a2), .val (.ref a3)] [])) _
    refine XS.aloadN X9.here hx rfl (hb hby d10_30) rfl rfl ?_
    show Steps p.tables e below (T9.setTop (mkF m 31 #[.val (.ref a1), .val (.ref a2), .val (.ref a3)] [(.ref a1)])) _
    refine XS.aloadN X9.here hx rfl (hb hby d10_31) rfl rfl ?_
    show Steps p.tables e below (T9.setTop (mkF m 32 #[.val (.ref a1), .val (.ref a2), .val (.ref a3)] [(.ref a3), (.ref a1)])) _
    refine st15 _ ?_
    show Steps p.tables e below (T15.setTop (mkF m 35 #[.val (.ref a1), .val (.ref a2), .val (.ref a3)] [])) _
    exact X15.returnOut hx Bd.returns (hb hby d10_35) hr
  · show Q10n3 Z a1 a2 a3 c0 c1 c2 u8 u13 h0 n0 _ T15.heap _
    rw [e15]
    exact ⟨rfl, N15, K16, f18, Fw15, f19⟩
def Q10n4 (Z : State) (a1 a2 a3 : Addr) (c0 c1 c2 c3 : Int32) (u8 u13 : Value) (h0 : Heap) (n0 : Nat) (v : Option Value) (h : Heap) (L : List Loc) : Prop := v = none ∧ Fr n0 L ∧ Keep h0 h [a1] ∧ Exa Z h a1 "com/example/wattle/wattle/Figure" ∧ Fld Z h a1 "com/example/wattle/wattle/Figure" "shown" "Ljava/lang/String;" (.ref a3) ∧ Fld Z h a1 "com/example/wattle/wattle/Figure" "value" "Ljava/util/Optional;" (.ref a2)
set_option maxRecDepth 65536 in
set_option maxHeartbeats 40000000 in
theorem rm10n4 (l : Launch) (Z : State) (a0 : Array Value) (hw : ∀ d ∈ tables_1, d.before a0 Z = true) (ws : List Jvm.Cond) (a1 a2 a3 : Addr) (c0 c1 c2 c3 : Int32) (u8 u13 : Value) (h0 : Heap) (n0 : Nat) (O0 : Old Z n0 h0) (HE_a2 : Exa Z h0 a2 "java/util/Optional") (HF_a2_value : Fld Z h0 a2 "java/util/Optional" "value" "Ljava/lang/Object;" .null) (HT_a3 : own_Str Z h0 h0.size a3 [c0, c1, c2, c3]) (HE_a1 : Exa Z h0 a1 "com/example/wattle/wattle/Figure") (HF_a1_value : Fld Z h0 a1 "com/example/wattle/wattle/Figure" "value" "Ljava/util/Optional;" u8) (g_a1 : n0 ≤ a1) (HF_a1_shown : Fld Z h0 a1 "com/example/wattle/wattle/Figure" "shown" "Ljava/lang/String;" u13) :
    MetFree l (⟨"com/example/wattle/wattle/Figure", "<init>", "(Ljava/util/Optional;Ljava/lang/String;)V"⟩ : MethodName) (head1 (Jvm.Cond.code (⟨"com/example/wattle/wattle/Figure", "<init>", "(Ljava/util/Optional;Ljava/lang/String;)V"⟩ : MethodName) prog_20_method_1_code 3 none :: ws) ({ frames := 2, cells := 0, slots := 0, locals := 24 } : Room)) (fun a U => a = #[(.ref a1), (.ref a2), (.ref a3)] ∧ Z.Warmed39 U.vm ∧ U.heap = h0) (fun _ _ _ _ _ => True) (fun _ U o U' => ∃ v L, o = .returned v ∧ Q10n4 Z a1 a2 a3 c0 c1 c2 c3 u8 u13 h0 n0 v U'.heap L ∧ FrameEnd U o U' L ({ frames := 2, cells := 0, slots := 0, locals := 24 } : Room).cells ({ frames := 2, cells := 0, slots := 0, locals := 24 } : Room).slots) := by
  refine MetFree.of_bodySF (plainFor_of_name pnc_com_example_wattle_wattle_Figure) hisR ?_
  intro p e s m args below meth c s₁ Bd hml0 hP hK
  obtain ⟨rfl, hZ, hh⟩ := hP
  have hx := Bd.exec
  have hby := Bd.bytes
  have hml : c.maxLocals = 3 := hml0
  have hown : s.vm.findClass "com/example/wattle/wattle/Figure" = some m.cls := findClass_of_methodNamed Bd.named
  have hnm := (name_of_methodNamed Bd.named Bd.method).1
  have X0 : Stand p l e ({ frames := 2, cells := 0, slots := 0, locals := 24 } : Room) s m #[(.ref a1), (.ref a2), (.ref a3)] below meth c s₁ [] 0 0 := Stand.of_body Bd
  have e0 : s₁.heap = h0 := by rw [← hh, Bd.state]; rfl
  have N0 := Fr.nil n0
  have Z0 : n0 ≤ h0.size := O0.1 ▸ O0.2.1
  have pre0 : ∀ t, Steps p.tables e below (s₁.setTop (mkF m 0 #[.val (.ref a1), .val (.ref a2), .val (.ref a3)] [])) t → Steps p.tables e below (s₁.setTop (entryFrame m #[(.ref a1), (.ref a2), (.ref a3)] 3)) t := fun t k => castTop (ef_10 m a1 a2 a3) k
  obtain ⟨vr4, _, ⟨T4, L4, k4, n4⟩, -, X4, ⟨Lc4, hQ4, l4, y4, z4⟩, st4⟩ := X0.specialBack hx (y := (⟨"java/lang/Record", "<init>", "()V"⟩ : MethodName)) rfl hown (mvT hZ (hw _ (List.mem_of_getElem? (i := 48) rfl))) (mvT hZ (hw _ (List.mem_of_getElem? (i := 49) rfl))) (mvT hZ (hw _ (List.mem_of_getElem? (i := 52) rfl))) (by decide) (backOf (W := 0) (rm11 l Z a0 hw [] a1 h0 n0 O0) hZ (hw _ (List.mem_of_getElem? (i := 52) rfl)) (hw _ (List.mem_of_getElem? (i := 51) rfl)) (by decide) (by decide)) (g := (mkF m 1 #[.val (.ref a1), .val (.ref a2), .val (.ref a3)] [(.ref a1)])) rfl (by rw [hml]; rfl) (Steps.refl _) (a := a1) (argsL := []) (rest := []) (lenOf pd_4 rfl) rfl (by show 2 * 0 + _ ≤ _; exact Nat.le_of_eq rfl) (hb hby d10_1) (fun _ _ => ⟨rfl, e0, (by decide : 0 + 0 ≤ _), (by decide : 0 + 0 ≤ _)⟩)
  dsimp only [Pt.U, Pt.locs, Pt.cells, Pt.slots] at X4 l4 y4 z4 st4 hQ4
  subst l4 y4 z4
  obtain ⟨rfl, N4q, e4⟩ := hQ4
  have N4 := Fr.app N0 N4q
  replace X4 := X4.more (cells' := 0) (slots' := 0) (by decide) (by decide)
  obtain ⟨cq5, kq5, q5a, q5b, q5c⟩ := isOf hZ e4 HE_a2
  obtain ⟨vr5, _, ⟨T5, L5, k5, n5⟩, -, X5, ⟨Lc5, hQ5, l5, y5, z5⟩, st5⟩ := X4.virtualBack hx (y := (⟨"java/util/Optional", "isPresent", "()Z"⟩ : MethodName)) (z := (⟨"java/util/Optional", "isPresent", "()Z"⟩ : MethodName)) hown (mvT hZ (hw _ (List.mem_of_getElem? (i := 54) rfl))) (mvT hZ (hw _ (List.mem_of_getElem? (i := 55) rfl))) (notFace_of_selects (args := #[]) (mvT hZ (hw _ (List.mem_of_getElem? (i := 57) rfl)))) (mvT hZ (hw _ (List.mem_of_getElem? (i := 57) rfl))) (mvT hZ (hw _ (List.mem_of_getElem? (i := 56) rfl))) (by decide) (backOf (W := 0) (rm12 l Z a0 hw [] a2 h0 n0 O0 HF_a2_value) hZ (hw _ (List.mem_of_getElem? (i := 58) rfl)) (hw _ (List.mem_of_getElem? (i := 42) rfl)) (by decide) (by decide)) q5a q5c (g := (mkF m 5 #[.val (.ref a1), .val (.ref a2), .val (.ref a3)] [(.ref a2)])) rfl (by rw [hml]; rfl) (Steps.refl _) (argsL := []) (rest := []) (lenOf pd_5 rfl) rfl (by show 2 * 0 + _ ≤ _; exact Nat.le_of_eq rfl) (hb hby d10_5) (fun _ _ => ⟨rfl, e4, (by decide : 0 + 0 ≤ _), (by decide : 0 + 0 ≤ _)⟩)
  dsimp only [Pt.U, Pt.locs, Pt.cells, Pt.slots] at X5 l5 y5 z5 st5 hQ5
  subst l5 y5 z5
  obtain ⟨rfl, N5q, e5⟩ := hQ5
  have N5 := Fr.app N4 N5q
  replace X5 := X5.more (cells' := 0) (slots' := 0) (by decide) (by decide)
  obtain ⟨⟨tx6, tl6, tp6⟩, ty6, tk6, tt6, tE6, tV6, tC6, tA6⟩ := id HT_a3
  obtain ⟨cq7, kq7, q7a, q7b, q7c⟩ := isOf hZ e5 (own_Str.exa HT_a3)
  obtain ⟨vr7, _, ⟨T7, L7, k7, n7⟩, -, X7, ⟨Lc7, hQ7, l7, y7, z7⟩, st7⟩ := X5.virtualBack hx (y := (⟨"java/lang/String", "isEmpty", "()Z"⟩ : MethodName)) (z := (⟨"java/lang/String", "isEmpty", "()Z"⟩ : MethodName)) hown (mvT hZ (hw _ (List.mem_of_getElem? (i := 61) rfl))) (mvT hZ (hw _ (List.mem_of_getElem? (i := 62) rfl))) (notFace_of_selects (args := #[]) (mvT hZ (hw _ (List.mem_of_getElem? (i := 64) rfl)))) (mvT hZ (hw _ (List.mem_of_getElem? (i := 64) rfl))) (mvT hZ (hw _ (List.mem_of_getElem? (i := 63) rfl))) (by decide) (StrChars.Road.empW (W := 1) hZ (fun d hd => hw d (own_in_wordsEmp d hd)) (kI := 4) (hw _ (List.mem_of_getElem? (i := 6) rfl)) tE6 tV6 tC6 tA6 (StrChars.Road.codOf (cs := [c0, c1, c2, c3]) (n := ([c0, c1, c2, c3] : List Int32).length) rfl (fun c hc => (tp6 c hc).2)) (own_up tp6) tl6 (by decide) (by decide)) q7a q7c (g := (mkF m 9 #[.val (.ref a1), .val (.ref a2), .val (.ref a3)] [(.ref a3), (.int (0 : Int32))])) rfl (by rw [hml]; rfl) (Steps.refl _) (argsL := []) (rest := [(.int (0 : Int32))]) (lenOf pd_5 rfl) rfl (by show 2 * 0 + _ ≤ _; exact Nat.le_of_eq rfl) (hb hby d10_9) (fun _ _ => ⟨rfl, e5, (by decide : 0 + 0 ≤ _), (by decide : 0 + 0 ≤ _)⟩)
  dsimp only [Pt.U, Pt.locs, Pt.cells, Pt.slots] at X7 l7 y7 z7 st7 hQ7
  subst l7 y7 z7
  obtain ⟨rfl, rfl, e7⟩ := hQ7
  have N7 := Fr.app N5 (Fr.nil n0)
  replace X7 := X7.more (cells' := 0) (slots' := 0) (by decide) (by decide)
  obtain ⟨T9, h9, X9, e9, W9, st9⟩ := putF X7 hx hZ hown (host := "") (Or.inl (hw _ (List.mem_of_getElem? (i := 66) rfl))) Via.refl e7 HF_a1_value HE_a1 (Or.inr ⟨(hw _ (List.mem_of_getElem? (i := 67) rfl)), rfl, hnm⟩) (hw _ (List.mem_of_getElem? (i := 39) rfl)) (ty := (.object "java/util/Optional")) (by decide) rfl rfl (g := (mkF m 27 #[.val (.ref a1), .val (.ref a2), .val (.ref a3)] [(.ref a2), (.ref a1)])) rfl rfl (hb hby d10_27)
  have N9 := Fr.snoc X9 N7 g_a1
  have K10 : Keep h0 h9 [a1] := (Keep.refl h0 [a1]).wr W9 (Or.inl (List.mem_of_getElem? (i := 0) rfl))
  have O11 : Old Z n0 h9 := O0.wr W9 g_a1
  have Fw9 : Fld Z h9 a1 "com/example/wattle/wattle/Figure" "value" "Ljava/util/Optional;" (.ref a2) := HF_a1_value.same W9
  have f12 := (HE_a1.wr W9)
  have f14 := (HF_a1_shown.other W9 (Or.inr (slot_ne (Or.inr (hw _ (List.mem_of_getElem? (i := 69) rfl))) (Or.inr (hw _ (List.mem_of_getElem? (i := 67) rfl))) (by decide) (t := (.object "java/lang/String")) (t' := (.object "java/util/Optional")) (by decide) (by decide))))
  obtain ⟨T15, h15, X15, e15, W15, st15⟩ := putF X9 hx hZ hown (host := "") (Or.inl (hw _ (List.mem_of_getElem? (i := 68) rfl))) Via.refl e9 f14 f12 (Or.inr ⟨(hw _ (List.mem_of_getElem? (i := 69) rfl)), rfl, hnm⟩) (hw _ (List.mem_of_getElem? (i := 39) rfl)) (ty := (.object "java/lang/String")) (by decide) rfl rfl (g := (mkF m 32 #[.val (.ref a1), .val (.ref a2), .val (.ref a3)] [(.ref a3), (.ref a1)])) rfl rfl (hb hby d10_32)
  have N15 := Fr.snoc X15 N9 g_a1
  have K16 : Keep h0 h15 [a1] := K10.wr W15 (Or.inl (List.mem_of_getElem? (i := 0) rfl))
  have O17 : Old Z n0 h15 := O11.wr W15 g_a1
  have Fw15 : Fld Z h15 a1 "com/example/wattle/wattle/Figure" "shown" "Ljava/lang/String;" (.ref a3) := f14.same W15
  have f18 := (f12.wr W15)
  have f19 := (Fw9.other W15 (Or.inr (slot_ne (Or.inr (hw _ (List.mem_of_getElem? (i := 67) rfl))) (Or.inr (hw _ (List.mem_of_getElem? (i := 69) rfl))) (by decide) (t := (.object "java/util/Optional")) (t' := (.object "java/lang/String")) (by decide) (by decide))))
  obtain ⟨fs, hr, hrun, hended, hW, hsame⟩ := X15.leave (v := none) (fun _ => rfl)
  refine ⟨_, _, pre0 _ ?_, hrun, hended, _, _, rfl, ?_, ⟨_, rfl⟩, hW, hsame.mono (by decide) (by decide)⟩
  · show Steps p.tables e below (s₁.setTop (mkF m 0 #[.val (.ref a1), .val (.ref a2), .val (.ref a3)] [])) _
    refine XS.aloadN X0.here hx rfl (hb hby d10_0) rfl rfl ?_
    show Steps p.tables e below (s₁.setTop (mkF m 1 #[.val (.ref a1), .val (.ref a2), .val (.ref a3)] [(.ref a1)])) _
    refine st4.trans ?_
    show Steps p.tables e below (T4.setTop (mkF m 4 #[.val (.ref a1), .val (.ref a2), .val (.ref a3)] [])) _
    refine XS.aloadN X4.here hx rfl (hb hby d10_4) rfl rfl ?_
    show Steps p.tables e below (T4.setTop (mkF m 5 #[.val (.ref a1), .val (.ref a2), .val (.ref a3)] [(.ref a2)])) _
    refine st5.trans ?_
    show Steps p.tables e below (T5.setTop (mkF m 8 #[.val (.ref a1), .val (.ref a2), .val (.ref a3)] [(.int (0 : Int32))])) _
    refine XS.aloadN X5.here hx rfl (hb hby d10_8) rfl rfl ?_
    show Steps p.tables e below (T5.setTop (mkF m 9 #[.val (.ref a1), .val (.ref a2), .val (.ref a3)] [(.ref a3), (.int (0 : Int32))])) _
    refine st7.trans ?_
    show Steps p.tables e below (T7.setTop (mkF m 12 #[.val (.ref a1), .val (.ref a2), .val (.ref a3)] [(.int (0 : Int32)), (.int (0 : Int32))])) _
    refine XS.icmpYes X7.here hx rfl (pc0 := 12) (pc' := 25) rfl (hb hby d10_12) rfl (teq (by decide : (0 : Int32) = (0 : Int32))).1 (by decide) (by decide) ?_
    show Steps p.tables e below (T7.setTop (mkF m 25 #[.val (.ref a1), .val (.ref a2), .val (.ref a3)] [])) _
    refine XS.aloadN X7.here hx rfl (hb hby d10_25) rfl rfl ?_
    show Steps p.tables e below (T7.setTop (mkF m 26 #[.val (.ref a1), .val (.ref a2), .val (.ref a3)] [(.ref a1)])) _
    refine XS.aloadN X7.here hx rfl (hb hby d10_26) rfl rfl ?_
    show Steps p.tables e below (T7.setTop (mkF m 27 #[.val (.ref a1), .val (.ref a2), .val (.ref a3)] [(.ref a2), (.ref a1)])) _
    refine st9 _ ?_
    show Steps p.tables e below (T9.setTop (mkF m 30 #[.val (.ref a1), .val (.ref a2), .val (.ref a3)] [])) _
    refine XS.aloadN X9.here hx rfl (hb hby d10_30) rfl rfl ?_
    show Steps p.tables e below (T9.setTop (mkF m 31 #[.val (.ref a1), .val (.ref a2), .val (.ref a3)] [(.ref a1)])) _
    refine XS.aloadN X9.here hx rfl (hb hby d10_31) rfl rfl ?_
    show Steps p.tables e below (T9.setTop (mkF m 32 #[.val (.ref a1), .val (.ref a2), .val (.ref a3)] [(.ref a3), (.ref a1)])) _
    refine st15 _ ?_
    show Steps p.tables e below (T15.setTop (mkF m 35 #[.val (.ref a1), .val (.ref a2), .val (.ref a3)] [])) _
    exact X15.returnOut hx Bd.returns (hb hby d10_35) hr
  · show Q10n4 Z a1 a2 a3 c0 c1 c2 c3 u8 u13 h0 n0 _ T15.heap _
    rw [e15]
    exact ⟨rfl, N15, K16, f18, Fw15, f19⟩
theorem d8_0 : decode prog_20_method_3_code 0 = .ok (.new 26, 3) := by decide +kernel
theorem d8_3 : decode prog_20_method_3_code 3 = .ok (.dup, 1) := by decide +kernel
theorem d8_4 : decode prog_20_method_3_code 4 = .ok (.invokestatic 44, 3) := by decide +kernel
theorem pd_3 : parseMethodDescriptor "()Ljava/util/Optional;" = some ⟨[], some (.object "java/util/Optional")⟩ := by decide +kernel
theorem d8_7 : decode prog_20_method_3_code 7 = .ok (.aload_n 0, 1) := by decide +kernel
theorem d8_8 : decode prog_20_method_3_code 8 = .ok (.invokespecial 41, 3) := by decide +kernel
theorem pd_12 : parseMethodDescriptor "(Ljava/util/Optional;Ljava/lang/String;)V" = some ⟨[(.object "java/util/Optional"), (.object "java/lang/String")], none⟩ := by decide +kernel
theorem d8_11 : decode prog_20_method_3_code 11 = .ok (.areturn, 1) := by decide +kernel
def Q8n1 (Z : State) (a1 w5 : Addr) (v9 : Int32) (h0 : Heap) (n0 : Nat) (v : Option Value) (h : Heap) (L : List Loc) : Prop := ∃ b2 : Addr, v = some (.ref b2) ∧ Fr n0 L ∧ Keep h0 h [] ∧ h0.size ≤ b2 ∧ Exa Z h b2 "com/example/wattle/wattle/Figure" ∧ Fld Z h b2 "com/example/wattle/wattle/Figure" "shown" "Ljava/lang/String;" (.ref a1) ∧ Fld Z h b2 "com/example/wattle/wattle/Figure" "value" "Ljava/util/Optional;" (.ref w5)
theorem ef_8 (m : MethodId) (x0 : Addr) : entryFrame m #[(.ref x0)] 1 = mkF m 0 #[.val (.ref x0)] [] := by first | (simp [entryFrame, mkF, argsToLocals, Value.category]; done) | rfl
set_option maxRecDepth 65536 in
set_option maxHeartbeats 40000000 in
theorem rm8n1 (l : Launch) (Z : State) (a0 : Array Value) (hw : ∀ d ∈ tables_1, d.before a0 Z = true) (ws : List Jvm.Cond) (a1 w5 : Addr) (v9 : Int32) (h0 : Heap) (n0 : Nat) (O0 : Old Z n0 h0) (S_EMPTY : Sta Z Z.heap "java/util/Optional" "EMPTY" "Ljava/util/Optional;" (.ref w5)) (HE_w5 : Exa Z h0 w5 "java/util/Optional") (HF_w5_value : Fld Z h0 w5 "java/util/Optional" "value" "Ljava/lang/Object;" .null) (HT_a1 : own_Str Z h0 h0.size a1 [v9]) :
    MetFree l (⟨"com/example/wattle/wattle/Figure", "unreadable", "(Ljava/lang/String;)Lcom/example/wattle/wattle/Figure;"⟩ : MethodName) (head1 (Jvm.Cond.code (⟨"com/example/wattle/wattle/Figure", "unreadable", "(Ljava/lang/String;)Lcom/example/wattle/wattle/Figure;"⟩ : MethodName) prog_20_method_3_code 1 (some (.object "com/example/wattle/wattle/Figure")) :: ws) ({ frames := 3, cells := 1, slots := 2, locals := 39 } : Room)) (fun a U => a = #[(.ref a1)] ∧ Z.Warmed39 U.vm ∧ U.heap = h0) (fun _ _ _ _ _ => True) (fun _ U o U' => ∃ v L, o = .returned v ∧ Q8n1 Z a1 w5 v9 h0 n0 v U'.heap L ∧ FrameEnd U o U' L ({ frames := 3, cells := 1, slots := 2, locals := 39 } : Room).cells ({ frames := 3, cells := 1, slots := 2, locals := 39 } : Room).slots) := by
  refine MetFree.of_bodySF (plainFor_of_name pnc_com_example_wattle_wattle_Figure) hisR ?_
  intro p e s m args below meth c s₁ Bd hml0 hP hK
  obtain ⟨rfl, hZ, hh⟩ := hP
  have hx := Bd.exec
  have hby := Bd.bytes
  have hml : c.maxLocals = 1 := hml0
  have hown : s.vm.findClass "com/example/wattle/wattle/Figure" = some m.cls := findClass_of_methodNamed Bd.named
  have hnm := (name_of_methodNamed Bd.named Bd.method).1
  have X0 : Stand p l e ({ frames := 3, cells := 1, slots := 2, locals := 39 } : Room) s m #[(.ref a1)] below meth c s₁ [] 0 0 := Stand.of_body Bd
  have e0 : s₁.heap = h0 := by rw [← hh, Bd.state]; rfl
  have N0 := Fr.nil n0
  have Z0 : n0 ≤ h0.size := O0.1 ▸ O0.2.1
  have pre0 : ∀ t, Steps p.tables e below (s₁.setTop (mkF m 0 #[.val (.ref a1)] [])) t → Steps p.tables e below (s₁.setTop (entryFrame m #[(.ref a1)] 1)) t := fun t k => castTop (ef_8 m a1) k
  obtain ⟨T2, h2, X2, e2, E2, A2, D2, -, st2⟩ := newO X0 hx hZ hown (hw _ (List.mem_of_getElem? (i := 38) rfl)) (hw _ (List.mem_of_getElem? (i := 39) rfl)) (hw _ (List.mem_of_getElem? (i := 36) rfl)) e0 (g := (mkF m 0 #[.val (.ref a1)] [])) rfl (hb hby d8_0) (by decide) (by decide)
  obtain ⟨b2, g2⟩ : ∃ z, z = h0.size := ⟨_, rfl⟩
  rw [← g2] at A2 D2 st2
  have g_b2 : n0 ≤ b2 := Nat.le_trans (Nat.le_trans Z0 (Keep.refl h0 []).1) (Nat.le_of_eq g2.symm)
  have sz_b2 : h0.size ≤ b2 := Nat.le_trans (Keep.refl h0 []).1 (Nat.le_of_eq g2.symm)
  have K3 : Keep h0 h2 [] := (Keep.refl h0 []).ext E2
  have O4 : Old Z n0 h2 := O0.ext E2
  have F_value_b2 : Fld Z h2 b2 "com/example/wattle/wattle/Figure" "value" "Ljava/util/Optional;" .null := D2 (Or.inr (hw _ (List.mem_of_getElem? (i := 67) rfl))) (ty := (.object "java/util/Optional")) (by decide)
  have F_shown_b2 : Fld Z h2 b2 "com/example/wattle/wattle/Figure" "shown" "Ljava/lang/String;" .null := D2 (Or.inr (hw _ (List.mem_of_getElem? (i := 69) rfl))) (ty := (.object "java/lang/String")) (by decide)
  replace X2 := X2.more (cells' := 1) (slots' := 2) (by decide) (by decide)
  obtain ⟨vr6, _, ⟨T6, L6, k6, n6⟩, -, X6, ⟨Lc6, hQ6, l6, y6, z6⟩, st6⟩ := Jvm.LawKit.callS X2 hx (y := (⟨"java/util/Optional", "empty", "()Ljava/util/Optional;"⟩ : MethodName)) hown (mvT hZ (hw _ (List.mem_of_getElem? (i := 40) rfl))) (mvT hZ (hw _ (List.mem_of_getElem? (i := 41) rfl))) (mvT hZ (hw _ (List.mem_of_getElem? (i := 42) rfl))) (mvT hZ (hw _ (List.mem_of_getElem? (i := 43) rfl))) (by decide) (backOf (W := 2) (rm9 l Z a0 hw [] w5 h2 n0 O4 S_EMPTY) hZ (hw _ (List.mem_of_getElem? (i := 43) rfl)) (hw _ (List.mem_of_getElem? (i := 42) rfl)) (by decide) (by decide)) (g := (mkF m 4 #[.val (.ref a1)] [(.ref b2), (.ref b2)])) rfl (by rw [hml]; rfl) (argsL := []) (rest := [(.ref b2), (.ref b2)]) (lenOf pd_3 rfl) rfl (by show 2 * 0 + _ ≤ _; exact Nat.le_of_eq rfl) (hb hby d8_4) (fun _ _ => ⟨rfl, e2, (by decide : 1 + 0 ≤ _), (by decide : 2 + 0 ≤ _)⟩)
  dsimp only [Pt.U, Pt.locs, Pt.cells, Pt.slots] at X6 l6 y6 z6 st6 hQ6
  subst l6 y6 z6
  obtain ⟨rfl, N6q, e6⟩ := hQ6
  have N6 := Fr.app N0 N6q
  replace X6 := X6.more (cells' := 1) (slots' := 2) (by decide) (by decide)
  have f7 := (HE_w5.ext E2)
  have f8 := (HF_w5_value.ext E2)
  have f10 := (own_Str.ext HT_a1 E2)
  obtain ⟨vr11, _, ⟨T11, L11, k11, n11⟩, -, X11, ⟨Lc11, hQ11, l11, y11, z11⟩, st11⟩ := X6.specialBack hx (y := (⟨"com/example/wattle/wattle/Figure", "<init>", "(Ljava/util/Optional;Ljava/lang/String;)V"⟩ : MethodName)) rfl hown (mvT hZ (hw _ (List.mem_of_getElem? (i := 45) rfl))) (mvT hZ (hw _ (List.mem_of_getElem? (i := 46) rfl))) (mvT hZ (hw _ (List.mem_of_getElem? (i := 47) rfl))) (by decide) (backOf (W := 1) (rm10n1 l Z a0 hw [] b2 w5 a1 v9 (.null) (.null) h2 n0 O4 f7 f8 (own_Str.top f10) A2 F_value_b2 g_b2 F_shown_b2) hZ (hw _ (List.mem_of_getElem? (i := 47) rfl)) (hw _ (List.mem_of_getElem? (i := 36) rfl)) (by decide) (by decide)) (g := (mkF m 8 #[.val (.ref a1)] [(.ref a1), (.ref w5), (.ref b2), (.ref b2)])) rfl (by rw [hml]; rfl) (Steps.refl _) (a := b2) (argsL := [(.ref w5), (.ref a1)]) (rest := [(.ref b2)]) (lenOf pd_12 rfl) rfl (by show 2 * 0 + _ ≤ _; exact Nat.le_of_eq rfl) (hb hby d8_8) (fun _ _ => ⟨rfl, e6, (by decide : 1 + 0 ≤ _), (by decide : 2 + 0 ≤ _)⟩)
  dsimp only [Pt.U, Pt.locs, Pt.cells, Pt.slots] at X11 l11 y11 z11 st11 hQ11
  subst l11 y11 z11
  obtain ⟨rfl, N11q, K11, Y11_0, Y11_1, Y11_2⟩ := hQ11
  have N11 := Fr.app N6 N11q
  replace X11 := X11.more (cells' := 1) (slots' := 2) (by decide) (by decide)
  have K12 : Keep h0 T11.heap [] := K3.trans K11 (allS (Or.inr sz_b2) all0)
  have O13 : Old Z n0 T11.heap := O4.keep K11 (allS g_b2 all0)
  obtain ⟨fs, hr, hrun, hended, hW, hsame⟩ := X11.leave (v := some (.ref b2)) (fun h => by rw [Bd.returns] at h; cases h)
  refine ⟨_, _, pre0 _ ?_, hrun, hended, _, _, rfl, ?_, ⟨_, rfl⟩, hW, hsame.mono (by decide) (by decide)⟩
  · show Steps p.tables e below (s₁.setTop (mkF m 0 #[.val (.ref a1)] [])) _
    refine st2 _ ?_
    show Steps p.tables e below (T2.setTop (mkF m 3 #[.val (.ref a1)] [(.ref b2)])) _
    refine XS.dup X2.here hx rfl (hb hby d8_3) rfl rfl ?_
    show Steps p.tables e below (T2.setTop (mkF m 4 #[.val (.ref a1)] [(.ref b2), (.ref b2)])) _
    refine st6 _ ?_
    show Steps p.tables e below (T6.setTop (mkF m 7 #[.val (.ref a1)] [(.ref w5), (.ref b2), (.ref b2)])) _
    refine XS.aloadN X6.here hx rfl (hb hby d8_7) rfl rfl ?_
    show Steps p.tables e below (T6.setTop (mkF m 8 #[.val (.ref a1)] [(.ref a1), (.ref w5), (.ref b2), (.ref b2)])) _
    refine st11.trans ?_
    show Steps p.tables e below (T11.setTop (mkF m 11 #[.val (.ref a1)] [(.ref b2)])) _
    exact own_retR X11 hx Bd.returns rfl rfl (hb hby d8_11) hr
  · show Q8n1 Z a1 w5 v9 h0 n0 _ T11.heap _
    exact ⟨b2, rfl, N11, K12, sz_b2, Y11_0, Y11_1, Y11_2⟩
def Q8n2 (Z : State) (a1 w5 : Addr) (v9 v10 : Int32) (h0 : Heap) (n0 : Nat) (v : Option Value) (h : Heap) (L : List Loc) : Prop := ∃ b2 : Addr, v = some (.ref b2) ∧ Fr n0 L ∧ Keep h0 h [] ∧ h0.size ≤ b2 ∧ Exa Z h b2 "com/example/wattle/wattle/Figure" ∧ Fld Z h b2 "com/example/wattle/wattle/Figure" "shown" "Ljava/lang/String;" (.ref a1) ∧ Fld Z h b2 "com/example/wattle/wattle/Figure" "value" "Ljava/util/Optional;" (.ref w5)
set_option maxRecDepth 65536 in
set_option maxHeartbeats 40000000 in
theorem rm8n2 (l : Launch) (Z : State) (a0 : Array Value) (hw : ∀ d ∈ tables_1, d.before a0 Z = true) (ws : List Jvm.Cond) (a1 w5 : Addr) (v9 v10 : Int32) (h0 : Heap) (n0 : Nat) (O0 : Old Z n0 h0) (S_EMPTY : Sta Z Z.heap "java/util/Optional" "EMPTY" "Ljava/util/Optional;" (.ref w5)) (HE_w5 : Exa Z h0 w5 "java/util/Optional") (HF_w5_value : Fld Z h0 w5 "java/util/Optional" "value" "Ljava/lang/Object;" .null) (HT_a1 : own_Str Z h0 h0.size a1 [v9, v10]) :
    MetFree l (⟨"com/example/wattle/wattle/Figure", "unreadable", "(Ljava/lang/String;)Lcom/example/wattle/wattle/Figure;"⟩ : MethodName) (head1 (Jvm.Cond.code (⟨"com/example/wattle/wattle/Figure", "unreadable", "(Ljava/lang/String;)Lcom/example/wattle/wattle/Figure;"⟩ : MethodName) prog_20_method_3_code 1 (some (.object "com/example/wattle/wattle/Figure")) :: ws) ({ frames := 3, cells := 1, slots := 2, locals := 39 } : Room)) (fun a U => a = #[(.ref a1)] ∧ Z.Warmed39 U.vm ∧ U.heap = h0) (fun _ _ _ _ _ => True) (fun _ U o U' => ∃ v L, o = .returned v ∧ Q8n2 Z a1 w5 v9 v10 h0 n0 v U'.heap L ∧ FrameEnd U o U' L ({ frames := 3, cells := 1, slots := 2, locals := 39 } : Room).cells ({ frames := 3, cells := 1, slots := 2, locals := 39 } : Room).slots) := by
  refine MetFree.of_bodySF (plainFor_of_name pnc_com_example_wattle_wattle_Figure) hisR ?_
  intro p e s m args below meth c s₁ Bd hml0 hP hK
  obtain ⟨rfl, hZ, hh⟩ := hP
  have hx := Bd.exec
  have hby := Bd.bytes
  have hml : c.maxLocals = 1 := hml0
  have hown : s.vm.findClass "com/example/wattle/wattle/Figure" = some m.cls := findClass_of_methodNamed Bd.named
  have hnm := (name_of_methodNamed Bd.named Bd.method).1
  have X0 : Stand p l e ({ frames := 3, cells := 1, slots := 2, locals := 39 } : Room) s m #[(.ref a1)] below meth c s₁ [] 0 0 := Stand.of_body Bd
  have e0 : s₁.heap = h0 := by rw [← hh, Bd.state]; rfl
  have N0 := Fr.nil n0
  have Z0 : n0 ≤ h0.size := O0.1 ▸ O0.2.1
  have pre0 : ∀ t, Steps p.tables e below (s₁.setTop (mkF m 0 #[.val (.ref a1)] [])) t → Steps p.tables e below (s₁.setTop (entryFrame m #[(.ref a1)] 1)) t := fun t k => castTop (ef_8 m a1) k
  obtain ⟨T2, h2, X2, e2, E2, A2, D2, -, st2⟩ := newO X0 hx hZ hown (hw _ (List.mem_of_getElem? (i := 38) rfl)) (hw _ (List.mem_of_getElem? (i := 39) rfl)) (hw _ (List.mem_of_getElem? (i := 36) rfl)) e0 (g := (mkF m 0 #[.val (.ref a1)] [])) rfl (hb hby d8_0) (by decide) (by decide)
  obtain ⟨b2, g2⟩ : ∃ z, z = h0.size := ⟨_, rfl⟩
  rw [← g2] at A2 D2 st2
  have g_b2 : n0 ≤ b2 := Nat.le_trans (Nat.le_trans Z0 (Keep.refl h0 []).1) (Nat.le_of_eq g2.symm)
  have sz_b2 : h0.size ≤ b2 := Nat.le_trans (Keep.refl h0 []).1 (Nat.le_of_eq g2.symm)
  have K3 : Keep h0 h2 [] := (Keep.refl h0 []).ext E2
  have O4 : Old Z n0 h2 := O0.ext E2
  have F_value_b2 : Fld Z h2 b2 "com/example/wattle/wattle/Figure" "value" "Ljava/util/Optional;" .null := D2 (Or.inr (hw _ (List.mem_of_getElem? (i := 67) rfl))) (ty := (.object "java/util/Optional")) (by decide)
  have F_shown_b2 : Fld Z h2 b2 "com/example/wattle/wattle/Figure" "shown" "Ljava/lang/String;" .null := D2 (Or.inr (hw _ (List.mem_of_getElem? (i := 69) rfl))) (ty := (.object "java/lang/String")) (by decide)
  replace X2 := X2.more (cells' := 1) (slots' := 2) (by decide) (by decide)
  obtain ⟨vr6, _, ⟨T6, L6, k6, n6⟩, -, X6, ⟨Lc6, hQ6, l6, y6, z6⟩, st6⟩ := Jvm.LawKit.callS X2 hx (y := (⟨"java/util/Optional", "empty", "()Ljava/util/Optional;"⟩ : MethodName)) hown (mvT hZ (hw _ (List.mem_of_getElem? (i := 40) rfl))) (mvT hZ (hw _ (List.mem_of_getElem? (i := 41) rfl))) (mvT hZ (hw _ (List.mem_of_getElem? (i := 42) rfl))) (mvT hZ (hw _ (List.mem_of_getElem? (i := 43) rfl))) (by decide) (backOf (W := 2) (rm9 l Z a0 hw [] w5 h2 n0 O4 S_EMPTY) hZ (hw _ (List.mem_of_getElem? (i := 43) rfl)) (hw _ (List.mem_of_getElem? (i := 42) rfl)) (by decide) (by decide)) (g := (mkF m 4 #[.val (.ref a1)] [(.ref b2), (.ref b2)])) rfl (by rw [hml]; rfl) (argsL := []) (rest := [(.ref b2), (.ref b2)]) (lenOf pd_3 rfl) rfl (by show 2 * 0 + _ ≤ _; exact Nat.le_of_eq rfl) (hb hby d8_4) (fun _ _ => ⟨rfl, e2, (by decide : 1 + 0 ≤ _), (by decide : 2 + 0 ≤ _)⟩)
  dsimp only [Pt.U, Pt.locs, Pt.cells, Pt.slots] at X6 l6 y6 z6 st6 hQ6
  subst l6 y6 z6
  obtain ⟨rfl, N6q, e6⟩ := hQ6
  have N6 := Fr.app N0 N6q
  replace X6 := X6.more (cells' := 1) (slots' := 2) (by decide) (by decide)
  have f7 := (HE_w5.ext E2)
  have f8 := (HF_w5_value.ext E2)
  have f11 := (own_Str.ext HT_a1 E2)
  obtain ⟨vr12, _, ⟨T12, L12, k12, n12⟩, -, X12, ⟨Lc12, hQ12, l12, y12, z12⟩, st12⟩ := X6.specialBack hx (y := (⟨"com/example/wattle/wattle/Figure", "<init>", "(Ljava/util/Optional;Ljava/lang/String;)V"⟩ : MethodName)) rfl hown (mvT hZ (hw _ (List.mem_of_getElem? (i := 45) rfl))) (mvT hZ (hw _ (List.mem_of_getElem? (i := 46) rfl))) (mvT hZ (hw _ (List.mem_of_getElem? (i := 47) rfl))) (by decide) (backOf (W := 1) (rm10n2 l Z a0 hw [] b2 w5 a1 v9 v10 (.null) (.null) h2 n0 O4 f7 f8 (own_Str.top f11) A2 F_value_b2 g_b2 F_shown_b2) hZ (hw _ (List.mem_of_getElem? (i := 47) rfl)) (hw _ (List.mem_of_getElem? (i := 36) rfl)) (by decide) (by decide)) (g := (mkF m 8 #[.val (.ref a1)] [(.ref a1), (.ref w5), (.ref b2), (.ref b2)])) rfl (by rw [hml]; rfl) (Steps.refl _) (a := b2) (argsL := [(.ref w5), (.ref a1)]) (rest := [(.ref b2)]) (lenOf pd_12 rfl) rfl (by show 2 * 0 + _ ≤ _; exact Nat.le_of_eq rfl) (hb hby d8_8) (fun _ _ => ⟨rfl, e6, (by decide : 1 + 0 ≤ _), (by decide : 2 + 0 ≤ _)⟩)
  dsimp only [Pt.U, Pt.locs, Pt.cells, Pt.slots] at X12 l12 y12 z12 st12 hQ12
  subst l12 y12 z12
  obtain ⟨rfl, N12q, K12, Y12_0, Y12_1, Y12_2⟩ := hQ12
  have N12 := Fr.app N6 N12q
  replace X12 := X12.more (cells' := 1) (slots' := 2) (by decide) (by decide)
  have K13 : Keep h0 T12.heap [] := K3.trans K12 (allS (Or.inr sz_b2) all0)
  have O14 : Old Z n0 T12.heap := O4.keep K12 (allS g_b2 all0)
  obtain ⟨fs, hr, hrun, hended, hW, hsame⟩ := X12.leave (v := some (.ref b2)) (fun h => by rw [Bd.returns] at h; cases h)
  refine ⟨_, _, pre0 _ ?_, hrun, hended, _, _, rfl, ?_, ⟨_, rfl⟩, hW, hsame.mono (by decide) (by decide)⟩
  · show Steps p.tables e below (s₁.setTop (mkF m 0 #[.val (.ref a1)] [])) _
    refine st2 _ ?_
    show Steps p.tables e below (T2.setTop (mkF m 3 #[.val (.ref a1)] [(.ref b2)])) _
    refine XS.dup X2.here hx rfl (hb hby d8_3) rfl rfl ?_
    show Steps p.tables e below (T2.setTop (mkF m 4 #[.val (.ref a1)] [(.ref b2), (.ref b2)])) _
    refine st6 _ ?_
    show Steps p.tables e below (T6.setTop (mkF m 7 #[.val (.ref a1)] [(.ref w5), (.ref b2), (.ref b2)])) _
    refine XS.aloadN X6.here hx rfl (hb hby d8_7) rfl rfl ?_
    show Steps p.tables e below (T6.setTop (mkF m 8 #[.val (.ref a1)] [(.ref a1), (.ref w5), (.ref b2), (.ref b2)])) _
    refine st12.trans ?_
    show Steps p.tables e below (T12.setTop (mkF m 11 #[.val (.ref a1)] [(.ref b2)])) _
    exact own_retR X12 hx Bd.returns rfl rfl (hb hby d8_11) hr
  · show Q8n2 Z a1 w5 v9 v10 h0 n0 _ T12.heap _
    exact ⟨b2, rfl, N12, K13, sz_b2, Y12_0, Y12_1, Y12_2⟩
def Q8n3 (Z : State) (a1 w5 : Addr) (v9 v10 v11 : Int32) (h0 : Heap) (n0 : Nat) (v : Option Value) (h : Heap) (L : List Loc) : Prop := ∃ b2 : Addr, v = some (.ref b2) ∧ Fr n0 L ∧ Keep h0 h [] ∧ h0.size ≤ b2 ∧ Exa Z h b2 "com/example/wattle/wattle/Figure" ∧ Fld Z h b2 "com/example/wattle/wattle/Figure" "shown" "Ljava/lang/String;" (.ref a1) ∧ Fld Z h b2 "com/example/wattle/wattle/Figure" "value" "Ljava/util/Optional;" (.ref w5)
set_option maxRecDepth 65536 in
set_option maxHeartbeats 40000000 in
theorem rm8n3 (l : Launch) (Z : State) (a0 : Array Value) (hw : ∀ d ∈ tables_1, d.before a0 Z = true) (ws : List Jvm.Cond) (a1 w5 : Addr) (v9 v10 v11 : Int32) (h0 : Heap) (n0 : Nat) (O0 : Old Z n0 h0) (S_EMPTY : Sta Z Z.heap "java/util/Optional" "EMPTY" "Ljava/util/Optional;" (.ref w5)) (HE_w5 : Exa Z h0 w5 "java/util/Optional") (HF_w5_value : Fld Z h0 w5 "java/util/Optional" "value" "Ljava/lang/Object;" .null) (HT_a1 : own_Str Z h0 h0.size a1 [v9, v10, v11]) :
    MetFree l (⟨"com/example/wattle/wattle/Figure", "unreadable", "(Ljava/lang/String;)Lcom/example/wattle/wattle/Figure;"⟩ : MethodName) (head1 (Jvm.Cond.code (⟨"com/example/wattle/wattle/Figure", "unreadable", "(Ljava/lang/String;)Lcom/example/wattle/wattle/Figure;"⟩ : MethodName) prog_20_method_3_code 1 (some (.object "com/example/wattle/wattle/Figure")) :: ws) ({ frames := 3, cells := 1, slots := 2, locals := 39 } : Room)) (fun a U => a = #[(.ref a1)] ∧ Z.Warmed39 U.vm ∧ U.heap = h0) (fun _ _ _ _ _ => True) (fun _ U o U' => ∃ v L, o = .returned v ∧ Q8n3 Z a1 w5 v9 v10 v11 h0 n0 v U'.heap L ∧ FrameEnd U o U' L ({ frames := 3, cells := 1, slots := 2, locals := 39 } : Room).cells ({ frames := 3, cells := 1, slots := 2, locals := 39 } : Room).slots) := by
  refine MetFree.of_bodySF (plainFor_of_name pnc_com_example_wattle_wattle_Figure) hisR ?_
  intro p e s m args below meth c s₁ Bd hml0 hP hK
  obtain ⟨rfl, hZ, hh⟩ := hP
  have hx := Bd.exec
  have hby := Bd.bytes
  have hml : c.maxLocals = 1 := hml0
  have hown : s.vm.findClass "com/example/wattle/wattle/Figure" = some m.cls := findClass_of_methodNamed Bd.named
  have hnm := (name_of_methodNamed Bd.named Bd.method).1
  have X0 : Stand p l e ({ frames := 3, cells := 1, slots := 2, locals := 39 } : Room) s m #[(.ref a1)] below meth c s₁ [] 0 0 := Stand.of_body Bd
  have e0 : s₁.heap = h0 := by rw [← hh, Bd.state]; rfl
  have N0 := Fr.nil n0
  have Z0 : n0 ≤ h0.size := O0.1 ▸ O0.2.1
  have pre0 : ∀ t, Steps p.tables e below (s₁.setTop (mkF m 0 #[.val (.ref a1)] [])) t → Steps p.tables e below (s₁.setTop (entryFrame m #[(.ref a1)] 1)) t := fun t k => castTop (ef_8 m a1) k
  obtain ⟨T2, h2, X2, e2, E2, A2, D2, -, st2⟩ := newO X0 hx hZ hown (hw _ (List.mem_of_getElem? (i := 38) rfl)) (hw _ (List.mem_of_getElem? (i := 39) rfl)) (hw _ (List.mem_of_getElem? (i := 36) rfl)) e0 (g := (mkF m 0 #[.val (.ref a1)] [])) rfl (hb hby d8_0) (by decide) (by decide)
  obtain ⟨b2, g2⟩ : ∃ z, z = h0.size := ⟨_, rfl⟩
  rw [← g2] at A2 D2 st2
  have g_b2 : n0 ≤ b2 := Nat.le_trans (Nat.le_trans Z0 (Keep.refl h0 []).1) (Nat.le_of_eq g2.symm)
  have sz_b2 : h0.size ≤ b2 := Nat.le_trans (Keep.refl h0 []).1 (Nat.le_of_eq g2.symm)
  have K3 : Keep h0 h2 [] := (Keep.refl h0 []).ext E2
  have O4 : Old Z n0 h2 := O0.ext E2
  have F_value_b2 : Fld Z h2 b2 "com/example/wattle/wattle/Figure" "value" "Ljava/util/Optional;" .null := D2 (Or.inr (hw _ (List.mem_of_getElem? (i := 67) rfl))) (ty := (.object "java/util/Optional")) (by decide)
  have F_shown_b2 : Fld Z h2 b2 "com/example/wattle/wattle/Figure" "shown" "Ljava/lang/String;" .null := D2 (Or.inr (hw _ (List.mem_of_getElem? (i := 69) rfl))) (ty := (.object "java/lang/String")) (by decide)
  replace X2 := X2.more (cells' := 1) (slots' := 2) (by decide) (by decide)
  obtain ⟨vr6, _, ⟨T6, L6, k6, n6⟩, -, X6, ⟨Lc6, hQ6, l6, y6, z6⟩, st6⟩ := Jvm.LawKit.callS X2 hx (y := (⟨"java/util/Optional", "empty", "()Ljava/util/Optional;"⟩ : MethodName)) hown (mvT hZ (hw _ (List.mem_of_getElem? (i := 40) rfl))) (mvT hZ (hw _ (List.mem_of_getElem? (i := 41) rfl))) (mvT hZ (hw _ (List.mem_of_getElem? (i := 42) rfl))) (mvT hZ (hw _ (List.mem_of_getElem? (i := 43) rfl))) (by decide) (backOf (W := 2) (rm9 l Z a0 hw [] w5 h2 n0 O4 S_EMPTY) hZ (hw _ (List.mem_of_getElem? (i := 43) rfl)) (hw _ (List.mem_of_getElem? (i := 42) rfl)) (by decide) (by decide)) (g := (mkF m 4 #[.val (.ref a1)] [(.ref b2), (.ref b2)])) rfl (by rw [hml]; rfl) (argsL := []) (rest := [(.ref b2), (.ref b2)]) (lenOf pd_3 rfl) rfl (by show 2 * 0 + _ ≤ _; exact Nat.le_of_eq rfl) (hb hby d8_4) (fun _ _ => ⟨rfl, e2, (by decide : 1 + 0 ≤ _), (by decide : 2 + 0 ≤ _)⟩)
  dsimp only [Pt.U, Pt.locs, Pt.cells, Pt.slots] at X6 l6 y6 z6 st6 hQ6
  subst l6 y6 z6
  obtain ⟨rfl, N6q, e6⟩ := hQ6
  have N6 := Fr.app N0 N6q
  replace X6 := X6.more (cells' := 1) (slots' := 2) (by decide) (by decide)
  have f7 := (HE_w5.ext E2)
  have f8 := (HF_w5_value.ext E2)
  have f12 := (own_Str.ext HT_a1 E2)
  obtain ⟨vr13, _, ⟨T13, L13, k13, n13⟩, -, X13, ⟨Lc13, hQ13, l13, y13, z13⟩, st13⟩ := X6.specialBack hx (y := (⟨"com/example/wattle/wattle/Figure", "<init>", "(Ljava/util/Optional;Ljava/lang/String;)V"⟩ : MethodName)) rfl hown (mvT hZ (hw _ (List.mem_of_getElem? (i := 45) rfl))) (mvT hZ (hw _ (List.mem_of_getElem? (i := 46) rfl))) (mvT hZ (hw _ (List.mem_of_getElem? (i := 47) rfl))) (by decide) (backOf (W := 1) (rm10n3 l Z a0 hw [] b2 w5 a1 v9 v10 v11 (.null) (.null) h2 n0 O4 f7 f8 (own_Str.top f12) A2 F_value_b2 g_b2 F_shown_b2) hZ (hw _ (List.mem_of_getElem? (i := 47) rfl)) (hw _ (List.mem_of_getElem? (i := 36) rfl)) (by decide) (by decide)) (g := (mkF m 8 #[.val (.ref a1)] [(.ref a1), (.ref w5), (.ref b2), (.ref b2)])) rfl (by rw [hml]; rfl) (Steps.refl _) (a := b2) (argsL := [(.ref w5), (.ref a1)]) (rest := [(.ref b2)]) (lenOf pd_12 rfl) rfl (by show 2 * 0 + _ ≤ _; exact Nat.le_of_eq rfl) (hb hby d8_8) (fun _ _ => ⟨rfl, e6, (by decide : 1 + 0 ≤ _), (by decide : 2 + 0 ≤ _)⟩)
  dsimp only [Pt.U, Pt.locs, Pt.cells, Pt.slots] at X13 l13 y13 z13 st13 hQ13
  subst l13 y13 z13
  obtain ⟨rfl, N13q, K13, Y13_0, Y13_1, Y13_2⟩ := hQ13
  have N13 := Fr.app N6 N13q
  replace X13 := X13.more (cells' := 1) (slots' := 2) (by decide) (by decide)
  have K14 : Keep h0 T13.heap [] := K3.trans K13 (allS (Or.inr sz_b2) all0)
  have O15 : Old Z n0 T13.heap := O4.keep K13 (allS g_b2 all0)
  obtain ⟨fs, hr, hrun, hended, hW, hsame⟩ := X13.leave (v := some (.ref b2)) (fun h => by rw [Bd.returns] at h; cases h)
  refine ⟨_, _, pre0 _ ?_, hrun, hended, _, _, rfl, ?_, ⟨_, rfl⟩, hW, hsame.mono (by decide) (by decide)⟩
  · show Steps p.tables e below (s₁.setTop (mkF m 0 #[.val (.ref a1)] [])) _
    refine st2 _ ?_
    show Steps p.tables e below (T2.setTop (mkF m 3 #[.val (.ref a1)] [(.ref b2)])) _
    refine XS.dup X2.here hx rfl (hb hby d8_3) rfl rfl ?_
    show Steps p.tables e below (T2.setTop (mkF m 4 #[.val (.ref a1)] [(.ref b2), (.ref b2)])) _
    refine st6 _ ?_
    show Steps p.tables e below (T6.setTop (mkF m 7 #[.val (.ref a1)] [(.ref w5), (.ref b2), (.ref b2)])) _
    refine XS.aloadN X6.here hx rfl (hb hby d8_7) rfl rfl ?_
    show Steps p.tables e below (T6.setTop (mkF m 8 #[.val (.ref a1)] [(.ref a1), (.ref w5), (.ref b2), (.ref b2)])) _
    refine st13.trans ?_
    show Steps p.tables e below (T13.setTop (mkF m 11 #[.val (.ref a1)] [(.ref b2)])) _
    exact own_retR X13 hx Bd.returns rfl rfl (hb hby d8_11) hr
  · show Q8n3 Z a1 w5 v9 v10 v11 h0 n0 _ T13.heap _
    exact ⟨b2, rfl, N13, K14, sz_b2, Y13_0, Y13_1, Y13_2⟩
def Q8n4 (Z : State) (a1 w5 : Addr) (v9 v10 v11 v12 : Int32) (h0 : Heap) (n0 : Nat) (v : Option Value) (h : Heap) (L : List Loc) : Prop := ∃ b2 : Addr, v = some (.ref b2) ∧ Fr n0 L ∧ Keep h0 h [] ∧ h0.size ≤ b2 ∧ Exa Z h b2 "com/example/wattle/wattle/Figure" ∧ Fld Z h b2 "com/example/wattle/wattle/Figure" "shown" "Ljava/lang/String;" (.ref a1) ∧ Fld Z h b2 "com/example/wattle/wattle/Figure" "value" "Ljava/util/Optional;" (.ref w5)
set_option maxRecDepth 65536 in
set_option maxHeartbeats 40000000 in
theorem rm8n4 (l : Launch) (Z : State) (a0 : Array Value) (hw : ∀ d ∈ tables_1, d.before a0 Z = true) (ws : List Jvm.Cond) (a1 w5 : Addr) (v9 v10 v11 v12 : Int32) (h0 : Heap) (n0 : Nat) (O0 : Old Z n0 h0) (S_EMPTY : Sta Z Z.heap "java/util/Optional" "EMPTY" "Ljava/util/Optional;" (.ref w5)) (HE_w5 : Exa Z h0 w5 "java/util/Optional") (HF_w5_value : Fld Z h0 w5 "java/util/Optional" "value" "Ljava/lang/Object;" .null) (HT_a1 : own_Str Z h0 h0.size a1 [v9, v10, v11, v12]) :
    MetFree l (⟨"com/example/wattle/wattle/Figure", "unreadable", "(Ljava/lang/String;)Lcom/example/wattle/wattle/Figure;"⟩ : MethodName) (head1 (Jvm.Cond.code (⟨"com/example/wattle/wattle/Figure", "unreadable", "(Ljava/lang/String;)Lcom/example/wattle/wattle/Figure;"⟩ : MethodName) prog_20_method_3_code 1 (some (.object "com/example/wattle/wattle/Figure")) :: ws) ({ frames := 3, cells := 1, slots := 2, locals := 39 } : Room)) (fun a U => a = #[(.ref a1)] ∧ Z.Warmed39 U.vm ∧ U.heap = h0) (fun _ _ _ _ _ => True) (fun _ U o U' => ∃ v L, o = .returned v ∧ Q8n4 Z a1 w5 v9 v10 v11 v12 h0 n0 v U'.heap L ∧ FrameEnd U o U' L ({ frames := 3, cells := 1, slots := 2, locals := 39 } : Room).cells ({ frames := 3, cells := 1, slots := 2, locals := 39 } : Room).slots) := by
  refine MetFree.of_bodySF (plainFor_of_name pnc_com_example_wattle_wattle_Figure) hisR ?_
  intro p e s m args below meth c s₁ Bd hml0 hP hK
  obtain ⟨rfl, hZ, hh⟩ := hP
  have hx := Bd.exec
  have hby := Bd.bytes
  have hml : c.maxLocals = 1 := hml0
  have hown : s.vm.findClass "com/example/wattle/wattle/Figure" = some m.cls := findClass_of_methodNamed Bd.named
  have hnm := (name_of_methodNamed Bd.named Bd.method).1
  have X0 : Stand p l e ({ frames := 3, cells := 1, slots := 2, locals := 39 } : Room) s m #[(.ref a1)] below meth c s₁ [] 0 0 := Stand.of_body Bd
  have e0 : s₁.heap = h0 := by rw [← hh, Bd.state]; rfl
  have N0 := Fr.nil n0
  have Z0 : n0 ≤ h0.size := O0.1 ▸ O0.2.1
  have pre0 : ∀ t, Steps p.tables e below (s₁.setTop (mkF m 0 #[.val (.ref a1)] [])) t → Steps p.tables e below (s₁.setTop (entryFrame m #[(.ref a1)] 1)) t := fun t k => castTop (ef_8 m a1) k
  obtain ⟨T2, h2, X2, e2, E2, A2, D2, -, st2⟩ := newO X0 hx hZ hown (hw _ (List.mem_of_getElem? (i := 38) rfl)) (hw _ (List.mem_of_getElem? (i := 39) rfl)) (hw _ (List.mem_of_getElem? (i := 36) rfl)) e0 (g := (mkF m 0 #[.val (.ref a1)] [])) rfl (hb hby d8_0) (by decide) (by decide)
  obtain ⟨b2, g2⟩ : ∃ z, z = h0.size := ⟨_, rfl⟩
  rw [← g2] at A2 D2 st2
  have g_b2 : n0 ≤ b2 := Nat.le_trans (Nat.le_trans Z0 (Keep.refl h0 []).1) (Nat.le_of_eq g2.symm)
  have sz_b2 : h0.size ≤ b2 := Nat.le_trans (Keep.refl h0 []).1 (Nat.le_of_eq g2.symm)
  have K3 : Keep h0 h2 [] := (Keep.refl h0 []).ext E2
  have O4 : Old Z n0 h2 := O0.ext E2
  have F_value_b2 : Fld Z h2 b2 "com/example/wattle/wattle/Figure" "value" "Ljava/util/Optional;" .null := D2 (Or.inr (hw _ (List.mem_of_getElem? (i := 67) rfl))) (ty := (.object "java/util/Optional")) (by decide)
  have F_shown_b2 : Fld Z h2 b2 "com/example/wattle/wattle/Figure" "shown" "Ljava/lang/String;" .null := D2 (Or.inr (hw _ (List.mem_of_getElem? (i := 69) rfl))) (ty := (.object "java/lang/String")) (by decide)
  replace X2 := X2.more (cells' := 1) (slots' := 2) (by decide) (by decide)
  obtain ⟨vr6, _, ⟨T6, L6, k6, n6⟩, -, X6, ⟨Lc6, hQ6, l6, y6, z6⟩, st6⟩ := Jvm.LawKit.callS X2 hx (y := (⟨"java/util/Optional", "empty", "()Ljava/util/Optional;"⟩ : MethodName)) hown (mvT hZ (hw _ (List.mem_of_getElem? (i := 40) rfl))) (mvT hZ (hw _ (List.mem_of_getElem? (i := 41) rfl))) (mvT hZ (hw _ (List.mem_of_getElem? (i := 42) rfl))) (mvT hZ (hw _ (List.mem_of_getElem? (i := 43) rfl))) (by decide) (backOf (W := 2) (rm9 l Z a0 hw [] w5 h2 n0 O4 S_EMPTY) hZ (hw _ (List.mem_of_getElem? (i := 43) rfl)) (hw _ (List.mem_of_getElem? (i := 42) rfl)) (by decide) (by decide)) (g := (mkF m 4 #[.val (.ref a1)] [(.ref b2), (.ref b2)])) rfl (by rw [hml]; rfl) (argsL := []) (rest := [(.ref b2), (.ref b2)]) (lenOf pd_3 rfl) rfl (by show 2 * 0 + _ ≤ _; exact Nat.le_of_eq rfl) (hb hby d8_4) (fun _ _ => ⟨rfl, e2, (by decide : 1 + 0 ≤ _), (by decide : 2 + 0 ≤ _)⟩)
  dsimp only [Pt.U, Pt.locs, Pt.cells, Pt.slots] at X6 l6 y6 z6 st6 hQ6
  subst l6 y6 z6
  obtain ⟨rfl, N6q, e6⟩ := hQ6
  have N6 := Fr.app N0 N6q
  replace X6 := X6.more (cells' := 1) (slots' := 2) (by decide) (by decide)
  have f7 := (HE_w5.ext E2)
  have f8 := (HF_w5_value.ext E2)
  have f13 := (own_Str.ext HT_a1 E2)
  obtain ⟨vr14, _, ⟨T14, L14, k14, n14⟩, -, X14, ⟨Lc14, hQ14, l14, y14, z14⟩, st14⟩ := X6.specialBack hx (y := (⟨"com/example/wattle/wattle/Figure", "<init>", "(Ljava/util/Optional;Ljava/lang/String;)V"⟩ : MethodName)) rfl hown (mvT hZ (hw _ (List.mem_of_getElem? (i := 45) rfl))) (mvT hZ (hw _ (List.mem_of_getElem? (i := 46) rfl))) (mvT hZ (hw _ (List.mem_of_getElem? (i := 47) rfl))) (by decide) (backOf (W := 1) (rm10n4 l Z a0 hw [] b2 w5 a1 v9 v10 v11 v12 (.null) (.null) h2 n0 O4 f7 f8 (own_Str.top f13) A2 F_value_b2 g_b2 F_shown_b2) hZ (hw _ (List.mem_of_getElem? (i := 47) rfl)) (hw _ (List.mem_of_getElem? (i := 36) rfl)) (by decide) (by decide)) (g := (mkF m 8 #[.val (.ref a1)] [(.ref a1), (.ref w5), (.ref b2), (.ref b2)])) rfl (by rw [hml]; rfl) (Steps.refl _) (a := b2) (argsL := [(.ref w5), (.ref a1)]) (rest := [(.ref b2)]) (lenOf pd_12 rfl) rfl (by show 2 * 0 + _ ≤ _; exact Nat.le_of_eq rfl) (hb hby d8_8) (fun _ _ => ⟨rfl, e6, (by decide : 1 + 0 ≤ _), (by decide : 2 + 0 ≤ _)⟩)
  dsimp only [Pt.U, Pt.locs, Pt.cells, Pt.slots] at X14 l14 y14 z14 st14 hQ14
  subst l14 y14 z14
  obtain ⟨rfl, N14q, K14, Y14_0, Y14_1, Y14_2⟩ := hQ14
  have N14 := Fr.app N6 N14q
  replace X14 := X14.more (cells' := 1) (slots' := 2) (by decide) (by decide)
  have K15 : Keep h0 T14.heap [] := K3.trans K14 (allS (Or.inr sz_b2) all0)
  have O16 : Old Z n0 T14.heap := O4.keep K14 (allS g_b2 all0)
  obtain ⟨fs, hr, hrun, hended, hW, hsame⟩ := X14.leave (v := some (.ref b2)) (fun h => by rw [Bd.returns] at h; cases h)
  refine ⟨_, _, pre0 _ ?_, hrun, hended, _, _, rfl, ?_, ⟨_, rfl⟩, hW, hsame.mono (by decide) (by decide)⟩
  · show Steps p.tables e below (s₁.setTop (mkF m 0 #[.val (.ref a1)] [])) _
    refine st2 _ ?_
    show Steps p.tables e below (T2.setTop (mkF m 3 #[.val (.ref a1)] [(.ref b2)])) _
    refine XS.dup X2.here hx rfl (hb hby d8_3) rfl rfl ?_
    show Steps p.tables e below (T2.setTop (mkF m 4 #[.val (.ref a1)] [(.ref b2), (.ref b2)])) _
    refine st6 _ ?_
    show Steps p.tables e below (T6.setTop (mkF m 7 #[.val (.ref a1)] [(.ref w5), (.ref b2), (.ref b2)])) _
    refine XS.aloadN X6.here hx rfl (hb hby d8_7) rfl rfl ?_
    show Steps p.tables e below (T6.setTop (mkF m 8 #[.val (.ref a1)] [(.ref a1), (.ref w5), (.ref b2), (.ref b2)])) _
    refine st14.trans ?_
    show Steps p.tables e below (T14.setTop (mkF m 11 #[.val (.ref a1)] [(.ref b2)])) _
    exact own_retR X14 hx Bd.returns rfl rfl (hb hby d8_11) hr
  · show Q8n4 Z a1 w5 v9 v10 v11 v12 h0 n0 _ T14.heap _
    exact ⟨b2, rfl, N14, K15, sz_b2, Y14_0, Y14_1, Y14_2⟩
theorem pd_7 : parseMethodDescriptor "(ICCCC)Ljava/lang/String;" = some ⟨[.int, .char, .char, .char, .char], some (.object "java/lang/String")⟩ := by decide +kernel
theorem pd_11 : parseMethodDescriptor "(Ljava/lang/String;)Lcom/example/wattle/wattle/Figure;" = some ⟨[(.object "java/lang/String")], some (.object "com/example/wattle/wattle/Figure")⟩ := by decide +kernel
theorem pd_2 : parseMethodDescriptor "()Ljava/lang/String;" = some ⟨[], some (.object "java/lang/String")⟩ := by decide +kernel
theorem own_in_wordsLen : ∀ d ∈ StrChars.Road.wordsLen, d ∈ tables_1 := by decide +kernel
theorem pd_1 : parseMethodDescriptor "()I" = some ⟨[], some .int⟩ := by decide +kernel
theorem own_in_wordsChN : ∀ d ∈ StrChars.Road.wordsChN, d ∈ tables_1 := by decide +kernel
theorem pd_6 : parseMethodDescriptor "(I)C" = some ⟨[.int], some .char⟩ := by decide +kernel
theorem pd_10 : parseMethodDescriptor "(Ljava/lang/Object;)Z" = some ⟨[(.object "java/lang/Object")], some .boolean⟩ := by decide +kernel
def own_Met (l : Launch) (Z : State) (ws : List Jvm.Cond) (as : Array Value) (h0 : Heap) (n0 : Nat) : Prop := MetFree l x (head1 (Jvm.Cond.code x code maxLocals ret :: ws) room_1) (fun a U => a = as ∧ Z.Warmed39 U.vm ∧ U.heap = h0) (fun _ _ _ _ _ => True) (fun _ U o U' => ∃ v L, o = .returned v ∧ (v = some (.int (1 : Int32)) ∧ Fr n0 L) ∧ FrameEnd U o U' L room_1.cells room_1.slots)
theorem ef_0 (m : MethodId) (x0 : Int32) (x1 : Int32) (x2 : Int32) (x3 : Int32) (x4 : Int32) : entryFrame m #[(.int x0), (.int x1), (.int x2), (.int x3), (.int x4)] maxLocals = mkF m 0 #[.val (.int x0), .val (.int x1), .val (.int x2), .val (.int x3), .val (.int x4), .unset, .unset, .unset, .unset, .unset, .unset, .unset, .unset] [] := by first | (simp [entryFrame, mkF, argsToLocals, Value.category, maxLocals]; done) | rfl
set_option maxRecDepth 65536 in
set_option maxHeartbeats 40000000 in
theorem rm0n1 (l : Launch) (Z : State) (a0 : Array Value) (hw : ∀ d ∈ tables_1, d.before a0 Z = true) (ws : List Jvm.Cond) (p1 p2 p3 p4 p5 w6 : Int32) (w11 : Addr) (w24 : Value) (h0 : Heap) (n0 : Nat) (O0 : Old Z n0 h0) (hn7 : ((p1 &&& (3 : Int32)) + (1 : Int32)) = (1 : Int32)) (S_COMPACT_STRINGS : Sta Z Z.heap "java/lang/String" "COMPACT_STRINGS" "Z" (.int w6)) (h50_hzcs : ¬ (w6 = (0 : Int32))) (h50_hch72 : ∀ c ∈ ([((p2 &&& (255 : Int32)).toUInt32.toUInt16.toUInt32.toInt32).toUInt32.toUInt16.toUInt32.toInt32] : List Int32), ¬ c < 0 ∧ ¬ (255 : Int32) < c) (S_EMPTY : Sta Z Z.heap "java/util/Optional" "EMPTY" "Ljava/util/Optional;" (.ref w11)) (HE_w11 : Exa Z h0 w11 "java/util/Optional") (HF_w11_value : Fld Z h0 w11 "java/util/Optional" "value" "Ljava/lang/Object;" .null) (S_SIOOBE_FORMATTER : Sta Z Z.heap "jdk/internal/util/Preconditions" "SIOOBE_FORMATTER" "Ljava/util/function/BiFunction;" w24) (hrfm : w24.isRef = true) (hc89 : ((p2 &&& (255 : Int32)).toUInt32.toUInt16.toUInt32.toInt32).toUInt32.toUInt16.toUInt32.toInt32 = ((p2 &&& (255 : Int32)).toUInt32.toUInt16.toUInt32.toInt32)) :
    own_Met l Z ws #[(.int p1), (.int p2), (.int p3), (.int p4), (.int p5)] h0 n0 := by
  refine MetFree.of_bodySF (plainFor_of_name pnc_com_example_wattle_wattle_FigureUnreadablePinLaw) hisR ?_
  intro p e s m args below meth c s₁ Bd hml0 hP hK
  obtain ⟨rfl, hZ, hh⟩ := hP
  have hx := Bd.exec
  have hby := Bd.bytes
  have hml : c.maxLocals = 13 := hml0
  have hown : s.vm.findClass "com/example/wattle/wattle/FigureUnreadablePinLaw" = some m.cls := findClass_of_methodNamed Bd.named
  have hnm := (name_of_methodNamed Bd.named Bd.method).1
  have X0 : Stand p l e room_1 s m #[(.int p1), (.int p2), (.int p3), (.int p4), (.int p5)] below meth c s₁ [] 0 0 := Stand.of_body Bd
  have e0 : s₁.heap = h0 := by rw [← hh, Bd.state]; rfl
  have N0 := Fr.nil n0
  have Z0 : n0 ≤ h0.size := O0.1 ▸ O0.2.1
  have pre0 : ∀ t, Steps p.tables e below (s₁.setTop (mkF m 0 #[.val (.int p1), .val (.int p2), .val (.int p3), .val (.int p4), .val (.int p5), .unset, .unset, .unset, .unset, .unset, .unset, .unset, .unset] [])) t → Steps p.tables e below (s₁.setTop (entryFrame m #[(.int p1), (.int p2), (.int p3), (.int p4), (.int p5)] maxLocals)) t := fun t k => castTop (ef_0 m p1 p2 p3 p4 p5) k
  obtain ⟨vr7, _, ⟨T7, L7, k7, n7⟩, -, X7, ⟨Lc7, hQ7, l7, y7, z7⟩, st7⟩ := Jvm.LawKit.callS X0 hx (y := (⟨"com/example/wattle/wattle/FigureUnreadablePinLaw", "text", "(ICCCC)Ljava/lang/String;"⟩ : MethodName)) hown (mvT hZ (hw _ (List.mem_of_getElem? (i := 0) rfl))) (mvT hZ (hw _ (List.mem_of_getElem? (i := 1) rfl))) (mvT hZ (hw _ (List.mem_of_getElem? (i := 2) rfl))) (mvT hZ (hw _ (List.mem_of_getElem? (i := 3) rfl))) (by decide) (backOf (W := 0) (rm1n1 l Z a0 hw [] (((p2 &&& (255 : Int32)).toUInt32.toUInt16.toUInt32.toInt32)) (((p3 &&& (255 : Int32)).toUInt32.toUInt16.toUInt32.toInt32)) (((p4 &&& (255 : Int32)).toUInt32.toUInt16.toUInt32.toInt32)) (((p5 &&& (255 : Int32)).toUInt32.toUInt16.toUInt32.toInt32)) w6 h0 n0 O0 S_COMPACT_STRINGS h50_hzcs h50_hch72) hZ (hw _ (List.mem_of_getElem? (i := 3) rfl)) (hw _ (List.mem_of_getElem? (i := 2) rfl)) (by decide) (by decide)) (g := (mkF m 50 #[.val (.int p1), .val (.int p2), .val (.int p3), .val (.int p4), .val (.int p5), .val (.int (1 : Int32)), .val (.int ((p2 &&& (255 : Int32)).toUInt32.toUInt16.toUInt32.toInt32)), .val (.int ((p3 &&& (255 : Int32)).toUInt32.toUInt16.toUInt32.toInt32)), .val (.int ((p4 &&& (255 : Int32)).toUInt32.toUInt16.toUInt32.toInt32)), .val (.int ((p5 &&& (255 : Int32)).toUInt32.toUInt16.toUInt32.toInt32)), .unset, .unset, .unset] [(.int ((p5 &&& (255 : Int32)).toUInt32.toUInt16.toUInt32.toInt32)), (.int ((p4 &&& (255 : Int32)).toUInt32.toUInt16.toUInt32.toInt32)), (.int ((p3 &&& (255 : Int32)).toUInt32.toUInt16.toUInt32.toInt32)), (.int ((p2 &&& (255 : Int32)).toUInt32.toUInt16.toUInt32.toInt32)), (.int (1 : Int32))])) rfl (by rw [hml]; rfl) (argsL := [(.int (1 : Int32)), (.int ((p2 &&& (255 : Int32)).toUInt32.toUInt16.toUInt32.toInt32)), (.int ((p3 &&& (255 : Int32)).toUInt32.toUInt16.toUInt32.toInt32)), (.int ((p4 &&& (255 : Int32)).toUInt32.toUInt16.toUInt32.toInt32)), (.int ((p5 &&& (255 : Int32)).toUInt32.toUInt16.toUInt32.toInt32))]) (rest := []) (lenOf pd_7 rfl) rfl (by show 2 * 0 + _ ≤ _; exact Nat.le_of_eq rfl) (hb hby at_50) (fun _ _ => ⟨rfl, e0, (by decide : 0 + 6 ≤ _), (by decide : 0 + 15 ≤ _)⟩)
  dsimp only [Pt.U, Pt.locs, Pt.cells, Pt.slots] at X7 l7 y7 z7 st7 hQ7
  subst l7 y7 z7
  obtain ⟨b8, rfl, N7q, K7, Y7_z0, Y7_0, Y7_1⟩ := hQ7
  have N7 := Fr.app N0 N7q
  replace X7 := X7.more (cells' := 6) (slots' := 15) (by decide) (by decide)
  have g_b8 : n0 ≤ b8 := Nat.le_trans (Nat.le_trans Z0 (Keep.refl h0 []).1) Y7_z0
  have sz_b8 : h0.size ≤ b8 := Nat.le_trans (Keep.refl h0 []).1 Y7_z0
  have K9 : Keep h0 T7.heap [] := (Keep.refl h0 []).trans K7 all0
  have O10 : Old Z n0 T7.heap := O0.keep K7 all0
  have f12 := (HE_w11.keep K7)
  have f13 := (HF_w11_value.keep K7 nin0)
  obtain ⟨vr14, _, ⟨T14, L14, k14, n14⟩, -, X14, ⟨Lc14, hQ14, l14, y14, z14⟩, st14⟩ := Jvm.LawKit.callS X7 hx (y := (⟨"com/example/wattle/wattle/Figure", "unreadable", "(Ljava/lang/String;)Lcom/example/wattle/wattle/Figure;"⟩ : MethodName)) hown (mvT hZ (hw _ (List.mem_of_getElem? (i := 34) rfl))) (mvT hZ (hw _ (List.mem_of_getElem? (i := 35) rfl))) (mvT hZ (hw _ (List.mem_of_getElem? (i := 36) rfl))) (mvT hZ (hw _ (List.mem_of_getElem? (i := 37) rfl))) (by decide) (backOf (W := 0) (rm8n1 l Z a0 hw [] b8 w11 (((p2 &&& (255 : Int32)).toUInt32.toUInt16.toUInt32.toInt32).toUInt32.toUInt16.toUInt32.toInt32) T7.heap n0 O10 S_EMPTY f12 f13 (own_Str.top Y7_1)) hZ (hw _ (List.mem_of_getElem? (i := 37) rfl)) (hw _ (List.mem_of_getElem? (i := 36) rfl)) (by decide) (by decide)) (g := (mkF m 57 #[.val (.int p1), .val (.int p2), .val (.int p3), .val (.int p4), .val (.int p5), .val (.int (1 : Int32)), .val (.int ((p2 &&& (255 : Int32)).toUInt32.toUInt16.toUInt32.toInt32)), .val (.int ((p3 &&& (255 : Int32)).toUInt32.toUInt16.toUInt32.toInt32)), .val (.int ((p4 &&& (255 : Int32)).toUInt32.toUInt16.toUInt32.toInt32)), .val (.int ((p5 &&& (255 : Int32)).toUInt32.toUInt16.toUInt32.toInt32)), .val (.ref b8), .unset, .unset] [(.ref b8)])) rfl (by rw [hml]; rfl) (argsL := [(.ref b8)]) (rest := []) (lenOf pd_11 rfl) rfl (by show 2 * 0 + _ ≤ _; exact Nat.le_of_eq rfl) (hb hby at_57) (fun _ _ => ⟨rfl, rfl, (by decide : 6 + 1 ≤ _), (by decide : 15 + 2 ≤ _)⟩)
  dsimp only [Pt.U, Pt.locs, Pt.cells, Pt.slots] at X14 l14 y14 z14 st14 hQ14
  subst l14 y14 z14
  obtain ⟨b15, rfl, N14q, K14, Y14_z0, Y14_0, Y14_1, Y14_2⟩ := hQ14
  have N14 := Fr.app N7 N14q
  replace X14 := X14.more (cells' := 7) (slots' := 17) (by decide) (by decide)
  have g_b15 : n0 ≤ b15 := Nat.le_trans (Nat.le_trans Z0 K9.1) Y14_z0
  have sz_b15 : h0.size ≤ b15 := Nat.le_trans K9.1 Y14_z0
  have K16 : Keep h0 T14.heap [] := K9.trans K14 all0
  have O17 : Old Z n0 T14.heap := O10.keep K14 all0
  obtain ⟨cq18, kq18, q18a, q18b, q18c⟩ := isOf hZ rfl Y14_0
  obtain ⟨vr18, _, ⟨T18, L18, k18, n18⟩, -, X18, ⟨Lc18, hQ18, l18, y18, z18⟩, st18⟩ := X14.virtualBack hx (y := (⟨"com/example/wattle/wattle/Figure", "shown", "()Ljava/lang/String;"⟩ : MethodName)) (z := (⟨"com/example/wattle/wattle/Figure", "shown", "()Ljava/lang/String;"⟩ : MethodName)) hown (mvT hZ (hw _ (List.mem_of_getElem? (i := 70) rfl))) (mvT hZ (hw _ (List.mem_of_getElem? (i := 71) rfl))) (notFace_of_selects (args := #[]) (mvT hZ (hw _ (List.mem_of_getElem? (i := 73) rfl)))) (mvT hZ (hw _ (List.mem_of_getElem? (i := 73) rfl))) (mvT hZ (hw _ (List.mem_of_getElem? (i := 72) rfl))) (by decide) (backOf (W := 0) (rm14 l Z a0 hw [] b15 b8 T14.heap n0 O17 Y14_1) hZ (hw _ (List.mem_of_getElem? (i := 74) rfl)) (hw _ (List.mem_of_getElem? (i := 36) rfl)) (by decide) (by decide)) q18a q18c (g := (mkF m 64 #[.val (.int p1), .val (.int p2), .val (.int p3), .val (.int p4), .val (.int p5), .val (.int (1 : Int32)), .val (.int ((p2 &&& (255 : Int32)).toUInt32.toUInt16.toUInt32.toInt32)), .val (.int ((p3 &&& (255 : Int32)).toUInt32.toUInt16.toUInt32.toInt32)), .val (.int ((p4 &&& (255 : Int32)).toUInt32.toUInt16.toUInt32.toInt32)), .val (.int ((p5 &&& (255 : Int32)).toUInt32.toUInt16.toUInt32.toInt32)), .val (.ref b8), .val (.ref b15), .unset] [(.ref b15)])) rfl (by rw [hml]; rfl) (Steps.refl _) (argsL := []) (rest := []) (lenOf pd_2 rfl) rfl (by show 2 * 0 + _ ≤ _; exact Nat.le_of_eq rfl) (hb hby at_64) (fun _ _ => ⟨rfl, rfl, (by decide : 7 + 0 ≤ _), (by decide : 17 + 0 ≤ _)⟩)
  dsimp only [Pt.U, Pt.locs, Pt.cells, Pt.slots] at X18 l18 y18 z18 st18 hQ18
  subst l18 y18 z18
  obtain ⟨rfl, N18q, e18⟩ := hQ18
  have N18 := Fr.app N14 N18q
  replace X18 := X18.more (cells' := 7) (slots' := 17) (by decide) (by decide)
  have f19 := (own_Str.keep Y7_1 K14 all0)
  obtain ⟨⟨tx20, tl20, tp20⟩, ty20, tk20, tt20, tE20, tV20, tC20, tA20⟩ := id f19
  have f22 := ((own_Str.exa Y7_1).keep K14)
  obtain ⟨cq21, kq21, q21a, q21b, q21c⟩ := isOf hZ e18 f22
  obtain ⟨vr21, _, ⟨T21, L21, k21, n21⟩, -, X21, ⟨Lc21, hQ21, l21, y21, z21⟩, st21⟩ := X18.virtualBack hx (y := (⟨"java/lang/String", "length", "()I"⟩ : MethodName)) (z := (⟨"java/lang/String", "length", "()I"⟩ : MethodName)) hown (mvT hZ (hw _ (List.mem_of_getElem? (i := 75) rfl))) (mvT hZ (hw _ (List.mem_of_getElem? (i := 76) rfl))) (notFace_of_selects (args := #[]) (mvT hZ (hw _ (List.mem_of_getElem? (i := 78) rfl)))) (mvT hZ (hw _ (List.mem_of_getElem? (i := 78) rfl))) (mvT hZ (hw _ (List.mem_of_getElem? (i := 77) rfl))) (by decide) (StrChars.Road.lenW (W := 0) hZ (fun d hd => hw d (own_in_wordsLen d hd)) (kI := 4) (hw _ (List.mem_of_getElem? (i := 6) rfl)) tE20 tV20 tC20 tA20 (StrChars.Road.codOf (cs := [((p2 &&& (255 : Int32)).toUInt32.toUInt16.toUInt32.toInt32).toUInt32.toUInt16.toUInt32.toInt32]) (n := ([((p2 &&& (255 : Int32)).toUInt32.toUInt16.toUInt32.toInt32).toUInt32.toUInt16.toUInt32.toInt32] : List Int32).length) rfl (fun c hc => (tp20 c hc).2)) (own_up tp20) (S_COMPACT_STRINGS.ext O17.2) h50_hzcs tl20 (by decide) (by decide)) q21a q21c (g := (mkF m 71 #[.val (.int p1), .val (.int p2), .val (.int p3), .val (.int p4), .val (.int p5), .val (.int (1 : Int32)), .val (.int ((p2 &&& (255 : Int32)).toUInt32.toUInt16.toUInt32.toInt32)), .val (.int ((p3 &&& (255 : Int32)).toUInt32.toUInt16.toUInt32.toInt32)), .val (.int ((p4 &&& (255 : Int32)).toUInt32.toUInt16.toUInt32.toInt32)), .val (.int ((p5 &&& (255 : Int32)).toUInt32.toUInt16.toUInt32.toInt32)), .val (.ref b8), .val (.ref b15), .val (.ref b8)] [(.ref b8)])) rfl (by rw [hml]; rfl) (Steps.refl _) (argsL := []) (rest := []) (lenOf pd_1 rfl) rfl (by show 2 * 0 + _ ≤ _; exact Nat.le_of_eq rfl) (hb hby at_71) (fun _ _ => ⟨rfl, e18, (by decide : 7 + 0 ≤ _), (by decide : 17 + 0 ≤ _)⟩)
  dsimp only [Pt.U, Pt.locs, Pt.cells, Pt.slots] at X21 l21 y21 z21 st21 hQ21
  subst l21 y21 z21
  obtain ⟨rfl, rfl, e21⟩ := hQ21
  have N21 := Fr.app N18 (Fr.nil n0)
  replace X21 := X21.more (cells' := 7) (slots' := 17) (by decide) (by decide)
  obtain ⟨⟨tx23, tl23, tp23⟩, ty23, tk23, tt23, tE23, tV23, tC23, tA23⟩ := id f19
  obtain ⟨cq25, kq25, q25a, q25b, q25c⟩ := isOf hZ e21 f22
  obtain ⟨vr25, _, ⟨T25, L25, k25, n25⟩, -, X25, ⟨Lc25, hQ25, l25, y25, z25⟩, st25⟩ := X21.virtualBack hx (y := (⟨"java/lang/String", "charAt", "(I)C"⟩ : MethodName)) (z := (⟨"java/lang/String", "charAt", "(I)C"⟩ : MethodName)) hown (mvT hZ (hw _ (List.mem_of_getElem? (i := 85) rfl))) (mvT hZ (hw _ (List.mem_of_getElem? (i := 86) rfl))) (notFace_of_selects (args := #[]) (mvT hZ (hw _ (List.mem_of_getElem? (i := 88) rfl)))) (mvT hZ (hw _ (List.mem_of_getElem? (i := 88) rfl))) (mvT hZ (hw _ (List.mem_of_getElem? (i := 87) rfl))) (by decide) (StrChars.Road.chN (W := 0) hZ (fun d hd => hw d (own_in_wordsChN d hd)) (kI := 4) (hw _ (List.mem_of_getElem? (i := 6) rfl)) tE23 tV23 tC23 tA23 (StrChars.Road.codOf (cs := [((p2 &&& (255 : Int32)).toUInt32.toUInt16.toUInt32.toInt32).toUInt32.toUInt16.toUInt32.toInt32]) (n := ([((p2 &&& (255 : Int32)).toUInt32.toUInt16.toUInt32.toInt32).toUInt32.toUInt16.toUInt32.toInt32] : List Int32).length) rfl (fun c hc => (tp23 c hc).2)) (own_up tp23) (S_COMPACT_STRINGS.ext O17.2) h50_hzcs (S_SIOOBE_FORMATTER.ext O17.2) hrfm tl23 (i := 0) (Nat.le_of_ble_eq_true rfl) (j := (0 : Int32)) rfl (by decide) (by decide)) q25a q25c (g := (mkF m 84 #[.val (.int p1), .val (.int p2), .val (.int p3), .val (.int p4), .val (.int p5), .val (.int (1 : Int32)), .val (.int ((p2 &&& (255 : Int32)).toUInt32.toUInt16.toUInt32.toInt32)), .val (.int ((p3 &&& (255 : Int32)).toUInt32.toUInt16.toUInt32.toInt32)), .val (.int ((p4 &&& (255 : Int32)).toUInt32.toUInt16.toUInt32.toInt32)), .val (.int ((p5 &&& (255 : Int32)).toUInt32.toUInt16.toUInt32.toInt32)), .val (.ref b8), .val (.ref b15), .val (.ref b8)] [(.int (0 : Int32)), (.ref b8)])) rfl (by rw [hml]; rfl) (Steps.refl _) (argsL := [(.int (0 : Int32))]) (rest := []) (lenOf pd_6 rfl) rfl (by show 2 * 0 + _ ≤ _; exact Nat.le_of_eq rfl) (hb hby at_84) (fun _ _ => ⟨rfl, e21, (by decide : 7 + 0 ≤ _), (by decide : 17 + 0 ≤ _)⟩)
  dsimp only [Pt.U, Pt.locs, Pt.cells, Pt.slots] at X25 l25 y25 z25 st25 hQ25
  subst l25 y25 z25
  obtain ⟨rfl, rfl, e25⟩ := hQ25
  have N25 := Fr.app N21 (Fr.nil n0)
  replace X25 := X25.more (cells' := 7) (slots' := 17) (by decide) (by decide)
  obtain ⟨cq26, kq26, q26a, q26b, q26c⟩ := isOf hZ e25 f22
  obtain ⟨vr26, _, ⟨T26, L26, k26, n26⟩, -, X26, ⟨Lc26, hQ26, l26, y26, z26⟩, st26⟩ := X25.virtualBack hx (y := (⟨"java/lang/String", "equals", "(Ljava/lang/Object;)Z"⟩ : MethodName)) (z := (⟨"java/lang/String", "equals", "(Ljava/lang/Object;)Z"⟩ : MethodName)) hown (mvT hZ (hw _ (List.mem_of_getElem? (i := 107) rfl))) (mvT hZ (hw _ (List.mem_of_getElem? (i := 108) rfl))) (notFace_of_selects (args := #[]) (mvT hZ (hw _ (List.mem_of_getElem? (i := 110) rfl)))) (mvT hZ (hw _ (List.mem_of_getElem? (i := 110) rfl))) (mvT hZ (hw _ (List.mem_of_getElem? (i := 109) rfl))) (by decide) (backOf (W := 0) (rm22 l Z a0 hw [] b8 b8 T14.heap n0 O17 (rfl : b8 = b8)) hZ (hw _ (List.mem_of_getElem? (i := 111) rfl)) (hw _ (List.mem_of_getElem? (i := 7) rfl)) (by decide) (by decide)) q26a q26c (g := (mkF m 98 #[.val (.int p1), .val (.int p2), .val (.int p3), .val (.int p4), .val (.int p5), .val (.int (1 : Int32)), .val (.int ((p2 &&& (255 : Int32)).toUInt32.toUInt16.toUInt32.toInt32)), .val (.int ((p3 &&& (255 : Int32)).toUInt32.toUInt16.toUInt32.toInt32)), .val (.int ((p4 &&& (255 : Int32)).toUInt32.toUInt16.toUInt32.toInt32)), .val (.int ((p5 &&& (255 : Int32)).toUInt32.toUInt16.toUInt32.toInt32)), .val (.ref b8), .val (.ref b15), .val (.ref b8)] [(.ref b8), (.ref b8)])) rfl (by rw [hml]; rfl) (Steps.refl _) (argsL := [(.ref b8)]) (rest := []) (lenOf pd_10 rfl) rfl (by show 2 * 0 + _ ≤ _; exact Nat.le_of_eq rfl) (hb hby at_98) (fun _ _ => ⟨rfl, e25, (by decide : 7 + 0 ≤ _), (by decide : 17 + 0 ≤ _)⟩)
  dsimp only [Pt.U, Pt.locs, Pt.cells, Pt.slots] at X26 l26 y26 z26 st26 hQ26
  subst l26 y26 z26
  obtain ⟨rfl, N26q, e26⟩ := hQ26
  have N26 := Fr.app N25 N26q
  replace X26 := X26.more (cells' := 7) (slots' := 17) (by decide) (by decide)
  obtain ⟨fs, hr, hrun, hended, hW, hsame⟩ := X26.leave (v := some (.int (1 : Int32))) (fun h => by rw [Bd.returns] at h; cases h)
  refine ⟨_, _, pre0 _ ?_, hrun, hended, _, _, rfl, ?_, ⟨_, rfl⟩, hW, hsame.mono (by decide) (by decide)⟩
  · show Steps p.tables e below (s₁.setTop (mkF m 0 #[.val (.int p1), .val (.int p2), .val (.int p3), .val (.int p4), .val (.int p5), .unset, .unset, .unset, .unset, .unset, .unset, .unset, .unset] [])) _
    refine XS.iloadN X0.here hx rfl (hb hby at_0) rfl ?_
    show Steps p.tables e below (s₁.setTop (mkF m 1 #[.val (.int p1), .val (.int p2), .val (.int p3), .val (.int p4), .val (.int p5), .unset, .unset, .unset, .unset, .unset, .unset, .unset, .unset] [(.int p1)])) _
    refine XS.iconst X0.here hx rfl (hb hby at_1) ?_
    show Steps p.tables e below (s₁.setTop (mkF m 2 #[.val (.int p1), .val (.int p2), .val (.int p3), .val (.int p4), .val (.int p5), .unset, .unset, .unset, .unset, .unset, .unset, .unset, .unset] [(.int (3 : Int32)), (.int p1)])) _
    refine XS.iand X0.here hx rfl (hb hby at_2) rfl ?_
    show Steps p.tables e below (s₁.setTop (mkF m 3 #[.val (.int p1), .val (.int p2), .val (.int p3), .val (.int p4), .val (.int p5), .unset, .unset, .unset, .unset, .unset, .unset, .unset, .unset] [(.int (p1 &&& (3 : Int32)))])) _
    refine XS.iconst X0.here hx rfl (hb hby at_3) ?_
    show Steps p.tables e below (s₁.setTop (mkF m 4 #[.val (.int p1), .val (.int p2), .val (.int p3), .val (.int p4), .val (.int p5), .unset, .unset, .unset, .unset, .unset, .unset, .unset, .unset] [(.int (1 : Int32)), (.int (p1 &&& (3 : Int32)))])) _
    refine XS.iadd X0.here hx rfl (hb hby at_4) rfl ?_
    show Steps p.tables e below (s₁.setTop (mkF m 5 #[.val (.int p1), .val (.int p2), .val (.int p3), .val (.int p4), .val (.int p5), .unset, .unset, .unset, .unset, .unset, .unset, .unset, .unset] [(.int ((p1 &&& (3 : Int32)) + (1 : Int32)))])) _
    refine XS.istore X0.here hx rfl (hb hby at_5) rfl (l' := #[.val (.int p1), .val (.int p2), .val (.int p3), .val (.int p4), .val (.int p5), .val (.int ((p1 &&& (3 : Int32)) + (1 : Int32))), .unset, .unset, .unset, .unset, .unset, .unset, .unset]) rfl ?_
    show Steps p.tables e below (s₁.setTop (mkF m 7 #[.val (.int p1), .val (.int p2), .val (.int p3), .val (.int p4), .val (.int p5), .val (.int ((p1 &&& (3 : Int32)) + (1 : Int32))), .unset, .unset, .unset, .unset, .unset, .unset, .unset] [])) _
    rw [hn7]
    show Steps p.tables e below (s₁.setTop (mkF m 7 #[.val (.int p1), .val (.int p2), .val (.int p3), .val (.int p4), .val (.int p5), .val (.int (1 : Int32)), .unset, .unset, .unset, .unset, .unset, .unset, .unset] [])) _
    refine XS.iloadN X0.here hx rfl (hb hby at_7) rfl ?_
    show Steps p.tables e below (s₁.setTop (mkF m 8 #[.val (.int p1), .val (.int p2), .val (.int p3), .val (.int p4), .val (.int p5), .val (.int (1 : Int32)), .unset, .unset, .unset, .unset, .unset, .unset, .unset] [(.int p2)])) _
    refine XS.sipush X0.here hx rfl (hb hby at_8) ?_
    show Steps p.tables e below (s₁.setTop (mkF m 11 #[.val (.int p1), .val (.int p2), .val (.int p3), .val (.int p4), .val (.int p5), .val (.int (1 : Int32)), .unset, .unset, .unset, .unset, .unset, .unset, .unset] [(.int (255 : Int32)), (.int p2)])) _
    refine XS.iand X0.here hx rfl (hb hby at_11) rfl ?_
    show Steps p.tables e below (s₁.setTop (mkF m 12 #[.val (.int p1), .val (.int p2), .val (.int p3), .val (.int p4), .val (.int p5), .val (.int (1 : Int32)), .unset, .unset, .unset, .unset, .unset, .unset, .unset] [(.int (p2 &&& (255 : Int32)))])) _
    refine XS.i2c X0.here hx rfl (hb hby at_12) rfl ?_
    show Steps p.tables e below (s₁.setTop (mkF m 13 #[.val (.int p1), .val (.int p2), .val (.int p3), .val (.int p4), .val (.int p5), .val (.int (1 : Int32)), .unset, .unset, .unset, .unset, .unset, .unset, .unset] [(.int ((p2 &&& (255 : Int32)).toUInt32.toUInt16.toUInt32.toInt32))])) _
    refine XS.istore X0.here hx rfl (hb hby at_13) rfl (l' := #[.val (.int p1), .val (.int p2), .val (.int p3), .val (.int p4), .val (.int p5), .val (.int (1 : Int32)), .val (.int ((p2 &&& (255 : Int32)).toUInt32.toUInt16.toUInt32.toInt32)), .unset, .unset, .unset, .unset, .unset, .unset]) rfl ?_
    show Steps p.tables e below (s₁.setTop (mkF m 15 #[.val (.int p1), .val (.int p2), .val (.int p3), .val (.int p4), .val (.int p5), .val (.int (1 : Int32)), .val (.int ((p2 &&& (255 : Int32)).toUInt32.toUInt16.toUInt32.toInt32)), .unset, .unset, .unset, .unset, .unset, .unset] [])) _
    refine XS.iloadN X0.here hx rfl (hb hby at_15) rfl ?_
    show Steps p.tables e below (s₁.setTop (mkF m 16 #[.val (.int p1), .val (.int p2), .val (.int p3), .val (.int p4), .val (.int p5), .val (.int (1 : Int32)), .val (.int ((p2 &&& (255 : Int32)).toUInt32.toUInt16.toUInt32.toInt32)), .unset, .unset, .unset, .unset, .unset, .unset] [(.int p3)])) _
    refine XS.sipush X0.here hx rfl (hb hby at_16) ?_
    show Steps p.tables e below (s₁.setTop (mkF m 19 #[.val (.int p1), .val (.int p2), .val (.int p3), .val (.int p4), .val (.int p5), .val (.int (1 : Int32)), .val (.int ((p2 &&& (255 : Int32)).toUInt32.toUInt16.toUInt32.toInt32)), .unset, .unset, .unset, .unset, .unset, .unset] [(.int (255 : Int32)), (.int p3)])) _
    refine XS.iand X0.here hx rfl (hb hby at_19) rfl ?_
    show Steps p.tables e below (s₁.setTop (mkF m 20 #[.val (.int p1), .val (.int p2), .val (.int p3), .val (.int p4), .val (.int p5), .val (.int (1 : Int32)), .val (.int ((p2 &&& (255 : Int32)).toUInt32.toUInt16.toUInt32.toInt32)), .unset, .unset, .unset, .unset, .unset, .unset] [(.int (p3 &&& (255 : Int32)))])) _
    refine XS.i2c X0.here hx rfl (hb hby at_20) rfl ?_
    show Steps p.tables e below (s₁.setTop (mkF m 21 #[.val (.int p1), .val (.int p2), .val (.int p3), .val (.int p4), .val (.int p5), .val (.int (1 : Int32)), .val (.int ((p2 &&& (255 : Int32)).toUInt32.toUInt16.toUInt32.toInt32)), .unset, .unset, .unset, .unset, .unset, .unset] [(.int ((p3 &&& (255 : Int32)).toUInt32.toUInt16.toUInt32.toInt32))])) _
    refine XS.istore X0.here hx rfl (hb hby at_21) rfl (l' := #[.val (.int p1), .val (.int p2), .val (.int p3), .val (.int p4), .val (.int p5), .val (.int (1 : Int32)), .val (.int ((p2 &&& (255 : Int32)).toUInt32.toUInt16.toUInt32.toInt32)), .val (.int ((p3 &&& (255 : Int32)).toUInt32.toUInt16.toUInt32.toInt32)), .unset, .unset, .unset, .unset, .unset]) rfl ?_
    show Steps p.tables e below (s₁.setTop (mkF m 23 #[.val (.int p1), .val (.int p2), .val (.int p3), .val (.int p4), .val (.int p5), .val (.int (1 : Int32)), .val (.int ((p2 &&& (255 : Int32)).toUInt32.toUInt16.toUInt32.toInt32)), .val (.int ((p3 &&& (255 : Int32)).toUInt32.toUInt16.toUInt32.toInt32)), .unset, .unset, .unset, .unset, .unset] [])) _
    refine XS.iloadN X0.here hx rfl (hb hby at_23) rfl ?_
    show Steps p.tables e below (s₁.setTop (mkF m 24 #[.val (.int p1), .val (.int p2), .val (.int p3), .val (.int p4), .val (.int p5), .val (.int (1 : Int32)), .val (.int ((p2 &&& (255 : Int32)).toUInt32.toUInt16.toUInt32.toInt32)), .val (.int ((p3 &&& (255 : Int32)).toUInt32.toUInt16.toUInt32.toInt32)), .unset, .unset, .unset, .unset, .unset] [(.int p4)])) _
    refine XS.sipush X0.here hx rfl (hb hby at_24) ?_
    show Steps p.tables e below (s₁.setTop (mkF m 27 #[.val (.int p1), .val (.int p2), .val (.int p3), .val (.int p4), .val (.int p5), .val (.int (1 : Int32)), .val (.int ((p2 &&& (255 : Int32)).toUInt32.toUInt16.toUInt32.toInt32)), .val (.int ((p3 &&& (255 : Int32)).toUInt32.toUInt16.toUInt32.toInt32)), .unset, .unset, .unset, .unset, .unset] [(.int (255 : Int32)), (.int p4)])) _
    refine XS.iand X0.here hx rfl (hb hby at_27) rfl ?_
    show Steps p.tables e below (s₁.setTop (mkF m 28 #[.val (.int p1), .val (.int p2), .val (.int p3), .val (.int p4), .val (.int p5), .val (.int (1 : Int32)), .val (.int ((p2 &&& (255 : Int32)).toUInt32.toUInt16.toUInt32.toInt32)), .val (.int ((p3 &&& (255 : Int32)).toUInt32.toUInt16.toUInt32.toInt32)), .unset, .unset, .unset, .unset, .unset] [(.int (p4 &&& (255 : Int32)))])) _
    refine XS.i2c X0.here hx rfl (hb hby at_28) rfl ?_
    show Steps p.tables e below (s₁.setTop (mkF m 29 #[.val (.int p1), .val (.int p2), .val (.int p3), .val (.int p4), .val (.int p5), .val (.int (1 : Int32)), .val (.int ((p2 &&& (255 : Int32)).toUInt32.toUInt16.toUInt32.toInt32)), .val (.int ((p3 &&& (255 : Int32)).toUInt32.toUInt16.toUInt32.toInt32)), .unset, .unset, .unset, .unset, .unset] [(.int ((p4 &&& (255 : Int32)).toUInt32.toUInt16.toUInt32.toInt32))])) _
    refine XS.istore X0.here hx rfl (hb hby at_29) rfl (l' := #[.val (.int p1), .val (.int p2), .val (.int p3), .val (.int p4), .val (.int p5), .val (.int (1 : Int32)), .val (.int ((p2 &&& (255 : Int32)).toUInt32.toUInt16.toUInt32.toInt32)), .val (.int ((p3 &&& (255 : Int32)).toUInt32.toUInt16.toUInt32.toInt32)), .val (.int ((p4 &&& (255 : Int32)).toUInt32.toUInt16.toUInt32.toInt32)), .unset, .unset, .unset, .unset]) rfl ?_
    show Steps p.tables e below (s₁.setTop (mkF m 31 #[.val (.int p1), .val (.int p2), .val (.int p3), .val (.int p4), .val (.int p5), .val (.int (1 : Int32)), .val (.int ((p2 &&& (255 : Int32)).toUInt32.toUInt16.toUInt32.toInt32)), .val (.int ((p3 &&& (255 : Int32)).toUInt32.toUInt16.toUInt32.toInt32)), .val (.int ((p4 &&& (255 : Int32)).toUInt32.toUInt16.toUInt32.toInt32)), .unset, .unset, .unset, .unset] [])) _
    refine XS.iload X0.here hx rfl (hb hby at_31) rfl ?_
    show Steps p.tables e below (s₁.setTop (mkF m 33 #[.val (.int p1), .val (.int p2), .val (.int p3), .val (.int p4), .val (.int p5), .val (.int (1 : Int32)), .val (.int ((p2 &&& (255 : Int32)).toUInt32.toUInt16.toUInt32.toInt32)), .val (.int ((p3 &&& (255 : Int32)).toUInt32.toUInt16.toUInt32.toInt32)), .val (.int ((p4 &&& (255 : Int32)).toUInt32.toUInt16.toUInt32.toInt32)), .unset, .unset, .unset, .unset] [(.int p5)])) _
    refine XS.sipush X0.here hx rfl (hb hby at_33) ?_
    show Steps p.tables e below (s₁.setTop (mkF m 36 #[.val (.int p1), .val (.int p2), .val (.int p3), .val (.int p4), .val (.int p5), .val (.int (1 : Int32)), .val (.int ((p2 &&& (255 : Int32)).toUInt32.toUInt16.toUInt32.toInt32)), .val (.int ((p3 &&& (255 : Int32)).toUInt32.toUInt16.toUInt32.toInt32)), .val (.int ((p4 &&& (255 : Int32)).toUInt32.toUInt16.toUInt32.toInt32)), .unset, .unset, .unset, .unset] [(.int (255 : Int32)), (.int p5)])) _
    refine XS.iand X0.here hx rfl (hb hby at_36) rfl ?_
    show Steps p.tables e below (s₁.setTop (mkF m 37 #[.val (.int p1), .val (.int p2), .val (.int p3), .val (.int p4), .val (.int p5), .val (.int (1 : Int32)), .val (.int ((p2 &&& (255 : Int32)).toUInt32.toUInt16.toUInt32.toInt32)), .val (.int ((p3 &&& (255 : Int32)).toUInt32.toUInt16.toUInt32.toInt32)), .val (.int ((p4 &&& (255 : Int32)).toUInt32.toUInt16.toUInt32.toInt32)), .unset, .unset, .unset, .unset] [(.int (p5 &&& (255 : Int32)))])) _
    refine XS.i2c X0.here hx rfl (hb hby at_37) rfl ?_
    show Steps p.tables e below (s₁.setTop (mkF m 38 #[.val (.int p1), .val (.int p2), .val (.int p3), .val (.int p4), .val (.int p5), .val (.int (1 : Int32)), .val (.int ((p2 &&& (255 : Int32)).toUInt32.toUInt16.toUInt32.toInt32)), .val (.int ((p3 &&& (255 : Int32)).toUInt32.toUInt16.toUInt32.toInt32)), .val (.int ((p4 &&& (255 : Int32)).toUInt32.toUInt16.toUInt32.toInt32)), .unset, .unset, .unset, .unset] [(.int ((p5 &&& (255 : Int32)).toUInt32.toUInt16.toUInt32.toInt32))])) _
    refine XS.istore X0.here hx rfl (hb hby at_38) rfl (l' := #[.val (.int p1), .val (.int p2), .val (.int p3), .val (.int p4), .val (.int p5), .val (.int (1 : Int32)), .val (.int ((p2 &&& (255 : Int32)).toUInt32.toUInt16.toUInt32.toInt32)), .val (.int ((p3 &&& (255 : Int32)).toUInt32.toUInt16.toUInt32.toInt32)), .val (.int ((p4 &&& (255 : Int32)).toUInt32.toUInt16.toUInt32.toInt32)), .val (.int ((p5 &&& (255 : Int32)).toUInt32.toUInt16.toUInt32.toInt32)), .unset, .unset, .unset]) rfl ?_
    show Steps p.tables e below (s₁.setTop (mkF m 40 #[.val (.int p1), .val (.int p2), .val (.int p3), .val (.int p4), .val (.int p5), .val (.int (1 : Int32)), .val (.int ((p2 &&& (255 : Int32)).toUInt32.toUInt16.toUInt32.toInt32)), .val (.int ((p3 &&& (255 : Int32)).toUInt32.toUInt16.toUInt32.toInt32)), .val (.int ((p4 &&& (255 : Int32)).toUInt32.toUInt16.toUInt32.toInt32)), .val (.int ((p5 &&& (255 : Int32)).toUInt32.toUInt16.toUInt32.toInt32)), .unset, .unset, .unset] [])) _
    refine XS.iload X0.here hx rfl (hb hby at_40) rfl ?_
    show Steps p.tables e below (s₁.setTop (mkF m 42 #[.val (.int p1), .val (.int p2), .val (.int p3), .val (.int p4), .val (.int p5), .val (.int (1 : Int32)), .val (.int ((p2 &&& (255 : Int32)).toUInt32.toUInt16.toUInt32.toInt32)), .val (.int ((p3 &&& (255 : Int32)).toUInt32.toUInt16.toUInt32.toInt32)), .val (.int ((p4 &&& (255 : Int32)).toUInt32.toUInt16.toUInt32.toInt32)), .val (.int ((p5 &&& (255 : Int32)).toUInt32.toUInt16.toUInt32.toInt32)), .unset, .unset, .unset] [(.int (1 : Int32))])) _
    refine XS.iload X0.here hx rfl (hb hby at_42) rfl ?_
    show Steps p.tables e below (s₁.setTop (mkF m 44 #[.val (.int p1), .val (.int p2), .val (.int p3), .val (.int p4), .val (.int p5), .val (.int (1 : Int32)), .val (.int ((p2 &&& (255 : Int32)).toUInt32.toUInt16.toUInt32.toInt32)), .val (.int ((p3 &&& (255 : Int32)).toUInt32.toUInt16.toUInt32.toInt32)), .val (.int ((p4 &&& (255 : Int32)).toUInt32.toUInt16.toUInt32.toInt32)), .val (.int ((p5 &&& (255 : Int32)).toUInt32.toUInt16.toUInt32.toInt32)), .unset, .unset, .unset] [(.int ((p2 &&& (255 : Int32)).toUInt32.toUInt16.toUInt32.toInt32)), (.int (1 : Int32))])) _
    refine XS.iload X0.here hx rfl (hb hby at_44) rfl ?_
    show Steps p.tables e below (s₁.setTop (mkF m 46 #[.val (.int p1), .val (.int p2), .val (.int p3), .val (.int p4), .val (.int p5), .val (.int (1 : Int32)), .val (.int ((p2 &&& (255 : Int32)).toUInt32.toUInt16.toUInt32.toInt32)), .val (.int ((p3 &&& (255 : Int32)).toUInt32.toUInt16.toUInt32.toInt32)), .val (.int ((p4 &&& (255 : Int32)).toUInt32.toUInt16.toUInt32.toInt32)), .val (.int ((p5 &&& (255 : Int32)).toUInt32.toUInt16.toUInt32.toInt32)), .unset, .unset, .unset] [(.int ((p3 &&& (255 : Int32)).toUInt32.toUInt16.toUInt32.toInt32)), (.int ((p2 &&& (255 : Int32)).toUInt32.toUInt16.toUInt32.toInt32)), (.int (1 : Int32))])) _
    refine XS.iload X0.here hx rfl (hb hby at_46) rfl ?_
    show Steps p.tables e below (s₁.setTop (mkF m 48 #[.val (.int p1), .val (.int p2), .val (.int p3), .val (.int p4), .val (.int p5), .val (.int (1 : Int32)), .val (.int ((p2 &&& (255 : Int32)).toUInt32.toUInt16.toUInt32.toInt32)), .val (.int ((p3 &&& (255 : Int32)).toUInt32.toUInt16.toUInt32.toInt32)), .val (.int ((p4 &&& (255 : Int32)).toUInt32.toUInt16.toUInt32.toInt32)), .val (.int ((p5 &&& (255 : Int32)).toUInt32.toUInt16.toUInt32.toInt32)), .unset, .unset, .unset] [(.int ((p4 &&& (255 : Int32)).toUInt32.toUInt16.toUInt32.toInt32)), (.int ((p3 &&& (255 : Int32)).toUInt32.toUInt16.toUInt32.toInt32)), (.int ((p2 &&& (255 : Int32)).toUInt32.toUInt16.toUInt32.toInt32)), (.int (1 : Int32))])) _
    refine XS.iload X0.here hx rfl (hb hby at_48) rfl ?_
    show Steps p.tables e below (s₁.setTop (mkF m 50 #[.val (.int p1), .val (.int p2), .val (.int p3), .val (.int p4), .val (.int p5), .val (.int (1 : Int32)), .val (.int ((p2 &&& (255 : Int32)).toUInt32.toUInt16.toUInt32.toInt32)), .val (.int ((p3 &&& (255 : Int32)).toUInt32.toUInt16.toUInt32.toInt32)), .val (.int ((p4 &&& (255 : Int32)).toUInt32.toUInt16.toUInt32.toInt32)), .val (.int ((p5 &&& (255 : Int32)).toUInt32.toUInt16.toUInt32.toInt32)), .unset, .unset, .unset] [(.int ((p5 &&& (255 : Int32)).toUInt32.toUInt16.toUInt32.toInt32)), (.int ((p4 &&& (255 : Int32)).toUInt32.toUInt16.toUInt32.toInt32)), (.int ((p3 &&& (255 : Int32)).toUInt32.toUInt16.toUInt32.toInt32)), (.int ((p2 &&& (255 : Int32)).toUInt32.toUInt16.toUInt32.toInt32)), (.int (1 : Int32))])) _
    refine st7 _ ?_
    show Steps p.tables e below (T7.setTop (mkF m 53 #[.val (.int p1), .val (.int p2), .val (.int p3), .val (.int p4), .val (.int p5), .val (.int (1 : Int32)), .val (.int ((p2 &&& (255 : Int32)).toUInt32.toUInt16.toUInt32.toInt32)), .val (.int ((p3 &&& (255 : Int32)).toUInt32.toUInt16.toUInt32.toInt32)), .val (.int ((p4 &&& (255 : Int32)).toUInt32.toUInt16.toUInt32.toInt32)), .val (.int ((p5 &&& (255 : Int32)).toUInt32.toUInt16.toUInt32.toInt32)), .unset, .unset, .unset] [(.ref b8)])) _
    refine XS.astore X7.here hx rfl (hb hby at_53) rfl rfl (l' := #[.val (.int p1), .val (.int p2), .val (.int p3), .val (.int p4), .val (.int p5), .val (.int (1 : Int32)), .val (.int ((p2 &&& (255 : Int32)).toUInt32.toUInt16.toUInt32.toInt32)), .val (.int ((p3 &&& (255 : Int32)).toUInt32.toUInt16.toUInt32.toInt32)), .val (.int ((p4 &&& (255 : Int32)).toUInt32.toUInt16.toUInt32.toInt32)), .val (.int ((p5 &&& (255 : Int32)).toUInt32.toUInt16.toUInt32.toInt32)), .val (.ref b8), .unset, .unset]) rfl ?_
    show Steps p.tables e below (T7.setTop (mkF m 55 #[.val (.int p1), .val (.int p2), .val (.int p3), .val (.int p4), .val (.int p5), .val (.int (1 : Int32)), .val (.int ((p2 &&& (255 : Int32)).toUInt32.toUInt16.toUInt32.toInt32)), .val (.int ((p3 &&& (255 : Int32)).toUInt32.toUInt16.toUInt32.toInt32)), .val (.int ((p4 &&& (255 : Int32)).toUInt32.toUInt16.toUInt32.toInt32)), .val (.int ((p5 &&& (255 : Int32)).toUInt32.toUInt16.toUInt32.toInt32)), .val (.ref b8), .unset, .unset] [])) _
    refine XS.aload X7.here hx rfl (hb hby at_55) rfl rfl ?_
    show Steps p.tables e below (T7.setTop (mkF m 57 #[.val (.int p1), .val (.int p2), .val (.int p3), .val (.int p4), .val (.int p5), .val (.int (1 : Int32)), .val (.int ((p2 &&& (255 : Int32)).toUInt32.toUInt16.toUInt32.toInt32)), .val (.int ((p3 &&& (255 : Int32)).toUInt32.toUInt16.toUInt32.toInt32)), .val (.int ((p4 &&& (255 : Int32)).toUInt32.toUInt16.toUInt32.toInt32)), .val (.int ((p5 &&& (255 : Int32)).toUInt32.toUInt16.toUInt32.toInt32)), .val (.ref b8), .unset, .unset] [(.ref b8)])) _
    refine st14 _ ?_
    show Steps p.tables e below (T14.setTop (mkF m 60 #[.val (.int p1), .val (.int p2), .val (.int p3), .val (.int p4), .val (.int p5), .val (.int (1 : Int32)), .val (.int ((p2 &&& (255 : Int32)).toUInt32.toUInt16.toUInt32.toInt32)), .val (.int ((p3 &&& (255 : Int32)).toUInt32.toUInt16.toUInt32.toInt32)), .val (.int ((p4 &&& (255 : Int32)).toUInt32.toUInt16.toUInt32.toInt32)), .val (.int ((p5 &&& (255 : Int32)).toUInt32.toUInt16.toUInt32.toInt32)), .val (.ref b8), .unset, .unset] [(.ref b15)])) _
    refine XS.astore X14.here hx rfl (hb hby at_60) rfl rfl (l' := #[.val (.int p1), .val (.int p2), .val (.int p3), .val (.int p4), .val (.int p5), .val (.int (1 : Int32)), .val (.int ((p2 &&& (255 : Int32)).toUInt32.toUInt16.toUInt32.toInt32)), .val (.int ((p3 &&& (255 : Int32)).toUInt32.toUInt16.toUInt32.toInt32)), .val (.int ((p4 &&& (255 : Int32)).toUInt32.toUInt16.toUInt32.toInt32)), .val (.int ((p5 &&& (255 : Int32)).toUInt32.toUInt16.toUInt32.toInt32)), .val (.ref b8), .val (.ref b15), .unset]) rfl ?_
    show Steps p.tables e below (T14.setTop (mkF m 62 #[.val (.int p1), .val (.int p2), .val (.int p3), .val (.int p4), .val (.int p5), .val (.int (1 : Int32)), .val (.int ((p2 &&& (255 : Int32)).toUInt32.toUInt16.toUInt32.toInt32)), .val (.int ((p3 &&& (255 : Int32)).toUInt32.toUInt16.toUInt32.toInt32)), .val (.int ((p4 &&& (255 : Int32)).toUInt32.toUInt16.toUInt32.toInt32)), .val (.int ((p5 &&& (255 : Int32)).toUInt32.toUInt16.toUInt32.toInt32)), .val (.ref b8), .val (.ref b15), .unset] [])) _
    refine XS.aload X14.here hx rfl (hb hby at_62) rfl rfl ?_
    show Steps p.tables e below (T14.setTop (mkF m 64 #[.val (.int p1), .val (.int p2), .val (.int p3), .val (.int p4), .val (.int p5), .val (.int (1 : Int32)), .val (.int ((p2 &&& (255 : Int32)).toUInt32.toUInt16.toUInt32.toInt32)), .val (.int ((p3 &&& (255 : Int32)).toUInt32.toUInt16.toUInt32.toInt32)), .val (.int ((p4 &&& (255 : Int32)).toUInt32.toUInt16.toUInt32.toInt32)), .val (.int ((p5 &&& (255 : Int32)).toUInt32.toUInt16.toUInt32.toInt32)), .val (.ref b8), .val (.ref b15), .unset] [(.ref b15)])) _
    refine st18.trans ?_
    show Steps p.tables e below (T18.setTop (mkF m 67 #[.val (.int p1), .val (.int p2), .val (.int p3), .val (.int p4), .val (.int p5), .val (.int (1 : Int32)), .val (.int ((p2 &&& (255 : Int32)).toUInt32.toUInt16.toUInt32.toInt32)), .val (.int ((p3 &&& (255 : Int32)).toUInt32.toUInt16.toUInt32.toInt32)), .val (.int ((p4 &&& (255 : Int32)).toUInt32.toUInt16.toUInt32.toInt32)), .val (.int ((p5 &&& (255 : Int32)).toUInt32.toUInt16.toUInt32.toInt32)), .val (.ref b8), .val (.ref b15), .unset] [(.ref b8)])) _
    refine XS.astore X18.here hx rfl (hb hby at_67) rfl rfl (l' := #[.val (.int p1), .val (.int p2), .val (.int p3), .val (.int p4), .val (.int p5), .val (.int (1 : Int32)), .val (.int ((p2 &&& (255 : Int32)).toUInt32.toUInt16.toUInt32.toInt32)), .val (.int ((p3 &&& (255 : Int32)).toUInt32.toUInt16.toUInt32.toInt32)), .val (.int ((p4 &&& (255 : Int32)).toUInt32.toUInt16.toUInt32.toInt32)), .val (.int ((p5 &&& (255 : Int32)).toUInt32.toUInt16.toUInt32.toInt32)), .val (.ref b8), .val (.ref b15), .val (.ref b8)]) rfl ?_
    show Steps p.tables e below (T18.setTop (mkF m 69 #[.val (.int p1), .val (.int p2), .val (.int p3), .val (.int p4), .val (.int p5), .val (.int (1 : Int32)), .val (.int ((p2 &&& (255 : Int32)).toUInt32.toUInt16.toUInt32.toInt32)), .val (.int ((p3 &&& (255 : Int32)).toUInt32.toUInt16.toUInt32.toInt32)), .val (.int ((p4 &&& (255 : Int32)).toUInt32.toUInt16.toUInt32.toInt32)), .val (.int ((p5 &&& (255 : Int32)).toUInt32.toUInt16.toUInt32.toInt32)), .val (.ref b8), .val (.ref b15), .val (.ref b8)] [])) _
    refine XS.aload X18.here hx rfl (hb hby at_69) rfl rfl ?_
    show Steps p.tables e below (T18.setTop (mkF m 71 #[.val (.int p1), .val (.int p2), .val (.int p3), .val (.int p4), .val (.int p5), .val (.int (1 : Int32)), .val (.int ((p2 &&& (255 : Int32)).toUInt32.toUInt16.toUInt32.toInt32)), .val (.int ((p3 &&& (255 : Int32)).toUInt32.toUInt16.toUInt32.toInt32)), .val (.int ((p4 &&& (255 : Int32)).toUInt32.toUInt16.toUInt32.toInt32)), .val (.int ((p5 &&& (255 : Int32)).toUInt32.toUInt16.toUInt32.toInt32)), .val (.ref b8), .val (.ref b15), .val (.ref b8)] [(.ref b8)])) _
    refine st21.trans ?_
    show Steps p.tables e below (T21.setTop (mkF m 74 #[.val (.int p1), .val (.int p2), .val (.int p3), .val (.int p4), .val (.int p5), .val (.int (1 : Int32)), .val (.int ((p2 &&& (255 : Int32)).toUInt32.toUInt16.toUInt32.toInt32)), .val (.int ((p3 &&& (255 : Int32)).toUInt32.toUInt16.toUInt32.toInt32)), .val (.int ((p4 &&& (255 : Int32)).toUInt32.toUInt16.toUInt32.toInt32)), .val (.int ((p5 &&& (255 : Int32)).toUInt32.toUInt16.toUInt32.toInt32)), .val (.ref b8), .val (.ref b15), .val (.ref b8)] [(.int (1 : Int32))])) _
    refine XS.iload X21.here hx rfl (hb hby at_74) rfl ?_
    show Steps p.tables e below (T21.setTop (mkF m 76 #[.val (.int p1), .val (.int p2), .val (.int p3), .val (.int p4), .val (.int p5), .val (.int (1 : Int32)), .val (.int ((p2 &&& (255 : Int32)).toUInt32.toUInt16.toUInt32.toInt32)), .val (.int ((p3 &&& (255 : Int32)).toUInt32.toUInt16.toUInt32.toInt32)), .val (.int ((p4 &&& (255 : Int32)).toUInt32.toUInt16.toUInt32.toInt32)), .val (.int ((p5 &&& (255 : Int32)).toUInt32.toUInt16.toUInt32.toInt32)), .val (.ref b8), .val (.ref b15), .val (.ref b8)] [(.int (1 : Int32)), (.int (1 : Int32))])) _
    refine XS.icmpYes X21.here hx rfl (pc0 := 76) (pc' := 81) rfl (hb hby at_76) rfl (teq (by decide : (1 : Int32) = (1 : Int32))).1 (by decide) (by decide) ?_
    show Steps p.tables e below (T21.setTop (mkF m 81 #[.val (.int p1), .val (.int p2), .val (.int p3), .val (.int p4), .val (.int p5), .val (.int (1 : Int32)), .val (.int ((p2 &&& (255 : Int32)).toUInt32.toUInt16.toUInt32.toInt32)), .val (.int ((p3 &&& (255 : Int32)).toUInt32.toUInt16.toUInt32.toInt32)), .val (.int ((p4 &&& (255 : Int32)).toUInt32.toUInt16.toUInt32.toInt32)), .val (.int ((p5 &&& (255 : Int32)).toUInt32.toUInt16.toUInt32.toInt32)), .val (.ref b8), .val (.ref b15), .val (.ref b8)] [])) _
    refine XS.aload X21.here hx rfl (hb hby at_81) rfl rfl ?_
    show Steps p.tables e below (T21.setTop (mkF m 83 #[.val (.int p1), .val (.int p2), .val (.int p3), .val (.int p4), .val (.int p5), .val (.int (1 : Int32)), .val (.int ((p2 &&& (255 : Int32)).toUInt32.toUInt16.toUInt32.toInt32)), .val (.int ((p3 &&& (255 : Int32)).toUInt32.toUInt16.toUInt32.toInt32)), .val (.int ((p4 &&& (255 : Int32)).toUInt32.toUInt16.toUInt32.toInt32)), .val (.int ((p5 &&& (255 : Int32)).toUInt32.toUInt16.toUInt32.toInt32)), .val (.ref b8), .val (.ref b15), .val (.ref b8)] [(.ref b8)])) _
    refine XS.iconst X21.here hx rfl (hb hby at_83) ?_
    show Steps p.tables e below (T21.setTop (mkF m 84 #[.val (.int p1), .val (.int p2), .val (.int p3), .val (.int p4), .val (.int p5), .val (.int (1 : Int32)), .val (.int ((p2 &&& (255 : Int32)).toUInt32.toUInt16.toUInt32.toInt32)), .val (.int ((p3 &&& (255 : Int32)).toUInt32.toUInt16.toUInt32.toInt32)), .val (.int ((p4 &&& (255 : Int32)).toUInt32.toUInt16.toUInt32.toInt32)), .val (.int ((p5 &&& (255 : Int32)).toUInt32.toUInt16.toUInt32.toInt32)), .val (.ref b8), .val (.ref b15), .val (.ref b8)] [(.int (0 : Int32)), (.ref b8)])) _
    refine st25.trans ?_
    show Steps p.tables e below (T25.setTop (mkF m 87 #[.val (.int p1), .val (.int p2), .val (.int p3), .val (.int p4), .val (.int p5), .val (.int (1 : Int32)), .val (.int ((p2 &&& (255 : Int32)).toUInt32.toUInt16.toUInt32.toInt32)), .val (.int ((p3 &&& (255 : Int32)).toUInt32.toUInt16.toUInt32.toInt32)), .val (.int ((p4 &&& (255 : Int32)).toUInt32.toUInt16.toUInt32.toInt32)), .val (.int ((p5 &&& (255 : Int32)).toUInt32.toUInt16.toUInt32.toInt32)), .val (.ref b8), .val (.ref b15), .val (.ref b8)] [(.int ((p2 &&& (255 : Int32)).toUInt32.toUInt16.toUInt32.toInt32).toUInt32.toUInt16.toUInt32.toInt32)])) _
    refine XS.iload X25.here hx rfl (hb hby at_87) rfl ?_
    show Steps p.tables e below (T25.setTop (mkF m 89 #[.val (.int p1), .val (.int p2), .val (.int p3), .val (.int p4), .val (.int p5), .val (.int (1 : Int32)), .val (.int ((p2 &&& (255 : Int32)).toUInt32.toUInt16.toUInt32.toInt32)), .val (.int ((p3 &&& (255 : Int32)).toUInt32.toUInt16.toUInt32.toInt32)), .val (.int ((p4 &&& (255 : Int32)).toUInt32.toUInt16.toUInt32.toInt32)), .val (.int ((p5 &&& (255 : Int32)).toUInt32.toUInt16.toUInt32.toInt32)), .val (.ref b8), .val (.ref b15), .val (.ref b8)] [(.int ((p2 &&& (255 : Int32)).toUInt32.toUInt16.toUInt32.toInt32)), (.int ((p2 &&& (255 : Int32)).toUInt32.toUInt16.toUInt32.toInt32).toUInt32.toUInt16.toUInt32.toInt32)])) _
    refine XS.icmpYes X25.here hx rfl (pc0 := 89) (pc' := 94) rfl (hb hby at_89) rfl (teq hc89).1 (by decide) (by decide) ?_
    show Steps p.tables e below (T25.setTop (mkF m 94 #[.val (.int p1), .val (.int p2), .val (.int p3), .val (.int p4), .val (.int p5), .val (.int (1 : Int32)), .val (.int ((p2 &&& (255 : Int32)).toUInt32.toUInt16.toUInt32.toInt32)), .val (.int ((p3 &&& (255 : Int32)).toUInt32.toUInt16.toUInt32.toInt32)), .val (.int ((p4 &&& (255 : Int32)).toUInt32.toUInt16.toUInt32.toInt32)), .val (.int ((p5 &&& (255 : Int32)).toUInt32.toUInt16.toUInt32.toInt32)), .val (.ref b8), .val (.ref b15), .val (.ref b8)] [])) _
    refine XS.aload X25.here hx rfl (hb hby at_94) rfl rfl ?_
    show Steps p.tables e below (T25.setTop (mkF m 96 #[.val (.int p1), .val (.int p2), .val (.int p3), .val (.int p4), .val (.int p5), .val (.int (1 : Int32)), .val (.int ((p2 &&& (255 : Int32)).toUInt32.toUInt16.toUInt32.toInt32)), .val (.int ((p3 &&& (255 : Int32)).toUInt32.toUInt16.toUInt32.toInt32)), .val (.int ((p4 &&& (255 : Int32)).toUInt32.toUInt16.toUInt32.toInt32)), .val (.int ((p5 &&& (255 : Int32)).toUInt32.toUInt16.toUInt32.toInt32)), .val (.ref b8), .val (.ref b15), .val (.ref b8)] [(.ref b8)])) _
    refine XS.aload X25.here hx rfl (hb hby at_96) rfl rfl ?_
    show Steps p.tables e below (T25.setTop (mkF m 98 #[.val (.int p1), .val (.int p2), .val (.int p3), .val (.int p4), .val (.int p5), .val (.int (1 : Int32)), .val (.int ((p2 &&& (255 : Int32)).toUInt32.toUInt16.toUInt32.toInt32)), .val (.int ((p3 &&& (255 : Int32)).toUInt32.toUInt16.toUInt32.toInt32)), .val (.int ((p4 &&& (255 : Int32)).toUInt32.toUInt16.toUInt32.toInt32)), .val (.int ((p5 &&& (255 : Int32)).toUInt32.toUInt16.toUInt32.toInt32)), .val (.ref b8), .val (.ref b15), .val (.ref b8)] [(.ref b8), (.ref b8)])) _
    refine st26.trans ?_
    show Steps p.tables e below (T26.setTop (mkF m 101 #[.val (.int p1), .val (.int p2), .val (.int p3), .val (.int p4), .val (.int p5), .val (.int (1 : Int32)), .val (.int ((p2 &&& (255 : Int32)).toUInt32.toUInt16.toUInt32.toInt32)), .val (.int ((p3 &&& (255 : Int32)).toUInt32.toUInt16.toUInt32.toInt32)), .val (.int ((p4 &&& (255 : Int32)).toUInt32.toUInt16.toUInt32.toInt32)), .val (.int ((p5 &&& (255 : Int32)).toUInt32.toUInt16.toUInt32.toInt32)), .val (.ref b8), .val (.ref b15), .val (.ref b8)] [(.int (1 : Int32))])) _
    exact retN X26 hx (t := .boolean) Bd.returns (by simp) (hb hby at_101) hr
  · skip
    exact ⟨rfl, N26⟩
set_option maxRecDepth 65536 in
set_option maxHeartbeats 40000000 in
theorem rm0n2 (l : Launch) (Z : State) (a0 : Array Value) (hw : ∀ d ∈ tables_1, d.before a0 Z = true) (ws : List Jvm.Cond) (p1 p2 p3 p4 p5 w6 : Int32) (w11 : Addr) (w24 : Value) (h0 : Heap) (n0 : Nat) (O0 : Old Z n0 h0) (hn7 : ((p1 &&& (3 : Int32)) + (1 : Int32)) = (2 : Int32)) (S_COMPACT_STRINGS : Sta Z Z.heap "java/lang/String" "COMPACT_STRINGS" "Z" (.int w6)) (h50_hzcs : ¬ (w6 = (0 : Int32))) (h50_hch87 : ∀ c ∈ ([((p2 &&& (255 : Int32)).toUInt32.toUInt16.toUInt32.toInt32).toUInt32.toUInt16.toUInt32.toInt32, ((p3 &&& (255 : Int32)).toUInt32.toUInt16.toUInt32.toInt32).toUInt32.toUInt16.toUInt32.toInt32] : List Int32), ¬ c < 0 ∧ ¬ (255 : Int32) < c) (S_EMPTY : Sta Z Z.heap "java/util/Optional" "EMPTY" "Ljava/util/Optional;" (.ref w11)) (HE_w11 : Exa Z h0 w11 "java/util/Optional") (HF_w11_value : Fld Z h0 w11 "java/util/Optional" "value" "Ljava/lang/Object;" .null) (S_SIOOBE_FORMATTER : Sta Z Z.heap "jdk/internal/util/Preconditions" "SIOOBE_FORMATTER" "Ljava/util/function/BiFunction;" w24) (hrfm : w24.isRef = true) (hc89 : ((p2 &&& (255 : Int32)).toUInt32.toUInt16.toUInt32.toInt32).toUInt32.toUInt16.toUInt32.toInt32 = ((p2 &&& (255 : Int32)).toUInt32.toUInt16.toUInt32.toInt32)) :
    own_Met l Z ws #[(.int p1), (.int p2), (.int p3), (.int p4), (.int p5)] h0 n0 := by
  refine MetFree.of_bodySF (plainFor_of_name pnc_com_example_wattle_wattle_FigureUnreadablePinLaw) hisR ?_
  intro p e s m args below meth c s₁ Bd hml0 hP hK
  obtain ⟨rfl, hZ, hh⟩ := hP
  have hx := Bd.exec
  have hby := Bd.bytes
  have hml : c.maxLocals = 13 := hml0
  have hown : s.vm.findClass "com/example/wattle/wattle/FigureUnreadablePinLaw" = some m.cls := findClass_of_methodNamed Bd.named
  have hnm := (name_of_methodNamed Bd.named Bd.method).1
  have X0 : Stand p l e room_1 s m #[(.int p1), (.int p2), (.int p3), (.int p4), (.int p5)] below meth c s₁ [] 0 0 := Stand.of_body Bd
  have e0 : s₁.heap = h0 := by rw [← hh, Bd.state]; rfl
  have N0 := Fr.nil n0
  have Z0 : n0 ≤ h0.size := O0.1 ▸ O0.2.1
  have pre0 : ∀ t, Steps p.tables e below (s₁.setTop (mkF m 0 #[.val (.int p1), .val (.int p2), .val (.int p3), .val (.int p4), .val (.int p5), .unset, .unset, .unset, .unset, .unset, .unset, .unset, .unset] [])) t → Steps p.tables e below (s₁.setTop (entryFrame m #[(.int p1), (.int p2), (.int p3), (.int p4), (.int p5)] maxLocals)) t := fun t k => castTop (ef_0 m p1 p2 p3 p4 p5) k
  obtain ⟨vr7, _, ⟨T7, L7, k7, n7⟩, -, X7, ⟨Lc7, hQ7, l7, y7, z7⟩, st7⟩ := Jvm.LawKit.callS X0 hx (y := (⟨"com/example/wattle/wattle/FigureUnreadablePinLaw", "text", "(ICCCC)Ljava/lang/String;"⟩ : MethodName)) hown (mvT hZ (hw _ (List.mem_of_getElem? (i := 0) rfl))) (mvT hZ (hw _ (List.mem_of_getElem? (i := 1) rfl))) (mvT hZ (hw _ (List.mem_of_getElem? (i := 2) rfl))) (mvT hZ (hw _ (List.mem_of_getElem? (i := 3) rfl))) (by decide) (backOf (W := 0) (rm1n2 l Z a0 hw [] (((p2 &&& (255 : Int32)).toUInt32.toUInt16.toUInt32.toInt32)) (((p3 &&& (255 : Int32)).toUInt32.toUInt16.toUInt32.toInt32)) (((p4 &&& (255 : Int32)).toUInt32.toUInt16.toUInt32.toInt32)) (((p5 &&& (255 : Int32)).toUInt32.toUInt16.toUInt32.toInt32)) w6 h0 n0 O0 S_COMPACT_STRINGS h50_hzcs h50_hch87) hZ (hw _ (List.mem_of_getElem? (i := 3) rfl)) (hw _ (List.mem_of_getElem? (i := 2) rfl)) (by decide) (by decide)) (g := (mkF m 50 #[.val (.int p1), .val (.int p2), .val (.int p3), .val (.int p4), .val (.int p5), .val (.int (2 : Int32)), .val (.int ((p2 &&& (255 : Int32)).toUInt32.toUInt16.toUInt32.toInt32)), .val (.int ((p3 &&& (255 : Int32)).toUInt32.toUInt16.toUInt32.toInt32)), .val (.int ((p4 &&& (255 : Int32)).toUInt32.toUInt16.toUInt32.toInt32)), .val (.int ((p5 &&& (255 : Int32)).toUInt32.toUInt16.toUInt32.toInt32)), .unset, .unset, .unset] [(.int ((p5 &&& (255 : Int32)).toUInt32.toUInt16.toUInt32.toInt32)), (.int ((p4 &&& (255 : Int32)).toUInt32.toUInt16.toUInt32.toInt32)), (.int ((p3 &&& (255 : Int32)).toUInt32.toUInt16.toUInt32.toInt32)), (.int ((p2 &&& (255 : Int32)).toUInt32.toUInt16.toUInt32.toInt32)), (.int (2 : Int32))])) rfl (by rw [hml]; rfl) (argsL := [(.int (2 : Int32)), (.int ((p2 &&& (255 : Int32)).toUInt32.toUInt16.toUInt32.toInt32)), (.int ((p3 &&& (255 : Int32)).toUInt32.toUInt16.toUInt32.toInt32)), (.int ((p4 &&& (255 : Int32)).toUInt32.toUInt16.toUInt32.toInt32)), (.int ((p5 &&& (255 : Int32)).toUInt32.toUInt16.toUInt32.toInt32))]) (rest := []) (lenOf pd_7 rfl) rfl (by show 2 * 0 + _ ≤ _; exact Nat.le_of_eq rfl) (hb hby at_50) (fun _ _ => ⟨rfl, e0, (by decide : 0 + 6 ≤ _), (by decide : 0 + 16 ≤ _)⟩)
  dsimp only [Pt.U, Pt.locs, Pt.cells, Pt.slots] at X7 l7 y7 z7 st7 hQ7
  subst l7 y7 z7
  obtain ⟨b8, rfl, N7q, K7, Y7_z0, Y7_0, Y7_1⟩ := hQ7
  have N7 := Fr.app N0 N7q
  replace X7 := X7.more (cells' := 6) (slots' := 16) (by decide) (by decide)
  have g_b8 : n0 ≤ b8 := Nat.le_trans (Nat.le_trans Z0 (Keep.refl h0 []).1) Y7_z0
  have sz_b8 : h0.size ≤ b8 := Nat.le_trans (Keep.refl h0 []).1 Y7_z0
  have K9 : Keep h0 T7.heap [] := (Keep.refl h0 []).trans K7 all0
  have O10 : Old Z n0 T7.heap := O0.keep K7 all0
  have f12 := (HE_w11.keep K7)
  have f13 := (HF_w11_value.keep K7 nin0)
  obtain ⟨vr14, _, ⟨T14, L14, k14, n14⟩, -, X14, ⟨Lc14, hQ14, l14, y14, z14⟩, st14⟩ := Jvm.LawKit.callS X7 hx (y := (⟨"com/example/wattle/wattle/Figure", "unreadable", "(Ljava/lang/String;)Lcom/example/wattle/wattle/Figure;"⟩ : MethodName)) hown (mvT hZ (hw _ (List.mem_of_getElem? (i := 34) rfl))) (mvT hZ (hw _ (List.mem_of_getElem? (i := 35) rfl))) (mvT hZ (hw _ (List.mem_of_getElem? (i := 36) rfl))) (mvT hZ (hw _ (List.mem_of_getElem? (i := 37) rfl))) (by decide) (backOf (W := 0) (rm8n2 l Z a0 hw [] b8 w11 (((p2 &&& (255 : Int32)).toUInt32.toUInt16.toUInt32.toInt32).toUInt32.toUInt16.toUInt32.toInt32) (((p3 &&& (255 : Int32)).toUInt32.toUInt16.toUInt32.toInt32).toUInt32.toUInt16.toUInt32.toInt32) T7.heap n0 O10 S_EMPTY f12 f13 (own_Str.top Y7_1)) hZ (hw _ (List.mem_of_getElem? (i := 37) rfl)) (hw _ (List.mem_of_getElem? (i := 36) rfl)) (by decide) (by decide)) (g := (mkF m 57 #[.val (.int p1), .val (.int p2), .val (.int p3), .val (.int p4), .val (.int p5), .val (.int (2 : Int32)), .val (.int ((p2 &&& (255 : Int32)).toUInt32.toUInt16.toUInt32.toInt32)), .val (.int ((p3 &&& (255 : Int32)).toUInt32.toUInt16.toUInt32.toInt32)), .val (.int ((p4 &&& (255 : Int32)).toUInt32.toUInt16.toUInt32.toInt32)), .val (.int ((p5 &&& (255 : Int32)).toUInt32.toUInt16.toUInt32.toInt32)), .val (.ref b8), .unset, .unset] [(.ref b8)])) rfl (by rw [hml]; rfl) (argsL := [(.ref b8)]) (rest := []) (lenOf pd_11 rfl) rfl (by show 2 * 0 + _ ≤ _; exact Nat.le_of_eq rfl) (hb hby at_57) (fun _ _ => ⟨rfl, rfl, (by decide : 6 + 1 ≤ _), (by decide : 16 + 2 ≤ _)⟩)
  dsimp only [Pt.U, Pt.locs, Pt.cells, Pt.slots] at X14 l14 y14 z14 st14 hQ14
  subst l14 y14 z14
  obtain ⟨b15, rfl, N14q, K14, Y14_z0, Y14_0, Y14_1, Y14_2⟩ := hQ14
  have N14 := Fr.app N7 N14q
  replace X14 := X14.more (cells' := 7) (slots' := 18) (by decide) (by decide)
  have g_b15 : n0 ≤ b15 := Nat.le_trans (Nat.le_trans Z0 K9.1) Y14_z0
  have sz_b15 : h0.size ≤ b15 := Nat.le_trans K9.1 Y14_z0
  have K16 : Keep h0 T14.heap [] := K9.trans K14 all0
  have O17 : Old Z n0 T14.heap := O10.keep K14 all0
  obtain ⟨cq18, kq18, q18a, q18b, q18c⟩ := isOf hZ rfl Y14_0
  obtain ⟨vr18, _, ⟨T18, L18, k18, n18⟩, -, X18, ⟨Lc18, hQ18, l18, y18, z18⟩, st18⟩ := X14.virtualBack hx (y := (⟨"com/example/wattle/wattle/Figure", "shown", "()Ljava/lang/String;"⟩ : MethodName)) (z := (⟨"com/example/wattle/wattle/Figure", "shown", "()Ljava/lang/String;"⟩ : MethodName)) hown (mvT hZ (hw _ (List.mem_of_getElem? (i := 70) rfl))) (mvT hZ (hw _ (List.mem_of_getElem? (i := 71) rfl))) (notFace_of_selects (args := #[]) (mvT hZ (hw _ (List.mem_of_getElem? (i := 73) rfl)))) (mvT hZ (hw _ (List.mem_of_getElem? (i := 73) rfl))) (mvT hZ (hw _ (List.mem_of_getElem? (i := 72) rfl))) (by decide) (backOf (W := 0) (rm14 l Z a0 hw [] b15 b8 T14.heap n0 O17 Y14_1) hZ (hw _ (List.mem_of_getElem? (i := 74) rfl)) (hw _ (List.mem_of_getElem? (i := 36) rfl)) (by decide) (by decide)) q18a q18c (g := (mkF m 64 #[.val (.int p1), .val (.int p2), .val (.int p3), .val (.int p4), .val (.int p5), .val (.int (2 : Int32)), .val (.int ((p2 &&& (255 : Int32)).toUInt32.toUInt16.toUInt32.toInt32)), .val (.int ((p3 &&& (255 : Int32)).toUInt32.toUInt16.toUInt32.toInt32)), .val (.int ((p4 &&& (255 : Int32)).toUInt32.toUInt16.toUInt32.toInt32)), .val (.int ((p5 &&& (255 : Int32)).toUInt32.toUInt16.toUInt32.toInt32)), .val (.ref b8), .val (.ref b15), .unset] [(.ref b15)])) rfl (by rw [hml]; rfl) (Steps.refl _) (argsL := []) (rest := []) (lenOf pd_2 rfl) rfl (by show 2 * 0 + _ ≤ _; exact Nat.le_of_eq rfl) (hb hby at_64) (fun _ _ => ⟨rfl, rfl, (by decide : 7 + 0 ≤ _), (by decide : 18 + 0 ≤ _)⟩)
  dsimp only [Pt.U, Pt.locs, Pt.cells, Pt.slots] at X18 l18 y18 z18 st18 hQ18
  subst l18 y18 z18
  obtain ⟨rfl, N18q, e18⟩ := hQ18
  have N18 := Fr.app N14 N18q
  replace X18 := X18.more (cells' := 7) (slots' := 18) (by decide) (by decide)
  have f19 := (own_Str.keep Y7_1 K14 all0)
  obtain ⟨⟨tx20, tl20, tp20⟩, ty20, tk20, tt20, tE20, tV20, tC20, tA20⟩ := id f19
  have f22 := ((own_Str.exa Y7_1).keep K14)
  obtain ⟨cq21, kq21, q21a, q21b, q21c⟩ := isOf hZ e18 f22
  obtain ⟨vr21, _, ⟨T21, L21, k21, n21⟩, -, X21, ⟨Lc21, hQ21, l21, y21, z21⟩, st21⟩ := X18.virtualBack hx (y := (⟨"java/lang/String", "length", "()I"⟩ : MethodName)) (z := (⟨"java/lang/String", "length", "()I"⟩ : MethodName)) hown (mvT hZ (hw _ (List.mem_of_getElem? (i := 75) rfl))) (mvT hZ (hw _ (List.mem_of_getElem? (i := 76) rfl))) (notFace_of_selects (args := #[]) (mvT hZ (hw _ (List.mem_of_getElem? (i := 78) rfl)))) (mvT hZ (hw _ (List.mem_of_getElem? (i := 78) rfl))) (mvT hZ (hw _ (List.mem_of_getElem? (i := 77) rfl))) (by decide) (StrChars.Road.lenW (W := 0) hZ (fun d hd => hw d (own_in_wordsLen d hd)) (kI := 4) (hw _ (List.mem_of_getElem? (i := 6) rfl)) tE20 tV20 tC20 tA20 (StrChars.Road.codOf (cs := [((p2 &&& (255 : Int32)).toUInt32.toUInt16.toUInt32.toInt32).toUInt32.toUInt16.toUInt32.toInt32, ((p3 &&& (255 : Int32)).toUInt32.toUInt16.toUInt32.toInt32).toUInt32.toUInt16.toUInt32.toInt32]) (n := ([((p2 &&& (255 : Int32)).toUInt32.toUInt16.toUInt32.toInt32).toUInt32.toUInt16.toUInt32.toInt32, ((p3 &&& (255 : Int32)).toUInt32.toUInt16.toUInt32.toInt32).toUInt32.toUInt16.toUInt32.toInt32] : List Int32).length) rfl (fun c hc => (tp20 c hc).2)) (own_up tp20) (S_COMPACT_STRINGS.ext O17.2) h50_hzcs tl20 (by decide) (by decide)) q21a q21c (g := (mkF m 71 #[.val (.int p1), .val (.int p2), .val (.int p3), .val (.int p4), .val (.int p5), .val (.int (2 : Int32)), .val (.int ((p2 &&& (255 : Int32)).toUInt32.toUInt16.toUInt32.toInt32)), .val (.int ((p3 &&& (255 : Int32)).toUInt32.toUInt16.toUInt32.toInt32)), .val (.int ((p4 &&& (255 : Int32)).toUInt32.toUInt16.toUInt32.toInt32)), .val (.int ((p5 &&& (255 : Int32)).toUInt32.toUInt16.toUInt32.toInt32)), .val (.ref b8), .val (.ref b15), .val (.ref b8)] [(.ref b8)])) rfl (by rw [hml]; rfl) (Steps.refl _) (argsL := []) (rest := []) (lenOf pd_1 rfl) rfl (by show 2 * 0 + _ ≤ _; exact Nat.le_of_eq rfl) (hb hby at_71) (fun _ _ => ⟨rfl, e18, (by decide : 7 + 0 ≤ _), (by decide : 18 + 0 ≤ _)⟩)
  dsimp only [Pt.U, Pt.locs, Pt.cells, Pt.slots] at X21 l21 y21 z21 st21 hQ21
  subst l21 y21 z21
  obtain ⟨rfl, rfl, e21⟩ := hQ21
  have N21 := Fr.app N18 (Fr.nil n0)
  replace X21 := X21.more (cells' := 7) (slots' := 18) (by decide) (by decide)
  obtain ⟨⟨tx23, tl23, tp23⟩, ty23, tk23, tt23, tE23, tV23, tC23, tA23⟩ := id f19
  obtain ⟨cq25, kq25, q25a, q25b, q25c⟩ := isOf hZ e21 f22
  obtain ⟨vr25, _, ⟨T25, L25, k25, n25⟩, -, X25, ⟨Lc25, hQ25, l25, y25, z25⟩, st25⟩ := X21.virtualBack hx (y := (⟨"java/lang/String", "charAt", "(I)C"⟩ : MethodName)) (z := (⟨"java/lang/String", "charAt", "(I)C"⟩ : MethodName)) hown (mvT hZ (hw _ (List.mem_of_getElem? (i := 85) rfl))) (mvT hZ (hw _ (List.mem_of_getElem? (i := 86) rfl))) (notFace_of_selects (args := #[]) (mvT hZ (hw _ (List.mem_of_getElem? (i := 88) rfl)))) (mvT hZ (hw _ (List.mem_of_getElem? (i := 88) rfl))) (mvT hZ (hw _ (List.mem_of_getElem? (i := 87) rfl))) (by decide) (StrChars.Road.chN (W := 0) hZ (fun d hd => hw d (own_in_wordsChN d hd)) (kI := 4) (hw _ (List.mem_of_getElem? (i := 6) rfl)) tE23 tV23 tC23 tA23 (StrChars.Road.codOf (cs := [((p2 &&& (255 : Int32)).toUInt32.toUInt16.toUInt32.toInt32).toUInt32.toUInt16.toUInt32.toInt32, ((p3 &&& (255 : Int32)).toUInt32.toUInt16.toUInt32.toInt32).toUInt32.toUInt16.toUInt32.toInt32]) (n := ([((p2 &&& (255 : Int32)).toUInt32.toUInt16.toUInt32.toInt32).toUInt32.toUInt16.toUInt32.toInt32, ((p3 &&& (255 : Int32)).toUInt32.toUInt16.toUInt32.toInt32).toUInt32.toUInt16.toUInt32.toInt32] : List Int32).length) rfl (fun c hc => (tp23 c hc).2)) (own_up tp23) (S_COMPACT_STRINGS.ext O17.2) h50_hzcs (S_SIOOBE_FORMATTER.ext O17.2) hrfm tl23 (i := 0) (Nat.le_of_ble_eq_true rfl) (j := (0 : Int32)) rfl (by decide) (by decide)) q25a q25c (g := (mkF m 84 #[.val (.int p1), .val (.int p2), .val (.int p3), .val (.int p4), .val (.int p5), .val (.int (2 : Int32)), .val (.int ((p2 &&& (255 : Int32)).toUInt32.toUInt16.toUInt32.toInt32)), .val (.int ((p3 &&& (255 : Int32)).toUInt32.toUInt16.toUInt32.toInt32)), .val (.int ((p4 &&& (255 : Int32)).toUInt32.toUInt16.toUInt32.toInt32)), .val (.int ((p5 &&& (255 : Int32)).toUInt32.toUInt16.toUInt32.toInt32)), .val (.ref b8), .val (.ref b15), .val (.ref b8)] [(.int (0 : Int32)), (.ref b8)])) rfl (by rw [hml]; rfl) (Steps.refl _) (argsL := [(.int (0 : Int32))]) (rest := []) (lenOf pd_6 rfl) rfl (by show 2 * 0 + _ ≤ _; exact Nat.le_of_eq rfl) (hb hby at_84) (fun _ _ => ⟨rfl, e21, (by decide : 7 + 0 ≤ _), (by decide : 18 + 0 ≤ _)⟩)
  dsimp only [Pt.U, Pt.locs, Pt.cells, Pt.slots] at X25 l25 y25 z25 st25 hQ25
  subst l25 y25 z25
  obtain ⟨rfl, rfl, e25⟩ := hQ25
  have N25 := Fr.app N21 (Fr.nil n0)
  replace X25 := X25.more (cells' := 7) (slots' := 18) (by decide) (by decide)
  obtain ⟨cq26, kq26, q26a, q26b, q26c⟩ := isOf hZ e25 f22
  obtain ⟨vr26, _, ⟨T26, L26, k26, n26⟩, -, X26, ⟨Lc26, hQ26, l26, y26, z26⟩, st26⟩ := X25.virtualBack hx (y := (⟨"java/lang/String", "equals", "(Ljava/lang/Object;)Z"⟩ : MethodName)) (z := (⟨"java/lang/String", "equals", "(Ljava/lang/Object;)Z"⟩ : MethodName)) hown (mvT hZ (hw _ (List.mem_of_getElem? (i := 107) rfl))) (mvT hZ (hw _ (List.mem_of_getElem? (i := 108) rfl))) (notFace_of_selects (args := #[]) (mvT hZ (hw _ (List.mem_of_getElem? (i := 110) rfl)))) (mvT hZ (hw _ (List.mem_of_getElem? (i := 110) rfl))) (mvT hZ (hw _ (List.mem_of_getElem? (i := 109) rfl))) (by decide) (backOf (W := 0) (rm22 l Z a0 hw [] b8 b8 T14.heap n0 O17 (rfl : b8 = b8)) hZ (hw _ (List.mem_of_getElem? (i := 111) rfl)) (hw _ (List.mem_of_getElem? (i := 7) rfl)) (by decide) (by decide)) q26a q26c (g := (mkF m 98 #[.val (.int p1), .val (.int p2), .val (.int p3), .val (.int p4), .val (.int p5), .val (.int (2 : Int32)), .val (.int ((p2 &&& (255 : Int32)).toUInt32.toUInt16.toUInt32.toInt32)), .val (.int ((p3 &&& (255 : Int32)).toUInt32.toUInt16.toUInt32.toInt32)), .val (.int ((p4 &&& (255 : Int32)).toUInt32.toUInt16.toUInt32.toInt32)), .val (.int ((p5 &&& (255 : Int32)).toUInt32.toUInt16.toUInt32.toInt32)), .val (.ref b8), .val (.ref b15), .val (.ref b8)] [(.ref b8), (.ref b8)])) rfl (by rw [hml]; rfl) (Steps.refl _) (argsL := [(.ref b8)]) (rest := []) (lenOf pd_10 rfl) rfl (by show 2 * 0 + _ ≤ _; exact Nat.le_of_eq rfl) (hb hby at_98) (fun _ _ => ⟨rfl, e25, (by decide : 7 + 0 ≤ _), (by decide : 18 + 0 ≤ _)⟩)
  dsimp only [Pt.U, Pt.locs, Pt.cells, Pt.slots] at X26 l26 y26 z26 st26 hQ26
  subst l26 y26 z26
  obtain ⟨rfl, N26q, e26⟩ := hQ26
  have N26 := Fr.app N25 N26q
  replace X26 := X26.more (cells' := 7) (slots' := 18) (by decide) (by decide)
  obtain ⟨fs, hr, hrun, hended, hW, hsame⟩ := X26.leave (v := some (.int (1 : Int32))) (fun h => by rw [Bd.returns] at h; cases h)
  refine ⟨_, _, pre0 _ ?_, hrun, hended, _, _, rfl, ?_, ⟨_, rfl⟩, hW, hsame.mono (by decide) (by decide)⟩
  · show Steps p.tables e below (s₁.setTop (mkF m 0 #[.val (.int p1), .val (.int p2), .val (.int p3), .val (.int p4), .val (.int p5), .unset, .unset, .unset, .unset, .unset, .unset, .unset, .unset] [])) _
    refine XS.iloadN X0.here hx rfl (hb hby at_0) rfl ?_
    show Steps p.tables e below (s₁.setTop (mkF m 1 #[.val (.int p1), .val (.int p2), .val (.int p3), .val (.int p4), .val (.int p5), .unset, .unset, .unset, .unset, .unset, .unset, .unset, .unset] [(.int p1)])) _
    refine XS.iconst X0.here hx rfl (hb hby at_1) ?_
    show Steps p.tables e below (s₁.setTop (mkF m 2 #[.val (.int p1), .val (.int p2), .val (.int p3), .val (.int p4), .val (.int p5), .unset, .unset, .unset, .unset, .unset, .unset, .unset, .unset] [(.int (3 : Int32)), (.int p1)])) _
    refine XS.iand X0.here hx rfl (hb hby at_2) rfl ?_
    show Steps p.tables e below (s₁.setTop (mkF m 3 #[.val (.int p1), .val (.int p2), .val (.int p3), .val (.int p4), .val (.int p5), .unset, .unset, .unset, .unset, .unset, .unset, .unset, .unset] [(.int (p1 &&& (3 : Int32)))])) _
    refine XS.iconst X0.here hx rfl (hb hby at_3) ?_
    show Steps p.tables e below (s₁.setTop (mkF m 4 #[.val (.int p1), .val (.int p2), .val (.int p3), .val (.int p4), .val (.int p5), .unset, .unset, .unset, .unset, .unset, .unset, .unset, .unset] [(.int (1 : Int32)), (.int (p1 &&& (3 : Int32)))])) _
    refine XS.iadd X0.here hx rfl (hb hby at_4) rfl ?_
    show Steps p.tables e below (s₁.setTop (mkF m 5 #[.val (.int p1), .val (.int p2), .val (.int p3), .val (.int p4), .val (.int p5), .unset, .unset, .unset, .unset, .unset, .unset, .unset, .unset] [(.int ((p1 &&& (3 : Int32)) + (1 : Int32)))])) _
    refine XS.istore X0.here hx rfl (hb hby at_5) rfl (l' := #[.val (.int p1), .val (.int p2), .val (.int p3), .val (.int p4), .val (.int p5), .val (.int ((p1 &&& (3 : Int32)) + (1 : Int32))), .unset, .unset, .unset, .unset, .unset, .unset, .unset]) rfl ?_
    show Steps p.tables e below (s₁.setTop (mkF m 7 #[.val (.int p1), .val (.int p2), .val (.int p3), .val (.int p4), .val (.int p5), .val (.int ((p1 &&& (3 : Int32)) + (1 : Int32))), .unset, .unset, .unset, .unset, .unset, .unset, .unset] [])) _
    rw [hn7]
    show Steps p.tables e below (s₁.setTop (mkF m 7 #[.val (.int p1), .val (.int p2), .val (.int p3), .val (.int p4), .val (.int p5), .val (.int (2 : Int32)), .unset, .unset, .unset, .unset, .unset, .unset, .unset] [])) _
    refine XS.iloadN X0.here hx rfl (hb hby at_7) rfl ?_
    show Steps p.tables e below (s₁.setTop (mkF m 8 #[.val (.int p1), .val (.int p2), .val (.int p3), .val (.int p4), .val (.int p5), .val (.int (2 : Int32)), .unset, .unset, .unset, .unset, .unset, .unset, .unset] [(.int p2)])) _
    refine XS.sipush X0.here hx rfl (hb hby at_8) ?_
    show Steps p.tables e below (s₁.setTop (mkF m 11 #[.val (.int p1), .val (.int p2), .val (.int p3), .val (.int p4), .val (.int p5), .val (.int (2 : Int32)), .unset, .unset, .unset, .unset, .unset, .unset, .unset] [(.int (255 : Int32)), (.int p2)])) _
    refine XS.iand X0.here hx rfl (hb hby at_11) rfl ?_
    show Steps p.tables e below (s₁.setTop (mkF m 12 #[.val (.int p1), .val (.int p2), .val (.int p3), .val (.int p4), .val (.int p5), .val (.int (2 : Int32)), .unset, .unset, .unset, .unset, .unset, .unset, .unset] [(.int (p2 &&& (255 : Int32)))])) _
    refine XS.i2c X0.here hx rfl (hb hby at_12) rfl ?_
    show Steps p.tables e below (s₁.setTop (mkF m 13 #[.val (.int p1), .val (.int p2), .val (.int p3), .val (.int p4), .val (.int p5), .val (.int (2 : Int32)), .unset, .unset, .unset, .unset, .unset, .unset, .unset] [(.int ((p2 &&& (255 : Int32)).toUInt32.toUInt16.toUInt32.toInt32))])) _
    refine XS.istore X0.here hx rfl (hb hby at_13) rfl (l' := #[.val (.int p1), .val (.int p2), .val (.int p3), .val (.int p4), .val (.int p5), .val (.int (2 : Int32)), .val (.int ((p2 &&& (255 : Int32)).toUInt32.toUInt16.toUInt32.toInt32)), .unset, .unset, .unset, .unset, .unset, .unset]) rfl ?_
    show Steps p.tables e below (s₁.setTop (mkF m 15 #[.val (.int p1), .val (.int p2), .val (.int p3), .val (.int p4), .val (.int p5), .val (.int (2 : Int32)), .val (.int ((p2 &&& (255 : Int32)).toUInt32.toUInt16.toUInt32.toInt32)), .unset, .unset, .unset, .unset, .unset, .unset] [])) _
    refine XS.iloadN X0.here hx rfl (hb hby at_15) rfl ?_
    show Steps p.tables e below (s₁.setTop (mkF m 16 #[.val (.int p1), .val (.int p2), .val (.int p3), .val (.int p4), .val (.int p5), .val (.int (2 : Int32)), .val (.int ((p2 &&& (255 : Int32)).toUInt32.toUInt16.toUInt32.toInt32)), .unset, .unset, .unset, .unset, .unset, .unset] [(.int p3)])) _
    refine XS.sipush X0.here hx rfl (hb hby at_16) ?_
    show Steps p.tables e below (s₁.setTop (mkF m 19 #[.val (.int p1), .val (.int p2), .val (.int p3), .val (.int p4), .val (.int p5), .val (.int (2 : Int32)), .val (.int ((p2 &&& (255 : Int32)).toUInt32.toUInt16.toUInt32.toInt32)), .unset, .unset, .unset, .unset, .unset, .unset] [(.int (255 : Int32)), (.int p3)])) _
    refine XS.iand X0.here hx rfl (hb hby at_19) rfl ?_
    show Steps p.tables e below (s₁.setTop (mkF m 20 #[.val (.int p1), .val (.int p2), .val (.int p3), .val (.int p4), .val (.int p5), .val (.int (2 : Int32)), .val (.int ((p2 &&& (255 : Int32)).toUInt32.toUInt16.toUInt32.toInt32)), .unset, .unset, .unset, .unset, .unset, .unset] [(.int (p3 &&& (255 : Int32)))])) _
    refine XS.i2c X0.here hx rfl (hb hby at_20) rfl ?_
    show Steps p.tables e below (s₁.setTop (mkF m 21 #[.val (.int p1), .val (.int p2), .val (.int p3), .val (.int p4), .val (.int p5), .val (.int (2 : Int32)), .val (.int ((p2 &&& (255 : Int32)).toUInt32.toUInt16.toUInt32.toInt32)), .unset, .unset, .unset, .unset, .unset, .unset] [(.int ((p3 &&& (255 : Int32)).toUInt32.toUInt16.toUInt32.toInt32))])) _
    refine XS.istore X0.here hx rfl (hb hby at_21) rfl (l' := #[.val (.int p1), .val (.int p2), .val (.int p3), .val (.int p4), .val (.int p5), .val (.int (2 : Int32)), .val (.int ((p2 &&& (255 : Int32)).toUInt32.toUInt16.toUInt32.toInt32)), .val (.int ((p3 &&& (255 : Int32)).toUInt32.toUInt16.toUInt32.toInt32)), .unset, .unset, .unset, .unset, .unset]) rfl ?_
    show Steps p.tables e below (s₁.setTop (mkF m 23 #[.val (.int p1), .val (.int p2), .val (.int p3), .val (.int p4), .val (.int p5), .val (.int (2 : Int32)), .val (.int ((p2 &&& (255 : Int32)).toUInt32.toUInt16.toUInt32.toInt32)), .val (.int ((p3 &&& (255 : Int32)).toUInt32.toUInt16.toUInt32.toInt32)), .unset, .unset, .unset, .unset, .unset] [])) _
    refine XS.iloadN X0.here hx rfl (hb hby at_23) rfl ?_
    show Steps p.tables e below (s₁.setTop (mkF m 24 #[.val (.int p1), .val (.int p2), .val (.int p3), .val (.int p4), .val (.int p5), .val (.int (2 : Int32)), .val (.int ((p2 &&& (255 : Int32)).toUInt32.toUInt16.toUInt32.toInt32)), .val (.int ((p3 &&& (255 : Int32)).toUInt32.toUInt16.toUInt32.toInt32)), .unset, .unset, .unset, .unset, .unset] [(.int p4)])) _
    refine XS.sipush X0.here hx rfl (hb hby at_24) ?_
    show Steps p.tables e below (s₁.setTop (mkF m 27 #[.val (.int p1), .val (.int p2), .val (.int p3), .val (.int p4), .val (.int p5), .val (.int (2 : Int32)), .val (.int ((p2 &&& (255 : Int32)).toUInt32.toUInt16.toUInt32.toInt32)), .val (.int ((p3 &&& (255 : Int32)).toUInt32.toUInt16.toUInt32.toInt32)), .unset, .unset, .unset, .unset, .unset] [(.int (255 : Int32)), (.int p4)])) _
    refine XS.iand X0.here hx rfl (hb hby at_27) rfl ?_
    show Steps p.tables e below (s₁.setTop (mkF m 28 #[.val (.int p1), .val (.int p2), .val (.int p3), .val (.int p4), .val (.int p5), .val (.int (2 : Int32)), .val (.int ((p2 &&& (255 : Int32)).toUInt32.toUInt16.toUInt32.toInt32)), .val (.int ((p3 &&& (255 : Int32)).toUInt32.toUInt16.toUInt32.toInt32)), .unset, .unset, .unset, .unset, .unset] [(.int (p4 &&& (255 : Int32)))])) _
    refine XS.i2c X0.here hx rfl (hb hby at_28) rfl ?_
    show Steps p.tables e below (s₁.setTop (mkF m 29 #[.val (.int p1), .val (.int p2), .val (.int p3), .val (.int p4), .val (.int p5), .val (.int (2 : Int32)), .val (.int ((p2 &&& (255 : Int32)).toUInt32.toUInt16.toUInt32.toInt32)), .val (.int ((p3 &&& (255 : Int32)).toUInt32.toUInt16.toUInt32.toInt32)), .unset, .unset, .unset, .unset, .unset] [(.int ((p4 &&& (255 : Int32)).toUInt32.toUInt16.toUInt32.toInt32))])) _
    refine XS.istore X0.here hx rfl (hb hby at_29) rfl (l' := #[.val (.int p1), .val (.int p2), .val (.int p3), .val (.int p4), .val (.int p5), .val (.int (2 : Int32)), .val (.int ((p2 &&& (255 : Int32)).toUInt32.toUInt16.toUInt32.toInt32)), .val (.int ((p3 &&& (255 : Int32)).toUInt32.toUInt16.toUInt32.toInt32)), .val (.int ((p4 &&& (255 : Int32)).toUInt32.toUInt16.toUInt32.toInt32)), .unset, .unset, .unset, .unset]) rfl ?_
    show Steps p.tables e below (s₁.setTop (mkF m 31 #[.val (.int p1), .val (.int p2), .val (.int p3), .val (.int p4), .val (.int p5), .val (.int (2 : Int32)), .val (.int ((p2 &&& (255 : Int32)).toUInt32.toUInt16.toUInt32.toInt32)), .val (.int ((p3 &&& (255 : Int32)).toUInt32.toUInt16.toUInt32.toInt32)), .val (.int ((p4 &&& (255 : Int32)).toUInt32.toUInt16.toUInt32.toInt32)), .unset, .unset, .unset, .unset] [])) _
    refine XS.iload X0.here hx rfl (hb hby at_31) rfl ?_
    show Steps p.tables e below (s₁.setTop (mkF m 33 #[.val (.int p1), .val (.int p2), .val (.int p3), .val (.int p4), .val (.int p5), .val (.int (2 : Int32)), .val (.int ((p2 &&& (255 : Int32)).toUInt32.toUInt16.toUInt32.toInt32)), .val (.int ((p3 &&& (255 : Int32)).toUInt32.toUInt16.toUInt32.toInt32)), .val (.int ((p4 &&& (255 : Int32)).toUInt32.toUInt16.toUInt32.toInt32)), .unset, .unset, .unset, .unset] [(.int p5)])) _
    refine XS.sipush X0.here hx rfl (hb hby at_33) ?_
    show Steps p.tables e below (s₁.setTop (mkF m 36 #[.val (.int p1), .val (.int p2), .val (.int p3), .val (.int p4), .val (.int p5), .val (.int (2 : Int32)), .val (.int ((p2 &&& (255 : Int32)).toUInt32.toUInt16.toUInt32.toInt32)), .val (.int ((p3 &&& (255 : Int32)).toUInt32.toUInt16.toUInt32.toInt32)), .val (.int ((p4 &&& (255 : Int32)).toUInt32.toUInt16.toUInt32.toInt32)), .unset, .unset, .unset, .unset] [(.int (255 : Int32)), (.int p5)])) _
    refine XS.iand X0.here hx rfl (hb hby at_36) rfl ?_
    show Steps p.tables e below (s₁.setTop (mkF m 37 #[.val (.int p1), .val (.int p2), .val (.int p3), .val (.int p4), .val (.int p5), .val (.int (2 : Int32)), .val (.int ((p2 &&& (255 : Int32)).toUInt32.toUInt16.toUInt32.toInt32)), .val (.int ((p3 &&& (255 : Int32)).toUInt32.toUInt16.toUInt32.toInt32)), .val (.int ((p4 &&& (255 : Int32)).toUInt32.toUInt16.toUInt32.toInt32)), .unset, .unset, .unset, .unset] [(.int (p5 &&& (255 : Int32)))])) _
    refine XS.i2c X0.here hx rfl (hb hby at_37) rfl ?_
    show Steps p.tables e below (s₁.setTop (mkF m 38 #[.val (.int p1), .val (.int p2), .val (.int p3), .val (.int p4), .val (.int p5), .val (.int (2 : Int32)), .val (.int ((p2 &&& (255 : Int32)).toUInt32.toUInt16.toUInt32.toInt32)), .val (.int ((p3 &&& (255 : Int32)).toUInt32.toUInt16.toUInt32.toInt32)), .val (.int ((p4 &&& (255 : Int32)).toUInt32.toUInt16.toUInt32.toInt32)), .unset, .unset, .unset, .unset] [(.int ((p5 &&& (255 : Int32)).toUInt32.toUInt16.toUInt32.toInt32))])) _
    refine XS.istore X0.here hx rfl (hb hby at_38) rfl (l' := #[.val (.int p1), .val (.int p2), .val (.int p3), .val (.int p4), .val (.int p5), .val (.int (2 : Int32)), .val (.int ((p2 &&& (255 : Int32)).toUInt32.toUInt16.toUInt32.toInt32)), .val (.int ((p3 &&& (255 : Int32)).toUInt32.toUInt16.toUInt32.toInt32)), .val (.int ((p4 &&& (255 : Int32)).toUInt32.toUInt16.toUInt32.toInt32)), .val (.int ((p5 &&& (255 : Int32)).toUInt32.toUInt16.toUInt32.toInt32)), .unset, .unset, .unset]) rfl ?_
    show Steps p.tables e below (s₁.setTop (mkF m 40 #[.val (.int p1), .val (.int p2), .val (.int p3), .val (.int p4), .val (.int p5), .val (.int (2 : Int32)), .val (.int ((p2 &&& (255 : Int32)).toUInt32.toUInt16.toUInt32.toInt32)), .val (.int ((p3 &&& (255 : Int32)).toUInt32.toUInt16.toUInt32.toInt32)), .val (.int ((p4 &&& (255 : Int32)).toUInt32.toUInt16.toUInt32.toInt32)), .val (.int ((p5 &&& (255 : Int32)).toUInt32.toUInt16.toUInt32.toInt32)), .unset, .unset, .unset] [])) _
    refine XS.iload X0.here hx rfl (hb hby at_40) rfl ?_
    show Steps p.tables e below (s₁.setTop (mkF m 42 #[.val (.int p1), .val (.int p2), .val (.int p3), .val (.int p4), .val (.int p5), .val (.int (2 : Int32)), .val (.int ((p2 &&& (255 : Int32)).toUInt32.toUInt16.toUInt32.toInt32)), .val (.int ((p3 &&& (255 : Int32)).toUInt32.toUInt16.toUInt32.toInt32)), .val (.int ((p4 &&& (255 : Int32)).toUInt32.toUInt16.toUInt32.toInt32)), .val (.int ((p5 &&& (255 : Int32)).toUInt32.toUInt16.toUInt32.toInt32)), .unset, .unset, .unset] [(.int (2 : Int32))])) _
    refine XS.iload X0.here hx rfl (hb hby at_42) rfl ?_
    show Steps p.tables e below (s₁.setTop (mkF m 44 #[.val (.int p1), .val (.int p2), .val (.int p3), .val (.int p4), .val (.int p5), .val (.int (2 : Int32)), .val (.int ((p2 &&& (255 : Int32)).toUInt32.toUInt16.toUInt32.toInt32)), .val (.int ((p3 &&& (255 : Int32)).toUInt32.toUInt16.toUInt32.toInt32)), .val (.int ((p4 &&& (255 : Int32)).toUInt32.toUInt16.toUInt32.toInt32)), .val (.int ((p5 &&& (255 : Int32)).toUInt32.toUInt16.toUInt32.toInt32)), .unset, .unset, .unset] [(.int ((p2 &&& (255 : Int32)).toUInt32.toUInt16.toUInt32.toInt32)), (.int (2 : Int32))])) _
    refine XS.iload X0.here hx rfl (hb hby at_44) rfl ?_
    show Steps p.tables e below (s₁.setTop (mkF m 46 #[.val (.int p1), .val (.int p2), .val (.int p3), .val (.int p4), .val (.int p5), .val (.int (2 : Int32)), .val (.int ((p2 &&& (255 : Int32)).toUInt32.toUInt16.toUInt32.toInt32)), .val (.int ((p3 &&& (255 : Int32)).toUInt32.toUInt16.toUInt32.toInt32)), .val (.int ((p4 &&& (255 : Int32)).toUInt32.toUInt16.toUInt32.toInt32)), .val (.int ((p5 &&& (255 : Int32)).toUInt32.toUInt16.toUInt32.toInt32)), .unset, .unset, .unset] [(.int ((p3 &&& (255 : Int32)).toUInt32.toUInt16.toUInt32.toInt32)), (.int ((p2 &&& (255 : Int32)).toUInt32.toUInt16.toUInt32.toInt32)), (.int (2 : Int32))])) _
    refine XS.iload X0.here hx rfl (hb hby at_46) rfl ?_
    show Steps p.tables e below (s₁.setTop (mkF m 48 #[.val (.int p1), .val (.int p2), .val (.int p3), .val (.int p4), .val (.int p5), .val (.int (2 : Int32)), .val (.int ((p2 &&& (255 : Int32)).toUInt32.toUInt16.toUInt32.toInt32)), .val (.int ((p3 &&& (255 : Int32)).toUInt32.toUInt16.toUInt32.toInt32)), .val (.int ((p4 &&& (255 : Int32)).toUInt32.toUInt16.toUInt32.toInt32)), .val (.int ((p5 &&& (255 : Int32)).toUInt32.toUInt16.toUInt32.toInt32)), .unset, .unset, .unset] [(.int ((p4 &&& (255 : Int32)).toUInt32.toUInt16.toUInt32.toInt32)), (.int ((p3 &&& (255 : Int32)).toUInt32.toUInt16.toUInt32.toInt32)), (.int ((p2 &&& (255 : Int32)).toUInt32.toUInt16.toUInt32.toInt32)), (.int (2 : Int32))])) _
    refine XS.iload X0.here hx rfl (hb hby at_48) rfl ?_
    show Steps p.tables e below (s₁.setTop (mkF m 50 #[.val (.int p1), .val (.int p2), .val (.int p3), .val (.int p4), .val (.int p5), .val (.int (2 : Int32)), .val (.int ((p2 &&& (255 : Int32)).toUInt32.toUInt16.toUInt32.toInt32)), .val (.int ((p3 &&& (255 : Int32)).toUInt32.toUInt16.toUInt32.toInt32)), .val (.int ((p4 &&& (255 : Int32)).toUInt32.toUInt16.toUInt32.toInt32)), .val (.int ((p5 &&& (255 : Int32)).toUInt32.toUInt16.toUInt32.toInt32)), .unset, .unset, .unset] [(.int ((p5 &&& (255 : Int32)).toUInt32.toUInt16.toUInt32.toInt32)), (.int ((p4 &&& (255 : Int32)).toUInt32.toUInt16.toUInt32.toInt32)), (.int ((p3 &&& (255 : Int32)).toUInt32.toUInt16.toUInt32.toInt32)), (.int ((p2 &&& (255 : Int32)).toUInt32.toUInt16.toUInt32.toInt32)), (.int (2 : Int32))])) _
    refine st7 _ ?_
    show Steps p.tables e below (T7.setTop (mkF m 53 #[.val (.int p1), .val (.int p2), .val (.int p3), .val (.int p4), .val (.int p5), .val (.int (2 : Int32)), .val (.int ((p2 &&& (255 : Int32)).toUInt32.toUInt16.toUInt32.toInt32)), .val (.int ((p3 &&& (255 : Int32)).toUInt32.toUInt16.toUInt32.toInt32)), .val (.int ((p4 &&& (255 : Int32)).toUInt32.toUInt16.toUInt32.toInt32)), .val (.int ((p5 &&& (255 : Int32)).toUInt32.toUInt16.toUInt32.toInt32)), .unset, .unset, .unset] [(.ref b8)])) _
    refine XS.astore X7.here hx rfl (hb hby at_53) rfl rfl (l' := #[.val (.int p1), .val (.int p2), .val (.int p3), .val (.int p4), .val (.int p5), .val (.int (2 : Int32)), .val (.int ((p2 &&& (255 : Int32)).toUInt32.toUInt16.toUInt32.toInt32)), .val (.int ((p3 &&& (255 : Int32)).toUInt32.toUInt16.toUInt32.toInt32)), .val (.int ((p4 &&& (255 : Int32)).toUInt32.toUInt16.toUInt32.toInt32)), .val (.int ((p5 &&& (255 : Int32)).toUInt32.toUInt16.toUInt32.toInt32)), .val (.ref b8), .unset, .unset]) rfl ?_
    show Steps p.tables e below (T7.setTop (mkF m 55 #[.val (.int p1), .val (.int p2), .val (.int p3), .val (.int p4), .val (.int p5), .val (.int (2 : Int32)), .val (.int ((p2 &&& (255 : Int32)).toUInt32.toUInt16.toUInt32.toInt32)), .val (.int ((p3 &&& (255 : Int32)).toUInt32.toUInt16.toUInt32.toInt32)), .val (.int ((p4 &&& (255 : Int32)).toUInt32.toUInt16.toUInt32.toInt32)), .val (.int ((p5 &&& (255 : Int32)).toUInt32.toUInt16.toUInt32.toInt32)), .val (.ref b8), .unset, .unset] [])) _
    refine XS.aload X7.here hx rfl (hb hby at_55) rfl rfl ?_
    show Steps p.tables e below (T7.setTop (mkF m 57 #[.val (.int p1), .val (.int p2), .val (.int p3), .val (.int p4), .val (.int p5), .val (.int (2 : Int32)), .val (.int ((p2 &&& (255 : Int32)).toUInt32.toUInt16.toUInt32.toInt32)), .val (.int ((p3 &&& (255 : Int32)).toUInt32.toUInt16.toUInt32.toInt32)), .val (.int ((p4 &&& (255 : Int32)).toUInt32.toUInt16.toUInt32.toInt32)), .val (.int ((p5 &&& (255 : Int32)).toUInt32.toUInt16.toUInt32.toInt32)), .val (.ref b8), .unset, .unset] [(.ref b8)])) _
    refine st14 _ ?_
    show Steps p.tables e below (T14.setTop (mkF m 60 #[.val (.int p1), .val (.int p2), .val (.int p3), .val (.int p4), .val (.int p5), .val (.int (2 : Int32)), .val (.int ((p2 &&& (255 : Int32)).toUInt32.toUInt16.toUInt32.toInt32)), .val (.int ((p3 &&& (255 : Int32)).toUInt32.toUInt16.toUInt32.toInt32)), .val (.int ((p4 &&& (255 : Int32)).toUInt32.toUInt16.toUInt32.toInt32)), .val (.int ((p5 &&& (255 : Int32)).toUInt32.toUInt16.toUInt32.toInt32)), .val (.ref b8), .unset, .unset] [(.ref b15)])) _
    refine XS.astore X14.here hx rfl (hb hby at_60) rfl rfl (l' := #[.val (.int p1), .val (.int p2), .val (.int p3), .val (.int p4), .val (.int p5), .val (.int (2 : Int32)), .val (.int ((p2 &&& (255 : Int32)).toUInt32.toUInt16.toUInt32.toInt32)), .val (.int ((p3 &&& (255 : Int32)).toUInt32.toUInt16.toUInt32.toInt32)), .val (.int ((p4 &&& (255 : Int32)).toUInt32.toUInt16.toUInt32.toInt32)), .val (.int ((p5 &&& (255 : Int32)).toUInt32.toUInt16.toUInt32.toInt32)), .val (.ref b8), .val (.ref b15), .unset]) rfl ?_
    show Steps p.tables e below (T14.setTop (mkF m 62 #[.val (.int p1), .val (.int p2), .val (.int p3), .val (.int p4), .val (.int p5), .val (.int (2 : Int32)), .val (.int ((p2 &&& (255 : Int32)).toUInt32.toUInt16.toUInt32.toInt32)), .val (.int ((p3 &&& (255 : Int32)).toUInt32.toUInt16.toUInt32.toInt32)), .val (.int ((p4 &&& (255 : Int32)).toUInt32.toUInt16.toUInt32.toInt32)), .val (.int ((p5 &&& (255 : Int32)).toUInt32.toUInt16.toUInt32.toInt32)), .val (.ref b8), .val (.ref b15), .unset] [])) _
    refine XS.aload X14.here hx rfl (hb hby at_62) rfl rfl ?_
    show Steps p.tables e below (T14.setTop (mkF m 64 #[.val (.int p1), .val (.int p2), .val (.int p3), .val (.int p4), .val (.int p5), .val (.int (2 : Int32)), .val (.int ((p2 &&& (255 : Int32)).toUInt32.toUInt16.toUInt32.toInt32)), .val (.int ((p3 &&& (255 : Int32)).toUInt32.toUInt16.toUInt32.toInt32)), .val (.int ((p4 &&& (255 : Int32)).toUInt32.toUInt16.toUInt32.toInt32)), .val (.int ((p5 &&& (255 : Int32)).toUInt32.toUInt16.toUInt32.toInt32)), .val (.ref b8), .val (.ref b15), .unset] [(.ref b15)])) _
    refine st18.trans ?_
    show Steps p.tables e below (T18.setTop (mkF m 67 #[.val (.int p1), .val (.int p2), .val (.int p3), .val (.int p4), .val (.int p5), .val (.int (2 : Int32)), .val (.int ((p2 &&& (255 : Int32)).toUInt32.toUInt16.toUInt32.toInt32)), .val (.int ((p3 &&& (255 : Int32)).toUInt32.toUInt16.toUInt32.toInt32)), .val (.int ((p4 &&& (255 : Int32)).toUInt32.toUInt16.toUInt32.toInt32)), .val (.int ((p5 &&& (255 : Int32)).toUInt32.toUInt16.toUInt32.toInt32)), .val (.ref b8), .val (.ref b15), .unset] [(.ref b8)])) _
    refine XS.astore X18.here hx rfl (hb hby at_67) rfl rfl (l' := #[.val (.int p1), .val (.int p2), .val (.int p3), .val (.int p4), .val (.int p5), .val (.int (2 : Int32)), .val (.int ((p2 &&& (255 : Int32)).toUInt32.toUInt16.toUInt32.toInt32)), .val (.int ((p3 &&& (255 : Int32)).toUInt32.toUInt16.toUInt32.toInt32)), .val (.int ((p4 &&& (255 : Int32)).toUInt32.toUInt16.toUInt32.toInt32)), .val (.int ((p5 &&& (255 : Int32)).toUInt32.toUInt16.toUInt32.toInt32)), .val (.ref b8), .val (.ref b15), .val (.ref b8)]) rfl ?_
    show Steps p.tables e below (T18.setTop (mkF m 69 #[.val (.int p1), .val (.int p2), .val (.int p3), .val (.int p4), .val (.int p5), .val (.int (2 : Int32)), .val (.int ((p2 &&& (255 : Int32)).toUInt32.toUInt16.toUInt32.toInt32)), .val (.int ((p3 &&& (255 : Int32)).toUInt32.toUInt16.toUInt32.toInt32)), .val (.int ((p4 &&& (255 : Int32)).toUInt32.toUInt16.toUInt32.toInt32)), .val (.int ((p5 &&& (255 : Int32)).toUInt32.toUInt16.toUInt32.toInt32)), .val (.ref b8), .val (.ref b15), .val (.ref b8)] [])) _
    refine XS.aload X18.here hx rfl (hb hby at_69) rfl rfl ?_
    show Steps p.tables e below (T18.setTop (mkF m 71 #[.val (.int p1), .val (.int p2), .val (.int p3), .val (.int p4), .val (.int p5), .val (.int (2 : Int32)), .val (.int ((p2 &&& (255 : Int32)).toUInt32.toUInt16.toUInt32.toInt32)), .val (.int ((p3 &&& (255 : Int32)).toUInt32.toUInt16.toUInt32.toInt32)), .val (.int ((p4 &&& (255 : Int32)).toUInt32.toUInt16.toUInt32.toInt32)), .val (.int ((p5 &&& (255 : Int32)).toUInt32.toUInt16.toUInt32.toInt32)), .val (.ref b8), .val (.ref b15), .val (.ref b8)] [(.ref b8)])) _
    refine st21.trans ?_
    show Steps p.tables e below (T21.setTop (mkF m 74 #[.val (.int p1), .val (.int p2), .val (.int p3), .val (.int p4), .val (.int p5), .val (.int (2 : Int32)), .val (.int ((p2 &&& (255 : Int32)).toUInt32.toUInt16.toUInt32.toInt32)), .val (.int ((p3 &&& (255 : Int32)).toUInt32.toUInt16.toUInt32.toInt32)), .val (.int ((p4 &&& (255 : Int32)).toUInt32.toUInt16.toUInt32.toInt32)), .val (.int ((p5 &&& (255 : Int32)).toUInt32.toUInt16.toUInt32.toInt32)), .val (.ref b8), .val (.ref b15), .val (.ref b8)] [(.int (2 : Int32))])) _
    refine XS.iload X21.here hx rfl (hb hby at_74) rfl ?_
    show Steps p.tables e below (T21.setTop (mkF m 76 #[.val (.int p1), .val (.int p2), .val (.int p3), .val (.int p4), .val (.int p5), .val (.int (2 : Int32)), .val (.int ((p2 &&& (255 : Int32)).toUInt32.toUInt16.toUInt32.toInt32)), .val (.int ((p3 &&& (255 : Int32)).toUInt32.toUInt16.toUInt32.toInt32)), .val (.int ((p4 &&& (255 : Int32)).toUInt32.toUInt16.toUInt32.toInt32)), .val (.int ((p5 &&& (255 : Int32)).toUInt32.toUInt16.toUInt32.toInt32)), .val (.ref b8), .val (.ref b15), .val (.ref b8)] [(.int (2 : Int32)), (.int (2 : Int32))])) _
    refine XS.icmpYes X21.here hx rfl (pc0 := 76) (pc' := 81) rfl (hb hby at_76) rfl (teq (by decide : (2 : Int32) = (2 : Int32))).1 (by decide) (by decide) ?_
    show Steps p.tables e below (T21.setTop (mkF m 81 #[.val (.int p1), .val (.int p2), .val (.int p3), .val (.int p4), .val (.int p5), .val (.int (2 : Int32)), .val (.int ((p2 &&& (255 : Int32)).toUInt32.toUInt16.toUInt32.toInt32)), .val (.int ((p3 &&& (255 : Int32)).toUInt32.toUInt16.toUInt32.toInt32)), .val (.int ((p4 &&& (255 : Int32)).toUInt32.toUInt16.toUInt32.toInt32)), .val (.int ((p5 &&& (255 : Int32)).toUInt32.toUInt16.toUInt32.toInt32)), .val (.ref b8), .val (.ref b15), .val (.ref b8)] [])) _
    refine XS.aload X21.here hx rfl (hb hby at_81) rfl rfl ?_
    show Steps p.tables e below (T21.setTop (mkF m 83 #[.val (.int p1), .val (.int p2), .val (.int p3), .val (.int p4), .val (.int p5), .val (.int (2 : Int32)), .val (.int ((p2 &&& (255 : Int32)).toUInt32.toUInt16.toUInt32.toInt32)), .val (.int ((p3 &&& (255 : Int32)).toUInt32.toUInt16.toUInt32.toInt32)), .val (.int ((p4 &&& (255 : Int32)).toUInt32.toUInt16.toUInt32.toInt32)), .val (.int ((p5 &&& (255 : Int32)).toUInt32.toUInt16.toUInt32.toInt32)), .val (.ref b8), .val (.ref b15), .val (.ref b8)] [(.ref b8)])) _
    refine XS.iconst X21.here hx rfl (hb hby at_83) ?_
    show Steps p.tables e below (T21.setTop (mkF m 84 #[.val (.int p1), .val (.int p2), .val (.int p3), .val (.int p4), .val (.int p5), .val (.int (2 : Int32)), .val (.int ((p2 &&& (255 : Int32)).toUInt32.toUInt16.toUInt32.toInt32)), .val (.int ((p3 &&& (255 : Int32)).toUInt32.toUInt16.toUInt32.toInt32)), .val (.int ((p4 &&& (255 : Int32)).toUInt32.toUInt16.toUInt32.toInt32)), .val (.int ((p5 &&& (255 : Int32)).toUInt32.toUInt16.toUInt32.toInt32)), .val (.ref b8), .val (.ref b15), .val (.ref b8)] [(.int (0 : Int32)), (.ref b8)])) _
    refine st25.trans ?_
    show Steps p.tables e below (T25.setTop (mkF m 87 #[.val (.int p1), .val (.int p2), .val (.int p3), .val (.int p4), .val (.int p5), .val (.int (2 : Int32)), .val (.int ((p2 &&& (255 : Int32)).toUInt32.toUInt16.toUInt32.toInt32)), .val (.int ((p3 &&& (255 : Int32)).toUInt32.toUInt16.toUInt32.toInt32)), .val (.int ((p4 &&& (255 : Int32)).toUInt32.toUInt16.toUInt32.toInt32)), .val (.int ((p5 &&& (255 : Int32)).toUInt32.toUInt16.toUInt32.toInt32)), .val (.ref b8), .val (.ref b15), .val (.ref b8)] [(.int ((p2 &&& (255 : Int32)).toUInt32.toUInt16.toUInt32.toInt32).toUInt32.toUInt16.toUInt32.toInt32)])) _
    refine XS.iload X25.here hx rfl (hb hby at_87) rfl ?_
    show Steps p.tables e below (T25.setTop (mkF m 89 #[.val (.int p1), .val (.int p2), .val (.int p3), .val (.int p4), .val (.int p5), .val (.int (2 : Int32)), .val (.int ((p2 &&& (255 : Int32)).toUInt32.toUInt16.toUInt32.toInt32)), .val (.int ((p3 &&& (255 : Int32)).toUInt32.toUInt16.toUInt32.toInt32)), .val (.int ((p4 &&& (255 : Int32)).toUInt32.toUInt16.toUInt32.toInt32)), .val (.int ((p5 &&& (255 : Int32)).toUInt32.toUInt16.toUInt32.toInt32)), .val (.ref b8), .val (.ref b15), .val (.ref b8)] [(.int ((p2 &&& (255 : Int32)).toUInt32.toUInt16.toUInt32.toInt32)), (.int ((p2 &&& (255 : Int32)).toUInt32.toUInt16.toUInt32.toInt32).toUInt32.toUInt16.toUInt32.toInt32)])) _
    refine XS.icmpYes X25.here hx rfl (pc0 := 89) (pc' := 94) rfl (hb hby at_89) rfl (teq hc89).1 (by decide) (by decide) ?_
    show Steps p.tables e below (T25.setTop (mkF m 94 #[.val (.int p1), .val (.int p2), .val (.int p3), .val (.int p4), .val (.int p5), .val (.int (2 : Int32)), .val (.int ((p2 &&& (255 : Int32)).toUInt32.toUInt16.toUInt32.toInt32)), .val (.int ((p3 &&& (255 : Int32)).toUInt32.toUInt16.toUInt32.toInt32)), .val (.int ((p4 &&& (255 : Int32)).toUInt32.toUInt16.toUInt32.toInt32)), .val (.int ((p5 &&& (255 : Int32)).toUInt32.toUInt16.toUInt32.toInt32)), .val (.ref b8), .val (.ref b15), .val (.ref b8)] [])) _
    refine XS.aload X25.here hx rfl (hb hby at_94) rfl rfl ?_
    show Steps p.tables e below (T25.setTop (mkF m 96 #[.val (.int p1), .val (.int p2), .val (.int p3), .val (.int p4), .val (.int p5), .val (.int (2 : Int32)), .val (.int ((p2 &&& (255 : Int32)).toUInt32.toUInt16.toUInt32.toInt32)), .val (.int ((p3 &&& (255 : Int32)).toUInt32.toUInt16.toUInt32.toInt32)), .val (.int ((p4 &&& (255 : Int32)).toUInt32.toUInt16.toUInt32.toInt32)), .val (.int ((p5 &&& (255 : Int32)).toUInt32.toUInt16.toUInt32.toInt32)), .val (.ref b8), .val (.ref b15), .val (.ref b8)] [(.ref b8)])) _
    refine XS.aload X25.here hx rfl (hb hby at_96) rfl rfl ?_
    show Steps p.tables e below (T25.setTop (mkF m 98 #[.val (.int p1), .val (.int p2), .val (.int p3), .val (.int p4), .val (.int p5), .val (.int (2 : Int32)), .val (.int ((p2 &&& (255 : Int32)).toUInt32.toUInt16.toUInt32.toInt32)), .val (.int ((p3 &&& (255 : Int32)).toUInt32.toUInt16.toUInt32.toInt32)), .val (.int ((p4 &&& (255 : Int32)).toUInt32.toUInt16.toUInt32.toInt32)), .val (.int ((p5 &&& (255 : Int32)).toUInt32.toUInt16.toUInt32.toInt32)), .val (.ref b8), .val (.ref b15), .val (.ref b8)] [(.ref b8), (.ref b8)])) _
    refine st26.trans ?_
    show Steps p.tables e below (T26.setTop (mkF m 101 #[.val (.int p1), .val (.int p2), .val (.int p3), .val (.int p4), .val (.int p5), .val (.int (2 : Int32)), .val (.int ((p2 &&& (255 : Int32)).toUInt32.toUInt16.toUInt32.toInt32)), .val (.int ((p3 &&& (255 : Int32)).toUInt32.toUInt16.toUInt32.toInt32)), .val (.int ((p4 &&& (255 : Int32)).toUInt32.toUInt16.toUInt32.toInt32)), .val (.int ((p5 &&& (255 : Int32)).toUInt32.toUInt16.toUInt32.toInt32)), .val (.ref b8), .val (.ref b15), .val (.ref b8)] [(.int (1 : Int32))])) _
    exact retN X26 hx (t := .boolean) Bd.returns (by simp) (hb hby at_101) hr
  · skip
    exact ⟨rfl, N26⟩
set_option maxRecDepth 65536 in
set_option maxHeartbeats 40000000 in
theorem rm0n3 (l : Launch) (Z : State) (a0 : Array Value) (hw : ∀ d ∈ tables_1, d.before a0 Z = true) (ws : List Jvm.Cond) (p1 p2 p3 p4 p5 w6 : Int32) (w11 : Addr) (w24 : Value) (h0 : Heap) (n0 : Nat) (O0 : Old Z n0 h0) (hn7 : ((p1 &&& (3 : Int32)) + (1 : Int32)) = (3 : Int32)) (S_COMPACT_STRINGS : Sta Z Z.heap "java/lang/String" "COMPACT_STRINGS" "Z" (.int w6)) (h50_hzcs : ¬ (w6 = (0 : Int32))) (h50_hch102 : ∀ c ∈ ([((p2 &&& (255 : Int32)).toUInt32.toUInt16.toUInt32.toInt32).toUInt32.toUInt16.toUInt32.toInt32, ((p3 &&& (255 : Int32)).toUInt32.toUInt16.toUInt32.toInt32).toUInt32.toUInt16.toUInt32.toInt32, ((p4 &&& (255 : Int32)).toUInt32.toUInt16.toUInt32.toInt32).toUInt32.toUInt16.toUInt32.toInt32] : List Int32), ¬ c < 0 ∧ ¬ (255 : Int32) < c) (S_EMPTY : Sta Z Z.heap "java/util/Optional" "EMPTY" "Ljava/util/Optional;" (.ref w11)) (HE_w11 : Exa Z h0 w11 "java/util/Optional") (HF_w11_value : Fld Z h0 w11 "java/util/Optional" "value" "Ljava/lang/Object;" .null) (S_SIOOBE_FORMATTER : Sta Z Z.heap "jdk/internal/util/Preconditions" "SIOOBE_FORMATTER" "Ljava/util/function/BiFunction;" w24) (hrfm : w24.isRef = true) (hc89 : ((p2 &&& (255 : Int32)).toUInt32.toUInt16.toUInt32.toInt32).toUInt32.toUInt16.toUInt32.toInt32 = ((p2 &&& (255 : Int32)).toUInt32.toUInt16.toUInt32.toInt32)) :
    own_Met l Z ws #[(.int p1), (.int p2), (.int p3), (.int p4), (.int p5)] h0 n0 := by
  refine MetFree.of_bodySF (plainFor_of_name pnc_com_example_wattle_wattle_FigureUnreadablePinLaw) hisR ?_
  intro p e s m args below meth c s₁ Bd hml0 hP hK
  obtain ⟨rfl, hZ, hh⟩ := hP
  have hx := Bd.exec
  have hby := Bd.bytes
  have hml : c.maxLocals = 13 := hml0
  have hown : s.vm.findClass "com/example/wattle/wattle/FigureUnreadablePinLaw" = some m.cls := findClass_of_methodNamed Bd.named
  have hnm := (name_of_methodNamed Bd.named Bd.method).1
  have X0 : Stand p l e room_1 s m #[(.int p1), (.int p2), (.int p3), (.int p4), (.int p5)] below meth c s₁ [] 0 0 := Stand.of_body Bd
  have e0 : s₁.heap = h0 := by rw [← hh, Bd.state]; rfl
  have N0 := Fr.nil n0
  have Z0 : n0 ≤ h0.size := O0.1 ▸ O0.2.1
  have pre0 : ∀ t, Steps p.tables e below (s₁.setTop (mkF m 0 #[.val (.int p1), .val (.int p2), .val (.int p3), .val (.int p4), .val (.int p5), .unset, .unset, .unset, .unset, .unset, .unset, .unset, .unset] [])) t → Steps p.tables e below (s₁.setTop (entryFrame m #[(.int p1), (.int p2), (.int p3), (.int p4), (.int p5)] maxLocals)) t := fun t k => castTop (ef_0 m p1 p2 p3 p4 p5) k
  obtain ⟨vr7, _, ⟨T7, L7, k7, n7⟩, -, X7, ⟨Lc7, hQ7, l7, y7, z7⟩, st7⟩ := Jvm.LawKit.callS X0 hx (y := (⟨"com/example/wattle/wattle/FigureUnreadablePinLaw", "text", "(ICCCC)Ljava/lang/String;"⟩ : MethodName)) hown (mvT hZ (hw _ (List.mem_of_getElem? (i := 0) rfl))) (mvT hZ (hw _ (List.mem_of_getElem? (i := 1) rfl))) (mvT hZ (hw _ (List.mem_of_getElem? (i := 2) rfl))) (mvT hZ (hw _ (List.mem_of_getElem? (i := 3) rfl))) (by decide) (backOf (W := 0) (rm1n3 l Z a0 hw [] (((p2 &&& (255 : Int32)).toUInt32.toUInt16.toUInt32.toInt32)) (((p3 &&& (255 : Int32)).toUInt32.toUInt16.toUInt32.toInt32)) (((p4 &&& (255 : Int32)).toUInt32.toUInt16.toUInt32.toInt32)) (((p5 &&& (255 : Int32)).toUInt32.toUInt16.toUInt32.toInt32)) w6 h0 n0 O0 S_COMPACT_STRINGS h50_hzcs h50_hch102) hZ (hw _ (List.mem_of_getElem? (i := 3) rfl)) (hw _ (List.mem_of_getElem? (i := 2) rfl)) (by decide) (by decide)) (g := (mkF m 50 #[.val (.int p1), .val (.int p2), .val (.int p3), .val (.int p4), .val (.int p5), .val (.int (3 : Int32)), .val (.int ((p2 &&& (255 : Int32)).toUInt32.toUInt16.toUInt32.toInt32)), .val (.int ((p3 &&& (255 : Int32)).toUInt32.toUInt16.toUInt32.toInt32)), .val (.int ((p4 &&& (255 : Int32)).toUInt32.toUInt16.toUInt32.toInt32)), .val (.int ((p5 &&& (255 : Int32)).toUInt32.toUInt16.toUInt32.toInt32)), .unset, .unset, .unset] [(.int ((p5 &&& (255 : Int32)).toUInt32.toUInt16.toUInt32.toInt32)), (.int ((p4 &&& (255 : Int32)).toUInt32.toUInt16.toUInt32.toInt32)), (.int ((p3 &&& (255 : Int32)).toUInt32.toUInt16.toUInt32.toInt32)), (.int ((p2 &&& (255 : Int32)).toUInt32.toUInt16.toUInt32.toInt32)), (.int (3 : Int32))])) rfl (by rw [hml]; rfl) (argsL := [(.int (3 : Int32)), (.int ((p2 &&& (255 : Int32)).toUInt32.toUInt16.toUInt32.toInt32)), (.int ((p3 &&& (255 : Int32)).toUInt32.toUInt16.toUInt32.toInt32)), (.int ((p4 &&& (255 : Int32)).toUInt32.toUInt16.toUInt32.toInt32)), (.int ((p5 &&& (255 : Int32)).toUInt32.toUInt16.toUInt32.toInt32))]) (rest := []) (lenOf pd_7 rfl) rfl (by show 2 * 0 + _ ≤ _; exact Nat.le_of_eq rfl) (hb hby at_50) (fun _ _ => ⟨rfl, e0, (by decide : 0 + 6 ≤ _), (by decide : 0 + 17 ≤ _)⟩)
  dsimp only [Pt.U, Pt.locs, Pt.cells, Pt.slots] at X7 l7 y7 z7 st7 hQ7
  subst l7 y7 z7
  obtain ⟨b8, rfl, N7q, K7, Y7_z0, Y7_0, Y7_1⟩ := hQ7
  have N7 := Fr.app N0 N7q
  replace X7 := X7.more (cells' := 6) (slots' := 17) (by decide) (by decide)
  have g_b8 : n0 ≤ b8 := Nat.le_trans (Nat.le_trans Z0 (Keep.refl h0 []).1) Y7_z0
  have sz_b8 : h0.size ≤ b8 := Nat.le_trans (Keep.refl h0 []).1 Y7_z0
  have K9 : Keep h0 T7.heap [] := (Keep.refl h0 []).trans K7 all0
  have O10 : Old Z n0 T7.heap := O0.keep K7 all0
  have f12 := (HE_w11.keep K7)
  have f13 := (HF_w11_value.keep K7 nin0)
  obtain ⟨vr14, _, ⟨T14, L14, k14, n14⟩, -, X14, ⟨Lc14, hQ14, l14, y14, z14⟩, st14⟩ := Jvm.LawKit.callS X7 hx (y := (⟨"com/example/wattle/wattle/Figure", "unreadable", "(Ljava/lang/String;)Lcom/example/wattle/wattle/Figure;"⟩ : MethodName)) hown (mvT hZ (hw _ (List.mem_of_getElem? (i := 34) rfl))) (mvT hZ (hw _ (List.mem_of_getElem? (i := 35) rfl))) (mvT hZ (hw _ (List.mem_of_getElem? (i := 36) rfl))) (mvT hZ (hw _ (List.mem_of_getElem? (i := 37) rfl))) (by decide) (backOf (W := 0) (rm8n3 l Z a0 hw [] b8 w11 (((p2 &&& (255 : Int32)).toUInt32.toUInt16.toUInt32.toInt32).toUInt32.toUInt16.toUInt32.toInt32) (((p3 &&& (255 : Int32)).toUInt32.toUInt16.toUInt32.toInt32).toUInt32.toUInt16.toUInt32.toInt32) (((p4 &&& (255 : Int32)).toUInt32.toUInt16.toUInt32.toInt32).toUInt32.toUInt16.toUInt32.toInt32) T7.heap n0 O10 S_EMPTY f12 f13 (own_Str.top Y7_1)) hZ (hw _ (List.mem_of_getElem? (i := 37) rfl)) (hw _ (List.mem_of_getElem? (i := 36) rfl)) (by decide) (by decide)) (g := (mkF m 57 #[.val (.int p1), .val (.int p2), .val (.int p3), .val (.int p4), .val (.int p5), .val (.int (3 : Int32)), .val (.int ((p2 &&& (255 : Int32)).toUInt32.toUInt16.toUInt32.toInt32)), .val (.int ((p3 &&& (255 : Int32)).toUInt32.toUInt16.toUInt32.toInt32)), .val (.int ((p4 &&& (255 : Int32)).toUInt32.toUInt16.toUInt32.toInt32)), .val (.int ((p5 &&& (255 : Int32)).toUInt32.toUInt16.toUInt32.toInt32)), .val (.ref b8), .unset, .unset] [(.ref b8)])) rfl (by rw [hml]; rfl) (argsL := [(.ref b8)]) (rest := []) (lenOf pd_11 rfl) rfl (by show 2 * 0 + _ ≤ _; exact Nat.le_of_eq rfl) (hb hby at_57) (fun _ _ => ⟨rfl, rfl, (by decide : 6 + 1 ≤ _), (by decide : 17 + 2 ≤ _)⟩)
  dsimp only [Pt.U, Pt.locs, Pt.cells, Pt.slots] at X14 l14 y14 z14 st14 hQ14
  subst l14 y14 z14
  obtain ⟨b15, rfl, N14q, K14, Y14_z0, Y14_0, Y14_1, Y14_2⟩ := hQ14
  have N14 := Fr.app N7 N14q
  replace X14 := X14.more (cells' := 7) (slots' := 19) (by decide) (by decide)
  have g_b15 : n0 ≤ b15 := Nat.le_trans (Nat.le_trans Z0 K9.1) Y14_z0
  have sz_b15 : h0.size ≤ b15 := Nat.le_trans K9.1 Y14_z0
  have K16 : Keep h0 T14.heap [] := K9.trans K14 all0
  have O17 : Old Z n0 T14.heap := O10.keep K14 all0
  obtain ⟨cq18, kq18, q18a, q18b, q18c⟩ := isOf hZ rfl Y14_0
  obtain ⟨vr18, _, ⟨T18, L18, k18, n18⟩, -, X18, ⟨Lc18, hQ18, l18, y18, z18⟩, st18⟩ := X14.virtualBack hx (y := (⟨"com/example/wattle/wattle/Figure", "shown", "()Ljava/lang/String;"⟩ : MethodName)) (z := (⟨"com/example/wattle/wattle/Figure", "shown", "()Ljava/lang/String;"⟩ : MethodName)) hown (mvT hZ (hw _ (List.mem_of_getElem? (i := 70) rfl))) (mvT hZ (hw _ (List.mem_of_getElem? (i := 71) rfl))) (notFace_of_selects (args := #[]) (mvT hZ (hw _ (List.mem_of_getElem? (i := 73) rfl)))) (mvT hZ (hw _ (List.mem_of_getElem? (i := 73) rfl))) (mvT hZ (hw _ (List.mem_of_getElem? (i := 72) rfl))) (by decide) (backOf (W := 0) (rm14 l Z a0 hw [] b15 b8 T14.heap n0 O17 Y14_1) hZ (hw _ (List.mem_of_getElem? (i := 74) rfl)) (hw _ (List.mem_of_getElem? (i := 36) rfl)) (by decide) (by decide)) q18a q18c (g := (mkF m 64 #[.val (.int p1), .val (.int p2), .val (.int p3), .val (.int p4), .val (.int p5), .val (.int (3 : Int32)), .val (.int ((p2 &&& (255 : Int32)).toUInt32.toUInt16.toUInt32.toInt32)), .val (.int ((p3 &&& (255 : Int32)).toUInt32.toUInt16.toUInt32.toInt32)), .val (.int ((p4 &&& (255 : Int32)).toUInt32.toUInt16.toUInt32.toInt32)), .val (.int ((p5 &&& (255 : Int32)).toUInt32.toUInt16.toUInt32.toInt32)), .val (.ref b8), .val (.ref b15), .unset] [(.ref b15)])) rfl (by rw [hml]; rfl) (Steps.refl _) (argsL := []) (rest := []) (lenOf pd_2 rfl) rfl (by show 2 * 0 + _ ≤ _; exact Nat.le_of_eq rfl) (hb hby at_64) (fun _ _ => ⟨rfl, rfl, (by decide : 7 + 0 ≤ _), (by decide : 19 + 0 ≤ _)⟩)
  dsimp only [Pt.U, Pt.locs, Pt.cells, Pt.slots] at X18 l18 y18 z18 st18 hQ18
  subst l18 y18 z18
  obtain ⟨rfl, N18q, e18⟩ := hQ18
  have N18 := Fr.app N14 N18q
  replace X18 := X18.more (cells' := 7) (slots' := 19) (by decide) (by decide)
  have f19 := (own_Str.keep Y7_1 K14 all0)
  obtain ⟨⟨tx20, tl20, tp20⟩, ty20, tk20, tt20, tE20, tV20, tC20, tA20⟩ := id f19
  have f22 := ((own_Str.exa Y7_1).keep K14)
  obtain ⟨cq21, kq21, q21a, q21b, q21c⟩ := isOf hZ e18 f22
  obtain ⟨vr21, _, ⟨T21, L21, k21, n21⟩, -, X21, ⟨Lc21, hQ21, l21, y21, z21⟩, st21⟩ := X18.virtualBack hx (y := (⟨"java/lang/String", "length", "()I"⟩ : MethodName)) (z := (⟨"java/lang/String", "length", "()I"⟩ : MethodName)) hown (mvT hZ (hw _ (List.mem_of_getElem? (i := 75) rfl))) (mvT hZ (hw _ (List.mem_of_getElem? (i := 76) rfl))) (notFace_of_selects (args := #[]) (mvT hZ (hw _ (List.mem_of_getElem? (i := 78) rfl)))) (mvT hZ (hw _ (List.mem_of_getElem? (i := 78) rfl))) (mvT hZ (hw _ (List.mem_of_getElem? (i := 77) rfl))) (by decide) (StrChars.Road.lenW (W := 0) hZ (fun d hd => hw d (own_in_wordsLen d hd)) (kI := 4) (hw _ (List.mem_of_getElem? (i := 6) rfl)) tE20 tV20 tC20 tA20 (StrChars.Road.codOf (cs := [((p2 &&& (255 : Int32)).toUInt32.toUInt16.toUInt32.toInt32).toUInt32.toUInt16.toUInt32.toInt32, ((p3 &&& (255 : Int32)).toUInt32.toUInt16.toUInt32.toInt32).toUInt32.toUInt16.toUInt32.toInt32, ((p4 &&& (255 : Int32)).toUInt32.toUInt16.toUInt32.toInt32).toUInt32.toUInt16.toUInt32.toInt32]) (n := ([((p2 &&& (255 : Int32)).toUInt32.toUInt16.toUInt32.toInt32).toUInt32.toUInt16.toUInt32.toInt32, ((p3 &&& (255 : Int32)).toUInt32.toUInt16.toUInt32.toInt32).toUInt32.toUInt16.toUInt32.toInt32, ((p4 &&& (255 : Int32)).toUInt32.toUInt16.toUInt32.toInt32).toUInt32.toUInt16.toUInt32.toInt32] : List Int32).length) rfl (fun c hc => (tp20 c hc).2)) (own_up tp20) (S_COMPACT_STRINGS.ext O17.2) h50_hzcs tl20 (by decide) (by decide)) q21a q21c (g := (mkF m 71 #[.val (.int p1), .val (.int p2), .val (.int p3), .val (.int p4), .val (.int p5), .val (.int (3 : Int32)), .val (.int ((p2 &&& (255 : Int32)).toUInt32.toUInt16.toUInt32.toInt32)), .val (.int ((p3 &&& (255 : Int32)).toUInt32.toUInt16.toUInt32.toInt32)), .val (.int ((p4 &&& (255 : Int32)).toUInt32.toUInt16.toUInt32.toInt32)), .val (.int ((p5 &&& (255 : Int32)).toUInt32.toUInt16.toUInt32.toInt32)), .val (.ref b8), .val (.ref b15), .val (.ref b8)] [(.ref b8)])) rfl (by rw [hml]; rfl) (Steps.refl _) (argsL := []) (rest := []) (lenOf pd_1 rfl) rfl (by show 2 * 0 + _ ≤ _; exact Nat.le_of_eq rfl) (hb hby at_71) (fun _ _ => ⟨rfl, e18, (by decide : 7 + 0 ≤ _), (by decide : 19 + 0 ≤ _)⟩)
  dsimp only [Pt.U, Pt.locs, Pt.cells, Pt.slots] at X21 l21 y21 z21 st21 hQ21
  subst l21 y21 z21
  obtain ⟨rfl, rfl, e21⟩ := hQ21
  have N21 := Fr.app N18 (Fr.nil n0)
  replace X21 := X21.more (cells' := 7) (slots' := 19) (by decide) (by decide)
  obtain ⟨⟨tx23, tl23, tp23⟩, ty23, tk23, tt23, tE23, tV23, tC23, tA23⟩ := id f19
  obtain ⟨cq25, kq25, q25a, q25b, q25c⟩ := isOf hZ e21 f22
  obtain ⟨vr25, _, ⟨T25, L25, k25, n25⟩, -, X25, ⟨Lc25, hQ25, l25, y25, z25⟩, st25⟩ := X21.virtualBack hx (y := (⟨"java/lang/String", "charAt", "(I)C"⟩ : MethodName)) (z := (⟨"java/lang/String", "charAt", "(I)C"⟩ : MethodName)) hown (mvT hZ (hw _ (List.mem_of_getElem? (i := 85) rfl))) (mvT hZ (hw _ (List.mem_of_getElem? (i := 86) rfl))) (notFace_of_selects (args := #[]) (mvT hZ (hw _ (List.mem_of_getElem? (i := 88) rfl)))) (mvT hZ (hw _ (List.mem_of_getElem? (i := 88) rfl))) (mvT hZ (hw _ (List.mem_of_getElem? (i := 87) rfl))) (by decide) (StrChars.Road.chN (W := 0) hZ (fun d hd => hw d (own_in_wordsChN d hd)) (kI := 4) (hw _ (List.mem_of_getElem? (i := 6) rfl)) tE23 tV23 tC23 tA23 (StrChars.Road.codOf (cs := [((p2 &&& (255 : Int32)).toUInt32.toUInt16.toUInt32.toInt32).toUInt32.toUInt16.toUInt32.toInt32, ((p3 &&& (255 : Int32)).toUInt32.toUInt16.toUInt32.toInt32).toUInt32.toUInt16.toUInt32.toInt32, ((p4 &&& (255 : Int32)).toUInt32.toUInt16.toUInt32.toInt32).toUInt32.toUInt16.toUInt32.toInt32]) (n := ([((p2 &&& (255 : Int32)).toUInt32.toUInt16.toUInt32.toInt32).toUInt32.toUInt16.toUInt32.toInt32, ((p3 &&& (255 : Int32)).toUInt32.toUInt16.toUInt32.toInt32).toUInt32.toUInt16.toUInt32.toInt32, ((p4 &&& (255 : Int32)).toUInt32.toUInt16.toUInt32.toInt32).toUInt32.toUInt16.toUInt32.toInt32] : List Int32).length) rfl (fun c hc => (tp23 c hc).2)) (own_up tp23) (S_COMPACT_STRINGS.ext O17.2) h50_hzcs (S_SIOOBE_FORMATTER.ext O17.2) hrfm tl23 (i := 0) (Nat.le_of_ble_eq_true rfl) (j := (0 : Int32)) rfl (by decide) (by decide)) q25a q25c (g := (mkF m 84 #[.val (.int p1), .val (.int p2), .val (.int p3), .val (.int p4), .val (.int p5), .val (.int (3 : Int32)), .val (.int ((p2 &&& (255 : Int32)).toUInt32.toUInt16.toUInt32.toInt32)), .val (.int ((p3 &&& (255 : Int32)).toUInt32.toUInt16.toUInt32.toInt32)), .val (.int ((p4 &&& (255 : Int32)).toUInt32.toUInt16.toUInt32.toInt32)), .val (.int ((p5 &&& (255 : Int32)).toUInt32.toUInt16.toUInt32.toInt32)), .val (.ref b8), .val (.ref b15), .val (.ref b8)] [(.int (0 : Int32)), (.ref b8)])) rfl (by rw [hml]; rfl) (Steps.refl _) (argsL := [(.int (0 : Int32))]) (rest := []) (lenOf pd_6 rfl) rfl (by show 2 * 0 + _ ≤ _; exact Nat.le_of_eq rfl) (hb hby at_84) (fun _ _ => ⟨rfl, e21, (by decide : 7 + 0 ≤ _), (by decide : 19 + 0 ≤ _)⟩)
  dsimp only [Pt.U, Pt.locs, Pt.cells, Pt.slots] at X25 l25 y25 z25 st25 hQ25
  subst l25 y25 z25
  obtain ⟨rfl, rfl, e25⟩ := hQ25
  have N25 := Fr.app N21 (Fr.nil n0)
  replace X25 := X25.more (cells' := 7) (slots' := 19) (by decide) (by decide)
  obtain ⟨cq26, kq26, q26a, q26b, q26c⟩ := isOf hZ e25 f22
  obtain ⟨vr26, _, ⟨T26, L26, k26, n26⟩, -, X26, ⟨Lc26, hQ26, l26, y26, z26⟩, st26⟩ := X25.virtualBack hx (y := (⟨"java/lang/String", "equals", "(Ljava/lang/Object;)Z"⟩ : MethodName)) (z := (⟨"java/lang/String", "equals", "(Ljava/lang/Object;)Z"⟩ : MethodName)) hown (mvT hZ (hw _ (List.mem_of_getElem? (i := 107) rfl))) (mvT hZ (hw _ (List.mem_of_getElem? (i := 108) rfl))) (notFace_of_selects (args := #[]) (mvT hZ (hw _ (List.mem_of_getElem? (i := 110) rfl)))) (mvT hZ (hw _ (List.mem_of_getElem? (i := 110) rfl))) (mvT hZ (hw _ (List.mem_of_getElem? (i := 109) rfl))) (by decide) (backOf (W := 0) (rm22 l Z a0 hw [] b8 b8 T14.heap n0 O17 (rfl : b8 = b8)) hZ (hw _ (List.mem_of_getElem? (i := 111) rfl)) (hw _ (List.mem_of_getElem? (i := 7) rfl)) (by decide) (by decide)) q26a q26c (g := (mkF m 98 #[.val (.int p1), .val (.int p2), .val (.int p3), .val (.int p4), .val (.int p5), .val (.int (3 : Int32)), .val (.int ((p2 &&& (255 : Int32)).toUInt32.toUInt16.toUInt32.toInt32)), .val (.int ((p3 &&& (255 : Int32)).toUInt32.toUInt16.toUInt32.toInt32)), .val (.int ((p4 &&& (255 : Int32)).toUInt32.toUInt16.toUInt32.toInt32)), .val (.int ((p5 &&& (255 : Int32)).toUInt32.toUInt16.toUInt32.toInt32)), .val (.ref b8), .val (.ref b15), .val (.ref b8)] [(.ref b8), (.ref b8)])) rfl (by rw [hml]; rfl) (Steps.refl _) (argsL := [(.ref b8)]) (rest := []) (lenOf pd_10 rfl) rfl (by show 2 * 0 + _ ≤ _; exact Nat.le_of_eq rfl) (hb hby at_98) (fun _ _ => ⟨rfl, e25, (by decide : 7 + 0 ≤ _), (by decide : 19 + 0 ≤ _)⟩)
  dsimp only [Pt.U, Pt.locs, Pt.cells, Pt.slots] at X26 l26 y26 z26 st26 hQ26
  subst l26 y26 z26
  obtain ⟨rfl, N26q, e26⟩ := hQ26
  have N26 := Fr.app N25 N26q
  replace X26 := X26.more (cells' := 7) (slots' := 19) (by decide) (by decide)
  obtain ⟨fs, hr, hrun, hended, hW, hsame⟩ := X26.leave (v := some (.int (1 : Int32))) (fun h => by rw [Bd.returns] at h; cases h)
  refine ⟨_, _, pre0 _ ?_, hrun, hended, _, _, rfl, ?_, ⟨_, rfl⟩, hW, hsame.mono (by decide) (by decide)⟩
  · show Steps p.tables e below (s₁.setTop (mkF m 0 #[.val (.int p1), .val (.int p2), .val (.int p3), .val (.int p4), .val (.int p5), .unset, .unset, .unset, .unset, .unset, .unset, .unset, .unset] [])) _
    refine XS.iloadN X0.here hx rfl (hb hby at_0) rfl ?_
    show Steps p.tables e below (s₁.setTop (mkF m 1 #[.val (.int p1), .val (.int p2), .val (.int p3), .val (.int p4), .val (.int p5), .unset, .unset, .unset, .unset, .unset, .unset, .unset, .unset] [(.int p1)])) _
    refine XS.iconst X0.here hx rfl (hb hby at_1) ?_
    show Steps p.tables e below (s₁.setTop (mkF m 2 #[.val (.int p1), .val (.int p2), .val (.int p3), .val (.int p4), .val (.int p5), .unset, .unset, .unset, .unset, .unset, .unset, .unset, .unset] [(.int (3 : Int32)), (.int p1)])) _
    refine XS.iand X0.here hx rfl (hb hby at_2) rfl ?_
    show Steps p.tables e below (s₁.setTop (mkF m 3 #[.val (.int p1), .val (.int p2), .val (.int p3), .val (.int p4), .val (.int p5), .unset, .unset, .unset, .unset, .unset, .unset, .unset, .unset] [(.int (p1 &&& (3 : Int32)))])) _
    refine XS.iconst X0.here hx rfl (hb hby at_3) ?_
    show Steps p.tables e below (s₁.setTop (mkF m 4 #[.val (.int p1), .val (.int p2), .val (.int p3), .val (.int p4), .val (.int p5), .unset, .unset, .unset, .unset, .unset, .unset, .unset, .unset] [(.int (1 : Int32)), (.int (p1 &&& (3 : Int32)))])) _
    refine XS.iadd X0.here hx rfl (hb hby at_4) rfl ?_
    show Steps p.tables e below (s₁.setTop (mkF m 5 #[.val (.int p1), .val (.int p2), .val (.int p3), .val (.int p4), .val (.int p5), .unset, .unset, .unset, .unset, .unset, .unset, .unset, .unset] [(.int ((p1 &&& (3 : Int32)) + (1 : Int32)))])) _
    refine XS.istore X0.here hx rfl (hb hby at_5) rfl (l' := #[.val (.int p1), .val (.int p2), .val (.int p3), .val (.int p4), .val (.int p5), .val (.int ((p1 &&& (3 : Int32)) + (1 : Int32))), .unset, .unset, .unset, .unset, .unset, .unset, .unset]) rfl ?_
    show Steps p.tables e below (s₁.setTop (mkF m 7 #[.val (.int p1), .val (.int p2), .val (.int p3), .val (.int p4), .val (.int p5), .val (.int ((p1 &&& (3 : Int32)) + (1 : Int32))), .unset, .unset, .unset, .unset, .unset, .unset, .unset] [])) _
    rw [hn7]
    show Steps p.tables e below (s₁.setTop (mkF m 7 #[.val (.int p1), .val (.int p2), .val (.int p3), .val (.int p4), .val (.int p5), .val (.int (3 : Int32)), .unset, .unset, .unset, .unset, .unset, .unset, .unset] [])) _
    refine XS.iloadN X0.here hx rfl (hb hby at_7) rfl ?_
    show Steps p.tables e below (s₁.setTop (mkF m 8 #[.val (.int p1), .val (.int p2), .val (.int p3), .val (.int p4), .val (.int p5), .val (.int (3 : Int32)), .unset, .unset, .unset, .unset, .unset, .unset, .unset] [(.int p2)])) _
    refine XS.sipush X0.here hx rfl (hb hby at_8) ?_
    show Steps p.tables e below (s₁.setTop (mkF m 11 #[.val (.int p1), .val (.int p2), .val (.int p3), .val (.int p4), .val (.int p5), .val (.int (3 : Int32)), .unset, .unset, .unset, .unset, .unset, .unset, .unset] [(.int (255 : Int32)), (.int p2)])) _
    refine XS.iand X0.here hx rfl (hb hby at_11) rfl ?_
    show Steps p.tables e below (s₁.setTop (mkF m 12 #[.val (.int p1), .val (.int p2), .val (.int p3), .val (.int p4), .val (.int p5), .val (.int (3 : Int32)), .unset, .unset, .unset, .unset, .unset, .unset, .unset] [(.int (p2 &&& (255 : Int32)))])) _
    refine XS.i2c X0.here hx rfl (hb hby at_12) rfl ?_
    show Steps p.tables e below (s₁.setTop (mkF m 13 #[.val (.int p1), .val (.int p2), .val (.int p3), .val (.int p4), .val (.int p5), .val (.int (3 : Int32)), .unset, .unset, .unset, .unset, .unset, .unset, .unset] [(.int ((p2 &&& (255 : Int32)).toUInt32.toUInt16.toUInt32.toInt32))])) _
    refine XS.istore X0.here hx rfl (hb hby at_13) rfl (l' := #[.val (.int p1), .val (.int p2), .val (.int p3), .val (.int p4), .val (.int p5), .val (.int (3 : Int32)), .val (.int ((p2 &&& (255 : Int32)).toUInt32.toUInt16.toUInt32.toInt32)), .unset, .unset, .unset, .unset, .unset, .unset]) rfl ?_
    show Steps p.tables e below (s₁.setTop (mkF m 15 #[.val (.int p1), .val (.int p2), .val (.int p3), .val (.int p4), .val (.int p5), .val (.int (3 : Int32)), .val (.int ((p2 &&& (255 : Int32)).toUInt32.toUInt16.toUInt32.toInt32)), .unset, .unset, .unset, .unset, .unset, .unset] [])) _
    refine XS.iloadN X0.here hx rfl (hb hby at_15) rfl ?_
    show Steps p.tables e below (s₁.setTop (mkF m 16 #[.val (.int p1), .val (.int p2), .val (.int p3), .val (.int p4), .val (.int p5), .val (.int (3 : Int32)), .val (.int ((p2 &&& (255 : Int32)).toUInt32.toUInt16.toUInt32.toInt32)), .unset, .unset, .unset, .unset, .unset, .unset] [(.int p3)])) _
    refine XS.sipush X0.here hx rfl (hb hby at_16) ?_
    show Steps p.tables e below (s₁.setTop (mkF m 19 #[.val (.int p1), .val (.int p2), .val (.int p3), .val (.int p4), .val (.int p5), .val (.int (3 : Int32)), .val (.int ((p2 &&& (255 : Int32)).toUInt32.toUInt16.toUInt32.toInt32)), .unset, .unset, .unset, .unset, .unset, .unset] [(.int (255 : Int32)), (.int p3)])) _
    refine XS.iand X0.here hx rfl (hb hby at_19) rfl ?_
    show Steps p.tables e below (s₁.setTop (mkF m 20 #[.val (.int p1), .val (.int p2), .val (.int p3), .val (.int p4), .val (.int p5), .val (.int (3 : Int32)), .val (.int ((p2 &&& (255 : Int32)).toUInt32.toUInt16.toUInt32.toInt32)), .unset, .unset, .unset, .unset, .unset, .unset] [(.int (p3 &&& (255 : Int32)))])) _
    refine XS.i2c X0.here hx rfl (hb hby at_20) rfl ?_
    show Steps p.tables e below (s₁.setTop (mkF m 21 #[.val (.int p1), .val (.int p2), .val (.int p3), .val (.int p4), .val (.int p5), .val (.int (3 : Int32)), .val (.int ((p2 &&& (255 : Int32)).toUInt32.toUInt16.toUInt32.toInt32)), .unset, .unset, .unset, .unset, .unset, .unset] [(.int ((p3 &&& (255 : Int32)).toUInt32.toUInt16.toUInt32.toInt32))])) _
    refine XS.istore X0.here hx rfl (hb hby at_21) rfl (l' := #[.val (.int p1), .val (.int p2), .val (.int p3), .val (.int p4), .val (.int p5), .val (.int (3 : Int32)), .val (.int ((p2 &&& (255 : Int32)).toUInt32.toUInt16.toUInt32.toInt32)), .val (.int ((p3 &&& (255 : Int32)).toUInt32.toUInt16.toUInt32.toInt32)), .unset, .unset, .unset, .unset, .unset]) rfl ?_
    show Steps p.tables e below (s₁.setTop (mkF m 23 #[.val (.int p1), .val (.int p2), .val (.int p3), .val (.int p4), .val (.int p5), .val (.int (3 : Int32)), .val (.int ((p2 &&& (255 : Int32)).toUInt32.toUInt16.toUInt32.toInt32)), .val (.int ((p3 &&& (255 : Int32)).toUInt32.toUInt16.toUInt32.toInt32)), .unset, .unset, .unset, .unset, .unset] [])) _
    refine XS.iloadN X0.here hx rfl (hb hby at_23) rfl ?_
    show Steps p.tables e below (s₁.setTop (mkF m 24 #[.val (.int p1), .val (.int p2), .val (.int p3), .val (.int p4), .val (.int p5), .val (.int (3 : Int32)), .val (.int ((p2 &&& (255 : Int32)).toUInt32.toUInt16.toUInt32.toInt32)), .val (.int ((p3 &&& (255 : Int32)).toUInt32.toUInt16.toUInt32.toInt32)), .unset, .unset, .unset, .unset, .unset] [(.int p4)])) _
    refine XS.sipush X0.here hx rfl (hb hby at_24) ?_
    show Steps p.tables e below (s₁.setTop (mkF m 27 #[.val (.int p1), .val (.int p2), .val (.int p3), .val (.int p4), .val (.int p5), .val (.int (3 : Int32)), .val (.int ((p2 &&& (255 : Int32)).toUInt32.toUInt16.toUInt32.toInt32)), .val (.int ((p3 &&& (255 : Int32)).toUInt32.toUInt16.toUInt32.toInt32)), .unset, .unset, .unset, .unset, .unset] [(.int (255 : Int32)), (.int p4)])) _
    refine XS.iand X0.here hx rfl (hb hby at_27) rfl ?_
    show Steps p.tables e below (s₁.setTop (mkF m 28 #[.val (.int p1), .val (.int p2), .val (.int p3), .val (.int p4), .val (.int p5), .val (.int (3 : Int32)), .val (.int ((p2 &&& (255 : Int32)).toUInt32.toUInt16.toUInt32.toInt32)), .val (.int ((p3 &&& (255 : Int32)).toUInt32.toUInt16.toUInt32.toInt32)), .unset, .unset, .unset, .unset, .unset] [(.int (p4 &&& (255 : Int32)))])) _
    refine XS.i2c X0.here hx rfl (hb hby at_28) rfl ?_
    show Steps p.tables e below (s₁.setTop (mkF m 29 #[.val (.int p1), .val (.int p2), .val (.int p3), .val (.int p4), .val (.int p5), .val (.int (3 : Int32)), .val (.int ((p2 &&& (255 : Int32)).toUInt32.toUInt16.toUInt32.toInt32)), .val (.int ((p3 &&& (255 : Int32)).toUInt32.toUInt16.toUInt32.toInt32)), .unset, .unset, .unset, .unset, .unset] [(.int ((p4 &&& (255 : Int32)).toUInt32.toUInt16.toUInt32.toInt32))])) _
    refine XS.istore X0.here hx rfl (hb hby at_29) rfl (l' := #[.val (.int p1), .val (.int p2), .val (.int p3), .val (.int p4), .val (.int p5), .val (.int (3 : Int32)), .val (.int ((p2 &&& (255 : Int32)).toUInt32.toUInt16.toUInt32.toInt32)), .val (.int ((p3 &&& (255 : Int32)).toUInt32.toUInt16.toUInt32.toInt32)), .val (.int ((p4 &&& (255 : Int32)).toUInt32.toUInt16.toUInt32.toInt32)), .unset, .unset, .unset, .unset]) rfl ?_
    show Steps p.tables e below (s₁.setTop (mkF m 31 #[.val (.int p1), .val (.int p2), .val (.int p3), .val (.int p4), .val (.int p5), .val (.int (3 : Int32)), .val (.int ((p2 &&& (255 : Int32)).toUInt32.toUInt16.toUInt32.toInt32)), .val (.int ((p3 &&& (255 : Int32)).toUInt32.toUInt16.toUInt32.toInt32)), .val (.int ((p4 &&& (255 : Int32)).toUInt32.toUInt16.toUInt32.toInt32)), .unset, .unset, .unset, .unset] [])) _
    refine XS.iload X0.here hx rfl (hb hby at_31) rfl ?_
    show Steps p.tables e below (s₁.setTop (mkF m 33 #[.val (.int p1), .val (.int p2), .val (.int p3), .val (.int p4), .val (.int p5), .val (.int (3 : Int32)), .val (.int ((p2 &&& (255 : Int32)).toUInt32.toUInt16.toUInt32.toInt32)), .val (.int ((p3 &&& (255 : Int32)).toUInt32.toUInt16.toUInt32.toInt32)), .val (.int ((p4 &&& (255 : Int32)).toUInt32.toUInt16.toUInt32.toInt32)), .unset, .unset, .unset, .unset] [(.int p5)])) _
    refine XS.sipush X0.here hx rfl (hb hby at_33) ?_
    show Steps p.tables e below (s₁.setTop (mkF m 36 #[.val (.int p1), .val (.int p2), .val (.int p3), .val (.int p4), .val (.int p5), .val (.int (3 : Int32)), .val (.int ((p2 &&& (255 : Int32)).toUInt32.toUInt16.toUInt32.toInt32)), .val (.int ((p3 &&& (255 : Int32)).toUInt32.toUInt16.toUInt32.toInt32)), .val (.int ((p4 &&& (255 : Int32)).toUInt32.toUInt16.toUInt32.toInt32)), .unset, .unset, .unset, .unset] [(.int (255 : Int32)), (.int p5)])) _
    refine XS.iand X0.here hx rfl (hb hby at_36) rfl ?_
    show Steps p.tables e below (s₁.setTop (mkF m 37 #[.val (.int p1), .val (.int p2), .val (.int p3), .val (.int p4), .val (.int p5), .val (.int (3 : Int32)), .val (.int ((p2 &&& (255 : Int32)).toUInt32.toUInt16.toUInt32.toInt32)), .val (.int ((p3 &&& (255 : Int32)).toUInt32.toUInt16.toUInt32.toInt32)), .val (.int ((p4 &&& (255 : Int32)).toUInt32.toUInt16.toUInt32.toInt32)), .unset, .unset, .unset, .unset] [(.int (p5 &&& (255 : Int32)))])) _
    refine XS.i2c X0.here hx rfl (hb hby at_37) rfl ?_
    show Steps p.tables e below (s₁.setTop (mkF m 38 #[.val (.int p1), .val (.int p2), .val (.int p3), .val (.int p4), .val (.int p5), .val (.int (3 : Int32)), .val (.int ((p2 &&& (255 : Int32)).toUInt32.toUInt16.toUInt32.toInt32)), .val (.int ((p3 &&& (255 : Int32)).toUInt32.toUInt16.toUInt32.toInt32)), .val (.int ((p4 &&& (255 : Int32)).toUInt32.toUInt16.toUInt32.toInt32)), .unset, .unset, .unset, .unset] [(.int ((p5 &&& (255 : Int32)).toUInt32.toUInt16.toUInt32.toInt32))])) _
    refine XS.istore X0.here hx rfl (hb hby at_38) rfl (l' := #[.val (.int p1), .val (.int p2), .val (.int p3), .val (.int p4), .val (.int p5), .val (.int (3 : Int32)), .val (.int ((p2 &&& (255 : Int32)).toUInt32.toUInt16.toUInt32.toInt32)), .val (.int ((p3 &&& (255 : Int32)).toUInt32.toUInt16.toUInt32.toInt32)), .val (.int ((p4 &&& (255 : Int32)).toUInt32.toUInt16.toUInt32.toInt32)), .val (.int ((p5 &&& (255 : Int32)).toUInt32.toUInt16.toUInt32.toInt32)), .unset, .unset, .unset]) rfl ?_
    show Steps p.tables e below (s₁.setTop (mkF m 40 #[.val (.int p1), .val (.int p2), .val (.int p3), .val (.int p4), .val (.int p5), .val (.int (3 : Int32)), .val (.int ((p2 &&& (255 : Int32)).toUInt32.toUInt16.toUInt32.toInt32)), .val (.int ((p3 &&& (255 : Int32)).toUInt32.toUInt16.toUInt32.toInt32)), .val (.int ((p4 &&& (255 : Int32)).toUInt32.toUInt16.toUInt32.toInt32)), .val (.int ((p5 &&& (255 : Int32)).toUInt32.toUInt16.toUInt32.toInt32)), .unset, .unset, .unset] [])) _
    refine XS.iload X0.here hx rfl (hb hby at_40) rfl ?_
    show Steps p.tables e below (s₁.setTop (mkF m 42 #[.val (.int p1), .val (.int p2), .val (.int p3), .val (.int p4), .val (.int p5), .val (.int (3 : Int32)), .val (.int ((p2 &&& (255 : Int32)).toUInt32.toUInt16.toUInt32.toInt32)), .val (.int ((p3 &&& (255 : Int32)).toUInt32.toUInt16.toUInt32.toInt32)), .val (.int ((p4 &&& (255 : Int32)).toUInt32.toUInt16.toUInt32.toInt32)), .val (.int ((p5 &&& (255 : Int32)).toUInt32.toUInt16.toUInt32.toInt32)), .unset, .unset, .unset] [(.int (3 : Int32))])) _
    refine XS.iload X0.here hx rfl (hb hby at_42) rfl ?_
    show Steps p.tables e below (s₁.setTop (mkF m 44 #[.val (.int p1), .val (.int p2), .val (.int p3), .val (.int p4), .val (.int p5), .val (.int (3 : Int32)), .val (.int ((p2 &&& (255 : Int32)).toUInt32.toUInt16.toUInt32.toInt32)), .val (.int ((p3 &&& (255 : Int32)).toUInt32.toUInt16.toUInt32.toInt32)), .val (.int ((p4 &&& (255 : Int32)).toUInt32.toUInt16.toUInt32.toInt32)), .val (.int ((p5 &&& (255 : Int32)).toUInt32.toUInt16.toUInt32.toInt32)), .unset, .unset, .unset] [(.int ((p2 &&& (255 : Int32)).toUInt32.toUInt16.toUInt32.toInt32)), (.int (3 : Int32))])) _
    refine XS.iload X0.here hx rfl (hb hby at_44) rfl ?_
    show Steps p.tables e below (s₁.setTop (mkF m 46 #[.val (.int p1), .val (.int p2), .val (.int p3), .val (.int p4), .val (.int p5), .val (.int (3 : Int32)), .val (.int ((p2 &&& (255 : Int32)).toUInt32.toUInt16.toUInt32.toInt32)), .val (.int ((p3 &&& (255 : Int32)).toUInt32.toUInt16.toUInt32.toInt32)), .val (.int ((p4 &&& (255 : Int32)).toUInt32.toUInt16.toUInt32.toInt32)), .val (.int ((p5 &&& (255 : Int32)).toUInt32.toUInt16.toUInt32.toInt32)), .unset, .unset, .unset] [(.int ((p3 &&& (255 : Int32)).toUInt32.toUInt16.toUInt32.toInt32)), (.int ((p2 &&& (255 : Int32)).toUInt32.toUInt16.toUInt32.toInt32)), (.int (3 : Int32))])) _
    refine XS.iload X0.here hx rfl (hb hby at_46) rfl ?_
    show Steps p.tables e below (s₁.setTop (mkF m 48 #[.val (.int p1), .val (.int p2), .val (.int p3), .val (.int p4), .val (.int p5), .val (.int (3 : Int32)), .val (.int ((p2 &&& (255 : Int32)).toUInt32.toUInt16.toUInt32.toInt32)), .val (.int ((p3 &&& (255 : Int32)).toUInt32.toUInt16.toUInt32.toInt32)), .val (.int ((p4 &&& (255 : Int32)).toUInt32.toUInt16.toUInt32.toInt32)), .val (.int ((p5 &&& (255 : Int32)).toUInt32.toUInt16.toUInt32.toInt32)), .unset, .unset, .unset] [(.int ((p4 &&& (255 : Int32)).toUInt32.toUInt16.toUInt32.toInt32)), (.int ((p3 &&& (255 : Int32)).toUInt32.toUInt16.toUInt32.toInt32)), (.int ((p2 &&& (255 : Int32)).toUInt32.toUInt16.toUInt32.toInt32)), (.int (3 : Int32))])) _
    refine XS.iload X0.here hx rfl (hb hby at_48) rfl ?_
    show Steps p.tables e below (s₁.setTop (mkF m 50 #[.val (.int p1), .val (.int p2), .val (.int p3), .val (.int p4), .val (.int p5), .val (.int (3 : Int32)), .val (.int ((p2 &&& (255 : Int32)).toUInt32.toUInt16.toUInt32.toInt32)), .val (.int ((p3 &&& (255 : Int32)).toUInt32.toUInt16.toUInt32.toInt32)), .val (.int ((p4 &&& (255 : Int32)).toUInt32.toUInt16.toUInt32.toInt32)), .val (.int ((p5 &&& (255 : Int32)).toUInt32.toUInt16.toUInt32.toInt32)), .unset, .unset, .unset] [(.int ((p5 &&& (255 : Int32)).toUInt32.toUInt16.toUInt32.toInt32)), (.int ((p4 &&& (255 : Int32)).toUInt32.toUInt16.toUInt32.toInt32)), (.int ((p3 &&& (255 : Int32)).toUInt32.toUInt16.toUInt32.toInt32)), (.int ((p2 &&& (255 : Int32)).toUInt32.toUInt16.toUInt32.toInt32)), (.int (3 : Int32))])) _
    refine st7 _ ?_
    show Steps p.tables e below (T7.setTop (mkF m 53 #[.val (.int p1), .val (.int p2), .val (.int p3), .val (.int p4), .val (.int p5), .val (.int (3 : Int32)), .val (.int ((p2 &&& (255 : Int32)).toUInt32.toUInt16.toUInt32.toInt32)), .val (.int ((p3 &&& (255 : Int32)).toUInt32.toUInt16.toUInt32.toInt32)), .val (.int ((p4 &&& (255 : Int32)).toUInt32.toUInt16.toUInt32.toInt32)), .val (.int ((p5 &&& (255 : Int32)).toUInt32.toUInt16.toUInt32.toInt32)), .unset, .unset, .unset] [(.ref b8)])) _
    refine XS.astore X7.here hx rfl (hb hby at_53) rfl rfl (l' := #[.val (.int p1), .val (.int p2), .val (.int p3), .val (.int p4), .val (.int p5), .val (.int (3 : Int32)), .val (.int ((p2 &&& (255 : Int32)).toUInt32.toUInt16.toUInt32.toInt32)), .val (.int ((p3 &&& (255 : Int32)).toUInt32.toUInt16.toUInt32.toInt32)), .val (.int ((p4 &&& (255 : Int32)).toUInt32.toUInt16.toUInt32.toInt32)), .val (.int ((p5 &&& (255 : Int32)).toUInt32.toUInt16.toUInt32.toInt32)), .val (.ref b8), .unset, .unset]) rfl ?_
    show Steps p.tables e below (T7.setTop (mkF m 55 #[.val (.int p1), .val (.int p2), .val (.int p3), .val (.int p4), .val (.int p5), .val (.int (3 : Int32)), .val (.int ((p2 &&& (255 : Int32)).toUInt32.toUInt16.toUInt32.toInt32)), .val (.int ((p3 &&& (255 : Int32)).toUInt32.toUInt16.toUInt32.toInt32)), .val (.int ((p4 &&& (255 : Int32)).toUInt32.toUInt16.toUInt32.toInt32)), .val (.int ((p5 &&& (255 : Int32)).toUInt32.toUInt16.toUInt32.toInt32)), .val (.ref b8), .unset, .unset] [])) _
    refine XS.aload X7.here hx rfl (hb hby at_55) rfl rfl ?_
    show Steps p.tables e below (T7.setTop (mkF m 57 #[.val (.int p1), .val (.int p2), .val (.int p3), .val (.int p4), .val (.int p5), .val (.int (3 : Int32)), .val (.int ((p2 &&& (255 : Int32)).toUInt32.toUInt16.toUInt32.toInt32)), .val (.int ((p3 &&& (255 : Int32)).toUInt32.toUInt16.toUInt32.toInt32)), .val (.int ((p4 &&& (255 : Int32)).toUInt32.toUInt16.toUInt32.toInt32)), .val (.int ((p5 &&& (255 : Int32)).toUInt32.toUInt16.toUInt32.toInt32)), .val (.ref b8), .unset, .unset] [(.ref b8)])) _
    refine st14 _ ?_
    show Steps p.tables e below (T14.setTop (mkF m 60 #[.val (.int p1), .val (.int p2), .val (.int p3), .val (.int p4), .val (.int p5), .val (.int (3 : Int32)), .val (.int ((p2 &&& (255 : Int32)).toUInt32.toUInt16.toUInt32.toInt32)), .val (.int ((p3 &&& (255 : Int32)).toUInt32.toUInt16.toUInt32.toInt32)), .val (.int ((p4 &&& (255 : Int32)).toUInt32.toUInt16.toUInt32.toInt32)), .val (.int ((p5 &&& (255 : Int32)).toUInt32.toUInt16.toUInt32.toInt32)), .val (.ref b8), .unset, .unset] [(.ref b15)])) _
    refine XS.astore X14.here hx rfl (hb hby at_60) rfl rfl (l' := #[.val (.int p1), .val (.int p2), .val (.int p3), .val (.int p4), .val (.int p5), .val (.int (3 : Int32)), .val (.int ((p2 &&& (255 : Int32)).toUInt32.toUInt16.toUInt32.toInt32)), .val (.int ((p3 &&& (255 : Int32)).toUInt32.toUInt16.toUInt32.toInt32)), .val (.int ((p4 &&& (255 : Int32)).toUInt32.toUInt16.toUInt32.toInt32)), .val (.int ((p5 &&& (255 : Int32)).toUInt32.toUInt16.toUInt32.toInt32)), .val (.ref b8), .val (.ref b15), .unset]) rfl ?_
    show Steps p.tables e below (T14.setTop (mkF m 62 #[.val (.int p1), .val (.int p2), .val (.int p3), .val (.int p4), .val (.int p5), .val (.int (3 : Int32)), .val (.int ((p2 &&& (255 : Int32)).toUInt32.toUInt16.toUInt32.toInt32)), .val (.int ((p3 &&& (255 : Int32)).toUInt32.toUInt16.toUInt32.toInt32)), .val (.int ((p4 &&& (255 : Int32)).toUInt32.toUInt16.toUInt32.toInt32)), .val (.int ((p5 &&& (255 : Int32)).toUInt32.toUInt16.toUInt32.toInt32)), .val (.ref b8), .val (.ref b15), .unset] [])) _
    refine XS.aload X14.here hx rfl (hb hby at_62) rfl rfl ?_
    show Steps p.tables e below (T14.setTop (mkF m 64 #[.val (.int p1), .val (.int p2), .val (.int p3), .val (.int p4), .val (.int p5), .val (.int (3 : Int32)), .val (.int ((p2 &&& (255 : Int32)).toUInt32.toUInt16.toUInt32.toInt32)), .val (.int ((p3 &&& (255 : Int32)).toUInt32.toUInt16.toUInt32.toInt32)), .val (.int ((p4 &&& (255 : Int32)).toUInt32.toUInt16.toUInt32.toInt32)), .val (.int ((p5 &&& (255 : Int32)).toUInt32.toUInt16.toUInt32.toInt32)), .val (.ref b8), .val (.ref b15), .unset] [(.ref b15)])) _
    refine st18.trans ?_
    show Steps p.tables e below (T18.setTop (mkF m 67 #[.val (.int p1), .val (.int p2), .val (.int p3), .val (.int p4), .val (.int p5), .val (.int (3 : Int32)), .val (.int ((p2 &&& (255 : Int32)).toUInt32.toUInt16.toUInt32.toInt32)), .val (.int ((p3 &&& (255 : Int32)).toUInt32.toUInt16.toUInt32.toInt32)), .val (.int ((p4 &&& (255 : Int32)).toUInt32.toUInt16.toUInt32.toInt32)), .val (.int ((p5 &&& (255 : Int32)).toUInt32.toUInt16.toUInt32.toInt32)), .val (.ref b8), .val (.ref b15), .unset] [(.ref b8)])) _
    refine XS.astore X18.here hx rfl (hb hby at_67) rfl rfl (l' := #[.val (.int p1), .val (.int p2), .val (.int p3), .val (.int p4), .val (.int p5), .val (.int (3 : Int32)), .val (.int ((p2 &&& (255 : Int32)).toUInt32.toUInt16.toUInt32.toInt32)), .val (.int ((p3 &&& (255 : Int32)).toUInt32.toUInt16.toUInt32.toInt32)), .val (.int ((p4 &&& (255 : Int32)).toUInt32.toUInt16.toUInt32.toInt32)), .val (.int ((p5 &&& (255 : Int32)).toUInt32.toUInt16.toUInt32.toInt32)), .val (.ref b8), .val (.ref b15), .val (.ref b8)]) rfl ?_
    show Steps p.tables e below (T18.setTop (mkF m 69 #[.val (.int p1), .val (.int p2), .val (.int p3), .val (.int p4), .val (.int p5), .val (.int (3 : Int32)), .val (.int ((p2 &&& (255 : Int32)).toUInt32.toUInt16.toUInt32.toInt32)), .val (.int ((p3 &&& (255 : Int32)).toUInt32.toUInt16.toUInt32.toInt32)), .val (.int ((p4 &&& (255 : Int32)).toUInt32.toUInt16.toUInt32.toInt32)), .val (.int ((p5 &&& (255 : Int32)).toUInt32.toUInt16.toUInt32.toInt32)), .val (.ref b8), .val (.ref b15), .val (.ref b8)] [])) _
    refine XS.aload X18.here hx rfl (hb hby at_69) rfl rfl ?_
    show Steps p.tables e below (T18.setTop (mkF m 71 #[.val (.int p1), .val (.int p2), .val (.int p3), .val (.int p4), .val (.int p5), .val (.int (3 : Int32)), .val (.int ((p2 &&& (255 : Int32)).toUInt32.toUInt16.toUInt32.toInt32)), .val (.int ((p3 &&& (255 : Int32)).toUInt32.toUInt16.toUInt32.toInt32)), .val (.int ((p4 &&& (255 : Int32)).toUInt32.toUInt16.toUInt32.toInt32)), .val (.int ((p5 &&& (255 : Int32)).toUInt32.toUInt16.toUInt32.toInt32)), .val (.ref b8), .val (.ref b15), .val (.ref b8)] [(.ref b8)])) _
    refine st21.trans ?_
    show Steps p.tables e below (T21.setTop (mkF m 74 #[.val (.int p1), .val (.int p2), .val (.int p3), .val (.int p4), .val (.int p5), .val (.int (3 : Int32)), .val (.int ((p2 &&& (255 : Int32)).toUInt32.toUInt16.toUInt32.toInt32)), .val (.int ((p3 &&& (255 : Int32)).toUInt32.toUInt16.toUInt32.toInt32)), .val (.int ((p4 &&& (255 : Int32)).toUInt32.toUInt16.toUInt32.toInt32)), .val (.int ((p5 &&& (255 : Int32)).toUInt32.toUInt16.toUInt32.toInt32)), .val (.ref b8), .val (.ref b15), .val (.ref b8)] [(.int (3 : Int32))])) _
    refine XS.iload X21.here hx rfl (hb hby at_74) rfl ?_
    show Steps p.tables e below (T21.setTop (mkF m 76 #[.val (.int p1), .val (.int p2), .val (.int p3), .val (.int p4), .val (.int p5), .val (.int (3 : Int32)), .val (.int ((p2 &&& (255 : Int32)).toUInt32.toUInt16.toUInt32.toInt32)), .val (.int ((p3 &&& (255 : Int32)).toUInt32.toUInt16.toUInt32.toInt32)), .val (.int ((p4 &&& (255 : Int32)).toUInt32.toUInt16.toUInt32.toInt32)), .val (.int ((p5 &&& (255 : Int32)).toUInt32.toUInt16.toUInt32.toInt32)), .val (.ref b8), .val (.ref b15), .val (.ref b8)] [(.int (3 : Int32)), (.int (3 : Int32))])) _
    refine XS.icmpYes X21.here hx rfl (pc0 := 76) (pc' := 81) rfl (hb hby at_76) rfl (teq (by decide : (3 : Int32) = (3 : Int32))).1 (by decide) (by decide) ?_
    show Steps p.tables e below (T21.setTop (mkF m 81 #[.val (.int p1), .val (.int p2), .val (.int p3), .val (.int p4), .val (.int p5), .val (.int (3 : Int32)), .val (.int ((p2 &&& (255 : Int32)).toUInt32.toUInt16.toUInt32.toInt32)), .val (.int ((p3 &&& (255 : Int32)).toUInt32.toUInt16.toUInt32.toInt32)), .val (.int ((p4 &&& (255 : Int32)).toUInt32.toUInt16.toUInt32.toInt32)), .val (.int ((p5 &&& (255 : Int32)).toUInt32.toUInt16.toUInt32.toInt32)), .val (.ref b8), .val (.ref b15), .val (.ref b8)] [])) _
    refine XS.aload X21.here hx rfl (hb hby at_81) rfl rfl ?_
    show Steps p.tables e below (T21.setTop (mkF m 83 #[.val (.int p1), .val (.int p2), .val (.int p3), .val (.int p4), .val (.int p5), .val (.int (3 : Int32)), .val (.int ((p2 &&& (255 : Int32)).toUInt32.toUInt16.toUInt32.toInt32)), .val (.int ((p3 &&& (255 : Int32)).toUInt32.toUInt16.toUInt32.toInt32)), .val (.int ((p4 &&& (255 : Int32)).toUInt32.toUInt16.toUInt32.toInt32)), .val (.int ((p5 &&& (255 : Int32)).toUInt32.toUInt16.toUInt32.toInt32)), .val (.ref b8), .val (.ref b15), .val (.ref b8)] [(.ref b8)])) _
    refine XS.iconst X21.here hx rfl (hb hby at_83) ?_
    show Steps p.tables e below (T21.setTop (mkF m 84 #[.val (.int p1), .val (.int p2), .val (.int p3), .val (.int p4), .val (.int p5), .val (.int (3 : Int32)), .val (.int ((p2 &&& (255 : Int32)).toUInt32.toUInt16.toUInt32.toInt32)), .val (.int ((p3 &&& (255 : Int32)).toUInt32.toUInt16.toUInt32.toInt32)), .val (.int ((p4 &&& (255 : Int32)).toUInt32.toUInt16.toUInt32.toInt32)), .val (.int ((p5 &&& (255 : Int32)).toUInt32.toUInt16.toUInt32.toInt32)), .val (.ref b8), .val (.ref b15), .val (.ref b8)] [(.int (0 : Int32)), (.ref b8)])) _
    refine st25.trans ?_
    show Steps p.tables e below (T25.setTop (mkF m 87 #[.val (.int p1), .val (.int p2), .val (.int p3), .val (.int p4), .val (.int p5), .val (.int (3 : Int32)), .val (.int ((p2 &&& (255 : Int32)).toUInt32.toUInt16.toUInt32.toInt32)), .val (.int ((p3 &&& (255 : Int32)).toUInt32.toUInt16.toUInt32.toInt32)), .val (.int ((p4 &&& (255 : Int32)).toUInt32.toUInt16.toUInt32.toInt32)), .val (.int ((p5 &&& (255 : Int32)).toUInt32.toUInt16.toUInt32.toInt32)), .val (.ref b8), .val (.ref b15), .val (.ref b8)] [(.int ((p2 &&& (255 : Int32)).toUInt32.toUInt16.toUInt32.toInt32).toUInt32.toUInt16.toUInt32.toInt32)])) _
    refine XS.iload X25.here hx rfl (hb hby at_87) rfl ?_
    show Steps p.tables e below (T25.setTop (mkF m 89 #[.val (.int p1), .val (.int p2), .val (.int p3), .val (.int p4), .val (.int p5), .val (.int (3 : Int32)), .val (.int ((p2 &&& (255 : Int32)).toUInt32.toUInt16.toUInt32.toInt32)), .val (.int ((p3 &&& (255 : Int32)).toUInt32.toUInt16.toUInt32.toInt32)), .val (.int ((p4 &&& (255 : Int32)).toUInt32.toUInt16.toUInt32.toInt32)), .val (.int ((p5 &&& (255 : Int32)).toUInt32.toUInt16.toUInt32.toInt32)), .val (.ref b8), .val (.ref b15), .val (.ref b8)] [(.int ((p2 &&& (255 : Int32)).toUInt32.toUInt16.toUInt32.toInt32)), (.int ((p2 &&& (255 : Int32)).toUInt32.toUInt16.toUInt32.toInt32).toUInt32.toUInt16.toUInt32.toInt32)])) _
    refine XS.icmpYes X25.here hx rfl (pc0 := 89) (pc' := 94) rfl (hb hby at_89) rfl (teq hc89).1 (by decide) (by decide) ?_
    show Steps p.tables e below (T25.setTop (mkF m 94 #[.val (.int p1), .val (.int p2), .val (.int p3), .val (.int p4), .val (.int p5), .val (.int (3 : Int32)), .val (.int ((p2 &&& (255 : Int32)).toUInt32.toUInt16.toUInt32.toInt32)), .val (.int ((p3 &&& (255 : Int32)).toUInt32.toUInt16.toUInt32.toInt32)), .val (.int ((p4 &&& (255 : Int32)).toUInt32.toUInt16.toUInt32.toInt32)), .val (.int ((p5 &&& (255 : Int32)).toUInt32.toUInt16.toUInt32.toInt32)), .val (.ref b8), .val (.ref b15), .val (.ref b8)] [])) _
    refine XS.aload X25.here hx rfl (hb hby at_94) rfl rfl ?_
    show Steps p.tables e below (T25.setTop (mkF m 96 #[.val (.int p1), .val (.int p2), .val (.int p3), .val (.int p4), .val (.int p5), .val (.int (3 : Int32)), .val (.int ((p2 &&& (255 : Int32)).toUInt32.toUInt16.toUInt32.toInt32)), .val (.int ((p3 &&& (255 : Int32)).toUInt32.toUInt16.toUInt32.toInt32)), .val (.int ((p4 &&& (255 : Int32)).toUInt32.toUInt16.toUInt32.toInt32)), .val (.int ((p5 &&& (255 : Int32)).toUInt32.toUInt16.toUInt32.toInt32)), .val (.ref b8), .val (.ref b15), .val (.ref b8)] [(.ref b8)])) _
    refine XS.aload X25.here hx rfl (hb hby at_96) rfl rfl ?_
    show Steps p.tables e below (T25.setTop (mkF m 98 #[.val (.int p1), .val (.int p2), .val (.int p3), .val (.int p4), .val (.int p5), .val (.int (3 : Int32)), .val (.int ((p2 &&& (255 : Int32)).toUInt32.toUInt16.toUInt32.toInt32)), .val (.int ((p3 &&& (255 : Int32)).toUInt32.toUInt16.toUInt32.toInt32)), .val (.int ((p4 &&& (255 : Int32)).toUInt32.toUInt16.toUInt32.toInt32)), .val (.int ((p5 &&& (255 : Int32)).toUInt32.toUInt16.toUInt32.toInt32)), .val (.ref b8), .val (.ref b15), .val (.ref b8)] [(.ref b8), (.ref b8)])) _
    refine st26.trans ?_
    show Steps p.tables e below (T26.setTop (mkF m 101 #[.val (.int p1), .val (.int p2), .val (.int p3), .val (.int p4), .val (.int p5), .val (.int (3 : Int32)), .val (.int ((p2 &&& (255 : Int32)).toUInt32.toUInt16.toUInt32.toInt32)), .val (.int ((p3 &&& (255 : Int32)).toUInt32.toUInt16.toUInt32.toInt32)), .val (.int ((p4 &&& (255 : Int32)).toUInt32.toUInt16.toUInt32.toInt32)), .val (.int ((p5 &&& (255 : Int32)).toUInt32.toUInt16.toUInt32.toInt32)), .val (.ref b8), .val (.ref b15), .val (.ref b8)] [(.int (1 : Int32))])) _
    exact retN X26 hx (t := .boolean) Bd.returns (by simp) (hb hby at_101) hr
  · skip
    exact ⟨rfl, N26⟩
set_option maxRecDepth 65536 in
set_option maxHeartbeats 40000000 in
theorem rm0n4 (l : Launch) (Z : State) (a0 : Array Value) (hw : ∀ d ∈ tables_1, d.before a0 Z = true) (ws : List Jvm.Cond) (p1 p2 p3 p4 p5 w6 : Int32) (w11 : Addr) (w24 : Value) (h0 : Heap) (n0 : Nat) (O0 : Old Z n0 h0) (hn7 : ((p1 &&& (3 : Int32)) + (1 : Int32)) = (4 : Int32)) (S_COMPACT_STRINGS : Sta Z Z.heap "java/lang/String" "COMPACT_STRINGS" "Z" (.int w6)) (h50_hzcs : ¬ (w6 = (0 : Int32))) (h50_hch112 : ∀ c ∈ ([((p2 &&& (255 : Int32)).toUInt32.toUInt16.toUInt32.toInt32).toUInt32.toUInt16.toUInt32.toInt32, ((p3 &&& (255 : Int32)).toUInt32.toUInt16.toUInt32.toInt32).toUInt32.toUInt16.toUInt32.toInt32, ((p4 &&& (255 : Int32)).toUInt32.toUInt16.toUInt32.toInt32).toUInt32.toUInt16.toUInt32.toInt32, ((p5 &&& (255 : Int32)).toUInt32.toUInt16.toUInt32.toInt32).toUInt32.toUInt16.toUInt32.toInt32] : List Int32), ¬ c < 0 ∧ ¬ (255 : Int32) < c) (S_EMPTY : Sta Z Z.heap "java/util/Optional" "EMPTY" "Ljava/util/Optional;" (.ref w11)) (HE_w11 : Exa Z h0 w11 "java/util/Optional") (HF_w11_value : Fld Z h0 w11 "java/util/Optional" "value" "Ljava/lang/Object;" .null) (S_SIOOBE_FORMATTER : Sta Z Z.heap "jdk/internal/util/Preconditions" "SIOOBE_FORMATTER" "Ljava/util/function/BiFunction;" w24) (hrfm : w24.isRef = true) (hc89 : ((p2 &&& (255 : Int32)).toUInt32.toUInt16.toUInt32.toInt32).toUInt32.toUInt16.toUInt32.toInt32 = ((p2 &&& (255 : Int32)).toUInt32.toUInt16.toUInt32.toInt32)) :
    own_Met l Z ws #[(.int p1), (.int p2), (.int p3), (.int p4), (.int p5)] h0 n0 := by
  refine MetFree.of_bodySF (plainFor_of_name pnc_com_example_wattle_wattle_FigureUnreadablePinLaw) hisR ?_
  intro p e s m args below meth c s₁ Bd hml0 hP hK
  obtain ⟨rfl, hZ, hh⟩ := hP
  have hx := Bd.exec
  have hby := Bd.bytes
  have hml : c.maxLocals = 13 := hml0
  have hown : s.vm.findClass "com/example/wattle/wattle/FigureUnreadablePinLaw" = some m.cls := findClass_of_methodNamed Bd.named
  have hnm := (name_of_methodNamed Bd.named Bd.method).1
  have X0 : Stand p l e room_1 s m #[(.int p1), (.int p2), (.int p3), (.int p4), (.int p5)] below meth c s₁ [] 0 0 := Stand.of_body Bd
  have e0 : s₁.heap = h0 := by rw [← hh, Bd.state]; rfl
  have N0 := Fr.nil n0
  have Z0 : n0 ≤ h0.size := O0.1 ▸ O0.2.1
  have pre0 : ∀ t, Steps p.tables e below (s₁.setTop (mkF m 0 #[.val (.int p1), .val (.int p2), .val (.int p3), .val (.int p4), .val (.int p5), .unset, .unset, .unset, .unset, .unset, .unset, .unset, .unset] [])) t → Steps p.tables e below (s₁.setTop (entryFrame m #[(.int p1), (.int p2), (.int p3), (.int p4), (.int p5)] maxLocals)) t := fun t k => castTop (ef_0 m p1 p2 p3 p4 p5) k
  obtain ⟨vr7, _, ⟨T7, L7, k7, n7⟩, -, X7, ⟨Lc7, hQ7, l7, y7, z7⟩, st7⟩ := Jvm.LawKit.callS X0 hx (y := (⟨"com/example/wattle/wattle/FigureUnreadablePinLaw", "text", "(ICCCC)Ljava/lang/String;"⟩ : MethodName)) hown (mvT hZ (hw _ (List.mem_of_getElem? (i := 0) rfl))) (mvT hZ (hw _ (List.mem_of_getElem? (i := 1) rfl))) (mvT hZ (hw _ (List.mem_of_getElem? (i := 2) rfl))) (mvT hZ (hw _ (List.mem_of_getElem? (i := 3) rfl))) (by decide) (backOf (W := 0) (rm1n4 l Z a0 hw [] (((p2 &&& (255 : Int32)).toUInt32.toUInt16.toUInt32.toInt32)) (((p3 &&& (255 : Int32)).toUInt32.toUInt16.toUInt32.toInt32)) (((p4 &&& (255 : Int32)).toUInt32.toUInt16.toUInt32.toInt32)) (((p5 &&& (255 : Int32)).toUInt32.toUInt16.toUInt32.toInt32)) w6 h0 n0 O0 S_COMPACT_STRINGS h50_hzcs h50_hch112) hZ (hw _ (List.mem_of_getElem? (i := 3) rfl)) (hw _ (List.mem_of_getElem? (i := 2) rfl)) (by decide) (by decide)) (g := (mkF m 50 #[.val (.int p1), .val (.int p2), .val (.int p3), .val (.int p4), .val (.int p5), .val (.int (4 : Int32)), .val (.int ((p2 &&& (255 : Int32)).toUInt32.toUInt16.toUInt32.toInt32)), .val (.int ((p3 &&& (255 : Int32)).toUInt32.toUInt16.toUInt32.toInt32)), .val (.int ((p4 &&& (255 : Int32)).toUInt32.toUInt16.toUInt32.toInt32)), .val (.int ((p5 &&& (255 : Int32)).toUInt32.toUInt16.toUInt32.toInt32)), .unset, .unset, .unset] [(.int ((p5 &&& (255 : Int32)).toUInt32.toUInt16.toUInt32.toInt32)), (.int ((p4 &&& (255 : Int32)).toUInt32.toUInt16.toUInt32.toInt32)), (.int ((p3 &&& (255 : Int32)).toUInt32.toUInt16.toUInt32.toInt32)), (.int ((p2 &&& (255 : Int32)).toUInt32.toUInt16.toUInt32.toInt32)), (.int (4 : Int32))])) rfl (by rw [hml]; rfl) (argsL := [(.int (4 : Int32)), (.int ((p2 &&& (255 : Int32)).toUInt32.toUInt16.toUInt32.toInt32)), (.int ((p3 &&& (255 : Int32)).toUInt32.toUInt16.toUInt32.toInt32)), (.int ((p4 &&& (255 : Int32)).toUInt32.toUInt16.toUInt32.toInt32)), (.int ((p5 &&& (255 : Int32)).toUInt32.toUInt16.toUInt32.toInt32))]) (rest := []) (lenOf pd_7 rfl) rfl (by show 2 * 0 + _ ≤ _; exact Nat.le_of_eq rfl) (hb hby at_50) (fun _ _ => ⟨rfl, e0, (by decide : 0 + 6 ≤ _), (by decide : 0 + 18 ≤ _)⟩)
  dsimp only [Pt.U, Pt.locs, Pt.cells, Pt.slots] at X7 l7 y7 z7 st7 hQ7
  subst l7 y7 z7
  obtain ⟨b8, rfl, N7q, K7, Y7_z0, Y7_0, Y7_1⟩ := hQ7
  have N7 := Fr.app N0 N7q
  replace X7 := X7.more (cells' := 6) (slots' := 18) (by decide) (by decide)
  have g_b8 : n0 ≤ b8 := Nat.le_trans (Nat.le_trans Z0 (Keep.refl h0 []).1) Y7_z0
  have sz_b8 : h0.size ≤ b8 := Nat.le_trans (Keep.refl h0 []).1 Y7_z0
  have K9 : Keep h0 T7.heap [] := (Keep.refl h0 []).trans K7 all0
  have O10 : Old Z n0 T7.heap := O0.keep K7 all0
  have f12 := (HE_w11.keep K7)
  have f13 := (HF_w11_value.keep K7 nin0)
  obtain ⟨vr14, _, ⟨T14, L14, k14, n14⟩, -, X14, ⟨Lc14, hQ14, l14, y14, z14⟩, st14⟩ := Jvm.LawKit.callS X7 hx (y := (⟨"com/example/wattle/wattle/Figure", "unreadable", "(Ljava/lang/String;)Lcom/example/wattle/wattle/Figure;"⟩ : MethodName)) hown (mvT hZ (hw _ (List.mem_of_getElem? (i := 34) rfl))) (mvT hZ (hw _ (List.mem_of_getElem? (i := 35) rfl))) (mvT hZ (hw _ (List.mem_of_getElem? (i := 36) rfl))) (mvT hZ (hw _ (List.mem_of_getElem? (i := 37) rfl))) (by decide) (backOf (W := 0) (rm8n4 l Z a0 hw [] b8 w11 (((p2 &&& (255 : Int32)).toUInt32.toUInt16.toUInt32.toInt32).toUInt32.toUInt16.toUInt32.toInt32) (((p3 &&& (255 : Int32)).toUInt32.toUInt16.toUInt32.toInt32).toUInt32.toUInt16.toUInt32.toInt32) (((p4 &&& (255 : Int32)).toUInt32.toUInt16.toUInt32.toInt32).toUInt32.toUInt16.toUInt32.toInt32) (((p5 &&& (255 : Int32)).toUInt32.toUInt16.toUInt32.toInt32).toUInt32.toUInt16.toUInt32.toInt32) T7.heap n0 O10 S_EMPTY f12 f13 (own_Str.top Y7_1)) hZ (hw _ (List.mem_of_getElem? (i := 37) rfl)) (hw _ (List.mem_of_getElem? (i := 36) rfl)) (by decide) (by decide)) (g := (mkF m 57 #[.val (.int p1), .val (.int p2), .val (.int p3), .val (.int p4), .val (.int p5), .val (.int (4 : Int32)), .val (.int ((p2 &&& (255 : Int32)).toUInt32.toUInt16.toUInt32.toInt32)), .val (.int ((p3 &&& (255 : Int32)).toUInt32.toUInt16.toUInt32.toInt32)), .val (.int ((p4 &&& (255 : Int32)).toUInt32.toUInt16.toUInt32.toInt32)), .val (.int ((p5 &&& (255 : Int32)).toUInt32.toUInt16.toUInt32.toInt32)), .val (.ref b8), .unset, .unset] [(.ref b8)])) rfl (by rw [hml]; rfl) (argsL := [(.ref b8)]) (rest := []) (lenOf pd_11 rfl) rfl (by show 2 * 0 + _ ≤ _; exact Nat.le_of_eq rfl) (hb hby at_57) (fun _ _ => ⟨rfl, rfl, (by decide : 6 + 1 ≤ _), (by decide : 18 + 2 ≤ _)⟩)
  dsimp only [Pt.U, Pt.locs, Pt.cells, Pt.slots] at X14 l14 y14 z14 st14 hQ14
  subst l14 y14 z14
  obtain ⟨b15, rfl, N14q, K14, Y14_z0, Y14_0, Y14_1, Y14_2⟩ := hQ14
  have N14 := Fr.app N7 N14q
  replace X14 := X14.more (cells' := 7) (slots' := 20) (by decide) (by decide)
  have g_b15 : n0 ≤ b15 := Nat.le_trans (Nat.le_trans Z0 K9.1) Y14_z0
  have sz_b15 : h0.size ≤ b15 := Nat.le_trans K9.1 Y14_z0
  have K16 : Keep h0 T14.heap [] := K9.trans K14 all0
  have O17 : Old Z n0 T14.heap := O10.keep K14 all0
  obtain ⟨cq18, kq18, q18a, q18b, q18c⟩ := isOf hZ rfl Y14_0
  obtain ⟨vr18, _, ⟨T18, L18, k18, n18⟩, -, X18, ⟨Lc18, hQ18, l18, y18, z18⟩, st18⟩ := X14.virtualBack hx (y := (⟨"com/example/wattle/wattle/Figure", "shown", "()Ljava/lang/String;"⟩ : MethodName)) (z := (⟨"com/example/wattle/wattle/Figure", "shown", "()Ljava/lang/String;"⟩ : MethodName)) hown (mvT hZ (hw _ (List.mem_of_getElem? (i := 70) rfl))) (mvT hZ (hw _ (List.mem_of_getElem? (i := 71) rfl))) (notFace_of_selects (args := #[]) (mvT hZ (hw _ (List.mem_of_getElem? (i := 73) rfl)))) (mvT hZ (hw _ (List.mem_of_getElem? (i := 73) rfl))) (mvT hZ (hw _ (List.mem_of_getElem? (i := 72) rfl))) (by decide) (backOf (W := 0) (rm14 l Z a0 hw [] b15 b8 T14.heap n0 O17 Y14_1) hZ (hw _ (List.mem_of_getElem? (i := 74) rfl)) (hw _ (List.mem_of_getElem? (i := 36) rfl)) (by decide) (by decide)) q18a q18c (g := (mkF m 64 #[.val (.int p1), .val (.int p2), .val (.int p3), .val (.int p4), .val (.int p5), .val (.int (4 : Int32)), .val (.int ((p2 &&& (255 : Int32)).toUInt32.toUInt16.toUInt32.toInt32)), .val (.int ((p3 &&& (255 : Int32)).toUInt32.toUInt16.toUInt32.toInt32)), .val (.int ((p4 &&& (255 : Int32)).toUInt32.toUInt16.toUInt32.toInt32)), .val (.int ((p5 &&& (255 : Int32)).toUInt32.toUInt16.toUInt32.toInt32)), .val (.ref b8), .val (.ref b15), .unset] [(.ref b15)])) rfl (by rw [hml]; rfl) (Steps.refl _) (argsL := []) (rest := []) (lenOf pd_2 rfl) rfl (by show 2 * 0 + _ ≤ _; exact Nat.le_of_eq rfl) (hb hby at_64) (fun _ _ => ⟨rfl, rfl, (by decide : 7 + 0 ≤ _), (by decide : 20 + 0 ≤ _)⟩)
  dsimp only [Pt.U, Pt.locs, Pt.cells, Pt.slots] at X18 l18 y18 z18 st18 hQ18
  subst l18 y18 z18
  obtain ⟨rfl, N18q, e18⟩ := hQ18
  have N18 := Fr.app N14 N18q
  replace X18 := X18.more (cells' := 7) (slots' := 20) (by decide) (by decide)
  have f19 := (own_Str.keep Y7_1 K14 all0)
  obtain ⟨⟨tx20, tl20, tp20⟩, ty20, tk20, tt20, tE20, tV20, tC20, tA20⟩ := id f19
  have f22 := ((own_Str.exa Y7_1).keep K14)
  obtain ⟨cq21, kq21, q21a, q21b, q21c⟩ := isOf hZ e18 f22
  obtain ⟨vr21, _, ⟨T21, L21, k21, n21⟩, -, X21, ⟨Lc21, hQ21, l21, y21, z21⟩, st21⟩ := X18.virtualBack hx (y := (⟨"java/lang/String", "length", "()I"⟩ : MethodName)) (z := (⟨"java/lang/String", "length", "()I"⟩ : MethodName)) hown (mvT hZ (hw _ (List.mem_of_getElem? (i := 75) rfl))) (mvT hZ (hw _ (List.mem_of_getElem? (i := 76) rfl))) (notFace_of_selects (args := #[]) (mvT hZ (hw _ (List.mem_of_getElem? (i := 78) rfl)))) (mvT hZ (hw _ (List.mem_of_getElem? (i := 78) rfl))) (mvT hZ (hw _ (List.mem_of_getElem? (i := 77) rfl))) (by decide) (StrChars.Road.lenW (W := 0) hZ (fun d hd => hw d (own_in_wordsLen d hd)) (kI := 4) (hw _ (List.mem_of_getElem? (i := 6) rfl)) tE20 tV20 tC20 tA20 (StrChars.Road.codOf (cs := [((p2 &&& (255 : Int32)).toUInt32.toUInt16.toUInt32.toInt32).toUInt32.toUInt16.toUInt32.toInt32, ((p3 &&& (255 : Int32)).toUInt32.toUInt16.toUInt32.toInt32).toUInt32.toUInt16.toUInt32.toInt32, ((p4 &&& (255 : Int32)).toUInt32.toUInt16.toUInt32.toInt32).toUInt32.toUInt16.toUInt32.toInt32, ((p5 &&& (255 : Int32)).toUInt32.toUInt16.toUInt32.toInt32).toUInt32.toUInt16.toUInt32.toInt32]) (n := ([((p2 &&& (255 : Int32)).toUInt32.toUInt16.toUInt32.toInt32).toUInt32.toUInt16.toUInt32.toInt32, ((p3 &&& (255 : Int32)).toUInt32.toUInt16.toUInt32.toInt32).toUInt32.toUInt16.toUInt32.toInt32, ((p4 &&& (255 : Int32)).toUInt32.toUInt16.toUInt32.toInt32).toUInt32.toUInt16.toUInt32.toInt32, ((p5 &&& (255 : Int32)).toUInt32.toUInt16.toUInt32.toInt32).toUInt32.toUInt16.toUInt32.toInt32] : List Int32).length) rfl (fun c hc => (tp20 c hc).2)) (own_up tp20) (S_COMPACT_STRINGS.ext O17.2) h50_hzcs tl20 (by decide) (by decide)) q21a q21c (g := (mkF m 71 #[.val (.int p1), .val (.int p2), .val (.int p3), .val (.int p4), .val (.int p5), .val (.int (4 : Int32)), .val (.int ((p2 &&& (255 : Int32)).toUInt32.toUInt16.toUInt32.toInt32)), .val (.int ((p3 &&& (255 : Int32)).toUInt32.toUInt16.toUInt32.toInt32)), .val (.int ((p4 &&& (255 : Int32)).toUInt32.toUInt16.toUInt32.toInt32)), .val (.int ((p5 &&& (255 : Int32)).toUInt32.toUInt16.toUInt32.toInt32)), .val (.ref b8), .val (.ref b15), .val (.ref b8)] [(.ref b8)])) rfl (by rw [hml]; rfl) (Steps.refl _) (argsL := []) (rest := []) (lenOf pd_1 rfl) rfl (by show 2 * 0 + _ ≤ _; exact Nat.le_of_eq rfl) (hb hby at_71) (fun _ _ => ⟨rfl, e18, (by decide : 7 + 0 ≤ _), (by decide : 20 + 0 ≤ _)⟩)
  dsimp only [Pt.U, Pt.locs, Pt.cells, Pt.slots] at X21 l21 y21 z21 st21 hQ21
  subst l21 y21 z21
  obtain ⟨rfl, rfl, e21⟩ := hQ21
  have N21 := Fr.app N18 (Fr.nil n0)
  replace X21 := X21.more (cells' := 7) (slots' := 20) (by decide) (by decide)
  obtain ⟨⟨tx23, tl23, tp23⟩, ty23, tk23, tt23, tE23, tV23, tC23, tA23⟩ := id f19
  obtain ⟨cq25, kq25, q25a, q25b, q25c⟩ := isOf hZ e21 f22
  obtain ⟨vr25, _, ⟨T25, L25, k25, n25⟩, -, X25, ⟨Lc25, hQ25, l25, y25, z25⟩, st25⟩ := X21.virtualBack hx (y := (⟨"java/lang/String", "charAt", "(I)C"⟩ : MethodName)) (z := (⟨"java/lang/String", "charAt", "(I)C"⟩ : MethodName)) hown (mvT hZ (hw _ (List.mem_of_getElem? (i := 85) rfl))) (mvT hZ (hw _ (List.mem_of_getElem? (i := 86) rfl))) (notFace_of_selects (args := #[]) (mvT hZ (hw _ (List.mem_of_getElem? (i := 88) rfl)))) (mvT hZ (hw _ (List.mem_of_getElem? (i := 88) rfl))) (mvT hZ (hw _ (List.mem_of_getElem? (i := 87) rfl))) (by decide) (StrChars.Road.chN (W := 0) hZ (fun d hd => hw d (own_in_wordsChN d hd)) (kI := 4) (hw _ (List.mem_of_getElem? (i := 6) rfl)) tE23 tV23 tC23 tA23 (StrChars.Road.codOf (cs := [((p2 &&& (255 : Int32)).toUInt32.toUInt16.toUInt32.toInt32).toUInt32.toUInt16.toUInt32.toInt32, ((p3 &&& (255 : Int32)).toUInt32.toUInt16.toUInt32.toInt32).toUInt32.toUInt16.toUInt32.toInt32, ((p4 &&& (255 : Int32)).toUInt32.toUInt16.toUInt32.toInt32).toUInt32.toUInt16.toUInt32.toInt32, ((p5 &&& (255 : Int32)).toUInt32.toUInt16.toUInt32.toInt32).toUInt32.toUInt16.toUInt32.toInt32]) (n := ([((p2 &&& (255 : Int32)).toUInt32.toUInt16.toUInt32.toInt32).toUInt32.toUInt16.toUInt32.toInt32, ((p3 &&& (255 : Int32)).toUInt32.toUInt16.toUInt32.toInt32).toUInt32.toUInt16.toUInt32.toInt32, ((p4 &&& (255 : Int32)).toUInt32.toUInt16.toUInt32.toInt32).toUInt32.toUInt16.toUInt32.toInt32, ((p5 &&& (255 : Int32)).toUInt32.toUInt16.toUInt32.toInt32).toUInt32.toUInt16.toUInt32.toInt32] : List Int32).length) rfl (fun c hc => (tp23 c hc).2)) (own_up tp23) (S_COMPACT_STRINGS.ext O17.2) h50_hzcs (S_SIOOBE_FORMATTER.ext O17.2) hrfm tl23 (i := 0) (Nat.le_of_ble_eq_true rfl) (j := (0 : Int32)) rfl (by decide) (by decide)) q25a q25c (g := (mkF m 84 #[.val (.int p1), .val (.int p2), .val (.int p3), .val (.int p4), .val (.int p5), .val (.int (4 : Int32)), .val (.int ((p2 &&& (255 : Int32)).toUInt32.toUInt16.toUInt32.toInt32)), .val (.int ((p3 &&& (255 : Int32)).toUInt32.toUInt16.toUInt32.toInt32)), .val (.int ((p4 &&& (255 : Int32)).toUInt32.toUInt16.toUInt32.toInt32)), .val (.int ((p5 &&& (255 : Int32)).toUInt32.toUInt16.toUInt32.toInt32)), .val (.ref b8), .val (.ref b15), .val (.ref b8)] [(.int (0 : Int32)), (.ref b8)])) rfl (by rw [hml]; rfl) (Steps.refl _) (argsL := [(.int (0 : Int32))]) (rest := []) (lenOf pd_6 rfl) rfl (by show 2 * 0 + _ ≤ _; exact Nat.le_of_eq rfl) (hb hby at_84) (fun _ _ => ⟨rfl, e21, (by decide : 7 + 0 ≤ _), (by decide : 20 + 0 ≤ _)⟩)
  dsimp only [Pt.U, Pt.locs, Pt.cells, Pt.slots] at X25 l25 y25 z25 st25 hQ25
  subst l25 y25 z25
  obtain ⟨rfl, rfl, e25⟩ := hQ25
  have N25 := Fr.app N21 (Fr.nil n0)
  replace X25 := X25.more (cells' := 7) (slots' := 20) (by decide) (by decide)
  obtain ⟨cq26, kq26, q26a, q26b, q26c⟩ := isOf hZ e25 f22
  obtain ⟨vr26, _, ⟨T26, L26, k26, n26⟩, -, X26, ⟨Lc26, hQ26, l26, y26, z26⟩, st26⟩ := X25.virtualBack hx (y := (⟨"java/lang/String", "equals", "(Ljava/lang/Object;)Z"⟩ : MethodName)) (z := (⟨"java/lang/String", "equals", "(Ljava/lang/Object;)Z"⟩ : MethodName)) hown (mvT hZ (hw _ (List.mem_of_getElem? (i := 107) rfl))) (mvT hZ (hw _ (List.mem_of_getElem? (i := 108) rfl))) (notFace_of_selects (args := #[]) (mvT hZ (hw _ (List.mem_of_getElem? (i := 110) rfl)))) (mvT hZ (hw _ (List.mem_of_getElem? (i := 110) rfl))) (mvT hZ (hw _ (List.mem_of_getElem? (i := 109) rfl))) (by decide) (backOf (W := 0) (rm22 l Z a0 hw [] b8 b8 T14.heap n0 O17 (rfl : b8 = b8)) hZ (hw _ (List.mem_of_getElem? (i := 111) rfl)) (hw _ (List.mem_of_getElem? (i := 7) rfl)) (by decide) (by decide)) q26a q26c (g := (mkF m 98 #[.val (.int p1), .val (.int p2), .val (.int p3), .val (.int p4), .val (.int p5), .val (.int (4 : Int32)), .val (.int ((p2 &&& (255 : Int32)).toUInt32.toUInt16.toUInt32.toInt32)), .val (.int ((p3 &&& (255 : Int32)).toUInt32.toUInt16.toUInt32.toInt32)), .val (.int ((p4 &&& (255 : Int32)).toUInt32.toUInt16.toUInt32.toInt32)), .val (.int ((p5 &&& (255 : Int32)).toUInt32.toUInt16.toUInt32.toInt32)), .val (.ref b8), .val (.ref b15), .val (.ref b8)] [(.ref b8), (.ref b8)])) rfl (by rw [hml]; rfl) (Steps.refl _) (argsL := [(.ref b8)]) (rest := []) (lenOf pd_10 rfl) rfl (by show 2 * 0 + _ ≤ _; exact Nat.le_of_eq rfl) (hb hby at_98) (fun _ _ => ⟨rfl, e25, (by decide : 7 + 0 ≤ _), (by decide : 20 + 0 ≤ _)⟩)
  dsimp only [Pt.U, Pt.locs, Pt.cells, Pt.slots] at X26 l26 y26 z26 st26 hQ26
  subst l26 y26 z26
  obtain ⟨rfl, N26q, e26⟩ := hQ26
  have N26 := Fr.app N25 N26q
  replace X26 := X26.more (cells' := 7) (slots' := 20) (by decide) (by decide)
  obtain ⟨fs, hr, hrun, hended, hW, hsame⟩ := X26.leave (v := some (.int (1 : Int32))) (fun h => by rw [Bd.returns] at h; cases h)
  refine ⟨_, _, pre0 _ ?_, hrun, hended, _, _, rfl, ?_, ⟨_, rfl⟩, hW, hsame.mono (by decide) (by decide)⟩
  · show Steps p.tables e below (s₁.setTop (mkF m 0 #[.val (.int p1), .val (.int p2), .val (.int p3), .val (.int p4), .val (.int p5), .unset, .unset, .unset, .unset, .unset, .unset, .unset, .unset] [])) _
    refine XS.iloadN X0.here hx rfl (hb hby at_0) rfl ?_
    show Steps p.tables e below (s₁.setTop (mkF m 1 #[.val (.int p1), .val (.int p2), .val (.int p3), .val (.int p4), .val (.int p5), .unset, .unset, .unset, .unset, .unset, .unset, .unset, .unset] [(.int p1)])) _
    refine XS.iconst X0.here hx rfl (hb hby at_1) ?_
    show Steps p.tables e below (s₁.setTop (mkF m 2 #[.val (.int p1), .val (.int p2), .val (.int p3), .val (.int p4), .val (.int p5), .unset, .unset, .unset, .unset, .unset, .unset, .unset, .unset] [(.int (3 : Int32)), (.int p1)])) _
    refine XS.iand X0.here hx rfl (hb hby at_2) rfl ?_
    show Steps p.tables e below (s₁.setTop (mkF m 3 #[.val (.int p1), .val (.int p2), .val (.int p3), .val (.int p4), .val (.int p5), .unset, .unset, .unset, .unset, .unset, .unset, .unset, .unset] [(.int (p1 &&& (3 : Int32)))])) _
    refine XS.iconst X0.here hx rfl (hb hby at_3) ?_
    show Steps p.tables e below (s₁.setTop (mkF m 4 #[.val (.int p1), .val (.int p2), .val (.int p3), .val (.int p4), .val (.int p5), .unset, .unset, .unset, .unset, .unset, .unset, .unset, .unset] [(.int (1 : Int32)), (.int (p1 &&& (3 : Int32)))])) _
    refine XS.iadd X0.here hx rfl (hb hby at_4) rfl ?_
    show Steps p.tables e below (s₁.setTop (mkF m 5 #[.val (.int p1), .val (.int p2), .val (.int p3), .val (.int p4), .val (.int p5), .unset, .unset, .unset, .unset, .unset, .unset, .unset, .unset] [(.int ((p1 &&& (3 : Int32)) + (1 : Int32)))])) _
    refine XS.istore X0.here hx rfl (hb hby at_5) rfl (l' := #[.val (.int p1), .val (.int p2), .val (.int p3), .val (.int p4), .val (.int p5), .val (.int ((p1 &&& (3 : Int32)) + (1 : Int32))), .unset, .unset, .unset, .unset, .unset, .unset, .unset]) rfl ?_
    show Steps p.tables e below (s₁.setTop (mkF m 7 #[.val (.int p1), .val (.int p2), .val (.int p3), .val (.int p4), .val (.int p5), .val (.int ((p1 &&& (3 : Int32)) + (1 : Int32))), .unset, .unset, .unset, .unset, .unset, .unset, .unset] [])) _
    rw [hn7]
    show Steps p.tables e below (s₁.setTop (mkF m 7 #[.val (.int p1), .val (.int p2), .val (.int p3), .val (.int p4), .val (.int p5), .val (.int (4 : Int32)), .unset, .unset, .unset, .unset, .unset, .unset, .unset] [])) _
    refine XS.iloadN X0.here hx rfl (hb hby at_7) rfl ?_
    show Steps p.tables e below (s₁.setTop (mkF m 8 #[.val (.int p1), .val (.int p2), .val (.int p3), .val (.int p4), .val (.int p5), .val (.int (4 : Int32)), .unset, .unset, .unset, .unset, .unset, .unset, .unset] [(.int p2)])) _
    refine XS.sipush X0.here hx rfl (hb hby at_8) ?_
    show Steps p.tables e below (s₁.setTop (mkF m 11 #[.val (.int p1), .val (.int p2), .val (.int p3), .val (.int p4), .val (.int p5), .val (.int (4 : Int32)), .unset, .unset, .unset, .unset, .unset, .unset, .unset] [(.int (255 : Int32)), (.int p2)])) _
    refine XS.iand X0.here hx rfl (hb hby at_11) rfl ?_
    show Steps p.tables e below (s₁.setTop (mkF m 12 #[.val (.int p1), .val (.int p2), .val (.int p3), .val (.int p4), .val (.int p5), .val (.int (4 : Int32)), .unset, .unset, .unset, .unset, .unset, .unset, .unset] [(.int (p2 &&& (255 : Int32)))])) _
    refine XS.i2c X0.here hx rfl (hb hby at_12) rfl ?_
    show Steps p.tables e below (s₁.setTop (mkF m 13 #[.val (.int p1), .val (.int p2), .val (.int p3), .val (.int p4), .val (.int p5), .val (.int (4 : Int32)), .unset, .unset, .unset, .unset, .unset, .unset, .unset] [(.int ((p2 &&& (255 : Int32)).toUInt32.toUInt16.toUInt32.toInt32))])) _
    refine XS.istore X0.here hx rfl (hb hby at_13) rfl (l' := #[.val (.int p1), .val (.int p2), .val (.int p3), .val (.int p4), .val (.int p5), .val (.int (4 : Int32)), .val (.int ((p2 &&& (255 : Int32)).toUInt32.toUInt16.toUInt32.toInt32)), .unset, .unset, .unset, .unset, .unset, .unset]) rfl ?_
    show Steps p.tables e below (s₁.setTop (mkF m 15 #[.val (.int p1), .val (.int p2), .val (.int p3), .val (.int p4), .val (.int p5), .val (.int (4 : Int32)), .val (.int ((p2 &&& (255 : Int32)).toUInt32.toUInt16.toUInt32.toInt32)), .unset, .unset, .unset, .unset, .unset, .unset] [])) _
    refine XS.iloadN X0.here hx rfl (hb hby at_15) rfl ?_
    show Steps p.tables e below (s₁.setTop (mkF m 16 #[.val (.int p1), .val (.int p2), .val (.int p3), .val (.int p4), .val (.int p5), .val (.int (4 : Int32)), .val (.int ((p2 &&& (255 : Int32)).toUInt32.toUInt16.toUInt32.toInt32)), .unset, .unset, .unset, .unset, .unset, .unset] [(.int p3)])) _
    refine XS.sipush X0.here hx rfl (hb hby at_16) ?_
    show Steps p.tables e below (s₁.setTop (mkF m 19 #[.val (.int p1), .val (.int p2), .val (.int p3), .val (.int p4), .val (.int p5), .val (.int (4 : Int32)), .val (.int ((p2 &&& (255 : Int32)).toUInt32.toUInt16.toUInt32.toInt32)), .unset, .unset, .unset, .unset, .unset, .unset] [(.int (255 : Int32)), (.int p3)])) _
    refine XS.iand X0.here hx rfl (hb hby at_19) rfl ?_
    show Steps p.tables e below (s₁.setTop (mkF m 20 #[.val (.int p1), .val (.int p2), .val (.int p3), .val (.int p4), .val (.int p5), .val (.int (4 : Int32)), .val (.int ((p2 &&& (255 : Int32)).toUInt32.toUInt16.toUInt32.toInt32)), .unset, .unset, .unset, .unset, .unset, .unset] [(.int (p3 &&& (255 : Int32)))])) _
    refine XS.i2c X0.here hx rfl (hb hby at_20) rfl ?_
    show Steps p.tables e below (s₁.setTop (mkF m 21 #[.val (.int p1), .val (.int p2), .val (.int p3), .val (.int p4), .val (.int p5), .val (.int (4 : Int32)), .val (.int ((p2 &&& (255 : Int32)).toUInt32.toUInt16.toUInt32.toInt32)), .unset, .unset, .unset, .unset, .unset, .unset] [(.int ((p3 &&& (255 : Int32)).toUInt32.toUInt16.toUInt32.toInt32))])) _
    refine XS.istore X0.here hx rfl (hb hby at_21) rfl (l' := #[.val (.int p1), .val (.int p2), .val (.int p3), .val (.int p4), .val (.int p5), .val (.int (4 : Int32)), .val (.int ((p2 &&& (255 : Int32)).toUInt32.toUInt16.toUInt32.toInt32)), .val (.int ((p3 &&& (255 : Int32)).toUInt32.toUInt16.toUInt32.toInt32)), .unset, .unset, .unset, .unset, .unset]) rfl ?_
    show Steps p.tables e below (s₁.setTop (mkF m 23 #[.val (.int p1), .val (.int p2), .val (.int p3), .val (.int p4), .val (.int p5), .val (.int (4 : Int32)), .val (.int ((p2 &&& (255 : Int32)).toUInt32.toUInt16.toUInt32.toInt32)), .val (.int ((p3 &&& (255 : Int32)).toUInt32.toUInt16.toUInt32.toInt32)), .unset, .unset, .unset, .unset, .unset] [])) _
    refine XS.iloadN X0.here hx rfl (hb hby at_23) rfl ?_
    show Steps p.tables e below (s₁.setTop (mkF m 24 #[.val (.int p1), .val (.int p2), .val (.int p3), .val (.int p4), .val (.int p5), .val (.int (4 : Int32)), .val (.int ((p2 &&& (255 : Int32)).toUInt32.toUInt16.toUInt32.toInt32)), .val (.int ((p3 &&& (255 : Int32)).toUInt32.toUInt16.toUInt32.toInt32)), .unset, .unset, .unset, .unset, .unset] [(.int p4)])) _
    refine XS.sipush X0.here hx rfl (hb hby at_24) ?_
    show Steps p.tables e below (s₁.setTop (mkF m 27 #[.val (.int p1), .val (.int p2), .val (.int p3), .val (.int p4), .val (.int p5), .val (.int (4 : Int32)), .val (.int ((p2 &&& (255 : Int32)).toUInt32.toUInt16.toUInt32.toInt32)), .val (.int ((p3 &&& (255 : Int32)).toUInt32.toUInt16.toUInt32.toInt32)), .unset, .unset, .unset, .unset, .unset] [(.int (255 : Int32)), (.int p4)])) _
    refine XS.iand X0.here hx rfl (hb hby at_27) rfl ?_
    show Steps p.tables e below (s₁.setTop (mkF m 28 #[.val (.int p1), .val (.int p2), .val (.int p3), .val (.int p4), .val (.int p5), .val (.int (4 : Int32)), .val (.int ((p2 &&& (255 : Int32)).toUInt32.toUInt16.toUInt32.toInt32)), .val (.int ((p3 &&& (255 : Int32)).toUInt32.toUInt16.toUInt32.toInt32)), .unset, .unset, .unset, .unset, .unset] [(.int (p4 &&& (255 : Int32)))])) _
    refine XS.i2c X0.here hx rfl (hb hby at_28) rfl ?_
    show Steps p.tables e below (s₁.setTop (mkF m 29 #[.val (.int p1), .val (.int p2), .val (.int p3), .val (.int p4), .val (.int p5), .val (.int (4 : Int32)), .val (.int ((p2 &&& (255 : Int32)).toUInt32.toUInt16.toUInt32.toInt32)), .val (.int ((p3 &&& (255 : Int32)).toUInt32.toUInt16.toUInt32.toInt32)), .unset, .unset, .unset, .unset, .unset] [(.int ((p4 &&& (255 : Int32)).toUInt32.toUInt16.toUInt32.toInt32))])) _
    refine XS.istore X0.here hx rfl (hb hby at_29) rfl (l' := #[.val (.int p1), .val (.int p2), .val (.int p3), .val (.int p4), .val (.int p5), .val (.int (4 : Int32)), .val (.int ((p2 &&& (255 : Int32)).toUInt32.toUInt16.toUInt32.toInt32)), .val (.int ((p3 &&& (255 : Int32)).toUInt32.toUInt16.toUInt32.toInt32)), .val (.int ((p4 &&& (255 : Int32)).toUInt32.toUInt16.toUInt32.toInt32)), .unset, .unset, .unset, .unset]) rfl ?_
    show Steps p.tables e below (s₁.setTop (mkF m 31 #[.val (.int p1), .val (.int p2), .val (.int p3), .val (.int p4), .val (.int p5), .val (.int (4 : Int32)), .val (.int ((p2 &&& (255 : Int32)).toUInt32.toUInt16.toUInt32.toInt32)), .val (.int ((p3 &&& (255 : Int32)).toUInt32.toUInt16.toUInt32.toInt32)), .val (.int ((p4 &&& (255 : Int32)).toUInt32.toUInt16.toUInt32.toInt32)), .unset, .unset, .unset, .unset] [])) _
    refine XS.iload X0.here hx rfl (hb hby at_31) rfl ?_
    show Steps p.tables e below (s₁.setTop (mkF m 33 #[.val (.int p1), .val (.int p2), .val (.int p3), .val (.int p4), .val (.int p5), .val (.int (4 : Int32)), .val (.int ((p2 &&& (255 : Int32)).toUInt32.toUInt16.toUInt32.toInt32)), .val (.int ((p3 &&& (255 : Int32)).toUInt32.toUInt16.toUInt32.toInt32)), .val (.int ((p4 &&& (255 : Int32)).toUInt32.toUInt16.toUInt32.toInt32)), .unset, .unset, .unset, .unset] [(.int p5)])) _
    refine XS.sipush X0.here hx rfl (hb hby at_33) ?_
    show Steps p.tables e below (s₁.setTop (mkF m 36 #[.val (.int p1), .val (.int p2), .val (.int p3), .val (.int p4), .val (.int p5), .val (.int (4 : Int32)), .val (.int ((p2 &&& (255 : Int32)).toUInt32.toUInt16.toUInt32.toInt32)), .val (.int ((p3 &&& (255 : Int32)).toUInt32.toUInt16.toUInt32.toInt32)), .val (.int ((p4 &&& (255 : Int32)).toUInt32.toUInt16.toUInt32.toInt32)), .unset, .unset, .unset, .unset] [(.int (255 : Int32)), (.int p5)])) _
    refine XS.iand X0.here hx rfl (hb hby at_36) rfl ?_
    show Steps p.tables e below (s₁.setTop (mkF m 37 #[.val (.int p1), .val (.int p2), .val (.int p3), .val (.int p4), .val (.int p5), .val (.int (4 : Int32)), .val (.int ((p2 &&& (255 : Int32)).toUInt32.toUInt16.toUInt32.toInt32)), .val (.int ((p3 &&& (255 : Int32)).toUInt32.toUInt16.toUInt32.toInt32)), .val (.int ((p4 &&& (255 : Int32)).toUInt32.toUInt16.toUInt32.toInt32)), .unset, .unset, .unset, .unset] [(.int (p5 &&& (255 : Int32)))])) _
    refine XS.i2c X0.here hx rfl (hb hby at_37) rfl ?_
    show Steps p.tables e below (s₁.setTop (mkF m 38 #[.val (.int p1), .val (.int p2), .val (.int p3), .val (.int p4), .val (.int p5), .val (.int (4 : Int32)), .val (.int ((p2 &&& (255 : Int32)).toUInt32.toUInt16.toUInt32.toInt32)), .val (.int ((p3 &&& (255 : Int32)).toUInt32.toUInt16.toUInt32.toInt32)), .val (.int ((p4 &&& (255 : Int32)).toUInt32.toUInt16.toUInt32.toInt32)), .unset, .unset, .unset, .unset] [(.int ((p5 &&& (255 : Int32)).toUInt32.toUInt16.toUInt32.toInt32))])) _
    refine XS.istore X0.here hx rfl (hb hby at_38) rfl (l' := #[.val (.int p1), .val (.int p2), .val (.int p3), .val (.int p4), .val (.int p5), .val (.int (4 : Int32)), .val (.int ((p2 &&& (255 : Int32)).toUInt32.toUInt16.toUInt32.toInt32)), .val (.int ((p3 &&& (255 : Int32)).toUInt32.toUInt16.toUInt32.toInt32)), .val (.int ((p4 &&& (255 : Int32)).toUInt32.toUInt16.toUInt32.toInt32)), .val (.int ((p5 &&& (255 : Int32)).toUInt32.toUInt16.toUInt32.toInt32)), .unset, .unset, .unset]) rfl ?_
    show Steps p.tables e below (s₁.setTop (mkF m 40 #[.val (.int p1), .val (.int p2), .val (.int p3), .val (.int p4), .val (.int p5), .val (.int (4 : Int32)), .val (.int ((p2 &&& (255 : Int32)).toUInt32.toUInt16.toUInt32.toInt32)), .val (.int ((p3 &&& (255 : Int32)).toUInt32.toUInt16.toUInt32.toInt32)), .val (.int ((p4 &&& (255 : Int32)).toUInt32.toUInt16.toUInt32.toInt32)), .val (.int ((p5 &&& (255 : Int32)).toUInt32.toUInt16.toUInt32.toInt32)), .unset, .unset, .unset] [])) _
    refine XS.iload X0.here hx rfl (hb hby at_40) rfl ?_
    show Steps p.tables e below (s₁.setTop (mkF m 42 #[.val (.int p1), .val (.int p2), .val (.int p3), .val (.int p4), .val (.int p5), .val (.int (4 : Int32)), .val (.int ((p2 &&& (255 : Int32)).toUInt32.toUInt16.toUInt32.toInt32)), .val (.int ((p3 &&& (255 : Int32)).toUInt32.toUInt16.toUInt32.toInt32)), .val (.int ((p4 &&& (255 : Int32)).toUInt32.toUInt16.toUInt32.toInt32)), .val (.int ((p5 &&& (255 : Int32)).toUInt32.toUInt16.toUInt32.toInt32)), .unset, .unset, .unset] [(.int (4 : Int32))])) _
    refine XS.iload X0.here hx rfl (hb hby at_42) rfl ?_
    show Steps p.tables e below (s₁.setTop (mkF m 44 #[.val (.int p1), .val (.int p2), .val (.int p3), .val (.int p4), .val (.int p5), .val (.int (4 : Int32)), .val (.int ((p2 &&& (255 : Int32)).toUInt32.toUInt16.toUInt32.toInt32)), .val (.int ((p3 &&& (255 : Int32)).toUInt32.toUInt16.toUInt32.toInt32)), .val (.int ((p4 &&& (255 : Int32)).toUInt32.toUInt16.toUInt32.toInt32)), .val (.int ((p5 &&& (255 : Int32)).toUInt32.toUInt16.toUInt32.toInt32)), .unset, .unset, .unset] [(.int ((p2 &&& (255 : Int32)).toUInt32.toUInt16.toUInt32.toInt32)), (.int (4 : Int32))])) _
    refine XS.iload X0.here hx rfl (hb hby at_44) rfl ?_
    show Steps p.tables e below (s₁.setTop (mkF m 46 #[.val (.int p1), .val (.int p2), .val (.int p3), .val (.int p4), .val (.int p5), .val (.int (4 : Int32)), .val (.int ((p2 &&& (255 : Int32)).toUInt32.toUInt16.toUInt32.toInt32)), .val (.int ((p3 &&& (255 : Int32)).toUInt32.toUInt16.toUInt32.toInt32)), .val (.int ((p4 &&& (255 : Int32)).toUInt32.toUInt16.toUInt32.toInt32)), .val (.int ((p5 &&& (255 : Int32)).toUInt32.toUInt16.toUInt32.toInt32)), .unset, .unset, .unset] [(.int ((p3 &&& (255 : Int32)).toUInt32.toUInt16.toUInt32.toInt32)), (.int ((p2 &&& (255 : Int32)).toUInt32.toUInt16.toUInt32.toInt32)), (.int (4 : Int32))])) _
    refine XS.iload X0.here hx rfl (hb hby at_46) rfl ?_
    show Steps p.tables e below (s₁.setTop (mkF m 48 #[.val (.int p1), .val (.int p2), .val (.int p3), .val (.int p4), .val (.int p5), .val (.int (4 : Int32)), .val (.int ((p2 &&& (255 : Int32)).toUInt32.toUInt16.toUInt32.toInt32)), .val (.int ((p3 &&& (255 : Int32)).toUInt32.toUInt16.toUInt32.toInt32)), .val (.int ((p4 &&& (255 : Int32)).toUInt32.toUInt16.toUInt32.toInt32)), .val (.int ((p5 &&& (255 : Int32)).toUInt32.toUInt16.toUInt32.toInt32)), .unset, .unset, .unset] [(.int ((p4 &&& (255 : Int32)).toUInt32.toUInt16.toUInt32.toInt32)), (.int ((p3 &&& (255 : Int32)).toUInt32.toUInt16.toUInt32.toInt32)), (.int ((p2 &&& (255 : Int32)).toUInt32.toUInt16.toUInt32.toInt32)), (.int (4 : Int32))])) _
    refine XS.iload X0.here hx rfl (hb hby at_48) rfl ?_
    show Steps p.tables e below (s₁.setTop (mkF m 50 #[.val (.int p1), .val (.int p2), .val (.int p3), .val (.int p4), .val (.int p5), .val (.int (4 : Int32)), .val (.int ((p2 &&& (255 : Int32)).toUInt32.toUInt16.toUInt32.toInt32)), .val (.int ((p3 &&& (255 : Int32)).toUInt32.toUInt16.toUInt32.toInt32)), .val (.int ((p4 &&& (255 : Int32)).toUInt32.toUInt16.toUInt32.toInt32)), .val (.int ((p5 &&& (255 : Int32)).toUInt32.toUInt16.toUInt32.toInt32)), .unset, .unset, .unset] [(.int ((p5 &&& (255 : Int32)).toUInt32.toUInt16.toUInt32.toInt32)), (.int ((p4 &&& (255 : Int32)).toUInt32.toUInt16.toUInt32.toInt32)), (.int ((p3 &&& (255 : Int32)).toUInt32.toUInt16.toUInt32.toInt32)), (.int ((p2 &&& (255 : Int32)).toUInt32.toUInt16.toUInt32.toInt32)), (.int (4 : Int32))])) _
    refine st7 _ ?_
    show Steps p.tables e below (T7.setTop (mkF m 53 #[.val (.int p1), .val (.int p2), .val (.int p3), .val (.int p4), .val (.int p5), .val (.int (4 : Int32)), .val (.int ((p2 &&& (255 : Int32)).toUInt32.toUInt16.toUInt32.toInt32)), .val (.int ((p3 &&& (255 : Int32)).toUInt32.toUInt16.toUInt32.toInt32)), .val (.int ((p4 &&& (255 : Int32)).toUInt32.toUInt16.toUInt32.toInt32)), .val (.int ((p5 &&& (255 : Int32)).toUInt32.toUInt16.toUInt32.toInt32)), .unset, .unset, .unset] [(.ref b8)])) _
    refine XS.astore X7.here hx rfl (hb hby at_53) rfl rfl (l' := #[.val (.int p1), .val (.int p2), .val (.int p3), .val (.int p4), .val (.int p5), .val (.int (4 : Int32)), .val (.int ((p2 &&& (255 : Int32)).toUInt32.toUInt16.toUInt32.toInt32)), .val (.int ((p3 &&& (255 : Int32)).toUInt32.toUInt16.toUInt32.toInt32)), .val (.int ((p4 &&& (255 : Int32)).toUInt32.toUInt16.toUInt32.toInt32)), .val (.int ((p5 &&& (255 : Int32)).toUInt32.toUInt16.toUInt32.toInt32)), .val (.ref b8), .unset, .unset]) rfl ?_
    show Steps p.tables e below (T7.setTop (mkF m 55 #[.val (.int p1), .val (.int p2), .val (.int p3), .val (.int p4), .val (.int p5), .val (.int (4 : Int32)), .val (.int ((p2 &&& (255 : Int32)).toUInt32.toUInt16.toUInt32.toInt32)), .val (.int ((p3 &&& (255 : Int32)).toUInt32.toUInt16.toUInt32.toInt32)), .val (.int ((p4 &&& (255 : Int32)).toUInt32.toUInt16.toUInt32.toInt32)), .val (.int ((p5 &&& (255 : Int32)).toUInt32.toUInt16.toUInt32.toInt32)), .val (.ref b8), .unset, .unset] [])) _
    refine XS.aload X7.here hx rfl (hb hby at_55) rfl rfl ?_
    show Steps p.tables e below (T7.setTop (mkF m 57 #[.val (.int p1), .val (.int p2), .val (.int p3), .val (.int p4), .val (.int p5), .val (.int (4 : Int32)), .val (.int ((p2 &&& (255 : Int32)).toUInt32.toUInt16.toUInt32.toInt32)), .val (.int ((p3 &&& (255 : Int32)).toUInt32.toUInt16.toUInt32.toInt32)), .val (.int ((p4 &&& (255 : Int32)).toUInt32.toUInt16.toUInt32.toInt32)), .val (.int ((p5 &&& (255 : Int32)).toUInt32.toUInt16.toUInt32.toInt32)), .val (.ref b8), .unset, .unset] [(.ref b8)])) _
    refine st14 _ ?_
    show Steps p.tables e below (T14.setTop (mkF m 60 #[.val (.int p1), .val (.int p2), .val (.int p3), .val (.int p4), .val (.int p5), .val (.int (4 : Int32)), .val (.int ((p2 &&& (255 : Int32)).toUInt32.toUInt16.toUInt32.toInt32)), .val (.int ((p3 &&& (255 : Int32)).toUInt32.toUInt16.toUInt32.toInt32)), .val (.int ((p4 &&& (255 : Int32)).toUInt32.toUInt16.toUInt32.toInt32)), .val (.int ((p5 &&& (255 : Int32)).toUInt32.toUInt16.toUInt32.toInt32)), .val (.ref b8), .unset, .unset] [(.ref b15)])) _
    refine XS.astore X14.here hx rfl (hb hby at_60) rfl rfl (l' := #[.val (.int p1), .val (.int p2), .val (.int p3), .val (.int p4), .val (.int p5), .val (.int (4 : Int32)), .val (.int ((p2 &&& (255 : Int32)).toUInt32.toUInt16.toUInt32.toInt32)), .val (.int ((p3 &&& (255 : Int32)).toUInt32.toUInt16.toUInt32.toInt32)), .val (.int ((p4 &&& (255 : Int32)).toUInt32.toUInt16.toUInt32.toInt32)), .val (.int ((p5 &&& (255 : Int32)).toUInt32.toUInt16.toUInt32.toInt32)), .val (.ref b8), .val (.ref b15), .unset]) rfl ?_
    show Steps p.tables e below (T14.setTop (mkF m 62 #[.val (.int p1), .val (.int p2), .val (.int p3), .val (.int p4), .val (.int p5), .val (.int (4 : Int32)), .val (.int ((p2 &&& (255 : Int32)).toUInt32.toUInt16.toUInt32.toInt32)), .val (.int ((p3 &&& (255 : Int32)).toUInt32.toUInt16.toUInt32.toInt32)), .val (.int ((p4 &&& (255 : Int32)).toUInt32.toUInt16.toUInt32.toInt32)), .val (.int ((p5 &&& (255 : Int32)).toUInt32.toUInt16.toUInt32.toInt32)), .val (.ref b8), .val (.ref b15), .unset] [])) _
    refine XS.aload X14.here hx rfl (hb hby at_62) rfl rfl ?_
    show Steps p.tables e below (T14.setTop (mkF m 64 #[.val (.int p1), .val (.int p2), .val (.int p3), .val (.int p4), .val (.int p5), .val (.int (4 : Int32)), .val (.int ((p2 &&& (255 : Int32)).toUInt32.toUInt16.toUInt32.toInt32)), .val (.int ((p3 &&& (255 : Int32)).toUInt32.toUInt16.toUInt32.toInt32)), .val (.int ((p4 &&& (255 : Int32)).toUInt32.toUInt16.toUInt32.toInt32)), .val (.int ((p5 &&& (255 : Int32)).toUInt32.toUInt16.toUInt32.toInt32)), .val (.ref b8), .val (.ref b15), .unset] [(.ref b15)])) _
    refine st18.trans ?_
    show Steps p.tables e below (T18.setTop (mkF m 67 #[.val (.int p1), .val (.int p2), .val (.int p3), .val (.int p4), .val (.int p5), .val (.int (4 : Int32)), .val (.int ((p2 &&& (255 : Int32)).toUInt32.toUInt16.toUInt32.toInt32)), .val (.int ((p3 &&& (255 : Int32)).toUInt32.toUInt16.toUInt32.toInt32)), .val (.int ((p4 &&& (255 : Int32)).toUInt32.toUInt16.toUInt32.toInt32)), .val (.int ((p5 &&& (255 : Int32)).toUInt32.toUInt16.toUInt32.toInt32)), .val (.ref b8), .val (.ref b15), .unset] [(.ref b8)])) _
    refine XS.astore X18.here hx rfl (hb hby at_67) rfl rfl (l' := #[.val (.int p1), .val (.int p2), .val (.int p3), .val (.int p4), .val (.int p5), .val (.int (4 : Int32)), .val (.int ((p2 &&& (255 : Int32)).toUInt32.toUInt16.toUInt32.toInt32)), .val (.int ((p3 &&& (255 : Int32)).toUInt32.toUInt16.toUInt32.toInt32)), .val (.int ((p4 &&& (255 : Int32)).toUInt32.toUInt16.toUInt32.toInt32)), .val (.int ((p5 &&& (255 : Int32)).toUInt32.toUInt16.toUInt32.toInt32)), .val (.ref b8), .val (.ref b15), .val (.ref b8)]) rfl ?_
    show Steps p.tables e below (T18.setTop (mkF m 69 #[.val (.int p1), .val (.int p2), .val (.int p3), .val (.int p4), .val (.int p5), .val (.int (4 : Int32)), .val (.int ((p2 &&& (255 : Int32)).toUInt32.toUInt16.toUInt32.toInt32)), .val (.int ((p3 &&& (255 : Int32)).toUInt32.toUInt16.toUInt32.toInt32)), .val (.int ((p4 &&& (255 : Int32)).toUInt32.toUInt16.toUInt32.toInt32)), .val (.int ((p5 &&& (255 : Int32)).toUInt32.toUInt16.toUInt32.toInt32)), .val (.ref b8), .val (.ref b15), .val (.ref b8)] [])) _
    refine XS.aload X18.here hx rfl (hb hby at_69) rfl rfl ?_
    show Steps p.tables e below (T18.setTop (mkF m 71 #[.val (.int p1), .val (.int p2), .val (.int p3), .val (.int p4), .val (.int p5), .val (.int (4 : Int32)), .val (.int ((p2 &&& (255 : Int32)).toUInt32.toUInt16.toUInt32.toInt32)), .val (.int ((p3 &&& (255 : Int32)).toUInt32.toUInt16.toUInt32.toInt32)), .val (.int ((p4 &&& (255 : Int32)).toUInt32.toUInt16.toUInt32.toInt32)), .val (.int ((p5 &&& (255 : Int32)).toUInt32.toUInt16.toUInt32.toInt32)), .val (.ref b8), .val (.ref b15), .val (.ref b8)] [(.ref b8)])) _
    refine st21.trans ?_
    show Steps p.tables e below (T21.setTop (mkF m 74 #[.val (.int p1), .val (.int p2), .val (.int p3), .val (.int p4), .val (.int p5), .val (.int (4 : Int32)), .val (.int ((p2 &&& (255 : Int32)).toUInt32.toUInt16.toUInt32.toInt32)), .val (.int ((p3 &&& (255 : Int32)).toUInt32.toUInt16.toUInt32.toInt32)), .val (.int ((p4 &&& (255 : Int32)).toUInt32.toUInt16.toUInt32.toInt32)), .val (.int ((p5 &&& (255 : Int32)).toUInt32.toUInt16.toUInt32.toInt32)), .val (.ref b8), .val (.ref b15), .val (.ref b8)] [(.int (4 : Int32))])) _
    refine XS.iload X21.here hx rfl (hb hby at_74) rfl ?_
    show Steps p.tables e below (T21.setTop (mkF m 76 #[.val (.int p1), .val (.int p2), .val (.int p3), .val (.int p4), .val (.int p5), .val (.int (4 : Int32)), .val (.int ((p2 &&& (255 : Int32)).toUInt32.toUInt16.toUInt32.toInt32)), .val (.int ((p3 &&& (255 : Int32)).toUInt32.toUInt16.toUInt32.toInt32)), .val (.int ((p4 &&& (255 : Int32)).toUInt32.toUInt16.toUInt32.toInt32)), .val (.int ((p5 &&& (255 : Int32)).toUInt32.toUInt16.toUInt32.toInt32)), .val (.ref b8), .val (.ref b15), .val (.ref b8)] [(.int (4 : Int32)), (.int (4 : Int32))])) _
    refine XS.icmpYes X21.here hx rfl (pc0 := 76) (pc' := 81) rfl (hb hby at_76) rfl (teq (by decide : (4 : Int32) = (4 : Int32))).1 (by decide) (by decide) ?_
    show Steps p.tables e below (T21.setTop (mkF m 81 #[.val (.int p1), .val (.int p2), .val (.int p3), .val (.int p4), .val (.int p5), .val (.int (4 : Int32)), .val (.int ((p2 &&& (255 : Int32)).toUInt32.toUInt16.toUInt32.toInt32)), .val (.int ((p3 &&& (255 : Int32)).toUInt32.toUInt16.toUInt32.toInt32)), .val (.int ((p4 &&& (255 : Int32)).toUInt32.toUInt16.toUInt32.toInt32)), .val (.int ((p5 &&& (255 : Int32)).toUInt32.toUInt16.toUInt32.toInt32)), .val (.ref b8), .val (.ref b15), .val (.ref b8)] [])) _
    refine XS.aload X21.here hx rfl (hb hby at_81) rfl rfl ?_
    show Steps p.tables e below (T21.setTop (mkF m 83 #[.val (.int p1), .val (.int p2), .val (.int p3), .val (.int p4), .val (.int p5), .val (.int (4 : Int32)), .val (.int ((p2 &&& (255 : Int32)).toUInt32.toUInt16.toUInt32.toInt32)), .val (.int ((p3 &&& (255 : Int32)).toUInt32.toUInt16.toUInt32.toInt32)), .val (.int ((p4 &&& (255 : Int32)).toUInt32.toUInt16.toUInt32.toInt32)), .val (.int ((p5 &&& (255 : Int32)).toUInt32.toUInt16.toUInt32.toInt32)), .val (.ref b8), .val (.ref b15), .val (.ref b8)] [(.ref b8)])) _
    refine XS.iconst X21.here hx rfl (hb hby at_83) ?_
    show Steps p.tables e below (T21.setTop (mkF m 84 #[.val (.int p1), .val (.int p2), .val (.int p3), .val (.int p4), .val (.int p5), .val (.int (4 : Int32)), .val (.int ((p2 &&& (255 : Int32)).toUInt32.toUInt16.toUInt32.toInt32)), .val (.int ((p3 &&& (255 : Int32)).toUInt32.toUInt16.toUInt32.toInt32)), .val (.int ((p4 &&& (255 : Int32)).toUInt32.toUInt16.toUInt32.toInt32)), .val (.int ((p5 &&& (255 : Int32)).toUInt32.toUInt16.toUInt32.toInt32)), .val (.ref b8), .val (.ref b15), .val (.ref b8)] [(.int (0 : Int32)), (.ref b8)])) _
    refine st25.trans ?_
    show Steps p.tables e below (T25.setTop (mkF m 87 #[.val (.int p1), .val (.int p2), .val (.int p3), .val (.int p4), .val (.int p5), .val (.int (4 : Int32)), .val (.int ((p2 &&& (255 : Int32)).toUInt32.toUInt16.toUInt32.toInt32)), .val (.int ((p3 &&& (255 : Int32)).toUInt32.toUInt16.toUInt32.toInt32)), .val (.int ((p4 &&& (255 : Int32)).toUInt32.toUInt16.toUInt32.toInt32)), .val (.int ((p5 &&& (255 : Int32)).toUInt32.toUInt16.toUInt32.toInt32)), .val (.ref b8), .val (.ref b15), .val (.ref b8)] [(.int ((p2 &&& (255 : Int32)).toUInt32.toUInt16.toUInt32.toInt32).toUInt32.toUInt16.toUInt32.toInt32)])) _
    refine XS.iload X25.here hx rfl (hb hby at_87) rfl ?_
    show Steps p.tables e below (T25.setTop (mkF m 89 #[.val (.int p1), .val (.int p2), .val (.int p3), .val (.int p4), .val (.int p5), .val (.int (4 : Int32)), .val (.int ((p2 &&& (255 : Int32)).toUInt32.toUInt16.toUInt32.toInt32)), .val (.int ((p3 &&& (255 : Int32)).toUInt32.toUInt16.toUInt32.toInt32)), .val (.int ((p4 &&& (255 : Int32)).toUInt32.toUInt16.toUInt32.toInt32)), .val (.int ((p5 &&& (255 : Int32)).toUInt32.toUInt16.toUInt32.toInt32)), .val (.ref b8), .val (.ref b15), .val (.ref b8)] [(.int ((p2 &&& (255 : Int32)).toUInt32.toUInt16.toUInt32.toInt32)), (.int ((p2 &&& (255 : Int32)).toUInt32.toUInt16.toUInt32.toInt32).toUInt32.toUInt16.toUInt32.toInt32)])) _
    refine XS.icmpYes X25.here hx rfl (pc0 := 89) (pc' := 94) rfl (hb hby at_89) rfl (teq hc89).1 (by decide) (by decide) ?_
    show Steps p.tables e below (T25.setTop (mkF m 94 #[.val (.int p1), .val (.int p2), .val (.int p3), .val (.int p4), .val (.int p5), .val (.int (4 : Int32)), .val (.int ((p2 &&& (255 : Int32)).toUInt32.toUInt16.toUInt32.toInt32)), .val (.int ((p3 &&& (255 : Int32)).toUInt32.toUInt16.toUInt32.toInt32)), .val (.int ((p4 &&& (255 : Int32)).toUInt32.toUInt16.toUInt32.toInt32)), .val (.int ((p5 &&& (255 : Int32)).toUInt32.toUInt16.toUInt32.toInt32)), .val (.ref b8), .val (.ref b15), .val (.ref b8)] [])) _
    refine XS.aload X25.here hx rfl (hb hby at_94) rfl rfl ?_
    show Steps p.tables e below (T25.setTop (mkF m 96 #[.val (.int p1), .val (.int p2), .val (.int p3), .val (.int p4), .val (.int p5), .val (.int (4 : Int32)), .val (.int ((p2 &&& (255 : Int32)).toUInt32.toUInt16.toUInt32.toInt32)), .val (.int ((p3 &&& (255 : Int32)).toUInt32.toUInt16.toUInt32.toInt32)), .val (.int ((p4 &&& (255 : Int32)).toUInt32.toUInt16.toUInt32.toInt32)), .val (.int ((p5 &&& (255 : Int32)).toUInt32.toUInt16.toUInt32.toInt32)), .val (.ref b8), .val (.ref b15), .val (.ref b8)] [(.ref b8)])) _
    refine XS.aload X25.here hx rfl (hb hby at_96) rfl rfl ?_
    show Steps p.tables e below (T25.setTop (mkF m 98 #[.val (.int p1), .val (.int p2), .val (.int p3), .val (.int p4), .val (.int p5), .val (.int (4 : Int32)), .val (.int ((p2 &&& (255 : Int32)).toUInt32.toUInt16.toUInt32.toInt32)), .val (.int ((p3 &&& (255 : Int32)).toUInt32.toUInt16.toUInt32.toInt32)), .val (.int ((p4 &&& (255 : Int32)).toUInt32.toUInt16.toUInt32.toInt32)), .val (.int ((p5 &&& (255 : Int32)).toUInt32.toUInt16.toUInt32.toInt32)), .val (.ref b8), .val (.ref b15), .val (.ref b8)] [(.ref b8), (.ref b8)])) _
    refine st26.trans ?_
    show Steps p.tables e below (T26.setTop (mkF m 101 #[.val (.int p1), .val (.int p2), .val (.int p3), .val (.int p4), .val (.int p5), .val (.int (4 : Int32)), .val (.int ((p2 &&& (255 : Int32)).toUInt32.toUInt16.toUInt32.toInt32)), .val (.int ((p3 &&& (255 : Int32)).toUInt32.toUInt16.toUInt32.toInt32)), .val (.int ((p4 &&& (255 : Int32)).toUInt32.toUInt16.toUInt32.toInt32)), .val (.int ((p5 &&& (255 : Int32)).toUInt32.toUInt16.toUInt32.toInt32)), .val (.ref b8), .val (.ref b15), .val (.ref b8)] [(.int (1 : Int32))])) _
    exact retN X26 hx (t := .boolean) Bd.returns (by simp) (hb hby at_101) hr
  · skip
    exact ⟨rfl, N26⟩
theorem own_eqv {args : Array Value} {s : State} {t : Term} {n : Int32} (h : (Jvm.Cond.eq t (.int n)).value args s none s [] = some true) : t.eval args s none [] s = some (.int n) := by
  simp only [Cond.value, Term.eval] at h; cases ht : t.eval args s none [] s with | none => simp [ht] at h | some x => cases x <;> simp [ht] at h ⊢; exact h
theorem own_compact {s : State} {args : Array Value} {t : Term} (h1 : (Jvm.Cond.isInt t).value args s none s [] = some true) (h2 : (Jvm.Cond.not (.eq t (.int 0))).value args s none s [] = some true) : ∃ z : Int32, t.eval args s none [] s = some (.int z) ∧ ¬ z = 0 := by
  obtain ⟨z, ez⟩ := is_v h1
  refine ⟨z, ez, fun q => ?_⟩
  subst q
  simp [Cond.value, Term.eval, ez] at h2
theorem own_m255 (x : Int32) : ¬ (x &&& 255) < 0 ∧ ¬ (255 : Int32) < (x &&& 255) := by
  have h := c_and x 255 (by decide)
  rw [show (255 : Int32).toInt = 255 from rfl] at h
  rw [Int32.lt_iff_toInt_lt, Int32.lt_iff_toInt_lt, show (255 : Int32).toInt = 255 from rfl, show (0 : Int32).toInt = 0 from rfl]
  omega
set_option maxRecDepth 65536 in
set_option maxHeartbeats 40000000 in
theorem comes_1 {Post : Tables → Env → Array Value → State → Outcome → State → Prop} (hpost : ∀ tb e args s v u, (limb_1_1.after args s (.returned v) u = true ∧ limb_1_2.after args s (.returned v) u = true ∧ True) → FrameEnd s (.returned v) u (Jvm.fieldLocs frame_1_writes args s ++ Jvm.arrayLocs frame_1_arrays args s ++ Jvm.staticLocs frame_1_statics s) 24 128 → Post tb e args s (.returned v) u) :
    ArmFor flags0 classFile x code maxLocals ret World_1 tables_1 room_1 Calls_1 rest_1 Pre_1 Post := by
  intro l hfl _ _ p e ha hcc hk s m args below hf hA hF happ hP
  obtain ⟨hcalls, hrest, hpre⟩ := hP
  obtain ⟨-, -, -, hnamed, -, -, -, hat⟩ := (Spec.applies_iff hf).mp happ
  obtain ⟨hg, hn⟩ := and_e (Cond.before_iff.mp (show (Jvm.Cond.and given_1 narrow_1).before args s = true from hpre))
  obtain ⟨hcount, gg0⟩ := and_e hg
  obtain ⟨ga0, gg1⟩ := and_e gg0
  obtain ⟨ga1, gg2⟩ := and_e gg1
  obtain ⟨ga2, gg3⟩ := and_e gg2
  obtain ⟨ga3, gg4⟩ := and_e gg3
  obtain ⟨w0, w1, w2, w3, w4, rfl⟩ : ∃ w0 w1 w2 w3 w4 : Value, args = #[w0, w1, w2, w3, w4] := by
    have hs : args.size = 5 := by simpa [Cond.value, given_1] using hcount
    obtain ⟨L⟩ := args
    match L, hs with
    | [w0, w1, w2, w3, w4], _ => exact ⟨w0, w1, w2, w3, w4, rfl⟩
  have hw := fun d (hd : d ∈ tables_1) => atoms_spec (ws := Jvm.Cond.code x code maxLocals ret :: tables_1) hat d (List.mem_cons_of_mem _ hd)
  have hfit : Fit s := fun {y c} hc i hi => by
    obtain ⟨ha, rfl⟩ := Array.getElem?_eq_some_iff.mp hc
    have q := List.all_eq_true.mp ((Array.all_eq_true_iff_forall_mem.mp hF) _ (Array.getElem_mem ha)) i (List.mem_range.mpr hi)
    simpa [Array.getElem?_eq_getElem hi] using q
  obtain ⟨hsets, hown0⟩ := atoms_of _ (rest_1_c_eq ▸ (show rest_1_c.before _ s = true from hrest))
  have hr0 := Cond.before_iff.mp hown0
  obtain ⟨i0, ei0⟩ := is_v ga0
  obtain rfl : w0 = (.int i0) := Option.some.inj ei0
  obtain ⟨i1, ei1⟩ := is_v ga1
  obtain rfl : w1 = (.int i1) := Option.some.inj ei1
  obtain ⟨i2, ei2⟩ := is_v ga2
  obtain rfl : w2 = (.int i2) := Option.some.inj ei2
  obtain ⟨i3, ei3⟩ := is_v ga3
  obtain rfl : w3 = (.int i3) := Option.some.inj ei3
  obtain ⟨i4, ei4⟩ := is_v gg4
  obtain rfl : w4 = (.int i4) := Option.some.inj ei4
  obtain ⟨z, ez, hz⟩ := own_compact (Cond.before_iff.mp (hsets _ (List.mem_of_getElem? (i := 1) rfl))) (Cond.before_iff.mp (hsets _ (List.mem_of_getElem? (i := 2) rfl)))
  have SZ : Sta s s.heap "java/lang/String" "COMPACT_STRINGS" "Z" (.int z) := Sta.start ez (Or.inl (hsets _ (List.mem_of_getElem? (i := 0) rfl)))
  obtain ⟨fm, ef, rf⟩ := isR_v (Cond.before_iff.mp (hsets _ (List.mem_of_getElem? (i := 8) rfl)))
  have SF : Sta s s.heap "jdk/internal/util/Preconditions" "SIOOBE_FORMATTER" "Ljava/util/function/BiFunction;" fm := Sta.start ef (Or.inl (hsets _ (List.mem_of_getElem? (i := 7) rfl)))
  obtain ⟨wO, eO⟩ := exa_v (Cond.before_iff.mp (hsets _ (List.mem_of_getElem? (i := 11) rfl)))
  have SO : Sta s s.heap "java/util/Optional" "EMPTY" "Ljava/util/Optional;" (.ref wO) := Sta.start eO (Or.inl (hsets _ (List.mem_of_getElem? (i := 10) rfl)))
  have EO := Exa.start eO (Cond.before_iff.mp (hsets _ (List.mem_of_getElem? (i := 11) rfl)))
  have FO : Fld s s.heap wO "java/util/Optional" "value" "Ljava/lang/Object;" .null := Fld.start ((fld_at eO).symm.trans (null_v (Cond.before_iff.mp (hsets _ (List.mem_of_getElem? (i := 12) rfl)))))
  have key : own_Met l s tables_1 #[(.int i0), (.int i1), (.int i2), (.int i3), (.int i4)] s.heap s.heap.size := by
    have r1 := c_and i0 (3 : Int32) (by decide)
    have r3 := c_iadd (i0 &&& (3 : Int32)) 1
    have r4 := rng32 ((i0 &&& (3 : Int32)) + (1 : Int32))
    rw [show (3 : Int32).toInt = 3 from rfl] at r1
    rw [show (1 : Int32).toInt = 1 from rfl] at r3
    by_cases c1 : ((i0 &&& (3 : Int32)) + (1 : Int32)) = (1 : Int32)
    · exact rm0n1 l s _ hw tables_1 i0 i1 i2 i3 i4 z wO fm s.heap s.heap.size (Old.start s) c1 SZ hz (by simp only [i2c_mask]; intro c hc; simp only [List.mem_cons, List.not_mem_nil, or_false] at hc; rcases hc with rfl <;> exact own_m255 _) SO EO FO SF rf (by simp only [i2c_mask])
    · by_cases c2 : ((i0 &&& (3 : Int32)) + (1 : Int32)) = (2 : Int32)
      · exact rm0n2 l s _ hw tables_1 i0 i1 i2 i3 i4 z wO fm s.heap s.heap.size (Old.start s) c2 SZ hz (by simp only [i2c_mask]; intro c hc; simp only [List.mem_cons, List.not_mem_nil, or_false] at hc; rcases hc with rfl | rfl <;> exact own_m255 _) SO EO FO SF rf (by simp only [i2c_mask])
      · by_cases c3 : ((i0 &&& (3 : Int32)) + (1 : Int32)) = (3 : Int32)
        · exact rm0n3 l s _ hw tables_1 i0 i1 i2 i3 i4 z wO fm s.heap s.heap.size (Old.start s) c3 SZ hz (by simp only [i2c_mask]; intro c hc; simp only [List.mem_cons, List.not_mem_nil, or_false] at hc; rcases hc with rfl | rfl | rfl <;> exact own_m255 _) SO EO FO SF rf (by simp only [i2c_mask])
        · have c4 : ((i0 &&& (3 : Int32)) + (1 : Int32)) = (4 : Int32) := by
            rw [← Int32.toInt_inj, show (1 : Int32).toInt = 1 from rfl] at c1
            rw [← Int32.toInt_inj, show (2 : Int32).toInt = 2 from rfl] at c2
            rw [← Int32.toInt_inj, show (3 : Int32).toInt = 3 from rfl] at c3
            rw [← Int32.toInt_inj, show (4 : Int32).toInt = 4 from rfl]
            omega
          exact rm0n4 l s _ hw tables_1 i0 i1 i2 i3 i4 z wO fm s.heap s.heap.size (Old.start s) c4 SZ hz (by simp only [i2c_mask]; intro c hc; simp only [List.mem_cons, List.not_mem_nil, or_false] at hc; rcases hc with rfl | rfl | rfl | rfl <;> exact own_m255 _) SO EO FO SF rf (by simp only [i2c_mask])
  obtain ⟨n, o, h1, h2, h3, _, L, rfl, ⟨rfl, N⟩, hq⟩ := key p e ha hcc hk s m _ below hf ((Spec.applies_iff_loose hf).mp happ).1 ⟨rfl, State.Warmed39.refl s, rfl⟩ trivial
  refine ⟨n, _, h1, h2, h3, hpost _ _ _ _ _ _ ⟨Cond.after_iff.mpr rfl, Cond.after_iff.mpr (eq_i res_at (Term.int_eval (1)) rfl), trivial⟩ ⟨hq.1, hq.2.1, (hq.2.2.sift fun y hy => Or.inr (N y hy)).mono (by decide) (by decide)⟩⟩
theorem main_1_1 : Claimed_1_1 := comes_1 fun _ _ _ _ _ _ h hF => ⟨h.1, hF⟩
theorem main_1_2 : Claimed_1_2 := comes_1 fun _ _ _ _ _ _ h hF => ⟨h.2.1, hF⟩
end Jvm.Pilot.@@N@@
namespace Jvm.Pilot.@@N@@
open Jvm Jvm.ClassFile Sem Op Lib Jvm.Free Jvm.Stand Jvm.Pilot.@@N@@.Jvm.D
/-! MADE BY PROGRAM (witnessworld.py) out of the Statement's table words and the real class files: 22 classes; the members and pool entries that the words name. The judged class is class 1, her method 2. -/
namespace start1
open Jvm.ClassFile
def u (s : String) : CpInfo := .utf8 (stringToUtf16 s)
/-- a pool by its gaps: so many unusable entries, then the entry; so many at the end -/
def gap : Nat → List CpInfo → List CpInfo
  | 0, r => r
  | n + 1, r => .unusable :: gap n r
def poolList (es : List (Nat × CpInfo)) (last : Nat) : List CpInfo := es.foldr (fun e r => gap e.1 (e.2 :: r)) (gap last [])
def pool (es : List (Nat × CpInfo)) (last : Nat) : Array CpInfo := ⟨poolList es last⟩
def fileOf (pool : Array CpInfo) (this : Nat) (attrs : Array Attribute := #[]) (ms : Array MethodInfo := #[]) (fl : Nat := 33) (sup : Nat := 0) (ifs : Array Nat := #[]) (fds : Array FieldInfo := #[]) : ClassFile where
  minorVersion := 0
  majorVersion := 65
  constantPool := pool
  accessFlags := fl
  thisClass := this
  superClass := sup
  interfaces := ifs
  fields := fds
  methods := ms
  attributes := attrs
def plain (name : String) (sup : Option ClassId) : Class where
  name := name
  kind := .ordinary
  loader := none
  accessFlags := 33
  super := sup
  interfaces := #[]
  cf := none
  fields := #[]
  methods := #[]
  instanceTypes := #[]
  staticTypes := #[]
  resolved := #[]
  callSites := []
  init := .initialized
  statics := none
  mirror := none

def pool0 : Array CpInfo := pool [(5, u "<init>"), (0, u "()V"), (1, .class_ 10), (1, u "java/lang/Object")] 113

def k0c0 : Code := { maxStack := 0, maxLocals := 1, code := object_method_1_code, exceptionTable := #[], attributes := #[] }
def k0m0 : Method := { name := "<init>", desc := "()V", sig := { parameters := [], returnType := none }, accessFlags := 1, code := some k0c0 }
/-- java/lang/Object -/
def k0 : Class := { plain "java/lang/Object" none with
  accessFlags := 33
  interfaces := #[]
  cf := some (fileOf pool0 8 #[] #[{ accessFlags := 1, nameIndex := 5, descriptorIndex := 6, attributes := #[] }] 33 0 #[] #[])
  fields := #[]
  methods := #[k0m0]
  instanceTypes := #[]
  staticTypes := #[]
  resolved := Array.replicate 124 none
  statics := none }

def pool1 : Array CpInfo := pool [(2, .class_ 4), (1, u "java/lang/Object"), (0, u "<init>"), (0, u "()V"), (0, .class_ 8), (0, u "java/lang/String"), (0, .methodref 7 10), (0, .nameAndType 5 11), (0, u "([C)V"), (0, .methodref 13 14), (0, .class_ 15), (0, .nameAndType 16 17), (0, u "com/example/wattle/wattle/FigureUnreadablePinLaw"), (0, u "text"), (0, u "(ICCCC)Ljava/lang/String;"), (0, .methodref 19 20), (0, .class_ 21), (0, .nameAndType 22 23), (0, u "com/example/wattle/wattle/Figure"), (0, u "unreadable"), (0, u "(Ljava/lang/String;)Lcom/example/wattle/wattle/Figure;"), (0, .methodref 19 25), (0, .nameAndType 26 27), (0, u "shown"), (0, u "()Ljava/lang/String;"), (0, .methodref 7 29), (0, .nameAndType 30 31), (0, u "length"), (0, u "()I"), (0, .methodref 7 33), (0, .nameAndType 34 35), (0, u "charAt"), (0, u "(I)C"), (0, .methodref 7 37), (0, .nameAndType 38 39), (0, u "equals"), (0, u "(Ljava/lang/Object;)Z"), (5, u "law"), (0, u "(IIIII)Z")] 2

def k1m0 : Method := { name := "<init>", desc := "()V", sig := { parameters := [], returnType := none }, accessFlags := 1, code := none }
def k1c1 : Code := { maxStack := 4, maxLocals := 9, code := method_2_code, exceptionTable := #[], attributes := #[] }
def k1m1 : Method := { name := "text", desc := "(ICCCC)Ljava/lang/String;", sig := { parameters := [.int, .char, .char, .char, .char], returnType := some (.object "java/lang/String") }, accessFlags := 10, code := some k1c1 }
def k1c2 : Code := { maxStack := 5, maxLocals := 13, code := code, exceptionTable := #[], attributes := #[] }
def k1m2 : Method := { name := "law", desc := "(IIIII)Z", sig := { parameters := [.int, .int, .int, .int, .int], returnType := some .boolean }, accessFlags := 9, code := some k1c2 }
/-- com/example/wattle/wattle/FigureUnreadablePinLaw -/
def k1 : Class := { plain "com/example/wattle/wattle/FigureUnreadablePinLaw" (some 0) with
  accessFlags := 49
  interfaces := #[]
  cf := some (fileOf pool1 13 #[] #[{ accessFlags := 1, nameIndex := 5, descriptorIndex := 6, attributes := #[] }, { accessFlags := 10, nameIndex := 16, descriptorIndex := 17, attributes := #[] }, { accessFlags := 9, nameIndex := 45, descriptorIndex := 46, attributes := #[] }] 49 2 #[] #[])
  fields := #[]
  methods := #[k1m0, k1m1, k1m2]
  instanceTypes := #[]
  staticTypes := #[]
  resolved := Array.replicate 49 none
  statics := none }

def pool2 : Array CpInfo := pool [(1, .class_ 2), (0, u "java/io/Serializable"), (0, .class_ 4), (0, u "java/lang/Object")] 2

/-- java/io/Serializable -/
def k2 : Class := { plain "java/io/Serializable" (some 0) with
  accessFlags := 1537
  interfaces := #[]
  cf := some (fileOf pool2 1 #[] #[] 1537 3 #[] #[])
  fields := #[]
  methods := #[]
  instanceTypes := #[]
  staticTypes := #[]
  resolved := Array.replicate 7 none
  statics := none }

def pool3 : Array CpInfo := pool [(1, .class_ 2), (0, u "java/lang/Comparable"), (0, .class_ 4), (0, u "java/lang/Object")] 7

/-- java/lang/Comparable -/
def k3 : Class := { plain "java/lang/Comparable" (some 0) with
  accessFlags := 1537
  interfaces := #[]
  cf := some (fileOf pool3 1 #[] #[] 1537 3 #[] #[])
  fields := #[]
  methods := #[]
  instanceTypes := #[]
  staticTypes := #[]
  resolved := Array.replicate 12 none
  statics := none }

def pool4 : Array CpInfo := pool [(2, .class_ 4), (1, u "java/lang/CharSequence"), (42, .class_ 48), (0, u "java/lang/CharSequence$1CodePointIterator"), (10, .class_ 60), (0, u "java/lang/CharSequence$1CharIterator"), (5, .class_ 67), (0, u "java/lang/Object")] 63

/-- java/lang/CharSequence -/
def k4 : Class := { plain "java/lang/CharSequence" (some 0) with
  accessFlags := 1537
  interfaces := #[]
  cf := some (fileOf pool4 2 #[.nestMembers #[47, 59]] #[] 1537 66 #[] #[])
  fields := #[]
  methods := #[]
  instanceTypes := #[]
  staticTypes := #[]
  resolved := Array.replicate 131 none
  statics := none }

def pool5 : Array CpInfo := pool [(1, .class_ 2), (0, u "java/lang/constant/Constable"), (0, .class_ 4), (0, u "java/lang/Object")] 6

/-- java/lang/constant/Constable -/
def k5 : Class := { plain "java/lang/constant/Constable" (some 0) with
  accessFlags := 1537
  interfaces := #[]
  cf := some (fileOf pool5 1 #[] #[] 1537 3 #[] #[])
  fields := #[]
  methods := #[]
  instanceTypes := #[]
  staticTypes := #[]
  resolved := Array.replicate 11 none
  statics := none }

def pool6 : Array CpInfo := pool [(1, .class_ 2), (0, u "java/lang/constant/ConstantDesc"), (0, .class_ 4), (0, u "java/lang/Object")] 32

/-- java/lang/constant/ConstantDesc -/
def k6 : Class := { plain "java/lang/constant/ConstantDesc" (some 0) with
  accessFlags := 1537
  interfaces := #[]
  cf := some (fileOf pool6 1 #[] #[] 1537 3 #[] #[])
  fields := #[]
  methods := #[]
  instanceTypes := #[]
  staticTypes := #[]
  resolved := Array.replicate 37 none
  statics := none }

def pool7 : Array CpInfo := pool [(1, .methodref 2 3), (0, .class_ 4), (0, .nameAndType 5 6), (0, u "java/lang/Object"), (0, u "<init>"), (0, u "()V"), (2, .fieldref 10 11), (0, .class_ 12), (0, .nameAndType 13 14), (0, u "java/lang/String"), (0, u "value"), (0, u "[B"), (0, .fieldref 10 16), (0, .nameAndType 17 18), (0, u "coder"), (0, u "B"), (2, u "hash"), (0, u "I"), (2, u "hashIsZero"), (0, u "Z"), (0, .methodref 10 28), (0, .nameAndType 5 29), (0, u "([CIILjava/lang/Void;)V"), (8, .fieldref 10 39), (0, .nameAndType 40 26), (0, u "COMPACT_STRINGS"), (1, .class_ 44), (1, u "java/lang/StringUTF16"), (0, u "compress"), (1, .methodref 42 48), (0, .nameAndType 49 50), (0, u "coderFromArrayLen"), (0, u "([BI)B"), (56, .class_ 109), (1, u "java/lang/StringLatin1"), (32, u "()Z"), (34, .methodref 42 178), (0, .nameAndType 45 179), (0, u "([CII)[B"), (154, u "()I"), (0, .methodref 10 336), (0, .nameAndType 17 337), (0, u "()B"), (25, u "([BI)C"), (27, u "(II)V"), (35, u "(I)C"), (64, .methodref 10 493), (0, .nameAndType 494 142), (0, u "isLatin1"), (0, .methodref 107 496), (0, .nameAndType 497 363), (0, u "charAt"), (3, u "checkIndex"), (5, u "length"), (35, u "equals"), (29, u "(Ljava/lang/Object;)Z"), (1, .class_ 576), (0, u "java/lang/CharSequence"), (22, u "CASE_INSENSITIVE_ORDER"), (0, u "Ljava/util/Comparator;"), (91, u "isEmpty"), (317, u "([C)V"), (42, .fieldref 1054 1055), (0, .class_ 1056), (0, .nameAndType 1057 1058), (0, u "jdk/internal/util/Preconditions"), (0, u "SIOOBE_FORMATTER"), (0, u "Ljava/util/function/BiFunction;"), (0, .methodref 1054 1060), (0, .nameAndType 501 1061), (0, u "(IILjava/util/function/BiFunction;)I"), (39, u "serialPersistentFields"), (0, u "[Ljava/io/ObjectStreamField;"), (0, .class_ 1104), (0, u "java/lang/String$CaseInsensitiveComparator"), (1, .class_ 1107), (0, u "java/io/Serializable"), (0, .class_ 1109), (0, u "java/lang/Comparable"), (0, .class_ 1111), (0, u "java/lang/constant/Constable"), (0, .class_ 1113), (0, u "java/lang/constant/ConstantDesc"), (2, u "serialVersionUID"), (0, u "J"), (3, u "REPL"), (0, u "C"), (2, u "LATIN1"), (1, u "UTF16")] 323

def k7m0 : Method := { name := "<init>", desc := "()V", sig := { parameters := [], returnType := none }, accessFlags := 1, code := none }
def k7c1 : Code := { maxStack := 5, maxLocals := 2, code := jdk_42_method_3_code, exceptionTable := #[], attributes := #[] }
def k7m1 : Method := { name := "<init>", desc := "([C)V", sig := { parameters := [(.array .char)], returnType := none }, accessFlags := 1, code := some k7c1 }
def k7c2 : Code := { maxStack := 2, maxLocals := 1, code := jdk_42_method_54_code, exceptionTable := #[], attributes := #[] }
def k7m2 : Method := { name := "length", desc := "()I", sig := { parameters := [], returnType := some .int }, accessFlags := 1, code := some k7c2 }
def k7c3 : Code := { maxStack := 1, maxLocals := 1, code := jdk_42_method_55_code, exceptionTable := #[], attributes := #[] }
def k7m3 : Method := { name := "isEmpty", desc := "()Z", sig := { parameters := [], returnType := some .boolean }, accessFlags := 1, code := some k7c3 }
def k7c4 : Code := { maxStack := 2, maxLocals := 2, code := jdk_42_method_56_code, exceptionTable := #[], attributes := #[] }
def k7m4 : Method := { name := "charAt", desc := "(I)C", sig := { parameters := [.int], returnType := some .char }, accessFlags := 1, code := some k7c4 }
def k7c5 : Code := { maxStack := 2, maxLocals := 3, code := jdk_42_method_66_code, exceptionTable := #[], attributes := #[] }
def k7m5 : Method := { name := "equals", desc := "(Ljava/lang/Object;)Z", sig := { parameters := [(.object "java/lang/Object")], returnType := some .boolean }, accessFlags := 1, code := some k7c5 }
def k7c6 : Code := { maxStack := 4, maxLocals := 6, code := jdk_42_method_149_code, exceptionTable := #[], attributes := #[] }
def k7m6 : Method := { name := "<init>", desc := "([CIILjava/lang/Void;)V", sig := { parameters := [(.array .char), .int, .int, (.object "java/lang/Void")], returnType := none }, accessFlags := 2, code := some k7c6 }
def k7c7 : Code := { maxStack := 1, maxLocals := 1, code := jdk_42_method_152_code, exceptionTable := #[], attributes := #[] }
def k7m7 : Method := { name := "coder", desc := "()B", sig := { parameters := [], returnType := some .byte }, accessFlags := 0, code := some k7c7 }
def k7c8 : Code := { maxStack := 1, maxLocals := 1, code := jdk_42_method_154_code, exceptionTable := #[], attributes := #[] }
def k7m8 : Method := { name := "isLatin1", desc := "()Z", sig := { parameters := [], returnType := some .boolean }, accessFlags := 0, code := some k7c8 }
def k7c9 : Code := { maxStack := 3, maxLocals := 2, code := jdk_42_method_155_code, exceptionTable := #[], attributes := #[] }
def k7m9 : Method := { name := "checkIndex", desc := "(II)V", sig := { parameters := [.int, .int], returnType := none }, accessFlags := 8, code := some k7c9 }
/-- java/lang/String -/
def k7 : Class := { plain "java/lang/String" (some 0) with
  accessFlags := 49
  interfaces := #[2, 3, 4, 5, 6]
  cf := some (fileOf pool7 10 #[.nestMembers #[1103]] #[{ accessFlags := 1, nameIndex := 5, descriptorIndex := 6, attributes := #[] }, { accessFlags := 1, nameIndex := 5, descriptorIndex := 1010, attributes := #[] }, { accessFlags := 1, nameIndex := 507, descriptorIndex := 334, attributes := #[] }, { accessFlags := 1, nameIndex := 692, descriptorIndex := 142, attributes := #[] }, { accessFlags := 1, nameIndex := 497, descriptorIndex := 427, attributes := #[] }, { accessFlags := 1, nameIndex := 543, descriptorIndex := 573, attributes := #[] }, { accessFlags := 2, nameIndex := 5, descriptorIndex := 29, attributes := #[] }, { accessFlags := 0, nameIndex := 17, descriptorIndex := 337, attributes := #[] }, { accessFlags := 0, nameIndex := 494, descriptorIndex := 142, attributes := #[] }, { accessFlags := 8, nameIndex := 501, descriptorIndex := 391, attributes := #[] }] 49 2 #[1106, 1108, 575, 1110, 1112] #[{ accessFlags := 18, nameIndex := 13, descriptorIndex := 14, attributes := #[] }, { accessFlags := 18, nameIndex := 17, descriptorIndex := 18, attributes := #[] }, { accessFlags := 2, nameIndex := 21, descriptorIndex := 22, attributes := #[] }, { accessFlags := 2, nameIndex := 25, descriptorIndex := 26, attributes := #[] }, { accessFlags := 26, nameIndex := 1116, descriptorIndex := 1117, attributes := #[] }, { accessFlags := 24, nameIndex := 40, descriptorIndex := 26, attributes := #[] }, { accessFlags := 26, nameIndex := 1101, descriptorIndex := 1102, attributes := #[] }, { accessFlags := 26, nameIndex := 1121, descriptorIndex := 1122, attributes := #[] }, { accessFlags := 25, nameIndex := 599, descriptorIndex := 600, attributes := #[] }, { accessFlags := 24, nameIndex := 1125, descriptorIndex := 18, attributes := #[] }, { accessFlags := 24, nameIndex := 1127, descriptorIndex := 18, attributes := #[] }])
  fields := #[{ name := "value", type := (.array .byte), accessFlags := 18, slot := 0, constantValue := 0 }, { name := "coder", type := .byte, accessFlags := 18, slot := 1, constantValue := 0 }, { name := "hash", type := .int, accessFlags := 2, slot := 2, constantValue := 0 }, { name := "hashIsZero", type := .boolean, accessFlags := 2, slot := 3, constantValue := 0 }, { name := "serialVersionUID", type := .long, accessFlags := 26, slot := 0, constantValue := 0 }, { name := "COMPACT_STRINGS", type := .boolean, accessFlags := 24, slot := 1, constantValue := 0 }, { name := "serialPersistentFields", type := (.array (.object "java/io/ObjectStreamField")), accessFlags := 26, slot := 2, constantValue := 0 }, { name := "REPL", type := .char, accessFlags := 26, slot := 3, constantValue := 0 }, { name := "CASE_INSENSITIVE_ORDER", type := (.object "java/util/Comparator"), accessFlags := 25, slot := 4, constantValue := 0 }, { name := "LATIN1", type := .byte, accessFlags := 24, slot := 5, constantValue := 0 }, { name := "UTF16", type := .byte, accessFlags := 24, slot := 6, constantValue := 0 }]
  methods := #[k7m0, k7m1, k7m2, k7m3, k7m4, k7m5, k7m6, k7m7, k7m8, k7m9]
  instanceTypes := #[(.array .byte), .byte, .int, .boolean]
  staticTypes := #[.long, .boolean, (.array (.object "java/io/ObjectStreamField")), .char, (.object "java/util/Comparator"), .byte, .byte]
  resolved := Array.replicate 1451 none
  statics := some 0 }

def pool8 : Array CpInfo := pool [(6, .class_ 8), (1, u "java/lang/Object"), (0, u "<init>"), (0, u "()V"), (1, .class_ 14), (1, u "java/lang/StringUTF16"), (31, u "$assertionsDisabled"), (0, u "Z"), (13, u "HI_BYTE_SHIFT"), (0, u "I"), (2, u "LO_BYTE_SHIFT"), (49, .methodref 12 116), (0, .nameAndType 117 118), (0, u "compress"), (0, u "([CI[BII)I"), (3, u "([CII)[B"), (138, u "coderFromArrayLen"), (0, u "([BI)B"), (106, .class_ 371), (1, u "java/lang/StringUTF16$LinesSpliterator"), (58, u "MAX_LENGTH"), (196, .class_ 628), (0, u "java/lang/StringUTF16$CodePointsSpliterator"), (0, .class_ 630), (0, u "java/lang/StringUTF16$CharsSpliterator")] 4

def k8m0 : Method := { name := "<init>", desc := "()V", sig := { parameters := [], returnType := none }, accessFlags := 0, code := none }
def k8c1 : Code := { maxStack := 2, maxLocals := 2, code := jdk_52_method_15_code, exceptionTable := #[], attributes := #[] }
def k8m1 : Method := { name := "coderFromArrayLen", desc := "([BI)B", sig := { parameters := [(.array .byte), .int], returnType := some .byte }, accessFlags := 8, code := some k8c1 }
def k8c2 : Code := { maxStack := 5, maxLocals := 6, code := jdk_52_method_16_code, exceptionTable := #[], attributes := #[] }
def k8m2 : Method := { name := "compress", desc := "([CII)[B", sig := { parameters := [(.array .char), .int, .int], returnType := some (.array .byte) }, accessFlags := 9, code := some k8c2 }
def k8c3 : Code := { maxStack := 3, maxLocals := 7, code := jdk_52_method_21_code, exceptionTable := #[], attributes := #[] }
def k8m3 : Method := { name := "compress", desc := "([CI[BII)I", sig := { parameters := [(.array .char), .int, (.array .byte), .int, .int], returnType := some .int }, accessFlags := 9, code := some k8c3 }
/-- java/lang/StringUTF16 -/
def k8 : Class := { plain "java/lang/StringUTF16" (some 0) with
  accessFlags := 48
  interfaces := #[]
  cf := some (fileOf pool8 12 #[.nestMembers #[627, 629, 369]] #[{ accessFlags := 0, nameIndex := 9, descriptorIndex := 10, attributes := #[] }, { accessFlags := 8, nameIndex := 261, descriptorIndex := 262, attributes := #[] }, { accessFlags := 9, nameIndex := 117, descriptorIndex := 122, attributes := #[] }, { accessFlags := 9, nameIndex := 117, descriptorIndex := 118, attributes := #[] }] 48 6 #[] #[{ accessFlags := 26, nameIndex := 61, descriptorIndex := 62, attributes := #[] }, { accessFlags := 26, nameIndex := 65, descriptorIndex := 62, attributes := #[] }, { accessFlags := 24, nameIndex := 430, descriptorIndex := 62, attributes := #[] }, { accessFlags := 4120, nameIndex := 46, descriptorIndex := 47, attributes := #[] }])
  fields := #[{ name := "HI_BYTE_SHIFT", type := .int, accessFlags := 26, slot := 0, constantValue := 0 }, { name := "LO_BYTE_SHIFT", type := .int, accessFlags := 26, slot := 1, constantValue := 0 }, { name := "MAX_LENGTH", type := .int, accessFlags := 24, slot := 2, constantValue := 0 }, { name := "$assertionsDisabled", type := .boolean, accessFlags := 4120, slot := 3, constantValue := 0 }]
  methods := #[k8m0, k8m1, k8m2, k8m3]
  instanceTypes := #[]
  staticTypes := #[.int, .int, .int, .boolean]
  resolved := Array.replicate 635 none
  statics := none }

def pool9 : Array CpInfo := pool [(1, .methodref 2 3), (0, .class_ 4), (0, .nameAndType 5 6), (0, u "java/lang/Object"), (0, u "<init>"), (0, u "()V"), (0, .class_ 8), (0, u "java/lang/Record")] 13

def k9c0 : Code := { maxStack := 1, maxLocals := 1, code := jdk_30_method_1_code, exceptionTable := #[], attributes := #[] }
def k9m0 : Method := { name := "<init>", desc := "()V", sig := { parameters := [], returnType := none }, accessFlags := 4, code := some k9c0 }
/-- java/lang/Record -/
def k9 : Class := { plain "java/lang/Record" (some 0) with
  accessFlags := 1057
  interfaces := #[]
  cf := some (fileOf pool9 7 #[] #[{ accessFlags := 4, nameIndex := 5, descriptorIndex := 6, attributes := #[] }] 1057 2 #[] #[])
  fields := #[]
  methods := #[k9m0]
  instanceTypes := #[]
  staticTypes := #[]
  resolved := Array.replicate 22 none
  statics := none }

def pool10 : Array CpInfo := pool [(1, .methodref 2 3), (0, .class_ 4), (0, .nameAndType 5 6), (0, u "java/lang/Record"), (0, u "<init>"), (0, u "()V"), (0, .methodref 8 9), (0, .class_ 10), (0, .nameAndType 11 12), (0, u "java/util/Optional"), (0, u "isPresent"), (0, u "()Z"), (0, .methodref 14 15), (0, .class_ 16), (0, .nameAndType 17 12), (0, u "java/lang/String"), (0, u "isEmpty"), (7, .fieldref 26 27), (0, .class_ 28), (0, .nameAndType 29 30), (0, u "com/example/wattle/wattle/Figure"), (0, u "value"), (0, u "Ljava/util/Optional;"), (0, .fieldref 26 32), (0, .nameAndType 33 34), (0, u "shown"), (0, u "Ljava/lang/String;"), (6, .methodref 26 42), (0, .nameAndType 5 43), (0, u "(Ljava/util/Optional;Ljava/lang/String;)V"), (0, .methodref 8 45), (0, .nameAndType 46 47), (0, u "empty"), (0, u "()Ljava/util/Optional;"), (34, u "unreadable"), (0, u "(Ljava/lang/String;)Lcom/example/wattle/wattle/Figure;"), (3, u "()Ljava/lang/String;")] 32

def k10c0 : Code := { maxStack := 3, maxLocals := 3, code := prog_20_method_1_code, exceptionTable := #[], attributes := #[] }
def k10m0 : Method := { name := "<init>", desc := "(Ljava/util/Optional;Ljava/lang/String;)V", sig := { parameters := [(.object "java/util/Optional"), (.object "java/lang/String")], returnType := none }, accessFlags := 1, code := some k10c0 }
def k10c1 : Code := { maxStack := 4, maxLocals := 1, code := prog_20_method_3_code, exceptionTable := #[], attributes := #[] }
def k10m1 : Method := { name := "unreadable", desc := "(Ljava/lang/String;)Lcom/example/wattle/wattle/Figure;", sig := { parameters := [(.object "java/lang/String")], returnType := some (.object "com/example/wattle/wattle/Figure") }, accessFlags := 9, code := some k10c1 }
def k10c2 : Code := { maxStack := 1, maxLocals := 1, code := prog_20_method_9_code, exceptionTable := #[], attributes := #[] }
def k10m2 : Method := { name := "shown", desc := "()Ljava/lang/String;", sig := { parameters := [], returnType := some (.object "java/lang/String") }, accessFlags := 1, code := some k10c2 }
/-- com/example/wattle/wattle/Figure -/
def k10 : Class := { plain "com/example/wattle/wattle/Figure" (some 9) with
  accessFlags := 49
  interfaces := #[]
  cf := some (fileOf pool10 26 #[] #[{ accessFlags := 1, nameIndex := 5, descriptorIndex := 43, attributes := #[] }, { accessFlags := 9, nameIndex := 82, descriptorIndex := 83, attributes := #[] }, { accessFlags := 1, nameIndex := 33, descriptorIndex := 87, attributes := #[] }] 49 2 #[] #[{ accessFlags := 18, nameIndex := 29, descriptorIndex := 30, attributes := #[] }, { accessFlags := 18, nameIndex := 33, descriptorIndex := 34, attributes := #[] }])
  fields := #[{ name := "value", type := (.object "java/util/Optional"), accessFlags := 18, slot := 0, constantValue := 0 }, { name := "shown", type := (.object "java/lang/String"), accessFlags := 18, slot := 1, constantValue := 0 }]
  methods := #[k10m0, k10m1, k10m2]
  instanceTypes := #[(.object "java/util/Optional"), (.object "java/lang/String")]
  staticTypes := #[]
  resolved := Array.replicate 120 none
  statics := none }

def pool11 : Array CpInfo := pool [(1, .fieldref 2 3), (0, .class_ 4), (0, .nameAndType 5 6), (0, u "java/util/Optional"), (0, u "EMPTY"), (0, u "Ljava/util/Optional;"), (1, .class_ 10), (1, u "java/lang/Object"), (2, .fieldref 2 14), (0, .nameAndType 15 16), (0, u "value"), (0, u "Ljava/lang/Object;"), (29, u "()Z"), (8, u "empty"), (0, u "()Ljava/util/Optional;"), (11, u "isPresent")] 118

def k11c0 : Code := { maxStack := 1, maxLocals := 1, code := jdk_32_method_1_code, exceptionTable := #[], attributes := #[] }
def k11m0 : Method := { name := "empty", desc := "()Ljava/util/Optional;", sig := { parameters := [], returnType := some (.object "java/util/Optional") }, accessFlags := 9, code := some k11c0 }
def k11c1 : Code := { maxStack := 1, maxLocals := 1, code := jdk_32_method_6_code, exceptionTable := #[], attributes := #[] }
def k11m1 : Method := { name := "isPresent", desc := "()Z", sig := { parameters := [], returnType := some .boolean }, accessFlags := 1, code := some k11c1 }
/-- java/util/Optional -/
def k11 : Class := { plain "java/util/Optional" (some 0) with
  accessFlags := 49
  interfaces := #[]
  cf := some (fileOf pool11 2 #[] #[{ accessFlags := 9, nameIndex := 55, descriptorIndex := 56, attributes := #[] }, { accessFlags := 1, nameIndex := 68, descriptorIndex := 46, attributes := #[] }] 49 8 #[] #[{ accessFlags := 26, nameIndex := 5, descriptorIndex := 6, attributes := #[] }, { accessFlags := 18, nameIndex := 15, descriptorIndex := 16, attributes := #[] }])
  fields := #[{ name := "EMPTY", type := (.object "java/util/Optional"), accessFlags := 26, slot := 0, constantValue := 0 }, { name := "value", type := (.object "java/lang/Object"), accessFlags := 18, slot := 0, constantValue := 0 }]
  methods := #[k11m0, k11m1]
  instanceTypes := #[(.object "java/lang/Object")]
  staticTypes := #[(.object "java/util/Optional")]
  resolved := Array.replicate 187 none
  statics := some 1 }

def pool12 : Array CpInfo := pool [(1, .class_ 2), (0, u "java/lang/String"), (1, .class_ 6), (1, u "java/lang/Object"), (0, u "<init>"), (0, u "()V"), (0, .methodref 1 10), (0, .nameAndType 11 12), (0, u "checkIndex"), (0, u "(II)V"), (1, .class_ 16), (1, u "java/lang/StringLatin1"), (36, u "([BI)C"), (67, u "$assertionsDisabled"), (0, u "Z"), (98, .class_ 223), (1, u "java/lang/StringLatin1$LinesSpliterator"), (28, u "charAt"), (137, .class_ 391), (0, u "java/lang/StringLatin1$CharsSpliterator")] 3

def k12m0 : Method := { name := "<init>", desc := "()V", sig := { parameters := [], returnType := none }, accessFlags := 0, code := none }
def k12c1 : Code := { maxStack := 2, maxLocals := 2, code := jdk_43_method_2_code, exceptionTable := #[], attributes := #[] }
def k12m1 : Method := { name := "charAt", desc := "([BI)C", sig := { parameters := [(.array .byte), .int], returnType := some .char }, accessFlags := 9, code := some k12c1 }
/-- java/lang/StringLatin1 -/
def k12 : Class := { plain "java/lang/StringLatin1" (some 0) with
  accessFlags := 48
  interfaces := #[]
  cf := some (fileOf pool12 14 #[.nestMembers #[390, 221]] #[{ accessFlags := 0, nameIndex := 7, descriptorIndex := 8, attributes := #[] }, { accessFlags := 9, nameIndex := 252, descriptorIndex := 53, attributes := #[] }] 48 4 #[] #[{ accessFlags := 4120, nameIndex := 121, descriptorIndex := 122, attributes := #[] }])
  fields := #[{ name := "$assertionsDisabled", type := .boolean, accessFlags := 4120, slot := 0, constantValue := 0 }]
  methods := #[k12m0, k12m1]
  instanceTypes := #[]
  staticTypes := #[.boolean]
  resolved := Array.replicate 395 none
  statics := none }

def pool13 : Array CpInfo := pool [(2, .class_ 4), (1, u "java/lang/Object"), (0, u "<init>"), (0, u "()V"), (17, .class_ 26), (1, u "jdk/internal/util/Preconditions"), (6, u "checkIndex"), (21, .class_ 56), (0, u "jdk/internal/util/Preconditions$4"), (57, .class_ 115), (0, u "jdk/internal/util/Preconditions$1"), (7, u "SIOOBE_FORMATTER"), (0, u "Ljava/util/function/BiFunction;"), (0, .class_ 126), (0, u "jdk/internal/util/Preconditions$2"), (3, u "AIOOBE_FORMATTER"), (0, .class_ 132), (0, u "jdk/internal/util/Preconditions$3"), (3, u "IOOBE_FORMATTER"), (41, u "(IILjava/util/function/BiFunction;)I")] 15

def k13m0 : Method := { name := "<init>", desc := "()V", sig := { parameters := [], returnType := none }, accessFlags := 1, code := none }
def k13c1 : Code := { maxStack := 3, maxLocals := 3, code := jdk_41_method_11_code, exceptionTable := #[], attributes := #[] }
def k13m1 : Method := { name := "checkIndex", desc := "(IILjava/util/function/BiFunction;)I", sig := { parameters := [.int, .int, (.object "java/util/function/BiFunction")], returnType := some .int }, accessFlags := 9, code := some k13c1 }
/-- jdk/internal/util/Preconditions -/
def k13 : Class := { plain "jdk/internal/util/Preconditions" (some 0) with
  accessFlags := 33
  interfaces := #[]
  cf := some (fileOf pool13 24 #[.nestMembers #[55, 131, 125, 114]] #[{ accessFlags := 1, nameIndex := 5, descriptorIndex := 6, attributes := #[] }, { accessFlags := 9, nameIndex := 33, descriptorIndex := 178, attributes := #[] }] 33 2 #[] #[{ accessFlags := 25, nameIndex := 123, descriptorIndex := 124, attributes := #[] }, { accessFlags := 25, nameIndex := 130, descriptorIndex := 124, attributes := #[] }, { accessFlags := 25, nameIndex := 136, descriptorIndex := 124, attributes := #[] }])
  fields := #[{ name := "SIOOBE_FORMATTER", type := (.object "java/util/function/BiFunction"), accessFlags := 25, slot := 0, constantValue := 0 }, { name := "AIOOBE_FORMATTER", type := (.object "java/util/function/BiFunction"), accessFlags := 25, slot := 1, constantValue := 0 }, { name := "IOOBE_FORMATTER", type := (.object "java/util/function/BiFunction"), accessFlags := 25, slot := 2, constantValue := 0 }]
  methods := #[k13m0, k13m1]
  instanceTypes := #[]
  staticTypes := #[(.object "java/util/function/BiFunction"), (.object "java/util/function/BiFunction"), (.object "java/util/function/BiFunction")]
  resolved := Array.replicate 194 none
  statics := some 2 }

def pool14 : Array CpInfo := pool [(9, u "<init>"), (6, .class_ 18), (1, u "java/lang/Object"), (0, u "()V"), (1, .class_ 23), (1, u "jdk/internal/util/ArraysSupport"), (0, u "LOG2_ARRAY_LONG_INDEX_SCALE"), (0, u "I"), (2, u "U"), (0, u "Ljdk/internal/misc/Unsafe;"), (8, u "BIG_ENDIAN"), (0, u "Z"), (8, u "LOG2_BYTE_BIT_SIZE"), (4, u "LOG2_ARRAY_INT_INDEX_SCALE"), (54, u "JLA"), (0, u "Ljdk/internal/access/JavaLangAccess;"), (11, u "LOG2_ARRAY_BOOLEAN_INDEX_SCALE"), (9, u "LOG2_ARRAY_BYTE_INDEX_SCALE"), (5, u "LOG2_ARRAY_CHAR_INDEX_SCALE"), (5, u "LOG2_ARRAY_SHORT_INDEX_SCALE"), (18, u "LOG2_ARRAY_FLOAT_INDEX_SCALE"), (24, u "LOG2_ARRAY_DOUBLE_INDEX_SCALE"), (89, u "T_BOOLEAN"), (2, u "T_CHAR"), (1, u "T_FLOAT"), (1, u "T_DOUBLE"), (1, u "T_BYTE"), (1, u "T_SHORT"), (1, u "T_INT"), (1, u "T_LONG"), (1, u "SOFT_MAX_ARRAY_LENGTH")] 83

def k14m0 : Method := { name := "<init>", desc := "()V", sig := { parameters := [], returnType := none }, accessFlags := 2, code := none }
/-- jdk/internal/util/ArraysSupport -/
def k14 : Class := { plain "jdk/internal/util/ArraysSupport" (some 0) with
  accessFlags := 33
  interfaces := #[]
  cf := some (fileOf pool14 21 #[] #[{ accessFlags := 2, nameIndex := 9, descriptorIndex := 19, attributes := #[] }] 33 16 #[] #[{ accessFlags := 24, nameIndex := 28, descriptorIndex := 29, attributes := #[] }, { accessFlags := 26, nameIndex := 38, descriptorIndex := 39, attributes := #[] }, { accessFlags := 25, nameIndex := 121, descriptorIndex := 25, attributes := #[] }, { accessFlags := 25, nameIndex := 131, descriptorIndex := 25, attributes := #[] }, { accessFlags := 25, nameIndex := 137, descriptorIndex := 25, attributes := #[] }, { accessFlags := 25, nameIndex := 143, descriptorIndex := 25, attributes := #[] }, { accessFlags := 25, nameIndex := 53, descriptorIndex := 25, attributes := #[] }, { accessFlags := 25, nameIndex := 24, descriptorIndex := 25, attributes := #[] }, { accessFlags := 25, nameIndex := 162, descriptorIndex := 25, attributes := #[] }, { accessFlags := 25, nameIndex := 187, descriptorIndex := 25, attributes := #[] }, { accessFlags := 26, nameIndex := 48, descriptorIndex := 25, attributes := #[] }, { accessFlags := 25, nameIndex := 277, descriptorIndex := 25, attributes := #[] }, { accessFlags := 25, nameIndex := 280, descriptorIndex := 25, attributes := #[] }, { accessFlags := 25, nameIndex := 282, descriptorIndex := 25, attributes := #[] }, { accessFlags := 25, nameIndex := 284, descriptorIndex := 25, attributes := #[] }, { accessFlags := 25, nameIndex := 286, descriptorIndex := 25, attributes := #[] }, { accessFlags := 25, nameIndex := 288, descriptorIndex := 25, attributes := #[] }, { accessFlags := 25, nameIndex := 290, descriptorIndex := 25, attributes := #[] }, { accessFlags := 25, nameIndex := 292, descriptorIndex := 25, attributes := #[] }, { accessFlags := 26, nameIndex := 108, descriptorIndex := 109, attributes := #[] }, { accessFlags := 25, nameIndex := 294, descriptorIndex := 25, attributes := #[] }])
  fields := #[{ name := "U", type := (.object "jdk/internal/misc/Unsafe"), accessFlags := 24, slot := 0, constantValue := 0 }, { name := "BIG_ENDIAN", type := .boolean, accessFlags := 26, slot := 1, constantValue := 0 }, { name := "LOG2_ARRAY_BOOLEAN_INDEX_SCALE", type := .int, accessFlags := 25, slot := 2, constantValue := 0 }, { name := "LOG2_ARRAY_BYTE_INDEX_SCALE", type := .int, accessFlags := 25, slot := 3, constantValue := 0 }, { name := "LOG2_ARRAY_CHAR_INDEX_SCALE", type := .int, accessFlags := 25, slot := 4, constantValue := 0 }, { name := "LOG2_ARRAY_SHORT_INDEX_SCALE", type := .int, accessFlags := 25, slot := 5, constantValue := 0 }, { name := "LOG2_ARRAY_INT_INDEX_SCALE", type := .int, accessFlags := 25, slot := 6, constantValue := 0 }, { name := "LOG2_ARRAY_LONG_INDEX_SCALE", type := .int, accessFlags := 25, slot := 7, constantValue := 0 }, { name := "LOG2_ARRAY_FLOAT_INDEX_SCALE", type := .int, accessFlags := 25, slot := 8, constantValue := 0 }, { name := "LOG2_ARRAY_DOUBLE_INDEX_SCALE", type := .int, accessFlags := 25, slot := 9, constantValue := 0 }, { name := "LOG2_BYTE_BIT_SIZE", type := .int, accessFlags := 26, slot := 10, constantValue := 0 }, { name := "T_BOOLEAN", type := .int, accessFlags := 25, slot := 11, constantValue := 0 }, { name := "T_CHAR", type := .int, accessFlags := 25, slot := 12, constantValue := 0 }, { name := "T_FLOAT", type := .int, accessFlags := 25, slot := 13, constantValue := 0 }, { name := "T_DOUBLE", type := .int, accessFlags := 25, slot := 14, constantValue := 0 }, { name := "T_BYTE", type := .int, accessFlags := 25, slot := 15, constantValue := 0 }, { name := "T_SHORT", type := .int, accessFlags := 25, slot := 16, constantValue := 0 }, { name := "T_INT", type := .int, accessFlags := 25, slot := 17, constantValue := 0 }, { name := "T_LONG", type := .int, accessFlags := 25, slot := 18, constantValue := 0 }, { name := "JLA", type := (.object "jdk/internal/access/JavaLangAccess"), accessFlags := 26, slot := 19, constantValue := 0 }, { name := "SOFT_MAX_ARRAY_LENGTH", type := .int, accessFlags := 25, slot := 20, constantValue := 0 }]
  methods := #[k14m0]
  instanceTypes := #[]
  staticTypes := #[(.object "jdk/internal/misc/Unsafe"), .boolean, .int, .int, .int, .int, .int, .int, .int, .int, .int, .int, .int, .int, .int, .int, .int, .int, .int, (.object "jdk/internal/access/JavaLangAccess"), .int]
  resolved := Array.replicate 378 none
  statics := none }

def pool15 : Array CpInfo := pool [(1, u "java/lang/Cloneable"), (0, .class_ 1), (0, u "java/lang/Object"), (0, .class_ 3)] 3

/-- java/lang/Cloneable -/
def k15 : Class := { plain "java/lang/Cloneable" (some 0) with
  accessFlags := 1537
  interfaces := #[]
  cf := some (fileOf pool15 2 #[] #[] 1537 4 #[] #[])
  fields := #[]
  methods := #[]
  instanceTypes := #[]
  staticTypes := #[]
  resolved := Array.replicate 8 none
  statics := none }

/-- the primitive byte -/
def k16 : Class := { plain "byte" none with kind := .primitive 'B', accessFlags := 0x411 }
/-- [B -/
def k17 : Class := { plain "[B" (some 0) with kind := .array 16 .byte, interfaces := #[15, 2], accessFlags := 1041 }

/-- the primitive char -/
def k18 : Class := { plain "char" none with kind := .primitive 'C', accessFlags := 0x411 }
/-- [C -/
def k19 : Class := { plain "[C" (some 0) with kind := .array 18 .char, interfaces := #[15, 2], accessFlags := 1041 }

/-- the primitive int -/
def k20 : Class := { plain "int" none with kind := .primitive 'I', accessFlags := 0x411 }
/-- [I -/
def k21 : Class := { plain "[I" (some 0) with kind := .array 20 .int, interfaces := #[15, 2], accessFlags := 1041 }

def heap : Heap := #[{ cls := 7, slots := #[.long 0, .int 1, .null, .int 0, .null, .int 0, .int 0], vm := .statics 7 },
  { cls := 11, slots := #[.ref 3], vm := .statics 11 },
  { cls := 13, slots := #[.null, .null, .null], vm := .statics 13 },
  { cls := 11, slots := #[.null], vm := .none }]
def classes : Array Class := #[k0, k1, k2, k3, k4, k5, k6, k7, k8, k9, k10, k11, k12, k13, k14, k15, k16, k17, k18, k19, k20, k21]
def interned : List (Array UInt16 × Addr) := []
def slotsUsed : Nat := 12
def theMethod : MethodId := ⟨1, 2⟩
def args0 : Array Value := #[.int 5, .int 5, .int 5, .int 5, .int 5]
def aboutOver (below : List Frame) : State where
  vm := { classes := classes, interned := interned.toArray }
  heap := heap
  slotsUsed := slotsUsed
  threads := #[{ frames := .invoking theMethod args0 :: below }]
def below0 : List Frame := [.native { method := ⟨0, 0⟩, args := #[] }]
def about1 : State := aboutOver below0
def p0 : Program := .bare "" "" ""
def e0 : Env := launch0.env 0 0 0
theorem w_frames : about1.frames = Frame.invoking theMethod args0 :: below0 := rfl
set_option maxRecDepth 65536 in
theorem w_args : argsFit about1.vm theMethod args0 = true := by decide +kernel
set_option maxRecDepth 65536 in
theorem w_heap : heapFits about1 = true := by decide +kernel
set_option maxRecDepth 65536 in
theorem w_runnable : about1.curStatus? = some .runnable := by decide +kernel
set_option maxRecDepth 65536 in
theorem w_alone : about1.alone = true := by decide +kernel
set_option maxRecDepth 65536 in
theorem w_named : about1.methodNamed? x = some theMethod := by decide +kernel
set_option maxRecDepth 65536 in
theorem w_hears : about1.hears theMethod below0 = true := by decide +kernel
set_option maxRecDepth 65536 in
theorem w_ripe : about1.ripe theMethod args0 below0 = true := by decide +kernel
theorem w_running : about1.status = .running := rfl
set_option maxRecDepth 65536 in
theorem w_room : about1.hasRoom e0.platform room_1 = true :=
  launch0.hasRoom_least _ room_1 (by decide +kernel) (by decide +kernel) (by decide +kernel) (by decide +kernel) (by decide +kernel) (by decide +kernel)
theorem allAtoms_all (ts : List Jvm.Cond) (a : Array Jvm.Value) (st : Jvm.State) : (allAtoms ts).before a st = ts.all (fun c => c.before a st) := by
  induction ts with
  | nil => rfl
  | cons c t ih =>
    show (Jvm.Cond.and c (allAtoms t)).before a st = _
    rw [Jvm.Cond.before_and, ih, List.all_cons]
def words1 : List Jvm.Cond := Jvm.Cond.code x code maxLocals ret :: tables_1
/-- a 'code' word, met by the world's own term for the bytes: nothing is compared byte by byte -/
theorem code_word {y : MethodName} {bytes : ByteArray} {mx : Nat} {rt : Option FieldType} {a : Array Value} {s : State} {m : MethodId} {meth : Method} {c : Code} (h1 : s.methodNamed? y = some m) (h2 : s.vm.method? m = some meth) (h3 : meth.code = some c) (h4 : c.code = bytes)
    (h5 : (c.maxLocals == mx && c.exceptionTable.isEmpty && decide (c.maxStack ≤ mostOperands) && decide (meth.sig.returnType = rt) && !meth.locks && decide (parseMethodDescriptor y.desc = some meth.sig)) = true) : (Jvm.Cond.code y bytes mx rt).before a s = true := by
  simp only [Bool.and_eq_true, beq_iff_eq, Bool.not_eq_true', decide_eq_true_eq] at h5
  obtain ⟨⟨⟨⟨⟨g1, g2⟩, g3⟩, g4⟩, g5⟩, g6⟩ := h5
  simp [Cond.before, Cond.holds, Cond.value, h1, h2, h3, h4, g1, g2, g3, g4, g5, g6]
def isCode : Jvm.Cond → Bool
  | .code _ _ _ _ => true
  | _ => false
theorem all_split {L : List Jvm.Cond} {P : Jvm.Cond → Bool} (h1 : L.all (fun c => isCode c || P c) = true) (h2 : ∀ c ∈ L.filter isCode, P c = true) : L.all P = true := by
  refine List.all_eq_true.mpr fun c hc => ?_
  have h := List.all_eq_true.mp h1 c hc
  rcases Bool.eq_false_or_eq_true (isCode c) with hi | hi
  · exact h2 c (List.mem_filter.mpr ⟨hc, hi⟩)
  · simpa [hi] using h
set_option maxRecDepth 65536 in
theorem w_c0 : (Jvm.Cond.code x code maxLocals ret).before args0 about1 = true := code_word (m := ⟨1, 2⟩) (meth := k1m2) (c := k1c2) (by decide +kernel) rfl rfl rfl (by decide +kernel)
set_option maxRecDepth 65536 in
theorem w_c1 : (Jvm.Cond.code ({ cls := "com/example/wattle/wattle/FigureUnreadablePinLaw", name := "text", desc := "(ICCCC)Ljava/lang/String;" } : Jvm.MethodName) method_2_code (9 : Nat) (Option.some (Jvm.ClassFile.FieldType.object "java/lang/String"))).before args0 about1 = true := code_word (m := ⟨1, 1⟩) (meth := k1m1) (c := k1c1) (by decide +kernel) rfl rfl rfl (by decide +kernel)
set_option maxRecDepth 65536 in
theorem w_c2 : (Jvm.Cond.code ({ cls := "java/lang/String", name := "<init>", desc := "([C)V" } : Jvm.MethodName) jdk_42_method_3_code (2 : Nat) (Option.none : Option Jvm.ClassFile.FieldType)).before args0 about1 = true := code_word (m := ⟨7, 1⟩) (meth := k7m1) (c := k7c1) (by decide +kernel) rfl rfl rfl (by decide +kernel)
set_option maxRecDepth 65536 in
theorem w_c3 : (Jvm.Cond.code ({ cls := "java/lang/String", name := "<init>", desc := "([CIILjava/lang/Void;)V" } : Jvm.MethodName) jdk_42_method_149_code (6 : Nat) (Option.none : Option Jvm.ClassFile.FieldType)).before args0 about1 = true := code_word (m := ⟨7, 6⟩) (meth := k7m6) (c := k7c6) (by decide +kernel) rfl rfl rfl (by decide +kernel)
set_option maxRecDepth 65536 in
theorem w_c4 : (Jvm.Cond.code ({ cls := "java/lang/Object", name := "<init>", desc := "()V" } : Jvm.MethodName) object_method_1_code (1 : Nat) (Option.none : Option Jvm.ClassFile.FieldType)).before args0 about1 = true := code_word (m := ⟨0, 0⟩) (meth := k0m0) (c := k0c0) (by decide +kernel) rfl rfl rfl (by decide +kernel)
set_option maxRecDepth 65536 in
theorem w_c5 : (Jvm.Cond.code ({ cls := "java/lang/StringUTF16", name := "compress", desc := "([CII)[B" } : Jvm.MethodName) jdk_52_method_16_code (6 : Nat) (Option.some (Jvm.ClassFile.FieldType.array Jvm.ClassFile.FieldType.byte))).before args0 about1 = true := code_word (m := ⟨8, 2⟩) (meth := k8m2) (c := k8c2) (by decide +kernel) rfl rfl rfl (by decide +kernel)
set_option maxRecDepth 65536 in
theorem w_c6 : (Jvm.Cond.code ({ cls := "java/lang/StringUTF16", name := "compress", desc := "([CI[BII)I" } : Jvm.MethodName) jdk_52_method_21_code (7 : Nat) (Option.some Jvm.ClassFile.FieldType.int)).before args0 about1 = true := code_word (m := ⟨8, 3⟩) (meth := k8m3) (c := k8c3) (by decide +kernel) rfl rfl rfl (by decide +kernel)
set_option maxRecDepth 65536 in
theorem w_c7 : (Jvm.Cond.code ({ cls := "java/lang/StringUTF16", name := "coderFromArrayLen", desc := "([BI)B" } : Jvm.MethodName) jdk_52_method_15_code (2 : Nat) (Option.some Jvm.ClassFile.FieldType.byte)).before args0 about1 = true := code_word (m := ⟨8, 1⟩) (meth := k8m1) (c := k8c1) (by decide +kernel) rfl rfl rfl (by decide +kernel)
set_option maxRecDepth 65536 in
theorem w_c8 : (Jvm.Cond.code ({ cls := "com/example/wattle/wattle/Figure", name := "unreadable", desc := "(Ljava/lang/String;)Lcom/example/wattle/wattle/Figure;" } : Jvm.MethodName) prog_20_method_3_code (1 : Nat) (Option.some (Jvm.ClassFile.FieldType.object "com/example/wattle/wattle/Figure"))).before args0 about1 = true := code_word (m := ⟨10, 1⟩) (meth := k10m1) (c := k10c1) (by decide +kernel) rfl rfl rfl (by decide +kernel)
set_option maxRecDepth 65536 in
theorem w_c9 : (Jvm.Cond.code ({ cls := "java/util/Optional", name := "empty", desc := "()Ljava/util/Optional;" } : Jvm.MethodName) jdk_32_method_1_code (1 : Nat) (Option.some (Jvm.ClassFile.FieldType.object "java/util/Optional"))).before args0 about1 = true := code_word (m := ⟨11, 0⟩) (meth := k11m0) (c := k11c0) (by decide +kernel) rfl rfl rfl (by decide +kernel)
set_option maxRecDepth 65536 in
theorem w_c10 : (Jvm.Cond.code ({ cls := "com/example/wattle/wattle/Figure", name := "<init>", desc := "(Ljava/util/Optional;Ljava/lang/String;)V" } : Jvm.MethodName) prog_20_method_1_code (3 : Nat) (Option.none : Option Jvm.ClassFile.FieldType)).before args0 about1 = true := code_word (m := ⟨10, 0⟩) (meth := k10m0) (c := k10c0) (by decide +kernel) rfl rfl rfl (by decide +kernel)
set_option maxRecDepth 65536 in
theorem w_c11 : (Jvm.Cond.code ({ cls := "java/lang/Record", name := "<init>", desc := "()V" } : Jvm.MethodName) jdk_30_method_1_code (1 : Nat) (Option.none : Option Jvm.ClassFile.FieldType)).before args0 about1 = true := code_word (m := ⟨9, 0⟩) (meth := k9m0) (c := k9c0) (by decide +kernel) rfl rfl rfl (by decide +kernel)
set_option maxRecDepth 65536 in
theorem w_c12 : (Jvm.Cond.code ({ cls := "java/util/Optional", name := "isPresent", desc := "()Z" } : Jvm.MethodName) jdk_32_method_6_code (1 : Nat) (Option.some Jvm.ClassFile.FieldType.boolean)).before args0 about1 = true := code_word (m := ⟨11, 1⟩) (meth := k11m1) (c := k11c1) (by decide +kernel) rfl rfl rfl (by decide +kernel)
set_option maxRecDepth 65536 in
theorem w_c13 : (Jvm.Cond.code ({ cls := "java/lang/String", name := "isEmpty", desc := "()Z" } : Jvm.MethodName) jdk_42_method_55_code (1 : Nat) (Option.some Jvm.ClassFile.FieldType.boolean)).before args0 about1 = true := code_word (m := ⟨7, 3⟩) (meth := k7m3) (c := k7c3) (by decide +kernel) rfl rfl rfl (by decide +kernel)
set_option maxRecDepth 65536 in
theorem w_c14 : (Jvm.Cond.code ({ cls := "com/example/wattle/wattle/Figure", name := "shown", desc := "()Ljava/lang/String;" } : Jvm.MethodName) prog_20_method_9_code (1 : Nat) (Option.some (Jvm.ClassFile.FieldType.object "java/lang/String"))).before args0 about1 = true := code_word (m := ⟨10, 2⟩) (meth := k10m2) (c := k10c2) (by decide +kernel) rfl rfl rfl (by decide +kernel)
set_option maxRecDepth 65536 in
theorem w_c15 : (Jvm.Cond.code ({ cls := "java/lang/String", name := "length", desc := "()I" } : Jvm.MethodName) jdk_42_method_54_code (1 : Nat) (Option.some Jvm.ClassFile.FieldType.int)).before args0 about1 = true := code_word (m := ⟨7, 2⟩) (meth := k7m2) (c := k7c2) (by decide +kernel) rfl rfl rfl (by decide +kernel)
set_option maxRecDepth 65536 in
theorem w_c16 : (Jvm.Cond.code ({ cls := "java/lang/String", name := "coder", desc := "()B" } : Jvm.MethodName) jdk_42_method_152_code (1 : Nat) (Option.some Jvm.ClassFile.FieldType.byte)).before args0 about1 = true := code_word (m := ⟨7, 7⟩) (meth := k7m7) (c := k7c7) (by decide +kernel) rfl rfl rfl (by decide +kernel)
set_option maxRecDepth 65536 in
theorem w_c17 : (Jvm.Cond.code ({ cls := "java/lang/String", name := "charAt", desc := "(I)C" } : Jvm.MethodName) jdk_42_method_56_code (2 : Nat) (Option.some Jvm.ClassFile.FieldType.char)).before args0 about1 = true := code_word (m := ⟨7, 4⟩) (meth := k7m4) (c := k7c4) (by decide +kernel) rfl rfl rfl (by decide +kernel)
set_option maxRecDepth 65536 in
theorem w_c18 : (Jvm.Cond.code ({ cls := "java/lang/String", name := "isLatin1", desc := "()Z" } : Jvm.MethodName) jdk_42_method_154_code (1 : Nat) (Option.some Jvm.ClassFile.FieldType.boolean)).before args0 about1 = true := code_word (m := ⟨7, 8⟩) (meth := k7m8) (c := k7c8) (by decide +kernel) rfl rfl rfl (by decide +kernel)
set_option maxRecDepth 65536 in
theorem w_c19 : (Jvm.Cond.code ({ cls := "java/lang/StringLatin1", name := "charAt", desc := "([BI)C" } : Jvm.MethodName) jdk_43_method_2_code (2 : Nat) (Option.some Jvm.ClassFile.FieldType.char)).before args0 about1 = true := code_word (m := ⟨12, 1⟩) (meth := k12m1) (c := k12c1) (by decide +kernel) rfl rfl rfl (by decide +kernel)
set_option maxRecDepth 65536 in
theorem w_c20 : (Jvm.Cond.code ({ cls := "java/lang/String", name := "checkIndex", desc := "(II)V" } : Jvm.MethodName) jdk_42_method_155_code (2 : Nat) (Option.none : Option Jvm.ClassFile.FieldType)).before args0 about1 = true := code_word (m := ⟨7, 9⟩) (meth := k7m9) (c := k7c9) (by decide +kernel) rfl rfl rfl (by decide +kernel)
set_option maxRecDepth 65536 in
theorem w_c21 : (Jvm.Cond.code ({ cls := "jdk/internal/util/Preconditions", name := "checkIndex", desc := "(IILjava/util/function/BiFunction;)I" } : Jvm.MethodName) jdk_41_method_11_code (3 : Nat) (Option.some Jvm.ClassFile.FieldType.int)).before args0 about1 = true := code_word (m := ⟨13, 1⟩) (meth := k13m1) (c := k13c1) (by decide +kernel) rfl rfl rfl (by decide +kernel)
set_option maxRecDepth 65536 in
theorem w_c22 : (Jvm.Cond.code ({ cls := "java/lang/String", name := "equals", desc := "(Ljava/lang/Object;)Z" } : Jvm.MethodName) jdk_42_method_66_code (3 : Nat) (Option.some Jvm.ClassFile.FieldType.boolean)).before args0 about1 = true := code_word (m := ⟨7, 5⟩) (meth := k7m5) (c := k7c5) (by decide +kernel) rfl rfl rfl (by decide +kernel)
def codes1 : List Jvm.Cond := [Jvm.Cond.code x code maxLocals ret, Jvm.Cond.code ({ cls := "com/example/wattle/wattle/FigureUnreadablePinLaw", name := "text", desc := "(ICCCC)Ljava/lang/String;" } : Jvm.MethodName) method_2_code (9 : Nat) (Option.some (Jvm.ClassFile.FieldType.object "java/lang/String")), Jvm.Cond.code ({ cls := "java/lang/String", name := "<init>", desc := "([C)V" } : Jvm.MethodName) jdk_42_method_3_code (2 : Nat) (Option.none : Option Jvm.ClassFile.FieldType), Jvm.Cond.code ({ cls := "java/lang/String", name := "<init>", desc := "([CIILjava/lang/Void;)V" } : Jvm.MethodName) jdk_42_method_149_code (6 : Nat) (Option.none : Option Jvm.ClassFile.FieldType), Jvm.Cond.code ({ cls := "java/lang/Object", name := "<init>", desc := "()V" } : Jvm.MethodName) object_method_1_code (1 : Nat) (Option.none : Option Jvm.ClassFile.FieldType), Jvm.Cond.code ({ cls := "java/lang/StringUTF16", name := "compress", desc := "([CII)[B" } : Jvm.MethodName) jdk_52_method_16_code (6 : Nat) (Option.some (Jvm.ClassFile.FieldType.array Jvm.ClassFile.FieldType.byte)), Jvm.Cond.code ({ cls := "java/lang/StringUTF16", name := "compress", desc := "([CI[BII)I" } : Jvm.MethodName) jdk_52_method_21_code (7 : Nat) (Option.some Jvm.ClassFile.FieldType.int), Jvm.Cond.code ({ cls := "java/lang/StringUTF16", name := "coderFromArrayLen", desc := "([BI)B" } : Jvm.MethodName) jdk_52_method_15_code (2 : Nat) (Option.some Jvm.ClassFile.FieldType.byte), Jvm.Cond.code ({ cls := "com/example/wattle/wattle/Figure", name := "unreadable", desc := "(Ljava/lang/String;)Lcom/example/wattle/wattle/Figure;" } : Jvm.MethodName) prog_20_method_3_code (1 : Nat) (Option.some (Jvm.ClassFile.FieldType.object "com/example/wattle/wattle/Figure")), Jvm.Cond.code ({ cls := "java/util/Optional", name := "empty", desc := "()Ljava/util/Optional;" } : Jvm.MethodName) jdk_32_method_1_code (1 : Nat) (Option.some (Jvm.ClassFile.FieldType.object "java/util/Optional")), Jvm.Cond.code ({ cls := "com/example/wattle/wattle/Figure", name := "<init>", desc := "(Ljava/util/Optional;Ljava/lang/String;)V" } : Jvm.MethodName) prog_20_method_1_code (3 : Nat) (Option.none : Option Jvm.ClassFile.FieldType), Jvm.Cond.code ({ cls := "java/lang/Record", name := "<init>", desc := "()V" } : Jvm.MethodName) jdk_30_method_1_code (1 : Nat) (Option.none : Option Jvm.ClassFile.FieldType), Jvm.Cond.code ({ cls := "java/util/Optional", name := "isPresent", desc := "()Z" } : Jvm.MethodName) jdk_32_method_6_code (1 : Nat) (Option.some Jvm.ClassFile.FieldType.boolean), Jvm.Cond.code ({ cls := "java/lang/String", name := "isEmpty", desc := "()Z" } : Jvm.MethodName) jdk_42_method_55_code (1 : Nat) (Option.some Jvm.ClassFile.FieldType.boolean), Jvm.Cond.code ({ cls := "com/example/wattle/wattle/Figure", name := "shown", desc := "()Ljava/lang/String;" } : Jvm.MethodName) prog_20_method_9_code (1 : Nat) (Option.some (Jvm.ClassFile.FieldType.object "java/lang/String")), Jvm.Cond.code ({ cls := "java/lang/String", name := "length", desc := "()I" } : Jvm.MethodName) jdk_42_method_54_code (1 : Nat) (Option.some Jvm.ClassFile.FieldType.int), Jvm.Cond.code ({ cls := "java/lang/String", name := "coder", desc := "()B" } : Jvm.MethodName) jdk_42_method_152_code (1 : Nat) (Option.some Jvm.ClassFile.FieldType.byte), Jvm.Cond.code ({ cls := "java/lang/String", name := "charAt", desc := "(I)C" } : Jvm.MethodName) jdk_42_method_56_code (2 : Nat) (Option.some Jvm.ClassFile.FieldType.char), Jvm.Cond.code ({ cls := "java/lang/String", name := "isLatin1", desc := "()Z" } : Jvm.MethodName) jdk_42_method_154_code (1 : Nat) (Option.some Jvm.ClassFile.FieldType.boolean), Jvm.Cond.code ({ cls := "java/lang/StringLatin1", name := "charAt", desc := "([BI)C" } : Jvm.MethodName) jdk_43_method_2_code (2 : Nat) (Option.some Jvm.ClassFile.FieldType.char), Jvm.Cond.code ({ cls := "java/lang/String", name := "checkIndex", desc := "(II)V" } : Jvm.MethodName) jdk_42_method_155_code (2 : Nat) (Option.none : Option Jvm.ClassFile.FieldType), Jvm.Cond.code ({ cls := "jdk/internal/util/Preconditions", name := "checkIndex", desc := "(IILjava/util/function/BiFunction;)I" } : Jvm.MethodName) jdk_41_method_11_code (3 : Nat) (Option.some Jvm.ClassFile.FieldType.int), Jvm.Cond.code ({ cls := "java/lang/String", name := "equals", desc := "(Ljava/lang/Object;)Z" } : Jvm.MethodName) jdk_42_method_66_code (3 : Nat) (Option.some Jvm.ClassFile.FieldType.boolean)]
set_option maxRecDepth 65536 in
theorem codes_eq : words1.filter isCode = codes1 := rfl
theorem w_codes : ∀ c ∈ words1.filter isCode, c.before args0 about1 = true := by
  rw [codes_eq]
  intro c hc
  simp only [codes1, List.mem_cons, List.not_mem_nil, or_false] at hc
  rcases hc with rfl | rfl | rfl | rfl | rfl | rfl | rfl | rfl | rfl | rfl | rfl | rfl | rfl | rfl | rfl | rfl | rfl | rfl | rfl | rfl | rfl | rfl | rfl
  · exact w_c0
  · exact w_c1
  · exact w_c2
  · exact w_c3
  · exact w_c4
  · exact w_c5
  · exact w_c6
  · exact w_c7
  · exact w_c8
  · exact w_c9
  · exact w_c10
  · exact w_c11
  · exact w_c12
  · exact w_c13
  · exact w_c14
  · exact w_c15
  · exact w_c16
  · exact w_c17
  · exact w_c18
  · exact w_c19
  · exact w_c20
  · exact w_c21
  · exact w_c22
set_option maxRecDepth 65536 in
theorem w_t1 : (words1.take 24).all (fun c => isCode c || c.before args0 about1) = true := by decide +kernel
set_option maxRecDepth 65536 in
theorem w_t2 : ((words1.drop 24).take 24).all (fun c => isCode c || c.before args0 about1) = true := by decide +kernel
set_option maxRecDepth 65536 in
theorem w_t3 : (((words1.drop 24).drop 24).take 24).all (fun c => isCode c || c.before args0 about1) = true := by decide +kernel
set_option maxRecDepth 65536 in
theorem w_t4 : ((((words1.drop 24).drop 24).drop 24).take 24).all (fun c => isCode c || c.before args0 about1) = true := by decide +kernel
set_option maxRecDepth 65536 in
theorem w_t5 : ((((words1.drop 24).drop 24).drop 24).drop 24).all (fun c => isCode c || c.before args0 about1) = true := by decide +kernel
theorem w_tables : (allAtoms (Jvm.Cond.code x code maxLocals ret :: tables_1)).before args0 about1 = true := by
  rw [allAtoms_all]
  show words1.all (fun c => c.before args0 about1) = true
  refine all_split ?_ w_codes
  rw [← List.take_append_drop 24 words1, List.all_append, w_t1, ← List.take_append_drop 24 (words1.drop 24), List.all_append, w_t2, ← List.take_append_drop 24 ((words1.drop 24).drop 24), List.all_append, w_t3, ← List.take_append_drop 24 (((words1.drop 24).drop 24).drop 24), List.all_append, w_t4, w_t5]
  rfl
set_option maxRecDepth 65536 in
theorem w_rest : rest_1_c.before args0 about1 = true := by decide +kernel
set_option maxRecDepth 65536 in
theorem w_case : (Jvm.Cond.and given_1 narrow_1).before args0 about1 = true := by decide +kernel
theorem w_applies : (headSpec (Jvm.Cond.code x code maxLocals ret :: tables_1) room_1).applies x e0.platform about1 = true :=
  (Spec.applies_iff w_frames).mpr ⟨w_running, w_runnable, w_alone, w_named, w_hears, w_ripe, w_room, w_tables⟩
theorem atStart : AtStart classFile x code maxLocals ret World_1 tables_1 room_1 Calls_1 rest_1 Pre_1 launch0 p0 e0 about1 theMethod args0 below0 :=
  ⟨lists_1, trivial, launch0.admits_env _ _ _, launch0.least_env, fairChoices_fair.cas, fairChoices_fair.clock, w_frames, w_args, w_heap, w_applies, trivial, w_rest, w_case⟩
end start1
theorem witness_1 : WitnessClaimed_1 := ⟨start1.p0, start1.e0, start1.about1, start1.theMethod, start1.args0, start1.below0, start1.atStart⟩
end Jvm.Pilot.@@N@@
