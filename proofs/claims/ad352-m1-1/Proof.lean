import JvmDerived
import JvmDerived.Pilot.@@N@@Statement
import JvmDerived.Pilot.@@N@@Code
set_option linter.unusedVariables false
set_option linter.unusedSimpArgs false
namespace Jvm.RoadKit
open Sem ClassFile Op Lib Jvm.Stand Jvm.Free Jvm.LawKit
section New
variable {p : Program} {l : Launch} {e : Env} {R : Room} {s : State} {m : MethodId} {args : Array Value} {below : List Frame} {meth : Method} {c : Code} {T : State} {locs : List Loc} {cells slots : Nat}
theorem retI (X : Stand p l e R s m args below meth c T locs cells slots) (hx : p.tables.exec = Jvm.exec) {pc : Nat} {Ls : Array Slot} {z : Int32} {rest : List Value} (hret : meth.sig.returnType = some .int) (hd : decode c.code pc = .ok (.ireturn, 1)) {fs : List Frame}
    (hl : ∀ (f : JFrame) (acts : List Action), f.method = m → f.locked = none → f.entered = [] → (doReturn e (T.setTop f) acts (some (.int z))).1 = T.setFrames fs) : Steps p.tables e below (T.setTop (mkF m pc Ls (.int z :: rest))) (T.setFrames fs) := by
  have hm' : T.vm.method? m = some meth := X.method'
  have hn : narrow .int (.int z) = .int z := rfl
  show Steps p.tables e below (T.setTop { method := m, pc := pc, locals := Ls, stack := _ :: rest, locked := none }) _
  jvm_step X.here [X.here.top, hx, hd, hm', hret, hn]
  first | (intro acts; rw [hl _ acts rfl rfl rfl]) | rw [hl _ _ rfl rfl rfl]
  exact Steps.refl _
theorem retR (X : Stand p l e R s m args below meth c T locs cells slots) (hx : p.tables.exec = Jvm.exec) {pc : Nat} {Ls : Array Slot} {w : Value} {t : FieldType} {rest : List Value} (hret : meth.sig.returnType = some t) (hn : narrow t w = w) (ht : t.isReference = true) (hw : w.isRef = true) (hd : decode c.code pc = .ok (.areturn, 1)) {fs : List Frame}
    (hl : ∀ (f : JFrame) (acts : List Action), f.method = m → f.locked = none → f.entered = [] → (doReturn e (T.setTop f) acts (some w)).1 = T.setFrames fs) : Steps p.tables e below (T.setTop (mkF m pc Ls (w :: rest))) (T.setFrames fs) := by
  have hm' : T.vm.method? m = some meth := X.method'
  show Steps p.tables e below (T.setTop { method := m, pc := pc, locals := Ls, stack := _ :: rest, locked := none }) _
  jvm_step X.here [X.here.top, hx, hd, hm', hret, hn, hw]
  try (refine ⟨ht, ?_⟩)
  first | (intro acts; rw [hl _ acts rfl rfl rfl]) | rw [hl _ _ rfl rfl rfl]
  exact Steps.refl _
end New
end Jvm.RoadKit

/- laws to paste: Road.backV, Road.eqW, Road.lenW, Road.chN, Road.codOf (cut by pick.py; bodies as the Statement names them) -/
namespace Jvm.Pilot.@@N@@
namespace StrChars
open Jvm Sem ClassFile Op Lib Jvm.Stand Jvm.Free.XT Jvm.Free.ALB Jvm.Free.JM Jvm.Free
open Jvm.Lib.Cold (StaticIs)
/-- a char array whose places are chars -/
def Ch (a : Addr) (A : Cell) (U : State) : Prop := Arr .char a A U ∧ Typed .char A
theorem Ch.mv {a : Addr} {A : Cell} {U U' : State} (h : Ch a A U) (hal : U.vm.Alike U'.vm) (hh : U'.heap = U.heap) : Ch a A U' := ⟨h.1.mv hal hh, h.2⟩
theorem Ch.keep {a : Addr} {A : Cell} {U U' : State} (h : Ch a A U) (hal : U.vm.Alike U'.vm) (hk : U'.heap[a]? = some A) : Ch a A U' := ⟨h.1.keep hal hk, h.2⟩
/-- what place i of a char[]'s cell holds -/
def cv (A : Cell) (i : Nat) : Int32 := match A.slots[i]? with | some (.int x) => x | _ => 0
theorem Ch.get {a : Addr} {A : Cell} {U : State} (h : Ch a A U) {i : Nat} (hi : i < A.slots.size) : A.slots[i]? = some (.int (cv A i)) := by
  have e := Array.getElem?_eq_getElem hi
  have f := h.2 i _ e
  unfold cv; rw [e]
  generalize A.slots[i] = v at f
  cases v <;> simp [fits] at f ⊢
/-- the byte that i2b leaves of a char -/
def lo8 (x : Int32) : Int32 := x.toInt8.toInt32
theorem fits_lo8 (y : Int32) : fits .byte (.int (lo8 y)) = true := by
  have h1 := y.toInt8.le_toInt
  have h2 := y.toInt8.toInt_lt
  simp only [lo8, fits, Bool.and_eq_true, decide_eq_true_eq, Int32.le_iff_toInt_le, Int8.toInt_toInt32, show (-128 : Int32).toInt = -128 from by decide, show (127 : Int32).toInt = 127 from by decide]
  omega
/-- A' is A but that each place j of lo .. hi - 1 holds f j -/
def Laid (A A' : Cell) (lo hi : Nat) (f : Nat → Value) : Prop := A'.cls = A.cls ∧ A'.vm = A.vm ∧ A'.slots.size = A.slots.size ∧ ∀ i, A'.slots[i]? = if lo ≤ i ∧ i < hi then some (f i) else A.slots[i]?
theorem Laid.zero (A : Cell) (lo : Nat) (f : Nat → Value) : Laid A A lo (lo + 0) f := ⟨rfl, rfl, rfl, fun i => by rw [if_neg (by omega)]⟩
theorem Laid.step {A Ak : Cell} {lo k : Nat} {f : Nat → Value} {v : Value} (h : Laid A Ak lo k f) (hlo : lo ≤ k) (hk : k < Ak.slots.size) (hv : v = f k) : Laid A (Ak.setSlot k v) lo (k + 1) f := by
  refine ⟨h.1, h.2.1, by simpa [Cell.setSlot] using h.2.2.1, fun i => ?_⟩
  by_cases e : k = i
  · subst e; rw [Cell.slots_setSlot_self v hk, if_pos (by omega), hv]
  · rw [Cell.slots_setSlot_ne v e, h.2.2.2 i]
    by_cases q : lo ≤ i ∧ i < k
    · rw [if_pos q, if_pos (by omega)]
    · rw [if_neg q, if_neg (by omega)]
def U16 : String := "java/lang/StringUTF16"
namespace Cmp5
def yN : MethodName := ⟨"java/lang/StringUTF16", "compress", "([CI[BII)I"⟩
abbrev yB : ByteArray := jdk_52_method_21_code
theorem d0 : decode yB 0 = .ok (.iconst 0, 1) := by decide +kernel
theorem d1 : decode yB 1 = .ok (.istore 5, 2) := by decide +kernel
theorem d3 : decode yB 3 = .ok (.iload 5, 2) := by decide +kernel
theorem d5 : decode yB 5 = .ok (.iload 4, 2) := by decide +kernel
theorem d7 : decode yB 7 = .ok (.if_icmp (.ge) 37, 3) := by decide +kernel
theorem d10 : decode yB 10 = .ok (.aload_n 0, 1) := by decide +kernel
theorem d11 : decode yB 11 = .ok (.iload_n 1, 1) := by decide +kernel
theorem d12 : decode yB 12 = .ok (.caload, 1) := by decide +kernel
theorem d13 : decode yB 13 = .ok (.istore 6, 2) := by decide +kernel
theorem d15 : decode yB 15 = .ok (.iload 6, 2) := by decide +kernel
theorem d17 : decode yB 17 = .ok (.sipush 255, 3) := by decide +kernel
theorem d20 : decode yB 20 = .ok (.if_icmp (.le) 6, 3) := by decide +kernel
theorem d26 : decode yB 26 = .ok (.aload_n 2, 1) := by decide +kernel
theorem d27 : decode yB 27 = .ok (.iload_n 3, 1) := by decide +kernel
theorem d28 : decode yB 28 = .ok (.iload 6, 2) := by decide +kernel
theorem d30 : decode yB 30 = .ok (.i2b, 1) := by decide +kernel
theorem d31 : decode yB 31 = .ok (.bastore, 1) := by decide +kernel
theorem d32 : decode yB 32 = .ok (.iinc 1 1, 3) := by decide +kernel
theorem d35 : decode yB 35 = .ok (.iinc 3 1, 3) := by decide +kernel
theorem d38 : decode yB 38 = .ok (.iinc 5 1, 3) := by decide +kernel
theorem d41 : decode yB 41 = .ok (.goto (-38), 3) := by decide +kernel
theorem d44 : decode yB 44 = .ok (.iload 4, 2) := by decide +kernel
theorem d46 : decode yB 46 = .ok (.ireturn, 1) := by decide +kernel
def site : List Cond := []
def tab : Cond := tabOf yN yB 7 (some .int) site
def P (b : Addr) (A : Cell) (d : Addr) (B : Cell) (o q len : Nat) (args : Array Value) (s : State) : Prop := args = #[.ref b, .int (Int32.ofNat o), .ref d, .int (Int32.ofNat q), .int (Int32.ofNat len)] ∧ Ch b A s ∧ Arr .byte d B s ∧ b ≠ d ∧ o + len ≤ A.slots.size ∧ q + len ≤ B.slots.size ∧ ∀ i, i < len → ¬ 255 < cv A (o + i)
def E (b : Addr) (A : Cell) (d : Addr) (B : Cell) (o q len : Nat) (r : Option Value) (s u : State) : Prop := r = some (.int (Int32.ofNat len)) ∧ ∃ B', Put d B' s u ∧ Laid B B' q (q + len) (fun j => Value.int (lo8 (cv A (o + (j - q)))))
/-- no char of the range above 255: len; the places written hold each char's low byte -/
theorem law (l : Launch) (b : Addr) (A : Cell) (d : Addr) (B : Cell) (o q len : Nat) : Law l yN 5 5 0 0 yB 7 (some .int) site (P b A d B o q len) (E b A d B o q len) (copyLocs d q len) 0 0 := by
  refine Law.of_walk (plainFor_of_name (by decide +kernel)) (by decide +kernel) (by decide +kernel) (by decide) (fun _ _ h => by rw [h.1]; rfl) (fun _ U U' hal hh h => ⟨h.1, h.2.1.mv hal hh, h.2.2.1.mv hal hh, h.2.2.2⟩) (fun r U U' V V' h1 hal h2 h => ⟨h.1, h.2.elim fun B' q => ⟨B', q.1.mv h1 h2, q.2⟩⟩) ?_
  intro p e s m args below meth c s₁ X0 hexec hbytes hml hret hlk hnm hown hh0 W hP
  obtain ⟨rfl, hA, hB, hne, l1, l2, hp⟩ := hP
  have c1 : Steps p.tables e below (s₁.setTop (entryFrame m #[.ref b, .int (Int32.ofNat o), .ref d, .int (Int32.ofNat q), .int (Int32.ofNat len)] 7)) (s₁.setTop (mkF m 0 #[.val (.ref b), .val (.int (Int32.ofNat o)), .val (.ref d), .val (.int (Int32.ofNat q)), .val (.int (Int32.ofNat len)), .unset, .unset] [])) := entry rfl
  have hA0 := hA.1.mv X0.warmed.alike hh0
  have hB0 := hB.mv X0.warmed.alike hh0
  have a31 := hA.1.2.2.2
  have c2 : Steps p.tables e below (s₁.setTop (entryFrame m #[.ref b, .int (Int32.ofNat o), .ref d, .int (Int32.ofNat q), .int (Int32.ofNat len)] 7)) (s₁.setTop (mkF m 3 #[.val (.ref b), .val (.int (Int32.ofNat o)), .val (.ref d), .val (.int (Int32.ofNat q)), .val (.int (Int32.ofNat len)), .val (.int 0), .unset] [])) := c1.trans (by
    refine iconstV X0.here hexec rfl 0 (hb hbytes d0) (by decide) ?_
    refine XS.istore X0.here hexec rfl (hb hbytes d1) rfl rfl ?_
    exact Steps.refl _)
  have loop : ∀ (r i : Nat), i + r = len → ∀ (z : Slot), (z = .unset ∨ ∃ w, z = .val w ∧ w.category = 1) → ∀ (Tl : State) (Bk : Cell), Stand p l e { frames := 0, locals := 0, cells := 0, slots := 0 } s m #[.ref b, .int (Int32.ofNat o), .ref d, .int (Int32.ofNat q), .int (Int32.ofNat len)] below meth c Tl ([] ++ copyLocs d q i) 0 0 → Put d Bk s₁ Tl → Laid B Bk q (q + i) (fun j => Value.int (lo8 (cv A (o + (j - q))))) →
      Steps p.tables e below (s₁.setTop (entryFrame m #[.ref b, .int (Int32.ofNat o), .ref d, .int (Int32.ofNat q), .int (Int32.ofNat len)] 7)) (Tl.setTop (mkF m 3 #[.val (.ref b), .val (.int (Int32.ofNat (o + i))), .val (.ref d), .val (.int (Int32.ofNat (q + i))), .val (.int (Int32.ofNat len)), .val (.int (Int32.ofNat i)), z] [])) → ∃ (T' : State) (B' : Cell) (z' : Slot), Stand p l e { frames := 0, locals := 0, cells := 0, slots := 0 } s m #[.ref b, .int (Int32.ofNat o), .ref d, .int (Int32.ofNat q), .int (Int32.ofNat len)] below meth c T' ([] ++ copyLocs d q len) 0 0 ∧ Put d B' s₁ T' ∧ Laid B B' q (q + len) (fun j => Value.int (lo8 (cv A (o + (j - q))))) ∧
      Steps p.tables e below (s₁.setTop (entryFrame m #[.ref b, .int (Int32.ofNat o), .ref d, .int (Int32.ofNat q), .int (Int32.ofNat len)] 7)) (T'.setTop (mkF m 3 #[.val (.ref b), .val (.int (Int32.ofNat (o + len))), .val (.ref d), .val (.int (Int32.ofNat (q + len))), .val (.int (Int32.ofNat len)), .val (.int (Int32.ofNat len)), z'] [])) := by
    intro r
    induction r with
    | zero =>
      intro i hi z hz Tl Bk Xl pl fl cl
      have hil : i = len := by omega
      rw [hil] at Xl fl cl
      exact ⟨Tl, Bk, z, Xl, pl, fl, cl⟩
    | succ r ih =>
      intro i hi z hz Tl Bk Xl pl fl cl
      have all := X0.warmed.alike.symm.trans Xl.warmed.alike
      have hAl := hA0.keep all (pl.other hne hA0.1)
      have hBk := hB0.like all pl.1 fl.1 fl.2.1 fl.2.2.1
      have hlt : q + i < Bk.slots.size := by rw [fl.2.2.1]; omega
      have c3 : Steps p.tables e below (s₁.setTop (entryFrame m #[.ref b, .int (Int32.ofNat o), .ref d, .int (Int32.ofNat q), .int (Int32.ofNat len)] 7)) (Tl.setTop (mkF m 12 #[.val (.ref b), .val (.int (Int32.ofNat (o + i))), .val (.ref d), .val (.int (Int32.ofNat (q + i))), .val (.int (Int32.ofNat len)), .val (.int (Int32.ofNat i)), z] [.int (Int32.ofNat (o + i)), .ref b])) := cl.trans (by
        refine XS.iload Xl.here hexec rfl (hb hbytes d3) rfl ?_
        refine XS.iload Xl.here hexec rfl (hb hbytes d5) rfl ?_
        refine XS.icmpNo Xl.here hexec rfl (hb hbytes d7) rfl (ii_ge_f (lt32 (by omega) (by omega))) ?_
        refine XS.aloadN Xl.here hexec rfl (hb hbytes d10) rfl rfl ?_
        refine XS.iloadN Xl.here hexec rfl (hb hbytes d11) rfl ?_
        exact Steps.refl _)
      have c4 : Steps p.tables e below (s₁.setTop (entryFrame m #[.ref b, .int (Int32.ofNat o), .ref d, .int (Int32.ofNat q), .int (Int32.ofNat len)] 7)) (Tl.setTop (mkF m 13 #[.val (.ref b), .val (.int (Int32.ofNat (o + i))), .val (.ref d), .val (.int (Int32.ofNat (q + i))), .val (.int (Int32.ofNat len)), .val (.int (Int32.ofNat i)), z] [.int (cv A (o + i))])) := c3.trans (by
        refine Xl.aget hexec hAl rfl (hA.get (i := o + i) (by omega)) rfl rfl (hb hbytes d12) ?_
        exact Steps.refl _)
      have c5 : Steps p.tables e below (s₁.setTop (entryFrame m #[.ref b, .int (Int32.ofNat o), .ref d, .int (Int32.ofNat q), .int (Int32.ofNat len)] 7)) (Tl.setTop (mkF m 15 #[.val (.ref b), .val (.int (Int32.ofNat (o + i))), .val (.ref d), .val (.int (Int32.ofNat (q + i))), .val (.int (Int32.ofNat len)), .val (.int (Int32.ofNat i)), .val (.int (cv A (o + i)))] [])) := c4.trans (by
        refine XS.istoreS Xl.here hexec rfl (hb hbytes d13) rfl rfl hz ?_
        exact Steps.refl _)
      have c6 : Steps p.tables e below (s₁.setTop (entryFrame m #[.ref b, .int (Int32.ofNat o), .ref d, .int (Int32.ofNat q), .int (Int32.ofNat len)] 7)) (Tl.setTop (mkF m 31 #[.val (.ref b), .val (.int (Int32.ofNat (o + i))), .val (.ref d), .val (.int (Int32.ofNat (q + i))), .val (.int (Int32.ofNat len)), .val (.int (Int32.ofNat i)), .val (.int (cv A (o + i)))] [.int (lo8 (cv A (o + i))), .int (Int32.ofNat (q + i)), .ref d])) := c5.trans (by
        refine XS.iload Xl.here hexec rfl (hb hbytes d15) rfl ?_
        refine sipushV Xl.here hexec rfl 255 (hb hbytes d17) (by decide) ?_
        refine XS.icmpYes Xl.here hexec rfl (pc0 := 20) rfl (hb hbytes d20) rfl (ii_le_t (hp i (by omega))) (by decide) rfl ?_
        refine XS.aloadN Xl.here hexec rfl (hb hbytes d26) rfl rfl ?_
        refine XS.iloadN Xl.here hexec rfl (hb hbytes d27) rfl ?_
        refine XS.iload Xl.here hexec rfl (hb hbytes d28) rfl ?_
        refine i2b Xl.here hexec rfl (hb hbytes d30) rfl ?_
        exact Steps.refl _)
      obtain ⟨T7, X7, p7, st7⟩ := Xl.aput hexec hBk rfl hlt rfl (fits_lo8 (cv A (o + i))) (g := (mkF m 31 #[.val (.ref b), .val (.int (Int32.ofNat (o + i))), .val (.ref d), .val (.int (Int32.ofNat (q + i))), .val (.int (Int32.ofNat len)), .val (.int (Int32.ofNat i)), .val (.int (cv A (o + i)))] [.int (lo8 (cv A (o + i))), .int (Int32.ofNat (q + i)), .ref d])) rfl (rest := []) rfl (hb hbytes d31)
      have c8 : Steps p.tables e below (s₁.setTop (entryFrame m #[.ref b, .int (Int32.ofNat o), .ref d, .int (Int32.ofNat q), .int (Int32.ofNat len)] 7)) (T7.setTop (mkF m 32 #[.val (.ref b), .val (.int (Int32.ofNat (o + i))), .val (.ref d), .val (.int (Int32.ofNat (q + i))), .val (.int (Int32.ofNat len)), .val (.int (Int32.ofNat i)), .val (.int (cv A (o + i)))] [])) := c6.trans (st7 _ (Steps.refl _))
      have c9 : Steps p.tables e below (s₁.setTop (entryFrame m #[.ref b, .int (Int32.ofNat o), .ref d, .int (Int32.ofNat q), .int (Int32.ofNat len)] 7)) (T7.setTop (mkF m 3 #[.val (.ref b), .val (.int (Int32.ofNat (o + i) + 1)), .val (.ref d), .val (.int (Int32.ofNat (q + i) + 1)), .val (.int (Int32.ofNat len)), .val (.int (Int32.ofNat i + 1)), .val (.int (cv A (o + i)))] [])) := c8.trans (by
        refine iincV X7.here hexec rfl 1 (hb hbytes d32) (by decide) rfl rfl ?_
        refine iincV X7.here hexec rfl 1 (hb hbytes d35) (by decide) rfl rfl ?_
        refine iincV X7.here hexec rfl 1 (hb hbytes d38) (by decide) rfl rfl ?_
        refine XS.goto X7.here hexec rfl (pc0 := 41) rfl (hb hbytes d41) (by decide) rfl ?_
        exact Steps.refl _)
      have c10 : Steps p.tables e below (s₁.setTop (entryFrame m #[.ref b, .int (Int32.ofNat o), .ref d, .int (Int32.ofNat q), .int (Int32.ofNat len)] 7)) (T7.setTop (mkF m 3 #[.val (.ref b), .val (.int (Int32.ofNat (o + (i + 1)))), .val (.ref d), .val (.int (Int32.ofNat (q + (i + 1)))), .val (.int (Int32.ofNat len)), .val (.int (Int32.ofNat (i + 1))), .val (.int (cv A (o + i)))] [])) := by
        have := c9
        rw [succ32, succ32, succ32] at this
        exact this
      exact ih (i + 1) (by omega) _ (Or.inr ⟨_, rfl, rfl⟩) T7 _ (by rw [copyLocs_step, ← List.append_assoc]; exact X7) (pl.trans p7) (fl.step (by omega) hlt (by simp)) c10
  obtain ⟨T9, B9, z9, X9, p9, f9, g9⟩ := loop len 0 (by omega) .unset (Or.inl rfl) s₁ B (by simpa [copyLocs] using X0) ⟨hB0.1, fun _ _ => rfl, rfl⟩ (Laid.zero _ _ _) c2
  have c11 : Steps p.tables e below (s₁.setTop (entryFrame m #[.ref b, .int (Int32.ofNat o), .ref d, .int (Int32.ofNat q), .int (Int32.ofNat len)] 7)) (T9.setTop (mkF m 46 #[.val (.ref b), .val (.int (Int32.ofNat (o + len))), .val (.ref d), .val (.int (Int32.ofNat (q + len))), .val (.int (Int32.ofNat len)), .val (.int (Int32.ofNat len)), z9] [.int (Int32.ofNat len)])) := g9.trans (by
    refine XS.iload X9.here hexec rfl (hb hbytes d3) rfl ?_
    refine XS.iload X9.here hexec rfl (hb hbytes d5) rfl ?_
    refine XS.icmpYes X9.here hexec rfl (pc0 := 7) rfl (hb hbytes d7) rfl (ii_ge_t (nlt32 (by omega) (Nat.le_refl _))) (by decide) rfl ?_
    refine XS.iload X9.here hexec rfl (hb hbytes d44) rfl ?_
    exact Steps.refl _)
  exact ⟨T9, some (.int (Int32.ofNat len)), _, _, _, X9, by simp, rfl, rfl, (fun h => by cases h), ⟨rfl, B9, p9.from hh0, f9⟩, fun fs hl => c11.trans (X9.ireturnOut hexec hret rfl (Or.inl rfl) (hb hbytes d46) hl)⟩
end Cmp5
namespace Cmp3
def yN : MethodName := ⟨"java/lang/StringUTF16", "compress", "([CII)[B"⟩
abbrev yB : ByteArray := jdk_52_method_16_code
theorem d0 : decode yB 0 = .ok (.iload_n 2, 1) := by decide +kernel
theorem d1 : decode yB 1 = .ok (.newarray .byte, 2) := by decide +kernel
theorem d3 : decode yB 3 = .ok (.astore_n 3, 1) := by decide +kernel
theorem d4 : decode yB 4 = .ok (.aload_n 0, 1) := by decide +kernel
theorem d5 : decode yB 5 = .ok (.iload_n 1, 1) := by decide +kernel
theorem d6 : decode yB 6 = .ok (.aload_n 3, 1) := by decide +kernel
theorem d7 : decode yB 7 = .ok (.iconst 0, 1) := by decide +kernel
theorem d8 : decode yB 8 = .ok (.iload_n 2, 1) := by decide +kernel
theorem d9 : decode yB 9 = .ok (.invokestatic 115, 3) := by decide +kernel
theorem d12 : decode yB 12 = .ok (.istore 4, 2) := by decide +kernel
theorem d14 : decode yB 14 = .ok (.iload 4, 2) := by decide +kernel
theorem d16 : decode yB 16 = .ok (.iload_n 2, 1) := by decide +kernel
theorem d17 : decode yB 17 = .ok (.if_icmp (.eq) 40, 3) := by decide +kernel
theorem d57 : decode yB 57 = .ok (.aload_n 3, 1) := by decide +kernel
theorem d58 : decode yB 58 = .ok (.areturn, 1) := by decide +kernel
def site : List Cond := [.arrayClass .byte, Cmp5.tab] ++ staticW U16 115 Cmp5.yN
def tab : Cond := tabOf yN yB 6 (some (.array .byte)) site
def P (b : Addr) (A : Cell) (o len : Nat) (args : Array Value) (s : State) : Prop := args = #[.ref b, .int (Int32.ofNat o), .int (Int32.ofNat len)] ∧ Ch b A s ∧ o + len ≤ A.slots.size ∧ len ≤ 536870912 ∧ ∀ i, i < len → ¬ 255 < cv A (o + i)
def E (b : Addr) (A : Cell) (o len : Nat) (r : Option Value) (s u : State) : Prop := NewArr .byte "[B" len (fun j => .int (lo8 (cv A (o + j)))) r s u ∧ u.heap.size = s.heap.size + 1
/-- no char of the range above 255: a new byte[] of their low bytes -/
theorem law (l : Launch) (b : Addr) (A : Cell) (o len : Nat) : Law l yN 3 3 1 18 yB 6 (some (.array .byte)) site (P b A o len) (E b A o len) [] 1 len := by
  refine Law.of_walk (plainFor_of_name (by decide +kernel)) (by decide +kernel) (by decide +kernel) (by decide) (fun _ _ h => by rw [h.1]; rfl) (fun _ U U' hal hh h => ⟨h.1, h.2.1.mv hal hh, h.2.2⟩) (fun r U U' V V' h1 hal h2 h => ⟨NewArr.mv r U U' V V' h1 hal h2 h.1, by rw [h1, h2]; exact h.2⟩) ?_
  intro p e s m args below meth c s₁ X0 hexec hbytes hml hret hlk hnm hown hh0 W hP
  obtain ⟨rfl, hA, l1, l2, hp⟩ := hP
  have a31 := hA.1.2.2.2
  have c1 : Steps p.tables e below (s₁.setTop (entryFrame m #[.ref b, .int (Int32.ofNat o), .int (Int32.ofNat len)] 6)) (s₁.setTop (mkF m 0 #[.val (.ref b), .val (.int (Int32.ofNat o)), .val (.int (Int32.ofNat len)), .unset, .unset, .unset] [])) := entry rfl
  have c2 : Steps p.tables e below (s₁.setTop (entryFrame m #[.ref b, .int (Int32.ofNat o), .int (Int32.ofNat len)] 6)) (s₁.setTop (mkF m 1 #[.val (.ref b), .val (.int (Int32.ofNat o)), .val (.int (Int32.ofNat len)), .unset, .unset, .unset] [.int (Int32.ofNat len)])) := c1.trans (by
    refine XS.iloadN X0.here hexec rfl (hb hbytes d0) rfl ?_
    exact Steps.refl _)
  obtain ⟨T3, B3, X3, ba3, bs3, bv3, bh3, bf3, st3⟩ := X0.anew hexec (atype := .byte) (wk W (.arrayClass .byte)) rfl (by show len * 1 ≤ _; omega) (by omega) (g := (mkF m 1 #[.val (.ref b), .val (.int (Int32.ofNat o)), .val (.int (Int32.ofNat len)), .unset, .unset, .unset] [.int (Int32.ofNat len)])) rfl (hb hbytes d1) (rest := []) rfl (Nat.le_refl _) (by show 0 + len ≤ len; omega)
  rw [hh0] at ba3 st3
  have kp3 : XT.Kept s T3 := (XT.Kept.of_eq hh0).push bh3
  have hA3 := hA.keep X3.warmed.alike (kp3 _ _ hA.1.1)
  have hne : b ≠ s.heap.size := hA.1.ne
  have c4 : Steps p.tables e below (s₁.setTop (entryFrame m #[.ref b, .int (Int32.ofNat o), .int (Int32.ofNat len)] 6)) (T3.setTop (mkF m 3 #[.val (.ref b), .val (.int (Int32.ofNat o)), .val (.int (Int32.ofNat len)), .unset, .unset, .unset] [.ref s.heap.size])) := c2.trans (st3 _ (Steps.refl _))
  have c5 : Steps p.tables e below (s₁.setTop (entryFrame m #[.ref b, .int (Int32.ofNat o), .int (Int32.ofNat len)] 6)) (T3.setTop (mkF m 9 #[.val (.ref b), .val (.int (Int32.ofNat o)), .val (.int (Int32.ofNat len)), .val (.ref s.heap.size), .unset, .unset] [.int (Int32.ofNat len), .int 0, .ref s.heap.size, .int (Int32.ofNat o), .ref b])) := c4.trans (by
    refine XS.astoreN X3.here hexec rfl (hb hbytes d3) rfl rfl rfl ?_
    refine XS.aloadN X3.here hexec rfl (hb hbytes d4) rfl rfl ?_
    refine XS.iloadN X3.here hexec rfl (hb hbytes d5) rfl ?_
    refine XS.aloadN X3.here hexec rfl (hb hbytes d6) rfl rfl ?_
    refine iconstV X3.here hexec rfl 0 (hb hbytes d7) (by decide) ?_
    refine XS.iloadN X3.here hexec rfl (hb hbytes d8) rfl ?_
    exact Steps.refl _)
  obtain ⟨v6, T6, X6, E6, g6⟩ := X3.callS hexec (Cmp5.law l b A s.heap.size B3 o 0 len) hown (wks W (staticW U16 115 Cmp5.yN)) (wk W Cmp5.tab) (W := 0) (Nat.le_of_ble_eq_true rfl) (Nat.le_of_ble_eq_true rfl) (Nat.le_refl _) (by show 0 + len + 0 ≤ len; omega) (g := (mkF m 9 #[.val (.ref b), .val (.int (Int32.ofNat o)), .val (.int (Int32.ofNat len)), .val (.ref s.heap.size), .unset, .unset] [.int (Int32.ofNat len), .int (Int32.ofNat 0), .ref s.heap.size, .int (Int32.ofNat o), .ref b])) rfl (by rw [hml]; rfl) c5 (argsL := [.ref b, .int (Int32.ofNat o), .ref s.heap.size, .int (Int32.ofNat 0), .int (Int32.ofNat len)]) (rest := []) rfl rfl (by show 2 * 0 + 0 ≤ _; decide) (hb hbytes d9) (⟨rfl, hA3, ba3, hne, l1, by rw [bs3]; simp, hp⟩)
  obtain ⟨rfl, B6, p6, f6⟩ := E6
  have c7 : Steps p.tables e below (s₁.setTop (entryFrame m #[.ref b, .int (Int32.ofNat o), .int (Int32.ofNat len)] 6)) (T6.setTop (mkF m 12 #[.val (.ref b), .val (.int (Int32.ofNat o)), .val (.int (Int32.ofNat len)), .val (.ref s.heap.size), .unset, .unset] [.int (Int32.ofNat len)])) := g6
  have c8 : Steps p.tables e below (s₁.setTop (entryFrame m #[.ref b, .int (Int32.ofNat o), .int (Int32.ofNat len)] 6)) (T6.setTop (mkF m 58 #[.val (.ref b), .val (.int (Int32.ofNat o)), .val (.int (Int32.ofNat len)), .val (.ref s.heap.size), .val (.int (Int32.ofNat len)), .unset] [.ref s.heap.size])) := c7.trans (by
    refine XS.istore X6.here hexec rfl (hb hbytes d12) rfl rfl ?_
    refine XS.iload X6.here hexec rfl (hb hbytes d14) rfl ?_
    refine XS.iloadN X6.here hexec rfl (hb hbytes d16) rfl ?_
    refine XS.icmpYes X6.here hexec rfl (pc0 := 17) rfl (hb hbytes d17) rfl (ii_eq_t rfl) (by decide) rfl ?_
    refine XS.aloadN X6.here hexec rfl (hb hbytes d57) rfl rfl ?_
    exact Steps.refl _)
  have X8 := X6.wide (L' := []) (cells' := 1) (slots' := len) (fun x hx hlt => by
    simp only [List.nil_append, copyLocs, List.mem_map, List.mem_range] at hx
    obtain ⟨i, -, rfl⟩ := hx
    exact absurd hlt (Nat.lt_irrefl _)) (Nat.le_refl _) (by omega)
  exact ⟨T6, some (.ref s.heap.size), _, _, _, X8, rfl, rfl, rfl, (fun h => by cases h), ⟨⟨rfl, B6, ba3.like (X3.warmed.alike.symm.trans X6.warmed.alike) p6.1 f6.1 f6.2.1 f6.2.2.1, f6.2.1.trans bv3, by rw [X6.warmed.alike.findClass, f6.1]; exact bf3, by rw [f6.2.2.1, bs3]; simp, fun j hj => by rw [f6.2.2.2 j, if_pos (by omega)]; rfl, kp3.put p6 (Nat.le_refl _)⟩, by rw [p6.2.2, bh3, hh0]; simp⟩, fun fs hl => c8.trans (X8.areturnOut hexec rfl hret rfl (hb hbytes d58) hl)⟩
end Cmp3
namespace CodL
def yN : MethodName := ⟨"java/lang/StringUTF16", "coderFromArrayLen", "([BI)B"⟩
abbrev yB : ByteArray := jdk_52_method_15_code
theorem d0 : decode yB 0 = .ok (.iload_n 1, 1) := by decide +kernel
theorem d1 : decode yB 1 = .ok (.aload_n 0, 1) := by decide +kernel
theorem d2 : decode yB 2 = .ok (.arraylength, 1) := by decide +kernel
theorem d3 : decode yB 3 = .ok (.isub, 1) := by decide +kernel
theorem d4 : decode yB 4 = .ok (.bipush 31, 2) := by decide +kernel
theorem d6 : decode yB 6 = .ok (.iushr, 1) := by decide +kernel
theorem d7 : decode yB 7 = .ok (.i2b, 1) := by decide +kernel
theorem d8 : decode yB 8 = .ok (.ireturn, 1) := by decide +kernel
def site : List Cond := []
def tab : Cond := tabOf yN yB 2 (some .byte) site
def P (d : Addr) (B : Cell) (args : Array Value) (s : State) : Prop := args = #[.ref d, .int (Int32.ofNat B.slots.size)] ∧ Arr .byte d B s
def E (r : Option Value) (s u : State) : Prop := XT.PureE (some (.int 0)) r s u
/-- an array as long as the number of chars: LATIN1 -/
theorem law (l : Launch) (d : Addr) (B : Cell) : Law l yN 2 2 0 0 yB 2 (some .byte) site (P d B) E [] 0 0 := by
  refine Law.of_walk (plainFor_of_name (by decide +kernel)) (by decide +kernel) (by decide +kernel) (by decide) (fun _ _ h => by rw [h.1]; rfl) (fun _ U U' hal hh h => ⟨h.1, h.2.mv hal hh⟩) (fun r U U' V V' h1 hal h2 h => XT.PureE.mv r U U' V V' h1 hal h2 h) ?_
  intro p e s m args below meth c s₁ X0 hexec hbytes hml hret hlk hnm hown hh0 W hP
  obtain ⟨rfl, hB⟩ := hP
  have hB0 := hB.mv X0.warmed.alike hh0
  have c1 : Steps p.tables e below (s₁.setTop (entryFrame m #[.ref d, .int (Int32.ofNat B.slots.size)] 2)) (s₁.setTop (mkF m 0 #[.val (.ref d), .val (.int (Int32.ofNat B.slots.size))] [])) := entry rfl
  have c2 : Steps p.tables e below (s₁.setTop (entryFrame m #[.ref d, .int (Int32.ofNat B.slots.size)] 2)) (s₁.setTop (mkF m 2 #[.val (.ref d), .val (.int (Int32.ofNat B.slots.size))] [.ref d, .int (Int32.ofNat B.slots.size)])) := c1.trans (by
    refine XS.iloadN X0.here hexec rfl (hb hbytes d0) rfl ?_
    refine XS.aloadN X0.here hexec rfl (hb hbytes d1) rfl rfl ?_
    exact Steps.refl _)
  have c3 : Steps p.tables e below (s₁.setTop (entryFrame m #[.ref d, .int (Int32.ofNat B.slots.size)] 2)) (s₁.setTop (mkF m 8 #[.val (.ref d), .val (.int (Int32.ofNat B.slots.size))] [.int (lo8 (ushr (Int32.ofNat B.slots.size - Int32.ofNat B.slots.size) 31))])) := c2.trans (by
    refine X0.alen hexec hB0 rfl rfl (hb hbytes d2) ?_
    refine XS.isub X0.here hexec rfl (hb hbytes d3) rfl ?_
    refine bipushV X0.here hexec rfl 31 (hb hbytes d4) (by decide) ?_
    refine iushr X0.here hexec rfl (hb hbytes d6) rfl ?_
    refine i2b X0.here hexec rfl (hb hbytes d7) rfl ?_
    exact Steps.refl _)
  have e0 : lo8 (ushr (Int32.ofNat B.slots.size - Int32.ofNat B.slots.size) 31) = 0 := by rw [Int32.sub_self]; decide
  rw [e0] at c3
  exact ⟨s₁, some (.int 0), _, _, _, X0, rfl, rfl, rfl, (fun h => by cases h), ⟨rfl, hh0⟩, fun fs hl => c3.trans (X0.ireturnOut hexec hret rfl (Or.inr (Or.inr (Or.inl rfl))) (hb hbytes d8) hl)⟩
end CodL
/-- the String at a is Latin-1 over a new byte[] (the heap's one new cell): the low bytes of the len chars of A from o on; every cell but a is kept -/
def Got (a : Addr) (D : Cell) (fV fC : Field) (A : Cell) (o len : Nat) (r : Option Value) (s u : State) : Prop := r = none ∧ ∃ D' V : Cell, Blank "java/lang/String" a D' u ∧ Same D D' [fV.slot, fC.slot] ∧ D'.slots[fV.slot]? = some (.ref s.heap.size) ∧ D'.slots[fC.slot]? = some (.int 0) ∧ Arr .byte s.heap.size V u ∧ V.vm = .none ∧ u.vm.findClass "[B" = some V.cls ∧ V.slots.size = len ∧ (∀ j, j < len → V.slots[j]? = some (.int (lo8 (cv A (o + j))))) ∧ (∀ (y : Addr) (c : Cell), y ≠ a → s.heap[y]? = some c → u.heap[y]? = some c) ∧ u.heap.size = s.heap.size + 1
theorem Got.mv {a : Addr} {D A : Cell} {fV fC : Field} {o len : Nat} : ∀ r (U U' V V' : State), U'.heap = U.heap → V.vm.Alike V'.vm → V'.heap = V.heap → Got a D fV fC A o len r U V → Got a D fV fC A o len r U' V' :=
  fun r U U' V V' h1 hal h2 ⟨e0, D', X, a1, a2, a3, a4, a5, a6, a7, a8, a9, a10, a11⟩ => ⟨e0, D', X, a1.mv hal h2, a2, by rw [h1]; exact a3, a4, by rw [h1]; exact a5.mv hal h2, a6, by rw [hal.findClass]; exact a7, a8, a9, by rw [h1, h2]; exact a10, by rw [h1, h2]; exact a11⟩
namespace New4
def yN : MethodName := ⟨"java/lang/String", "<init>", "([CIILjava/lang/Void;)V"⟩
abbrev yB : ByteArray := jdk_42_method_149_code
theorem d0 : decode yB 0 = .ok (.aload_n 0, 1) := by decide +kernel
theorem d1 : decode yB 1 = .ok (.invokespecial 1, 3) := by decide +kernel
theorem d4 : decode yB 4 = .ok (.iload_n 3, 1) := by decide +kernel
theorem d5 : decode yB 5 = .ok (.ifCond (.ne) 22, 3) := by decide +kernel
theorem d27 : decode yB 27 = .ok (.getstatic 38, 3) := by decide +kernel
theorem d30 : decode yB 30 = .ok (.ifCond (.eq) 28, 3) := by decide +kernel
theorem d33 : decode yB 33 = .ok (.aload_n 1, 1) := by decide +kernel
theorem d34 : decode yB 34 = .ok (.iload_n 2, 1) := by decide +kernel
theorem d35 : decode yB 35 = .ok (.iload_n 3, 1) := by decide +kernel
theorem d36 : decode yB 36 = .ok (.invokestatic 177, 3) := by decide +kernel
theorem d39 : decode yB 39 = .ok (.astore 5, 2) := by decide +kernel
theorem d41 : decode yB 41 = .ok (.aload_n 0, 1) := by decide +kernel
theorem d42 : decode yB 42 = .ok (.aload 5, 2) := by decide +kernel
theorem d44 : decode yB 44 = .ok (.iload_n 3, 1) := by decide +kernel
theorem d45 : decode yB 45 = .ok (.invokestatic 47, 3) := by decide +kernel
theorem d48 : decode yB 48 = .ok (.putfield 15, 3) := by decide +kernel
theorem d51 : decode yB 51 = .ok (.aload_n 0, 1) := by decide +kernel
theorem d52 : decode yB 52 = .ok (.aload 5, 2) := by decide +kernel
theorem d54 : decode yB 54 = .ok (.putfield 9, 3) := by decide +kernel
theorem d57 : decode yB 57 = .ok (.return_, 1) := by decide +kernel
def site : List Cond := [.fieldLink "java/lang/String" 38 "java/lang/String" "COMPACT_STRINGS" "Z", Cmp3.tab, CodL.tab, .laysFinal "java/lang/String" "java/lang/String" "value" "[B", .fieldLink "java/lang/String" 9 "java/lang/String" "value" "[B", .laysFinal "java/lang/String" "java/lang/String" "coder" "B", .fieldLink "java/lang/String" 15 "java/lang/String" "coder" "B"] ++ objW "java/lang/String" 1 ++ staticW "java/lang/String" 177 Cmp3.yN ++ staticW "java/lang/String" 47 CodL.yN
def tab : Cond := tabOf yN yB 6 none site
def P (a : Addr) (D : Cell) (fV fC : Field) (b : Addr) (A : Cell) (z : Int32) (o len : Nat) (args : Array Value) (s : State) : Prop := args = #[.ref a, .ref b, .int (Int32.ofNat o), .int (Int32.ofNat len), .null] ∧ Blank "java/lang/String" a D s ∧ Found "java/lang/String" "value" "[B" fV s ∧ Found "java/lang/String" "coder" "B" fC s ∧ Ch b A s ∧ StaticIs s "java/lang/String" "COMPACT_STRINGS" "Z" (.int z) ∧ ¬ z = 0 ∧ 0 < len ∧ o + len ≤ A.slots.size ∧ len ≤ 536870912 ∧ ∀ i, i < len → ¬ 255 < cv A (o + i)
def E (a : Addr) (D : Cell) (fV fC : Field) (A : Cell) (o len : Nat) (r : Option Value) (s u : State) : Prop := Got a D fV fC A o len r s u
/-- len > 0, no char of the range above 255: a Latin-1 String of their low bytes -/
theorem law (l : Launch) (a : Addr) (D : Cell) (fV fC : Field) (b : Addr) (A : Cell) (z : Int32) (o len : Nat) : Law l yN 5 4 2 35 yB 6 none site (P a D fV fC b A z o len) (E a D fV fC A o len) [⟨a, fC.slot⟩, ⟨a, fV.slot⟩] 1 len := by
  refine Law.of_walk (plainFor_of_name (by decide +kernel)) (by decide +kernel) (by decide +kernel) (by decide) (fun _ _ h => by rw [h.1]; rfl) (fun _ U U' hal hh h => ⟨h.1, h.2.1.mv hal hh, h.2.2.1.al hal, h.2.2.2.1.al hal, h.2.2.2.2.1.mv hal hh, h.2.2.2.2.2.1.there hal hh, h.2.2.2.2.2.2⟩) (fun r U U' V V' h1 hal h2 h => Got.mv r U U' V V' h1 hal h2 h) ?_
  intro p e s m args below meth c s₁ X0 hexec hbytes hml hret hlk hnm hown hh0 W hP
  obtain ⟨rfl, hB, f1, f2, hA, s1, hz, l0, l1, l2, hp⟩ := hP
  have a31 := hA.1.2.2.2
  have c1 : Steps p.tables e below (s₁.setTop (entryFrame m #[.ref a, .ref b, .int (Int32.ofNat o), .int (Int32.ofNat len), .null] 6)) (s₁.setTop (mkF m 0 #[.val (.ref a), .val (.ref b), .val (.int (Int32.ofNat o)), .val (.int (Int32.ofNat len)), .val .null, .unset] [])) := entry rfl
  have c2 : Steps p.tables e below (s₁.setTop (entryFrame m #[.ref a, .ref b, .int (Int32.ofNat o), .int (Int32.ofNat len), .null] 6)) (s₁.setTop (mkF m 1 #[.val (.ref a), .val (.ref b), .val (.int (Int32.ofNat o)), .val (.int (Int32.ofNat len)), .val .null, .unset] [.ref a])) := c1.trans (by
    refine XS.aloadN X0.here hexec rfl (hb hbytes d0) rfl rfl ?_
    exact Steps.refl _)
  obtain ⟨T3, X3, q3, st3⟩ := X0.oinit hexec hown (wks W (objW "java/lang/String" 1)) (g := (mkF m 1 #[.val (.ref a), .val (.ref b), .val (.int (Int32.ofNat o)), .val (.int (Int32.ofNat len)), .val .null, .unset] [.ref a])) rfl (by rw [hml]; rfl) (rest := []) rfl (hb hbytes d1) (W := 0) (by show 2 * 0 + 0 ≤ _; decide) (Nat.le_of_ble_eq_true rfl) (Nat.le_of_ble_eq_true rfl)
  have hh3 := q3.trans hh0
  have c4 : Steps p.tables e below (s₁.setTop (entryFrame m #[.ref a, .ref b, .int (Int32.ofNat o), .int (Int32.ofNat len), .null] 6)) (T3.setTop (mkF m 27 #[.val (.ref a), .val (.ref b), .val (.int (Int32.ofNat o)), .val (.int (Int32.ofNat len)), .val .null, .unset] [])) := (c2.trans (st3 _ (Steps.refl _))).trans (by
    refine XS.iloadN X3.here hexec rfl (hb hbytes d4) rfl ?_
    refine XS.ifYes X3.here hexec rfl (pc0 := 5) rfl (hb hbytes d5) rfl (i0_ne_t (nz32 (by omega) l0)) (by decide) rfl ?_
    exact Steps.refl _)
  obtain ⟨T5, X5, q5, st5⟩ := X3.sget hexec hown (wk W (.fieldLink "java/lang/String" 38 "java/lang/String" "COMPACT_STRINGS" "Z")) s1 (fun _ _ h => by rw [hh3]; exact h) (g := (mkF m 27 #[.val (.ref a), .val (.ref b), .val (.int (Int32.ofNat o)), .val (.int (Int32.ofNat len)), .val .null, .unset] [])) rfl (hb hbytes d27)
  have hh5 := q5.trans hh3
  have c6 : Steps p.tables e below (s₁.setTop (entryFrame m #[.ref a, .ref b, .int (Int32.ofNat o), .int (Int32.ofNat len), .null] 6)) (T5.setTop (mkF m 30 #[.val (.ref a), .val (.ref b), .val (.int (Int32.ofNat o)), .val (.int (Int32.ofNat len)), .val .null, .unset] [.int z])) := c4.trans (st5 _ (Steps.refl _))
  have c7 : Steps p.tables e below (s₁.setTop (entryFrame m #[.ref a, .ref b, .int (Int32.ofNat o), .int (Int32.ofNat len), .null] 6)) (T5.setTop (mkF m 36 #[.val (.ref a), .val (.ref b), .val (.int (Int32.ofNat o)), .val (.int (Int32.ofNat len)), .val .null, .unset] [.int (Int32.ofNat len), .int (Int32.ofNat o), .ref b])) := c6.trans (by
    refine XS.ifNo X5.here hexec rfl (hb hbytes d30) rfl (i0_eq_f hz) ?_
    refine XS.aloadN X5.here hexec rfl (hb hbytes d33) rfl rfl ?_
    refine XS.iloadN X5.here hexec rfl (hb hbytes d34) rfl ?_
    refine XS.iloadN X5.here hexec rfl (hb hbytes d35) rfl ?_
    exact Steps.refl _)
  obtain ⟨v8, T8, X8, E8, g8⟩ := X5.callS hexec (Cmp3.law l b A o len) hown (wks W (staticW "java/lang/String" 177 Cmp3.yN)) (wk W Cmp3.tab) (W := 0) (Nat.le_of_ble_eq_true rfl) (Nat.le_of_ble_eq_true rfl) (Nat.le_refl _) (by show 0 + len ≤ len; omega) (g := (mkF m 36 #[.val (.ref a), .val (.ref b), .val (.int (Int32.ofNat o)), .val (.int (Int32.ofNat len)), .val .null, .unset] [.int (Int32.ofNat len), .int (Int32.ofNat o), .ref b])) rfl (by rw [hml]; rfl) c7 (argsL := [.ref b, .int (Int32.ofNat o), .int (Int32.ofNat len)]) (rest := []) rfl rfl (by show 2 * 0 + 0 ≤ _; decide) (hb hbytes d36) (⟨rfl, hA.mv X5.warmed.alike hh5, l1, l2, hp⟩)
  obtain ⟨e8, z8⟩ := E8
  obtain ⟨rfl, N, n1, n2, n3, n4, n5, n6⟩ := NewArr.mv _ T5 s _ _ hh5.symm (Vm.Alike.refl _) rfl e8
  rw [hh5] at z8
  have hB1 := hB.keep X8.warmed.alike (n6 _ _ hB.1)
  have hne : s.heap.size ≠ a := (Nat.ne_of_lt (Array.getElem?_eq_some_iff.mp hB.1).1).symm
  have c9 : Steps p.tables e below (s₁.setTop (entryFrame m #[.ref a, .ref b, .int (Int32.ofNat o), .int (Int32.ofNat len), .null] 6)) (T8.setTop (mkF m 39 #[.val (.ref a), .val (.ref b), .val (.int (Int32.ofNat o)), .val (.int (Int32.ofNat len)), .val .null, .unset] [.ref s.heap.size])) := g8
  have c10 : Steps p.tables e below (s₁.setTop (entryFrame m #[.ref a, .ref b, .int (Int32.ofNat o), .int (Int32.ofNat len), .null] 6)) (T8.setTop (mkF m 45 #[.val (.ref a), .val (.ref b), .val (.int (Int32.ofNat o)), .val (.int (Int32.ofNat len)), .val .null, .val (.ref s.heap.size)] [.int (Int32.ofNat N.slots.size), .ref s.heap.size, .ref a])) := by
    have hc : Steps p.tables e below (s₁.setTop (entryFrame m #[.ref a, .ref b, .int (Int32.ofNat o), .int (Int32.ofNat len), .null] 6)) (T8.setTop (mkF m 45 #[.val (.ref a), .val (.ref b), .val (.int (Int32.ofNat o)), .val (.int (Int32.ofNat len)), .val .null, .val (.ref s.heap.size)] [.int (Int32.ofNat len), .ref s.heap.size, .ref a])) := c9.trans (by
      refine XS.astore X8.here hexec rfl (hb hbytes d39) rfl rfl rfl ?_
      refine XS.aloadN X8.here hexec rfl (hb hbytes d41) rfl rfl ?_
      refine XS.aload X8.here hexec rfl (hb hbytes d42) rfl rfl ?_
      refine XS.iloadN X8.here hexec rfl (hb hbytes d44) rfl ?_
      exact Steps.refl _)
    rw [n4]; exact hc
  obtain ⟨v11, T11, X11, E11, g11⟩ := X8.callS hexec (CodL.law l s.heap.size N) hown (wks W (staticW "java/lang/String" 47 CodL.yN)) (wk W CodL.tab) (W := 1) (Nat.le_of_ble_eq_true rfl) (Nat.le_of_ble_eq_true rfl) (Nat.le_refl _) (by show 0 + len + 0 ≤ len; omega) (g := (mkF m 45 #[.val (.ref a), .val (.ref b), .val (.int (Int32.ofNat o)), .val (.int (Int32.ofNat len)), .val .null, .val (.ref s.heap.size)] [.int (Int32.ofNat N.slots.size), .ref s.heap.size, .ref a])) rfl (by rw [hml]; rfl) c10 (argsL := [.ref s.heap.size, .int (Int32.ofNat N.slots.size)]) (rest := [.ref a]) rfl rfl (by show 2 * 0 + (1 + 0) ≤ _; decide) (hb hbytes d45) (⟨rfl, n1⟩)
  obtain ⟨rfl, q11⟩ := E11
  have hB11 := hB1.mv (X8.warmed.alike.symm.trans X11.warmed.alike) q11
  have c12 : Steps p.tables e below (s₁.setTop (entryFrame m #[.ref a, .ref b, .int (Int32.ofNat o), .int (Int32.ofNat len), .null] 6)) (T11.setTop (mkF m 48 #[.val (.ref a), .val (.ref b), .val (.int (Int32.ofNat o)), .val (.int (Int32.ofNat len)), .val .null, .val (.ref s.heap.size)] [.int 0, .ref a])) := g11
  obtain ⟨T13, X13, p13, bl13, sl13, st13⟩ := X11.finit hexec hown (wk W (.fieldLink "java/lang/String" 15 "java/lang/String" "coder" "B")) (Or.inr ⟨_, (wk W (.laysFinal "java/lang/String" "java/lang/String" "coder" "B"))⟩) (Or.inl ⟨rfl, hnm⟩) f2 (Or.inl rfl) hB11 (t := .byte) (by decide +kernel) rfl (g := (mkF m 48 #[.val (.ref a), .val (.ref b), .val (.int (Int32.ofNat o)), .val (.int (Int32.ofNat len)), .val .null, .val (.ref s.heap.size)] [.int 0, .ref a])) rfl (rest := []) rfl (hb hbytes d48)
  have c14 : Steps p.tables e below (s₁.setTop (entryFrame m #[.ref a, .ref b, .int (Int32.ofNat o), .int (Int32.ofNat len), .null] 6)) (T13.setTop (mkF m 54 #[.val (.ref a), .val (.ref b), .val (.int (Int32.ofNat o)), .val (.int (Int32.ofNat len)), .val .null, .val (.ref s.heap.size)] [.ref s.heap.size, .ref a])) := (c12.trans (st13 _ (Steps.refl _))).trans (by
    refine XS.aloadN X13.here hexec rfl (hb hbytes d51) rfl rfl ?_
    refine XS.aload X13.here hexec rfl (hb hbytes d52) rfl rfl ?_
    exact Steps.refl _)
  obtain ⟨T15, X15, p15, bl15, sl15, st15⟩ := X13.finit hexec hown (wk W (.fieldLink "java/lang/String" 9 "java/lang/String" "value" "[B")) (Or.inr ⟨_, (wk W (.laysFinal "java/lang/String" "java/lang/String" "value" "[B"))⟩) (Or.inl ⟨rfl, hnm⟩) f1 (Or.inl rfl) bl13 (t := (.array .byte)) (by decide +kernel) rfl (g := (mkF m 54 #[.val (.ref a), .val (.ref b), .val (.int (Int32.ofNat o)), .val (.int (Int32.ofNat len)), .val .null, .val (.ref s.heap.size)] [.ref s.heap.size, .ref a])) rfl (rest := []) rfl (hb hbytes d54)
  have c16 : Steps p.tables e below (s₁.setTop (entryFrame m #[.ref a, .ref b, .int (Int32.ofNat o), .int (Int32.ofNat len), .null] 6)) (T15.setTop (mkF m 57 #[.val (.ref a), .val (.ref b), .val (.int (Int32.ofNat o)), .val (.int (Int32.ofNat len)), .val .null, .val (.ref s.heap.size)] [])) := c14.trans (st15 _ (Steps.refl _))
  have ap := apart (Or.inr ⟨_, (wk W (.laysFinal "java/lang/String" "java/lang/String" "value" "[B"))⟩) (Or.inr ⟨_, (wk W (.laysFinal "java/lang/String" "java/lang/String" "coder" "B"))⟩) f1 f2 (t₁ := .array .byte) (t₂ := .byte) (by decide +kernel) (by decide +kernel) (by decide)
  have al := X8.warmed.alike.symm.trans X15.warmed.alike
  have n7 : T11.heap[s.heap.size]? = some N := by rw [q11]; exact n1.1
  exact ⟨T15, none, _, _, _, X15, by simp, rfl, by omega, (fun _ => rfl), ⟨rfl, _, N, bl15, ((Same.refl D _).set _ (by simp)).set _ (by simp), sl15, (Cell.slots_setSlot_ne _ ap).trans sl13, n1.keep al (p15.other hne (p13.other hne n7)), n2, by rw [al.findClass]; exact n3, n4, n5, fun y c h1 h2 => p15.other h1 (p13.other h1 (by rw [q11]; exact n6 y c h2)), by rw [p15.2.2, p13.2.2, q11]; exact z8⟩, fun fs hl => c16.trans (X15.returnOut hexec hret (hb hbytes d57) hl)⟩
end New4
namespace New1
def yN : MethodName := ⟨"java/lang/String", "<init>", "([C)V"⟩
abbrev yB : ByteArray := jdk_42_method_3_code
theorem d0 : decode yB 0 = .ok (.aload_n 0, 1) := by decide +kernel
theorem d1 : decode yB 1 = .ok (.aload_n 1, 1) := by decide +kernel
theorem d2 : decode yB 2 = .ok (.iconst 0, 1) := by decide +kernel
theorem d3 : decode yB 3 = .ok (.aload_n 1, 1) := by decide +kernel
theorem d4 : decode yB 4 = .ok (.arraylength, 1) := by decide +kernel
theorem d5 : decode yB 5 = .ok (.aconst_null, 1) := by decide +kernel
theorem d6 : decode yB 6 = .ok (.invokespecial 27, 3) := by decide +kernel
theorem d9 : decode yB 9 = .ok (.return_, 1) := by decide +kernel
def site : List Cond := [New4.tab] ++ initW "java/lang/String" 27 New4.yN
def tab : Cond := tabOf yN yB 2 none site
def P (a : Addr) (D : Cell) (fV fC : Field) (b : Addr) (A : Cell) (z : Int32) (args : Array Value) (s : State) : Prop := args = #[.ref a, .ref b] ∧ Blank "java/lang/String" a D s ∧ Found "java/lang/String" "value" "[B" fV s ∧ Found "java/lang/String" "coder" "B" fC s ∧ Ch b A s ∧ StaticIs s "java/lang/String" "COMPACT_STRINGS" "Z" (.int z) ∧ ¬ z = 0 ∧ 0 < A.slots.size ∧ A.slots.size ≤ 536870912 ∧ ∀ i, i < A.slots.size → ¬ 255 < cv A i
def E (a : Addr) (D : Cell) (fV fC : Field) (A : Cell) (r : Option Value) (s u : State) : Prop := Got a D fV fC A 0 A.slots.size r s u
/-- new String(chars), not empty, no char above 255: a Latin-1 String of their low bytes -/
theorem law (l : Launch) (a : Addr) (D : Cell) (fV fC : Field) (b : Addr) (A : Cell) (z : Int32) : Law l yN 2 1 3 52 yB 2 none site (P a D fV fC b A z) (E a D fV fC A) [⟨a, fC.slot⟩, ⟨a, fV.slot⟩] 1 A.slots.size := by
  refine Law.of_walk (plainFor_of_name (by decide +kernel)) (by decide +kernel) (by decide +kernel) (by decide) (fun _ _ h => by rw [h.1]; rfl) (fun _ U U' hal hh h => ⟨h.1, h.2.1.mv hal hh, h.2.2.1.al hal, h.2.2.2.1.al hal, h.2.2.2.2.1.mv hal hh, h.2.2.2.2.2.1.there hal hh, h.2.2.2.2.2.2⟩) (fun r U U' V V' h1 hal h2 h => Got.mv r U U' V V' h1 hal h2 h) ?_
  intro p e s m args below meth c s₁ X0 hexec hbytes hml hret hlk hnm hown hh0 W hP
  obtain ⟨rfl, hB, f1, f2, hA, s1, hz, l0, l2, hp⟩ := hP
  have c1 : Steps p.tables e below (s₁.setTop (entryFrame m #[.ref a, .ref b] 2)) (s₁.setTop (mkF m 0 #[.val (.ref a), .val (.ref b)] [])) := entry rfl
  have c2 : Steps p.tables e below (s₁.setTop (entryFrame m #[.ref a, .ref b] 2)) (s₁.setTop (mkF m 6 #[.val (.ref a), .val (.ref b)] [.null, .int (Int32.ofNat A.slots.size), .int 0, .ref b, .ref a])) := c1.trans (by
    refine XS.aloadN X0.here hexec rfl (hb hbytes d0) rfl rfl ?_
    refine XS.aloadN X0.here hexec rfl (hb hbytes d1) rfl rfl ?_
    refine iconstV X0.here hexec rfl 0 (hb hbytes d2) (by decide) ?_
    refine XS.aloadN X0.here hexec rfl (hb hbytes d3) rfl rfl ?_
    refine X0.alen hexec (hA.1.mv X0.warmed.alike hh0) rfl rfl (hb hbytes d4) ?_
    refine XS.aconstNull X0.here hexec rfl (hb hbytes d5) ?_
    exact Steps.refl _)
  obtain ⟨v3, T3, X3, E3, g3⟩ := X0.callN hexec (New4.law l a D fV fC b A z 0 A.slots.size) rfl hown (wks W (initW "java/lang/String" 27 New4.yN)) (W New4.tab (by simp only [site, List.mem_cons, List.mem_append, true_or, or_true])) (W := 0) (Nat.le_of_ble_eq_true rfl) (Nat.le_of_ble_eq_true rfl) (Nat.le_refl _) (by show 0 + A.slots.size ≤ A.slots.size; omega) (g := (mkF m 6 #[.val (.ref a), .val (.ref b)] [.null, .int (Int32.ofNat A.slots.size), .int (Int32.ofNat 0), .ref b, .ref a])) rfl (by rw [hml]; rfl) c2 (argsL := [.ref b, .int (Int32.ofNat 0), .int (Int32.ofNat A.slots.size), .null]) (rest := []) rfl rfl (by show 2 * 0 + 0 ≤ _; decide) (hb hbytes d6) (⟨rfl, hB.mv X0.warmed.alike hh0, f1.al X0.warmed.alike, f2.al X0.warmed.alike, hA.mv X0.warmed.alike hh0, s1.there X0.warmed.alike hh0, hz, l0, by omega, l2, fun i hi => by rw [Nat.zero_add]; exact hp i hi⟩)
  have e0 := Got.mv _ s₁ s _ _ hh0.symm (Vm.Alike.refl _) rfl E3
  obtain rfl := e0.1
  have c4 : Steps p.tables e below (s₁.setTop (entryFrame m #[.ref a, .ref b] 2)) (T3.setTop (mkF m 9 #[.val (.ref a), .val (.ref b)] [])) := g3
  exact ⟨T3, none, _, _, _, X3, by simp, rfl, by omega, (fun _ => rfl), e0, fun fs hl => c4.trans (X3.returnOut hexec hret (hb hbytes d9) hl)⟩
theorem pays {l : Launch} {R : Room} {p : Program} {e : Env} {below : List Frame} {s : State} {sargs : Array Value} {len W : Nat} (a : Addr) (D : Cell) (fV fC : Field) (b : Addr) (A : Cell) (z : Int32) (htab : tab.before sargs s = true) (hfr : 4 ≤ R.frames) (hlo : W + 65 ≤ R.locals) :
    Back l R p e below s sargs yN len W (fun A₁ a₁ => A₁.cells + 1 ≤ R.cells ∧ A₁.slots + A.slots.size ≤ R.slots ∧ P a D fV fC b A z a₁ A₁.U) (fun A₁ _ v₁ B₁ => E a D fV fC A v₁ A₁.U B₁.U ∧ B₁.locs = A₁.locs ++ [⟨a, fC.slot⟩, ⟨a, fV.slot⟩] ∧ B₁.cells = A₁.cells + 1 ∧ B₁.slots = A₁.slots + A.slots.size) :=
  (law l a D fV fC b A z).pays htab hfr (by omega)
end New1
/-- the byte, read back as charAt reads it, is the char -/
theorem lo8_mask {x : Int32} (h0 : ¬ x < 0) (h1 : ¬ 255 < x) : lo8 x &&& 255 = x := by
  have t : ∀ k : Fin 256, lo8 (Int32.ofNat k.val) &&& 255 = Int32.ofNat k.val := by decide +kernel
  rw [Int32.lt_iff_toInt_lt] at h0 h1
  have e0 : (0 : Int32).toInt = 0 := rfl
  have e1 : (255 : Int32).toInt = 255 := rfl
  obtain ⟨k, hk⟩ : ∃ k : Nat, x.toInt = k := ⟨x.toInt.toNat, by omega⟩
  have hx : x = Int32.ofNat k := Int32.toInt_inj.mp (by rw [hk, Int32.toInt_ofNat_small (by omega)])
  rw [hx]
  exact t ⟨k, by omega⟩
end StrChars
namespace StrChars.Road
open Jvm Sem ClassFile Op Lib Jvm.Stand Jvm.Free Jvm.Free.XT
open Jvm.Lib.Cold (StaticIs)
abbrev ST : String := "java/lang/String"
/-- every table word that New1's law asks, flat -/
abbrev words : List Jvm.Cond := [.code New1.yN New1.yB 2 none, .initialized ST, .methodLink ST 27 New4.yN, .instanceMethod New4.yN,
  .code New4.yN New4.yB 6 none, .fieldLink ST 38 ST "COMPACT_STRINGS" "Z", .laysFinal ST ST "value" "[B", .fieldLink ST 9 ST "value" "[B", .laysFinal ST ST "coder" "B", .fieldLink ST 15 ST "coder" "B",
  .methodLink ST 1 Lib.objectInit, .instanceMethod Lib.objectInit, .code Lib.objectInit ⟨#[0xb1]⟩ 1 none, .methodLink ST 177 Cmp3.yN, .static Cmp3.yN, .methodLink ST 47 CodL.yN, .static CodL.yN,
  .code Cmp3.yN Cmp3.yB 6 (some (.array .byte)), .initialized U16, .arrayClass .byte, .methodLink U16 115 Cmp5.yN, .static Cmp5.yN, .code Cmp5.yN Cmp5.yB 7 (some .int), .code CodL.yN CodL.yB 2 (some .byte)]
theorem tab_of {a : Array Value} {s : State} (h : ∀ w ∈ words, w.before a s = true) : New1.tab.before a s = true := by
  have h5 : Cmp5.tab.before a s = true := unparts (wk h (.code Cmp5.yN Cmp5.yB 7 (some .int))) (wks h (.initialized Cmp5.yN.cls :: Cmp5.site))
  have hc : CodL.tab.before a s = true := unparts (wk h (.code CodL.yN CodL.yB 2 (some .byte))) (wks h (.initialized CodL.yN.cls :: CodL.site))
  have q5 : ∀ w ∈ Cmp5.tab :: words, w.before a s = true := fun w hw => (List.mem_cons.mp hw).elim (fun e => e ▸ h5) (h w)
  have h3 : Cmp3.tab.before a s = true := unparts (wk q5 (.code Cmp3.yN Cmp3.yB 6 (some (.array .byte)))) (wks q5 (.initialized Cmp3.yN.cls :: Cmp3.site))
  have q3 : ∀ w ∈ Cmp3.tab :: CodL.tab :: words, w.before a s = true := fun w hw => (List.mem_cons.mp hw).elim (fun e => e ▸ h3) fun hw => (List.mem_cons.mp hw).elim (fun e => e ▸ hc) (h w)
  have h4 : New4.tab.before a s = true := unparts (wk q3 (.code New4.yN New4.yB 6 none)) (wks q3 (.initialized New4.yN.cls :: New4.site))
  have q4 : ∀ w ∈ New4.tab :: words, w.before a s = true := fun w hw => (List.mem_cons.mp hw).elim (fun e => e ▸ h4) (h w)
  exact unparts (wk q4 (.code New1.yN New1.yB 2 none)) (wks q4 (.initialized New1.yN.cls :: New1.site))
/-- the words ride from the start Z to the walk's own state -/
theorem moved {Z s : State} {a0 args : Array Value} (hZ : Z.Warmed39 s.vm) (hw : ∀ d ∈ words, d.before a0 Z = true) : ∀ d ∈ words, d.before args s = true := fun d hd => by
  have q := hw d hd
  have t : ∀ d ∈ words, d = .arrayClass .byte ∨ (d.onTables && d.keepsFace) = true := by decide +kernel
  rcases t d hd with rfl | t
  · exact RoadKit.mvA hZ q
  · exact RoadKit.mv hZ q t
/-- WHAT COMES BACK, over the tables of the start Z: h the heap at the call, h' behind it -/
def Q (Z : State) (x : Addr) (A : Cell) (h : Heap) (v : Option Value) (h' : Heap) (L : List Loc) : Prop := v = none ∧ (∀ y ∈ L, y.base = x) ∧ RoadKit.Keep h h' [x] ∧ h'.size = h.size + 1 ∧ RoadKit.Exa Z h' x ST ∧ RoadKit.Fld Z h' x ST "value" "[B" (.ref h.size) ∧ RoadKit.Fld Z h' x ST "coder" "B" (.int 0) ∧
  (∃ V : Cell, RoadKit.Arr Z h' h.size V .byte ∧ V.vm = .none ∧ Z.vm.findClass "[B" = some V.cls ∧ V.slots.size = A.slots.size ∧ ∀ j, j < A.slots.size → V.slots[j]? = some (.int (lo8 (cv A j)))) ∧
  ∀ (O n d : String) (w : Value), RoadKit.Fld Z h x O n d w → RoadKit.slotOf Z O n d ≠ RoadKit.slotOf Z ST "value" "[B" → RoadKit.slotOf Z O n d ≠ RoadKit.slotOf Z ST "coder" "B" → RoadKit.Fld Z h' x O n d w
/-- **new String(chars) AT A CALL, IN THE ROAD'S FORM**: for specialBack behind newO: x the fresh String, b the char[] with the cell A -/
theorem back {p : Program} {l : Launch} {e : Env} {R : Room} {s : State} {args : Array Value} {below : List Frame} {len W : Nat} {Z : State} {a0 : Array Value} {h : Heap} (hZ : Z.Warmed39 s.vm) (hw : ∀ d ∈ words, d.before a0 Z = true) {kI : Nat} (wi : (Jvm.Cond.instantiable ST kI).before a0 Z = true)
    {x b : Addr} {A : Cell} {z : Int32} {v0 c0 : Value} (E : RoadKit.Exa Z h x ST) (V : RoadKit.Fld Z h x ST "value" "[B" v0) (C : RoadKit.Fld Z h x ST "coder" "B" c0) (K : RoadKit.Arr Z h b A .char) (hty : Typed .char A) (S : RoadKit.Sta Z h ST "COMPACT_STRINGS" "Z" (.int z)) (hz : ¬ z = 0)
    (l0 : 0 < A.slots.size) (l2 : A.slots.size ≤ 536870912) (hp : ∀ i, i < A.slots.size → ¬ 255 < cv A i) (hfr : 4 ≤ R.frames) (hlo : W + 65 ≤ R.locals) :
    Back l R p e below s args New1.yN len W (fun P a => a = #[.ref x, .ref b] ∧ P.U.heap = h ∧ P.cells + 1 ≤ R.cells ∧ P.slots + A.slots.size ≤ R.slots)
      (fun P _ v B => ∃ L, Q Z x A h v B.U.heap L ∧ B.locs = P.locs ++ L ∧ B.cells = P.cells + 1 ∧ B.slots = P.slots + A.slots.size) := by
  intro m meth c P g ig mk a X hg hsize hdg hW hn hp'
  obtain ⟨rfl, rfl, r1, r2⟩ := hp'
  have al : Z.vm.Alike P.U.vm := hZ.alike.trans X.warmed.alike
  obtain ⟨D, cfV, kV, iV, fV, hD, gV, stV, knV, obV, asV, slV⟩ := id V
  obtain ⟨D', cfC, kC, iC, fC, hD', gC, stC, -, -, asC, slC⟩ := id C
  cases hD.symm.trans hD'
  obtain ⟨D2, kD, e1, e2, e3, e4, e5⟩ := id E
  cases hD.symm.trans e1
  obtain ⟨c2, k2, i1, i2, i3, -⟩ := Cond.instantiable_spec wi
  cases e2.symm.trans i1
  cases e3.symm.trans i2
  obtain ⟨kU, u1, u2⟩ := al.2.2 _ _ e3
  have hB : Blank ST x D P.U := ⟨hD, ⟨knV, fun q hq => by rw [hq] at obV; cases obV⟩, by rw [al.findClass]; exact e2, kU, u1, by rw [u2]; exact i3, by rw [u2]; exact e5 i3⟩
  have F1 : Found ST "value" "[B" fV P.U := ⟨SBG.found_only al ⟨cfV, kV, iV, gV⟩, stV⟩
  have F2 : Found ST "coder" "B" fC P.U := ⟨SBG.found_only al ⟨cfC, kC, iC, gC⟩, stC⟩
  have hA : Ch b A P.U := ⟨⟨K.1, State.isArrayOf_alike al K.2.1, K.2.2, by omega⟩, hty⟩
  have hS : StaticIs P.U ST "COMPACT_STRINGS" "Z" (.int z) := by
    obtain ⟨cfS, iS, kS, fS, st, cS, t1, t2, t3, t4, t5, t6, t7⟩ := S
    exact StaticIs.there (s := { Z with heap := P.U.heap }) ⟨cfS, iS, kS, fS, st, cS, t1, t2, t3, t4, t5, (fun q => by rw [q] at t6; cases t6), t7⟩ al rfl
  obtain ⟨v, B, X', ⟨⟨hv, E', V', q1, q2, q3, q4, q5, q6, q7, q8, q9, q10, q11⟩, hl, hc, hs⟩, st⟩ := New1.pays x D fV fC b A z (tab_of (moved hZ hw)) hfr hlo m meth c P g ig mk _ X hg hsize hdg hW hn ⟨r1, r2, rfl, hB, F1, F2, hA, hS, hz, l0, l2, hp⟩
  have al' : Z.vm.Alike B.U.vm := hZ.alike.trans X'.warmed.alike
  have hsz : E'.slots.size = D.slots.size := by
    obtain ⟨-, -, -, kB, w1, w2, w3⟩ := q1
    obtain ⟨kB', y1, y2⟩ := al'.2.2 _ _ e3
    rw [q2.2.1] at w1
    cases w1.symm.trans y1
    rw [w3, e5 i3, y2]
  refine ⟨v, B, X', ⟨_, ⟨hv, ?_, ⟨by omega, fun y cy hy hn' => q10 y cy (by simpa using hn') hy, fun y cy hy => ?_⟩, q11, ⟨E', _, q1.1, by rw [q2.2.1]; exact e2, by rw [q2.2.1]; exact e3, by rw [q2.1]; exact obV, fun _ => by rw [hsz]; exact e5 i3⟩,
    ⟨E', cfV, kV, iV, fV, q1.1, gV, stV, by rw [q2.1]; exact knV, by rw [q2.1]; exact obV, by rw [q2.2.1]; exact asV, q3⟩, ⟨E', cfC, kC, iC, fC, q1.1, gC, stC, by rw [q2.1]; exact knV, by rw [q2.1]; exact obV, by rw [q2.2.1]; exact asC, q4⟩,
    ⟨V', ⟨q5.1, State.isArrayOf_alike al'.symm q5.2.1, q5.2.2.1⟩, q6, by rw [← al'.findClass]; exact q7, q8, fun j hj => by have := q9 j hj; rwa [Nat.zero_add] at this⟩, fun O n d w F n1 n2 => ?_⟩, hl, hc, hs⟩, st⟩
  · intro y hy
    simp only [List.mem_cons, List.not_mem_nil, or_false] at hy
    rcases hy with rfl | rfl <;> rfl
  · by_cases q : y = x
    · subst q
      cases hD.symm.trans hy
      exact ⟨E', q1.1, q2.2.1, q2.1, hsz⟩
    · exact ⟨cy, q10 y cy q hy, rfl, rfl, rfl⟩
  · obtain ⟨D3, cf, k, i, f, g1, g2, g3, g4, g5, g6, g7⟩ := F
    cases hD.symm.trans g1
    simp only [RoadKit.slotOf, g2, gV, gC, Option.map_some, Option.getD_some] at n1 n2
    exact ⟨E', cf, k, i, f, q1.1, g2, g3, by rw [q2.1]; exact g4, by rw [q2.1]; exact g5, by rw [q2.2.1]; exact g6, by rw [q2.2.2 f.slot (by simp [n1, n2])]; exact g7⟩
end StrChars.Road
namespace StrChars.Road
open Jvm Sem ClassFile Op Lib Jvm.Stand Jvm.Free Jvm.Free.XT
/-- WHAT COMES BACK, the byte[] as a list of values -/
def QA (Z : State) (x : Addr) (zn : Int32) (cs : List Int32) (h : Heap) (v : Option Value) (h' : Heap) (L : List Loc) : Prop := v = none ∧ (∀ y ∈ L, y.base = x) ∧ RoadKit.Keep h h' [x] ∧ h'.size = h.size + 1 ∧ RoadKit.Exa Z h' x ST ∧ RoadKit.Fld Z h' x ST "value" "[B" (.ref h.size) ∧ RoadKit.Fld Z h' x ST "coder" "B" (.int 0) ∧
  (∃ kb, Z.vm.findClass "[B" = some kb ∧ RoadKit.Arv Z h' h.size kb .byte zn (cs.map fun c => .int (lo8 c)) (.int 0)) ∧
  ∀ (O n d : String) (w : Value), RoadKit.Fld Z h x O n d w → RoadKit.slotOf Z O n d ≠ RoadKit.slotOf Z ST "value" "[B" → RoadKit.slotOf Z O n d ≠ RoadKit.slotOf Z ST "coder" "B" → RoadKit.Fld Z h' x O n d w
/-- **new String(chars) AT A CALL, THE ARRAYS AS LISTS**: the char[] at b holds cs, not empty, no char above 255 -/
theorem backArv {p : Program} {l : Launch} {e : Env} {R : Room} {s : State} {args : Array Value} {below : List Frame} {len W : Nat} {Z : State} {a0 : Array Value} {h : Heap} (hZ : Z.Warmed39 s.vm) (hw : ∀ d ∈ words, d.before a0 Z = true) {kI : Nat} (wi : (Jvm.Cond.instantiable ST kI).before a0 Z = true)
    {x b : Addr} {k : ClassId} {zn z : Int32} {cs : List Int32} {dv v0 c0 : Value} (E : RoadKit.Exa Z h x ST) (V : RoadKit.Fld Z h x ST "value" "[B" v0) (C : RoadKit.Fld Z h x ST "coder" "B" c0) (K : RoadKit.Arv Z h b k .char zn (cs.map Value.int) dv) (S : RoadKit.Sta Z h ST "COMPACT_STRINGS" "Z" (.int z)) (hz : ¬ z = 0)
    (hlen : zn.toNatClampNeg = cs.length) (h0 : 0 < cs.length) (hbig : cs.length ≤ 536870912) (hall : ∀ c ∈ cs, ¬ 255 < c) (hfr : 4 ≤ R.frames) (hlo : W + 65 ≤ R.locals) :
    Back l R p e below s args New1.yN len W (fun P a => a = #[.ref x, .ref b] ∧ P.U.heap = h ∧ P.cells + 1 ≤ R.cells ∧ P.slots + cs.length ≤ R.slots)
      (fun P _ v B => ∃ L, QA Z x zn cs h v B.U.heap L ∧ B.locs = P.locs ++ L ∧ B.cells = P.cells + 1 ∧ B.slots = P.slots + cs.length) := by
  obtain ⟨A, K1, K2, K3, K4, K5, K6⟩ := K
  have e : A.slots.size = cs.length := K3.trans hlen
  have hat : ∀ (i : Nat) (hi : i < cs.length), A.slots[i]? = some (.int cs[i]) := fun i hi => by rw [K5 i (by omega)]; simp [List.getD_eq_getElem?_getD, hi]
  have hcv : ∀ (i : Nat) (hi : i < cs.length), cv A i = cs[i] := fun i hi => by unfold cv; rw [hat i hi]
  have hty : Typed .char A := fun i v hv => by
    have hi : i < A.slots.size := (Array.getElem?_eq_some_iff.mp hv).1
    have q := K5 i hi
    rw [hv] at q
    rw [Option.some.inj q]
    exact K6 i hi
  refine Back.mono (back hZ hw wi E V C K1 hty S hz (by omega) (by omega) (fun i hi => by rw [hcv i (by omega)]; exact hall _ (List.getElem_mem _)) hfr hlo) (fun P a hp => ⟨hp.1, hp.2.1, hp.2.2.1, by rw [e]; exact hp.2.2.2⟩) (fun P a v B hp hq => ?_)
  obtain ⟨L, ⟨q1, q2, q3, q4, q5, q6, q7, ⟨V', v1, v2, v3, v4, v5⟩, q9⟩, hl, hc, hs⟩ := hq
  refine ⟨L, ⟨q1, q2, q3, q4, q5, q6, q7, ⟨V'.cls, v3, V', v1, rfl, by rw [v4, e, hlen], K4, fun i hi => ?_, fun i hi => ?_⟩, q9⟩, hl, hc, by rw [hs, e]⟩
  · have hi' : i < cs.length := by omega
    rw [v5 i (by omega), hcv i hi']; simp [List.getD_eq_getElem?_getD, hi']
  · have hi' : i < cs.length := by omega
    simp only [List.getD_eq_getElem?_getD, List.getElem?_map, List.getElem?_eq_getElem hi', Option.map_some, Option.getD_some]
    exact fits_lo8 _
end StrChars.Road
namespace StrChars.Road
open Jvm Sem ClassFile Op Lib Jvm.Stand Jvm.Free Jvm.Free.XT
/-- WHAT COMES BACK, in the writer's own shape -/
def QV (Z : State) (x : Addr) (N : Int32) (bs : List Int32) (h : Heap) (n0 : Nat) (v : Option Value) (h' : Heap) (L : List Loc) : Prop := v = none ∧ RoadKit.Fr n0 L ∧ RoadKit.Keep h h' [x] ∧ RoadKit.Exa Z h' x ST ∧ RoadKit.Fld Z h' x ST "coder" "B" (.int 0) ∧
  ∃ (t : Addr) (kb : ClassId), n0 ≤ t ∧ h.size ≤ t ∧ ¬ t = x ∧ RoadKit.Fld Z h' x ST "value" "[B" (.ref t) ∧ RoadKit.Arv Z h' t kb .byte N (bs.map Value.int) (.int 0)
/-- **new String(chars) AT A CALL, FOR THE WRITER**: a char[] of n known ints, each 0 to 255 -/
theorem backV {p : Program} {l : Launch} {e : Env} {R : Room} {s : State} {args : Array Value} {below : List Frame} {len W : Nat} {Z : State} {a0 : Array Value} {h : Heap} (hZ : Z.Warmed39 s.vm) (hw : ∀ d ∈ words, d.before a0 Z = true) {kI : Nat} (wi : (Jvm.Cond.instantiable ST kI).before a0 Z = true)
    {x b : Addr} {kC : ClassId} {cs bs : List Int32} {d v0 c0 : Value} {z N : Int32} {n n0 : Nat} (hx0 : n0 ≤ x) (hh0 : n0 ≤ h.size) (E : RoadKit.Exa Z h x ST) (V : RoadKit.Fld Z h x ST "value" "[B" v0) (C : RoadKit.Fld Z h x ST "coder" "B" c0) (K : RoadKit.Arv Z h b kC .char N (cs.map Value.int) d) (S : RoadKit.Sta Z h ST "COMPACT_STRINGS" "Z" (.int z)) (hz : ¬ z = 0)
    (hn : cs.length = n) (hN : N = Int32.ofNat n) (l0 : 0 < n) (l2 : n ≤ 4000) (hp : ∀ c ∈ cs, ¬ c < 0 ∧ ¬ (255 : Int32) < c) (hb : bs = cs.map (fun c => c.toInt8.toInt32)) (hfr : 4 ≤ R.frames) (hlo : W + 65 ≤ R.locals) :
    Back l R p e below s args (⟨"java/lang/String", "<init>", "([C)V"⟩ : MethodName) len W (fun P a => a = #[.ref x, .ref b] ∧ P.U.heap = h ∧ P.cells + 1 ≤ R.cells ∧ P.slots + n ≤ R.slots)
      (fun P _ v B => ∃ L, QV Z x N bs h n0 v B.U.heap L ∧ B.locs = P.locs ++ L ∧ B.cells = P.cells + 1 ∧ B.slots = P.slots + n) := by
  subst hn hN hb
  refine Back.mono (backArv hZ hw wi E V C K S hz (n32 (by omega)) l0 (by omega) (fun c hc => (hp c hc).2) hfr hlo) (fun P a hp => hp) (fun P a v B hp hq => ?_)
  obtain ⟨L, ⟨q1, q2, q3, q4, q5, q6, q7, ⟨kb, v1, v2⟩, q9⟩, hl, hc, hs⟩ := hq
  exact ⟨L, ⟨q1, fun y hy => by rw [q2 y hy]; exact hx0, q3, q5, q7, h.size, kb, hh0, Nat.le_refl _, Nat.ne_of_gt E.lt, q6, by rw [List.map_map]; exact v2⟩, hl, hc, hs⟩
end StrChars.Road
namespace StrChars
open Jvm Sem ClassFile Op Lib Jvm.Stand Jvm.Free.XT Jvm.Free.ALB Jvm.Free.JM Jvm.Free
open Jvm.Lib.Cold (StaticIs)
def hi8 (x : Int32) : Int32 := lo8 (x >>> ((8 : Int32) &&& 31))
/-- what StringUTF16.getChar makes of two bytes -/
def pairCh (u v : Int32) : Int32 := (((u &&& 255) <<< ((0 : Int32) &&& 31)) ||| ((v &&& 255) <<< ((8 : Int32) &&& 31))).toUInt32.toUInt16.toUInt32.toInt32
theorem shr0 (c : Int32) : c >>> ((0 : Int32) &&& 31) = c := by
  have e : ((0 : Int32) &&& 31) = 0 := by decide
  rw [e]
  apply Int32.toBitVec_inj.mp
  rw [Int32.toBitVec_shiftRight]
  have e1 : ((0 : Int32).toBitVec.smod 32) = 0#32 := by decide
  rw [e1, BitVec.sshiftRight_eq']
  exact BitVec.sshiftRight_zero
theorem lo8_and (x : Int32) : (lo8 x &&& 255).toBitVec.toNat = x.toBitVec.toNat % 256 := by
  have h : (lo8 x).toBitVec = (x.toBitVec.signExtend 8).signExtend 32 := by rw [lo8, Int8.toBitVec_toInt32, Int32.toBitVec_toInt8]
  rw [Int32.toBitVec_and, BitVec.toNat_and, h]
  have e : ((x.toBitVec.signExtend 8).signExtend 32).toNat % 256 = x.toBitVec.toNat % 256 := by
    rw [BitVec.toNat_signExtend]
    have hlt := x.toBitVec.isLt
    simp only [BitVec.toNat_setWidth, BitVec.toNat_signExtend]
    split <;> split <;> omega
  rw [← e]
  exact Nat.and_two_pow_sub_one_eq_mod _ 8
theorem pair_says {c : Int32} (h0 : ¬ c < 0) (h1 : ¬ 65535 < c) : pairCh (lo8 c) (hi8 c) = c := by
  rw [Int32.lt_iff_toInt_lt] at h0 h1
  have e0 : (0 : Int32).toInt = 0 := rfl
  have e1 : (65535 : Int32).toInt = 65535 := rfl
  have hc : c.toInt = c.toBitVec.toNat := by
    have := c.toBitVec.isLt
    have e : c.toInt = c.toBitVec.toInt := rfl
    rw [e] at h0 h1
    rw [e]
    rw [BitVec.toInt_eq_toNat_cond] at h0 h1 ⊢
    split at h0 <;> split <;> omega
  have hn : c.toBitVec.toNat < 65536 := by omega
  have a1 := lo8_and c
  have a2 : (hi8 c &&& 255).toBitVec.toNat = c.toBitVec.toNat / 256 := by
    rw [hi8, lo8_and]
    have e : ((8 : Int32) &&& 31) = 8 := by decide
    rw [e, Int32.toBitVec_shiftRight]
    have e2 : ((8 : Int32).toBitVec.smod 32) = 8#32 := by decide
    rw [e2, BitVec.sshiftRight_eq', BitVec.toNat_sshiftRight_of_msb_false (by rw [BitVec.msb_eq_false_iff_two_mul_lt]; omega)]
    show c.toBitVec.toNat >>> 8 % 256 = _
    rw [Nat.shiftRight_eq_div_pow]
    omega
  unfold pairCh
  apply Int32.toBitVec_inj.mp
  apply BitVec.eq_of_toNat_eq
  have f0 : ((0 : Int32) &&& 31) = 0 := by decide
  have f8 : ((8 : Int32) &&& 31) = 8 := by decide
  rw [f0, f8]
  have g : (((lo8 c &&& 255) <<< (0 : Int32)) ||| ((hi8 c &&& 255) <<< (8 : Int32))).toBitVec.toNat = c.toBitVec.toNat := by
    rw [Int32.toBitVec_or, Int32.toBitVec_shiftLeft, Int32.toBitVec_shiftLeft]
    have s0 : ((0 : Int32).toBitVec.smod 32) = 0#32 := by decide
    have s8 : ((8 : Int32).toBitVec.smod 32) = 8#32 := by decide
    rw [s0, s8, BitVec.toNat_or]
    simp only [BitVec.shiftLeft_eq', BitVec.toNat_shiftLeft, a1, a2]
    show (c.toBitVec.toNat % 256) <<< 0 % 2 ^ 32 ||| (c.toBitVec.toNat / 256) <<< 8 % 2 ^ 32 = _
    rw [Nat.shiftLeft_zero, Nat.mod_eq_of_lt (show c.toBitVec.toNat % 256 < 2 ^ 32 by omega), Nat.mod_eq_of_lt (show (c.toBitVec.toNat / 256) <<< 8 < 2 ^ 32 by rw [Nat.shiftLeft_eq]; omega), Nat.or_comm, ← Nat.shiftLeft_add_eq_or_of_lt (by omega), Nat.shiftLeft_eq]
    omega
  show BitVec.toNat (((((lo8 c &&& 255) <<< (0 : Int32)) ||| ((hi8 c &&& 255) <<< (8 : Int32))).toBitVec.setWidth 16).setWidth 32) = _
  rw [BitVec.toNat_setWidth, BitVec.toNat_setWidth, g]
  omega
end StrChars
namespace StrChars
open Jvm Sem ClassFile Op Lib Jvm.Stand Jvm.Free.XT Jvm.Free.ALB Jvm.Free.JM Jvm.Free
open Jvm.Lib.Cold (StaticIs)
theorem shr1 {n : Nat} (h : 2 * n < 2 ^ 31) : Int32.ofNat (2 * n) >>> ((1 : Int32) &&& 31) = Int32.ofNat n := by
  have e : ((1 : Int32) &&& 31) = 1 := by decide
  rw [e]
  apply Int32.toBitVec_inj.mp
  rw [Int32.toBitVec_shiftRight]
  have e1 : ((1 : Int32).toBitVec.smod 32) = 1#32 := by decide
  have hm : (BitVec.ofNat 32 (2 * n)).toNat = 2 * n := by rw [BitVec.toNat_ofNat, Nat.mod_eq_of_lt (by omega)]
  rw [e1, BitVec.sshiftRight_eq']
  apply BitVec.eq_of_toNat_eq
  show ((BitVec.ofNat 32 (2 * n)).sshiftRight 1).toNat = (BitVec.ofNat 32 n).toNat
  rw [BitVec.toNat_sshiftRight_of_msb_false (by rw [BitVec.msb_eq_false_iff_two_mul_lt, hm]; omega), hm, BitVec.toNat_ofNat, Nat.shiftRight_eq_div_pow]
  omega
/-- charAt's cast of a byte read back -/
def chr8 (u : Int32) : Int32 := (u &&& 255).toUInt32.toUInt16.toUInt32.toInt32
theorem chr8_lo8 {c : Int32} (h0 : ¬ c < 0) (h1 : ¬ 255 < c) : chr8 (lo8 c) = c := by
  have t : ∀ k : Fin 256, (Int32.ofNat k.val).toUInt32.toUInt16.toUInt32.toInt32 = Int32.ofNat k.val := by decide +kernel
  unfold chr8
  rw [lo8_mask h0 h1]
  rw [Int32.lt_iff_toInt_lt] at h0 h1
  have e0 : (0 : Int32).toInt = 0 := rfl
  have e1 : (255 : Int32).toInt = 255 := rfl
  obtain ⟨k, hk⟩ : ∃ k : Nat, c.toInt = k := ⟨c.toInt.toNat, by omega⟩
  have hx : c = Int32.ofNat k := Int32.toInt_inj.mp (by rw [hk, Int32.toInt_ofNat_small (by omega)])
  rw [hx]
  exact t ⟨k, by omega⟩
theorem narrow_ch {c : Int32} (h0 : ¬ c < 0) (h1 : ¬ 65535 < c) : narrow .char (.int c) = .int c := by
  have q : narrow .char (.int (pairCh (lo8 c) (hi8 c))) = .int (pairCh (lo8 c) (hi8 c)) := narrow_c _
  rwa [pair_says h0 h1] at q
/-- the array's cell V codes the n chars f 0 .. f (n - 1) by the coder cd, as the JDK does: coder 1 just where some char is above 255 -/
def Cod (cd : Int32) (n : Nat) (f : Nat → Int32) (V : Cell) : Prop := (cd = 0 ∧ V.slots.size = n ∧ ∀ j, j < n → V.slots[j]? = some (.int (lo8 (f j))) ∧ ¬ 255 < f j) ∨ (cd = 1 ∧ V.slots.size = 2 * n ∧ (∀ j, j < n → V.slots[2 * j]? = some (.int (lo8 (f j))) ∧ V.slots[2 * j + 1]? = some (.int (hi8 (f j)))) ∧ ∃ j, j < n ∧ 255 < f j)
theorem Cod.cd {cd : Int32} {n : Nat} {f : Nat → Int32} {V : Cell} (h : Cod cd n f V) : cd = 0 ∨ cd = 1 := h.imp (fun q => q.1) fun q => q.1
theorem Cod.len {cd : Int32} {n : Nat} {f : Nat → Int32} {V : Cell} (h : Cod cd n f V) (hs : V.slots.size < 2 ^ 31) : Int32.ofNat V.slots.size >>> (cd &&& 31) = Int32.ofNat n := by
  rcases h with ⟨rfl, h, -⟩ | ⟨rfl, h, -⟩
  · rw [shr0, h]
  · rw [h, shr1 (by omega)]
/-- **x is a String of the n chars f 0 .. f (n - 1)**, Latin-1 or UTF-16; its array at t has the cell V -/
def Txt (x t : Addr) (V : Cell) (cd : Int32) (n : Nat) (f : Nat → Int32) (U : State) : Prop := Exact "java/lang/String" x U ∧ Has x "java/lang/String" "value" "[B" (.ref t) U ∧ Has x "java/lang/String" "coder" "B" (.int cd) U ∧ XT.Arr .byte t V U ∧ Cod cd n f V ∧ ∀ j, j < n → ¬ f j < 0 ∧ ¬ 65535 < f j
theorem Txt.mv {x t : Addr} {V : Cell} {cd : Int32} {n : Nat} {f : Nat → Int32} {U U' : State} (h : Txt x t V cd n f U) (hal : U.vm.Alike U'.vm) (hh : U'.heap = U.heap) : Txt x t V cd n f U' := ⟨h.1.mv hal hh, h.2.1.mv hal hh, h.2.2.1.mv hal hh, h.2.2.2.1.mv hal hh, h.2.2.2.2⟩
namespace Cdr
def yN : MethodName := ⟨"java/lang/String", "coder", "()B"⟩
abbrev yB : ByteArray := jdk_42_method_152_code
theorem d0 : decode yB 0 = .ok (.getstatic 38, 3) := by decide +kernel
theorem d3 : decode yB 3 = .ok (.ifCond (.eq) 10, 3) := by decide +kernel
theorem d6 : decode yB 6 = .ok (.aload_n 0, 1) := by decide +kernel
theorem d7 : decode yB 7 = .ok (.getfield 15, 3) := by decide +kernel
theorem d10 : decode yB 10 = .ok (.goto 4, 3) := by decide +kernel
theorem d14 : decode yB 14 = .ok (.ireturn, 1) := by decide +kernel
def site : List Cond := [.fieldLink "java/lang/String" 38 "java/lang/String" "COMPACT_STRINGS" "Z", .fieldLink "java/lang/String" 15 "java/lang/String" "coder" "B"]
def tab : Cond := tabOf yN yB 1 (some .byte) site
def P (x : Addr) (cd z : Int32) (args : Array Value) (s : State) : Prop := args = #[.ref x] ∧ Has x "java/lang/String" "coder" "B" (.int cd) s ∧ (cd = 0 ∨ cd = 1) ∧ StaticIs s "java/lang/String" "COMPACT_STRINGS" "Z" (.int z) ∧ ¬ z = 0
def E (cd : Int32) (r : Option Value) (s u : State) : Prop := XT.PureE (some (.int cd)) r s u
theorem law (l : Launch) (x : Addr) (cd z : Int32) : Law l yN 1 0 0 0 yB 1 (some .byte) site (P x cd z) (E cd) [] 0 0 := by
  refine Law.of_walk (plainFor_of_name (by decide +kernel)) (by decide +kernel) (by decide +kernel) (by decide) (fun _ _ h => by rw [h.1]; rfl) (fun _ U U' hal hh h => ⟨h.1, h.2.1.mv hal hh, h.2.2.1, h.2.2.2.1.there hal hh, h.2.2.2.2⟩) (fun r U U' V V' h1 hal h2 h => XT.PureE.mv r U U' V V' h1 hal h2 h) ?_
  intro p e s m args below meth c s₁ X0 hexec hbytes hml hret hlk hnm hown hh0 W hP
  obtain ⟨rfl, hx, hc, s1, hz⟩ := hP
  have c1 : Steps p.tables e below (s₁.setTop (entryFrame m #[.ref x] 1)) (s₁.setTop (mkF m 0 #[.val (.ref x)] [])) := entry rfl
  obtain ⟨T2, X2, q2, st2⟩ := X0.sget hexec hown (wk W (.fieldLink "java/lang/String" 38 "java/lang/String" "COMPACT_STRINGS" "Z")) s1 (fun _ _ h => by rw [hh0]; exact h) (g := (mkF m 0 #[.val (.ref x)] [])) rfl (hb hbytes d0)
  have hh2 := q2.trans hh0
  have c3 : Steps p.tables e below (s₁.setTop (entryFrame m #[.ref x] 1)) (T2.setTop (mkF m 7 #[.val (.ref x)] [.ref x])) := (c1.trans (st2 _ (Steps.refl _))).trans (by
    refine XS.ifNo X2.here hexec rfl (hb hbytes d3) rfl (i0_eq_f hz) ?_
    refine XS.aloadN X2.here hexec rfl (hb hbytes d6) rfl rfl ?_
    exact Steps.refl _)
  obtain ⟨T4, X4, q4, st4⟩ := X2.hget hexec hown (wk W (.fieldLink "java/lang/String" 15 "java/lang/String" "coder" "B")) (hx.mv X2.warmed.alike hh2) (g := (mkF m 7 #[.val (.ref x)] [.ref x])) rfl (rest := []) rfl (hb hbytes d7)
  have c5 : Steps p.tables e below (s₁.setTop (entryFrame m #[.ref x] 1)) (T4.setTop (mkF m 14 #[.val (.ref x)] [.int cd])) := (c3.trans (st4 _ (Steps.refl _))).trans (by
    refine XS.goto X4.here hexec rfl (pc0 := 10) rfl (hb hbytes d10) (by decide) rfl ?_
    exact Steps.refl _)
  exact ⟨T4, some (.int cd), _, _, _, X4, rfl, rfl, rfl, (fun h => by cases h), ⟨rfl, q4.trans hh2⟩, fun fs hl => c5.trans (X4.ireturnOut hexec hret (by rcases hc with rfl | rfl <;> rfl) (Or.inr (Or.inr (Or.inl rfl))) (hb hbytes d14) hl)⟩
end Cdr
namespace Len
def yN : MethodName := ⟨"java/lang/String", "length", "()I"⟩
abbrev yB : ByteArray := jdk_42_method_54_code
theorem d0 : decode yB 0 = .ok (.aload_n 0, 1) := by decide +kernel
theorem d1 : decode yB 1 = .ok (.getfield 9, 3) := by decide +kernel
theorem d4 : decode yB 4 = .ok (.arraylength, 1) := by decide +kernel
theorem d5 : decode yB 5 = .ok (.aload_n 0, 1) := by decide +kernel
theorem d6 : decode yB 6 = .ok (.invokevirtual 335, 3) := by decide +kernel
theorem d9 : decode yB 9 = .ok (.ishr, 1) := by decide +kernel
theorem d10 : decode yB 10 = .ok (.ireturn, 1) := by decide +kernel
def site : List Cond := [.fieldLink "java/lang/String" 9 "java/lang/String" "value" "[B", Cdr.tab] ++ virtW "java/lang/String" 335 "java/lang/String" Cdr.yN Cdr.yN
def tab : Cond := tabOf yN yB 1 (some .int) site
def P (x t : Addr) (V : Cell) (cd : Int32) (n : Nat) (f : Nat → Int32) (z : Int32) (args : Array Value) (s : State) : Prop := args = #[.ref x] ∧ Txt x t V cd n f s ∧ StaticIs s "java/lang/String" "COMPACT_STRINGS" "Z" (.int z) ∧ ¬ z = 0
def E (n : Nat) (r : Option Value) (s u : State) : Prop := XT.PureE (some (.int (Int32.ofNat n))) r s u
/-- length() of a String of n chars, in either coding -/
theorem law (l : Launch) (x t : Addr) (V : Cell) (cd : Int32) (n : Nat) (f : Nat → Int32) (z : Int32) : Law l yN 1 0 1 13 yB 1 (some .int) site (P x t V cd n f z) (E n) [] 0 0 := by
  refine Law.of_walk (plainFor_of_name (by decide +kernel)) (by decide +kernel) (by decide +kernel) (by decide) (fun _ _ h => by rw [h.1]; rfl) (fun _ U U' hal hh h => ⟨h.1, h.2.1.mv hal hh, h.2.2.1.there hal hh, h.2.2.2⟩) (fun r U U' V V' h1 hal h2 h => XT.PureE.mv r U U' V V' h1 hal h2 h) ?_
  intro p e s m args below meth c s₁ X0 hexec hbytes hml hret hlk hnm hown hh0 W hP
  obtain ⟨rfl, hx, s1, hz⟩ := hP
  have v31 := hx.2.2.2.1.2.2.2
  have c1 : Steps p.tables e below (s₁.setTop (entryFrame m #[.ref x] 1)) (s₁.setTop (mkF m 1 #[.val (.ref x)] [.ref x])) := Steps.trans (entry rfl) (by
    show Steps p.tables e below (s₁.setTop (mkF m 0 #[.val (.ref x)] [])) _
    refine XS.aloadN X0.here hexec rfl (hb hbytes d0) rfl rfl ?_
    exact Steps.refl _)
  obtain ⟨T2, X2, q2, st2⟩ := X0.hget hexec hown (wk W (.fieldLink "java/lang/String" 9 "java/lang/String" "value" "[B")) (hx.mv X0.warmed.alike hh0).2.1 (g := (mkF m 1 #[.val (.ref x)] [.ref x])) rfl (rest := []) rfl (hb hbytes d1)
  have hh2 := q2.trans hh0
  have hx2 := hx.mv X2.warmed.alike hh2
  have c3 : Steps p.tables e below (s₁.setTop (entryFrame m #[.ref x] 1)) (T2.setTop (mkF m 6 #[.val (.ref x)] [.ref x, .int (Int32.ofNat V.slots.size)])) := (c1.trans (st2 _ (Steps.refl _))).trans (by
    refine X2.alen hexec hx2.2.2.2.1 rfl rfl (hb hbytes d4) ?_
    refine XS.aloadN X2.here hexec rfl (hb hbytes d5) rfl rfl ?_
    exact Steps.refl _)
  obtain ⟨v4, T4, X4, E4, g4⟩ := X2.callV hexec (Cdr.law l x cd z) hown (wks W (virtW "java/lang/String" 335 "java/lang/String" Cdr.yN Cdr.yN)) rfl (by decide) (wk W Cdr.tab) (W := 1) (Nat.le_of_ble_eq_true rfl) (Nat.le_of_ble_eq_true rfl) (Nat.le_refl _) (Nat.le_refl _) (hx2.1.fc X2.warmed.alike) hx2.1.is (g := (mkF m 6 #[.val (.ref x)] [.ref x, .int (Int32.ofNat V.slots.size)])) rfl (by rw [hml]; rfl) c3 (argsL := []) (rest := [.int (Int32.ofNat V.slots.size)]) rfl rfl (by show 2 * 0 + (1 + 0) ≤ _; decide) (hb hbytes d6) (⟨rfl, hx2.2.2.1, hx.2.2.2.2.1.cd, s1.there X2.warmed.alike hh2, hz⟩)
  obtain ⟨rfl, q4⟩ := E4
  have c5 : Steps p.tables e below (s₁.setTop (entryFrame m #[.ref x] 1)) (T4.setTop (mkF m 10 #[.val (.ref x)] [.int (Int32.ofNat V.slots.size >>> (cd &&& 31))])) := Steps.trans g4 (by
    refine ishr X4.here hexec rfl (hb hbytes d9) rfl ?_
    exact Steps.refl _)
  rw [hx.2.2.2.2.1.len v31] at c5
  exact ⟨T4, some (.int (Int32.ofNat n)), _, _, _, X4, rfl, rfl, rfl, (fun h => by cases h), ⟨rfl, q4.trans hh2⟩, fun fs hl => c5.trans (X4.ireturnOut hexec hret rfl (Or.inl rfl) (hb hbytes d10) hl)⟩
theorem pays {l : Launch} {R : Room} {p : Program} {e : Env} {below : List Frame} {s : State} {sargs : Array Value} {len W : Nat} (x t : Addr) (V : Cell) (cd : Int32) (n : Nat) (f : Nat → Int32) (z : Int32) (htab : tab.before sargs s = true) (hfr : 2 ≤ R.frames) (hlo : W + 25 ≤ R.locals) :
    Back l R p e below s sargs yN len W (fun A₁ a₁ => A₁.cells + 0 ≤ R.cells ∧ A₁.slots + 0 ≤ R.slots ∧ P x t V cd n f z a₁ A₁.U) (fun A₁ _ v₁ B₁ => E n v₁ A₁.U B₁.U ∧ B₁.locs = A₁.locs ++ [] ∧ B₁.cells = A₁.cells + 0 ∧ B₁.slots = A₁.slots + 0) :=
  (law l x t V cd n f z).pays htab hfr (by omega)
end Len
namespace IsL
def yN : MethodName := ⟨"java/lang/String", "isLatin1", "()Z"⟩
abbrev yB : ByteArray := jdk_42_method_154_code
theorem d0 : decode yB 0 = .ok (.getstatic 38, 3) := by decide +kernel
theorem d3 : decode yB 3 = .ok (.ifCond (.eq) 14, 3) := by decide +kernel
theorem d6 : decode yB 6 = .ok (.aload_n 0, 1) := by decide +kernel
theorem d7 : decode yB 7 = .ok (.getfield 15, 3) := by decide +kernel
theorem d10 : decode yB 10 = .ok (.ifCond (.ne) 7, 3) := by decide +kernel
theorem d13 : decode yB 13 = .ok (.iconst 1, 1) := by decide +kernel
theorem d14 : decode yB 14 = .ok (.goto 4, 3) := by decide +kernel
theorem d17 : decode yB 17 = .ok (.iconst 0, 1) := by decide +kernel
theorem d18 : decode yB 18 = .ok (.ireturn, 1) := by decide +kernel
def site : List Cond := [.fieldLink "java/lang/String" 38 "java/lang/String" "COMPACT_STRINGS" "Z", .fieldLink "java/lang/String" 15 "java/lang/String" "coder" "B"]
def tab : Cond := tabOf yN yB 1 (some .boolean) site
def P (x : Addr) (cd z : Int32) (args : Array Value) (s : State) : Prop := args = #[.ref x] ∧ Has x "java/lang/String" "coder" "B" (.int cd) s ∧ (cd = 0 ∨ cd = 1) ∧ StaticIs s "java/lang/String" "COMPACT_STRINGS" "Z" (.int z) ∧ ¬ z = 0
def E (cd : Int32) (r : Option Value) (s u : State) : Prop := XT.PureE (some (.int (1 - cd))) r s u
theorem law (l : Launch) (x : Addr) (cd z : Int32) : Law l yN 1 0 0 0 yB 1 (some .boolean) site (P x cd z) (E cd) [] 0 0 := by
  refine Law.of_walk (plainFor_of_name (by decide +kernel)) (by decide +kernel) (by decide +kernel) (by decide) (fun _ _ h => by rw [h.1]; rfl) (fun _ U U' hal hh h => ⟨h.1, h.2.1.mv hal hh, h.2.2.1, h.2.2.2.1.there hal hh, h.2.2.2.2⟩) (fun r U U' V V' h1 hal h2 h => XT.PureE.mv r U U' V V' h1 hal h2 h) ?_
  intro p e s m args below meth c s₁ X0 hexec hbytes hml hret hlk hnm hown hh0 W hP
  obtain ⟨rfl, hx, hc, s1, hz⟩ := hP
  have c1 : Steps p.tables e below (s₁.setTop (entryFrame m #[.ref x] 1)) (s₁.setTop (mkF m 0 #[.val (.ref x)] [])) := entry rfl
  obtain ⟨T2, X2, q2, st2⟩ := X0.sget hexec hown (wk W (.fieldLink "java/lang/String" 38 "java/lang/String" "COMPACT_STRINGS" "Z")) s1 (fun _ _ h => by rw [hh0]; exact h) (g := (mkF m 0 #[.val (.ref x)] [])) rfl (hb hbytes d0)
  have hh2 := q2.trans hh0
  have c3 : Steps p.tables e below (s₁.setTop (entryFrame m #[.ref x] 1)) (T2.setTop (mkF m 7 #[.val (.ref x)] [.ref x])) := (c1.trans (st2 _ (Steps.refl _))).trans (by
    refine XS.ifNo X2.here hexec rfl (hb hbytes d3) rfl (i0_eq_f hz) ?_
    refine XS.aloadN X2.here hexec rfl (hb hbytes d6) rfl rfl ?_
    exact Steps.refl _)
  obtain ⟨T4, X4, q4, st4⟩ := X2.hget hexec hown (wk W (.fieldLink "java/lang/String" 15 "java/lang/String" "coder" "B")) (hx.mv X2.warmed.alike hh2) (g := (mkF m 7 #[.val (.ref x)] [.ref x])) rfl (rest := []) rfl (hb hbytes d7)
  have c5 : Steps p.tables e below (s₁.setTop (entryFrame m #[.ref x] 1)) (T4.setTop (mkF m 10 #[.val (.ref x)] [.int cd])) := c3.trans (st4 _ (Steps.refl _))
  have c6 : Steps p.tables e below (s₁.setTop (entryFrame m #[.ref x] 1)) (T4.setTop (mkF m 18 #[.val (.ref x)] [.int (1 - cd)])) := by
    rcases hc with rfl | rfl
    · exact c5.trans (by
        refine XS.ifNo X4.here hexec rfl (hb hbytes d10) rfl (i0_ne_f rfl) ?_
        refine iconstV X4.here hexec rfl 1 (hb hbytes d13) (by decide) ?_
        refine XS.goto X4.here hexec rfl (pc0 := 14) rfl (hb hbytes d14) (by decide) rfl ?_
        exact Steps.refl _)
    · exact c5.trans (by
        refine XS.ifYes X4.here hexec rfl (pc0 := 10) rfl (hb hbytes d10) rfl (i0_ne_t (by decide)) (by decide) rfl ?_
        refine iconstV X4.here hexec rfl 0 (hb hbytes d17) (by decide) ?_
        exact Steps.refl _)
  exact ⟨T4, some (.int (1 - cd)), _, _, _, X4, rfl, rfl, rfl, (fun h => by cases h), ⟨rfl, q4.trans hh2⟩, fun fs hl => c6.trans (X4.ireturnOut hexec hret (by rcases hc with rfl | rfl <;> rfl) (Or.inr (Or.inl rfl)) (hb hbytes d18) hl)⟩
end IsL
namespace LChA
def yN : MethodName := ⟨"java/lang/StringLatin1", "charAt", "([BI)C"⟩
abbrev yB : ByteArray := jdk_43_method_2_code
theorem d0 : decode yB 0 = .ok (.iload_n 1, 1) := by decide +kernel
theorem d1 : decode yB 1 = .ok (.aload_n 0, 1) := by decide +kernel
theorem d2 : decode yB 2 = .ok (.arraylength, 1) := by decide +kernel
theorem d3 : decode yB 3 = .ok (.invokestatic 9, 3) := by decide +kernel
theorem d6 : decode yB 6 = .ok (.aload_n 0, 1) := by decide +kernel
theorem d7 : decode yB 7 = .ok (.iload_n 1, 1) := by decide +kernel
theorem d8 : decode yB 8 = .ok (.baload, 1) := by decide +kernel
theorem d9 : decode yB 9 = .ok (.sipush 255, 3) := by decide +kernel
theorem d12 : decode yB 12 = .ok (.iand, 1) := by decide +kernel
theorem d13 : decode yB 13 = .ok (.i2c, 1) := by decide +kernel
theorem d14 : decode yB 14 = .ok (.ireturn, 1) := by decide +kernel
def site : List Cond := [JO.Str_checkIndex.tab] ++ staticW "java/lang/StringLatin1" 9 JO.Str_checkIndex.yN
def tab : Cond := tabOf yN yB 2 (some .char) site
def P (t : Addr) (V : Cell) (i : Nat) (u : Int32) (fm : Value) (args : Array Value) (s : State) : Prop := args = #[.ref t, .int (Int32.ofNat i)] ∧ XT.Arr .byte t V s ∧ V.slots[i]? = some (.int u) ∧ (StaticIs s "jdk/internal/util/Preconditions" "SIOOBE_FORMATTER" "Ljava/util/function/BiFunction;" fm ∧ fm.isRef = true)
def E (u : Int32) (r : Option Value) (s w : State) : Prop := XT.PureE (some (.int (chr8 u))) r s w
theorem law (l : Launch) (t : Addr) (V : Cell) (i : Nat) (u : Int32) (fm : Value) : Law l yN 2 2 2 27 yB 2 (some .char) site (P t V i u fm) (E u) [] 0 0 := by
  refine Law.of_walk (plainFor_of_name (by decide +kernel)) (by decide +kernel) (by decide +kernel) (by decide) (fun _ _ h => by rw [h.1]; rfl) (fun _ U U' hal hh h => ⟨h.1, h.2.1.mv hal hh, h.2.2.1, h.2.2.2.1.there hal hh, h.2.2.2.2⟩) (fun r U U' V V' h1 hal h2 h => XT.PureE.mv r U U' V V' h1 hal h2 h) ?_
  intro p e s m args below meth c s₁ X0 hexec hbytes hml hret hlk hnm hown hh0 W hP
  obtain ⟨rfl, hV, hu, s1, rf⟩ := hP
  have v31 := hV.2.2.2
  have hi : i < V.slots.size := (Array.getElem?_eq_some_iff.mp hu).1
  have c1 : Steps p.tables e below (s₁.setTop (entryFrame m #[.ref t, .int (Int32.ofNat i)] 2)) (s₁.setTop (mkF m 0 #[.val (.ref t), .val (.int (Int32.ofNat i))] [])) := entry rfl
  have c2 : Steps p.tables e below (s₁.setTop (entryFrame m #[.ref t, .int (Int32.ofNat i)] 2)) (s₁.setTop (mkF m 3 #[.val (.ref t), .val (.int (Int32.ofNat i))] [.int (Int32.ofNat V.slots.size), .int (Int32.ofNat i)])) := c1.trans (by
    refine XS.iloadN X0.here hexec rfl (hb hbytes d0) rfl ?_
    refine XS.aloadN X0.here hexec rfl (hb hbytes d1) rfl rfl ?_
    refine X0.alen hexec (hV.mv X0.warmed.alike hh0) rfl rfl (hb hbytes d2) ?_
    exact Steps.refl _)
  obtain ⟨v3, T3, X3, E3, g3⟩ := X0.callS hexec (JO.Str_checkIndex.law l (Int32.ofNat i) (Int32.ofNat V.slots.size) fm) hown (wks W (staticW "java/lang/StringLatin1" 9 JO.Str_checkIndex.yN)) (wk W JO.Str_checkIndex.tab) (W := 0) (Nat.le_of_ble_eq_true rfl) (Nat.le_of_ble_eq_true rfl) (Nat.le_refl _) (Nat.le_refl _) (g := (mkF m 3 #[.val (.ref t), .val (.int (Int32.ofNat i))] [.int (Int32.ofNat V.slots.size), .int (Int32.ofNat i)])) rfl (by rw [hml]; rfl) c2 (argsL := [.int (Int32.ofNat i), .int (Int32.ofNat V.slots.size)]) (rest := []) rfl rfl (by show 2 * 0 + 0 ≤ _; decide) (hb hbytes d3) (⟨rfl, rf, s1.there X0.warmed.alike hh0, Int32.ofNat_not_neg (by omega), lt32 v31 hi⟩)
  obtain ⟨rfl, q3⟩ := E3
  have hh3 := q3.trans hh0
  have c4 : Steps p.tables e below (s₁.setTop (entryFrame m #[.ref t, .int (Int32.ofNat i)] 2)) (T3.setTop (mkF m 14 #[.val (.ref t), .val (.int (Int32.ofNat i))] [.int (chr8 u)])) := Steps.trans g3 (by
    refine XS.aloadN X3.here hexec rfl (hb hbytes d6) rfl rfl ?_
    refine XS.iloadN X3.here hexec rfl (hb hbytes d7) rfl ?_
    refine X3.aget hexec (hV.mv X3.warmed.alike hh3) rfl hu rfl rfl (hb hbytes d8) ?_
    refine sipushV X3.here hexec rfl 255 (hb hbytes d9) (by decide) ?_
    refine XS.iand X3.here hexec rfl (hb hbytes d12) rfl ?_
    refine i2c X3.here hexec rfl (hb hbytes d13) rfl ?_
    exact Steps.refl _)
  exact ⟨T3, some (.int (chr8 u)), _, _, _, X3, rfl, rfl, rfl, (fun h => by cases h), ⟨rfl, hh3⟩, fun fs hl => c4.trans (X3.ireturnOut hexec hret (narrow_c _) (Or.inr (Or.inr (Or.inr (Or.inl rfl)))) (hb hbytes d14) hl)⟩
end LChA
end StrChars
namespace StrChars.Road
open Jvm Sem ClassFile Op Lib Jvm.Stand Jvm.Free Jvm.Free.XT
open Jvm.Lib.Cold (StaticIs)
theorem consq {a : Array Value} {s : State} {c : Jvm.Cond} {L : List Jvm.Cond} (h0 : c.before a s = true) (h : ∀ w ∈ L, w.before a s = true) : ∀ w ∈ c :: L, w.before a s = true := fun w hw => (List.mem_cons.mp hw).elim (fun e => e ▸ h0) (h w)
/-- the words of String.length(), either coding -/
abbrev wordsLen : List Jvm.Cond := [.code Len.yN Len.yB 1 (some .int), .initialized ST, .fieldLink ST 9 ST "value" "[B", .fieldLink ST 38 ST "COMPACT_STRINGS" "Z", .fieldLink ST 15 ST "coder" "B", .code Cdr.yN Cdr.yB 1 (some .byte), .methodLink ST 335 Cdr.yN, .declares Cdr.yN, .selects ST Cdr.yN Cdr.yN, .instanceMethod Cdr.yN]
theorem tabLen_of {a : Array Value} {s : State} (h : ∀ w ∈ wordsLen, w.before a s = true) : Len.tab.before a s = true := by
  have hc : Cdr.tab.before a s = true := unparts (wk h (.code Cdr.yN Cdr.yB 1 (some .byte))) (wks h (.initialized Cdr.yN.cls :: Cdr.site))
  have q := consq hc h
  exact unparts (wk q (.code Len.yN Len.yB 1 (some .int))) (wks q (.initialized Len.yN.cls :: Len.site))
theorem movedLen {Z s : State} {a0 args : Array Value} (hZ : Z.Warmed39 s.vm) (hw : ∀ d ∈ wordsLen, d.before a0 Z = true) : ∀ d ∈ wordsLen, d.before args s = true := fun d hd => by
  have q := hw d hd
  have t : ∀ d ∈ wordsLen, d = .arrayClass .byte ∨ (d.onTables && d.keepsFace) = true := by decide +kernel
  rcases t d hd with rfl | t
  · exact RoadKit.mvA hZ q
  · exact RoadKit.mv hZ q t
/-- the bytes of the chars cs, low before high -/
def wideBytes : List Int32 → List Value
  | [] => []
  | c :: cs => .int (lo8 c) :: .int (hi8 c) :: wideBytes cs
theorem wide_lo (d : Value) : ∀ (cs : List Int32) (j : Nat), j < cs.length → (wideBytes cs).getD (2 * j) d = .int (lo8 (cs.getD j 0))
  | [], j, h => absurd h (Nat.not_lt_zero j)
  | c :: cs, 0, _ => rfl
  | c :: cs, j + 1, h => by
    have q := wide_lo d cs j (by simpa using h)
    rw [show 2 * (j + 1) = 2 * j + 1 + 1 from by omega]
    simpa [wideBytes] using q
theorem wide_hi (d : Value) : ∀ (cs : List Int32) (j : Nat), j < cs.length → (wideBytes cs).getD (2 * j + 1) d = .int (hi8 (cs.getD j 0))
  | [], j, h => absurd h (Nat.not_lt_zero j)
  | c :: cs, 0, _ => rfl
  | c :: cs, j + 1, h => by
    have q := wide_hi d cs j (by simpa using h)
    rw [show 2 * (j + 1) + 1 = 2 * j + 1 + 1 + 1 from by omega]
    simpa [wideBytes] using q
theorem low_at (d : Value) (cs : List Int32) (j : Nat) (h : j < cs.length) : (cs.map fun c => Value.int (lo8 c)).getD j d = .int (lo8 (cs.getD j 0)) := by
  simp [List.getD_eq_getElem?_getD, h]
/-- an array of N2 bytes vs codes the chars cs by the coder cd -/
def CodA (cs : List Int32) (cd N2 : Int32) (vs : List Value) : Prop := (cd = 0 ∧ N2 = Int32.ofNat cs.length ∧ vs = (cs.map fun c => Value.int (lo8 c)) ∧ ∀ c ∈ cs, ¬ 255 < c) ∨ (cd = 1 ∧ N2 = Int32.ofNat (2 * cs.length) ∧ vs = wideBytes cs ∧ ∃ c ∈ cs, 255 < c)
theorem CodA.cod {cs : List Int32} {cd N2 : Int32} {vs : List Value} {V : Cell} (h : CodA cs cd N2 vs) (hn : 2 * cs.length < 2 ^ 31) (hs : V.slots.size = N2.toNatClampNeg) (hv : RoadKit.Has V vs (.int 0)) : Cod cd cs.length (fun j => cs.getD j 0) V := by
  rcases h with ⟨rfl, rfl, rfl, h⟩ | ⟨rfl, rfl, rfl, c, hc, hw⟩
  · rw [n32 (by omega)] at hs
    exact Or.inl ⟨rfl, hs, fun j hj => ⟨by rw [hv j (by omega), low_at _ _ _ hj], by
      have e : cs.getD j 0 = cs[j] := by simp [List.getD_eq_getElem?_getD, hj]
      show ¬ 255 < cs.getD j 0
      rw [e]; exact h _ (List.getElem_mem _)⟩⟩
  · rw [n32 (by omega)] at hs
    obtain ⟨j, hj, rfl⟩ := List.getElem_of_mem hc
    exact Or.inr ⟨rfl, hs, fun j hj => ⟨by rw [hv _ (by omega), wide_lo _ _ _ hj], by rw [hv _ (by omega), wide_hi _ _ _ hj]⟩, j, hj, by
      have e : cs.getD j 0 = cs[j] := by simp [List.getD_eq_getElem?_getD, hj]
      show 255 < cs.getD j 0
      rw [e]; exact hw⟩
/-- an object of exactly java/lang/String, its two fields found: as the laws ask it -/
theorem strObj {Z U : State} {a0 : Array Value} {kI : Nat} (wi : (Jvm.Cond.instantiable ST kI).before a0 Z = true) (al : Z.vm.Alike U.vm) {x : Addr} {v0 c0 : Value} (E : RoadKit.Exa Z U.heap x ST) (V : RoadKit.Fld Z U.heap x ST "value" "[B" v0) (C : RoadKit.Fld Z U.heap x ST "coder" "B" c0) :
    ∃ (D : Cell) (fV fC : Field), Blank ST x D U ∧ Found ST "value" "[B" fV U ∧ Found ST "coder" "B" fC U ∧ D.slots[fV.slot]? = some v0 ∧ D.slots[fC.slot]? = some c0 ∧ RoadKit.slotOf Z ST "value" "[B" = fV.slot ∧ RoadKit.slotOf Z ST "coder" "B" = fC.slot := by
  obtain ⟨D, cfV, kV, iV, fV, hD, gV, stV, knV, obV, asV, slV⟩ := V
  obtain ⟨D', cfC, kC, iC, fC, hD', gC, stC, -, -, asC, slC⟩ := C
  cases hD.symm.trans hD'
  obtain ⟨D2, kD, e1, e2, e3, e4, e5⟩ := E
  cases hD.symm.trans e1
  obtain ⟨c2, k2, i1, i2, i3, -⟩ := Cond.instantiable_spec wi
  cases e2.symm.trans i1
  cases e3.symm.trans i2
  obtain ⟨kU, u1, u2⟩ := al.2.2 _ _ e3
  exact ⟨D, fV, fC, ⟨hD, ⟨knV, fun q hq => by rw [hq] at obV; cases obV⟩, by rw [al.findClass]; exact e2, kU, u1, by rw [u2]; exact i3, by rw [u2]; exact e5 i3⟩, ⟨SBG.found_only al ⟨cfV, kV, iV, gV⟩, stV⟩, ⟨SBG.found_only al ⟨cfC, kC, iC, gC⟩, stC⟩, slV, slC, by simp [RoadKit.slotOf, gV], by simp [RoadKit.slotOf, gC]⟩
theorem sta_is {Z U : State} (al : Z.vm.Alike U.vm) {C n d : String} {v : Value} (S : RoadKit.Sta Z U.heap C n d v) : StaticIs U C n d v := by
  obtain ⟨cfS, iS, kS, fS, st, cS, t1, t2, t3, t4, t5, t6, t7⟩ := S
  exact StaticIs.there (s := { Z with heap := U.heap }) ⟨cfS, iS, kS, fS, st, cS, t1, t2, t3, t4, t5, (fun q => by rw [q] at t6; cases t6), t7⟩ al rfl
/-- **length() OF SUCH A STRING** -/
theorem lenW {p : Program} {l : Launch} {e : Env} {R : Room} {s : State} {args : Array Value} {below : List Frame} {len W : Nat} {Z : State} {a0 : Array Value} {h : Heap} (hZ : Z.Warmed39 s.vm) (hw : ∀ d ∈ wordsLen, d.before a0 Z = true) {kI : Nat} (wi : (Jvm.Cond.instantiable ST kI).before a0 Z = true)
    {x t : Addr} {kb : ClassId} {cs : List Int32} {cd N2 z : Int32} {vs : List Value} (E : RoadKit.Exa Z h x ST) (V : RoadKit.Fld Z h x ST "value" "[B" (.ref t)) (C : RoadKit.Fld Z h x ST "coder" "B" (.int cd)) (K : RoadKit.Arv Z h t kb .byte N2 vs (.int 0)) (hc : CodA cs cd N2 vs) (hb : ∀ c ∈ cs, ¬ c < 0 ∧ ¬ (65535 : Int32) < c)
    (S : RoadKit.Sta Z h ST "COMPACT_STRINGS" "Z" (.int z)) (hz : ¬ z = 0) (l2 : cs.length ≤ 4000) (hfr : 2 ≤ R.frames) (hlo : W + 25 ≤ R.locals) :
    Back l R p e below s args (⟨"java/lang/String", "length", "()I"⟩ : MethodName) len W (fun P a => a = #[.ref x] ∧ P.U.heap = h ∧ P.cells + 0 ≤ R.cells ∧ P.slots + 0 ≤ R.slots)
      (fun P _ v B => ∃ L, (v = some (.int (Int32.ofNat cs.length)) ∧ L = [] ∧ B.U.heap = h) ∧ B.locs = P.locs ++ L ∧ B.cells = P.cells + 0 ∧ B.slots = P.slots + 0) := by
  obtain ⟨A, K1, K2, K3, K4, K5, K6⟩ := K
  have hcod := hc.cod (by omega) K3 K5
  intro m meth c P g ig mk a X hg hsize hdg hW hn hp'
  obtain ⟨rfl, rfl, r1, r2⟩ := hp'
  have al : Z.vm.Alike P.U.vm := hZ.alike.trans X.warmed.alike
  obtain ⟨D, fV, fC, hB, F1, F2, g1, g2, -, -⟩ := strObj wi al E V C
  have hx : Txt x t A cd cs.length (fun j => cs.getD j 0) P.U := ⟨⟨_, hB.2.2.1, D, hB.1, rfl, by cases q : D.vm <;> first | rfl | exact absurd q (hB.2.1.2 _)⟩, Has.of hB F1 g1, Has.of hB F2 g2, ⟨K1.1, State.isArrayOf_alike al K1.2.1, K1.2.2, by rcases hcod with ⟨-, q, -⟩ | ⟨-, q, -⟩ <;> omega⟩, hcod, fun j hj => by
    have e : cs.getD j 0 = cs[j] := by simp [List.getD_eq_getElem?_getD, hj]
    show ¬ cs.getD j 0 < 0 ∧ ¬ 65535 < cs.getD j 0
    rw [e]; exact hb _ (List.getElem_mem _)⟩
  obtain ⟨v, B, X', ⟨⟨hv, hh⟩, hl, hk, hs⟩, st⟩ := Len.pays x t A cd cs.length (fun j => cs.getD j 0) z (tabLen_of (movedLen hZ hw)) hfr hlo m meth c P g ig mk _ X hg hsize hdg hW hn ⟨r1, r2, rfl, hx, sta_is al S, hz⟩
  exact ⟨v, B, X', ⟨[], ⟨hv, rfl, hh⟩, hl, hk, hs⟩, st⟩
end StrChars.Road
namespace StrChars
open Jvm Sem ClassFile Op Lib Jvm.Stand Jvm.Free.XT Jvm.Free.ALB Jvm.Free.JM Jvm.Free
open Jvm.Lib.Cold (StaticIs)
/-- what place i of a byte[]'s cell holds -/
def yv (A : Cell) (i : Nat) : Int32 := match A.slots[i]? with | some (.int x) => x | _ => 0
theorem yv_get {a : Addr} {A : Cell} {U : State} (h : XT.Arr .byte a A U) (ht : Typed .byte A) {i : Nat} (hi : i < A.slots.size) : A.slots[i]? = some (.int (yv A i)) := by
  have e := Array.getElem?_eq_getElem hi
  have f := ht i _ e
  unfold yv; rw [e]
  generalize A.slots[i] = v at f
  cases v <;> simp [fits] at f ⊢
/-- the two arrays are equal, place for place -/
def EqC (A B : Cell) : Prop := A.slots.size = B.slots.size ∧ ∀ i, i < A.slots.size → yv A i = yv B i
/-- a boolean that says whether p -/
def Says01 (q : Prop) (r : Option Value) (s u : State) : Prop := ∃ v : Int32, r = some (.int v) ∧ u.heap = s.heap ∧ ((v = 1 ∧ q) ∨ (v = 0 ∧ ¬ q))
theorem Says01.mv {q : Prop} : ∀ r (U U' V V' : State), U'.heap = U.heap → V.vm.Alike V'.vm → V'.heap = V.heap → Says01 q r U V → Says01 q r U' V' :=
  fun r U U' V V' h1 _ h2 ⟨v, a, b, c⟩ => ⟨v, a, by rw [h1, h2]; exact b, c⟩
namespace LEq
def yN : MethodName := ⟨"java/lang/StringLatin1", "equals", "([B[B)Z"⟩
abbrev yB : ByteArray := jdk_43_method_13_code
theorem d0 : decode yB 0 = .ok (.aload_n 0, 1) := by decide +kernel
theorem d1 : decode yB 1 = .ok (.arraylength, 1) := by decide +kernel
theorem d2 : decode yB 2 = .ok (.aload_n 1, 1) := by decide +kernel
theorem d3 : decode yB 3 = .ok (.arraylength, 1) := by decide +kernel
theorem d4 : decode yB 4 = .ok (.if_icmp (.ne) 30, 3) := by decide +kernel
theorem d7 : decode yB 7 = .ok (.iconst 0, 1) := by decide +kernel
theorem d8 : decode yB 8 = .ok (.istore_n 2, 1) := by decide +kernel
theorem d9 : decode yB 9 = .ok (.iload_n 2, 1) := by decide +kernel
theorem d10 : decode yB 10 = .ok (.aload_n 0, 1) := by decide +kernel
theorem d11 : decode yB 11 = .ok (.arraylength, 1) := by decide +kernel
theorem d12 : decode yB 12 = .ok (.if_icmp (.ge) 20, 3) := by decide +kernel
theorem d15 : decode yB 15 = .ok (.aload_n 0, 1) := by decide +kernel
theorem d16 : decode yB 16 = .ok (.iload_n 2, 1) := by decide +kernel
theorem d17 : decode yB 17 = .ok (.baload, 1) := by decide +kernel
theorem d18 : decode yB 18 = .ok (.aload_n 1, 1) := by decide +kernel
theorem d19 : decode yB 19 = .ok (.iload_n 2, 1) := by decide +kernel
theorem d20 : decode yB 20 = .ok (.baload, 1) := by decide +kernel
theorem d21 : decode yB 21 = .ok (.if_icmp (.eq) 5, 3) := by decide +kernel
theorem d24 : decode yB 24 = .ok (.iconst 0, 1) := by decide +kernel
theorem d25 : decode yB 25 = .ok (.ireturn, 1) := by decide +kernel
theorem d26 : decode yB 26 = .ok (.iinc 2 1, 3) := by decide +kernel
theorem d29 : decode yB 29 = .ok (.goto (-20), 3) := by decide +kernel
theorem d32 : decode yB 32 = .ok (.iconst 1, 1) := by decide +kernel
theorem d33 : decode yB 33 = .ok (.ireturn, 1) := by decide +kernel
theorem d34 : decode yB 34 = .ok (.iconst 0, 1) := by decide +kernel
theorem d35 : decode yB 35 = .ok (.ireturn, 1) := by decide +kernel
def site : List Cond := []
def tab : Cond := tabOf yN yB 3 (some .boolean) site
def P (a : Addr) (A : Cell) (b : Addr) (B : Cell) (args : Array Value) (s : State) : Prop := args = #[.ref a, .ref b] ∧ XT.Arr .byte a A s ∧ Typed .byte A ∧ XT.Arr .byte b B s ∧ Typed .byte B
/-- whether two byte[] are equal, place for place -/
theorem law (l : Launch) (a : Addr) (A : Cell) (b : Addr) (B : Cell) : Law l yN 2 2 0 0 yB 3 (some .boolean) site (P a A b B) (Says01 (EqC A B)) [] 0 0 := by
  refine Law.of_walk (plainFor_of_name (by decide +kernel)) (by decide +kernel) (by decide +kernel) (by decide) (fun _ _ h => by rw [h.1]; rfl) (fun _ U U' hal hh h => ⟨h.1, h.2.1.mv hal hh, h.2.2.1, h.2.2.2.1.mv hal hh, h.2.2.2.2⟩) (fun r U U' V V' h1 hal h2 h => Says01.mv r U U' V V' h1 hal h2 h) ?_
  intro p e s m args below meth c s₁ X0 hexec hbytes hml hret hlk hnm hown hh0 W hP
  obtain ⟨rfl, hA, tA, hB, tB⟩ := hP
  have a31 := hA.2.2.2
  have b31 := hB.2.2.2
  have hA0 := hA.mv X0.warmed.alike hh0
  have hB0 := hB.mv X0.warmed.alike hh0
  have c1 : Steps p.tables e below (s₁.setTop (entryFrame m #[.ref a, .ref b] 3)) (s₁.setTop (mkF m 0 #[.val (.ref a), .val (.ref b), .unset] [])) := entry rfl
  have c2 : Steps p.tables e below (s₁.setTop (entryFrame m #[.ref a, .ref b] 3)) (s₁.setTop (mkF m 4 #[.val (.ref a), .val (.ref b), .unset] [.int (Int32.ofNat B.slots.size), .int (Int32.ofNat A.slots.size)])) := c1.trans (by
    refine XS.aloadN X0.here hexec rfl (hb hbytes d0) rfl rfl ?_
    refine X0.alen hexec hA0 rfl rfl (hb hbytes d1) ?_
    refine XS.aloadN X0.here hexec rfl (hb hbytes d2) rfl rfl ?_
    refine X0.alen hexec hB0 rfl rfl (hb hbytes d3) ?_
    exact Steps.refl _)
  by_cases hs : A.slots.size = B.slots.size
  · have c3 : Steps p.tables e below (s₁.setTop (entryFrame m #[.ref a, .ref b] 3)) (s₁.setTop (mkF m 9 #[.val (.ref a), .val (.ref b), .val (.int 0)] [])) := c2.trans (by
      refine XS.icmpNo X0.here hexec rfl (hb hbytes d4) rfl (ii_ne_f (by rw [hs])) ?_
      refine iconstV X0.here hexec rfl 0 (hb hbytes d7) (by decide) ?_
      refine XS.istoreN X0.here hexec rfl (hb hbytes d8) rfl rfl ?_
      exact Steps.refl _)
    have loop : ∀ (r i : Nat), i + r = A.slots.size → (∀ j, j < i → yv A j = yv B j) → Steps p.tables e below (s₁.setTop (entryFrame m #[.ref a, .ref b] 3)) (s₁.setTop (mkF m 9 #[.val (.ref a), .val (.ref b), .val (.int (Int32.ofNat i))] [])) → ∃ (pc : Nat) (Ls : Array Slot) (v : Int32), (pc = 25 ∨ pc = 33) ∧ ((v = 1 ∧ EqC A B) ∨ (v = 0 ∧ ¬ EqC A B)) ∧ Steps p.tables e below (s₁.setTop (entryFrame m #[.ref a, .ref b] 3)) (s₁.setTop (mkF m pc Ls [.int v])) := by
      intro r
      induction r with
      | zero =>
        intro i hi he cl
        exact ⟨33, _, 1, Or.inr rfl, Or.inl ⟨rfl, hs, fun j hj => he j (by omega)⟩, cl.trans (by
          refine XS.iloadN X0.here hexec rfl (hb hbytes d9) rfl ?_
          refine XS.aloadN X0.here hexec rfl (hb hbytes d10) rfl rfl ?_
          refine X0.alen hexec hA0 rfl rfl (hb hbytes d11) ?_
          refine XS.icmpYes X0.here hexec rfl (pc0 := 12) rfl (hb hbytes d12) rfl (ii_ge_t (nlt32 (by omega) (by omega))) (by decide) rfl ?_
          refine iconstV X0.here hexec rfl 1 (hb hbytes d32) (by decide) ?_
          exact Steps.refl _)⟩
      | succ r ih =>
        intro i hi he cl
        have c4 : Steps p.tables e below (s₁.setTop (entryFrame m #[.ref a, .ref b] 3)) (s₁.setTop (mkF m 21 #[.val (.ref a), .val (.ref b), .val (.int (Int32.ofNat i))] [.int (yv B i), .int (yv A i)])) := cl.trans (by
          refine XS.iloadN X0.here hexec rfl (hb hbytes d9) rfl ?_
          refine XS.aloadN X0.here hexec rfl (hb hbytes d10) rfl rfl ?_
          refine X0.alen hexec hA0 rfl rfl (hb hbytes d11) ?_
          refine XS.icmpNo X0.here hexec rfl (hb hbytes d12) rfl (ii_ge_f (lt32 (by omega) (by omega))) ?_
          refine XS.aloadN X0.here hexec rfl (hb hbytes d15) rfl rfl ?_
          refine XS.iloadN X0.here hexec rfl (hb hbytes d16) rfl ?_
          refine X0.aget hexec hA0 rfl (yv_get hA tA (i := i) (by omega)) rfl rfl (hb hbytes d17) ?_
          refine XS.aloadN X0.here hexec rfl (hb hbytes d18) rfl rfl ?_
          refine XS.iloadN X0.here hexec rfl (hb hbytes d19) rfl ?_
          refine X0.aget hexec hB0 rfl (yv_get hB tB (i := i) (by omega)) rfl rfl (hb hbytes d20) ?_
          exact Steps.refl _)
        by_cases hv : yv A i = yv B i
        · have c5 : Steps p.tables e below (s₁.setTop (entryFrame m #[.ref a, .ref b] 3)) (s₁.setTop (mkF m 9 #[.val (.ref a), .val (.ref b), .val (.int (Int32.ofNat i + 1))] [])) := c4.trans (by
            refine XS.icmpYes X0.here hexec rfl (pc0 := 21) rfl (hb hbytes d21) rfl (ii_eq_t hv) (by decide) rfl ?_
            refine iincV X0.here hexec rfl 1 (hb hbytes d26) (by decide) rfl rfl ?_
            refine XS.goto X0.here hexec rfl (pc0 := 29) rfl (hb hbytes d29) (by decide) rfl ?_
            exact Steps.refl _)
          rw [succ32] at c5
          exact ih (i + 1) (by omega) (fun j hj => by
            by_cases e : j = i
            · rw [e]; exact hv
            · exact he j (by omega)) c5
        · exact ⟨25, _, 0, Or.inl rfl, Or.inr ⟨rfl, fun q => hv (q.2 i (by omega))⟩, c4.trans (by
            refine XS.icmpNo X0.here hexec rfl (hb hbytes d21) rfl (ii_eq_f hv) ?_
            refine iconstV X0.here hexec rfl 0 (hb hbytes d24) (by decide) ?_
            exact Steps.refl _)⟩
    obtain ⟨pc, Ls, v, hpc, hv, cz⟩ := loop A.slots.size 0 (by omega) (fun j hj => absurd hj (Nat.not_lt_zero j)) c3
    have nv : narrow .boolean (.int v) = .int v := by rcases hv with ⟨rfl, -⟩ | ⟨rfl, -⟩ <;> rfl
    rcases hpc with rfl | rfl
    · exact ⟨s₁, some (.int v), _, _, _, X0, rfl, rfl, rfl, (fun h => by cases h), ⟨v, rfl, hh0, hv⟩, fun fs hl => cz.trans (X0.ireturnOut hexec hret nv (Or.inr (Or.inl rfl)) (hb hbytes d25) hl)⟩
    · exact ⟨s₁, some (.int v), _, _, _, X0, rfl, rfl, rfl, (fun h => by cases h), ⟨v, rfl, hh0, hv⟩, fun fs hl => cz.trans (X0.ireturnOut hexec hret nv (Or.inr (Or.inl rfl)) (hb hbytes d33) hl)⟩
  · have c3 : Steps p.tables e below (s₁.setTop (entryFrame m #[.ref a, .ref b] 3)) (s₁.setTop (mkF m 35 #[.val (.ref a), .val (.ref b), .unset] [.int 0])) := c2.trans (by
      refine XS.icmpYes X0.here hexec rfl (pc0 := 4) rfl (hb hbytes d4) rfl (ii_ne_t (ne32 a31 b31 hs)) (by decide) rfl ?_
      refine iconstV X0.here hexec rfl 0 (hb hbytes d34) (by decide) ?_
      exact Steps.refl _)
    exact ⟨s₁, some (.int 0), _, _, _, X0, rfl, rfl, rfl, (fun h => by cases h), ⟨0, rfl, hh0, Or.inr ⟨rfl, fun q => hs q.1⟩⟩, fun fs hl => c3.trans (X0.ireturnOut hexec hret rfl (Or.inr (Or.inl rfl)) (hb hbytes d35) hl)⟩
end LEq
theorem Cod.ty {cd : Int32} {n : Nat} {f : Nat → Int32} {V : Cell} (h : Cod cd n f V) : Typed .byte V := fun i v hv => by
  have hi : i < V.slots.size := (Array.getElem?_eq_some_iff.mp hv).1
  rcases h with ⟨-, k1, k2⟩ | ⟨-, k1, k2, -⟩
  · rw [(k2 i (by omega)).1] at hv; cases hv; exact fits_lo8 _
  · rcases Nat.mod_two_eq_zero_or_one i with e | e
    · obtain ⟨j, rfl⟩ : ∃ j, i = 2 * j := ⟨i / 2, by omega⟩
      rw [(k2 j (by omega)).1] at hv; cases hv; exact fits_lo8 _
    · obtain ⟨j, rfl⟩ : ∃ j, i = 2 * j + 1 := ⟨i / 2, by omega⟩
      rw [(k2 j (by omega)).2] at hv; cases hv; exact fits_lo8 _
/-- the same text -/
def SameT (n : Nat) (f : Nat → Int32) (k : Nat) (g : Nat → Int32) : Prop := n = k ∧ ∀ j, j < n → f j = g j
theorem lo8_inj {x y : Int32} (h0 : ¬ x < 0) (h1 : ¬ 255 < x) (k0 : ¬ y < 0) (k1 : ¬ 255 < y) (h : lo8 x = lo8 y) : x = y := by
  rw [← lo8_mask h0 h1, ← lo8_mask k0 k1, h]
/-- arrays coded by one coder are equal just where the texts are -/
theorem Cod.eqv {cd : Int32} {n k : Nat} {f g : Nat → Int32} {V V' : Cell} (h : Cod cd n f V) (h' : Cod cd k g V') (hf : ∀ j, j < n → ¬ f j < 0 ∧ ¬ 65535 < f j) (hg : ∀ j, j < k → ¬ g j < 0 ∧ ¬ 65535 < g j) : EqC V V' ↔ SameT n f k g := by
  have yvv : ∀ {W : Cell} {i : Nat} {x : Int32}, W.slots[i]? = some (.int x) → yv W i = x := fun q => by unfold yv; rw [q]
  rcases h with ⟨rfl, k1, k2⟩ | ⟨rfl, k1, k2, -⟩
  · rcases h' with ⟨-, m1, m2⟩ | ⟨e, -⟩
    · constructor
      · rintro ⟨e1, e2⟩
        refine ⟨by omega, fun j hj => ?_⟩
        have q := e2 j (by omega)
        rw [yvv (k2 j hj).1, yvv (m2 j (by omega)).1] at q
        exact lo8_inj (hf j hj).1 (k2 j hj).2 (hg j (by omega)).1 (m2 j (by omega)).2 q
      · rintro ⟨rfl, e2⟩
        refine ⟨by omega, fun j hj => ?_⟩
        rw [yvv (k2 j (by omega)).1, yvv (m2 j (by omega)).1, e2 j (by omega)]
    · exact absurd e (by decide)
  · rcases h' with ⟨e, -⟩ | ⟨-, m1, m2, -⟩
    · exact absurd e (by decide)
    · constructor
      · rintro ⟨e1, e2⟩
        refine ⟨by omega, fun j hj => ?_⟩
        have q1 := e2 (2 * j) (by omega)
        have q2 := e2 (2 * j + 1) (by omega)
        rw [yvv (k2 j hj).1, yvv (m2 j (by omega)).1] at q1
        rw [yvv (k2 j hj).2, yvv (m2 j (by omega)).2] at q2
        rw [← pair_says (hf j hj).1 (hf j hj).2, ← pair_says (hg j (by omega)).1 (hg j (by omega)).2, q1, q2]
      · rintro ⟨rfl, e2⟩
        refine ⟨by omega, fun i hi => ?_⟩
        rcases Nat.mod_two_eq_zero_or_one i with e | e
        · obtain ⟨j, rfl⟩ : ∃ j, i = 2 * j := ⟨i / 2, by omega⟩
          rw [yvv (k2 j (by omega)).1, yvv (m2 j (by omega)).1, e2 j (by omega)]
        · obtain ⟨j, rfl⟩ : ∃ j, i = 2 * j + 1 := ⟨i / 2, by omega⟩
          rw [yvv (k2 j (by omega)).2, yvv (m2 j (by omega)).2, e2 j (by omega)]
/-- two codings differ: so do the texts -/
theorem Cod.dif {cd cd' : Int32} {n k : Nat} {f g : Nat → Int32} {V V' : Cell} (h : Cod cd n f V) (h' : Cod cd' k g V') (hne : ¬ cd = cd') : ¬ SameT n f k g := by
  rintro ⟨rfl, e⟩
  rcases h with ⟨rfl, -, k2⟩ | ⟨rfl, -, -, j, hj, hw⟩
  · rcases h' with ⟨rfl, -⟩ | ⟨-, -, -, j, hj, hw⟩
    · exact hne rfl
    · exact (k2 j hj).2 (by rw [e j hj]; exact hw)
  · rcases h' with ⟨-, -, m2⟩ | ⟨rfl, -⟩
    · exact (m2 j hj).2 (by rw [← e j hj]; exact hw)
    · exact hne rfl
/-- an object of exactly C is an instance of C -/
theorem cinst {p : Program} {l : Launch} {e : Env} {R : Room} {s : State} {m : MethodId} {args : Array Value} {below : List Frame} {meth : Method} {c : Code} {T : State} {locs : List Loc} {cells slots : Nat} (X : Stand p l e R s m args below meth c T locs cells slots) (hexec : p.tables.exec = Jvm.exec) {own C : String} {index : Nat} (hown : s.vm.findClass own = some m.cls) (hlink : (Cond.classLink own index C).before args s = true) {a : Addr} (hE : Exact C a T)
    {g : JFrame} (hg : g.method = m) {rest : List Value} (hstack : g.stack = .ref a :: rest) (hdg : decode c.code g.pc = .ok (.instanceof index, 3)) :
    ∃ T', Stand p l e R s m args below meth c T' locs cells slots ∧ T'.heap = T.heap ∧ ∀ target, Steps p.tables e below (T'.setTop { g with pc := g.pc + 3, stack := .int 1 :: rest }) target → Steps p.tables e below (T.setTop g) target := by
  obtain ⟨cB, h1, D, h2, h3, h4⟩ := hE
  have h1' : s.vm.findClass C = some cB := by rw [← X.warmed.alike.findClass]; exact h1
  obtain ⟨vm', X', st⟩ := X.instanceofYes hexec hown hlink h2 h4 h1' (by rw [h3]; exact Jvm.Free.SB.assignable_self _ _) hg hstack hdg
  exact ⟨_, X', rfl, st⟩
theorem cself {p : Program} {l : Launch} {e : Env} {R : Room} {s : State} {m : MethodId} {args : Array Value} {below : List Frame} {meth : Method} {c : Code} {T : State} {locs : List Loc} {cells slots : Nat} (X : Stand p l e R s m args below meth c T locs cells slots) (hexec : p.tables.exec = Jvm.exec) {own C : String} {index : Nat} (hown : s.vm.findClass own = some m.cls) (hlink : (Cond.classLink own index C).before args s = true) {a : Addr} (hE : Exact C a T)
    {g : JFrame} (hg : g.method = m) {rest : List Value} (hstack : g.stack = .ref a :: rest) (hdg : decode c.code g.pc = .ok (.checkcast index, 3)) :
    ∃ T', Stand p l e R s m args below meth c T' locs cells slots ∧ T'.heap = T.heap ∧ ∀ target, Steps p.tables e below (T'.setTop { g with pc := g.pc + 3, stack := .ref a :: rest }) target → Steps p.tables e below (T.setTop g) target := by
  obtain ⟨cB, h1, D, h2, h3, h4⟩ := hE
  have h1' : s.vm.findClass C = some cB := by rw [← X.warmed.alike.findClass]; exact h1
  obtain ⟨vm', X', st⟩ := X.checkcastYes hexec hown hlink h2 h4 h1' (by rw [h3]; exact Jvm.Free.SB.assignable_self _ _) hg hstack hdg
  exact ⟨_, X', rfl, fun t h => st t (by rw [← hstack] at h; exact h)⟩
namespace SEq
def yN : MethodName := ⟨"java/lang/String", "equals", "(Ljava/lang/Object;)Z"⟩
abbrev yB : ByteArray := jdk_42_method_66_code
theorem d0 : decode yB 0 = .ok (.aload_n 0, 1) := by decide +kernel
theorem d1 : decode yB 1 = .ok (.aload_n 1, 1) := by decide +kernel
theorem d2 : decode yB 2 = .ok (.if_acmp (.ne) 5, 3) := by decide +kernel
theorem d5 : decode yB 5 = .ok (.iconst 1, 1) := by decide +kernel
theorem d6 : decode yB 6 = .ok (.ireturn, 1) := by decide +kernel
theorem d7 : decode yB 7 = .ok (.aload_n 1, 1) := by decide +kernel
theorem d8 : decode yB 8 = .ok (.instanceof 10, 3) := by decide +kernel
theorem d11 : decode yB 11 = .ok (.ifCond (.eq) 43, 3) := by decide +kernel
theorem d14 : decode yB 14 = .ok (.aload_n 1, 1) := by decide +kernel
theorem d15 : decode yB 15 = .ok (.checkcast 10, 3) := by decide +kernel
theorem d18 : decode yB 18 = .ok (.astore_n 2, 1) := by decide +kernel
theorem d19 : decode yB 19 = .ok (.getstatic 38, 3) := by decide +kernel
theorem d22 : decode yB 22 = .ok (.ifCond (.eq) 14, 3) := by decide +kernel
theorem d25 : decode yB 25 = .ok (.aload_n 0, 1) := by decide +kernel
theorem d26 : decode yB 26 = .ok (.getfield 15, 3) := by decide +kernel
theorem d29 : decode yB 29 = .ok (.aload_n 2, 1) := by decide +kernel
theorem d30 : decode yB 30 = .ok (.getfield 15, 3) := by decide +kernel
theorem d33 : decode yB 33 = .ok (.if_icmp (.ne) 21, 3) := by decide +kernel
theorem d36 : decode yB 36 = .ok (.aload_n 0, 1) := by decide +kernel
theorem d37 : decode yB 37 = .ok (.getfield 9, 3) := by decide +kernel
theorem d40 : decode yB 40 = .ok (.aload_n 2, 1) := by decide +kernel
theorem d41 : decode yB 41 = .ok (.getfield 9, 3) := by decide +kernel
theorem d44 : decode yB 44 = .ok (.invokestatic 541, 3) := by decide +kernel
theorem d47 : decode yB 47 = .ok (.ifCond (.eq) 7, 3) := by decide +kernel
theorem d50 : decode yB 50 = .ok (.iconst 1, 1) := by decide +kernel
theorem d51 : decode yB 51 = .ok (.goto 4, 3) := by decide +kernel
theorem d54 : decode yB 54 = .ok (.iconst 0, 1) := by decide +kernel
theorem d55 : decode yB 55 = .ok (.ireturn, 1) := by decide +kernel
def site : List Cond := [.classLink "java/lang/String" 10 "java/lang/String", .fieldLink "java/lang/String" 38 "java/lang/String" "COMPACT_STRINGS" "Z", .fieldLink "java/lang/String" 15 "java/lang/String" "coder" "B", .fieldLink "java/lang/String" 9 "java/lang/String" "value" "[B", LEq.tab] ++ staticW "java/lang/String" 541 LEq.yN
def tab : Cond := tabOf yN yB 3 (some .boolean) site
def P (x t : Addr) (V : Cell) (cd : Int32) (n : Nat) (f : Nat → Int32) (y t' : Addr) (V' : Cell) (cd' : Int32) (k : Nat) (g : Nat → Int32) (z : Int32) (args : Array Value) (s : State) : Prop := args = #[.ref x, .ref y] ∧ Txt x t V cd n f s ∧ Txt y t' V' cd' k g s ∧ StaticIs s "java/lang/String" "COMPACT_STRINGS" "Z" (.int z) ∧ ¬ z = 0
/-- equals(Object) of two Strings: whether the texts are the same -/
theorem law (l : Launch) (x t : Addr) (V : Cell) (cd : Int32) (n : Nat) (f : Nat → Int32) (y t' : Addr) (V' : Cell) (cd' : Int32) (k : Nat) (g : Nat → Int32) (z : Int32) : Law l yN 2 1 1 14 yB 3 (some .boolean) site (P x t V cd n f y t' V' cd' k g z) (Says01 (SameT n f k g)) [] 0 0 := by
  refine Law.of_walk (plainFor_of_name (by decide +kernel)) (by decide +kernel) (by decide +kernel) (by decide) (fun _ _ h => by rw [h.1]; rfl) (fun _ U U' hal hh h => ⟨h.1, h.2.1.mv hal hh, h.2.2.1.mv hal hh, h.2.2.2.1.there hal hh, h.2.2.2.2⟩) (fun r U U' V V' h1 hal h2 h => Says01.mv r U U' V V' h1 hal h2 h) ?_
  intro p e s m args below meth c s₁ X0 hexec hbytes hml hret hlk hnm hown hh0 W hP
  obtain ⟨rfl, hx, hy, s1, hz⟩ := hP
  have c1 : Steps p.tables e below (s₁.setTop (entryFrame m #[.ref x, .ref y] 3)) (s₁.setTop (mkF m 2 #[.val (.ref x), .val (.ref y), .unset] [.ref y, .ref x])) := Steps.trans (entry rfl) (by
    show Steps p.tables e below (s₁.setTop (mkF m 0 #[.val (.ref x), .val (.ref y), .unset] [])) _
    refine XS.aloadN X0.here hexec rfl (hb hbytes d0) rfl rfl ?_
    refine XS.aloadN X0.here hexec rfl (hb hbytes d1) rfl rfl ?_
    exact Steps.refl _)
  by_cases hxy : x = y
  · have c2 : Steps p.tables e below (s₁.setTop (entryFrame m #[.ref x, .ref y] 3)) (s₁.setTop (mkF m 6 #[.val (.ref x), .val (.ref y), .unset] [.int 1])) := c1.trans (by
      refine acmpNo X0.here hexec rfl (hb hbytes d2) rfl rfl rfl (by simp [acmp, hxy]) ?_
      refine iconstV X0.here hexec rfl 1 (hb hbytes d5) (by decide) ?_
      exact Steps.refl _)
    subst hxy
    have ec : cd = cd' := by
      obtain ⟨D, fd, a1, a2, a3⟩ := hx.2.2.1
      obtain ⟨D', fd', b1, b2, b3⟩ := hy.2.2.1
      cases a1.symm.trans b1
      obtain ⟨q1, q2, q3, q4⟩ := a2.1
      obtain ⟨r1, r2, r3, r4⟩ := b2.1
      cases q4.symm.trans r4
      cases a3.symm.trans b3; rfl
    have et : t = t' := by
      obtain ⟨D, fd, a1, a2, a3⟩ := hx.2.1
      obtain ⟨D', fd', b1, b2, b3⟩ := hy.2.1
      cases a1.symm.trans b1
      obtain ⟨q1, q2, q3, q4⟩ := a2.1
      obtain ⟨r1, r2, r3, r4⟩ := b2.1
      cases q4.symm.trans r4
      cases a3.symm.trans b3; rfl
    subst ec et
    have ev : V = V' := by cases hx.2.2.2.1.1.symm.trans hy.2.2.2.1.1; rfl
    subst ev
    have hs : SameT n f k g := (Cod.eqv hx.2.2.2.2.1 hy.2.2.2.2.1 hx.2.2.2.2.2 hy.2.2.2.2.2).mp ⟨rfl, fun _ _ => rfl⟩
    exact ⟨s₁, some (.int 1), _, _, _, X0, rfl, rfl, rfl, (fun h => by cases h), ⟨1, rfl, hh0, Or.inl ⟨rfl, hs⟩⟩, fun fs hl => c2.trans (X0.ireturnOut hexec hret rfl (Or.inr (Or.inl rfl)) (hb hbytes d6) hl)⟩
  · have c2 : Steps p.tables e below (s₁.setTop (entryFrame m #[.ref x, .ref y] 3)) (s₁.setTop (mkF m 8 #[.val (.ref x), .val (.ref y), .unset] [.ref y])) := c1.trans (by
      refine acmpYes X0.here hexec rfl (pc0 := 2) rfl (hb hbytes d2) rfl rfl rfl (by simp [acmp, hxy]) (by decide) rfl ?_
      refine XS.aloadN X0.here hexec rfl (hb hbytes d7) rfl rfl ?_
      exact Steps.refl _)
    obtain ⟨T3, X3, q3, st3⟩ := cinst X0 hexec hown (wk W (.classLink "java/lang/String" 10 "java/lang/String")) (hy.mv X0.warmed.alike hh0).1 (g := (mkF m 8 #[.val (.ref x), .val (.ref y), .unset] [.ref y])) rfl (rest := []) rfl (hb hbytes d8)
    have hh3 := q3.trans hh0
    have c4 : Steps p.tables e below (s₁.setTop (entryFrame m #[.ref x, .ref y] 3)) (T3.setTop (mkF m 15 #[.val (.ref x), .val (.ref y), .unset] [.ref y])) := (c2.trans (st3 _ (Steps.refl _))).trans (by
      refine XS.ifNo X3.here hexec rfl (hb hbytes d11) rfl (i0_eq_f (by decide)) ?_
      refine XS.aloadN X3.here hexec rfl (hb hbytes d14) rfl rfl ?_
      exact Steps.refl _)
    obtain ⟨T5, X5, q5, st5⟩ := cself X3 hexec hown (wk W (.classLink "java/lang/String" 10 "java/lang/String")) (hy.mv X3.warmed.alike hh3).1 (g := (mkF m 15 #[.val (.ref x), .val (.ref y), .unset] [.ref y])) rfl (rest := []) rfl (hb hbytes d15)
    have hh5 := q5.trans hh3
    have c6 : Steps p.tables e below (s₁.setTop (entryFrame m #[.ref x, .ref y] 3)) (T5.setTop (mkF m 19 #[.val (.ref x), .val (.ref y), .val (.ref y)] [])) := (c4.trans (st5 _ (Steps.refl _))).trans (by
      refine XS.astoreN X5.here hexec rfl (hb hbytes d18) rfl rfl rfl ?_
      exact Steps.refl _)
    obtain ⟨T7, X7, q7, st7⟩ := X5.sget hexec hown (wk W (.fieldLink "java/lang/String" 38 "java/lang/String" "COMPACT_STRINGS" "Z")) s1 (fun _ _ h => by rw [hh5]; exact h) (g := (mkF m 19 #[.val (.ref x), .val (.ref y), .val (.ref y)] [])) rfl (hb hbytes d19)
    have hh7 := q7.trans hh5
    have c8 : Steps p.tables e below (s₁.setTop (entryFrame m #[.ref x, .ref y] 3)) (T7.setTop (mkF m 26 #[.val (.ref x), .val (.ref y), .val (.ref y)] [.ref x])) := (c6.trans (st7 _ (Steps.refl _))).trans (by
      refine XS.ifNo X7.here hexec rfl (hb hbytes d22) rfl (i0_eq_f hz) ?_
      refine XS.aloadN X7.here hexec rfl (hb hbytes d25) rfl rfl ?_
      exact Steps.refl _)
    obtain ⟨T9, X9, q9, st9⟩ := X7.hget hexec hown (wk W (.fieldLink "java/lang/String" 15 "java/lang/String" "coder" "B")) (hx.mv X7.warmed.alike hh7).2.2.1 (g := (mkF m 26 #[.val (.ref x), .val (.ref y), .val (.ref y)] [.ref x])) rfl (rest := []) rfl (hb hbytes d26)
    have hh9 := q9.trans hh7
    have c10 : Steps p.tables e below (s₁.setTop (entryFrame m #[.ref x, .ref y] 3)) (T9.setTop (mkF m 30 #[.val (.ref x), .val (.ref y), .val (.ref y)] [.ref y, .int cd])) := (c8.trans (st9 _ (Steps.refl _))).trans (by
      refine XS.aloadN X9.here hexec rfl (hb hbytes d29) rfl rfl ?_
      exact Steps.refl _)
    obtain ⟨T11, X11, q11, st11⟩ := X9.hget hexec hown (wk W (.fieldLink "java/lang/String" 15 "java/lang/String" "coder" "B")) (hy.mv X9.warmed.alike hh9).2.2.1 (g := (mkF m 30 #[.val (.ref x), .val (.ref y), .val (.ref y)] [.ref y, .int cd])) rfl (rest := [.int cd]) rfl (hb hbytes d30)
    have hh11 := q11.trans hh9
    have c12 : Steps p.tables e below (s₁.setTop (entryFrame m #[.ref x, .ref y] 3)) (T11.setTop (mkF m 33 #[.val (.ref x), .val (.ref y), .val (.ref y)] [.int cd', .int cd])) := c10.trans (st11 _ (Steps.refl _))
    by_cases hcd : cd = cd'
    · subst hcd
      have c13 : Steps p.tables e below (s₁.setTop (entryFrame m #[.ref x, .ref y] 3)) (T11.setTop (mkF m 37 #[.val (.ref x), .val (.ref y), .val (.ref y)] [.ref x])) := c12.trans (by
        refine XS.icmpNo X11.here hexec rfl (hb hbytes d33) rfl (ii_ne_f rfl) ?_
        refine XS.aloadN X11.here hexec rfl (hb hbytes d36) rfl rfl ?_
        exact Steps.refl _)
      obtain ⟨T14, X14, q14, st14⟩ := X11.hget hexec hown (wk W (.fieldLink "java/lang/String" 9 "java/lang/String" "value" "[B")) (hx.mv X11.warmed.alike hh11).2.1 (g := (mkF m 37 #[.val (.ref x), .val (.ref y), .val (.ref y)] [.ref x])) rfl (rest := []) rfl (hb hbytes d37)
      have hh14 := q14.trans hh11
      have c15 : Steps p.tables e below (s₁.setTop (entryFrame m #[.ref x, .ref y] 3)) (T14.setTop (mkF m 41 #[.val (.ref x), .val (.ref y), .val (.ref y)] [.ref y, .ref t])) := (c13.trans (st14 _ (Steps.refl _))).trans (by
        refine XS.aloadN X14.here hexec rfl (hb hbytes d40) rfl rfl ?_
        exact Steps.refl _)
      obtain ⟨T16, X16, q16, st16⟩ := X14.hget hexec hown (wk W (.fieldLink "java/lang/String" 9 "java/lang/String" "value" "[B")) (hy.mv X14.warmed.alike hh14).2.1 (g := (mkF m 41 #[.val (.ref x), .val (.ref y), .val (.ref y)] [.ref y, .ref t])) rfl (rest := [.ref t]) rfl (hb hbytes d41)
      have hh16 := q16.trans hh14
      have c17 : Steps p.tables e below (s₁.setTop (entryFrame m #[.ref x, .ref y] 3)) (T16.setTop (mkF m 44 #[.val (.ref x), .val (.ref y), .val (.ref y)] [.ref t', .ref t])) := c15.trans (st16 _ (Steps.refl _))
      obtain ⟨v18, T18, X18, E18, g18⟩ := X16.callS hexec (LEq.law l t V t' V') hown (wks W (staticW "java/lang/String" 541 LEq.yN)) (wk W LEq.tab) (W := 0) (Nat.le_of_ble_eq_true rfl) (Nat.le_of_ble_eq_true rfl) (Nat.le_refl _) (Nat.le_refl _) (g := (mkF m 44 #[.val (.ref x), .val (.ref y), .val (.ref y)] [.ref t', .ref t])) rfl (by rw [hml]; rfl) c17 (argsL := [.ref t, .ref t']) (rest := []) rfl rfl (by show 2 * 0 + 0 ≤ _; decide) (hb hbytes d44) (⟨rfl, hx.2.2.2.1.mv X16.warmed.alike hh16, hx.2.2.2.2.1.ty, hy.2.2.2.1.mv X16.warmed.alike hh16, hy.2.2.2.2.1.ty⟩)
      obtain ⟨v, rfl, q18, hv⟩ := E18
      have iff := Cod.eqv hx.2.2.2.2.1 hy.2.2.2.2.1 hx.2.2.2.2.2 hy.2.2.2.2.2
      rcases hv with ⟨rfl, he⟩ | ⟨rfl, he⟩
      · have c19 : Steps p.tables e below (s₁.setTop (entryFrame m #[.ref x, .ref y] 3)) (T18.setTop (mkF m 55 #[.val (.ref x), .val (.ref y), .val (.ref y)] [.int 1])) := Steps.trans g18 (by
          refine XS.ifNo X18.here hexec rfl (hb hbytes d47) rfl (i0_eq_f (by decide)) ?_
          refine iconstV X18.here hexec rfl 1 (hb hbytes d50) (by decide) ?_
          refine XS.goto X18.here hexec rfl (pc0 := 51) rfl (hb hbytes d51) (by decide) rfl ?_
          exact Steps.refl _)
        exact ⟨T18, some (.int 1), _, _, _, X18, rfl, rfl, rfl, (fun h => by cases h), ⟨1, rfl, q18.trans hh16, Or.inl ⟨rfl, iff.mp he⟩⟩, fun fs hl => c19.trans (X18.ireturnOut hexec hret rfl (Or.inr (Or.inl rfl)) (hb hbytes d55) hl)⟩
      · have c19 : Steps p.tables e below (s₁.setTop (entryFrame m #[.ref x, .ref y] 3)) (T18.setTop (mkF m 55 #[.val (.ref x), .val (.ref y), .val (.ref y)] [.int 0])) := Steps.trans g18 (by
          refine XS.ifYes X18.here hexec rfl (pc0 := 47) rfl (hb hbytes d47) rfl (i0_eq_t rfl) (by decide) rfl ?_
          refine iconstV X18.here hexec rfl 0 (hb hbytes d54) (by decide) ?_
          exact Steps.refl _)
        exact ⟨T18, some (.int 0), _, _, _, X18, rfl, rfl, rfl, (fun h => by cases h), ⟨0, rfl, q18.trans hh16, Or.inr ⟨rfl, fun q => he (iff.mpr q)⟩⟩, fun fs hl => c19.trans (X18.ireturnOut hexec hret rfl (Or.inr (Or.inl rfl)) (hb hbytes d55) hl)⟩
    · have c13 : Steps p.tables e below (s₁.setTop (entryFrame m #[.ref x, .ref y] 3)) (T11.setTop (mkF m 55 #[.val (.ref x), .val (.ref y), .val (.ref y)] [.int 0])) := c12.trans (by
        refine XS.icmpYes X11.here hexec rfl (pc0 := 33) rfl (hb hbytes d33) rfl (ii_ne_t hcd) (by decide) rfl ?_
        refine iconstV X11.here hexec rfl 0 (hb hbytes d54) (by decide) ?_
        exact Steps.refl _)
      exact ⟨T11, some (.int 0), _, _, _, X11, rfl, rfl, rfl, (fun h => by cases h), ⟨0, rfl, hh11, Or.inr ⟨rfl, Cod.dif hx.2.2.2.2.1 hy.2.2.2.2.1 hcd⟩⟩, fun fs hl => c13.trans (X11.ireturnOut hexec hret rfl (Or.inr (Or.inl rfl)) (hb hbytes d55) hl)⟩
theorem pays {l : Launch} {R : Room} {p : Program} {e : Env} {below : List Frame} {s : State} {sargs : Array Value} {len W : Nat} (x t : Addr) (V : Cell) (cd : Int32) (n : Nat) (f : Nat → Int32) (y t' : Addr) (V' : Cell) (cd' : Int32) (k : Nat) (g : Nat → Int32) (z : Int32) (htab : tab.before sargs s = true) (hfr : 2 ≤ R.frames) (hlo : W + 28 ≤ R.locals) :
    Back l R p e below s sargs yN len W (fun A₁ a₁ => A₁.cells + 0 ≤ R.cells ∧ A₁.slots + 0 ≤ R.slots ∧ P x t V cd n f y t' V' cd' k g z a₁ A₁.U) (fun A₁ _ v₁ B₁ => Says01 (SameT n f k g) v₁ A₁.U B₁.U ∧ B₁.locs = A₁.locs ++ [] ∧ B₁.cells = A₁.cells + 0 ∧ B₁.slots = A₁.slots + 0) :=
  (law l x t V cd n f y t' V' cd' k g z).pays htab hfr (by omega)
end SEq
end StrChars
namespace StrChars.Road
open Jvm Sem ClassFile Op Lib Jvm.Stand Jvm.Free Jvm.Free.XT
open Jvm.Lib.Cold (StaticIs)
/-- the words of String.equals(Object) -/
abbrev wordsEq : List Jvm.Cond := [.code SEq.yN SEq.yB 3 (some .boolean), .initialized ST, .classLink ST 10 ST, .fieldLink ST 38 ST "COMPACT_STRINGS" "Z", .fieldLink ST 15 ST "coder" "B", .fieldLink ST 9 ST "value" "[B", .methodLink ST 541 LEq.yN, .static LEq.yN, .code LEq.yN LEq.yB 3 (some .boolean), .initialized "java/lang/StringLatin1"]
theorem tabEq_of {a : Array Value} {s : State} (h : ∀ w ∈ wordsEq, w.before a s = true) : SEq.tab.before a s = true := by
  have hl : LEq.tab.before a s = true := unparts (wk h (.code LEq.yN LEq.yB 3 (some .boolean))) (wks h (.initialized LEq.yN.cls :: LEq.site))
  have q := consq hl h
  exact unparts (wk q (.code SEq.yN SEq.yB 3 (some .boolean))) (wks q (.initialized SEq.yN.cls :: SEq.site))
theorem movedEq {Z s : State} {a0 args : Array Value} (hZ : Z.Warmed39 s.vm) (hw : ∀ d ∈ wordsEq, d.before a0 Z = true) : ∀ d ∈ wordsEq, d.before args s = true := fun d hd => by
  have t : ∀ d ∈ wordsEq, (d.onTables && d.keepsFace) = true := by decide +kernel
  exact RoadKit.mv hZ (hw d hd) (t d hd)
/-- the road's facts of a String, as the laws ask it -/
theorem txt_of {Z U : State} {a0 : Array Value} {kI : Nat} (wi : (Jvm.Cond.instantiable ST kI).before a0 Z = true) (al : Z.vm.Alike U.vm) {x t : Addr} {kb : ClassId} {cs : List Int32} {cd N2 : Int32} {vs : List Value} (E : RoadKit.Exa Z U.heap x ST) (V : RoadKit.Fld Z U.heap x ST "value" "[B" (.ref t)) (C : RoadKit.Fld Z U.heap x ST "coder" "B" (.int cd)) (K : RoadKit.Arv Z U.heap t kb .byte N2 vs (.int 0)) (hc : CodA cs cd N2 vs) (hb : ∀ c ∈ cs, ¬ c < 0 ∧ ¬ (65535 : Int32) < c) (l2 : cs.length ≤ 4000) :
    ∃ A, Txt x t A cd cs.length (fun j => cs.getD j 0) U := by
  obtain ⟨A, K1, K2, K3, K4, K5, K6⟩ := K
  have hcod := hc.cod (by omega) K3 K5
  obtain ⟨D, fV, fC, hB, F1, F2, g1, g2, -, -⟩ := strObj wi al E V C
  exact ⟨A, ⟨_, hB.2.2.1, D, hB.1, rfl, by cases q : D.vm <;> first | rfl | exact absurd q (hB.2.1.2 _)⟩, Has.of hB F1 g1, Has.of hB F2 g2, ⟨K1.1, State.isArrayOf_alike al K1.2.1, K1.2.2, by rcases hcod with ⟨-, q, -⟩ | ⟨-, q, -⟩ <;> omega⟩, hcod, fun j hj => by
    have e : cs.getD j 0 = cs[j] := by simp [List.getD_eq_getElem?_getD, hj]
    show ¬ cs.getD j 0 < 0 ∧ ¬ 65535 < cs.getD j 0
    rw [e]; exact hb _ (List.getElem_mem _)⟩
theorem same_list (cs ds : List Int32) : SameT cs.length (fun j => cs.getD j 0) ds.length (fun j => ds.getD j 0) ↔ cs = ds := by
  constructor
  · rintro ⟨e, q⟩
    refine List.ext_getElem e fun j h1 h2 => ?_
    have := q j h1
    simpa [List.getD_eq_getElem?_getD, h1, h2] using this
  · rintro rfl
    exact ⟨rfl, fun _ _ => rfl⟩
/-- **equals(Object) OF TWO SUCH STRINGS**: 1 just where the chars are the same -/
theorem eqW {p : Program} {l : Launch} {e : Env} {R : Room} {s : State} {args : Array Value} {below : List Frame} {len W : Nat} {Z : State} {a0 : Array Value} {h : Heap} (hZ : Z.Warmed39 s.vm) (hw : ∀ d ∈ wordsEq, d.before a0 Z = true) {kI : Nat} (wi : (Jvm.Cond.instantiable ST kI).before a0 Z = true)
    {x t : Addr} {kb : ClassId} {cs : List Int32} {cd N2 : Int32} {vs : List Value} (E : RoadKit.Exa Z h x ST) (V : RoadKit.Fld Z h x ST "value" "[B" (.ref t)) (C : RoadKit.Fld Z h x ST "coder" "B" (.int cd)) (K : RoadKit.Arv Z h t kb .byte N2 vs (.int 0)) (hc : CodA cs cd N2 vs) (hb : ∀ c ∈ cs, ¬ c < 0 ∧ ¬ (65535 : Int32) < c) (l2 : cs.length ≤ 4000)
    {y t' : Addr} {kb' : ClassId} {ds : List Int32} {cd' N2' : Int32} {vs' : List Value} (E' : RoadKit.Exa Z h y ST) (V' : RoadKit.Fld Z h y ST "value" "[B" (.ref t')) (C' : RoadKit.Fld Z h y ST "coder" "B" (.int cd')) (K' : RoadKit.Arv Z h t' kb' .byte N2' vs' (.int 0)) (hc' : CodA ds cd' N2' vs') (hb' : ∀ c ∈ ds, ¬ c < 0 ∧ ¬ (65535 : Int32) < c) (l2' : ds.length ≤ 4000)
    {z : Int32} (S : RoadKit.Sta Z h ST "COMPACT_STRINGS" "Z" (.int z)) (hz : ¬ z = 0) (hfr : 2 ≤ R.frames) (hlo : W + 28 ≤ R.locals) :
    Back l R p e below s args (⟨"java/lang/String", "equals", "(Ljava/lang/Object;)Z"⟩ : MethodName) len W (fun P a => a = #[.ref x, .ref y] ∧ P.U.heap = h ∧ P.cells + 0 ≤ R.cells ∧ P.slots + 0 ≤ R.slots)
      (fun P _ v B => ∃ L, (((v = some (.int 1) ∧ cs = ds) ∨ (v = some (.int 0) ∧ ¬ cs = ds)) ∧ L = [] ∧ B.U.heap = h) ∧ B.locs = P.locs ++ L ∧ B.cells = P.cells + 0 ∧ B.slots = P.slots + 0) := by
  intro m meth c P g ig mk a X hg hsize hdg hW hn hp'
  obtain ⟨rfl, rfl, r1, r2⟩ := hp'
  have al : Z.vm.Alike P.U.vm := hZ.alike.trans X.warmed.alike
  obtain ⟨A, hx⟩ := txt_of wi al E V C K hc hb l2
  obtain ⟨A', hy⟩ := txt_of wi al E' V' C' K' hc' hb' l2'
  obtain ⟨v, B, X', ⟨⟨w, hv, hh, hq⟩, hl, hk, hs⟩, st⟩ := SEq.pays x t A cd cs.length (fun j => cs.getD j 0) y t' A' cd' ds.length (fun j => ds.getD j 0) z (tabEq_of (movedEq hZ hw)) hfr hlo m meth c P g ig mk _ X hg hsize hdg hW hn ⟨r1, r2, rfl, hx, hy, sta_is al S, hz⟩
  refine ⟨v, B, X', ⟨[], ⟨?_, rfl, hh⟩, hl, hk, hs⟩, st⟩
  rcases hq with ⟨rfl, q⟩ | ⟨rfl, q⟩
  · exact Or.inl ⟨hv, (same_list cs ds).mp q⟩
  · exact Or.inr ⟨hv, fun e => q ((same_list cs ds).mpr e)⟩
end StrChars.Road
namespace StrChars
open Jvm Sem ClassFile Op Lib Jvm.Stand Jvm.Free.XT Jvm.Free.ALB Jvm.Free.JM Jvm.Free
open Jvm.Lib.Cold (StaticIs)
namespace ChN
def yN : MethodName := ⟨"java/lang/String", "charAt", "(I)C"⟩
abbrev yB : ByteArray := jdk_42_method_56_code
theorem d0 : decode yB 0 = .ok (.aload_n 0, 1) := by decide +kernel
theorem d1 : decode yB 1 = .ok (.invokevirtual 492, 3) := by decide +kernel
theorem d4 : decode yB 4 = .ok (.ifCond (.eq) 12, 3) := by decide +kernel
theorem d7 : decode yB 7 = .ok (.aload_n 0, 1) := by decide +kernel
theorem d8 : decode yB 8 = .ok (.getfield 9, 3) := by decide +kernel
theorem d11 : decode yB 11 = .ok (.iload_n 1, 1) := by decide +kernel
theorem d12 : decode yB 12 = .ok (.invokestatic 495, 3) := by decide +kernel
theorem d15 : decode yB 15 = .ok (.ireturn, 1) := by decide +kernel
def site : List Cond := [.fieldLink "java/lang/String" 9 "java/lang/String" "value" "[B", IsL.tab, LChA.tab] ++ virtW "java/lang/String" 492 "java/lang/String" IsL.yN IsL.yN ++ staticW "java/lang/String" 495 LChA.yN
def tab : Cond := tabOf yN yB 2 (some .char) site
def P (x t : Addr) (V : Cell) (n : Nat) (f : Nat → Int32) (z : Int32) (fm : Value) (i : Nat) (args : Array Value) (s : State) : Prop := args = #[.ref x, .int (Int32.ofNat i)] ∧ Txt x t V 0 n f s ∧ i < n ∧ StaticIs s "java/lang/String" "COMPACT_STRINGS" "Z" (.int z) ∧ ¬ z = 0 ∧ StaticIs s "jdk/internal/util/Preconditions" "SIOOBE_FORMATTER" "Ljava/util/function/BiFunction;" fm ∧ fm.isRef = true
def E (f : Nat → Int32) (i : Nat) (r : Option Value) (s u : State) : Prop := XT.PureE (some (.int (f i))) r s u
/-- charAt(i) of a Latin-1 String of n chars, i < n: f i -/
theorem law (l : Launch) (x t : Addr) (V : Cell) (n : Nat) (f : Nat → Int32) (z : Int32) (fm : Value) (i : Nat) : Law l yN 2 1 3 40 yB 2 (some .char) site (P x t V n f z fm i) (E f i) [] 0 0 := by
  refine Law.of_walk (plainFor_of_name (by decide +kernel)) (by decide +kernel) (by decide +kernel) (by decide) (fun _ _ h => by rw [h.1]; rfl) (fun _ U U' hal hh h => ⟨h.1, h.2.1.mv hal hh, h.2.2.1, h.2.2.2.1.there hal hh, h.2.2.2.2.1, h.2.2.2.2.2.1.there hal hh, h.2.2.2.2.2.2⟩) (fun r U U' V V' h1 hal h2 h => XT.PureE.mv r U U' V V' h1 hal h2 h) ?_
  intro p e s m args below meth c s₁ X0 hexec hbytes hml hret hlk hnm hown hh0 W hP
  obtain ⟨rfl, hx, hi, s1, hz, s3, rf⟩ := hP
  have v31 := hx.2.2.2.1.2.2.2
  have hr := hx.2.2.2.2.2 i hi
  have hx0 := hx.mv X0.warmed.alike hh0
  have c1 : Steps p.tables e below (s₁.setTop (entryFrame m #[.ref x, .int (Int32.ofNat i)] 2)) (s₁.setTop (mkF m 1 #[.val (.ref x), .val (.int (Int32.ofNat i))] [.ref x])) := Steps.trans (entry rfl) (by
    show Steps p.tables e below (s₁.setTop (mkF m 0 #[.val (.ref x), .val (.int (Int32.ofNat i))] [])) _
    refine XS.aloadN X0.here hexec rfl (hb hbytes d0) rfl rfl ?_
    exact Steps.refl _)
  obtain ⟨v2, T2, X2, E2, g2⟩ := X0.callV hexec (IsL.law l x 0 z) hown (wks W (virtW "java/lang/String" 492 "java/lang/String" IsL.yN IsL.yN)) rfl (by decide) (wk W IsL.tab) (W := 0) (Nat.le_of_ble_eq_true rfl) (Nat.le_of_ble_eq_true rfl) (Nat.le_refl _) (Nat.le_refl _) (hx0.1.fc X0.warmed.alike) hx0.1.is (g := (mkF m 1 #[.val (.ref x), .val (.int (Int32.ofNat i))] [.ref x])) rfl (by rw [hml]; rfl) c1 (argsL := []) (rest := []) rfl rfl (by show 2 * 0 + 0 ≤ _; decide) (hb hbytes d1) (⟨rfl, hx0.2.2.1, hx.2.2.2.2.1.cd, s1.there X0.warmed.alike hh0, hz⟩)
  obtain ⟨rfl, q2⟩ := E2
  have hh2 := q2.trans hh0
  have hx2 := hx.mv X2.warmed.alike hh2
  obtain ⟨-, k1, k2⟩ | ⟨k0, -⟩ := hx.2.2.2.2.1
  · have c3 : Steps p.tables e below (s₁.setTop (entryFrame m #[.ref x, .int (Int32.ofNat i)] 2)) (T2.setTop (mkF m 8 #[.val (.ref x), .val (.int (Int32.ofNat i))] [.ref x])) := Steps.trans g2 (by
      refine XS.ifNo X2.here hexec rfl (hb hbytes d4) rfl (i0_eq_f (by decide)) ?_
      refine XS.aloadN X2.here hexec rfl (hb hbytes d7) rfl rfl ?_
      exact Steps.refl _)
    obtain ⟨T4, X4, q4, st4⟩ := X2.hget hexec hown (wk W (.fieldLink "java/lang/String" 9 "java/lang/String" "value" "[B")) hx2.2.1 (g := (mkF m 8 #[.val (.ref x), .val (.int (Int32.ofNat i))] [.ref x])) rfl (rest := []) rfl (hb hbytes d8)
    have hh4 := q4.trans hh2
    have c5 : Steps p.tables e below (s₁.setTop (entryFrame m #[.ref x, .int (Int32.ofNat i)] 2)) (T4.setTop (mkF m 12 #[.val (.ref x), .val (.int (Int32.ofNat i))] [.int (Int32.ofNat i), .ref t])) := (c3.trans (st4 _ (Steps.refl _))).trans (by
      refine XS.iloadN X4.here hexec rfl (hb hbytes d11) rfl ?_
      exact Steps.refl _)
    obtain ⟨v6, T6, X6, E6, g6⟩ := X4.callS hexec (LChA.law l t V i (lo8 (f i)) fm) hown (wks W (staticW "java/lang/String" 495 LChA.yN)) (wk W LChA.tab) (W := 0) (Nat.le_of_ble_eq_true rfl) (Nat.le_of_ble_eq_true rfl) (Nat.le_refl _) (Nat.le_refl _) (g := (mkF m 12 #[.val (.ref x), .val (.int (Int32.ofNat i))] [.int (Int32.ofNat i), .ref t])) rfl (by rw [hml]; rfl) c5 (argsL := [.ref t, .int (Int32.ofNat i)]) (rest := []) rfl rfl (by show 2 * 0 + 0 ≤ _; decide) (hb hbytes d12) (⟨rfl, hx.2.2.2.1.mv X4.warmed.alike hh4, (k2 i hi).1, s3.there X4.warmed.alike hh4, rf⟩)
    obtain ⟨rfl, q6⟩ := E6
    rw [chr8_lo8 hr.1 (k2 i hi).2] at g6
    exact ⟨T6, some (.int (f i)), _, _, _, X6, rfl, rfl, rfl, (fun h => by cases h), ⟨rfl, q6.trans hh4⟩, fun fs hl => Steps.trans g6 (X6.ireturnOut hexec hret (narrow_ch hr.1 hr.2) (Or.inr (Or.inr (Or.inr (Or.inl rfl)))) (hb hbytes d15) hl)⟩
  · exact absurd k0 (by decide)
theorem pays {l : Launch} {R : Room} {p : Program} {e : Env} {below : List Frame} {s : State} {sargs : Array Value} {len W : Nat} (x t : Addr) (V : Cell) (n : Nat) (f : Nat → Int32) (z : Int32) (fm : Value) (i : Nat) (htab : tab.before sargs s = true) (hfr : 4 ≤ R.frames) (hlo : W + 53 ≤ R.locals) :
    Back l R p e below s sargs yN len W (fun A₁ a₁ => A₁.cells + 0 ≤ R.cells ∧ A₁.slots + 0 ≤ R.slots ∧ P x t V n f z fm i a₁ A₁.U) (fun A₁ _ v₁ B₁ => E f i v₁ A₁.U B₁.U ∧ B₁.locs = A₁.locs ++ [] ∧ B₁.cells = A₁.cells + 0 ∧ B₁.slots = A₁.slots + 0) :=
  (law l x t V n f z fm i).pays htab hfr (by omega)
end ChN
end StrChars
namespace StrChars.Road
open Jvm Sem ClassFile Op Lib Jvm.Stand Jvm.Free Jvm.Free.XT
open Jvm.Lib.Cold (StaticIs)
/-- the words of String.charAt(int), the Latin-1 road alone -/
abbrev wordsChN : List Jvm.Cond := [.code ChN.yN ChN.yB 2 (some .char), .initialized ST, .fieldLink ST 9 ST "value" "[B", .fieldLink ST 38 ST "COMPACT_STRINGS" "Z", .fieldLink ST 15 ST "coder" "B", .code IsL.yN IsL.yB 1 (some .boolean), .methodLink ST 492 IsL.yN, .declares IsL.yN, .selects ST IsL.yN IsL.yN, .instanceMethod IsL.yN,
  .methodLink ST 495 LChA.yN, .static LChA.yN, .code LChA.yN LChA.yB 2 (some .char), .initialized "java/lang/StringLatin1", .methodLink "java/lang/StringLatin1" 9 JO.Str_checkIndex.yN, .static JO.Str_checkIndex.yN, .code JO.Str_checkIndex.yN JO.Str_checkIndex.yB 2 none,
  .fieldLink ST 1053 "jdk/internal/util/Preconditions" "SIOOBE_FORMATTER" "Ljava/util/function/BiFunction;", .methodLink ST 1059 JC.PreCheck.yN, .static JC.PreCheck.yN, .code JC.PreCheck.yN JC.PreCheck.yB 3 (some .int), .initialized "jdk/internal/util/Preconditions"]
theorem tabChN_of {a : Array Value} {s : State} (h : ∀ w ∈ wordsChN, w.before a s = true) : ChN.tab.before a s = true := by
  have hp : JC.PreCheck.tab.before a s = true := unparts (wk h (.code JC.PreCheck.yN JC.PreCheck.yB 3 (some .int))) (wks h (.initialized JC.PreCheck.yN.cls :: JC.PreCheck.site))
  have qk := consq hp h
  have hk : JO.Str_checkIndex.tab.before a s = true := unparts (wk qk (.code JO.Str_checkIndex.yN JO.Str_checkIndex.yB 2 none)) (wks qk (.initialized JO.Str_checkIndex.yN.cls :: JO.Str_checkIndex.site))
  have ql := consq hk h
  have hl : LChA.tab.before a s = true := unparts (wk ql (.code LChA.yN LChA.yB 2 (some .char))) (wks ql (.initialized LChA.yN.cls :: LChA.site))
  have hi : IsL.tab.before a s = true := unparts (wk h (.code IsL.yN IsL.yB 1 (some .boolean))) (wks h (.initialized IsL.yN.cls :: IsL.site))
  have q := consq hi (consq hl h)
  exact unparts (wk q (.code ChN.yN ChN.yB 2 (some .char))) (wks q (.initialized ChN.yN.cls :: ChN.site))
theorem movedChN {Z s : State} {a0 args : Array Value} (hZ : Z.Warmed39 s.vm) (hw : ∀ d ∈ wordsChN, d.before a0 Z = true) : ∀ d ∈ wordsChN, d.before args s = true := fun d hd => by
  have t : ∀ d ∈ wordsChN, (d.onTables && d.keepsFace) = true := by decide +kernel
  exact RoadKit.mv hZ (hw d hd) (t d hd)
/-- **charAt(i) OF A LATIN-1 STRING**, i < n: the char -/
theorem chN {p : Program} {l : Launch} {e : Env} {R : Room} {s : State} {args : Array Value} {below : List Frame} {len W : Nat} {Z : State} {a0 : Array Value} {h : Heap} (hZ : Z.Warmed39 s.vm) (hw : ∀ d ∈ wordsChN, d.before a0 Z = true) {kI : Nat} (wi : (Jvm.Cond.instantiable ST kI).before a0 Z = true)
    {x t : Addr} {kb : ClassId} {cs : List Int32} {N2 z : Int32} {vs : List Value} {fm : Value} {i : Nat} {j : Int32} (E : RoadKit.Exa Z h x ST) (V : RoadKit.Fld Z h x ST "value" "[B" (.ref t)) (C : RoadKit.Fld Z h x ST "coder" "B" (.int 0)) (K : RoadKit.Arv Z h t kb .byte N2 vs (.int 0)) (hc : CodA cs 0 N2 vs) (hb : ∀ c ∈ cs, ¬ c < 0 ∧ ¬ (65535 : Int32) < c)
    (S : RoadKit.Sta Z h ST "COMPACT_STRINGS" "Z" (.int z)) (hz : ¬ z = 0) (F : RoadKit.Sta Z h "jdk/internal/util/Preconditions" "SIOOBE_FORMATTER" "Ljava/util/function/BiFunction;" fm) (rf : fm.isRef = true) (l2 : cs.length ≤ 4000) (hi : i < cs.length) (hj : j = Int32.ofNat i) (hfr : 4 ≤ R.frames) (hlo : W + 53 ≤ R.locals) :
    Back l R p e below s args (⟨"java/lang/String", "charAt", "(I)C"⟩ : MethodName) len W (fun P a => a = #[.ref x, .int j] ∧ P.U.heap = h ∧ P.cells + 0 ≤ R.cells ∧ P.slots + 0 ≤ R.slots)
      (fun P _ v B => ∃ L, (v = some (.int (cs.getD i 0)) ∧ L = [] ∧ B.U.heap = h) ∧ B.locs = P.locs ++ L ∧ B.cells = P.cells + 0 ∧ B.slots = P.slots + 0) := by
  subst hj
  intro m meth c P g ig mk a X hg hsize hdg hW hn hp'
  obtain ⟨rfl, rfl, r1, r2⟩ := hp'
  have al : Z.vm.Alike P.U.vm := hZ.alike.trans X.warmed.alike
  obtain ⟨A, hx⟩ := txt_of wi al E V C K hc hb l2
  obtain ⟨v, B, X', ⟨⟨hv, hh⟩, hl, hk, hs⟩, st⟩ := ChN.pays x t A cs.length (fun j => cs.getD j 0) z fm i (tabChN_of (movedChN hZ hw)) hfr hlo m meth c P g ig mk _ X hg hsize hdg hW hn ⟨r1, r2, rfl, hx, hi, sta_is al S, hz, sta_is al F, rf⟩
  exact ⟨v, B, X', ⟨[], ⟨hv, rfl, hh⟩, hl, hk, hs⟩, st⟩
/-- what backV says of its String, as the contracts of this text ask it: cs's low bytes, coder 0 -/
theorem codOf {cs : List Int32} {n : Nat} (hn : cs.length = n) (hb : ∀ c ∈ cs, ¬ 255 < c) : CodA cs 0 (Int32.ofNat n) ((cs.map lo8).map Value.int) := Or.inl ⟨rfl, by rw [hn], by simp [List.map_map, Function.comp_def], hb⟩
end StrChars.Road
end Jvm.Pilot.@@N@@

namespace Jvm.Pilot.@@N@@
open Jvm Jvm.ClassFile Sem Op Lib Jvm.Free Jvm.Stand Jvm.LawKit Jvm.RoadKit Bundle Jvm.Pilot.@@N@@.Jvm.D

theorem own_xr (h : Heap) : Ext h h := ⟨Nat.le_refl _, fun _ _ q => q⟩
theorem own_xt {h h1 h2 : Heap} (A : Ext h h1) (B : Ext h1 h2) : Ext h h2 := ⟨Nat.le_trans A.1 B.1, fun a c q => B.2 a c (A.2 a c q)⟩
theorem own_xk {h h1 h2 : Heap} {ws : List Addr} (A : Ext h h1) (K : Keep h1 h2 ws) (q : ∀ x ∈ ws, h.size ≤ x) : Ext h h2 :=
  ⟨Nat.le_trans A.1 K.1, fun a c r => K.2.1 a c (A.2 a c r) fun z => absurd (Array.getElem?_eq_some_iff.mp r).1 (Nat.not_lt.mpr (q a z))⟩
theorem own_xw {h h1 h2 : Heap} {a : Addr} {sl : Nat} {v : Value} (A : Ext h h1) (W : Wr h1 h2 a sl v) (q : h.size ≤ a) : Ext h h2 := own_xk A (Keep.of_wr W) (allS q all0)
theorem own_k0 {h h' : Heap} (E : Ext h h') (ws : List Addr) : Keep h h' ws := (Keep.refl h ws).ext E

theorem own_c0 : ∀ c ∈ ([] : List Int32), ¬ c < 0 ∧ ¬ (255 : Int32) < c := fun _ h => nomatch h
theorem own_cS {d : Int32} {cs : List Int32} (h : ¬ d < 0 ∧ ¬ (255 : Int32) < d) (r : ∀ c ∈ cs, ¬ c < 0 ∧ ¬ (255 : Int32) < c) : ∀ c ∈ d :: cs, ¬ c < 0 ∧ ¬ (255 : Int32) < c := fun c hc => (List.mem_cons.mp hc).elim (fun e => e ▸ h) (r c)
theorem own_mask (x : Int32) : ∃ k : Fin 256, (x &&& (255 : Int32)) = Int32.ofNat k.val := by
  have h : (x &&& 255).toBitVec.toNat < 256 := by
    simp only [Int32.toBitVec_and, BitVec.toNat_and]
    exact Nat.lt_succ_of_le Nat.and_le_right
  refine ⟨⟨_, h⟩, ?_⟩
  apply Int32.toBitVec_inj.mp
  show _ = BitVec.ofNat 32 _
  rw [BitVec.ofNat_toNat]; simp
theorem own_c255 (x : Int32) : ¬ nar .char ((x &&& (255 : Int32)).toUInt32.toUInt16.toUInt32.toInt32) < 0 ∧ ¬ (255 : Int32) < nar .char ((x &&& (255 : Int32)).toUInt32.toUInt16.toUInt32.toInt32) := by
  have t : ∀ k : Fin 256, ¬ nar .char ((Int32.ofNat k.val).toUInt32.toUInt16.toUInt32.toInt32) < 0 ∧ ¬ (255 : Int32) < nar .char ((Int32.ofNat k.val).toUInt32.toUInt16.toUInt32.toInt32) := by decide +kernel
  obtain ⟨k, e⟩ := own_mask x
  rw [e]
  exact t k
theorem own_d255 (x : Int32) : ¬ ((x &&& (255 : Int32)).toUInt32.toUInt16.toUInt32.toInt32) < 0 ∧ ¬ (255 : Int32) < ((x &&& (255 : Int32)).toUInt32.toUInt16.toUInt32.toInt32) := by
  have t : ∀ k : Fin 256, ¬ ((Int32.ofNat k.val).toUInt32.toUInt16.toUInt32.toInt32) < 0 ∧ ¬ (255 : Int32) < ((Int32.ofNat k.val).toUInt32.toUInt16.toUInt32.toInt32) := by decide +kernel
  obtain ⟨k, e⟩ := own_mask x
  rw [e]
  exact t k

theorem own_fin {d : Int32} (h : ¬ d < 0 ∧ ¬ (255 : Int32) < d) : ∃ k : Fin 256, d = Int32.ofNat k.val := by
  have h1 : ¬ d.toInt < 0 := fun q => h.1 (Int32.lt_iff_toInt_lt.mpr q)
  have h2 : ¬ 255 < d.toInt := fun q => h.2 (Int32.lt_iff_toInt_lt.mpr q)
  refine ⟨⟨d.toInt.toNat, by omega⟩, ?_⟩
  apply Int32.toInt_inj.mp
  rw [Int32.toInt_ofNat_of_lt (by show d.toInt.toNat < 2147483648; omega)]
  show d.toInt = (d.toInt.toNat : Int)
  omega
theorem own_nar {d : Int32} (h : ¬ d < 0 ∧ ¬ (255 : Int32) < d) : nar .char d = d := by
  obtain ⟨k, rfl⟩ := own_fin h
  exact (by decide +kernel : ∀ k : Fin 256, nar .char (Int32.ofNat k.val) = Int32.ofNat k.val) k
theorem own_pos (x : Int32) (m : Nat) (hm : m < 2147483648) : ¬ (x &&& Int32.ofNat m).toInt < 0 := by
  have e : (x &&& Int32.ofNat m).toBitVec.toNat ≤ m := by
    simp only [Int32.toBitVec_and, BitVec.toNat_and]
    refine Nat.le_trans Nat.and_le_right ?_
    show (BitVec.ofNat 32 m).toNat ≤ m
    rw [BitVec.toNat_ofNat]
    exact Nat.mod_le _ _
  have e2 : (x &&& Int32.ofNat m).toInt = ((x &&& Int32.ofNat m).toBitVec.toNat : Int) := by
    show (x &&& Int32.ofNat m).toBitVec.toInt = _
    rw [BitVec.toInt_eq_toNat_of_lt (by omega)]
  omega
theorem own_rem {x m : Int32} {k : Int} (h : ¬ x.toInt < 0) (hm : m.toInt = k) : (x % m).toInt = x.toInt % k := by
  rw [Int32.toInt_mod, hm]
  exact Int.tmod_eq_emod_of_nonneg (by omega)

/-- a Latin-1 String of known chars -/
def own_Str (Z : State) (h : Heap) (x : Addr) (cs : List Int32) : Prop := Exa Z h x "java/lang/String" ∧ (∀ c ∈ cs, ¬ c < 0 ∧ ¬ (255 : Int32) < c) ∧ ∃ (t : Addr) (kb : ClassId), Fld Z h x "java/lang/String" "value" "[B" (.ref t) ∧ Fld Z h x "java/lang/String" "coder" "B" (.int 0) ∧ Arv Z h t kb .byte (Int32.ofNat cs.length) ((cs.map (fun c => c.toInt8.toInt32)).map Value.int) (.int 0)
theorem own_Str.ext {Z : State} {h h' : Heap} {x : Addr} {cs : List Int32} (S : own_Str Z h x cs) (E : Ext h h') : own_Str Z h' x cs := by
  obtain ⟨a, b, t, kb, c, d, e⟩ := S
  exact ⟨a.ext E, b, t, kb, c.ext E, d.ext E, e.ext E⟩
theorem own_up (cs : List Int32) (h : ∀ c ∈ cs, ¬ c < 0 ∧ ¬ (255 : Int32) < c) : ∀ c ∈ cs, ¬ c < 0 ∧ ¬ (65535 : Int32) < c := fun c hc => ⟨(h c hc).1, fun q => (h c hc).2 (by rw [Int32.lt_iff_toInt_lt] at q ⊢; have e1 : (65535 : Int32).toInt = 65535 := rfl; have e2 : (255 : Int32).toInt = 255 := rfl; omega)⟩

theorem own_len {s : State} {args : Array Value} {t : Term} {a : Addr} {z : Int32} {c : Cell} (ev : t.eval args s none [] s = some (.ref a)) (h2 : (Cond.eq (.length t) (.int z)).value args s none s [] = some true) (hc : s.heap[a]? = some c) : c.slots.size < 2 ^ 31 ∧ c.slots.size.toInt32 = z := by
  obtain ⟨x, y, ex, ey, k1, k2⟩ := cmp_v (Or.inl h2)
  cases Option.some.inj ey
  obtain ⟨w, rfl⟩ := k2
  have e := gotT (Cond.eq_ints ex (Term.int_eval z)) h2
  obtain ⟨a', c', q1, q2, q4⟩ := Term.length_spec ex
  cases ev.symm.trans q1
  have q5 := (State.arrayAt?_spec q2).1
  cases hc.symm.trans q5
  refine ⟨?_, by rw [← e]; exact (Value.int.inj q4).symm⟩
  by_cases hn : c.slots.size < 2147483648
  · exact hn
  · simp [Term.eval, ev, q2, hn] at ex
theorem own_elI {s : State} {args : Array Value} {t : Term} {a : Addr} {j v : Int32} {c : Cell} (ev : t.eval args s none [] s = some (.ref a)) (h : (Cond.eq (.elem t (.int j)) (.int v)).value args s none s [] = some true) (hc : s.heap[a]? = some c) : c.slots[j.toNatClampNeg]? = some (.int v) := by
  obtain ⟨x, y, ex, ey, k1, k2⟩ := cmp_v (Or.inl h)
  cases Option.some.inj ey
  obtain ⟨w, rfl⟩ := k2
  have e := gotT (Cond.eq_ints ex (Term.int_eval v)) h
  subst e
  exact (elem_in ex ev (Term.int_eval j) hc).2
theorem own_elR {s : State} {args : Array Value} {t u : Term} {a b : Addr} {j : Int32} {c : Cell} (ev : t.eval args s none [] s = some (.ref a)) (eu : u.eval args s none [] s = some (.ref b)) (h : (Cond.eq (.elem t (.int j)) u).value args s none s [] = some true) (hc : s.heap[a]? = some c) : c.slots[j.toNatClampNeg]? = some (.ref b) := by
  obtain ⟨x, y, ex, ey, k1, k2⟩ := cmp_v (Or.inl h)
  cases eu.symm.trans ey
  have e := gotT (eq_R ex eu k2.2 rfl) h
  subst e
  exact (elem_in ex ev (Term.int_eval j) hc).2
theorem own_arr {s : State} {args : Array Value} {t : Term} {a : Addr} {ty : FieldType} {z : Int32} {vs : List Value} {dv : Value} (hf : Fit s) (ev : t.eval args s none [] s = some (.ref a)) (h1 : (Cond.arrayOf t ty).value args s none s [] = some true) (h2 : (Cond.eq (.length t) (.int z)).value args s none s [] = some true) (hz : ¬ z < 0) (hl : z.toNatClampNeg = vs.length)
    (H : ∀ c : Cell, s.heap[a]? = some c → HasL c 0 vs) : ∃ k, Arv s s.heap a k ty z vs dv := by
  obtain ⟨c, A⟩ := Arr.start ev h1
  obtain ⟨q1, q2⟩ := own_len ev h2 A.1
  exact ⟨_, Arv.start hf A q1 q2 hz hl (H c A.1)⟩
theorem own_strS {s : State} {args : Array Value} {t : Term} {x : Addr} (cs : List Int32) {z : Int32} (hf : Fit s) (ev : t.eval args s none [] s = some (.ref x)) (h1 : (Cond.exactly t "java/lang/String").value args s none s [] = some true) (h2 : (Cond.eq (.field t "java/lang/String" "coder" "B") (.int 0)).value args s none s [] = some true)
    (h3 : (Cond.arrayOf (.field t "java/lang/String" "value" "[B") .byte).value args s none s [] = some true) (h4 : (Cond.eq (.length (.field t "java/lang/String" "value" "[B")) (.int z)).value args s none s [] = some true) (hz : ¬ z < 0) (hl : z.toNatClampNeg = cs.length) (hn : z = Int32.ofNat cs.length) (hc : ∀ c ∈ cs, ¬ c < 0 ∧ ¬ (255 : Int32) < c)
    (H : ∀ (b : Addr) (c : Cell), (Term.field t "java/lang/String" "value" "[B").eval args s none [] s = some (.ref b) → s.heap[b]? = some c → HasL c 0 ((cs.map (fun c => c.toInt8.toInt32)).map Value.int)) : own_Str s s.heap x cs := by
  obtain ⟨b, eb⟩ := arr_v h3
  obtain ⟨k, A⟩ := own_arr (dv := .int 0) (vs := (cs.map (fun c => c.toInt8.toInt32)).map Value.int) hf eb h3 h4 hz (by simpa using hl) (fun c q => H b c eb q)
  obtain ⟨u, y, ex, ey, k1, k2⟩ := cmp_v (Or.inl h2)
  cases Option.some.inj ey
  obtain ⟨w, rfl⟩ := k2
  have e := gotT (Cond.eq_ints ex (Term.int_eval 0)) h2
  subst e
  subst hn
  exact ⟨Exa.start ev h1, hc, b, k, Fld.start ((fld_at ev).symm.trans eb), Fld.start ((fld_at ev).symm.trans ex), A⟩

theorem own_eq {p : Program} {l : Launch} {e : Env} {R : Room} {s : State} {args : Array Value} {below : List Frame} {len W : Nat} {Z : State} {a0 : Array Value} {h : Heap} (hZ : Z.Warmed39 s.vm) (hw : ∀ d ∈ StrChars.Road.wordsEq, d.before a0 Z = true) (wi : (Jvm.Cond.instantiable "java/lang/String" 4).before a0 Z = true)
    {x y : Addr} {cs ds : List Int32} (S : own_Str Z h x cs) (l2 : cs.length ≤ 4000) (S' : own_Str Z h y ds) (l2' : ds.length ≤ 4000) {z : Int32} (C : Sta Z h "java/lang/String" "COMPACT_STRINGS" "Z" (.int z)) (hz : ¬ z = 0) (hfr : 2 ≤ R.frames) (hlo : W + 28 ≤ R.locals) :
    Back l R p e below s args (⟨"java/lang/String", "equals", "(Ljava/lang/Object;)Z"⟩ : MethodName) len W (fun P a => a = #[.ref x, .ref y] ∧ P.U.heap = h ∧ P.cells + 0 ≤ R.cells ∧ P.slots + 0 ≤ R.slots)
      (fun P _ v B => ∃ L, (((v = some (.int 1) ∧ cs = ds) ∨ (v = some (.int 0) ∧ ¬ cs = ds)) ∧ L = [] ∧ B.U.heap = h) ∧ B.locs = P.locs ++ L ∧ B.cells = P.cells + 0 ∧ B.slots = P.slots + 0) := by
  obtain ⟨e1, c1, t, kb, v1, d1, a1⟩ := S
  obtain ⟨e2, c2, t', kb', v2, d2, a2⟩ := S'
  exact StrChars.Road.eqW hZ hw (kI := 4) wi e1 v1 d1 a1 (StrChars.Road.codOf rfl fun c hc => (c1 c hc).2) (own_up _ c1) l2 e2 v2 d2 a2 (StrChars.Road.codOf rfl fun c hc => (c2 c hc).2) (own_up _ c2) l2' C hz hfr hlo

theorem own_lenP {p : Program} {l : Launch} {e : Env} {R : Room} {s : State} {args : Array Value} {below : List Frame} {len W : Nat} {Z : State} {a0 : Array Value} {h : Heap} (hZ : Z.Warmed39 s.vm) (hw : ∀ d ∈ StrChars.Road.wordsLen, d.before a0 Z = true) (wi : (Jvm.Cond.instantiable "java/lang/String" 4).before a0 Z = true)
    {x : Addr} {cs : List Int32} (S : own_Str Z h x cs) (l2 : cs.length ≤ 4000) {z : Int32} (C : Sta Z h "java/lang/String" "COMPACT_STRINGS" "Z" (.int z)) (hz : ¬ z = 0) (hfr : 2 ≤ R.frames) (hlo : W + 25 ≤ R.locals) :
    Back l R p e below s args (⟨"java/lang/String", "length", "()I"⟩ : MethodName) len W (fun P a => a = #[.ref x] ∧ P.U.heap = h ∧ P.cells + 0 ≤ R.cells ∧ P.slots + 0 ≤ R.slots)
      (fun P _ v B => ∃ L, (v = some (.int (Int32.ofNat cs.length)) ∧ L = [] ∧ B.U.heap = h) ∧ B.locs = P.locs ++ L ∧ B.cells = P.cells + 0 ∧ B.slots = P.slots + 0) := by
  obtain ⟨e1, c1, t, kb, v1, d1, a1⟩ := S
  exact StrChars.Road.lenW hZ hw (kI := 4) wi e1 v1 d1 a1 (StrChars.Road.codOf rfl fun c hc => (c1 c hc).2) (own_up _ c1) C hz l2 hfr hlo

theorem own_chP {p : Program} {l : Launch} {e : Env} {R : Room} {s : State} {args : Array Value} {below : List Frame} {len W : Nat} {Z : State} {a0 : Array Value} {h : Heap} (hZ : Z.Warmed39 s.vm) (hw : ∀ d ∈ StrChars.Road.wordsChN, d.before a0 Z = true) (wi : (Jvm.Cond.instantiable "java/lang/String" 4).before a0 Z = true)
    {x : Addr} {cs : List Int32} {i : Nat} {j : Int32} {fm : Value} (S : own_Str Z h x cs) (l2 : cs.length ≤ 4000) {z : Int32} (C : Sta Z h "java/lang/String" "COMPACT_STRINGS" "Z" (.int z)) (hz : ¬ z = 0) (F : Sta Z h "jdk/internal/util/Preconditions" "SIOOBE_FORMATTER" "Ljava/util/function/BiFunction;" fm) (rf : fm.isRef = true) (hi : i < cs.length) (hj : j = Int32.ofNat i) (hfr : 4 ≤ R.frames) (hlo : W + 53 ≤ R.locals) :
    Back l R p e below s args (⟨"java/lang/String", "charAt", "(I)C"⟩ : MethodName) len W (fun P a => a = #[.ref x, .int j] ∧ P.U.heap = h ∧ P.cells + 0 ≤ R.cells ∧ P.slots + 0 ≤ R.slots)
      (fun P _ v B => ∃ L, (v = some (.int (cs.getD i 0)) ∧ L = [] ∧ B.U.heap = h) ∧ B.locs = P.locs ++ L ∧ B.cells = P.cells + 0 ∧ B.slots = P.slots + 0) := by
  obtain ⟨e1, c1, t, kb, v1, d1, a1⟩ := S
  exact StrChars.Road.chN hZ hw (kI := 4) wi e1 v1 d1 a1 (StrChars.Road.codOf rfl fun c hc => (c1 c hc).2) (own_up _ c1) C hz F rf l2 hi hj hfr hlo

theorem own_rew {s t : State} {o : Outcome} {L : List Loc} {k n k' n' : Nat} (h : ReturnedEndW s o t L k n) (hk : k ≤ k') (hn : n ≤ n') : ReturnedEndW s o t L k' n' := ⟨h.1, h.2.1, h.2.2.1, h.2.2.2.mono hk hn⟩
theorem own_sa {a0 : Array Value} {Z : State} (hw : ∀ d ∈ tables_1, d.before a0 Z = true) : ∀ d ∈ Bundle.stringAtoms, d.before a0 Z = true := fun d hd => hw d ((by decide +kernel : ∀ d ∈ Bundle.stringAtoms, d ∈ tables_1) d hd)

def own_EL : List (String × Nat) := [("com/example/spatial_at_rest/spatialatrest/InterpolationNamedPinLaw", 8), ("com/example/spatial_at_rest/spatialatrest/InterpolationNamedPinLaw", 10), ("com/example/spatial_at_rest/spatialatrest/InterpolationNamedPinLaw", 12)]
theorem own_ew {a0 : Array Value} {Z : State} (hw : ∀ d ∈ tables_1, d.before a0 Z = true) : EW Z a0 own_EL := (EW.cons (text := "Discrete") (hw _ (List.mem_of_getElem? (i := 1) rfl)) (by decide) (EW.cons (text := "Step") (hw _ (List.mem_of_getElem? (i := 82) rfl)) (by decide) (EW.cons (text := "Linear") (hw _ (List.mem_of_getElem? (i := 83) rfl)) (by decide) EW.nil)))
theorem own_ws {a0 : Array Value} {Z : State} (hw : ∀ d ∈ tables_1, d.before a0 Z = true) : ∀ d ∈ StrChars.Road.words, d.before a0 Z = true := fun d hd => hw d ((by decide +kernel : ∀ d ∈ StrChars.Road.words, d ∈ tables_1) d hd)
theorem own_wq {a0 : Array Value} {Z : State} (hw : ∀ d ∈ tables_1, d.before a0 Z = true) : ∀ d ∈ StrChars.Road.wordsEq, d.before a0 Z = true := fun d hd => hw d ((by decide +kernel : ∀ d ∈ StrChars.Road.wordsEq, d ∈ tables_1) d hd)
theorem own_wl {a0 : Array Value} {Z : State} (hw : ∀ d ∈ tables_1, d.before a0 Z = true) : ∀ d ∈ StrChars.Road.wordsLen, d.before a0 Z = true := fun d hd => hw d ((by decide +kernel : ∀ d ∈ StrChars.Road.wordsLen, d ∈ tables_1) d hd)
theorem own_wc {a0 : Array Value} {Z : State} (hw : ∀ d ∈ tables_1, d.before a0 Z = true) : ∀ d ∈ StrChars.Road.wordsChN, d.before a0 Z = true := fun d hd => hw d ((by decide +kernel : ∀ d ∈ StrChars.Road.wordsChN, d ∈ tables_1) d hd)
theorem own_pd0 : parseMethodDescriptor "()[Lcom/example/spatial_at_rest/spatialatrest/Interpolation;" = some ⟨[], some (.array (.object "com/example/spatial_at_rest/spatialatrest/Interpolation"))⟩ := by decide +kernel
theorem own_pd1 : parseMethodDescriptor "(Ljava/lang/Object;)Z" = some ⟨[(.object "java/lang/Object")], some .boolean⟩ := by decide +kernel
theorem own_pd2 : parseMethodDescriptor "()I" = some ⟨[], some .int⟩ := by decide +kernel
theorem own_pd3 : parseMethodDescriptor "(I)C" = some ⟨[.int], some .char⟩ := by decide +kernel
theorem own_pd4 : parseMethodDescriptor "(Ljava/lang/String;IIC)C" = some ⟨[(.object "java/lang/String"), .int, .int, .char], some .char⟩ := by decide +kernel
theorem own_pd5 : parseMethodDescriptor "([C)V" = some ⟨[(.array .char)], none⟩ := by decide +kernel
theorem own_pd6 : parseMethodDescriptor "(Ljava/lang/String;IIC)Ljava/lang/String;" = some ⟨[(.object "java/lang/String"), .int, .int, .char], some (.object "java/lang/String")⟩ := by decide +kernel
theorem own_pd7 : parseMethodDescriptor "(Ljava/lang/String;)Lcom/example/spatial_at_rest/spatialatrest/Interpolation;" = some ⟨[(.object "java/lang/String")], some (.object "com/example/spatial_at_rest/spatialatrest/Interpolation")⟩ := by decide +kernel
theorem own_prog_4_m1_d0 : decode prog_4_method_1_code 0 = .ok (.getstatic 13, 3) := by decide +kernel
theorem own_prog_4_m1_d3 : decode prog_4_method_1_code 3 = .ok (.invokevirtual 17, 3) := by decide +kernel
theorem own_prog_4_m1_d6 : decode prog_4_method_1_code 6 = .ok (.checkcast 18, 3) := by decide +kernel
theorem own_prog_4_m1_d9 : decode prog_4_method_1_code 9 = .ok (.areturn, 1) := by decide +kernel
theorem own_prog_4_m5_d0 : decode prog_4_method_5_code 0 = .ok (.aconst_null, 1) := by decide +kernel
theorem own_prog_4_m5_d1 : decode prog_4_method_5_code 1 = .ok (.astore_n 1, 1) := by decide +kernel
theorem own_prog_4_m5_d2 : decode prog_4_method_5_code 2 = .ok (.invokestatic 36, 3) := by decide +kernel
theorem own_prog_4_m5_d5 : decode prog_4_method_5_code 5 = .ok (.astore_n 2, 1) := by decide +kernel
theorem own_prog_4_m5_d6 : decode prog_4_method_5_code 6 = .ok (.aload_n 2, 1) := by decide +kernel
theorem own_prog_4_m5_d7 : decode prog_4_method_5_code 7 = .ok (.arraylength, 1) := by decide +kernel
theorem own_prog_4_m5_d8 : decode prog_4_method_5_code 8 = .ok (.istore_n 3, 1) := by decide +kernel
theorem own_prog_4_m5_d9 : decode prog_4_method_5_code 9 = .ok (.iconst 0, 1) := by decide +kernel
theorem own_prog_4_m5_d10 : decode prog_4_method_5_code 10 = .ok (.istore 4, 2) := by decide +kernel
theorem own_prog_4_m5_d12 : decode prog_4_method_5_code 12 = .ok (.iload 4, 2) := by decide +kernel
theorem own_prog_4_m5_d14 : decode prog_4_method_5_code 14 = .ok (.iload_n 3, 1) := by decide +kernel
theorem own_prog_4_m5_d15 : decode prog_4_method_5_code 15 = .ok (.if_icmp .ge 33, 3) := by decide +kernel
theorem own_prog_4_m5_d18 : decode prog_4_method_5_code 18 = .ok (.aload_n 2, 1) := by decide +kernel
theorem own_prog_4_m5_d19 : decode prog_4_method_5_code 19 = .ok (.iload 4, 2) := by decide +kernel
theorem own_prog_4_m5_d21 : decode prog_4_method_5_code 21 = .ok (.aaload, 1) := by decide +kernel
theorem own_prog_4_m5_d22 : decode prog_4_method_5_code 22 = .ok (.astore 5, 2) := by decide +kernel
theorem own_prog_4_m5_d24 : decode prog_4_method_5_code 24 = .ok (.aload 5, 2) := by decide +kernel
theorem own_prog_4_m5_d26 : decode prog_4_method_5_code 26 = .ok (.getfield 32, 3) := by decide +kernel
theorem own_prog_4_m5_d29 : decode prog_4_method_5_code 29 = .ok (.aload_n 0, 1) := by decide +kernel
theorem own_prog_4_m5_d30 : decode prog_4_method_5_code 30 = .ok (.invokevirtual 40, 3) := by decide +kernel
theorem own_prog_4_m5_d33 : decode prog_4_method_5_code 33 = .ok (.ifCond .eq 9, 3) := by decide +kernel
theorem own_prog_4_m5_d36 : decode prog_4_method_5_code 36 = .ok (.aload 5, 2) := by decide +kernel
theorem own_prog_4_m5_d38 : decode prog_4_method_5_code 38 = .ok (.astore_n 1, 1) := by decide +kernel
theorem own_prog_4_m5_d39 : decode prog_4_method_5_code 39 = .ok (.goto 9, 3) := by decide +kernel
theorem own_prog_4_m5_d42 : decode prog_4_method_5_code 42 = .ok (.iinc 4 1, 3) := by decide +kernel
theorem own_prog_4_m5_d45 : decode prog_4_method_5_code 45 = .ok (.goto (-33), 3) := by decide +kernel
theorem own_prog_4_m5_d48 : decode prog_4_method_5_code 48 = .ok (.aload_n 1, 1) := by decide +kernel
theorem own_prog_4_m5_d49 : decode prog_4_method_5_code 49 = .ok (.areturn, 1) := by decide +kernel
theorem own_method_3_d0 : decode method_3_code 0 = .ok (.iload_n 1, 1) := by decide +kernel
theorem own_method_3_d1 : decode method_3_code 1 = .ok (.iload_n 2, 1) := by decide +kernel
theorem own_method_3_d2 : decode method_3_code 2 = .ok (.if_icmp .ne 5, 3) := by decide +kernel
theorem own_method_3_d5 : decode method_3_code 5 = .ok (.iload_n 3, 1) := by decide +kernel
theorem own_method_3_d6 : decode method_3_code 6 = .ok (.ireturn, 1) := by decide +kernel
theorem own_method_3_d7 : decode method_3_code 7 = .ok (.iload_n 1, 1) := by decide +kernel
theorem own_method_3_d8 : decode method_3_code 8 = .ok (.aload_n 0, 1) := by decide +kernel
theorem own_method_3_d9 : decode method_3_code 9 = .ok (.invokevirtual 14, 3) := by decide +kernel
theorem own_method_3_d12 : decode method_3_code 12 = .ok (.if_icmp .ge 9, 3) := by decide +kernel
theorem own_method_3_d15 : decode method_3_code 15 = .ok (.aload_n 0, 1) := by decide +kernel
theorem own_method_3_d16 : decode method_3_code 16 = .ok (.iload_n 1, 1) := by decide +kernel
theorem own_method_3_d17 : decode method_3_code 17 = .ok (.invokevirtual 46, 3) := by decide +kernel
theorem own_method_3_d20 : decode method_3_code 20 = .ok (.ireturn, 1) := by decide +kernel
theorem own_method_3_d21 : decode method_3_code 21 = .ok (.iload_n 3, 1) := by decide +kernel
theorem own_method_3_d22 : decode method_3_code 22 = .ok (.ireturn, 1) := by decide +kernel
theorem own_method_4_d0 : decode method_4_code 0 = .ok (.aload_n 0, 1) := by decide +kernel
theorem own_method_4_d1 : decode method_4_code 1 = .ok (.iconst 0, 1) := by decide +kernel
theorem own_method_4_d2 : decode method_4_code 2 = .ok (.iload_n 2, 1) := by decide +kernel
theorem own_method_4_d3 : decode method_4_code 3 = .ok (.iload_n 3, 1) := by decide +kernel
theorem own_method_4_d4 : decode method_4_code 4 = .ok (.invokestatic 50, 3) := by decide +kernel
theorem own_method_4_d7 : decode method_4_code 7 = .ok (.istore 4, 2) := by decide +kernel
theorem own_method_4_d9 : decode method_4_code 9 = .ok (.aload_n 0, 1) := by decide +kernel
theorem own_method_4_d10 : decode method_4_code 10 = .ok (.iconst 1, 1) := by decide +kernel
theorem own_method_4_d11 : decode method_4_code 11 = .ok (.iload_n 2, 1) := by decide +kernel
theorem own_method_4_d12 : decode method_4_code 12 = .ok (.iload_n 3, 1) := by decide +kernel
theorem own_method_4_d13 : decode method_4_code 13 = .ok (.invokestatic 50, 3) := by decide +kernel
theorem own_method_4_d16 : decode method_4_code 16 = .ok (.istore 5, 2) := by decide +kernel
theorem own_method_4_d18 : decode method_4_code 18 = .ok (.aload_n 0, 1) := by decide +kernel
theorem own_method_4_d19 : decode method_4_code 19 = .ok (.iconst 2, 1) := by decide +kernel
theorem own_method_4_d20 : decode method_4_code 20 = .ok (.iload_n 2, 1) := by decide +kernel
theorem own_method_4_d21 : decode method_4_code 21 = .ok (.iload_n 3, 1) := by decide +kernel
theorem own_method_4_d22 : decode method_4_code 22 = .ok (.invokestatic 50, 3) := by decide +kernel
theorem own_method_4_d25 : decode method_4_code 25 = .ok (.istore 6, 2) := by decide +kernel
theorem own_method_4_d27 : decode method_4_code 27 = .ok (.aload_n 0, 1) := by decide +kernel
theorem own_method_4_d28 : decode method_4_code 28 = .ok (.iconst 3, 1) := by decide +kernel
theorem own_method_4_d29 : decode method_4_code 29 = .ok (.iload_n 2, 1) := by decide +kernel
theorem own_method_4_d30 : decode method_4_code 30 = .ok (.iload_n 3, 1) := by decide +kernel
theorem own_method_4_d31 : decode method_4_code 31 = .ok (.invokestatic 50, 3) := by decide +kernel
theorem own_method_4_d34 : decode method_4_code 34 = .ok (.istore 7, 2) := by decide +kernel
theorem own_method_4_d36 : decode method_4_code 36 = .ok (.aload_n 0, 1) := by decide +kernel
theorem own_method_4_d37 : decode method_4_code 37 = .ok (.iconst 4, 1) := by decide +kernel
theorem own_method_4_d38 : decode method_4_code 38 = .ok (.iload_n 2, 1) := by decide +kernel
theorem own_method_4_d39 : decode method_4_code 39 = .ok (.iload_n 3, 1) := by decide +kernel
theorem own_method_4_d40 : decode method_4_code 40 = .ok (.invokestatic 50, 3) := by decide +kernel
theorem own_method_4_d43 : decode method_4_code 43 = .ok (.istore 8, 2) := by decide +kernel
theorem own_method_4_d45 : decode method_4_code 45 = .ok (.aload_n 0, 1) := by decide +kernel
theorem own_method_4_d46 : decode method_4_code 46 = .ok (.iconst 5, 1) := by decide +kernel
theorem own_method_4_d47 : decode method_4_code 47 = .ok (.iload_n 2, 1) := by decide +kernel
theorem own_method_4_d48 : decode method_4_code 48 = .ok (.iload_n 3, 1) := by decide +kernel
theorem own_method_4_d49 : decode method_4_code 49 = .ok (.invokestatic 50, 3) := by decide +kernel
theorem own_method_4_d52 : decode method_4_code 52 = .ok (.istore 9, 2) := by decide +kernel
theorem own_method_4_d54 : decode method_4_code 54 = .ok (.aload_n 0, 1) := by decide +kernel
theorem own_method_4_d55 : decode method_4_code 55 = .ok (.bipush 6, 2) := by decide +kernel
theorem own_method_4_d57 : decode method_4_code 57 = .ok (.iload_n 2, 1) := by decide +kernel
theorem own_method_4_d58 : decode method_4_code 58 = .ok (.iload_n 3, 1) := by decide +kernel
theorem own_method_4_d59 : decode method_4_code 59 = .ok (.invokestatic 50, 3) := by decide +kernel
theorem own_method_4_d62 : decode method_4_code 62 = .ok (.istore 10, 2) := by decide +kernel
theorem own_method_4_d64 : decode method_4_code 64 = .ok (.aload_n 0, 1) := by decide +kernel
theorem own_method_4_d65 : decode method_4_code 65 = .ok (.bipush 7, 2) := by decide +kernel
theorem own_method_4_d67 : decode method_4_code 67 = .ok (.iload_n 2, 1) := by decide +kernel
theorem own_method_4_d68 : decode method_4_code 68 = .ok (.iload_n 3, 1) := by decide +kernel
theorem own_method_4_d69 : decode method_4_code 69 = .ok (.invokestatic 50, 3) := by decide +kernel
theorem own_method_4_d72 : decode method_4_code 72 = .ok (.istore 11, 2) := by decide +kernel
theorem own_method_4_d74 : decode method_4_code 74 = .ok (.aload_n 0, 1) := by decide +kernel
theorem own_method_4_d75 : decode method_4_code 75 = .ok (.bipush 8, 2) := by decide +kernel
theorem own_method_4_d77 : decode method_4_code 77 = .ok (.iload_n 2, 1) := by decide +kernel
theorem own_method_4_d78 : decode method_4_code 78 = .ok (.iload_n 3, 1) := by decide +kernel
theorem own_method_4_d79 : decode method_4_code 79 = .ok (.invokestatic 50, 3) := by decide +kernel
theorem own_method_4_d82 : decode method_4_code 82 = .ok (.istore 12, 2) := by decide +kernel
theorem own_method_4_d84 : decode method_4_code 84 = .ok (.iload_n 1, 1) := by decide +kernel
theorem own_method_4_d85 : decode method_4_code 85 = .ok (.iconst 3, 1) := by decide +kernel
theorem own_method_4_d86 : decode method_4_code 86 = .ok (.if_icmp .ne 29, 3) := by decide +kernel
theorem own_method_4_d89 : decode method_4_code 89 = .ok (.new 15, 3) := by decide +kernel
theorem own_method_4_d92 : decode method_4_code 92 = .ok (.dup, 1) := by decide +kernel
theorem own_method_4_d93 : decode method_4_code 93 = .ok (.iconst 3, 1) := by decide +kernel
theorem own_method_4_d94 : decode method_4_code 94 = .ok (.newarray .char, 2) := by decide +kernel
theorem own_method_4_d96 : decode method_4_code 96 = .ok (.dup, 1) := by decide +kernel
theorem own_method_4_d97 : decode method_4_code 97 = .ok (.iconst 0, 1) := by decide +kernel
theorem own_method_4_d98 : decode method_4_code 98 = .ok (.iload 4, 2) := by decide +kernel
theorem own_method_4_d100 : decode method_4_code 100 = .ok (.castore, 1) := by decide +kernel
theorem own_method_4_d101 : decode method_4_code 101 = .ok (.dup, 1) := by decide +kernel
theorem own_method_4_d102 : decode method_4_code 102 = .ok (.iconst 1, 1) := by decide +kernel
theorem own_method_4_d103 : decode method_4_code 103 = .ok (.iload 5, 2) := by decide +kernel
theorem own_method_4_d105 : decode method_4_code 105 = .ok (.castore, 1) := by decide +kernel
theorem own_method_4_d106 : decode method_4_code 106 = .ok (.dup, 1) := by decide +kernel
theorem own_method_4_d107 : decode method_4_code 107 = .ok (.iconst 2, 1) := by decide +kernel
theorem own_method_4_d108 : decode method_4_code 108 = .ok (.iload 6, 2) := by decide +kernel
theorem own_method_4_d110 : decode method_4_code 110 = .ok (.castore, 1) := by decide +kernel
theorem own_method_4_d111 : decode method_4_code 111 = .ok (.invokespecial 54, 3) := by decide +kernel
theorem own_method_4_d114 : decode method_4_code 114 = .ok (.areturn, 1) := by decide +kernel
theorem own_method_4_d115 : decode method_4_code 115 = .ok (.iload_n 1, 1) := by decide +kernel
theorem own_method_4_d116 : decode method_4_code 116 = .ok (.iconst 4, 1) := by decide +kernel
theorem own_method_4_d117 : decode method_4_code 117 = .ok (.if_icmp .ne 34, 3) := by decide +kernel
theorem own_method_4_d120 : decode method_4_code 120 = .ok (.new 15, 3) := by decide +kernel
theorem own_method_4_d123 : decode method_4_code 123 = .ok (.dup, 1) := by decide +kernel
theorem own_method_4_d124 : decode method_4_code 124 = .ok (.iconst 4, 1) := by decide +kernel
theorem own_method_4_d125 : decode method_4_code 125 = .ok (.newarray .char, 2) := by decide +kernel
theorem own_method_4_d127 : decode method_4_code 127 = .ok (.dup, 1) := by decide +kernel
theorem own_method_4_d128 : decode method_4_code 128 = .ok (.iconst 0, 1) := by decide +kernel
theorem own_method_4_d129 : decode method_4_code 129 = .ok (.iload 4, 2) := by decide +kernel
theorem own_method_4_d131 : decode method_4_code 131 = .ok (.castore, 1) := by decide +kernel
theorem own_method_4_d132 : decode method_4_code 132 = .ok (.dup, 1) := by decide +kernel
theorem own_method_4_d133 : decode method_4_code 133 = .ok (.iconst 1, 1) := by decide +kernel
theorem own_method_4_d134 : decode method_4_code 134 = .ok (.iload 5, 2) := by decide +kernel
theorem own_method_4_d136 : decode method_4_code 136 = .ok (.castore, 1) := by decide +kernel
theorem own_method_4_d137 : decode method_4_code 137 = .ok (.dup, 1) := by decide +kernel
theorem own_method_4_d138 : decode method_4_code 138 = .ok (.iconst 2, 1) := by decide +kernel
theorem own_method_4_d139 : decode method_4_code 139 = .ok (.iload 6, 2) := by decide +kernel
theorem own_method_4_d141 : decode method_4_code 141 = .ok (.castore, 1) := by decide +kernel
theorem own_method_4_d142 : decode method_4_code 142 = .ok (.dup, 1) := by decide +kernel
theorem own_method_4_d143 : decode method_4_code 143 = .ok (.iconst 3, 1) := by decide +kernel
theorem own_method_4_d144 : decode method_4_code 144 = .ok (.iload 7, 2) := by decide +kernel
theorem own_method_4_d146 : decode method_4_code 146 = .ok (.castore, 1) := by decide +kernel
theorem own_method_4_d147 : decode method_4_code 147 = .ok (.invokespecial 54, 3) := by decide +kernel
theorem own_method_4_d150 : decode method_4_code 150 = .ok (.areturn, 1) := by decide +kernel
theorem own_method_4_d151 : decode method_4_code 151 = .ok (.iload_n 1, 1) := by decide +kernel
theorem own_method_4_d152 : decode method_4_code 152 = .ok (.iconst 5, 1) := by decide +kernel
theorem own_method_4_d153 : decode method_4_code 153 = .ok (.if_icmp .ne 39, 3) := by decide +kernel
theorem own_method_4_d156 : decode method_4_code 156 = .ok (.new 15, 3) := by decide +kernel
theorem own_method_4_d159 : decode method_4_code 159 = .ok (.dup, 1) := by decide +kernel
theorem own_method_4_d160 : decode method_4_code 160 = .ok (.iconst 5, 1) := by decide +kernel
theorem own_method_4_d161 : decode method_4_code 161 = .ok (.newarray .char, 2) := by decide +kernel
theorem own_method_4_d163 : decode method_4_code 163 = .ok (.dup, 1) := by decide +kernel
theorem own_method_4_d164 : decode method_4_code 164 = .ok (.iconst 0, 1) := by decide +kernel
theorem own_method_4_d165 : decode method_4_code 165 = .ok (.iload 4, 2) := by decide +kernel
theorem own_method_4_d167 : decode method_4_code 167 = .ok (.castore, 1) := by decide +kernel
theorem own_method_4_d168 : decode method_4_code 168 = .ok (.dup, 1) := by decide +kernel
theorem own_method_4_d169 : decode method_4_code 169 = .ok (.iconst 1, 1) := by decide +kernel
theorem own_method_4_d170 : decode method_4_code 170 = .ok (.iload 5, 2) := by decide +kernel
theorem own_method_4_d172 : decode method_4_code 172 = .ok (.castore, 1) := by decide +kernel
theorem own_method_4_d173 : decode method_4_code 173 = .ok (.dup, 1) := by decide +kernel
theorem own_method_4_d174 : decode method_4_code 174 = .ok (.iconst 2, 1) := by decide +kernel
theorem own_method_4_d175 : decode method_4_code 175 = .ok (.iload 6, 2) := by decide +kernel
theorem own_method_4_d177 : decode method_4_code 177 = .ok (.castore, 1) := by decide +kernel
theorem own_method_4_d178 : decode method_4_code 178 = .ok (.dup, 1) := by decide +kernel
theorem own_method_4_d179 : decode method_4_code 179 = .ok (.iconst 3, 1) := by decide +kernel
theorem own_method_4_d180 : decode method_4_code 180 = .ok (.iload 7, 2) := by decide +kernel
theorem own_method_4_d182 : decode method_4_code 182 = .ok (.castore, 1) := by decide +kernel
theorem own_method_4_d183 : decode method_4_code 183 = .ok (.dup, 1) := by decide +kernel
theorem own_method_4_d184 : decode method_4_code 184 = .ok (.iconst 4, 1) := by decide +kernel
theorem own_method_4_d185 : decode method_4_code 185 = .ok (.iload 8, 2) := by decide +kernel
theorem own_method_4_d187 : decode method_4_code 187 = .ok (.castore, 1) := by decide +kernel
theorem own_method_4_d188 : decode method_4_code 188 = .ok (.invokespecial 54, 3) := by decide +kernel
theorem own_method_4_d191 : decode method_4_code 191 = .ok (.areturn, 1) := by decide +kernel
theorem own_method_4_d192 : decode method_4_code 192 = .ok (.iload_n 1, 1) := by decide +kernel
theorem own_method_4_d193 : decode method_4_code 193 = .ok (.bipush 6, 2) := by decide +kernel
theorem own_method_4_d195 : decode method_4_code 195 = .ok (.if_icmp .ne 45, 3) := by decide +kernel
theorem own_method_4_d198 : decode method_4_code 198 = .ok (.new 15, 3) := by decide +kernel
theorem own_method_4_d201 : decode method_4_code 201 = .ok (.dup, 1) := by decide +kernel
theorem own_method_4_d202 : decode method_4_code 202 = .ok (.bipush 6, 2) := by decide +kernel
theorem own_method_4_d204 : decode method_4_code 204 = .ok (.newarray .char, 2) := by decide +kernel
theorem own_method_4_d206 : decode method_4_code 206 = .ok (.dup, 1) := by decide +kernel
theorem own_method_4_d207 : decode method_4_code 207 = .ok (.iconst 0, 1) := by decide +kernel
theorem own_method_4_d208 : decode method_4_code 208 = .ok (.iload 4, 2) := by decide +kernel
theorem own_method_4_d210 : decode method_4_code 210 = .ok (.castore, 1) := by decide +kernel
theorem own_method_4_d211 : decode method_4_code 211 = .ok (.dup, 1) := by decide +kernel
theorem own_method_4_d212 : decode method_4_code 212 = .ok (.iconst 1, 1) := by decide +kernel
theorem own_method_4_d213 : decode method_4_code 213 = .ok (.iload 5, 2) := by decide +kernel
theorem own_method_4_d215 : decode method_4_code 215 = .ok (.castore, 1) := by decide +kernel
theorem own_method_4_d216 : decode method_4_code 216 = .ok (.dup, 1) := by decide +kernel
theorem own_method_4_d217 : decode method_4_code 217 = .ok (.iconst 2, 1) := by decide +kernel
theorem own_method_4_d218 : decode method_4_code 218 = .ok (.iload 6, 2) := by decide +kernel
theorem own_method_4_d220 : decode method_4_code 220 = .ok (.castore, 1) := by decide +kernel
theorem own_method_4_d221 : decode method_4_code 221 = .ok (.dup, 1) := by decide +kernel
theorem own_method_4_d222 : decode method_4_code 222 = .ok (.iconst 3, 1) := by decide +kernel
theorem own_method_4_d223 : decode method_4_code 223 = .ok (.iload 7, 2) := by decide +kernel
theorem own_method_4_d225 : decode method_4_code 225 = .ok (.castore, 1) := by decide +kernel
theorem own_method_4_d226 : decode method_4_code 226 = .ok (.dup, 1) := by decide +kernel
theorem own_method_4_d227 : decode method_4_code 227 = .ok (.iconst 4, 1) := by decide +kernel
theorem own_method_4_d228 : decode method_4_code 228 = .ok (.iload 8, 2) := by decide +kernel
theorem own_method_4_d230 : decode method_4_code 230 = .ok (.castore, 1) := by decide +kernel
theorem own_method_4_d231 : decode method_4_code 231 = .ok (.dup, 1) := by decide +kernel
theorem own_method_4_d232 : decode method_4_code 232 = .ok (.iconst 5, 1) := by decide +kernel
theorem own_method_4_d233 : decode method_4_code 233 = .ok (.iload 9, 2) := by decide +kernel
theorem own_method_4_d235 : decode method_4_code 235 = .ok (.castore, 1) := by decide +kernel
theorem own_method_4_d236 : decode method_4_code 236 = .ok (.invokespecial 54, 3) := by decide +kernel
theorem own_method_4_d239 : decode method_4_code 239 = .ok (.areturn, 1) := by decide +kernel
theorem own_method_4_d240 : decode method_4_code 240 = .ok (.iload_n 1, 1) := by decide +kernel
theorem own_method_4_d241 : decode method_4_code 241 = .ok (.bipush 7, 2) := by decide +kernel
theorem own_method_4_d243 : decode method_4_code 243 = .ok (.if_icmp .ne 51, 3) := by decide +kernel
theorem own_method_4_d246 : decode method_4_code 246 = .ok (.new 15, 3) := by decide +kernel
theorem own_method_4_d249 : decode method_4_code 249 = .ok (.dup, 1) := by decide +kernel
theorem own_method_4_d250 : decode method_4_code 250 = .ok (.bipush 7, 2) := by decide +kernel
theorem own_method_4_d252 : decode method_4_code 252 = .ok (.newarray .char, 2) := by decide +kernel
theorem own_method_4_d254 : decode method_4_code 254 = .ok (.dup, 1) := by decide +kernel
theorem own_method_4_d255 : decode method_4_code 255 = .ok (.iconst 0, 1) := by decide +kernel
theorem own_method_4_d256 : decode method_4_code 256 = .ok (.iload 4, 2) := by decide +kernel
theorem own_method_4_d258 : decode method_4_code 258 = .ok (.castore, 1) := by decide +kernel
theorem own_method_4_d259 : decode method_4_code 259 = .ok (.dup, 1) := by decide +kernel
theorem own_method_4_d260 : decode method_4_code 260 = .ok (.iconst 1, 1) := by decide +kernel
theorem own_method_4_d261 : decode method_4_code 261 = .ok (.iload 5, 2) := by decide +kernel
theorem own_method_4_d263 : decode method_4_code 263 = .ok (.castore, 1) := by decide +kernel
theorem own_method_4_d264 : decode method_4_code 264 = .ok (.dup, 1) := by decide +kernel
theorem own_method_4_d265 : decode method_4_code 265 = .ok (.iconst 2, 1) := by decide +kernel
theorem own_method_4_d266 : decode method_4_code 266 = .ok (.iload 6, 2) := by decide +kernel
theorem own_method_4_d268 : decode method_4_code 268 = .ok (.castore, 1) := by decide +kernel
theorem own_method_4_d269 : decode method_4_code 269 = .ok (.dup, 1) := by decide +kernel
theorem own_method_4_d270 : decode method_4_code 270 = .ok (.iconst 3, 1) := by decide +kernel
theorem own_method_4_d271 : decode method_4_code 271 = .ok (.iload 7, 2) := by decide +kernel
theorem own_method_4_d273 : decode method_4_code 273 = .ok (.castore, 1) := by decide +kernel
theorem own_method_4_d274 : decode method_4_code 274 = .ok (.dup, 1) := by decide +kernel
theorem own_method_4_d275 : decode method_4_code 275 = .ok (.iconst 4, 1) := by decide +kernel
theorem own_method_4_d276 : decode method_4_code 276 = .ok (.iload 8, 2) := by decide +kernel
theorem own_method_4_d278 : decode method_4_code 278 = .ok (.castore, 1) := by decide +kernel
theorem own_method_4_d279 : decode method_4_code 279 = .ok (.dup, 1) := by decide +kernel
theorem own_method_4_d280 : decode method_4_code 280 = .ok (.iconst 5, 1) := by decide +kernel
theorem own_method_4_d281 : decode method_4_code 281 = .ok (.iload 9, 2) := by decide +kernel
theorem own_method_4_d283 : decode method_4_code 283 = .ok (.castore, 1) := by decide +kernel
theorem own_method_4_d284 : decode method_4_code 284 = .ok (.dup, 1) := by decide +kernel
theorem own_method_4_d285 : decode method_4_code 285 = .ok (.bipush 6, 2) := by decide +kernel
theorem own_method_4_d287 : decode method_4_code 287 = .ok (.iload 10, 2) := by decide +kernel
theorem own_method_4_d289 : decode method_4_code 289 = .ok (.castore, 1) := by decide +kernel
theorem own_method_4_d290 : decode method_4_code 290 = .ok (.invokespecial 54, 3) := by decide +kernel
theorem own_method_4_d293 : decode method_4_code 293 = .ok (.areturn, 1) := by decide +kernel
theorem own_method_4_d294 : decode method_4_code 294 = .ok (.iload_n 1, 1) := by decide +kernel
theorem own_method_4_d295 : decode method_4_code 295 = .ok (.bipush 8, 2) := by decide +kernel
theorem own_method_4_d297 : decode method_4_code 297 = .ok (.if_icmp .ne 57, 3) := by decide +kernel
theorem own_method_4_d300 : decode method_4_code 300 = .ok (.new 15, 3) := by decide +kernel
theorem own_method_4_d303 : decode method_4_code 303 = .ok (.dup, 1) := by decide +kernel
theorem own_method_4_d304 : decode method_4_code 304 = .ok (.bipush 8, 2) := by decide +kernel
theorem own_method_4_d306 : decode method_4_code 306 = .ok (.newarray .char, 2) := by decide +kernel
theorem own_method_4_d308 : decode method_4_code 308 = .ok (.dup, 1) := by decide +kernel
theorem own_method_4_d309 : decode method_4_code 309 = .ok (.iconst 0, 1) := by decide +kernel
theorem own_method_4_d310 : decode method_4_code 310 = .ok (.iload 4, 2) := by decide +kernel
theorem own_method_4_d312 : decode method_4_code 312 = .ok (.castore, 1) := by decide +kernel
theorem own_method_4_d313 : decode method_4_code 313 = .ok (.dup, 1) := by decide +kernel
theorem own_method_4_d314 : decode method_4_code 314 = .ok (.iconst 1, 1) := by decide +kernel
theorem own_method_4_d315 : decode method_4_code 315 = .ok (.iload 5, 2) := by decide +kernel
theorem own_method_4_d317 : decode method_4_code 317 = .ok (.castore, 1) := by decide +kernel
theorem own_method_4_d318 : decode method_4_code 318 = .ok (.dup, 1) := by decide +kernel
theorem own_method_4_d319 : decode method_4_code 319 = .ok (.iconst 2, 1) := by decide +kernel
theorem own_method_4_d320 : decode method_4_code 320 = .ok (.iload 6, 2) := by decide +kernel
theorem own_method_4_d322 : decode method_4_code 322 = .ok (.castore, 1) := by decide +kernel
theorem own_method_4_d323 : decode method_4_code 323 = .ok (.dup, 1) := by decide +kernel
theorem own_method_4_d324 : decode method_4_code 324 = .ok (.iconst 3, 1) := by decide +kernel
theorem own_method_4_d325 : decode method_4_code 325 = .ok (.iload 7, 2) := by decide +kernel
theorem own_method_4_d327 : decode method_4_code 327 = .ok (.castore, 1) := by decide +kernel
theorem own_method_4_d328 : decode method_4_code 328 = .ok (.dup, 1) := by decide +kernel
theorem own_method_4_d329 : decode method_4_code 329 = .ok (.iconst 4, 1) := by decide +kernel
theorem own_method_4_d330 : decode method_4_code 330 = .ok (.iload 8, 2) := by decide +kernel
theorem own_method_4_d332 : decode method_4_code 332 = .ok (.castore, 1) := by decide +kernel
theorem own_method_4_d333 : decode method_4_code 333 = .ok (.dup, 1) := by decide +kernel
theorem own_method_4_d334 : decode method_4_code 334 = .ok (.iconst 5, 1) := by decide +kernel
theorem own_method_4_d335 : decode method_4_code 335 = .ok (.iload 9, 2) := by decide +kernel
theorem own_method_4_d337 : decode method_4_code 337 = .ok (.castore, 1) := by decide +kernel
theorem own_method_4_d338 : decode method_4_code 338 = .ok (.dup, 1) := by decide +kernel
theorem own_method_4_d339 : decode method_4_code 339 = .ok (.bipush 6, 2) := by decide +kernel
theorem own_method_4_d341 : decode method_4_code 341 = .ok (.iload 10, 2) := by decide +kernel
theorem own_method_4_d343 : decode method_4_code 343 = .ok (.castore, 1) := by decide +kernel
theorem own_method_4_d344 : decode method_4_code 344 = .ok (.dup, 1) := by decide +kernel
theorem own_method_4_d345 : decode method_4_code 345 = .ok (.bipush 7, 2) := by decide +kernel
theorem own_method_4_d347 : decode method_4_code 347 = .ok (.iload 11, 2) := by decide +kernel
theorem own_method_4_d349 : decode method_4_code 349 = .ok (.castore, 1) := by decide +kernel
theorem own_method_4_d350 : decode method_4_code 350 = .ok (.invokespecial 54, 3) := by decide +kernel
theorem own_method_4_d353 : decode method_4_code 353 = .ok (.areturn, 1) := by decide +kernel
theorem own_method_4_d354 : decode method_4_code 354 = .ok (.new 15, 3) := by decide +kernel
theorem own_method_4_d357 : decode method_4_code 357 = .ok (.dup, 1) := by decide +kernel
theorem own_method_4_d358 : decode method_4_code 358 = .ok (.bipush 9, 2) := by decide +kernel
theorem own_method_4_d360 : decode method_4_code 360 = .ok (.newarray .char, 2) := by decide +kernel
theorem own_method_4_d362 : decode method_4_code 362 = .ok (.dup, 1) := by decide +kernel
theorem own_method_4_d363 : decode method_4_code 363 = .ok (.iconst 0, 1) := by decide +kernel
theorem own_method_4_d364 : decode method_4_code 364 = .ok (.iload 4, 2) := by decide +kernel
theorem own_method_4_d366 : decode method_4_code 366 = .ok (.castore, 1) := by decide +kernel
theorem own_method_4_d367 : decode method_4_code 367 = .ok (.dup, 1) := by decide +kernel
theorem own_method_4_d368 : decode method_4_code 368 = .ok (.iconst 1, 1) := by decide +kernel
theorem own_method_4_d369 : decode method_4_code 369 = .ok (.iload 5, 2) := by decide +kernel
theorem own_method_4_d371 : decode method_4_code 371 = .ok (.castore, 1) := by decide +kernel
theorem own_method_4_d372 : decode method_4_code 372 = .ok (.dup, 1) := by decide +kernel
theorem own_method_4_d373 : decode method_4_code 373 = .ok (.iconst 2, 1) := by decide +kernel
theorem own_method_4_d374 : decode method_4_code 374 = .ok (.iload 6, 2) := by decide +kernel
theorem own_method_4_d376 : decode method_4_code 376 = .ok (.castore, 1) := by decide +kernel
theorem own_method_4_d377 : decode method_4_code 377 = .ok (.dup, 1) := by decide +kernel
theorem own_method_4_d378 : decode method_4_code 378 = .ok (.iconst 3, 1) := by decide +kernel
theorem own_method_4_d379 : decode method_4_code 379 = .ok (.iload 7, 2) := by decide +kernel
theorem own_method_4_d381 : decode method_4_code 381 = .ok (.castore, 1) := by decide +kernel
theorem own_method_4_d382 : decode method_4_code 382 = .ok (.dup, 1) := by decide +kernel
theorem own_method_4_d383 : decode method_4_code 383 = .ok (.iconst 4, 1) := by decide +kernel
theorem own_method_4_d384 : decode method_4_code 384 = .ok (.iload 8, 2) := by decide +kernel
theorem own_method_4_d386 : decode method_4_code 386 = .ok (.castore, 1) := by decide +kernel
theorem own_method_4_d387 : decode method_4_code 387 = .ok (.dup, 1) := by decide +kernel
theorem own_method_4_d388 : decode method_4_code 388 = .ok (.iconst 5, 1) := by decide +kernel
theorem own_method_4_d389 : decode method_4_code 389 = .ok (.iload 9, 2) := by decide +kernel
theorem own_method_4_d391 : decode method_4_code 391 = .ok (.castore, 1) := by decide +kernel
theorem own_method_4_d392 : decode method_4_code 392 = .ok (.dup, 1) := by decide +kernel
theorem own_method_4_d393 : decode method_4_code 393 = .ok (.bipush 6, 2) := by decide +kernel
theorem own_method_4_d395 : decode method_4_code 395 = .ok (.iload 10, 2) := by decide +kernel
theorem own_method_4_d397 : decode method_4_code 397 = .ok (.castore, 1) := by decide +kernel
theorem own_method_4_d398 : decode method_4_code 398 = .ok (.dup, 1) := by decide +kernel
theorem own_method_4_d399 : decode method_4_code 399 = .ok (.bipush 7, 2) := by decide +kernel
theorem own_method_4_d401 : decode method_4_code 401 = .ok (.iload 11, 2) := by decide +kernel
theorem own_method_4_d403 : decode method_4_code 403 = .ok (.castore, 1) := by decide +kernel
theorem own_method_4_d404 : decode method_4_code 404 = .ok (.dup, 1) := by decide +kernel
theorem own_method_4_d405 : decode method_4_code 405 = .ok (.bipush 8, 2) := by decide +kernel
theorem own_method_4_d407 : decode method_4_code 407 = .ok (.iload 12, 2) := by decide +kernel
theorem own_method_4_d409 : decode method_4_code 409 = .ok (.castore, 1) := by decide +kernel
theorem own_method_4_d410 : decode method_4_code 410 = .ok (.invokespecial 54, 3) := by decide +kernel
theorem own_method_4_d413 : decode method_4_code 413 = .ok (.areturn, 1) := by decide +kernel
theorem own_pnE : plainName "com/example/spatial_at_rest/spatialatrest/Interpolation" = true := by first | (simp [plainName, overriddenIn]; done) | decide +kernel
theorem own_pn : plainName "com/example/spatial_at_rest/spatialatrest/InterpolationNamedPinLaw" = true := by first | (simp [plainName, overriddenIn]; done) | decide +kernel
def own_Qvals (Z : State) (en0 en1 en2 : Addr) (h0 : Heap) (n0 : Nat) (v : Option Value) (h : Heap) (L : List Loc) : Prop := ∃ (b : Addr) (k : ClassId), v = some (.ref b) ∧ Fr n0 L ∧ Ext h0 h ∧ Arv Z h b k (.object "com/example/spatial_at_rest/spatialatrest/Interpolation") (3 : Int32) [(.ref en0), (.ref en1), (.ref en2)] .null
theorem own_vals_ef (m : MethodId)  : entryFrame m #[] 0 = mkF m 0 #[] [] := by first | (simp [entryFrame, mkF, argsToLocals, Value.category]; done) | rfl
set_option maxRecDepth 65536 in
set_option maxHeartbeats 40000000 in
theorem own_vals (l : Launch) (Z : State) (a0 : Array Value) (hw : ∀ d ∈ tables_1, d.before a0 Z = true) (ws : List Jvm.Cond) (va en0 en1 en2 : Addr) (kA : ClassId) (h0 : Heap) (n0 : Nat) (Z0 : n0 ≤ h0.size) (O0 : Ext Z.heap h0) (S_V : Sta Z Z.heap "com/example/spatial_at_rest/spatialatrest/Interpolation" "$VALUES" "[Lcom/example/spatial_at_rest/spatialatrest/Interpolation;" (.ref va)) (EV : Exa Z Z.heap va "[Lcom/example/spatial_at_rest/spatialatrest/Interpolation;") (AV : Arv Z Z.heap va kA (.object "com/example/spatial_at_rest/spatialatrest/Interpolation") (3 : Int32) [(.ref en0), (.ref en1), (.ref en2)] .null) :
    MetFree l (⟨"com/example/spatial_at_rest/spatialatrest/Interpolation", "values", "()[Lcom/example/spatial_at_rest/spatialatrest/Interpolation;"⟩ : MethodName) (head1 (Jvm.Cond.code (⟨"com/example/spatial_at_rest/spatialatrest/Interpolation", "values", "()[Lcom/example/spatial_at_rest/spatialatrest/Interpolation;"⟩ : MethodName) prog_4_method_1_code 0 (some (.array (.object "com/example/spatial_at_rest/spatialatrest/Interpolation"))) :: ws) ({ frames := 1, cells := 1, slots := 3, locals := 14 } : Room)) (fun a U => a = #[] ∧ Z.Warmed39 U.vm ∧ U.heap = h0) (fun _ _ _ _ _ => True) (fun _ U o U' => ∃ v L, o = .returned v ∧ own_Qvals Z en0 en1 en2 h0 n0 v U'.heap L ∧ FrameEnd U o U' L ({ frames := 1, cells := 1, slots := 3, locals := 14 } : Room).cells ({ frames := 1, cells := 1, slots := 3, locals := 14 } : Room).slots) := by
  refine MetFree.of_bodySF (plainFor_of_name own_pnE) hisR ?_
  intro p e s m args below meth c s₁ Bd hml0 hP hK
  obtain ⟨rfl, hZ, hh⟩ := hP
  have hx := Bd.exec
  have hby := Bd.bytes
  have hml : c.maxLocals = 0 := hml0
  have hown : s.vm.findClass "com/example/spatial_at_rest/spatialatrest/Interpolation" = some m.cls := findClass_of_methodNamed Bd.named
  have hnm := (name_of_methodNamed Bd.named Bd.method).1
  have X0 : Stand p l e ({ frames := 1, cells := 1, slots := 3, locals := 14 } : Room) s m #[] below meth c s₁ [] 0 0 := Stand.of_body Bd
  have e0 : s₁.heap = h0 := by rw [← hh, Bd.state]; rfl
  have N0 := Fr.nil n0
  have pre0 : ∀ t, Steps p.tables e below (s₁.setTop (mkF m 0 #[] [])) t → Steps p.tables e below (s₁.setTop (entryFrame m #[] 0)) t := fun t k => castTop (own_vals_ef m ) k
  obtain ⟨T1, X1, e1, st1⟩ := getS2 X0 hx hZ hown (host := "") (Or.inl (hw _ (List.mem_of_getElem? (i := 91) rfl))) Via.refl e0 (S_V.ext O0) (g := (mkF m 0 #[] [])) rfl (hb hby own_prog_4_m1_d0)
  obtain ⟨T2, h2, X2, e2, E2, A2, Q2, st2⟩ := cloneH X1 hx hZ hown (hw _ (List.mem_of_getElem? (i := 93) rfl)) (hw _ (List.mem_of_getElem? (i := 94) rfl)) (hw _ (List.mem_of_getElem? (i := 98) rfl)) (hw _ (List.mem_of_getElem? (i := 96) rfl)) (hw _ (List.mem_of_getElem? (i := 97) rfl)) (hw _ (List.mem_of_getElem? (i := 99) rfl)) e1 (hs := []) (show Arh Z h0 va kA (.object "com/example/spatial_at_rest/spatialatrest/Interpolation") (3 : Int32) [] [(.ref en0), (.ref en1), (.ref en2)] .null from (AV.ext O0)) (EV.ext O0) (g := (mkF m 3 #[] [(.ref va)])) rfl (by rw [hml]; rfl) rfl (hb hby own_prog_4_m1_d3) (by decide) (W := 0) (by show 2 * 0 + _ ≤ _; exact Nat.le_of_eq rfl) (by decide) (cap := 3) (by decide) (by decide) (by decide)
  obtain ⟨b2, g2⟩ : ∃ z, z = h0.size := ⟨_, rfl⟩
  rw [← g2] at A2 Q2 st2
  have V2 : Arv Z h2 b2 kA (.object "com/example/spatial_at_rest/spatialatrest/Interpolation") (3 : Int32) [(.ref en0), (.ref en1), (.ref en2)] .null := A2
  obtain ⟨T3, X3, e3, st3⟩ := castY X2 hx hZ hown (hw _ (List.mem_of_getElem? (i := 104) rfl)) e2 (Ins.of_exa Q2 (hw _ (List.mem_of_getElem? (i := 105) rfl))) (g := (mkF m 6 #[] [(.ref b2)])) rfl rfl (hb hby own_prog_4_m1_d6)
  obtain ⟨fs, hr, hrun, hended, hW, hsame⟩ := X3.leave (v := some (.ref b2)) (fun h => by rw [Bd.returns] at h; cases h)
  refine ⟨_, _, pre0 _ ?_, hrun, hended, _, _, rfl, ?_, ⟨_, rfl⟩, hW, hsame.mono (by decide) (by decide)⟩
  · show Steps p.tables e below (s₁.setTop (mkF m 0 #[] [])) _
    refine st1 _ ?_
    show Steps p.tables e below (T1.setTop (mkF m 3 #[] [(.ref va)])) _
    refine st2 _ ?_
    show Steps p.tables e below (T2.setTop (mkF m 6 #[] [(.ref b2)])) _
    refine st3 _ ?_
    show Steps p.tables e below (T3.setTop (mkF m 9 #[] [(.ref b2)])) _
    exact retR X3 hx Bd.returns rfl rfl rfl (hb hby own_prog_4_m1_d9) hr
  · show own_Qvals Z en0 en1 en2 h0 n0 _ T3.heap _
    rw [e3]
    exact ⟨b2, _, rfl, N0, E2, V2⟩
def own_nm (en0 en1 en2 : Addr) (ds : List Int32) : Value := if ds = ([(68 : Int32), (105 : Int32), (115 : Int32), (99 : Int32), (114 : Int32), (101 : Int32), (116 : Int32), (101 : Int32)] : List Int32) then .ref en0 else if ds = ([(83 : Int32), (116 : Int32), (101 : Int32), (112 : Int32)] : List Int32) then .ref en1 else if ds = ([(76 : Int32), (105 : Int32), (110 : Int32), (101 : Int32), (97 : Int32), (114 : Int32)] : List Int32) then .ref en2 else .null
def own_Qnm (r : Value) (h0 : Heap) (n0 : Nat) (v : Option Value) (h : Heap) (L : List Loc) : Prop := v = some r ∧ Fr n0 L ∧ Ext h0 h
theorem own_named_ef (m : MethodId) (x0 : Addr) : entryFrame m #[(.ref x0)] 6 = mkF m 0 #[.val (.ref x0), .unset, .unset, .unset, .unset, .unset] [] := by first | (simp [entryFrame, mkF, argsToLocals, Value.category]; done) | rfl
set_option maxRecDepth 65536 in
set_option maxHeartbeats 40000000 in
theorem own_named (l : Launch) (Z : State) (a0 : Array Value) (hw : ∀ d ∈ tables_1, d.before a0 Z = true) (ws : List Jvm.Cond) (va en0 en1 en2 : Addr) (kA : ClassId) (tx0 tx1 tx2 : Addr) (w2 : Int32) (x : Addr) (r : Value) (ds : List Int32) (h0 : Heap) (n0 : Nat) (Z0 : n0 ≤ h0.size) (O0 : Ext Z.heap h0) (S_V : Sta Z Z.heap "com/example/spatial_at_rest/spatialatrest/Interpolation" "$VALUES" "[Lcom/example/spatial_at_rest/spatialatrest/Interpolation;" (.ref va)) (EV : Exa Z Z.heap va "[Lcom/example/spatial_at_rest/spatialatrest/Interpolation;") (AV : Arv Z Z.heap va kA (.object "com/example/spatial_at_rest/spatialatrest/Interpolation") (3 : Int32) [(.ref en0), (.ref en1), (.ref en2)] .null) (S_C : Sta Z Z.heap "java/lang/String" "COMPACT_STRINGS" "Z" (.int w2)) (P5 : ¬ w2 = 0) (F0 : Fld Z Z.heap en0 "com/example/spatial_at_rest/spatialatrest/Interpolation" "wireName" "Ljava/lang/String;" (.ref tx0)) (T0 : own_Str Z Z.heap tx0 ([(68 : Int32), (105 : Int32), (115 : Int32), (99 : Int32), (114 : Int32), (101 : Int32), (116 : Int32), (101 : Int32)] : List Int32)) (F1 : Fld Z Z.heap en1 "com/example/spatial_at_rest/spatialatrest/Interpolation" "wireName" "Ljava/lang/String;" (.ref tx1)) (T1 : own_Str Z Z.heap tx1 ([(83 : Int32), (116 : Int32), (101 : Int32), (112 : Int32)] : List Int32)) (F2 : Fld Z Z.heap en2 "com/example/spatial_at_rest/spatialatrest/Interpolation" "wireName" "Ljava/lang/String;" (.ref tx2)) (T2 : own_Str Z Z.heap tx2 ([(76 : Int32), (105 : Int32), (110 : Int32), (101 : Int32), (97 : Int32), (114 : Int32)] : List Int32)) (SX : own_Str Z h0 x ds) (hlen : ds.length ≤ 4000) (hres : own_nm en0 en1 en2 ds = r) :
    MetFree l (⟨"com/example/spatial_at_rest/spatialatrest/Interpolation", "named", "(Ljava/lang/String;)Lcom/example/spatial_at_rest/spatialatrest/Interpolation;"⟩ : MethodName) (head1 (Jvm.Cond.code (⟨"com/example/spatial_at_rest/spatialatrest/Interpolation", "named", "(Ljava/lang/String;)Lcom/example/spatial_at_rest/spatialatrest/Interpolation;"⟩ : MethodName) prog_4_method_5_code 6 (some (.object "com/example/spatial_at_rest/spatialatrest/Interpolation")) :: ws) ({ frames := 2, cells := 1, slots := 3, locals := 28 } : Room)) (fun a U => a = #[(.ref x)] ∧ Z.Warmed39 U.vm ∧ U.heap = h0) (fun _ _ _ _ _ => True) (fun _ U o U' => ∃ v L, o = .returned v ∧ own_Qnm r h0 n0 v U'.heap L ∧ FrameEnd U o U' L ({ frames := 2, cells := 1, slots := 3, locals := 28 } : Room).cells ({ frames := 2, cells := 1, slots := 3, locals := 28 } : Room).slots) := by
  refine MetFree.of_bodySF (plainFor_of_name own_pnE) hisR ?_
  intro p e s m args below meth c s₁ Bd hml0 hP hK
  obtain ⟨rfl, hZ, hh⟩ := hP
  have hx := Bd.exec
  have hby := Bd.bytes
  have hml : c.maxLocals = 6 := hml0
  have hown : s.vm.findClass "com/example/spatial_at_rest/spatialatrest/Interpolation" = some m.cls := findClass_of_methodNamed Bd.named
  have hnm := (name_of_methodNamed Bd.named Bd.method).1
  have X0 : Stand p l e ({ frames := 2, cells := 1, slots := 3, locals := 28 } : Room) s m #[(.ref x)] below meth c s₁ [] 0 0 := Stand.of_body Bd
  have e0 : s₁.heap = h0 := by rw [← hh, Bd.state]; rfl
  have N0 := Fr.nil n0
  have pre0 : ∀ t, Steps p.tables e below (s₁.setTop (mkF m 0 #[.val (.ref x), .unset, .unset, .unset, .unset, .unset] [])) t → Steps p.tables e below (s₁.setTop (entryFrame m #[(.ref x)] 6)) t := fun t k => castTop (own_named_ef m x) k
  obtain ⟨_, _, ⟨T4, L4, k4, n4⟩, -, X4, ⟨Lc4, hQ4, l4, y4, z4⟩, st4⟩ := Jvm.LawKit.callS X0 hx (y := (⟨"com/example/spatial_at_rest/spatialatrest/Interpolation", "values", "()[Lcom/example/spatial_at_rest/spatialatrest/Interpolation;"⟩ : MethodName)) hown (mvT hZ (hw _ (List.mem_of_getElem? (i := 88) rfl))) (mvT hZ (hw _ (List.mem_of_getElem? (i := 89) rfl))) (mvT hZ (hw _ (List.mem_of_getElem? (i := 86) rfl))) (mvT hZ (hw _ (List.mem_of_getElem? (i := 90) rfl))) (by decide) (backOf (W := 0) (own_vals l Z a0 hw [] va en0 en1 en2 kA h0 n0 Z0 O0 S_V EV AV) hZ (hw _ (List.mem_of_getElem? (i := 90) rfl)) (hw _ (List.mem_of_getElem? (i := 86) rfl)) (by decide) (by decide)) (g := (mkF m 2 #[.val (.ref x), .val .null, .unset, .unset, .unset, .unset] [])) rfl (by rw [hml]; rfl) (argsL := []) (rest := []) (lenOf own_pd0 rfl) rfl (by show 2 * 0 + _ ≤ _; exact Nat.le_of_eq rfl) (hb hby own_prog_4_m5_d2) (fun _ _ => ⟨rfl, e0, (by decide : 0 + 1 ≤ _), (by decide : 0 + 3 ≤ _)⟩)
  dsimp only [Pt.U, Pt.locs, Pt.cells, Pt.slots] at X4 l4 y4 z4 st4 hQ4
  subst l4 y4 z4
  obtain ⟨b4, kv4, rfl, Nq4, E4, Av4⟩ := hQ4
  have Na5 := Fr.app N0 Nq4
  obtain ⟨cl6, Ar6, q6, S6, M6, H6, G6⟩ := id Av4
  obtain ⟨cl7, Ar7, q7, S7, M7, H7, G7⟩ := id Av4
  have hin7 : ¬ ((0 : Int32) < 0 ∨ cl7.slots.size ≤ ((0 : Int32)).toNatClampNeg) := inb_of S7 ⟨by decide, by decide⟩
  have Xt8 : Ext Z.heap T4.heap := (own_xt O0 E4)
  obtain ⟨T9, X9, e9, st9⟩ := getF X4 hx hZ hown (host := "") (Or.inl (hw _ (List.mem_of_getElem? (i := 106) rfl))) Via.refl rfl (F0.ext Xt8) (g := (mkF m 26 #[.val (.ref x), .val .null, .val (.ref b4), .val (.int (3 : Int32)), .val (.int (0 : Int32)), .val (.ref en0)] [(.ref en0)])) rfl rfl (hb hby own_prog_4_m5_d26)
  have go10 : ∀ t, Steps p.tables e below (T9.setTop (mkF m 30 #[.val (.ref x), .val .null, .val (.ref b4), .val (.int (3 : Int32)), .val (.int (0 : Int32)), .val (.ref en0)] [(.ref x), (.ref tx0)])) t → Steps p.tables e below (s₁.setTop (mkF m 0 #[.val (.ref x), .unset, .unset, .unset, .unset, .unset] [])) t := fun t kt => (by
      show Steps p.tables e below (s₁.setTop (mkF m 0 #[.val (.ref x), .unset, .unset, .unset, .unset, .unset] [])) _
      refine XS.aconstNull X0.here hx rfl (hb hby own_prog_4_m5_d0) ?_
      show Steps p.tables e below (s₁.setTop (mkF m 1 #[.val (.ref x), .unset, .unset, .unset, .unset, .unset] [.null])) _
      refine XS.astoreN X0.here hx rfl (hb hby own_prog_4_m5_d1) rfl rfl (l' := #[.val (.ref x), .val .null, .unset, .unset, .unset, .unset]) rfl ?_
      show Steps p.tables e below (s₁.setTop (mkF m 2 #[.val (.ref x), .val .null, .unset, .unset, .unset, .unset] [])) _
      refine st4 _ ?_
      show Steps p.tables e below (T4.setTop (mkF m 5 #[.val (.ref x), .val .null, .unset, .unset, .unset, .unset] [(.ref b4)])) _
      refine XS.astoreN X4.here hx rfl (hb hby own_prog_4_m5_d5) rfl rfl (l' := #[.val (.ref x), .val .null, .val (.ref b4), .unset, .unset, .unset]) rfl ?_
      show Steps p.tables e below (T4.setTop (mkF m 6 #[.val (.ref x), .val .null, .val (.ref b4), .unset, .unset, .unset] [])) _
      refine XS.aloadN X4.here hx rfl (hb hby own_prog_4_m5_d6) rfl rfl ?_
      show Steps p.tables e below (T4.setTop (mkF m 7 #[.val (.ref x), .val .null, .val (.ref b4), .unset, .unset, .unset] [(.ref b4)])) _
      refine X4.arraylength hx Ar6.1 (State.isArrayOf_alike hZ.alike Ar6.2.1) (g := (mkF m 7 #[.val (.ref x), .val .null, .val (.ref b4), .unset, .unset, .unset] [(.ref b4)])) rfl rfl (hb hby own_prog_4_m5_d7) _ ?_
      rw [len_of S6 M6]
      show Steps p.tables e below (T4.setTop (mkF m 8 #[.val (.ref x), .val .null, .val (.ref b4), .unset, .unset, .unset] [(.int (3 : Int32))])) _
      refine XS.istoreN X4.here hx rfl (hb hby own_prog_4_m5_d8) rfl (l' := #[.val (.ref x), .val .null, .val (.ref b4), .val (.int (3 : Int32)), .unset, .unset]) rfl ?_
      show Steps p.tables e below (T4.setTop (mkF m 9 #[.val (.ref x), .val .null, .val (.ref b4), .val (.int (3 : Int32)), .unset, .unset] [])) _
      refine XS.iconst X4.here hx rfl (hb hby own_prog_4_m5_d9) ?_
      show Steps p.tables e below (T4.setTop (mkF m 10 #[.val (.ref x), .val .null, .val (.ref b4), .val (.int (3 : Int32)), .unset, .unset] [(.int (0 : Int32))])) _
      refine XS.istore X4.here hx rfl (hb hby own_prog_4_m5_d10) rfl (l' := #[.val (.ref x), .val .null, .val (.ref b4), .val (.int (3 : Int32)), .val (.int (0 : Int32)), .unset]) rfl ?_
      show Steps p.tables e below (T4.setTop (mkF m 12 #[.val (.ref x), .val .null, .val (.ref b4), .val (.int (3 : Int32)), .val (.int (0 : Int32)), .unset] [])) _
      refine XS.iload X4.here hx rfl (hb hby own_prog_4_m5_d12) rfl ?_
      show Steps p.tables e below (T4.setTop (mkF m 14 #[.val (.ref x), .val .null, .val (.ref b4), .val (.int (3 : Int32)), .val (.int (0 : Int32)), .unset] [(.int (0 : Int32))])) _
      refine XS.iloadN X4.here hx rfl (hb hby own_prog_4_m5_d14) rfl ?_
      show Steps p.tables e below (T4.setTop (mkF m 15 #[.val (.ref x), .val .null, .val (.ref b4), .val (.int (3 : Int32)), .val (.int (0 : Int32)), .unset] [(.int (3 : Int32)), (.int (0 : Int32))])) _
      refine XS.icmpNo X4.here hx rfl (hb hby own_prog_4_m5_d15) rfl (tlt (by decide)).2.1 ?_
      show Steps p.tables e below (T4.setTop (mkF m 18 #[.val (.ref x), .val .null, .val (.ref b4), .val (.int (3 : Int32)), .val (.int (0 : Int32)), .unset] [])) _
      refine XS.aloadN X4.here hx rfl (hb hby own_prog_4_m5_d18) rfl rfl ?_
      show Steps p.tables e below (T4.setTop (mkF m 19 #[.val (.ref x), .val .null, .val (.ref b4), .val (.int (3 : Int32)), .val (.int (0 : Int32)), .unset] [(.ref b4)])) _
      refine XS.iload X4.here hx rfl (hb hby own_prog_4_m5_d19) rfl ?_
      show Steps p.tables e below (T4.setTop (mkF m 21 #[.val (.ref x), .val .null, .val (.ref b4), .val (.int (3 : Int32)), .val (.int (0 : Int32)), .unset] [(.int (0 : Int32)), (.ref b4)])) _
      refine X4.aaload hx (j := (0 : Int32)) (v := (.ref en0)) Ar7.1 (State.isArrayOf_alike hZ.alike Ar7.2.1) rfl Ar7.2.2 hin7 (Has.at H7 hin7 rfl) (g := (mkF m 21 #[.val (.ref x), .val .null, .val (.ref b4), .val (.int (3 : Int32)), .val (.int (0 : Int32)), .unset] [(.int (0 : Int32)), (.ref b4)])) rfl rfl (hb hby own_prog_4_m5_d21) _ ?_
      show Steps p.tables e below (T4.setTop (mkF m 22 #[.val (.ref x), .val .null, .val (.ref b4), .val (.int (3 : Int32)), .val (.int (0 : Int32)), .unset] [(.ref en0)])) _
      refine XS.astore X4.here hx rfl (hb hby own_prog_4_m5_d22) rfl rfl (l' := #[.val (.ref x), .val .null, .val (.ref b4), .val (.int (3 : Int32)), .val (.int (0 : Int32)), .val (.ref en0)]) rfl ?_
      show Steps p.tables e below (T4.setTop (mkF m 24 #[.val (.ref x), .val .null, .val (.ref b4), .val (.int (3 : Int32)), .val (.int (0 : Int32)), .val (.ref en0)] [])) _
      refine XS.aload X4.here hx rfl (hb hby own_prog_4_m5_d24) rfl rfl ?_
      show Steps p.tables e below (T4.setTop (mkF m 26 #[.val (.ref x), .val .null, .val (.ref b4), .val (.int (3 : Int32)), .val (.int (0 : Int32)), .val (.ref en0)] [(.ref en0)])) _
      refine st9 _ ?_
      show Steps p.tables e below (T9.setTop (mkF m 29 #[.val (.ref x), .val .null, .val (.ref b4), .val (.int (3 : Int32)), .val (.int (0 : Int32)), .val (.ref en0)] [(.ref tx0)])) _
      refine XS.aloadN X9.here hx rfl (hb hby own_prog_4_m5_d29) rfl rfl ?_
      exact kt)
  obtain ⟨cq11, kq11, qa11, qb11, qc11⟩ := isOf hZ e9 (T0.1.ext Xt8)
  obtain ⟨_, _, ⟨T11, L11, k11, n11⟩, -, X11, ⟨Lc11, hQ11, l11, y11, z11⟩, st11⟩ := X9.virtualBack hx (y := (⟨"java/lang/String", "equals", "(Ljava/lang/Object;)Z"⟩ : MethodName)) (z := (⟨"java/lang/String", "equals", "(Ljava/lang/Object;)Z"⟩ : MethodName)) hown (mvT hZ (hw _ (List.mem_of_getElem? (i := 108) rfl))) (mvT hZ (hw _ (List.mem_of_getElem? (i := 74) rfl))) (notFace_of_selects (args := #[]) (mvT hZ (hw _ (List.mem_of_getElem? (i := 76) rfl)))) (mvT hZ (hw _ (List.mem_of_getElem? (i := 76) rfl))) (mvT hZ (hw _ (List.mem_of_getElem? (i := 75) rfl))) (by decide) (own_eq (W := 0) hZ (own_wq hw) (hw _ (List.mem_of_getElem? (i := 3) rfl)) (T0.ext Xt8) (by decide) (SX.ext E4) hlen (S_C.ext Xt8) P5 (by decide) (by decide)) qa11 qc11 (g := (mkF m 30 #[.val (.ref x), .val .null, .val (.ref b4), .val (.int (3 : Int32)), .val (.int (0 : Int32)), .val (.ref en0)] [(.ref x), (.ref tx0)])) rfl (by rw [hml]; rfl) (Steps.refl _) (argsL := [(.ref x)]) (rest := []) (lenOf own_pd1 rfl) rfl (by show 2 * 0 + _ ≤ _; exact Nat.le_of_eq rfl) (hb hby own_prog_4_m5_d30) (fun _ _ => ⟨rfl, e9, (by decide : 1 + 0 ≤ _), (by decide : 3 + 0 ≤ _)⟩)
  dsimp only [Pt.U, Pt.locs, Pt.cells, Pt.slots] at X11 l11 y11 z11 st11 hQ11
  subst l11 y11 z11
  obtain ⟨hcase11, rfl, e11⟩ := hQ11
  have Na12 := Fr.app Na5 (Fr.nil n0)
  rcases hcase11 with ⟨rfl, hq11⟩ | ⟨rfl, hq11⟩
  · obtain ⟨fs, hr, hrun, hended, hW, hsame⟩ := X11.leave (v := some (.ref en0)) (fun h => by rw [Bd.returns] at h; cases h)
    refine ⟨_, _, pre0 _ (go10 _ ?_), hrun, hended, _, _, rfl, ?_, ⟨_, rfl⟩, hW, hsame.mono (by decide) (by decide)⟩
    · show Steps p.tables e below (T9.setTop (mkF m 30 #[.val (.ref x), .val .null, .val (.ref b4), .val (.int (3 : Int32)), .val (.int (0 : Int32)), .val (.ref en0)] [(.ref x), (.ref tx0)])) _
      refine st11.trans ?_
      show Steps p.tables e below (T11.setTop (mkF m 33 #[.val (.ref x), .val .null, .val (.ref b4), .val (.int (3 : Int32)), .val (.int (0 : Int32)), .val (.ref en0)] [(.int (1 : Int32))])) _
      refine XS.ifNo X11.here hx rfl (hb hby own_prog_4_m5_d33) rfl ((if0 _ _).trans (feq (by decide)).1) ?_
      show Steps p.tables e below (T11.setTop (mkF m 36 #[.val (.ref x), .val .null, .val (.ref b4), .val (.int (3 : Int32)), .val (.int (0 : Int32)), .val (.ref en0)] [])) _
      refine XS.aload X11.here hx rfl (hb hby own_prog_4_m5_d36) rfl rfl ?_
      show Steps p.tables e below (T11.setTop (mkF m 38 #[.val (.ref x), .val .null, .val (.ref b4), .val (.int (3 : Int32)), .val (.int (0 : Int32)), .val (.ref en0)] [(.ref en0)])) _
      refine XS.astoreN X11.here hx rfl (hb hby own_prog_4_m5_d38) rfl rfl (l' := #[.val (.ref x), .val (.ref en0), .val (.ref b4), .val (.int (3 : Int32)), .val (.int (0 : Int32)), .val (.ref en0)]) rfl ?_
      show Steps p.tables e below (T11.setTop (mkF m 39 #[.val (.ref x), .val (.ref en0), .val (.ref b4), .val (.int (3 : Int32)), .val (.int (0 : Int32)), .val (.ref en0)] [])) _
      refine XS.goto X11.here hx rfl (pc0 := 39) (pc' := 48) rfl (hb hby own_prog_4_m5_d39) (by decide) (by decide) ?_
      show Steps p.tables e below (T11.setTop (mkF m 48 #[.val (.ref x), .val (.ref en0), .val (.ref b4), .val (.int (3 : Int32)), .val (.int (0 : Int32)), .val (.ref en0)] [])) _
      refine XS.aloadN X11.here hx rfl (hb hby own_prog_4_m5_d48) rfl rfl ?_
      show Steps p.tables e below (T11.setTop (mkF m 49 #[.val (.ref x), .val (.ref en0), .val (.ref b4), .val (.int (3 : Int32)), .val (.int (0 : Int32)), .val (.ref en0)] [(.ref en0)])) _
      exact retR X11 hx Bd.returns rfl rfl rfl (hb hby own_prog_4_m5_d49) hr
    · show own_Qnm r h0 n0 _ T11.heap _
      rw [e11]
      have er : r = .ref en0 := hres.symm.trans (by unfold own_nm; rw [if_pos hq11.symm])
      subst er
      exact ⟨rfl, Na12, E4⟩
  · obtain ⟨cl13, Ar13, q13, S13, M13, H13, G13⟩ := id Av4
    have hin13 : ¬ ((1 : Int32) < 0 ∨ cl13.slots.size ≤ ((1 : Int32)).toNatClampNeg) := inb_of S13 ⟨by decide, by decide⟩
    obtain ⟨T14, X14, e14, st14⟩ := getF X11 hx hZ hown (host := "") (Or.inl (hw _ (List.mem_of_getElem? (i := 106) rfl))) Via.refl e11 (F1.ext Xt8) (g := (mkF m 26 #[.val (.ref x), .val .null, .val (.ref b4), .val (.int (3 : Int32)), .val (.int (1 : Int32)), .val (.ref en1)] [(.ref en1)])) rfl rfl (hb hby own_prog_4_m5_d26)
    have go15 : ∀ t, Steps p.tables e below (T14.setTop (mkF m 30 #[.val (.ref x), .val .null, .val (.ref b4), .val (.int (3 : Int32)), .val (.int (1 : Int32)), .val (.ref en1)] [(.ref x), (.ref tx1)])) t → Steps p.tables e below (s₁.setTop (mkF m 0 #[.val (.ref x), .unset, .unset, .unset, .unset, .unset] [])) t := fun t kt => go10 t (by
        show Steps p.tables e below (T9.setTop (mkF m 30 #[.val (.ref x), .val .null, .val (.ref b4), .val (.int (3 : Int32)), .val (.int (0 : Int32)), .val (.ref en0)] [(.ref x), (.ref tx0)])) _
        refine st11.trans ?_
        show Steps p.tables e below (T11.setTop (mkF m 33 #[.val (.ref x), .val .null, .val (.ref b4), .val (.int (3 : Int32)), .val (.int (0 : Int32)), .val (.ref en0)] [(.int (0 : Int32))])) _
        refine XS.ifYes X11.here hx rfl (pc0 := 33) (pc' := 42) rfl (hb hby own_prog_4_m5_d33) rfl ((if0 _ _).trans (teq (by decide)).1) (by decide) (by decide) ?_
        show Steps p.tables e below (T11.setTop (mkF m 42 #[.val (.ref x), .val .null, .val (.ref b4), .val (.int (3 : Int32)), .val (.int (0 : Int32)), .val (.ref en0)] [])) _
        refine XS.iinc X11.here hx rfl (hb hby own_prog_4_m5_d42) rfl (l' := #[.val (.ref x), .val .null, .val (.ref b4), .val (.int (3 : Int32)), .val (.int (1 : Int32)), .val (.ref en0)]) rfl ?_
        show Steps p.tables e below (T11.setTop (mkF m 45 #[.val (.ref x), .val .null, .val (.ref b4), .val (.int (3 : Int32)), .val (.int (1 : Int32)), .val (.ref en0)] [])) _
        refine XS.goto X11.here hx rfl (pc0 := 45) (pc' := 12) rfl (hb hby own_prog_4_m5_d45) (by decide) (by decide) ?_
        show Steps p.tables e below (T11.setTop (mkF m 12 #[.val (.ref x), .val .null, .val (.ref b4), .val (.int (3 : Int32)), .val (.int (1 : Int32)), .val (.ref en0)] [])) _
        refine XS.iload X11.here hx rfl (hb hby own_prog_4_m5_d12) rfl ?_
        show Steps p.tables e below (T11.setTop (mkF m 14 #[.val (.ref x), .val .null, .val (.ref b4), .val (.int (3 : Int32)), .val (.int (1 : Int32)), .val (.ref en0)] [(.int (1 : Int32))])) _
        refine XS.iloadN X11.here hx rfl (hb hby own_prog_4_m5_d14) rfl ?_
        show Steps p.tables e below (T11.setTop (mkF m 15 #[.val (.ref x), .val .null, .val (.ref b4), .val (.int (3 : Int32)), .val (.int (1 : Int32)), .val (.ref en0)] [(.int (3 : Int32)), (.int (1 : Int32))])) _
        refine XS.icmpNo X11.here hx rfl (hb hby own_prog_4_m5_d15) rfl (tlt (by decide)).2.1 ?_
        show Steps p.tables e below (T11.setTop (mkF m 18 #[.val (.ref x), .val .null, .val (.ref b4), .val (.int (3 : Int32)), .val (.int (1 : Int32)), .val (.ref en0)] [])) _
        refine XS.aloadN X11.here hx rfl (hb hby own_prog_4_m5_d18) rfl rfl ?_
        show Steps p.tables e below (T11.setTop (mkF m 19 #[.val (.ref x), .val .null, .val (.ref b4), .val (.int (3 : Int32)), .val (.int (1 : Int32)), .val (.ref en0)] [(.ref b4)])) _
        refine XS.iload X11.here hx rfl (hb hby own_prog_4_m5_d19) rfl ?_
        show Steps p.tables e below (T11.setTop (mkF m 21 #[.val (.ref x), .val .null, .val (.ref b4), .val (.int (3 : Int32)), .val (.int (1 : Int32)), .val (.ref en0)] [(.int (1 : Int32)), (.ref b4)])) _
        refine X11.aaload hx (j := (1 : Int32)) (v := (.ref en1)) (by rw [e11]; exact Ar13.1) (State.isArrayOf_alike hZ.alike Ar13.2.1) rfl Ar13.2.2 hin13 (Has.at H13 hin13 rfl) (g := (mkF m 21 #[.val (.ref x), .val .null, .val (.ref b4), .val (.int (3 : Int32)), .val (.int (1 : Int32)), .val (.ref en0)] [(.int (1 : Int32)), (.ref b4)])) rfl rfl (hb hby own_prog_4_m5_d21) _ ?_
        show Steps p.tables e below (T11.setTop (mkF m 22 #[.val (.ref x), .val .null, .val (.ref b4), .val (.int (3 : Int32)), .val (.int (1 : Int32)), .val (.ref en0)] [(.ref en1)])) _
        refine XS.astore X11.here hx rfl (hb hby own_prog_4_m5_d22) rfl rfl (l' := #[.val (.ref x), .val .null, .val (.ref b4), .val (.int (3 : Int32)), .val (.int (1 : Int32)), .val (.ref en1)]) rfl ?_
        show Steps p.tables e below (T11.setTop (mkF m 24 #[.val (.ref x), .val .null, .val (.ref b4), .val (.int (3 : Int32)), .val (.int (1 : Int32)), .val (.ref en1)] [])) _
        refine XS.aload X11.here hx rfl (hb hby own_prog_4_m5_d24) rfl rfl ?_
        show Steps p.tables e below (T11.setTop (mkF m 26 #[.val (.ref x), .val .null, .val (.ref b4), .val (.int (3 : Int32)), .val (.int (1 : Int32)), .val (.ref en1)] [(.ref en1)])) _
        refine st14 _ ?_
        show Steps p.tables e below (T14.setTop (mkF m 29 #[.val (.ref x), .val .null, .val (.ref b4), .val (.int (3 : Int32)), .val (.int (1 : Int32)), .val (.ref en1)] [(.ref tx1)])) _
        refine XS.aloadN X14.here hx rfl (hb hby own_prog_4_m5_d29) rfl rfl ?_
        exact kt)
    obtain ⟨cq16, kq16, qa16, qb16, qc16⟩ := isOf hZ e14 (T1.1.ext Xt8)
    obtain ⟨_, _, ⟨T16, L16, k16, n16⟩, -, X16, ⟨Lc16, hQ16, l16, y16, z16⟩, st16⟩ := X14.virtualBack hx (y := (⟨"java/lang/String", "equals", "(Ljava/lang/Object;)Z"⟩ : MethodName)) (z := (⟨"java/lang/String", "equals", "(Ljava/lang/Object;)Z"⟩ : MethodName)) hown (mvT hZ (hw _ (List.mem_of_getElem? (i := 108) rfl))) (mvT hZ (hw _ (List.mem_of_getElem? (i := 74) rfl))) (notFace_of_selects (args := #[]) (mvT hZ (hw _ (List.mem_of_getElem? (i := 76) rfl)))) (mvT hZ (hw _ (List.mem_of_getElem? (i := 76) rfl))) (mvT hZ (hw _ (List.mem_of_getElem? (i := 75) rfl))) (by decide) (own_eq (W := 0) hZ (own_wq hw) (hw _ (List.mem_of_getElem? (i := 3) rfl)) (T1.ext Xt8) (by decide) (SX.ext E4) hlen (S_C.ext Xt8) P5 (by decide) (by decide)) qa16 qc16 (g := (mkF m 30 #[.val (.ref x), .val .null, .val (.ref b4), .val (.int (3 : Int32)), .val (.int (1 : Int32)), .val (.ref en1)] [(.ref x), (.ref tx1)])) rfl (by rw [hml]; rfl) (Steps.refl _) (argsL := [(.ref x)]) (rest := []) (lenOf own_pd1 rfl) rfl (by show 2 * 0 + _ ≤ _; exact Nat.le_of_eq rfl) (hb hby own_prog_4_m5_d30) (fun _ _ => ⟨rfl, e14, (by decide : 1 + 0 ≤ _), (by decide : 3 + 0 ≤ _)⟩)
    dsimp only [Pt.U, Pt.locs, Pt.cells, Pt.slots] at X16 l16 y16 z16 st16 hQ16
    subst l16 y16 z16
    obtain ⟨hcase16, rfl, e16⟩ := hQ16
    have Na17 := Fr.app Na12 (Fr.nil n0)
    rcases hcase16 with ⟨rfl, hq16⟩ | ⟨rfl, hq16⟩
    · obtain ⟨fs, hr, hrun, hended, hW, hsame⟩ := X16.leave (v := some (.ref en1)) (fun h => by rw [Bd.returns] at h; cases h)
      refine ⟨_, _, pre0 _ (go15 _ ?_), hrun, hended, _, _, rfl, ?_, ⟨_, rfl⟩, hW, hsame.mono (by decide) (by decide)⟩
      · show Steps p.tables e below (T14.setTop (mkF m 30 #[.val (.ref x), .val .null, .val (.ref b4), .val (.int (3 : Int32)), .val (.int (1 : Int32)), .val (.ref en1)] [(.ref x), (.ref tx1)])) _
        refine st16.trans ?_
        show Steps p.tables e below (T16.setTop (mkF m 33 #[.val (.ref x), .val .null, .val (.ref b4), .val (.int (3 : Int32)), .val (.int (1 : Int32)), .val (.ref en1)] [(.int (1 : Int32))])) _
        refine XS.ifNo X16.here hx rfl (hb hby own_prog_4_m5_d33) rfl ((if0 _ _).trans (feq (by decide)).1) ?_
        show Steps p.tables e below (T16.setTop (mkF m 36 #[.val (.ref x), .val .null, .val (.ref b4), .val (.int (3 : Int32)), .val (.int (1 : Int32)), .val (.ref en1)] [])) _
        refine XS.aload X16.here hx rfl (hb hby own_prog_4_m5_d36) rfl rfl ?_
        show Steps p.tables e below (T16.setTop (mkF m 38 #[.val (.ref x), .val .null, .val (.ref b4), .val (.int (3 : Int32)), .val (.int (1 : Int32)), .val (.ref en1)] [(.ref en1)])) _
        refine XS.astoreN X16.here hx rfl (hb hby own_prog_4_m5_d38) rfl rfl (l' := #[.val (.ref x), .val (.ref en1), .val (.ref b4), .val (.int (3 : Int32)), .val (.int (1 : Int32)), .val (.ref en1)]) rfl ?_
        show Steps p.tables e below (T16.setTop (mkF m 39 #[.val (.ref x), .val (.ref en1), .val (.ref b4), .val (.int (3 : Int32)), .val (.int (1 : Int32)), .val (.ref en1)] [])) _
        refine XS.goto X16.here hx rfl (pc0 := 39) (pc' := 48) rfl (hb hby own_prog_4_m5_d39) (by decide) (by decide) ?_
        show Steps p.tables e below (T16.setTop (mkF m 48 #[.val (.ref x), .val (.ref en1), .val (.ref b4), .val (.int (3 : Int32)), .val (.int (1 : Int32)), .val (.ref en1)] [])) _
        refine XS.aloadN X16.here hx rfl (hb hby own_prog_4_m5_d48) rfl rfl ?_
        show Steps p.tables e below (T16.setTop (mkF m 49 #[.val (.ref x), .val (.ref en1), .val (.ref b4), .val (.int (3 : Int32)), .val (.int (1 : Int32)), .val (.ref en1)] [(.ref en1)])) _
        exact retR X16 hx Bd.returns rfl rfl rfl (hb hby own_prog_4_m5_d49) hr
      · show own_Qnm r h0 n0 _ T16.heap _
        rw [e16]
        have er : r = .ref en1 := hres.symm.trans (by unfold own_nm; rw [if_neg (fun q => hq11 q.symm), if_pos hq16.symm])
        subst er
        exact ⟨rfl, Na17, E4⟩
    · obtain ⟨cl18, Ar18, q18, S18, M18, H18, G18⟩ := id Av4
      have hin18 : ¬ ((2 : Int32) < 0 ∨ cl18.slots.size ≤ ((2 : Int32)).toNatClampNeg) := inb_of S18 ⟨by decide, by decide⟩
      obtain ⟨T19, X19, e19, st19⟩ := getF X16 hx hZ hown (host := "") (Or.inl (hw _ (List.mem_of_getElem? (i := 106) rfl))) Via.refl e16 (F2.ext Xt8) (g := (mkF m 26 #[.val (.ref x), .val .null, .val (.ref b4), .val (.int (3 : Int32)), .val (.int (2 : Int32)), .val (.ref en2)] [(.ref en2)])) rfl rfl (hb hby own_prog_4_m5_d26)
      have go20 : ∀ t, Steps p.tables e below (T19.setTop (mkF m 30 #[.val (.ref x), .val .null, .val (.ref b4), .val (.int (3 : Int32)), .val (.int (2 : Int32)), .val (.ref en2)] [(.ref x), (.ref tx2)])) t → Steps p.tables e below (s₁.setTop (mkF m 0 #[.val (.ref x), .unset, .unset, .unset, .unset, .unset] [])) t := fun t kt => go15 t (by
          show Steps p.tables e below (T14.setTop (mkF m 30 #[.val (.ref x), .val .null, .val (.ref b4), .val (.int (3 : Int32)), .val (.int (1 : Int32)), .val (.ref en1)] [(.ref x), (.ref tx1)])) _
          refine st16.trans ?_
          show Steps p.tables e below (T16.setTop (mkF m 33 #[.val (.ref x), .val .null, .val (.ref b4), .val (.int (3 : Int32)), .val (.int (1 : Int32)), .val (.ref en1)] [(.int (0 : Int32))])) _
          refine XS.ifYes X16.here hx rfl (pc0 := 33) (pc' := 42) rfl (hb hby own_prog_4_m5_d33) rfl ((if0 _ _).trans (teq (by decide)).1) (by decide) (by decide) ?_
          show Steps p.tables e below (T16.setTop (mkF m 42 #[.val (.ref x), .val .null, .val (.ref b4), .val (.int (3 : Int32)), .val (.int (1 : Int32)), .val (.ref en1)] [])) _
          refine XS.iinc X16.here hx rfl (hb hby own_prog_4_m5_d42) rfl (l' := #[.val (.ref x), .val .null, .val (.ref b4), .val (.int (3 : Int32)), .val (.int (2 : Int32)), .val (.ref en1)]) rfl ?_
          show Steps p.tables e below (T16.setTop (mkF m 45 #[.val (.ref x), .val .null, .val (.ref b4), .val (.int (3 : Int32)), .val (.int (2 : Int32)), .val (.ref en1)] [])) _
          refine XS.goto X16.here hx rfl (pc0 := 45) (pc' := 12) rfl (hb hby own_prog_4_m5_d45) (by decide) (by decide) ?_
          show Steps p.tables e below (T16.setTop (mkF m 12 #[.val (.ref x), .val .null, .val (.ref b4), .val (.int (3 : Int32)), .val (.int (2 : Int32)), .val (.ref en1)] [])) _
          refine XS.iload X16.here hx rfl (hb hby own_prog_4_m5_d12) rfl ?_
          show Steps p.tables e below (T16.setTop (mkF m 14 #[.val (.ref x), .val .null, .val (.ref b4), .val (.int (3 : Int32)), .val (.int (2 : Int32)), .val (.ref en1)] [(.int (2 : Int32))])) _
          refine XS.iloadN X16.here hx rfl (hb hby own_prog_4_m5_d14) rfl ?_
          show Steps p.tables e below (T16.setTop (mkF m 15 #[.val (.ref x), .val .null, .val (.ref b4), .val (.int (3 : Int32)), .val (.int (2 : Int32)), .val (.ref en1)] [(.int (3 : Int32)), (.int (2 : Int32))])) _
          refine XS.icmpNo X16.here hx rfl (hb hby own_prog_4_m5_d15) rfl (tlt (by decide)).2.1 ?_
          show Steps p.tables e below (T16.setTop (mkF m 18 #[.val (.ref x), .val .null, .val (.ref b4), .val (.int (3 : Int32)), .val (.int (2 : Int32)), .val (.ref en1)] [])) _
          refine XS.aloadN X16.here hx rfl (hb hby own_prog_4_m5_d18) rfl rfl ?_
          show Steps p.tables e below (T16.setTop (mkF m 19 #[.val (.ref x), .val .null, .val (.ref b4), .val (.int (3 : Int32)), .val (.int (2 : Int32)), .val (.ref en1)] [(.ref b4)])) _
          refine XS.iload X16.here hx rfl (hb hby own_prog_4_m5_d19) rfl ?_
          show Steps p.tables e below (T16.setTop (mkF m 21 #[.val (.ref x), .val .null, .val (.ref b4), .val (.int (3 : Int32)), .val (.int (2 : Int32)), .val (.ref en1)] [(.int (2 : Int32)), (.ref b4)])) _
          refine X16.aaload hx (j := (2 : Int32)) (v := (.ref en2)) (by rw [e16]; exact Ar18.1) (State.isArrayOf_alike hZ.alike Ar18.2.1) rfl Ar18.2.2 hin18 (Has.at H18 hin18 rfl) (g := (mkF m 21 #[.val (.ref x), .val .null, .val (.ref b4), .val (.int (3 : Int32)), .val (.int (2 : Int32)), .val (.ref en1)] [(.int (2 : Int32)), (.ref b4)])) rfl rfl (hb hby own_prog_4_m5_d21) _ ?_
          show Steps p.tables e below (T16.setTop (mkF m 22 #[.val (.ref x), .val .null, .val (.ref b4), .val (.int (3 : Int32)), .val (.int (2 : Int32)), .val (.ref en1)] [(.ref en2)])) _
          refine XS.astore X16.here hx rfl (hb hby own_prog_4_m5_d22) rfl rfl (l' := #[.val (.ref x), .val .null, .val (.ref b4), .val (.int (3 : Int32)), .val (.int (2 : Int32)), .val (.ref en2)]) rfl ?_
          show Steps p.tables e below (T16.setTop (mkF m 24 #[.val (.ref x), .val .null, .val (.ref b4), .val (.int (3 : Int32)), .val (.int (2 : Int32)), .val (.ref en2)] [])) _
          refine XS.aload X16.here hx rfl (hb hby own_prog_4_m5_d24) rfl rfl ?_
          show Steps p.tables e below (T16.setTop (mkF m 26 #[.val (.ref x), .val .null, .val (.ref b4), .val (.int (3 : Int32)), .val (.int (2 : Int32)), .val (.ref en2)] [(.ref en2)])) _
          refine st19 _ ?_
          show Steps p.tables e below (T19.setTop (mkF m 29 #[.val (.ref x), .val .null, .val (.ref b4), .val (.int (3 : Int32)), .val (.int (2 : Int32)), .val (.ref en2)] [(.ref tx2)])) _
          refine XS.aloadN X19.here hx rfl (hb hby own_prog_4_m5_d29) rfl rfl ?_
          exact kt)
      obtain ⟨cq21, kq21, qa21, qb21, qc21⟩ := isOf hZ e19 (T2.1.ext Xt8)
      obtain ⟨_, _, ⟨T21, L21, k21, n21⟩, -, X21, ⟨Lc21, hQ21, l21, y21, z21⟩, st21⟩ := X19.virtualBack hx (y := (⟨"java/lang/String", "equals", "(Ljava/lang/Object;)Z"⟩ : MethodName)) (z := (⟨"java/lang/String", "equals", "(Ljava/lang/Object;)Z"⟩ : MethodName)) hown (mvT hZ (hw _ (List.mem_of_getElem? (i := 108) rfl))) (mvT hZ (hw _ (List.mem_of_getElem? (i := 74) rfl))) (notFace_of_selects (args := #[]) (mvT hZ (hw _ (List.mem_of_getElem? (i := 76) rfl)))) (mvT hZ (hw _ (List.mem_of_getElem? (i := 76) rfl))) (mvT hZ (hw _ (List.mem_of_getElem? (i := 75) rfl))) (by decide) (own_eq (W := 0) hZ (own_wq hw) (hw _ (List.mem_of_getElem? (i := 3) rfl)) (T2.ext Xt8) (by decide) (SX.ext E4) hlen (S_C.ext Xt8) P5 (by decide) (by decide)) qa21 qc21 (g := (mkF m 30 #[.val (.ref x), .val .null, .val (.ref b4), .val (.int (3 : Int32)), .val (.int (2 : Int32)), .val (.ref en2)] [(.ref x), (.ref tx2)])) rfl (by rw [hml]; rfl) (Steps.refl _) (argsL := [(.ref x)]) (rest := []) (lenOf own_pd1 rfl) rfl (by show 2 * 0 + _ ≤ _; exact Nat.le_of_eq rfl) (hb hby own_prog_4_m5_d30) (fun _ _ => ⟨rfl, e19, (by decide : 1 + 0 ≤ _), (by decide : 3 + 0 ≤ _)⟩)
      dsimp only [Pt.U, Pt.locs, Pt.cells, Pt.slots] at X21 l21 y21 z21 st21 hQ21
      subst l21 y21 z21
      obtain ⟨hcase21, rfl, e21⟩ := hQ21
      have Na22 := Fr.app Na17 (Fr.nil n0)
      rcases hcase21 with ⟨rfl, hq21⟩ | ⟨rfl, hq21⟩
      · obtain ⟨fs, hr, hrun, hended, hW, hsame⟩ := X21.leave (v := some (.ref en2)) (fun h => by rw [Bd.returns] at h; cases h)
        refine ⟨_, _, pre0 _ (go20 _ ?_), hrun, hended, _, _, rfl, ?_, ⟨_, rfl⟩, hW, hsame.mono (by decide) (by decide)⟩
        · show Steps p.tables e below (T19.setTop (mkF m 30 #[.val (.ref x), .val .null, .val (.ref b4), .val (.int (3 : Int32)), .val (.int (2 : Int32)), .val (.ref en2)] [(.ref x), (.ref tx2)])) _
          refine st21.trans ?_
          show Steps p.tables e below (T21.setTop (mkF m 33 #[.val (.ref x), .val .null, .val (.ref b4), .val (.int (3 : Int32)), .val (.int (2 : Int32)), .val (.ref en2)] [(.int (1 : Int32))])) _
          refine XS.ifNo X21.here hx rfl (hb hby own_prog_4_m5_d33) rfl ((if0 _ _).trans (feq (by decide)).1) ?_
          show Steps p.tables e below (T21.setTop (mkF m 36 #[.val (.ref x), .val .null, .val (.ref b4), .val (.int (3 : Int32)), .val (.int (2 : Int32)), .val (.ref en2)] [])) _
          refine XS.aload X21.here hx rfl (hb hby own_prog_4_m5_d36) rfl rfl ?_
          show Steps p.tables e below (T21.setTop (mkF m 38 #[.val (.ref x), .val .null, .val (.ref b4), .val (.int (3 : Int32)), .val (.int (2 : Int32)), .val (.ref en2)] [(.ref en2)])) _
          refine XS.astoreN X21.here hx rfl (hb hby own_prog_4_m5_d38) rfl rfl (l' := #[.val (.ref x), .val (.ref en2), .val (.ref b4), .val (.int (3 : Int32)), .val (.int (2 : Int32)), .val (.ref en2)]) rfl ?_
          show Steps p.tables e below (T21.setTop (mkF m 39 #[.val (.ref x), .val (.ref en2), .val (.ref b4), .val (.int (3 : Int32)), .val (.int (2 : Int32)), .val (.ref en2)] [])) _
          refine XS.goto X21.here hx rfl (pc0 := 39) (pc' := 48) rfl (hb hby own_prog_4_m5_d39) (by decide) (by decide) ?_
          show Steps p.tables e below (T21.setTop (mkF m 48 #[.val (.ref x), .val (.ref en2), .val (.ref b4), .val (.int (3 : Int32)), .val (.int (2 : Int32)), .val (.ref en2)] [])) _
          refine XS.aloadN X21.here hx rfl (hb hby own_prog_4_m5_d48) rfl rfl ?_
          show Steps p.tables e below (T21.setTop (mkF m 49 #[.val (.ref x), .val (.ref en2), .val (.ref b4), .val (.int (3 : Int32)), .val (.int (2 : Int32)), .val (.ref en2)] [(.ref en2)])) _
          exact retR X21 hx Bd.returns rfl rfl rfl (hb hby own_prog_4_m5_d49) hr
        · show own_Qnm r h0 n0 _ T21.heap _
          rw [e21]
          have er : r = .ref en2 := hres.symm.trans (by unfold own_nm; rw [if_neg (fun q => hq11 q.symm), if_neg (fun q => hq16 q.symm), if_pos hq21.symm])
          subst er
          exact ⟨rfl, Na22, E4⟩
      · obtain ⟨fs, hr, hrun, hended, hW, hsame⟩ := X21.leave (v := some .null) (fun h => by rw [Bd.returns] at h; cases h)
        refine ⟨_, _, pre0 _ (go20 _ ?_), hrun, hended, _, _, rfl, ?_, ⟨_, rfl⟩, hW, hsame.mono (by decide) (by decide)⟩
        · show Steps p.tables e below (T19.setTop (mkF m 30 #[.val (.ref x), .val .null, .val (.ref b4), .val (.int (3 : Int32)), .val (.int (2 : Int32)), .val (.ref en2)] [(.ref x), (.ref tx2)])) _
          refine st21.trans ?_
          show Steps p.tables e below (T21.setTop (mkF m 33 #[.val (.ref x), .val .null, .val (.ref b4), .val (.int (3 : Int32)), .val (.int (2 : Int32)), .val (.ref en2)] [(.int (0 : Int32))])) _
          refine XS.ifYes X21.here hx rfl (pc0 := 33) (pc' := 42) rfl (hb hby own_prog_4_m5_d33) rfl ((if0 _ _).trans (teq (by decide)).1) (by decide) (by decide) ?_
          show Steps p.tables e below (T21.setTop (mkF m 42 #[.val (.ref x), .val .null, .val (.ref b4), .val (.int (3 : Int32)), .val (.int (2 : Int32)), .val (.ref en2)] [])) _
          refine XS.iinc X21.here hx rfl (hb hby own_prog_4_m5_d42) rfl (l' := #[.val (.ref x), .val .null, .val (.ref b4), .val (.int (3 : Int32)), .val (.int (3 : Int32)), .val (.ref en2)]) rfl ?_
          show Steps p.tables e below (T21.setTop (mkF m 45 #[.val (.ref x), .val .null, .val (.ref b4), .val (.int (3 : Int32)), .val (.int (3 : Int32)), .val (.ref en2)] [])) _
          refine XS.goto X21.here hx rfl (pc0 := 45) (pc' := 12) rfl (hb hby own_prog_4_m5_d45) (by decide) (by decide) ?_
          show Steps p.tables e below (T21.setTop (mkF m 12 #[.val (.ref x), .val .null, .val (.ref b4), .val (.int (3 : Int32)), .val (.int (3 : Int32)), .val (.ref en2)] [])) _
          refine XS.iload X21.here hx rfl (hb hby own_prog_4_m5_d12) rfl ?_
          show Steps p.tables e below (T21.setTop (mkF m 14 #[.val (.ref x), .val .null, .val (.ref b4), .val (.int (3 : Int32)), .val (.int (3 : Int32)), .val (.ref en2)] [(.int (3 : Int32))])) _
          refine XS.iloadN X21.here hx rfl (hb hby own_prog_4_m5_d14) rfl ?_
          show Steps p.tables e below (T21.setTop (mkF m 15 #[.val (.ref x), .val .null, .val (.ref b4), .val (.int (3 : Int32)), .val (.int (3 : Int32)), .val (.ref en2)] [(.int (3 : Int32)), (.int (3 : Int32))])) _
          refine XS.icmpYes X21.here hx rfl (pc0 := 15) (pc' := 48) rfl (hb hby own_prog_4_m5_d15) rfl (flt (by decide)).2.1 (by decide) (by decide) ?_
          show Steps p.tables e below (T21.setTop (mkF m 48 #[.val (.ref x), .val .null, .val (.ref b4), .val (.int (3 : Int32)), .val (.int (3 : Int32)), .val (.ref en2)] [])) _
          refine XS.aloadN X21.here hx rfl (hb hby own_prog_4_m5_d48) rfl rfl ?_
          show Steps p.tables e below (T21.setTop (mkF m 49 #[.val (.ref x), .val .null, .val (.ref b4), .val (.int (3 : Int32)), .val (.int (3 : Int32)), .val (.ref en2)] [.null])) _
          exact retR X21 hx Bd.returns rfl rfl rfl (hb hby own_prog_4_m5_d49) hr
        · show own_Qnm r h0 n0 _ T21.heap _
          rw [e21]
          have er : r = .null := hres.symm.trans (by unfold own_nm; rw [if_neg (fun q => hq11 q.symm), if_neg (fun q => hq16 q.symm), if_neg (fun q => hq21 q.symm)])
          subst er
          exact ⟨rfl, Na22, E4⟩
def own_Qat (h0 : Heap) (n0 : Nat) (v : Option Value) (h : Heap) (L : List Loc) : Prop := ∃ z : Int32, v = some (.int z) ∧ (¬ z < 0 ∧ ¬ (255 : Int32) < z) ∧ Fr n0 L ∧ h = h0
theorem own_ltn {i : Int32} {k n : Nat} (hk : i = Int32.ofNat k) (hk8 : k ≤ 8) (hn : n ≤ 4000) (h : i < Int32.ofNat n) : k < n := by
  subst hk
  rw [Int32.lt_iff_toInt_lt, Int32.toInt_ofNat_of_lt (by omega), Int32.toInt_ofNat_of_lt (by omega)] at h
  omega
theorem own_getr {cs : List Int32} {k : Nat} (hk : k < cs.length) (h : ∀ c ∈ cs, ¬ c < 0 ∧ ¬ (255 : Int32) < c) : ¬ cs.getD k 0 < 0 ∧ ¬ (255 : Int32) < cs.getD k 0 := by
  have e : cs.getD k 0 = cs[k] := by simp [List.getD_eq_getElem?_getD, hk]
  rw [e]
  exact h _ (List.getElem_mem _)
theorem own_at_ef (m : MethodId) (x0 : Addr) (x1 : Int32) (x2 : Int32) (x3 : Int32) : entryFrame m #[(.ref x0), (.int x1), (.int x2), (.int x3)] 4 = mkF m 0 #[.val (.ref x0), .val (.int x1), .val (.int x2), .val (.int x3)] [] := by first | (simp [entryFrame, mkF, argsToLocals, Value.category]; done) | rfl
set_option maxRecDepth 65536 in
set_option maxHeartbeats 40000000 in
theorem own_at (l : Launch) (Z : State) (a0 : Array Value) (hw : ∀ d ∈ tables_1, d.before a0 Z = true) (ws : List Jvm.Cond) (x : Addr) (p1 p2 p3 w2 : Int32) (k : Nat) (bs : List Int32) (fm : Value) (h0 : Heap) (n0 : Nat) (Z0 : n0 ≤ h0.size) (SX : own_Str Z h0 x bs) (hlen : bs.length ≤ 4000) (S_C : Sta Z h0 "java/lang/String" "COMPACT_STRINGS" "Z" (.int w2)) (P5 : ¬ w2 = 0) (S_F : Sta Z h0 "jdk/internal/util/Preconditions" "SIOOBE_FORMATTER" "Ljava/util/function/BiFunction;" fm) (rf : fm.isRef = true) (hk : p1 = Int32.ofNat k) (hk8 : k ≤ 8) (hp3 : ¬ p3 < 0 ∧ ¬ (255 : Int32) < p3) :
    MetFree l (⟨"com/example/spatial_at_rest/spatialatrest/InterpolationNamedPinLaw", "at", "(Ljava/lang/String;IIC)C"⟩ : MethodName) (head1 (Jvm.Cond.code (⟨"com/example/spatial_at_rest/spatialatrest/InterpolationNamedPinLaw", "at", "(Ljava/lang/String;IIC)C"⟩ : MethodName) method_3_code 4 (some .char) :: ws) ({ frames := 4, cells := 0, slots := 0, locals := 53 } : Room)) (fun a U => a = #[(.ref x), (.int p1), (.int p2), (.int p3)] ∧ Z.Warmed39 U.vm ∧ U.heap = h0) (fun _ _ _ _ _ => True) (fun _ U o U' => ∃ v L, o = .returned v ∧ own_Qat h0 n0 v U'.heap L ∧ FrameEnd U o U' L ({ frames := 4, cells := 0, slots := 0, locals := 53 } : Room).cells ({ frames := 4, cells := 0, slots := 0, locals := 53 } : Room).slots) := by
  refine MetFree.of_bodySF (plainFor_of_name own_pn) hisR ?_
  intro p e s m args below meth c s₁ Bd hml0 hP hK
  obtain ⟨rfl, hZ, hh⟩ := hP
  have hx := Bd.exec
  have hby := Bd.bytes
  have hml : c.maxLocals = 4 := hml0
  have hown : s.vm.findClass "com/example/spatial_at_rest/spatialatrest/InterpolationNamedPinLaw" = some m.cls := findClass_of_methodNamed Bd.named
  have hnm := (name_of_methodNamed Bd.named Bd.method).1
  have X0 : Stand p l e ({ frames := 4, cells := 0, slots := 0, locals := 53 } : Room) s m #[(.ref x), (.int p1), (.int p2), (.int p3)] below meth c s₁ [] 0 0 := Stand.of_body Bd
  have e0 : s₁.heap = h0 := by rw [← hh, Bd.state]; rfl
  have N0 := Fr.nil n0
  have pre0 : ∀ t, Steps p.tables e below (s₁.setTop (mkF m 0 #[.val (.ref x), .val (.int p1), .val (.int p2), .val (.int p3)] [])) t → Steps p.tables e below (s₁.setTop (entryFrame m #[(.ref x), (.int p1), (.int p2), (.int p3)] 4)) t := fun t k => castTop (own_at_ef m x p1 p2 p3) k
  have go23 : ∀ t, Steps p.tables e below (s₁.setTop (mkF m 2 #[.val (.ref x), .val (.int p1), .val (.int p2), .val (.int p3)] [(.int p2), (.int p1)])) t → Steps p.tables e below (s₁.setTop (mkF m 0 #[.val (.ref x), .val (.int p1), .val (.int p2), .val (.int p3)] [])) t := fun t kt => (by
      show Steps p.tables e below (s₁.setTop (mkF m 0 #[.val (.ref x), .val (.int p1), .val (.int p2), .val (.int p3)] [])) _
      refine XS.iloadN X0.here hx rfl (hb hby own_method_3_d0) rfl ?_
      show Steps p.tables e below (s₁.setTop (mkF m 1 #[.val (.ref x), .val (.int p1), .val (.int p2), .val (.int p3)] [(.int p1)])) _
      refine XS.iloadN X0.here hx rfl (hb hby own_method_3_d1) rfl ?_
      exact kt)
  by_cases q1 : p1 = p2
  · obtain ⟨fs, hr, hrun, hended, hW, hsame⟩ := X0.leave (v := some (.int (nar .char p3))) (fun h => by rw [Bd.returns] at h; cases h)
    refine ⟨_, _, pre0 _ (go23 _ ?_), hrun, hended, _, _, rfl, ?_, ⟨_, rfl⟩, hW, hsame.mono (by decide) (by decide)⟩
    · show Steps p.tables e below (s₁.setTop (mkF m 2 #[.val (.ref x), .val (.int p1), .val (.int p2), .val (.int p3)] [(.int p2), (.int p1)])) _
      refine XS.icmpNo X0.here hx rfl (hb hby own_method_3_d2) rfl (teq q1).2 ?_
      show Steps p.tables e below (s₁.setTop (mkF m 5 #[.val (.ref x), .val (.int p1), .val (.int p2), .val (.int p3)] [])) _
      refine XS.iloadN X0.here hx rfl (hb hby own_method_3_d5) rfl ?_
      show Steps p.tables e below (s₁.setTop (mkF m 6 #[.val (.ref x), .val (.int p1), .val (.int p2), .val (.int p3)] [(.int p3)])) _
      exact retN X0 hx (t := .char) Bd.returns (by simp) (hb hby own_method_3_d6) hr
    · show own_Qat h0 n0 _ s₁.heap _
      rw [e0]
      exact ⟨_, rfl, by rw [own_nar hp3]; exact hp3, N0, rfl⟩
  · obtain ⟨cq24, kq24, qa24, qb24, qc24⟩ := isOf hZ e0 SX.1
    obtain ⟨_, _, ⟨T24, L24, k24, n24⟩, -, X24, ⟨Lc24, hQ24, l24, y24, z24⟩, st24⟩ := X0.virtualBack hx (y := (⟨"java/lang/String", "length", "()I"⟩ : MethodName)) (z := (⟨"java/lang/String", "length", "()I"⟩ : MethodName)) hown (mvT hZ (hw _ (List.mem_of_getElem? (i := 9) rfl))) (mvT hZ (hw _ (List.mem_of_getElem? (i := 10) rfl))) (notFace_of_selects (args := #[]) (mvT hZ (hw _ (List.mem_of_getElem? (i := 12) rfl)))) (mvT hZ (hw _ (List.mem_of_getElem? (i := 12) rfl))) (mvT hZ (hw _ (List.mem_of_getElem? (i := 11) rfl))) (by decide) (own_lenP (W := 1) hZ (own_wl hw) (hw _ (List.mem_of_getElem? (i := 3) rfl)) SX hlen S_C P5 (by decide) (by decide)) qa24 qc24 (g := (mkF m 9 #[.val (.ref x), .val (.int p1), .val (.int p2), .val (.int p3)] [(.ref x), (.int p1)])) rfl (by rw [hml]; rfl) (Steps.refl _) (argsL := []) (rest := [(.int p1)]) (lenOf own_pd2 rfl) rfl (by show 2 * 0 + _ ≤ _; exact Nat.le_of_eq rfl) (hb hby own_method_3_d9) (fun _ _ => ⟨rfl, e0, (by decide : 0 + 0 ≤ _), (by decide : 0 + 0 ≤ _)⟩)
    dsimp only [Pt.U, Pt.locs, Pt.cells, Pt.slots] at X24 l24 y24 z24 st24 hQ24
    subst l24 y24 z24
    obtain ⟨rfl, rfl, e24⟩ := hQ24
    have Na25 := Fr.app N0 (Fr.nil n0)
    have go26 : ∀ t, Steps p.tables e below (T24.setTop (mkF m 12 #[.val (.ref x), .val (.int p1), .val (.int p2), .val (.int p3)] [(.int (Int32.ofNat bs.length)), (.int p1)])) t → Steps p.tables e below (s₁.setTop (mkF m 0 #[.val (.ref x), .val (.int p1), .val (.int p2), .val (.int p3)] [])) t := fun t kt => go23 t (by
        show Steps p.tables e below (s₁.setTop (mkF m 2 #[.val (.ref x), .val (.int p1), .val (.int p2), .val (.int p3)] [(.int p2), (.int p1)])) _
        refine XS.icmpYes X0.here hx rfl (pc0 := 2) (pc' := 7) rfl (hb hby own_method_3_d2) rfl (feq q1).2 (by decide) (by decide) ?_
        show Steps p.tables e below (s₁.setTop (mkF m 7 #[.val (.ref x), .val (.int p1), .val (.int p2), .val (.int p3)] [])) _
        refine XS.iloadN X0.here hx rfl (hb hby own_method_3_d7) rfl ?_
        show Steps p.tables e below (s₁.setTop (mkF m 8 #[.val (.ref x), .val (.int p1), .val (.int p2), .val (.int p3)] [(.int p1)])) _
        refine XS.aloadN X0.here hx rfl (hb hby own_method_3_d8) rfl rfl ?_
        show Steps p.tables e below (s₁.setTop (mkF m 9 #[.val (.ref x), .val (.int p1), .val (.int p2), .val (.int p3)] [(.ref x), (.int p1)])) _
        refine st24.trans ?_
        exact kt)
    by_cases q2 : p1 < (Int32.ofNat bs.length)
    · obtain ⟨cq27, kq27, qa27, qb27, qc27⟩ := isOf hZ e24 SX.1
      obtain ⟨_, _, ⟨T27, L27, k27, n27⟩, -, X27, ⟨Lc27, hQ27, l27, y27, z27⟩, st27⟩ := X24.virtualBack hx (y := (⟨"java/lang/String", "charAt", "(I)C"⟩ : MethodName)) (z := (⟨"java/lang/String", "charAt", "(I)C"⟩ : MethodName)) hown (mvT hZ (hw _ (List.mem_of_getElem? (i := 29) rfl))) (mvT hZ (hw _ (List.mem_of_getElem? (i := 30) rfl))) (notFace_of_selects (args := #[]) (mvT hZ (hw _ (List.mem_of_getElem? (i := 32) rfl)))) (mvT hZ (hw _ (List.mem_of_getElem? (i := 32) rfl))) (mvT hZ (hw _ (List.mem_of_getElem? (i := 31) rfl))) (by decide) (own_chP (W := 0) hZ (own_wc hw) (hw _ (List.mem_of_getElem? (i := 3) rfl)) (i := k) (j := p1) SX hlen S_C P5 S_F rf (own_ltn hk hk8 hlen q2) hk (by decide) (by decide)) qa27 qc27 (g := (mkF m 17 #[.val (.ref x), .val (.int p1), .val (.int p2), .val (.int p3)] [(.int p1), (.ref x)])) rfl (by rw [hml]; rfl) (Steps.refl _) (argsL := [(.int p1)]) (rest := []) (lenOf own_pd3 rfl) rfl (by show 2 * 0 + _ ≤ _; exact Nat.le_of_eq rfl) (hb hby own_method_3_d17) (fun _ _ => ⟨rfl, e24, (by decide : 0 + 0 ≤ _), (by decide : 0 + 0 ≤ _)⟩)
      dsimp only [Pt.U, Pt.locs, Pt.cells, Pt.slots] at X27 l27 y27 z27 st27 hQ27
      subst l27 y27 z27
      obtain ⟨rfl, rfl, e27⟩ := hQ27
      have Na28 := Fr.app Na25 (Fr.nil n0)
      obtain ⟨fs, hr, hrun, hended, hW, hsame⟩ := X27.leave (v := some (.int (nar .char (bs.getD k 0)))) (fun h => by rw [Bd.returns] at h; cases h)
      refine ⟨_, _, pre0 _ (go26 _ ?_), hrun, hended, _, _, rfl, ?_, ⟨_, rfl⟩, hW, hsame.mono (by decide) (by decide)⟩
      · show Steps p.tables e below (T24.setTop (mkF m 12 #[.val (.ref x), .val (.int p1), .val (.int p2), .val (.int p3)] [(.int (Int32.ofNat bs.length)), (.int p1)])) _
        refine XS.icmpNo X24.here hx rfl (hb hby own_method_3_d12) rfl (tlt q2).2.1 ?_
        show Steps p.tables e below (T24.setTop (mkF m 15 #[.val (.ref x), .val (.int p1), .val (.int p2), .val (.int p3)] [])) _
        refine XS.aloadN X24.here hx rfl (hb hby own_method_3_d15) rfl rfl ?_
        show Steps p.tables e below (T24.setTop (mkF m 16 #[.val (.ref x), .val (.int p1), .val (.int p2), .val (.int p3)] [(.ref x)])) _
        refine XS.iloadN X24.here hx rfl (hb hby own_method_3_d16) rfl ?_
        show Steps p.tables e below (T24.setTop (mkF m 17 #[.val (.ref x), .val (.int p1), .val (.int p2), .val (.int p3)] [(.int p1), (.ref x)])) _
        refine st27.trans ?_
        show Steps p.tables e below (T27.setTop (mkF m 20 #[.val (.ref x), .val (.int p1), .val (.int p2), .val (.int p3)] [(.int (bs.getD k 0))])) _
        exact retN X27 hx (t := .char) Bd.returns (by simp) (hb hby own_method_3_d20) hr
      · show own_Qat h0 n0 _ T27.heap _
        rw [e27]
        exact ⟨_, rfl, by rw [own_nar (own_getr (own_ltn hk hk8 hlen q2) SX.2.1)]; exact own_getr (own_ltn hk hk8 hlen q2) SX.2.1, Na28, rfl⟩
    · obtain ⟨fs, hr, hrun, hended, hW, hsame⟩ := X24.leave (v := some (.int (nar .char p3))) (fun h => by rw [Bd.returns] at h; cases h)
      refine ⟨_, _, pre0 _ (go26 _ ?_), hrun, hended, _, _, rfl, ?_, ⟨_, rfl⟩, hW, hsame.mono (by decide) (by decide)⟩
      · show Steps p.tables e below (T24.setTop (mkF m 12 #[.val (.ref x), .val (.int p1), .val (.int p2), .val (.int p3)] [(.int (Int32.ofNat bs.length)), (.int p1)])) _
        refine XS.icmpYes X24.here hx rfl (pc0 := 12) (pc' := 21) rfl (hb hby own_method_3_d12) rfl (flt q2).2.1 (by decide) (by decide) ?_
        show Steps p.tables e below (T24.setTop (mkF m 21 #[.val (.ref x), .val (.int p1), .val (.int p2), .val (.int p3)] [])) _
        refine XS.iloadN X24.here hx rfl (hb hby own_method_3_d21) rfl ?_
        show Steps p.tables e below (T24.setTop (mkF m 22 #[.val (.ref x), .val (.int p1), .val (.int p2), .val (.int p3)] [(.int p3)])) _
        exact retN X24 hx (t := .char) Bd.returns (by simp) (hb hby own_method_3_d22) hr
      · show own_Qat h0 n0 _ T24.heap _
        rw [e24]
        exact ⟨_, rfl, by rw [own_nar hp3]; exact hp3, Na25, rfl⟩
def own_Qmk (Z : State) (h0 : Heap) (n0 : Nat) (v : Option Value) (h : Heap) (L : List Loc) : Prop := ∃ (b : Addr) (ds : List Int32), v = some (.ref b) ∧ Fr n0 L ∧ Ext h0 h ∧ own_Str Z h b ds ∧ ds.length ≤ 4000
theorem own_mk_ef (m : MethodId) (x0 : Addr) (x1 : Int32) (x2 : Int32) (x3 : Int32) : entryFrame m #[(.ref x0), (.int x1), (.int x2), (.int x3)] 13 = mkF m 0 #[.val (.ref x0), .val (.int x1), .val (.int x2), .val (.int x3), .unset, .unset, .unset, .unset, .unset, .unset, .unset, .unset, .unset] [] := by first | (simp [entryFrame, mkF, argsToLocals, Value.category]; done) | rfl
set_option maxRecDepth 65536 in
set_option maxHeartbeats 40000000 in
theorem own_mk (l : Launch) (Z : State) (a0 : Array Value) (hw : ∀ d ∈ tables_1, d.before a0 Z = true) (ws : List Jvm.Cond) (x : Addr) (p1 p2 p3 w2 : Int32) (bs : List Int32) (fm : Value) (h0 : Heap) (n0 : Nat) (Z0 : n0 ≤ h0.size) (SX : own_Str Z h0 x bs) (hlen : bs.length ≤ 4000) (S_C : Sta Z h0 "java/lang/String" "COMPACT_STRINGS" "Z" (.int w2)) (P5 : ¬ w2 = 0) (S_F : Sta Z h0 "jdk/internal/util/Preconditions" "SIOOBE_FORMATTER" "Ljava/util/function/BiFunction;" fm) (rf : fm.isRef = true) (hp3 : ¬ p3 < 0 ∧ ¬ (255 : Int32) < p3) :
    MetFree l (⟨"com/example/spatial_at_rest/spatialatrest/InterpolationNamedPinLaw", "make", "(Ljava/lang/String;IIC)Ljava/lang/String;"⟩ : MethodName) (head1 (Jvm.Cond.code (⟨"com/example/spatial_at_rest/spatialatrest/InterpolationNamedPinLaw", "make", "(Ljava/lang/String;IIC)Ljava/lang/String;"⟩ : MethodName) method_4_code 13 (some (.object "java/lang/String")) :: ws) ({ frames := 5, cells := 3, slots := 22, locals := 68 } : Room)) (fun a U => a = #[(.ref x), (.int p1), (.int p2), (.int p3)] ∧ Z.Warmed39 U.vm ∧ U.heap = h0) (fun _ _ _ _ _ => True) (fun _ U o U' => ∃ v L, o = .returned v ∧ own_Qmk Z h0 n0 v U'.heap L ∧ FrameEnd U o U' L ({ frames := 5, cells := 3, slots := 22, locals := 68 } : Room).cells ({ frames := 5, cells := 3, slots := 22, locals := 68 } : Room).slots) := by
  refine MetFree.of_bodySF (plainFor_of_name own_pn) hisR ?_
  intro p e s m args below meth c s₁ Bd hml0 hP hK
  obtain ⟨rfl, hZ, hh⟩ := hP
  have hx := Bd.exec
  have hby := Bd.bytes
  have hml : c.maxLocals = 13 := hml0
  have hown : s.vm.findClass "com/example/spatial_at_rest/spatialatrest/InterpolationNamedPinLaw" = some m.cls := findClass_of_methodNamed Bd.named
  have hnm := (name_of_methodNamed Bd.named Bd.method).1
  have X0 : Stand p l e ({ frames := 5, cells := 3, slots := 22, locals := 68 } : Room) s m #[(.ref x), (.int p1), (.int p2), (.int p3)] below meth c s₁ [] 0 0 := Stand.of_body Bd
  have e0 : s₁.heap = h0 := by rw [← hh, Bd.state]; rfl
  have N0 := Fr.nil n0
  have pre0 : ∀ t, Steps p.tables e below (s₁.setTop (mkF m 0 #[.val (.ref x), .val (.int p1), .val (.int p2), .val (.int p3), .unset, .unset, .unset, .unset, .unset, .unset, .unset, .unset, .unset] [])) t → Steps p.tables e below (s₁.setTop (entryFrame m #[(.ref x), (.int p1), (.int p2), (.int p3)] 13)) t := fun t k => castTop (own_mk_ef m x p1 p2 p3) k
  obtain ⟨_, _, ⟨T29, L29, k29, n29⟩, -, X29, ⟨Lc29, hQ29, l29, y29, z29⟩, st29⟩ := Jvm.LawKit.callS X0 hx (y := (⟨"com/example/spatial_at_rest/spatialatrest/InterpolationNamedPinLaw", "at", "(Ljava/lang/String;IIC)C"⟩ : MethodName)) hown (mvT hZ (hw _ (List.mem_of_getElem? (i := 26) rfl))) (mvT hZ (hw _ (List.mem_of_getElem? (i := 27) rfl))) (mvT hZ (hw _ (List.mem_of_getElem? (i := 24) rfl))) (mvT hZ (hw _ (List.mem_of_getElem? (i := 28) rfl))) (by decide) (backOf (W := 0) (own_at l Z a0 hw [] x (0 : Int32) p2 p3 w2 0 bs fm h0 n0 Z0 SX hlen S_C P5 S_F rf rfl (by decide) hp3) hZ (hw _ (List.mem_of_getElem? (i := 28) rfl)) (hw _ (List.mem_of_getElem? (i := 24) rfl)) (by decide) (by decide)) (g := (mkF m 4 #[.val (.ref x), .val (.int p1), .val (.int p2), .val (.int p3), .unset, .unset, .unset, .unset, .unset, .unset, .unset, .unset, .unset] [(.int p3), (.int p2), (.int (0 : Int32)), (.ref x)])) rfl (by rw [hml]; rfl) (argsL := [(.ref x), (.int (0 : Int32)), (.int p2), (.int p3)]) (rest := []) (lenOf own_pd4 rfl) rfl (by show 2 * 0 + _ ≤ _; exact Nat.le_of_eq rfl) (hb hby own_method_4_d4) (fun _ _ => ⟨rfl, e0, (by decide : 0 + 0 ≤ _), (by decide : 0 + 0 ≤ _)⟩)
  dsimp only [Pt.U, Pt.locs, Pt.cells, Pt.slots] at X29 l29 y29 z29 st29 hQ29
  subst l29 y29 z29
  obtain ⟨z29, rfl, hz29, Nq29, e29⟩ := hQ29
  have Na30 := Fr.app N0 Nq29
  obtain ⟨_, _, ⟨T31, L31, k31, n31⟩, -, X31, ⟨Lc31, hQ31, l31, y31, z31⟩, st31⟩ := Jvm.LawKit.callS X29 hx (y := (⟨"com/example/spatial_at_rest/spatialatrest/InterpolationNamedPinLaw", "at", "(Ljava/lang/String;IIC)C"⟩ : MethodName)) hown (mvT hZ (hw _ (List.mem_of_getElem? (i := 26) rfl))) (mvT hZ (hw _ (List.mem_of_getElem? (i := 27) rfl))) (mvT hZ (hw _ (List.mem_of_getElem? (i := 24) rfl))) (mvT hZ (hw _ (List.mem_of_getElem? (i := 28) rfl))) (by decide) (backOf (W := 0) (own_at l Z a0 hw [] x (1 : Int32) p2 p3 w2 1 bs fm h0 n0 Z0 SX hlen S_C P5 S_F rf rfl (by decide) hp3) hZ (hw _ (List.mem_of_getElem? (i := 28) rfl)) (hw _ (List.mem_of_getElem? (i := 24) rfl)) (by decide) (by decide)) (g := (mkF m 13 #[.val (.ref x), .val (.int p1), .val (.int p2), .val (.int p3), .val (.int z29), .unset, .unset, .unset, .unset, .unset, .unset, .unset, .unset] [(.int p3), (.int p2), (.int (1 : Int32)), (.ref x)])) rfl (by rw [hml]; rfl) (argsL := [(.ref x), (.int (1 : Int32)), (.int p2), (.int p3)]) (rest := []) (lenOf own_pd4 rfl) rfl (by show 2 * 0 + _ ≤ _; exact Nat.le_of_eq rfl) (hb hby own_method_4_d13) (fun _ _ => ⟨rfl, e29, (by decide : 0 + 0 ≤ _), (by decide : 0 + 0 ≤ _)⟩)
  dsimp only [Pt.U, Pt.locs, Pt.cells, Pt.slots] at X31 l31 y31 z31 st31 hQ31
  subst l31 y31 z31
  obtain ⟨z31, rfl, hz31, Nq31, e31⟩ := hQ31
  have Na32 := Fr.app Na30 Nq31
  obtain ⟨_, _, ⟨T33, L33, k33, n33⟩, -, X33, ⟨Lc33, hQ33, l33, y33, z33⟩, st33⟩ := Jvm.LawKit.callS X31 hx (y := (⟨"com/example/spatial_at_rest/spatialatrest/InterpolationNamedPinLaw", "at", "(Ljava/lang/String;IIC)C"⟩ : MethodName)) hown (mvT hZ (hw _ (List.mem_of_getElem? (i := 26) rfl))) (mvT hZ (hw _ (List.mem_of_getElem? (i := 27) rfl))) (mvT hZ (hw _ (List.mem_of_getElem? (i := 24) rfl))) (mvT hZ (hw _ (List.mem_of_getElem? (i := 28) rfl))) (by decide) (backOf (W := 0) (own_at l Z a0 hw [] x (2 : Int32) p2 p3 w2 2 bs fm h0 n0 Z0 SX hlen S_C P5 S_F rf rfl (by decide) hp3) hZ (hw _ (List.mem_of_getElem? (i := 28) rfl)) (hw _ (List.mem_of_getElem? (i := 24) rfl)) (by decide) (by decide)) (g := (mkF m 22 #[.val (.ref x), .val (.int p1), .val (.int p2), .val (.int p3), .val (.int z29), .val (.int z31), .unset, .unset, .unset, .unset, .unset, .unset, .unset] [(.int p3), (.int p2), (.int (2 : Int32)), (.ref x)])) rfl (by rw [hml]; rfl) (argsL := [(.ref x), (.int (2 : Int32)), (.int p2), (.int p3)]) (rest := []) (lenOf own_pd4 rfl) rfl (by show 2 * 0 + _ ≤ _; exact Nat.le_of_eq rfl) (hb hby own_method_4_d22) (fun _ _ => ⟨rfl, e31, (by decide : 0 + 0 ≤ _), (by decide : 0 + 0 ≤ _)⟩)
  dsimp only [Pt.U, Pt.locs, Pt.cells, Pt.slots] at X33 l33 y33 z33 st33 hQ33
  subst l33 y33 z33
  obtain ⟨z33, rfl, hz33, Nq33, e33⟩ := hQ33
  have Na34 := Fr.app Na32 Nq33
  obtain ⟨_, _, ⟨T35, L35, k35, n35⟩, -, X35, ⟨Lc35, hQ35, l35, y35, z35⟩, st35⟩ := Jvm.LawKit.callS X33 hx (y := (⟨"com/example/spatial_at_rest/spatialatrest/InterpolationNamedPinLaw", "at", "(Ljava/lang/String;IIC)C"⟩ : MethodName)) hown (mvT hZ (hw _ (List.mem_of_getElem? (i := 26) rfl))) (mvT hZ (hw _ (List.mem_of_getElem? (i := 27) rfl))) (mvT hZ (hw _ (List.mem_of_getElem? (i := 24) rfl))) (mvT hZ (hw _ (List.mem_of_getElem? (i := 28) rfl))) (by decide) (backOf (W := 0) (own_at l Z a0 hw [] x (3 : Int32) p2 p3 w2 3 bs fm h0 n0 Z0 SX hlen S_C P5 S_F rf rfl (by decide) hp3) hZ (hw _ (List.mem_of_getElem? (i := 28) rfl)) (hw _ (List.mem_of_getElem? (i := 24) rfl)) (by decide) (by decide)) (g := (mkF m 31 #[.val (.ref x), .val (.int p1), .val (.int p2), .val (.int p3), .val (.int z29), .val (.int z31), .val (.int z33), .unset, .unset, .unset, .unset, .unset, .unset] [(.int p3), (.int p2), (.int (3 : Int32)), (.ref x)])) rfl (by rw [hml]; rfl) (argsL := [(.ref x), (.int (3 : Int32)), (.int p2), (.int p3)]) (rest := []) (lenOf own_pd4 rfl) rfl (by show 2 * 0 + _ ≤ _; exact Nat.le_of_eq rfl) (hb hby own_method_4_d31) (fun _ _ => ⟨rfl, e33, (by decide : 0 + 0 ≤ _), (by decide : 0 + 0 ≤ _)⟩)
  dsimp only [Pt.U, Pt.locs, Pt.cells, Pt.slots] at X35 l35 y35 z35 st35 hQ35
  subst l35 y35 z35
  obtain ⟨z35, rfl, hz35, Nq35, e35⟩ := hQ35
  have Na36 := Fr.app Na34 Nq35
  obtain ⟨_, _, ⟨T37, L37, k37, n37⟩, -, X37, ⟨Lc37, hQ37, l37, y37, z37⟩, st37⟩ := Jvm.LawKit.callS X35 hx (y := (⟨"com/example/spatial_at_rest/spatialatrest/InterpolationNamedPinLaw", "at", "(Ljava/lang/String;IIC)C"⟩ : MethodName)) hown (mvT hZ (hw _ (List.mem_of_getElem? (i := 26) rfl))) (mvT hZ (hw _ (List.mem_of_getElem? (i := 27) rfl))) (mvT hZ (hw _ (List.mem_of_getElem? (i := 24) rfl))) (mvT hZ (hw _ (List.mem_of_getElem? (i := 28) rfl))) (by decide) (backOf (W := 0) (own_at l Z a0 hw [] x (4 : Int32) p2 p3 w2 4 bs fm h0 n0 Z0 SX hlen S_C P5 S_F rf rfl (by decide) hp3) hZ (hw _ (List.mem_of_getElem? (i := 28) rfl)) (hw _ (List.mem_of_getElem? (i := 24) rfl)) (by decide) (by decide)) (g := (mkF m 40 #[.val (.ref x), .val (.int p1), .val (.int p2), .val (.int p3), .val (.int z29), .val (.int z31), .val (.int z33), .val (.int z35), .unset, .unset, .unset, .unset, .unset] [(.int p3), (.int p2), (.int (4 : Int32)), (.ref x)])) rfl (by rw [hml]; rfl) (argsL := [(.ref x), (.int (4 : Int32)), (.int p2), (.int p3)]) (rest := []) (lenOf own_pd4 rfl) rfl (by show 2 * 0 + _ ≤ _; exact Nat.le_of_eq rfl) (hb hby own_method_4_d40) (fun _ _ => ⟨rfl, e35, (by decide : 0 + 0 ≤ _), (by decide : 0 + 0 ≤ _)⟩)
  dsimp only [Pt.U, Pt.locs, Pt.cells, Pt.slots] at X37 l37 y37 z37 st37 hQ37
  subst l37 y37 z37
  obtain ⟨z37, rfl, hz37, Nq37, e37⟩ := hQ37
  have Na38 := Fr.app Na36 Nq37
  obtain ⟨_, _, ⟨T39, L39, k39, n39⟩, -, X39, ⟨Lc39, hQ39, l39, y39, z39⟩, st39⟩ := Jvm.LawKit.callS X37 hx (y := (⟨"com/example/spatial_at_rest/spatialatrest/InterpolationNamedPinLaw", "at", "(Ljava/lang/String;IIC)C"⟩ : MethodName)) hown (mvT hZ (hw _ (List.mem_of_getElem? (i := 26) rfl))) (mvT hZ (hw _ (List.mem_of_getElem? (i := 27) rfl))) (mvT hZ (hw _ (List.mem_of_getElem? (i := 24) rfl))) (mvT hZ (hw _ (List.mem_of_getElem? (i := 28) rfl))) (by decide) (backOf (W := 0) (own_at l Z a0 hw [] x (5 : Int32) p2 p3 w2 5 bs fm h0 n0 Z0 SX hlen S_C P5 S_F rf rfl (by decide) hp3) hZ (hw _ (List.mem_of_getElem? (i := 28) rfl)) (hw _ (List.mem_of_getElem? (i := 24) rfl)) (by decide) (by decide)) (g := (mkF m 49 #[.val (.ref x), .val (.int p1), .val (.int p2), .val (.int p3), .val (.int z29), .val (.int z31), .val (.int z33), .val (.int z35), .val (.int z37), .unset, .unset, .unset, .unset] [(.int p3), (.int p2), (.int (5 : Int32)), (.ref x)])) rfl (by rw [hml]; rfl) (argsL := [(.ref x), (.int (5 : Int32)), (.int p2), (.int p3)]) (rest := []) (lenOf own_pd4 rfl) rfl (by show 2 * 0 + _ ≤ _; exact Nat.le_of_eq rfl) (hb hby own_method_4_d49) (fun _ _ => ⟨rfl, e37, (by decide : 0 + 0 ≤ _), (by decide : 0 + 0 ≤ _)⟩)
  dsimp only [Pt.U, Pt.locs, Pt.cells, Pt.slots] at X39 l39 y39 z39 st39 hQ39
  subst l39 y39 z39
  obtain ⟨z39, rfl, hz39, Nq39, e39⟩ := hQ39
  have Na40 := Fr.app Na38 Nq39
  obtain ⟨_, _, ⟨T41, L41, k41, n41⟩, -, X41, ⟨Lc41, hQ41, l41, y41, z41⟩, st41⟩ := Jvm.LawKit.callS X39 hx (y := (⟨"com/example/spatial_at_rest/spatialatrest/InterpolationNamedPinLaw", "at", "(Ljava/lang/String;IIC)C"⟩ : MethodName)) hown (mvT hZ (hw _ (List.mem_of_getElem? (i := 26) rfl))) (mvT hZ (hw _ (List.mem_of_getElem? (i := 27) rfl))) (mvT hZ (hw _ (List.mem_of_getElem? (i := 24) rfl))) (mvT hZ (hw _ (List.mem_of_getElem? (i := 28) rfl))) (by decide) (backOf (W := 0) (own_at l Z a0 hw [] x (6 : Int32) p2 p3 w2 6 bs fm h0 n0 Z0 SX hlen S_C P5 S_F rf rfl (by decide) hp3) hZ (hw _ (List.mem_of_getElem? (i := 28) rfl)) (hw _ (List.mem_of_getElem? (i := 24) rfl)) (by decide) (by decide)) (g := (mkF m 59 #[.val (.ref x), .val (.int p1), .val (.int p2), .val (.int p3), .val (.int z29), .val (.int z31), .val (.int z33), .val (.int z35), .val (.int z37), .val (.int z39), .unset, .unset, .unset] [(.int p3), (.int p2), (.int (6 : Int32)), (.ref x)])) rfl (by rw [hml]; rfl) (argsL := [(.ref x), (.int (6 : Int32)), (.int p2), (.int p3)]) (rest := []) (lenOf own_pd4 rfl) rfl (by show 2 * 0 + _ ≤ _; exact Nat.le_of_eq rfl) (hb hby own_method_4_d59) (fun _ _ => ⟨rfl, e39, (by decide : 0 + 0 ≤ _), (by decide : 0 + 0 ≤ _)⟩)
  dsimp only [Pt.U, Pt.locs, Pt.cells, Pt.slots] at X41 l41 y41 z41 st41 hQ41
  subst l41 y41 z41
  obtain ⟨z41, rfl, hz41, Nq41, e41⟩ := hQ41
  have Na42 := Fr.app Na40 Nq41
  obtain ⟨_, _, ⟨T43, L43, k43, n43⟩, -, X43, ⟨Lc43, hQ43, l43, y43, z43⟩, st43⟩ := Jvm.LawKit.callS X41 hx (y := (⟨"com/example/spatial_at_rest/spatialatrest/InterpolationNamedPinLaw", "at", "(Ljava/lang/String;IIC)C"⟩ : MethodName)) hown (mvT hZ (hw _ (List.mem_of_getElem? (i := 26) rfl))) (mvT hZ (hw _ (List.mem_of_getElem? (i := 27) rfl))) (mvT hZ (hw _ (List.mem_of_getElem? (i := 24) rfl))) (mvT hZ (hw _ (List.mem_of_getElem? (i := 28) rfl))) (by decide) (backOf (W := 0) (own_at l Z a0 hw [] x (7 : Int32) p2 p3 w2 7 bs fm h0 n0 Z0 SX hlen S_C P5 S_F rf rfl (by decide) hp3) hZ (hw _ (List.mem_of_getElem? (i := 28) rfl)) (hw _ (List.mem_of_getElem? (i := 24) rfl)) (by decide) (by decide)) (g := (mkF m 69 #[.val (.ref x), .val (.int p1), .val (.int p2), .val (.int p3), .val (.int z29), .val (.int z31), .val (.int z33), .val (.int z35), .val (.int z37), .val (.int z39), .val (.int z41), .unset, .unset] [(.int p3), (.int p2), (.int (7 : Int32)), (.ref x)])) rfl (by rw [hml]; rfl) (argsL := [(.ref x), (.int (7 : Int32)), (.int p2), (.int p3)]) (rest := []) (lenOf own_pd4 rfl) rfl (by show 2 * 0 + _ ≤ _; exact Nat.le_of_eq rfl) (hb hby own_method_4_d69) (fun _ _ => ⟨rfl, e41, (by decide : 0 + 0 ≤ _), (by decide : 0 + 0 ≤ _)⟩)
  dsimp only [Pt.U, Pt.locs, Pt.cells, Pt.slots] at X43 l43 y43 z43 st43 hQ43
  subst l43 y43 z43
  obtain ⟨z43, rfl, hz43, Nq43, e43⟩ := hQ43
  have Na44 := Fr.app Na42 Nq43
  obtain ⟨_, _, ⟨T45, L45, k45, n45⟩, -, X45, ⟨Lc45, hQ45, l45, y45, z45⟩, st45⟩ := Jvm.LawKit.callS X43 hx (y := (⟨"com/example/spatial_at_rest/spatialatrest/InterpolationNamedPinLaw", "at", "(Ljava/lang/String;IIC)C"⟩ : MethodName)) hown (mvT hZ (hw _ (List.mem_of_getElem? (i := 26) rfl))) (mvT hZ (hw _ (List.mem_of_getElem? (i := 27) rfl))) (mvT hZ (hw _ (List.mem_of_getElem? (i := 24) rfl))) (mvT hZ (hw _ (List.mem_of_getElem? (i := 28) rfl))) (by decide) (backOf (W := 0) (own_at l Z a0 hw [] x (8 : Int32) p2 p3 w2 8 bs fm h0 n0 Z0 SX hlen S_C P5 S_F rf rfl (by decide) hp3) hZ (hw _ (List.mem_of_getElem? (i := 28) rfl)) (hw _ (List.mem_of_getElem? (i := 24) rfl)) (by decide) (by decide)) (g := (mkF m 79 #[.val (.ref x), .val (.int p1), .val (.int p2), .val (.int p3), .val (.int z29), .val (.int z31), .val (.int z33), .val (.int z35), .val (.int z37), .val (.int z39), .val (.int z41), .val (.int z43), .unset] [(.int p3), (.int p2), (.int (8 : Int32)), (.ref x)])) rfl (by rw [hml]; rfl) (argsL := [(.ref x), (.int (8 : Int32)), (.int p2), (.int p3)]) (rest := []) (lenOf own_pd4 rfl) rfl (by show 2 * 0 + _ ≤ _; exact Nat.le_of_eq rfl) (hb hby own_method_4_d79) (fun _ _ => ⟨rfl, e43, (by decide : 0 + 0 ≤ _), (by decide : 0 + 0 ≤ _)⟩)
  dsimp only [Pt.U, Pt.locs, Pt.cells, Pt.slots] at X45 l45 y45 z45 st45 hQ45
  subst l45 y45 z45
  obtain ⟨z45, rfl, hz45, Nq45, e45⟩ := hQ45
  have Na46 := Fr.app Na44 Nq45
  have go47 : ∀ t, Steps p.tables e below (T45.setTop (mkF m 86 #[.val (.ref x), .val (.int p1), .val (.int p2), .val (.int p3), .val (.int z29), .val (.int z31), .val (.int z33), .val (.int z35), .val (.int z37), .val (.int z39), .val (.int z41), .val (.int z43), .val (.int z45)] [(.int (3 : Int32)), (.int p1)])) t → Steps p.tables e below (s₁.setTop (mkF m 0 #[.val (.ref x), .val (.int p1), .val (.int p2), .val (.int p3), .unset, .unset, .unset, .unset, .unset, .unset, .unset, .unset, .unset] [])) t := fun t kt => (by
      show Steps p.tables e below (s₁.setTop (mkF m 0 #[.val (.ref x), .val (.int p1), .val (.int p2), .val (.int p3), .unset, .unset, .unset, .unset, .unset, .unset, .unset, .unset, .unset] [])) _
      refine XS.aloadN X0.here hx rfl (hb hby own_method_4_d0) rfl rfl ?_
      show Steps p.tables e below (s₁.setTop (mkF m 1 #[.val (.ref x), .val (.int p1), .val (.int p2), .val (.int p3), .unset, .unset, .unset, .unset, .unset, .unset, .unset, .unset, .unset] [(.ref x)])) _
      refine XS.iconst X0.here hx rfl (hb hby own_method_4_d1) ?_
      show Steps p.tables e below (s₁.setTop (mkF m 2 #[.val (.ref x), .val (.int p1), .val (.int p2), .val (.int p3), .unset, .unset, .unset, .unset, .unset, .unset, .unset, .unset, .unset] [(.int (0 : Int32)), (.ref x)])) _
      refine XS.iloadN X0.here hx rfl (hb hby own_method_4_d2) rfl ?_
      show Steps p.tables e below (s₁.setTop (mkF m 3 #[.val (.ref x), .val (.int p1), .val (.int p2), .val (.int p3), .unset, .unset, .unset, .unset, .unset, .unset, .unset, .unset, .unset] [(.int p2), (.int (0 : Int32)), (.ref x)])) _
      refine XS.iloadN X0.here hx rfl (hb hby own_method_4_d3) rfl ?_
      show Steps p.tables e below (s₁.setTop (mkF m 4 #[.val (.ref x), .val (.int p1), .val (.int p2), .val (.int p3), .unset, .unset, .unset, .unset, .unset, .unset, .unset, .unset, .unset] [(.int p3), (.int p2), (.int (0 : Int32)), (.ref x)])) _
      refine st29 _ ?_
      show Steps p.tables e below (T29.setTop (mkF m 7 #[.val (.ref x), .val (.int p1), .val (.int p2), .val (.int p3), .unset, .unset, .unset, .unset, .unset, .unset, .unset, .unset, .unset] [(.int z29)])) _
      refine XS.istore X29.here hx rfl (hb hby own_method_4_d7) rfl (l' := #[.val (.ref x), .val (.int p1), .val (.int p2), .val (.int p3), .val (.int z29), .unset, .unset, .unset, .unset, .unset, .unset, .unset, .unset]) rfl ?_
      show Steps p.tables e below (T29.setTop (mkF m 9 #[.val (.ref x), .val (.int p1), .val (.int p2), .val (.int p3), .val (.int z29), .unset, .unset, .unset, .unset, .unset, .unset, .unset, .unset] [])) _
      refine XS.aloadN X29.here hx rfl (hb hby own_method_4_d9) rfl rfl ?_
      show Steps p.tables e below (T29.setTop (mkF m 10 #[.val (.ref x), .val (.int p1), .val (.int p2), .val (.int p3), .val (.int z29), .unset, .unset, .unset, .unset, .unset, .unset, .unset, .unset] [(.ref x)])) _
      refine XS.iconst X29.here hx rfl (hb hby own_method_4_d10) ?_
      show Steps p.tables e below (T29.setTop (mkF m 11 #[.val (.ref x), .val (.int p1), .val (.int p2), .val (.int p3), .val (.int z29), .unset, .unset, .unset, .unset, .unset, .unset, .unset, .unset] [(.int (1 : Int32)), (.ref x)])) _
      refine XS.iloadN X29.here hx rfl (hb hby own_method_4_d11) rfl ?_
      show Steps p.tables e below (T29.setTop (mkF m 12 #[.val (.ref x), .val (.int p1), .val (.int p2), .val (.int p3), .val (.int z29), .unset, .unset, .unset, .unset, .unset, .unset, .unset, .unset] [(.int p2), (.int (1 : Int32)), (.ref x)])) _
      refine XS.iloadN X29.here hx rfl (hb hby own_method_4_d12) rfl ?_
      show Steps p.tables e below (T29.setTop (mkF m 13 #[.val (.ref x), .val (.int p1), .val (.int p2), .val (.int p3), .val (.int z29), .unset, .unset, .unset, .unset, .unset, .unset, .unset, .unset] [(.int p3), (.int p2), (.int (1 : Int32)), (.ref x)])) _
      refine st31 _ ?_
      show Steps p.tables e below (T31.setTop (mkF m 16 #[.val (.ref x), .val (.int p1), .val (.int p2), .val (.int p3), .val (.int z29), .unset, .unset, .unset, .unset, .unset, .unset, .unset, .unset] [(.int z31)])) _
      refine XS.istore X31.here hx rfl (hb hby own_method_4_d16) rfl (l' := #[.val (.ref x), .val (.int p1), .val (.int p2), .val (.int p3), .val (.int z29), .val (.int z31), .unset, .unset, .unset, .unset, .unset, .unset, .unset]) rfl ?_
      show Steps p.tables e below (T31.setTop (mkF m 18 #[.val (.ref x), .val (.int p1), .val (.int p2), .val (.int p3), .val (.int z29), .val (.int z31), .unset, .unset, .unset, .unset, .unset, .unset, .unset] [])) _
      refine XS.aloadN X31.here hx rfl (hb hby own_method_4_d18) rfl rfl ?_
      show Steps p.tables e below (T31.setTop (mkF m 19 #[.val (.ref x), .val (.int p1), .val (.int p2), .val (.int p3), .val (.int z29), .val (.int z31), .unset, .unset, .unset, .unset, .unset, .unset, .unset] [(.ref x)])) _
      refine XS.iconst X31.here hx rfl (hb hby own_method_4_d19) ?_
      show Steps p.tables e below (T31.setTop (mkF m 20 #[.val (.ref x), .val (.int p1), .val (.int p2), .val (.int p3), .val (.int z29), .val (.int z31), .unset, .unset, .unset, .unset, .unset, .unset, .unset] [(.int (2 : Int32)), (.ref x)])) _
      refine XS.iloadN X31.here hx rfl (hb hby own_method_4_d20) rfl ?_
      show Steps p.tables e below (T31.setTop (mkF m 21 #[.val (.ref x), .val (.int p1), .val (.int p2), .val (.int p3), .val (.int z29), .val (.int z31), .unset, .unset, .unset, .unset, .unset, .unset, .unset] [(.int p2), (.int (2 : Int32)), (.ref x)])) _
      refine XS.iloadN X31.here hx rfl (hb hby own_method_4_d21) rfl ?_
      show Steps p.tables e below (T31.setTop (mkF m 22 #[.val (.ref x), .val (.int p1), .val (.int p2), .val (.int p3), .val (.int z29), .val (.int z31), .unset, .unset, .unset, .unset, .unset, .unset, .unset] [(.int p3), (.int p2), (.int (2 : Int32)), (.ref x)])) _
      refine st33 _ ?_
      show Steps p.tables e below (T33.setTop (mkF m 25 #[.val (.ref x), .val (.int p1), .val (.int p2), .val (.int p3), .val (.int z29), .val (.int z31), .unset, .unset, .unset, .unset, .unset, .unset, .unset] [(.int z33)])) _
      refine XS.istore X33.here hx rfl (hb hby own_method_4_d25) rfl (l' := #[.val (.ref x), .val (.int p1), .val (.int p2), .val (.int p3), .val (.int z29), .val (.int z31), .val (.int z33), .unset, .unset, .unset, .unset, .unset, .unset]) rfl ?_
      show Steps p.tables e below (T33.setTop (mkF m 27 #[.val (.ref x), .val (.int p1), .val (.int p2), .val (.int p3), .val (.int z29), .val (.int z31), .val (.int z33), .unset, .unset, .unset, .unset, .unset, .unset] [])) _
      refine XS.aloadN X33.here hx rfl (hb hby own_method_4_d27) rfl rfl ?_
      show Steps p.tables e below (T33.setTop (mkF m 28 #[.val (.ref x), .val (.int p1), .val (.int p2), .val (.int p3), .val (.int z29), .val (.int z31), .val (.int z33), .unset, .unset, .unset, .unset, .unset, .unset] [(.ref x)])) _
      refine XS.iconst X33.here hx rfl (hb hby own_method_4_d28) ?_
      show Steps p.tables e below (T33.setTop (mkF m 29 #[.val (.ref x), .val (.int p1), .val (.int p2), .val (.int p3), .val (.int z29), .val (.int z31), .val (.int z33), .unset, .unset, .unset, .unset, .unset, .unset] [(.int (3 : Int32)), (.ref x)])) _
      refine XS.iloadN X33.here hx rfl (hb hby own_method_4_d29) rfl ?_
      show Steps p.tables e below (T33.setTop (mkF m 30 #[.val (.ref x), .val (.int p1), .val (.int p2), .val (.int p3), .val (.int z29), .val (.int z31), .val (.int z33), .unset, .unset, .unset, .unset, .unset, .unset] [(.int p2), (.int (3 : Int32)), (.ref x)])) _
      refine XS.iloadN X33.here hx rfl (hb hby own_method_4_d30) rfl ?_
      show Steps p.tables e below (T33.setTop (mkF m 31 #[.val (.ref x), .val (.int p1), .val (.int p2), .val (.int p3), .val (.int z29), .val (.int z31), .val (.int z33), .unset, .unset, .unset, .unset, .unset, .unset] [(.int p3), (.int p2), (.int (3 : Int32)), (.ref x)])) _
      refine st35 _ ?_
      show Steps p.tables e below (T35.setTop (mkF m 34 #[.val (.ref x), .val (.int p1), .val (.int p2), .val (.int p3), .val (.int z29), .val (.int z31), .val (.int z33), .unset, .unset, .unset, .unset, .unset, .unset] [(.int z35)])) _
      refine XS.istore X35.here hx rfl (hb hby own_method_4_d34) rfl (l' := #[.val (.ref x), .val (.int p1), .val (.int p2), .val (.int p3), .val (.int z29), .val (.int z31), .val (.int z33), .val (.int z35), .unset, .unset, .unset, .unset, .unset]) rfl ?_
      show Steps p.tables e below (T35.setTop (mkF m 36 #[.val (.ref x), .val (.int p1), .val (.int p2), .val (.int p3), .val (.int z29), .val (.int z31), .val (.int z33), .val (.int z35), .unset, .unset, .unset, .unset, .unset] [])) _
      refine XS.aloadN X35.here hx rfl (hb hby own_method_4_d36) rfl rfl ?_
      show Steps p.tables e below (T35.setTop (mkF m 37 #[.val (.ref x), .val (.int p1), .val (.int p2), .val (.int p3), .val (.int z29), .val (.int z31), .val (.int z33), .val (.int z35), .unset, .unset, .unset, .unset, .unset] [(.ref x)])) _
      refine XS.iconst X35.here hx rfl (hb hby own_method_4_d37) ?_
      show Steps p.tables e below (T35.setTop (mkF m 38 #[.val (.ref x), .val (.int p1), .val (.int p2), .val (.int p3), .val (.int z29), .val (.int z31), .val (.int z33), .val (.int z35), .unset, .unset, .unset, .unset, .unset] [(.int (4 : Int32)), (.ref x)])) _
      refine XS.iloadN X35.here hx rfl (hb hby own_method_4_d38) rfl ?_
      show Steps p.tables e below (T35.setTop (mkF m 39 #[.val (.ref x), .val (.int p1), .val (.int p2), .val (.int p3), .val (.int z29), .val (.int z31), .val (.int z33), .val (.int z35), .unset, .unset, .unset, .unset, .unset] [(.int p2), (.int (4 : Int32)), (.ref x)])) _
      refine XS.iloadN X35.here hx rfl (hb hby own_method_4_d39) rfl ?_
      show Steps p.tables e below (T35.setTop (mkF m 40 #[.val (.ref x), .val (.int p1), .val (.int p2), .val (.int p3), .val (.int z29), .val (.int z31), .val (.int z33), .val (.int z35), .unset, .unset, .unset, .unset, .unset] [(.int p3), (.int p2), (.int (4 : Int32)), (.ref x)])) _
      refine st37 _ ?_
      show Steps p.tables e below (T37.setTop (mkF m 43 #[.val (.ref x), .val (.int p1), .val (.int p2), .val (.int p3), .val (.int z29), .val (.int z31), .val (.int z33), .val (.int z35), .unset, .unset, .unset, .unset, .unset] [(.int z37)])) _
      refine XS.istore X37.here hx rfl (hb hby own_method_4_d43) rfl (l' := #[.val (.ref x), .val (.int p1), .val (.int p2), .val (.int p3), .val (.int z29), .val (.int z31), .val (.int z33), .val (.int z35), .val (.int z37), .unset, .unset, .unset, .unset]) rfl ?_
      show Steps p.tables e below (T37.setTop (mkF m 45 #[.val (.ref x), .val (.int p1), .val (.int p2), .val (.int p3), .val (.int z29), .val (.int z31), .val (.int z33), .val (.int z35), .val (.int z37), .unset, .unset, .unset, .unset] [])) _
      refine XS.aloadN X37.here hx rfl (hb hby own_method_4_d45) rfl rfl ?_
      show Steps p.tables e below (T37.setTop (mkF m 46 #[.val (.ref x), .val (.int p1), .val (.int p2), .val (.int p3), .val (.int z29), .val (.int z31), .val (.int z33), .val (.int z35), .val (.int z37), .unset, .unset, .unset, .unset] [(.ref x)])) _
      refine XS.iconst X37.here hx rfl (hb hby own_method_4_d46) ?_
      show Steps p.tables e below (T37.setTop (mkF m 47 #[.val (.ref x), .val (.int p1), .val (.int p2), .val (.int p3), .val (.int z29), .val (.int z31), .val (.int z33), .val (.int z35), .val (.int z37), .unset, .unset, .unset, .unset] [(.int (5 : Int32)), (.ref x)])) _
      refine XS.iloadN X37.here hx rfl (hb hby own_method_4_d47) rfl ?_
      show Steps p.tables e below (T37.setTop (mkF m 48 #[.val (.ref x), .val (.int p1), .val (.int p2), .val (.int p3), .val (.int z29), .val (.int z31), .val (.int z33), .val (.int z35), .val (.int z37), .unset, .unset, .unset, .unset] [(.int p2), (.int (5 : Int32)), (.ref x)])) _
      refine XS.iloadN X37.here hx rfl (hb hby own_method_4_d48) rfl ?_
      show Steps p.tables e below (T37.setTop (mkF m 49 #[.val (.ref x), .val (.int p1), .val (.int p2), .val (.int p3), .val (.int z29), .val (.int z31), .val (.int z33), .val (.int z35), .val (.int z37), .unset, .unset, .unset, .unset] [(.int p3), (.int p2), (.int (5 : Int32)), (.ref x)])) _
      refine st39 _ ?_
      show Steps p.tables e below (T39.setTop (mkF m 52 #[.val (.ref x), .val (.int p1), .val (.int p2), .val (.int p3), .val (.int z29), .val (.int z31), .val (.int z33), .val (.int z35), .val (.int z37), .unset, .unset, .unset, .unset] [(.int z39)])) _
      refine XS.istore X39.here hx rfl (hb hby own_method_4_d52) rfl (l' := #[.val (.ref x), .val (.int p1), .val (.int p2), .val (.int p3), .val (.int z29), .val (.int z31), .val (.int z33), .val (.int z35), .val (.int z37), .val (.int z39), .unset, .unset, .unset]) rfl ?_
      show Steps p.tables e below (T39.setTop (mkF m 54 #[.val (.ref x), .val (.int p1), .val (.int p2), .val (.int p3), .val (.int z29), .val (.int z31), .val (.int z33), .val (.int z35), .val (.int z37), .val (.int z39), .unset, .unset, .unset] [])) _
      refine XS.aloadN X39.here hx rfl (hb hby own_method_4_d54) rfl rfl ?_
      show Steps p.tables e below (T39.setTop (mkF m 55 #[.val (.ref x), .val (.int p1), .val (.int p2), .val (.int p3), .val (.int z29), .val (.int z31), .val (.int z33), .val (.int z35), .val (.int z37), .val (.int z39), .unset, .unset, .unset] [(.ref x)])) _
      refine XS.bipush X39.here hx rfl (hb hby own_method_4_d55) ?_
      show Steps p.tables e below (T39.setTop (mkF m 57 #[.val (.ref x), .val (.int p1), .val (.int p2), .val (.int p3), .val (.int z29), .val (.int z31), .val (.int z33), .val (.int z35), .val (.int z37), .val (.int z39), .unset, .unset, .unset] [(.int (6 : Int32)), (.ref x)])) _
      refine XS.iloadN X39.here hx rfl (hb hby own_method_4_d57) rfl ?_
      show Steps p.tables e below (T39.setTop (mkF m 58 #[.val (.ref x), .val (.int p1), .val (.int p2), .val (.int p3), .val (.int z29), .val (.int z31), .val (.int z33), .val (.int z35), .val (.int z37), .val (.int z39), .unset, .unset, .unset] [(.int p2), (.int (6 : Int32)), (.ref x)])) _
      refine XS.iloadN X39.here hx rfl (hb hby own_method_4_d58) rfl ?_
      show Steps p.tables e below (T39.setTop (mkF m 59 #[.val (.ref x), .val (.int p1), .val (.int p2), .val (.int p3), .val (.int z29), .val (.int z31), .val (.int z33), .val (.int z35), .val (.int z37), .val (.int z39), .unset, .unset, .unset] [(.int p3), (.int p2), (.int (6 : Int32)), (.ref x)])) _
      refine st41 _ ?_
      show Steps p.tables e below (T41.setTop (mkF m 62 #[.val (.ref x), .val (.int p1), .val (.int p2), .val (.int p3), .val (.int z29), .val (.int z31), .val (.int z33), .val (.int z35), .val (.int z37), .val (.int z39), .unset, .unset, .unset] [(.int z41)])) _
      refine XS.istore X41.here hx rfl (hb hby own_method_4_d62) rfl (l' := #[.val (.ref x), .val (.int p1), .val (.int p2), .val (.int p3), .val (.int z29), .val (.int z31), .val (.int z33), .val (.int z35), .val (.int z37), .val (.int z39), .val (.int z41), .unset, .unset]) rfl ?_
      show Steps p.tables e below (T41.setTop (mkF m 64 #[.val (.ref x), .val (.int p1), .val (.int p2), .val (.int p3), .val (.int z29), .val (.int z31), .val (.int z33), .val (.int z35), .val (.int z37), .val (.int z39), .val (.int z41), .unset, .unset] [])) _
      refine XS.aloadN X41.here hx rfl (hb hby own_method_4_d64) rfl rfl ?_
      show Steps p.tables e below (T41.setTop (mkF m 65 #[.val (.ref x), .val (.int p1), .val (.int p2), .val (.int p3), .val (.int z29), .val (.int z31), .val (.int z33), .val (.int z35), .val (.int z37), .val (.int z39), .val (.int z41), .unset, .unset] [(.ref x)])) _
      refine XS.bipush X41.here hx rfl (hb hby own_method_4_d65) ?_
      show Steps p.tables e below (T41.setTop (mkF m 67 #[.val (.ref x), .val (.int p1), .val (.int p2), .val (.int p3), .val (.int z29), .val (.int z31), .val (.int z33), .val (.int z35), .val (.int z37), .val (.int z39), .val (.int z41), .unset, .unset] [(.int (7 : Int32)), (.ref x)])) _
      refine XS.iloadN X41.here hx rfl (hb hby own_method_4_d67) rfl ?_
      show Steps p.tables e below (T41.setTop (mkF m 68 #[.val (.ref x), .val (.int p1), .val (.int p2), .val (.int p3), .val (.int z29), .val (.int z31), .val (.int z33), .val (.int z35), .val (.int z37), .val (.int z39), .val (.int z41), .unset, .unset] [(.int p2), (.int (7 : Int32)), (.ref x)])) _
      refine XS.iloadN X41.here hx rfl (hb hby own_method_4_d68) rfl ?_
      show Steps p.tables e below (T41.setTop (mkF m 69 #[.val (.ref x), .val (.int p1), .val (.int p2), .val (.int p3), .val (.int z29), .val (.int z31), .val (.int z33), .val (.int z35), .val (.int z37), .val (.int z39), .val (.int z41), .unset, .unset] [(.int p3), (.int p2), (.int (7 : Int32)), (.ref x)])) _
      refine st43 _ ?_
      show Steps p.tables e below (T43.setTop (mkF m 72 #[.val (.ref x), .val (.int p1), .val (.int p2), .val (.int p3), .val (.int z29), .val (.int z31), .val (.int z33), .val (.int z35), .val (.int z37), .val (.int z39), .val (.int z41), .unset, .unset] [(.int z43)])) _
      refine XS.istore X43.here hx rfl (hb hby own_method_4_d72) rfl (l' := #[.val (.ref x), .val (.int p1), .val (.int p2), .val (.int p3), .val (.int z29), .val (.int z31), .val (.int z33), .val (.int z35), .val (.int z37), .val (.int z39), .val (.int z41), .val (.int z43), .unset]) rfl ?_
      show Steps p.tables e below (T43.setTop (mkF m 74 #[.val (.ref x), .val (.int p1), .val (.int p2), .val (.int p3), .val (.int z29), .val (.int z31), .val (.int z33), .val (.int z35), .val (.int z37), .val (.int z39), .val (.int z41), .val (.int z43), .unset] [])) _
      refine XS.aloadN X43.here hx rfl (hb hby own_method_4_d74) rfl rfl ?_
      show Steps p.tables e below (T43.setTop (mkF m 75 #[.val (.ref x), .val (.int p1), .val (.int p2), .val (.int p3), .val (.int z29), .val (.int z31), .val (.int z33), .val (.int z35), .val (.int z37), .val (.int z39), .val (.int z41), .val (.int z43), .unset] [(.ref x)])) _
      refine XS.bipush X43.here hx rfl (hb hby own_method_4_d75) ?_
      show Steps p.tables e below (T43.setTop (mkF m 77 #[.val (.ref x), .val (.int p1), .val (.int p2), .val (.int p3), .val (.int z29), .val (.int z31), .val (.int z33), .val (.int z35), .val (.int z37), .val (.int z39), .val (.int z41), .val (.int z43), .unset] [(.int (8 : Int32)), (.ref x)])) _
      refine XS.iloadN X43.here hx rfl (hb hby own_method_4_d77) rfl ?_
      show Steps p.tables e below (T43.setTop (mkF m 78 #[.val (.ref x), .val (.int p1), .val (.int p2), .val (.int p3), .val (.int z29), .val (.int z31), .val (.int z33), .val (.int z35), .val (.int z37), .val (.int z39), .val (.int z41), .val (.int z43), .unset] [(.int p2), (.int (8 : Int32)), (.ref x)])) _
      refine XS.iloadN X43.here hx rfl (hb hby own_method_4_d78) rfl ?_
      show Steps p.tables e below (T43.setTop (mkF m 79 #[.val (.ref x), .val (.int p1), .val (.int p2), .val (.int p3), .val (.int z29), .val (.int z31), .val (.int z33), .val (.int z35), .val (.int z37), .val (.int z39), .val (.int z41), .val (.int z43), .unset] [(.int p3), (.int p2), (.int (8 : Int32)), (.ref x)])) _
      refine st45 _ ?_
      show Steps p.tables e below (T45.setTop (mkF m 82 #[.val (.ref x), .val (.int p1), .val (.int p2), .val (.int p3), .val (.int z29), .val (.int z31), .val (.int z33), .val (.int z35), .val (.int z37), .val (.int z39), .val (.int z41), .val (.int z43), .unset] [(.int z45)])) _
      refine XS.istore X45.here hx rfl (hb hby own_method_4_d82) rfl (l' := #[.val (.ref x), .val (.int p1), .val (.int p2), .val (.int p3), .val (.int z29), .val (.int z31), .val (.int z33), .val (.int z35), .val (.int z37), .val (.int z39), .val (.int z41), .val (.int z43), .val (.int z45)]) rfl ?_
      show Steps p.tables e below (T45.setTop (mkF m 84 #[.val (.ref x), .val (.int p1), .val (.int p2), .val (.int p3), .val (.int z29), .val (.int z31), .val (.int z33), .val (.int z35), .val (.int z37), .val (.int z39), .val (.int z41), .val (.int z43), .val (.int z45)] [])) _
      refine XS.iloadN X45.here hx rfl (hb hby own_method_4_d84) rfl ?_
      show Steps p.tables e below (T45.setTop (mkF m 85 #[.val (.ref x), .val (.int p1), .val (.int p2), .val (.int p3), .val (.int z29), .val (.int z31), .val (.int z33), .val (.int z35), .val (.int z37), .val (.int z39), .val (.int z41), .val (.int z43), .val (.int z45)] [(.int p1)])) _
      refine XS.iconst X45.here hx rfl (hb hby own_method_4_d85) ?_
      exact kt)
  by_cases hc48 : p1 = (3 : Int32)
  · obtain ⟨T49, h49, X49, e49, E49, A49, D49, -, st49⟩ := newO X45 hx hZ hown (hw _ (List.mem_of_getElem? (i := 51) rfl)) (hw _ (List.mem_of_getElem? (i := 3) rfl)) (hw _ (List.mem_of_getElem? (i := 2) rfl)) e45 (g := (mkF m 89 #[.val (.ref x), .val (.int p1), .val (.int p2), .val (.int p3), .val (.int z29), .val (.int z31), .val (.int z33), .val (.int z35), .val (.int z37), .val (.int z39), .val (.int z41), .val (.int z43), .val (.int z45)] [])) rfl (hb hby own_method_4_d89) (by decide) (by decide)
    obtain ⟨b49, g49⟩ : ∃ z, z = h0.size := ⟨_, rfl⟩
    rw [← g49] at A49 D49 st49
    have Fvalue_49 : Fld Z h49 b49 "java/lang/String" "value" "[B" .null := D49 (Or.inr (hw _ (List.mem_of_getElem? (i := 5) rfl))) (ty := (.array .byte)) (by decide)
    have Fcoder_49 : Fld Z h49 b49 "java/lang/String" "coder" "B" (.int (0 : Int32)) := D49 (Or.inr (hw _ (List.mem_of_getElem? (i := 6) rfl))) (ty := .byte) (by decide)
    obtain ⟨T50, h50, k50, X50, e50, E50, A50, st50⟩ := newP X49 hx hZ (hw _ (List.mem_of_getElem? (i := 52) rfl)) e49 (g := (mkF m 94 #[.val (.ref x), .val (.int p1), .val (.int p2), .val (.int p3), .val (.int z29), .val (.int z31), .val (.int z33), .val (.int z35), .val (.int z37), .val (.int z39), .val (.int z41), .val (.int z43), .val (.int z45)] [(.int (3 : Int32)), (.ref b49), (.ref b49)])) rfl (hb hby own_method_4_d94) rfl (by decide) (cap := 3) (by decide) (by decide) (by decide) (by decide)
    obtain ⟨b50, g50⟩ : ∃ z, z = h49.size := ⟨_, rfl⟩
    rw [← g50] at A50 st50
    have V50 : Arv Z h50 b50 k50 .char (3 : Int32) [(.int (0 : Int32)), (.int (0 : Int32)), (.int (0 : Int32))] (.int (0 : Int32)) := (Arv.new A50 (by decide)).pad (pad_rep [] (.int (0 : Int32)) 3)
    obtain ⟨cl51, Ar51, q51, S51, M51, H51, G51⟩ := id V50
    obtain ⟨T52, h52, X52, e52, W52, st52⟩ := stC X50 hx hZ e50 Ar51 (j := (0 : Int32)) (inb_of S51 ⟨by decide, by decide⟩) (g := (mkF m 100 #[.val (.ref x), .val (.int p1), .val (.int p2), .val (.int p3), .val (.int z29), .val (.int z31), .val (.int z33), .val (.int z35), .val (.int z37), .val (.int z39), .val (.int z41), .val (.int z43), .val (.int z45)] [(.int z29), (.int (0 : Int32)), (.ref b50), (.ref b50), (.ref b49), (.ref b49)])) rfl rfl (hb hby own_method_4_d100)
    have V52 : Arv Z h52 b50 k50 .char (3 : Int32) [(.int z29), (.int (0 : Int32)), (.int (0 : Int32))] (.int (0 : Int32)) := by have q := Arv.set Ar51 q51 S51 M51 H51 G51 (fits_nar_char _) W52 0 rfl (Nat.le_of_ble_eq_true rfl); rw [own_nar hz29] at q; exact q
    have N52 := Fr.snoc X52 Na46 (Nat.le_trans (Nat.le_trans Z0 E49.1) (Nat.le_of_eq g50.symm))
    obtain ⟨cl53, Ar53, q53, S53, M53, H53, G53⟩ := id V52
    obtain ⟨T54, h54, X54, e54, W54, st54⟩ := stC X52 hx hZ e52 Ar53 (j := (1 : Int32)) (inb_of S53 ⟨by decide, by decide⟩) (g := (mkF m 105 #[.val (.ref x), .val (.int p1), .val (.int p2), .val (.int p3), .val (.int z29), .val (.int z31), .val (.int z33), .val (.int z35), .val (.int z37), .val (.int z39), .val (.int z41), .val (.int z43), .val (.int z45)] [(.int z31), (.int (1 : Int32)), (.ref b50), (.ref b50), (.ref b49), (.ref b49)])) rfl rfl (hb hby own_method_4_d105)
    have V54 : Arv Z h54 b50 k50 .char (3 : Int32) [(.int z29), (.int z31), (.int (0 : Int32))] (.int (0 : Int32)) := by have q := Arv.set Ar53 q53 S53 M53 H53 G53 (fits_nar_char _) W54 1 rfl (Nat.le_of_ble_eq_true rfl); rw [own_nar hz31] at q; exact q
    have N54 := Fr.snoc X54 N52 (Nat.le_trans (Nat.le_trans Z0 E49.1) (Nat.le_of_eq g50.symm))
    obtain ⟨cl55, Ar55, q55, S55, M55, H55, G55⟩ := id V54
    obtain ⟨T56, h56, X56, e56, W56, st56⟩ := stC X54 hx hZ e54 Ar55 (j := (2 : Int32)) (inb_of S55 ⟨by decide, by decide⟩) (g := (mkF m 110 #[.val (.ref x), .val (.int p1), .val (.int p2), .val (.int p3), .val (.int z29), .val (.int z31), .val (.int z33), .val (.int z35), .val (.int z37), .val (.int z39), .val (.int z41), .val (.int z43), .val (.int z45)] [(.int z33), (.int (2 : Int32)), (.ref b50), (.ref b50), (.ref b49), (.ref b49)])) rfl rfl (hb hby own_method_4_d110)
    have V56 : Arv Z h56 b50 k50 .char (3 : Int32) [(.int z29), (.int z31), (.int z33)] (.int (0 : Int32)) := by have q := Arv.set Ar55 q55 S55 M55 H55 G55 (fits_nar_char _) W56 2 rfl (Nat.le_of_ble_eq_true rfl); rw [own_nar hz33] at q; exact q
    have N56 := Fr.snoc X56 N54 (Nat.le_trans (Nat.le_trans Z0 E49.1) (Nat.le_of_eq g50.symm))
    have Gr60 : h0.size ≤ h50.size := Nat.le_trans E49.1 E50.1
    have Gr59 : h0.size ≤ h52.size := Nat.le_trans Gr60 (Keep.of_wr W52).1
    have Gr58 : h0.size ≤ h54.size := Nat.le_trans Gr59 (Keep.of_wr W54).1
    have Gr57 : h0.size ≤ h56.size := Nat.le_trans Gr58 (Keep.of_wr W56).1
    have Xt61 : Ext h49 h52 := (own_xw E50 W52 (Nat.le_trans (own_xr h49).1 (Nat.le_of_eq g50.symm)))
    have Xt62 : Ext h49 h54 := (own_xw Xt61 W54 (Nat.le_trans (own_xr h49).1 (Nat.le_of_eq g50.symm)))
    have Xt63 : Ext h49 h56 := (own_xw Xt62 W56 (Nat.le_trans (own_xr h49).1 (Nat.le_of_eq g50.symm)))
    have Xt64 : Ext h0 h50 := (own_xt E49 E50)
    have Xt65 : Ext h0 h52 := (own_xw Xt64 W52 (Nat.le_trans E49.1 (Nat.le_of_eq g50.symm)))
    have Xt66 : Ext h0 h54 := (own_xw Xt65 W54 (Nat.le_trans E49.1 (Nat.le_of_eq g50.symm)))
    have Xt67 : Ext h0 h56 := (own_xw Xt66 W56 (Nat.le_trans E49.1 (Nat.le_of_eq g50.symm)))
    obtain ⟨_, _, ⟨T68, L68, k68, n68⟩, -, X68, ⟨Lc68, hQ68, l68, y68, z68⟩, st68⟩ := X56.specialBack hx (y := (⟨"java/lang/String", "<init>", "([C)V"⟩ : MethodName)) rfl hown (mvT hZ (hw _ (List.mem_of_getElem? (i := 53) rfl))) (mvT hZ (hw _ (List.mem_of_getElem? (i := 54) rfl))) (mvT hZ (hw _ (List.mem_of_getElem? (i := 55) rfl))) (by decide) (StrChars.Road.backV (W := 1) hZ (own_ws hw) (kI := 4) (hw _ (List.mem_of_getElem? (i := 3) rfl)) (cs := ([z29, z31, z33] : List Int32)) (bs := ([z29, z31, z33] : List Int32).map (fun c => c.toInt8.toInt32)) (n := 3) (Nat.le_trans Z0 (Nat.le_of_eq g49.symm)) (Nat.le_trans Z0 Gr57) (A49.ext Xt63) (Fvalue_49.ext Xt63) (Fcoder_49.ext Xt63) V56 (S_C.ext Xt67) P5 rfl rfl (by decide) (by decide) (own_cS hz29 (own_cS hz31 (own_cS hz33 own_c0))) rfl (by decide) (by decide)) (g := (mkF m 111 #[.val (.ref x), .val (.int p1), .val (.int p2), .val (.int p3), .val (.int z29), .val (.int z31), .val (.int z33), .val (.int z35), .val (.int z37), .val (.int z39), .val (.int z41), .val (.int z43), .val (.int z45)] [(.ref b50), (.ref b49), (.ref b49)])) rfl (by rw [hml]; rfl) (Steps.refl _) (a := b49) (argsL := [(.ref b50)]) (rest := [(.ref b49)]) (lenOf own_pd5 rfl) rfl (by show 2 * 0 + _ ≤ _; exact Nat.le_of_eq rfl) (hb hby own_method_4_d111) (fun _ _ => ⟨rfl, e56, (by decide : 2 + 1 ≤ _), (by decide : 7 + 3 ≤ _)⟩)
    dsimp only [Pt.U, Pt.locs, Pt.cells, Pt.slots] at X68 l68 y68 z68 st68 hQ68
    subst l68 y68 z68
    obtain ⟨rfl, Nq68, K68, Ex68, Co68, t68, kb68, tg68, ts68, tx68, Va68, Ar68⟩ := hQ68
    have Na69 := Fr.app N56 Nq68
    have Str68 : own_Str Z T68.heap b49 ([z29, z31, z33] : List Int32) := ⟨Ex68, (own_cS hz29 (own_cS hz31 (own_cS hz33 own_c0))), t68, kb68, Va68, Co68, Ar68⟩
    have Xt70 : Ext h0 T68.heap := (own_xk Xt67 K68 ((allS (Nat.le_trans (own_xr h0).1 (Nat.le_of_eq g49.symm)) all0)))
    obtain ⟨fs, hr, hrun, hended, hW, hsame⟩ := X68.leave (v := some (.ref b49)) (fun h => by rw [Bd.returns] at h; cases h)
    refine ⟨_, _, pre0 _ (go47 _ ?_), hrun, hended, _, _, rfl, ?_, ⟨_, rfl⟩, hW, hsame.mono (by decide) (by decide)⟩
    · show Steps p.tables e below (T45.setTop (mkF m 86 #[.val (.ref x), .val (.int p1), .val (.int p2), .val (.int p3), .val (.int z29), .val (.int z31), .val (.int z33), .val (.int z35), .val (.int z37), .val (.int z39), .val (.int z41), .val (.int z43), .val (.int z45)] [(.int (3 : Int32)), (.int p1)])) _
      refine XS.icmpNo X45.here hx rfl (hb hby own_method_4_d86) rfl (teq hc48).2 ?_
      show Steps p.tables e below (T45.setTop (mkF m 89 #[.val (.ref x), .val (.int p1), .val (.int p2), .val (.int p3), .val (.int z29), .val (.int z31), .val (.int z33), .val (.int z35), .val (.int z37), .val (.int z39), .val (.int z41), .val (.int z43), .val (.int z45)] [])) _
      refine st49 _ ?_
      show Steps p.tables e below (T49.setTop (mkF m 92 #[.val (.ref x), .val (.int p1), .val (.int p2), .val (.int p3), .val (.int z29), .val (.int z31), .val (.int z33), .val (.int z35), .val (.int z37), .val (.int z39), .val (.int z41), .val (.int z43), .val (.int z45)] [(.ref b49)])) _
      refine XS.dup X49.here hx rfl (hb hby own_method_4_d92) rfl rfl ?_
      show Steps p.tables e below (T49.setTop (mkF m 93 #[.val (.ref x), .val (.int p1), .val (.int p2), .val (.int p3), .val (.int z29), .val (.int z31), .val (.int z33), .val (.int z35), .val (.int z37), .val (.int z39), .val (.int z41), .val (.int z43), .val (.int z45)] [(.ref b49), (.ref b49)])) _
      refine XS.iconst X49.here hx rfl (hb hby own_method_4_d93) ?_
      show Steps p.tables e below (T49.setTop (mkF m 94 #[.val (.ref x), .val (.int p1), .val (.int p2), .val (.int p3), .val (.int z29), .val (.int z31), .val (.int z33), .val (.int z35), .val (.int z37), .val (.int z39), .val (.int z41), .val (.int z43), .val (.int z45)] [(.int (3 : Int32)), (.ref b49), (.ref b49)])) _
      refine st50 _ ?_
      show Steps p.tables e below (T50.setTop (mkF m 96 #[.val (.ref x), .val (.int p1), .val (.int p2), .val (.int p3), .val (.int z29), .val (.int z31), .val (.int z33), .val (.int z35), .val (.int z37), .val (.int z39), .val (.int z41), .val (.int z43), .val (.int z45)] [(.ref b50), (.ref b49), (.ref b49)])) _
      refine XS.dup X50.here hx rfl (hb hby own_method_4_d96) rfl rfl ?_
      show Steps p.tables e below (T50.setTop (mkF m 97 #[.val (.ref x), .val (.int p1), .val (.int p2), .val (.int p3), .val (.int z29), .val (.int z31), .val (.int z33), .val (.int z35), .val (.int z37), .val (.int z39), .val (.int z41), .val (.int z43), .val (.int z45)] [(.ref b50), (.ref b50), (.ref b49), (.ref b49)])) _
      refine XS.iconst X50.here hx rfl (hb hby own_method_4_d97) ?_
      show Steps p.tables e below (T50.setTop (mkF m 98 #[.val (.ref x), .val (.int p1), .val (.int p2), .val (.int p3), .val (.int z29), .val (.int z31), .val (.int z33), .val (.int z35), .val (.int z37), .val (.int z39), .val (.int z41), .val (.int z43), .val (.int z45)] [(.int (0 : Int32)), (.ref b50), (.ref b50), (.ref b49), (.ref b49)])) _
      refine XS.iload X50.here hx rfl (hb hby own_method_4_d98) rfl ?_
      show Steps p.tables e below (T50.setTop (mkF m 100 #[.val (.ref x), .val (.int p1), .val (.int p2), .val (.int p3), .val (.int z29), .val (.int z31), .val (.int z33), .val (.int z35), .val (.int z37), .val (.int z39), .val (.int z41), .val (.int z43), .val (.int z45)] [(.int z29), (.int (0 : Int32)), (.ref b50), (.ref b50), (.ref b49), (.ref b49)])) _
      refine st52 _ ?_
      show Steps p.tables e below (T52.setTop (mkF m 101 #[.val (.ref x), .val (.int p1), .val (.int p2), .val (.int p3), .val (.int z29), .val (.int z31), .val (.int z33), .val (.int z35), .val (.int z37), .val (.int z39), .val (.int z41), .val (.int z43), .val (.int z45)] [(.ref b50), (.ref b49), (.ref b49)])) _
      refine XS.dup X52.here hx rfl (hb hby own_method_4_d101) rfl rfl ?_
      show Steps p.tables e below (T52.setTop (mkF m 102 #[.val (.ref x), .val (.int p1), .val (.int p2), .val (.int p3), .val (.int z29), .val (.int z31), .val (.int z33), .val (.int z35), .val (.int z37), .val (.int z39), .val (.int z41), .val (.int z43), .val (.int z45)] [(.ref b50), (.ref b50), (.ref b49), (.ref b49)])) _
      refine XS.iconst X52.here hx rfl (hb hby own_method_4_d102) ?_
      show Steps p.tables e below (T52.setTop (mkF m 103 #[.val (.ref x), .val (.int p1), .val (.int p2), .val (.int p3), .val (.int z29), .val (.int z31), .val (.int z33), .val (.int z35), .val (.int z37), .val (.int z39), .val (.int z41), .val (.int z43), .val (.int z45)] [(.int (1 : Int32)), (.ref b50), (.ref b50), (.ref b49), (.ref b49)])) _
      refine XS.iload X52.here hx rfl (hb hby own_method_4_d103) rfl ?_
      show Steps p.tables e below (T52.setTop (mkF m 105 #[.val (.ref x), .val (.int p1), .val (.int p2), .val (.int p3), .val (.int z29), .val (.int z31), .val (.int z33), .val (.int z35), .val (.int z37), .val (.int z39), .val (.int z41), .val (.int z43), .val (.int z45)] [(.int z31), (.int (1 : Int32)), (.ref b50), (.ref b50), (.ref b49), (.ref b49)])) _
      refine st54 _ ?_
      show Steps p.tables e below (T54.setTop (mkF m 106 #[.val (.ref x), .val (.int p1), .val (.int p2), .val (.int p3), .val (.int z29), .val (.int z31), .val (.int z33), .val (.int z35), .val (.int z37), .val (.int z39), .val (.int z41), .val (.int z43), .val (.int z45)] [(.ref b50), (.ref b49), (.ref b49)])) _
      refine XS.dup X54.here hx rfl (hb hby own_method_4_d106) rfl rfl ?_
      show Steps p.tables e below (T54.setTop (mkF m 107 #[.val (.ref x), .val (.int p1), .val (.int p2), .val (.int p3), .val (.int z29), .val (.int z31), .val (.int z33), .val (.int z35), .val (.int z37), .val (.int z39), .val (.int z41), .val (.int z43), .val (.int z45)] [(.ref b50), (.ref b50), (.ref b49), (.ref b49)])) _
      refine XS.iconst X54.here hx rfl (hb hby own_method_4_d107) ?_
      show Steps p.tables e below (T54.setTop (mkF m 108 #[.val (.ref x), .val (.int p1), .val (.int p2), .val (.int p3), .val (.int z29), .val (.int z31), .val (.int z33), .val (.int z35), .val (.int z37), .val (.int z39), .val (.int z41), .val (.int z43), .val (.int z45)] [(.int (2 : Int32)), (.ref b50), (.ref b50), (.ref b49), (.ref b49)])) _
      refine XS.iload X54.here hx rfl (hb hby own_method_4_d108) rfl ?_
      show Steps p.tables e below (T54.setTop (mkF m 110 #[.val (.ref x), .val (.int p1), .val (.int p2), .val (.int p3), .val (.int z29), .val (.int z31), .val (.int z33), .val (.int z35), .val (.int z37), .val (.int z39), .val (.int z41), .val (.int z43), .val (.int z45)] [(.int z33), (.int (2 : Int32)), (.ref b50), (.ref b50), (.ref b49), (.ref b49)])) _
      refine st56 _ ?_
      show Steps p.tables e below (T56.setTop (mkF m 111 #[.val (.ref x), .val (.int p1), .val (.int p2), .val (.int p3), .val (.int z29), .val (.int z31), .val (.int z33), .val (.int z35), .val (.int z37), .val (.int z39), .val (.int z41), .val (.int z43), .val (.int z45)] [(.ref b50), (.ref b49), (.ref b49)])) _
      refine st68.trans ?_
      show Steps p.tables e below (T68.setTop (mkF m 114 #[.val (.ref x), .val (.int p1), .val (.int p2), .val (.int p3), .val (.int z29), .val (.int z31), .val (.int z33), .val (.int z35), .val (.int z37), .val (.int z39), .val (.int z41), .val (.int z43), .val (.int z45)] [(.ref b49)])) _
      exact retR X68 hx Bd.returns rfl rfl rfl (hb hby own_method_4_d114) hr
    · show own_Qmk Z h0 n0 _ T68.heap _
      exact ⟨b49, _, rfl, Na69, Xt70, Str68, Nat.le_of_ble_eq_true rfl⟩
  · have go71 : ∀ t, Steps p.tables e below (T45.setTop (mkF m 117 #[.val (.ref x), .val (.int p1), .val (.int p2), .val (.int p3), .val (.int z29), .val (.int z31), .val (.int z33), .val (.int z35), .val (.int z37), .val (.int z39), .val (.int z41), .val (.int z43), .val (.int z45)] [(.int (4 : Int32)), (.int p1)])) t → Steps p.tables e below (s₁.setTop (mkF m 0 #[.val (.ref x), .val (.int p1), .val (.int p2), .val (.int p3), .unset, .unset, .unset, .unset, .unset, .unset, .unset, .unset, .unset] [])) t := fun t kt => go47 t (by
        show Steps p.tables e below (T45.setTop (mkF m 86 #[.val (.ref x), .val (.int p1), .val (.int p2), .val (.int p3), .val (.int z29), .val (.int z31), .val (.int z33), .val (.int z35), .val (.int z37), .val (.int z39), .val (.int z41), .val (.int z43), .val (.int z45)] [(.int (3 : Int32)), (.int p1)])) _
        refine XS.icmpYes X45.here hx rfl (pc0 := 86) (pc' := 115) rfl (hb hby own_method_4_d86) rfl (feq hc48).2 (by decide) (by decide) ?_
        show Steps p.tables e below (T45.setTop (mkF m 115 #[.val (.ref x), .val (.int p1), .val (.int p2), .val (.int p3), .val (.int z29), .val (.int z31), .val (.int z33), .val (.int z35), .val (.int z37), .val (.int z39), .val (.int z41), .val (.int z43), .val (.int z45)] [])) _
        refine XS.iloadN X45.here hx rfl (hb hby own_method_4_d115) rfl ?_
        show Steps p.tables e below (T45.setTop (mkF m 116 #[.val (.ref x), .val (.int p1), .val (.int p2), .val (.int p3), .val (.int z29), .val (.int z31), .val (.int z33), .val (.int z35), .val (.int z37), .val (.int z39), .val (.int z41), .val (.int z43), .val (.int z45)] [(.int p1)])) _
        refine XS.iconst X45.here hx rfl (hb hby own_method_4_d116) ?_
        exact kt)
    by_cases hc72 : p1 = (4 : Int32)
    · obtain ⟨T73, h73, X73, e73, E73, A73, D73, -, st73⟩ := newO X45 hx hZ hown (hw _ (List.mem_of_getElem? (i := 51) rfl)) (hw _ (List.mem_of_getElem? (i := 3) rfl)) (hw _ (List.mem_of_getElem? (i := 2) rfl)) e45 (g := (mkF m 120 #[.val (.ref x), .val (.int p1), .val (.int p2), .val (.int p3), .val (.int z29), .val (.int z31), .val (.int z33), .val (.int z35), .val (.int z37), .val (.int z39), .val (.int z41), .val (.int z43), .val (.int z45)] [])) rfl (hb hby own_method_4_d120) (by decide) (by decide)
      obtain ⟨b73, g73⟩ : ∃ z, z = h0.size := ⟨_, rfl⟩
      rw [← g73] at A73 D73 st73
      have Fvalue_73 : Fld Z h73 b73 "java/lang/String" "value" "[B" .null := D73 (Or.inr (hw _ (List.mem_of_getElem? (i := 5) rfl))) (ty := (.array .byte)) (by decide)
      have Fcoder_73 : Fld Z h73 b73 "java/lang/String" "coder" "B" (.int (0 : Int32)) := D73 (Or.inr (hw _ (List.mem_of_getElem? (i := 6) rfl))) (ty := .byte) (by decide)
      obtain ⟨T74, h74, k74, X74, e74, E74, A74, st74⟩ := newP X73 hx hZ (hw _ (List.mem_of_getElem? (i := 52) rfl)) e73 (g := (mkF m 125 #[.val (.ref x), .val (.int p1), .val (.int p2), .val (.int p3), .val (.int z29), .val (.int z31), .val (.int z33), .val (.int z35), .val (.int z37), .val (.int z39), .val (.int z41), .val (.int z43), .val (.int z45)] [(.int (4 : Int32)), (.ref b73), (.ref b73)])) rfl (hb hby own_method_4_d125) rfl (by decide) (cap := 4) (by decide) (by decide) (by decide) (by decide)
      obtain ⟨b74, g74⟩ : ∃ z, z = h73.size := ⟨_, rfl⟩
      rw [← g74] at A74 st74
      have V74 : Arv Z h74 b74 k74 .char (4 : Int32) [(.int (0 : Int32)), (.int (0 : Int32)), (.int (0 : Int32)), (.int (0 : Int32))] (.int (0 : Int32)) := (Arv.new A74 (by decide)).pad (pad_rep [] (.int (0 : Int32)) 4)
      obtain ⟨cl75, Ar75, q75, S75, M75, H75, G75⟩ := id V74
      obtain ⟨T76, h76, X76, e76, W76, st76⟩ := stC X74 hx hZ e74 Ar75 (j := (0 : Int32)) (inb_of S75 ⟨by decide, by decide⟩) (g := (mkF m 131 #[.val (.ref x), .val (.int p1), .val (.int p2), .val (.int p3), .val (.int z29), .val (.int z31), .val (.int z33), .val (.int z35), .val (.int z37), .val (.int z39), .val (.int z41), .val (.int z43), .val (.int z45)] [(.int z29), (.int (0 : Int32)), (.ref b74), (.ref b74), (.ref b73), (.ref b73)])) rfl rfl (hb hby own_method_4_d131)
      have V76 : Arv Z h76 b74 k74 .char (4 : Int32) [(.int z29), (.int (0 : Int32)), (.int (0 : Int32)), (.int (0 : Int32))] (.int (0 : Int32)) := by have q := Arv.set Ar75 q75 S75 M75 H75 G75 (fits_nar_char _) W76 0 rfl (Nat.le_of_ble_eq_true rfl); rw [own_nar hz29] at q; exact q
      have N76 := Fr.snoc X76 Na46 (Nat.le_trans (Nat.le_trans Z0 E73.1) (Nat.le_of_eq g74.symm))
      obtain ⟨cl77, Ar77, q77, S77, M77, H77, G77⟩ := id V76
      obtain ⟨T78, h78, X78, e78, W78, st78⟩ := stC X76 hx hZ e76 Ar77 (j := (1 : Int32)) (inb_of S77 ⟨by decide, by decide⟩) (g := (mkF m 136 #[.val (.ref x), .val (.int p1), .val (.int p2), .val (.int p3), .val (.int z29), .val (.int z31), .val (.int z33), .val (.int z35), .val (.int z37), .val (.int z39), .val (.int z41), .val (.int z43), .val (.int z45)] [(.int z31), (.int (1 : Int32)), (.ref b74), (.ref b74), (.ref b73), (.ref b73)])) rfl rfl (hb hby own_method_4_d136)
      have V78 : Arv Z h78 b74 k74 .char (4 : Int32) [(.int z29), (.int z31), (.int (0 : Int32)), (.int (0 : Int32))] (.int (0 : Int32)) := by have q := Arv.set Ar77 q77 S77 M77 H77 G77 (fits_nar_char _) W78 1 rfl (Nat.le_of_ble_eq_true rfl); rw [own_nar hz31] at q; exact q
      have N78 := Fr.snoc X78 N76 (Nat.le_trans (Nat.le_trans Z0 E73.1) (Nat.le_of_eq g74.symm))
      obtain ⟨cl79, Ar79, q79, S79, M79, H79, G79⟩ := id V78
      obtain ⟨T80, h80, X80, e80, W80, st80⟩ := stC X78 hx hZ e78 Ar79 (j := (2 : Int32)) (inb_of S79 ⟨by decide, by decide⟩) (g := (mkF m 141 #[.val (.ref x), .val (.int p1), .val (.int p2), .val (.int p3), .val (.int z29), .val (.int z31), .val (.int z33), .val (.int z35), .val (.int z37), .val (.int z39), .val (.int z41), .val (.int z43), .val (.int z45)] [(.int z33), (.int (2 : Int32)), (.ref b74), (.ref b74), (.ref b73), (.ref b73)])) rfl rfl (hb hby own_method_4_d141)
      have V80 : Arv Z h80 b74 k74 .char (4 : Int32) [(.int z29), (.int z31), (.int z33), (.int (0 : Int32))] (.int (0 : Int32)) := by have q := Arv.set Ar79 q79 S79 M79 H79 G79 (fits_nar_char _) W80 2 rfl (Nat.le_of_ble_eq_true rfl); rw [own_nar hz33] at q; exact q
      have N80 := Fr.snoc X80 N78 (Nat.le_trans (Nat.le_trans Z0 E73.1) (Nat.le_of_eq g74.symm))
      obtain ⟨cl81, Ar81, q81, S81, M81, H81, G81⟩ := id V80
      obtain ⟨T82, h82, X82, e82, W82, st82⟩ := stC X80 hx hZ e80 Ar81 (j := (3 : Int32)) (inb_of S81 ⟨by decide, by decide⟩) (g := (mkF m 146 #[.val (.ref x), .val (.int p1), .val (.int p2), .val (.int p3), .val (.int z29), .val (.int z31), .val (.int z33), .val (.int z35), .val (.int z37), .val (.int z39), .val (.int z41), .val (.int z43), .val (.int z45)] [(.int z35), (.int (3 : Int32)), (.ref b74), (.ref b74), (.ref b73), (.ref b73)])) rfl rfl (hb hby own_method_4_d146)
      have V82 : Arv Z h82 b74 k74 .char (4 : Int32) [(.int z29), (.int z31), (.int z33), (.int z35)] (.int (0 : Int32)) := by have q := Arv.set Ar81 q81 S81 M81 H81 G81 (fits_nar_char _) W82 3 rfl (Nat.le_of_ble_eq_true rfl); rw [own_nar hz35] at q; exact q
      have N82 := Fr.snoc X82 N80 (Nat.le_trans (Nat.le_trans Z0 E73.1) (Nat.le_of_eq g74.symm))
      have Gr87 : h0.size ≤ h74.size := Nat.le_trans E73.1 E74.1
      have Gr86 : h0.size ≤ h76.size := Nat.le_trans Gr87 (Keep.of_wr W76).1
      have Gr85 : h0.size ≤ h78.size := Nat.le_trans Gr86 (Keep.of_wr W78).1
      have Gr84 : h0.size ≤ h80.size := Nat.le_trans Gr85 (Keep.of_wr W80).1
      have Gr83 : h0.size ≤ h82.size := Nat.le_trans Gr84 (Keep.of_wr W82).1
      have Xt88 : Ext h73 h76 := (own_xw E74 W76 (Nat.le_trans (own_xr h73).1 (Nat.le_of_eq g74.symm)))
      have Xt89 : Ext h73 h78 := (own_xw Xt88 W78 (Nat.le_trans (own_xr h73).1 (Nat.le_of_eq g74.symm)))
      have Xt90 : Ext h73 h80 := (own_xw Xt89 W80 (Nat.le_trans (own_xr h73).1 (Nat.le_of_eq g74.symm)))
      have Xt91 : Ext h73 h82 := (own_xw Xt90 W82 (Nat.le_trans (own_xr h73).1 (Nat.le_of_eq g74.symm)))
      have Xt92 : Ext h0 h74 := (own_xt E73 E74)
      have Xt93 : Ext h0 h76 := (own_xw Xt92 W76 (Nat.le_trans E73.1 (Nat.le_of_eq g74.symm)))
      have Xt94 : Ext h0 h78 := (own_xw Xt93 W78 (Nat.le_trans E73.1 (Nat.le_of_eq g74.symm)))
      have Xt95 : Ext h0 h80 := (own_xw Xt94 W80 (Nat.le_trans E73.1 (Nat.le_of_eq g74.symm)))
      have Xt96 : Ext h0 h82 := (own_xw Xt95 W82 (Nat.le_trans E73.1 (Nat.le_of_eq g74.symm)))
      obtain ⟨_, _, ⟨T97, L97, k97, n97⟩, -, X97, ⟨Lc97, hQ97, l97, y97, z97⟩, st97⟩ := X82.specialBack hx (y := (⟨"java/lang/String", "<init>", "([C)V"⟩ : MethodName)) rfl hown (mvT hZ (hw _ (List.mem_of_getElem? (i := 53) rfl))) (mvT hZ (hw _ (List.mem_of_getElem? (i := 54) rfl))) (mvT hZ (hw _ (List.mem_of_getElem? (i := 55) rfl))) (by decide) (StrChars.Road.backV (W := 1) hZ (own_ws hw) (kI := 4) (hw _ (List.mem_of_getElem? (i := 3) rfl)) (cs := ([z29, z31, z33, z35] : List Int32)) (bs := ([z29, z31, z33, z35] : List Int32).map (fun c => c.toInt8.toInt32)) (n := 4) (Nat.le_trans Z0 (Nat.le_of_eq g73.symm)) (Nat.le_trans Z0 Gr83) (A73.ext Xt91) (Fvalue_73.ext Xt91) (Fcoder_73.ext Xt91) V82 (S_C.ext Xt96) P5 rfl rfl (by decide) (by decide) (own_cS hz29 (own_cS hz31 (own_cS hz33 (own_cS hz35 own_c0)))) rfl (by decide) (by decide)) (g := (mkF m 147 #[.val (.ref x), .val (.int p1), .val (.int p2), .val (.int p3), .val (.int z29), .val (.int z31), .val (.int z33), .val (.int z35), .val (.int z37), .val (.int z39), .val (.int z41), .val (.int z43), .val (.int z45)] [(.ref b74), (.ref b73), (.ref b73)])) rfl (by rw [hml]; rfl) (Steps.refl _) (a := b73) (argsL := [(.ref b74)]) (rest := [(.ref b73)]) (lenOf own_pd5 rfl) rfl (by show 2 * 0 + _ ≤ _; exact Nat.le_of_eq rfl) (hb hby own_method_4_d147) (fun _ _ => ⟨rfl, e82, (by decide : 2 + 1 ≤ _), (by decide : 8 + 4 ≤ _)⟩)
      dsimp only [Pt.U, Pt.locs, Pt.cells, Pt.slots] at X97 l97 y97 z97 st97 hQ97
      subst l97 y97 z97
      obtain ⟨rfl, Nq97, K97, Ex97, Co97, t97, kb97, tg97, ts97, tx97, Va97, Ar97⟩ := hQ97
      have Na98 := Fr.app N82 Nq97
      have Str97 : own_Str Z T97.heap b73 ([z29, z31, z33, z35] : List Int32) := ⟨Ex97, (own_cS hz29 (own_cS hz31 (own_cS hz33 (own_cS hz35 own_c0)))), t97, kb97, Va97, Co97, Ar97⟩
      have Xt99 : Ext h0 T97.heap := (own_xk Xt96 K97 ((allS (Nat.le_trans (own_xr h0).1 (Nat.le_of_eq g73.symm)) all0)))
      obtain ⟨fs, hr, hrun, hended, hW, hsame⟩ := X97.leave (v := some (.ref b73)) (fun h => by rw [Bd.returns] at h; cases h)
      refine ⟨_, _, pre0 _ (go71 _ ?_), hrun, hended, _, _, rfl, ?_, ⟨_, rfl⟩, hW, hsame.mono (by decide) (by decide)⟩
      · show Steps p.tables e below (T45.setTop (mkF m 117 #[.val (.ref x), .val (.int p1), .val (.int p2), .val (.int p3), .val (.int z29), .val (.int z31), .val (.int z33), .val (.int z35), .val (.int z37), .val (.int z39), .val (.int z41), .val (.int z43), .val (.int z45)] [(.int (4 : Int32)), (.int p1)])) _
        refine XS.icmpNo X45.here hx rfl (hb hby own_method_4_d117) rfl (teq hc72).2 ?_
        show Steps p.tables e below (T45.setTop (mkF m 120 #[.val (.ref x), .val (.int p1), .val (.int p2), .val (.int p3), .val (.int z29), .val (.int z31), .val (.int z33), .val (.int z35), .val (.int z37), .val (.int z39), .val (.int z41), .val (.int z43), .val (.int z45)] [])) _
        refine st73 _ ?_
        show Steps p.tables e below (T73.setTop (mkF m 123 #[.val (.ref x), .val (.int p1), .val (.int p2), .val (.int p3), .val (.int z29), .val (.int z31), .val (.int z33), .val (.int z35), .val (.int z37), .val (.int z39), .val (.int z41), .val (.int z43), .val (.int z45)] [(.ref b73)])) _
        refine XS.dup X73.here hx rfl (hb hby own_method_4_d123) rfl rfl ?_
        show Steps p.tables e below (T73.setTop (mkF m 124 #[.val (.ref x), .val (.int p1), .val (.int p2), .val (.int p3), .val (.int z29), .val (.int z31), .val (.int z33), .val (.int z35), .val (.int z37), .val (.int z39), .val (.int z41), .val (.int z43), .val (.int z45)] [(.ref b73), (.ref b73)])) _
        refine XS.iconst X73.here hx rfl (hb hby own_method_4_d124) ?_
        show Steps p.tables e below (T73.setTop (mkF m 125 #[.val (.ref x), .val (.int p1), .val (.int p2), .val (.int p3), .val (.int z29), .val (.int z31), .val (.int z33), .val (.int z35), .val (.int z37), .val (.int z39), .val (.int z41), .val (.int z43), .val (.int z45)] [(.int (4 : Int32)), (.ref b73), (.ref b73)])) _
        refine st74 _ ?_
        show Steps p.tables e below (T74.setTop (mkF m 127 #[.val (.ref x), .val (.int p1), .val (.int p2), .val (.int p3), .val (.int z29), .val (.int z31), .val (.int z33), .val (.int z35), .val (.int z37), .val (.int z39), .val (.int z41), .val (.int z43), .val (.int z45)] [(.ref b74), (.ref b73), (.ref b73)])) _
        refine XS.dup X74.here hx rfl (hb hby own_method_4_d127) rfl rfl ?_
        show Steps p.tables e below (T74.setTop (mkF m 128 #[.val (.ref x), .val (.int p1), .val (.int p2), .val (.int p3), .val (.int z29), .val (.int z31), .val (.int z33), .val (.int z35), .val (.int z37), .val (.int z39), .val (.int z41), .val (.int z43), .val (.int z45)] [(.ref b74), (.ref b74), (.ref b73), (.ref b73)])) _
        refine XS.iconst X74.here hx rfl (hb hby own_method_4_d128) ?_
        show Steps p.tables e below (T74.setTop (mkF m 129 #[.val (.ref x), .val (.int p1), .val (.int p2), .val (.int p3), .val (.int z29), .val (.int z31), .val (.int z33), .val (.int z35), .val (.int z37), .val (.int z39), .val (.int z41), .val (.int z43), .val (.int z45)] [(.int (0 : Int32)), (.ref b74), (.ref b74), (.ref b73), (.ref b73)])) _
        refine XS.iload X74.here hx rfl (hb hby own_method_4_d129) rfl ?_
        show Steps p.tables e below (T74.setTop (mkF m 131 #[.val (.ref x), .val (.int p1), .val (.int p2), .val (.int p3), .val (.int z29), .val (.int z31), .val (.int z33), .val (.int z35), .val (.int z37), .val (.int z39), .val (.int z41), .val (.int z43), .val (.int z45)] [(.int z29), (.int (0 : Int32)), (.ref b74), (.ref b74), (.ref b73), (.ref b73)])) _
        refine st76 _ ?_
        show Steps p.tables e below (T76.setTop (mkF m 132 #[.val (.ref x), .val (.int p1), .val (.int p2), .val (.int p3), .val (.int z29), .val (.int z31), .val (.int z33), .val (.int z35), .val (.int z37), .val (.int z39), .val (.int z41), .val (.int z43), .val (.int z45)] [(.ref b74), (.ref b73), (.ref b73)])) _
        refine XS.dup X76.here hx rfl (hb hby own_method_4_d132) rfl rfl ?_
        show Steps p.tables e below (T76.setTop (mkF m 133 #[.val (.ref x), .val (.int p1), .val (.int p2), .val (.int p3), .val (.int z29), .val (.int z31), .val (.int z33), .val (.int z35), .val (.int z37), .val (.int z39), .val (.int z41), .val (.int z43), .val (.int z45)] [(.ref b74), (.ref b74), (.ref b73), (.ref b73)])) _
        refine XS.iconst X76.here hx rfl (hb hby own_method_4_d133) ?_
        show Steps p.tables e below (T76.setTop (mkF m 134 #[.val (.ref x), .val (.int p1), .val (.int p2), .val (.int p3), .val (.int z29), .val (.int z31), .val (.int z33), .val (.int z35), .val (.int z37), .val (.int z39), .val (.int z41), .val (.int z43), .val (.int z45)] [(.int (1 : Int32)), (.ref b74), (.ref b74), (.ref b73), (.ref b73)])) _
        refine XS.iload X76.here hx rfl (hb hby own_method_4_d134) rfl ?_
        show Steps p.tables e below (T76.setTop (mkF m 136 #[.val (.ref x), .val (.int p1), .val (.int p2), .val (.int p3), .val (.int z29), .val (.int z31), .val (.int z33), .val (.int z35), .val (.int z37), .val (.int z39), .val (.int z41), .val (.int z43), .val (.int z45)] [(.int z31), (.int (1 : Int32)), (.ref b74), (.ref b74), (.ref b73), (.ref b73)])) _
        refine st78 _ ?_
        show Steps p.tables e below (T78.setTop (mkF m 137 #[.val (.ref x), .val (.int p1), .val (.int p2), .val (.int p3), .val (.int z29), .val (.int z31), .val (.int z33), .val (.int z35), .val (.int z37), .val (.int z39), .val (.int z41), .val (.int z43), .val (.int z45)] [(.ref b74), (.ref b73), (.ref b73)])) _
        refine XS.dup X78.here hx rfl (hb hby own_method_4_d137) rfl rfl ?_
        show Steps p.tables e below (T78.setTop (mkF m 138 #[.val (.ref x), .val (.int p1), .val (.int p2), .val (.int p3), .val (.int z29), .val (.int z31), .val (.int z33), .val (.int z35), .val (.int z37), .val (.int z39), .val (.int z41), .val (.int z43), .val (.int z45)] [(.ref b74), (.ref b74), (.ref b73), (.ref b73)])) _
        refine XS.iconst X78.here hx rfl (hb hby own_method_4_d138) ?_
        show Steps p.tables e below (T78.setTop (mkF m 139 #[.val (.ref x), .val (.int p1), .val (.int p2), .val (.int p3), .val (.int z29), .val (.int z31), .val (.int z33), .val (.int z35), .val (.int z37), .val (.int z39), .val (.int z41), .val (.int z43), .val (.int z45)] [(.int (2 : Int32)), (.ref b74), (.ref b74), (.ref b73), (.ref b73)])) _
        refine XS.iload X78.here hx rfl (hb hby own_method_4_d139) rfl ?_
        show Steps p.tables e below (T78.setTop (mkF m 141 #[.val (.ref x), .val (.int p1), .val (.int p2), .val (.int p3), .val (.int z29), .val (.int z31), .val (.int z33), .val (.int z35), .val (.int z37), .val (.int z39), .val (.int z41), .val (.int z43), .val (.int z45)] [(.int z33), (.int (2 : Int32)), (.ref b74), (.ref b74), (.ref b73), (.ref b73)])) _
        refine st80 _ ?_
        show Steps p.tables e below (T80.setTop (mkF m 142 #[.val (.ref x), .val (.int p1), .val (.int p2), .val (.int p3), .val (.int z29), .val (.int z31), .val (.int z33), .val (.int z35), .val (.int z37), .val (.int z39), .val (.int z41), .val (.int z43), .val (.int z45)] [(.ref b74), (.ref b73), (.ref b73)])) _
        refine XS.dup X80.here hx rfl (hb hby own_method_4_d142) rfl rfl ?_
        show Steps p.tables e below (T80.setTop (mkF m 143 #[.val (.ref x), .val (.int p1), .val (.int p2), .val (.int p3), .val (.int z29), .val (.int z31), .val (.int z33), .val (.int z35), .val (.int z37), .val (.int z39), .val (.int z41), .val (.int z43), .val (.int z45)] [(.ref b74), (.ref b74), (.ref b73), (.ref b73)])) _
        refine XS.iconst X80.here hx rfl (hb hby own_method_4_d143) ?_
        show Steps p.tables e below (T80.setTop (mkF m 144 #[.val (.ref x), .val (.int p1), .val (.int p2), .val (.int p3), .val (.int z29), .val (.int z31), .val (.int z33), .val (.int z35), .val (.int z37), .val (.int z39), .val (.int z41), .val (.int z43), .val (.int z45)] [(.int (3 : Int32)), (.ref b74), (.ref b74), (.ref b73), (.ref b73)])) _
        refine XS.iload X80.here hx rfl (hb hby own_method_4_d144) rfl ?_
        show Steps p.tables e below (T80.setTop (mkF m 146 #[.val (.ref x), .val (.int p1), .val (.int p2), .val (.int p3), .val (.int z29), .val (.int z31), .val (.int z33), .val (.int z35), .val (.int z37), .val (.int z39), .val (.int z41), .val (.int z43), .val (.int z45)] [(.int z35), (.int (3 : Int32)), (.ref b74), (.ref b74), (.ref b73), (.ref b73)])) _
        refine st82 _ ?_
        show Steps p.tables e below (T82.setTop (mkF m 147 #[.val (.ref x), .val (.int p1), .val (.int p2), .val (.int p3), .val (.int z29), .val (.int z31), .val (.int z33), .val (.int z35), .val (.int z37), .val (.int z39), .val (.int z41), .val (.int z43), .val (.int z45)] [(.ref b74), (.ref b73), (.ref b73)])) _
        refine st97.trans ?_
        show Steps p.tables e below (T97.setTop (mkF m 150 #[.val (.ref x), .val (.int p1), .val (.int p2), .val (.int p3), .val (.int z29), .val (.int z31), .val (.int z33), .val (.int z35), .val (.int z37), .val (.int z39), .val (.int z41), .val (.int z43), .val (.int z45)] [(.ref b73)])) _
        exact retR X97 hx Bd.returns rfl rfl rfl (hb hby own_method_4_d150) hr
      · show own_Qmk Z h0 n0 _ T97.heap _
        exact ⟨b73, _, rfl, Na98, Xt99, Str97, Nat.le_of_ble_eq_true rfl⟩
    · have go100 : ∀ t, Steps p.tables e below (T45.setTop (mkF m 153 #[.val (.ref x), .val (.int p1), .val (.int p2), .val (.int p3), .val (.int z29), .val (.int z31), .val (.int z33), .val (.int z35), .val (.int z37), .val (.int z39), .val (.int z41), .val (.int z43), .val (.int z45)] [(.int (5 : Int32)), (.int p1)])) t → Steps p.tables e below (s₁.setTop (mkF m 0 #[.val (.ref x), .val (.int p1), .val (.int p2), .val (.int p3), .unset, .unset, .unset, .unset, .unset, .unset, .unset, .unset, .unset] [])) t := fun t kt => go71 t (by
          show Steps p.tables e below (T45.setTop (mkF m 117 #[.val (.ref x), .val (.int p1), .val (.int p2), .val (.int p3), .val (.int z29), .val (.int z31), .val (.int z33), .val (.int z35), .val (.int z37), .val (.int z39), .val (.int z41), .val (.int z43), .val (.int z45)] [(.int (4 : Int32)), (.int p1)])) _
          refine XS.icmpYes X45.here hx rfl (pc0 := 117) (pc' := 151) rfl (hb hby own_method_4_d117) rfl (feq hc72).2 (by decide) (by decide) ?_
          show Steps p.tables e below (T45.setTop (mkF m 151 #[.val (.ref x), .val (.int p1), .val (.int p2), .val (.int p3), .val (.int z29), .val (.int z31), .val (.int z33), .val (.int z35), .val (.int z37), .val (.int z39), .val (.int z41), .val (.int z43), .val (.int z45)] [])) _
          refine XS.iloadN X45.here hx rfl (hb hby own_method_4_d151) rfl ?_
          show Steps p.tables e below (T45.setTop (mkF m 152 #[.val (.ref x), .val (.int p1), .val (.int p2), .val (.int p3), .val (.int z29), .val (.int z31), .val (.int z33), .val (.int z35), .val (.int z37), .val (.int z39), .val (.int z41), .val (.int z43), .val (.int z45)] [(.int p1)])) _
          refine XS.iconst X45.here hx rfl (hb hby own_method_4_d152) ?_
          exact kt)
      by_cases hc101 : p1 = (5 : Int32)
      · obtain ⟨T102, h102, X102, e102, E102, A102, D102, -, st102⟩ := newO X45 hx hZ hown (hw _ (List.mem_of_getElem? (i := 51) rfl)) (hw _ (List.mem_of_getElem? (i := 3) rfl)) (hw _ (List.mem_of_getElem? (i := 2) rfl)) e45 (g := (mkF m 156 #[.val (.ref x), .val (.int p1), .val (.int p2), .val (.int p3), .val (.int z29), .val (.int z31), .val (.int z33), .val (.int z35), .val (.int z37), .val (.int z39), .val (.int z41), .val (.int z43), .val (.int z45)] [])) rfl (hb hby own_method_4_d156) (by decide) (by decide)
        obtain ⟨b102, g102⟩ : ∃ z, z = h0.size := ⟨_, rfl⟩
        rw [← g102] at A102 D102 st102
        have Fvalue_102 : Fld Z h102 b102 "java/lang/String" "value" "[B" .null := D102 (Or.inr (hw _ (List.mem_of_getElem? (i := 5) rfl))) (ty := (.array .byte)) (by decide)
        have Fcoder_102 : Fld Z h102 b102 "java/lang/String" "coder" "B" (.int (0 : Int32)) := D102 (Or.inr (hw _ (List.mem_of_getElem? (i := 6) rfl))) (ty := .byte) (by decide)
        obtain ⟨T103, h103, k103, X103, e103, E103, A103, st103⟩ := newP X102 hx hZ (hw _ (List.mem_of_getElem? (i := 52) rfl)) e102 (g := (mkF m 161 #[.val (.ref x), .val (.int p1), .val (.int p2), .val (.int p3), .val (.int z29), .val (.int z31), .val (.int z33), .val (.int z35), .val (.int z37), .val (.int z39), .val (.int z41), .val (.int z43), .val (.int z45)] [(.int (5 : Int32)), (.ref b102), (.ref b102)])) rfl (hb hby own_method_4_d161) rfl (by decide) (cap := 5) (by decide) (by decide) (by decide) (by decide)
        obtain ⟨b103, g103⟩ : ∃ z, z = h102.size := ⟨_, rfl⟩
        rw [← g103] at A103 st103
        have V103 : Arv Z h103 b103 k103 .char (5 : Int32) [(.int (0 : Int32)), (.int (0 : Int32)), (.int (0 : Int32)), (.int (0 : Int32)), (.int (0 : Int32))] (.int (0 : Int32)) := (Arv.new A103 (by decide)).pad (pad_rep [] (.int (0 : Int32)) 5)
        obtain ⟨cl104, Ar104, q104, S104, M104, H104, G104⟩ := id V103
        obtain ⟨T105, h105, X105, e105, W105, st105⟩ := stC X103 hx hZ e103 Ar104 (j := (0 : Int32)) (inb_of S104 ⟨by decide, by decide⟩) (g := (mkF m 167 #[.val (.ref x), .val (.int p1), .val (.int p2), .val (.int p3), .val (.int z29), .val (.int z31), .val (.int z33), .val (.int z35), .val (.int z37), .val (.int z39), .val (.int z41), .val (.int z43), .val (.int z45)] [(.int z29), (.int (0 : Int32)), (.ref b103), (.ref b103), (.ref b102), (.ref b102)])) rfl rfl (hb hby own_method_4_d167)
        have V105 : Arv Z h105 b103 k103 .char (5 : Int32) [(.int z29), (.int (0 : Int32)), (.int (0 : Int32)), (.int (0 : Int32)), (.int (0 : Int32))] (.int (0 : Int32)) := by have q := Arv.set Ar104 q104 S104 M104 H104 G104 (fits_nar_char _) W105 0 rfl (Nat.le_of_ble_eq_true rfl); rw [own_nar hz29] at q; exact q
        have N105 := Fr.snoc X105 Na46 (Nat.le_trans (Nat.le_trans Z0 E102.1) (Nat.le_of_eq g103.symm))
        obtain ⟨cl106, Ar106, q106, S106, M106, H106, G106⟩ := id V105
        obtain ⟨T107, h107, X107, e107, W107, st107⟩ := stC X105 hx hZ e105 Ar106 (j := (1 : Int32)) (inb_of S106 ⟨by decide, by decide⟩) (g := (mkF m 172 #[.val (.ref x), .val (.int p1), .val (.int p2), .val (.int p3), .val (.int z29), .val (.int z31), .val (.int z33), .val (.int z35), .val (.int z37), .val (.int z39), .val (.int z41), .val (.int z43), .val (.int z45)] [(.int z31), (.int (1 : Int32)), (.ref b103), (.ref b103), (.ref b102), (.ref b102)])) rfl rfl (hb hby own_method_4_d172)
        have V107 : Arv Z h107 b103 k103 .char (5 : Int32) [(.int z29), (.int z31), (.int (0 : Int32)), (.int (0 : Int32)), (.int (0 : Int32))] (.int (0 : Int32)) := by have q := Arv.set Ar106 q106 S106 M106 H106 G106 (fits_nar_char _) W107 1 rfl (Nat.le_of_ble_eq_true rfl); rw [own_nar hz31] at q; exact q
        have N107 := Fr.snoc X107 N105 (Nat.le_trans (Nat.le_trans Z0 E102.1) (Nat.le_of_eq g103.symm))
        obtain ⟨cl108, Ar108, q108, S108, M108, H108, G108⟩ := id V107
        obtain ⟨T109, h109, X109, e109, W109, st109⟩ := stC X107 hx hZ e107 Ar108 (j := (2 : Int32)) (inb_of S108 ⟨by decide, by decide⟩) (g := (mkF m 177 #[.val (.ref x), .val (.int p1), .val (.int p2), .val (.int p3), .val (.int z29), .val (.int z31), .val (.int z33), .val (.int z35), .val (.int z37), .val (.int z39), .val (.int z41), .val (.int z43), .val (.int z45)] [(.int z33), (.int (2 : Int32)), (.ref b103), (.ref b103), (.ref b102), (.ref b102)])) rfl rfl (hb hby own_method_4_d177)
        have V109 : Arv Z h109 b103 k103 .char (5 : Int32) [(.int z29), (.int z31), (.int z33), (.int (0 : Int32)), (.int (0 : Int32))] (.int (0 : Int32)) := by have q := Arv.set Ar108 q108 S108 M108 H108 G108 (fits_nar_char _) W109 2 rfl (Nat.le_of_ble_eq_true rfl); rw [own_nar hz33] at q; exact q
        have N109 := Fr.snoc X109 N107 (Nat.le_trans (Nat.le_trans Z0 E102.1) (Nat.le_of_eq g103.symm))
        obtain ⟨cl110, Ar110, q110, S110, M110, H110, G110⟩ := id V109
        obtain ⟨T111, h111, X111, e111, W111, st111⟩ := stC X109 hx hZ e109 Ar110 (j := (3 : Int32)) (inb_of S110 ⟨by decide, by decide⟩) (g := (mkF m 182 #[.val (.ref x), .val (.int p1), .val (.int p2), .val (.int p3), .val (.int z29), .val (.int z31), .val (.int z33), .val (.int z35), .val (.int z37), .val (.int z39), .val (.int z41), .val (.int z43), .val (.int z45)] [(.int z35), (.int (3 : Int32)), (.ref b103), (.ref b103), (.ref b102), (.ref b102)])) rfl rfl (hb hby own_method_4_d182)
        have V111 : Arv Z h111 b103 k103 .char (5 : Int32) [(.int z29), (.int z31), (.int z33), (.int z35), (.int (0 : Int32))] (.int (0 : Int32)) := by have q := Arv.set Ar110 q110 S110 M110 H110 G110 (fits_nar_char _) W111 3 rfl (Nat.le_of_ble_eq_true rfl); rw [own_nar hz35] at q; exact q
        have N111 := Fr.snoc X111 N109 (Nat.le_trans (Nat.le_trans Z0 E102.1) (Nat.le_of_eq g103.symm))
        obtain ⟨cl112, Ar112, q112, S112, M112, H112, G112⟩ := id V111
        obtain ⟨T113, h113, X113, e113, W113, st113⟩ := stC X111 hx hZ e111 Ar112 (j := (4 : Int32)) (inb_of S112 ⟨by decide, by decide⟩) (g := (mkF m 187 #[.val (.ref x), .val (.int p1), .val (.int p2), .val (.int p3), .val (.int z29), .val (.int z31), .val (.int z33), .val (.int z35), .val (.int z37), .val (.int z39), .val (.int z41), .val (.int z43), .val (.int z45)] [(.int z37), (.int (4 : Int32)), (.ref b103), (.ref b103), (.ref b102), (.ref b102)])) rfl rfl (hb hby own_method_4_d187)
        have V113 : Arv Z h113 b103 k103 .char (5 : Int32) [(.int z29), (.int z31), (.int z33), (.int z35), (.int z37)] (.int (0 : Int32)) := by have q := Arv.set Ar112 q112 S112 M112 H112 G112 (fits_nar_char _) W113 4 rfl (Nat.le_of_ble_eq_true rfl); rw [own_nar hz37] at q; exact q
        have N113 := Fr.snoc X113 N111 (Nat.le_trans (Nat.le_trans Z0 E102.1) (Nat.le_of_eq g103.symm))
        have Gr119 : h0.size ≤ h103.size := Nat.le_trans E102.1 E103.1
        have Gr118 : h0.size ≤ h105.size := Nat.le_trans Gr119 (Keep.of_wr W105).1
        have Gr117 : h0.size ≤ h107.size := Nat.le_trans Gr118 (Keep.of_wr W107).1
        have Gr116 : h0.size ≤ h109.size := Nat.le_trans Gr117 (Keep.of_wr W109).1
        have Gr115 : h0.size ≤ h111.size := Nat.le_trans Gr116 (Keep.of_wr W111).1
        have Gr114 : h0.size ≤ h113.size := Nat.le_trans Gr115 (Keep.of_wr W113).1
        have Xt120 : Ext h102 h105 := (own_xw E103 W105 (Nat.le_trans (own_xr h102).1 (Nat.le_of_eq g103.symm)))
        have Xt121 : Ext h102 h107 := (own_xw Xt120 W107 (Nat.le_trans (own_xr h102).1 (Nat.le_of_eq g103.symm)))
        have Xt122 : Ext h102 h109 := (own_xw Xt121 W109 (Nat.le_trans (own_xr h102).1 (Nat.le_of_eq g103.symm)))
        have Xt123 : Ext h102 h111 := (own_xw Xt122 W111 (Nat.le_trans (own_xr h102).1 (Nat.le_of_eq g103.symm)))
        have Xt124 : Ext h102 h113 := (own_xw Xt123 W113 (Nat.le_trans (own_xr h102).1 (Nat.le_of_eq g103.symm)))
        have Xt125 : Ext h0 h103 := (own_xt E102 E103)
        have Xt126 : Ext h0 h105 := (own_xw Xt125 W105 (Nat.le_trans E102.1 (Nat.le_of_eq g103.symm)))
        have Xt127 : Ext h0 h107 := (own_xw Xt126 W107 (Nat.le_trans E102.1 (Nat.le_of_eq g103.symm)))
        have Xt128 : Ext h0 h109 := (own_xw Xt127 W109 (Nat.le_trans E102.1 (Nat.le_of_eq g103.symm)))
        have Xt129 : Ext h0 h111 := (own_xw Xt128 W111 (Nat.le_trans E102.1 (Nat.le_of_eq g103.symm)))
        have Xt130 : Ext h0 h113 := (own_xw Xt129 W113 (Nat.le_trans E102.1 (Nat.le_of_eq g103.symm)))
        obtain ⟨_, _, ⟨T131, L131, k131, n131⟩, -, X131, ⟨Lc131, hQ131, l131, y131, z131⟩, st131⟩ := X113.specialBack hx (y := (⟨"java/lang/String", "<init>", "([C)V"⟩ : MethodName)) rfl hown (mvT hZ (hw _ (List.mem_of_getElem? (i := 53) rfl))) (mvT hZ (hw _ (List.mem_of_getElem? (i := 54) rfl))) (mvT hZ (hw _ (List.mem_of_getElem? (i := 55) rfl))) (by decide) (StrChars.Road.backV (W := 1) hZ (own_ws hw) (kI := 4) (hw _ (List.mem_of_getElem? (i := 3) rfl)) (cs := ([z29, z31, z33, z35, z37] : List Int32)) (bs := ([z29, z31, z33, z35, z37] : List Int32).map (fun c => c.toInt8.toInt32)) (n := 5) (Nat.le_trans Z0 (Nat.le_of_eq g102.symm)) (Nat.le_trans Z0 Gr114) (A102.ext Xt124) (Fvalue_102.ext Xt124) (Fcoder_102.ext Xt124) V113 (S_C.ext Xt130) P5 rfl rfl (by decide) (by decide) (own_cS hz29 (own_cS hz31 (own_cS hz33 (own_cS hz35 (own_cS hz37 own_c0))))) rfl (by decide) (by decide)) (g := (mkF m 188 #[.val (.ref x), .val (.int p1), .val (.int p2), .val (.int p3), .val (.int z29), .val (.int z31), .val (.int z33), .val (.int z35), .val (.int z37), .val (.int z39), .val (.int z41), .val (.int z43), .val (.int z45)] [(.ref b103), (.ref b102), (.ref b102)])) rfl (by rw [hml]; rfl) (Steps.refl _) (a := b102) (argsL := [(.ref b103)]) (rest := [(.ref b102)]) (lenOf own_pd5 rfl) rfl (by show 2 * 0 + _ ≤ _; exact Nat.le_of_eq rfl) (hb hby own_method_4_d188) (fun _ _ => ⟨rfl, e113, (by decide : 2 + 1 ≤ _), (by decide : 9 + 5 ≤ _)⟩)
        dsimp only [Pt.U, Pt.locs, Pt.cells, Pt.slots] at X131 l131 y131 z131 st131 hQ131
        subst l131 y131 z131
        obtain ⟨rfl, Nq131, K131, Ex131, Co131, t131, kb131, tg131, ts131, tx131, Va131, Ar131⟩ := hQ131
        have Na132 := Fr.app N113 Nq131
        have Str131 : own_Str Z T131.heap b102 ([z29, z31, z33, z35, z37] : List Int32) := ⟨Ex131, (own_cS hz29 (own_cS hz31 (own_cS hz33 (own_cS hz35 (own_cS hz37 own_c0))))), t131, kb131, Va131, Co131, Ar131⟩
        have Xt133 : Ext h0 T131.heap := (own_xk Xt130 K131 ((allS (Nat.le_trans (own_xr h0).1 (Nat.le_of_eq g102.symm)) all0)))
        obtain ⟨fs, hr, hrun, hended, hW, hsame⟩ := X131.leave (v := some (.ref b102)) (fun h => by rw [Bd.returns] at h; cases h)
        refine ⟨_, _, pre0 _ (go100 _ ?_), hrun, hended, _, _, rfl, ?_, ⟨_, rfl⟩, hW, hsame.mono (by decide) (by decide)⟩
        · show Steps p.tables e below (T45.setTop (mkF m 153 #[.val (.ref x), .val (.int p1), .val (.int p2), .val (.int p3), .val (.int z29), .val (.int z31), .val (.int z33), .val (.int z35), .val (.int z37), .val (.int z39), .val (.int z41), .val (.int z43), .val (.int z45)] [(.int (5 : Int32)), (.int p1)])) _
          refine XS.icmpNo X45.here hx rfl (hb hby own_method_4_d153) rfl (teq hc101).2 ?_
          show Steps p.tables e below (T45.setTop (mkF m 156 #[.val (.ref x), .val (.int p1), .val (.int p2), .val (.int p3), .val (.int z29), .val (.int z31), .val (.int z33), .val (.int z35), .val (.int z37), .val (.int z39), .val (.int z41), .val (.int z43), .val (.int z45)] [])) _
          refine st102 _ ?_
          show Steps p.tables e below (T102.setTop (mkF m 159 #[.val (.ref x), .val (.int p1), .val (.int p2), .val (.int p3), .val (.int z29), .val (.int z31), .val (.int z33), .val (.int z35), .val (.int z37), .val (.int z39), .val (.int z41), .val (.int z43), .val (.int z45)] [(.ref b102)])) _
          refine XS.dup X102.here hx rfl (hb hby own_method_4_d159) rfl rfl ?_
          show Steps p.tables e below (T102.setTop (mkF m 160 #[.val (.ref x), .val (.int p1), .val (.int p2), .val (.int p3), .val (.int z29), .val (.int z31), .val (.int z33), .val (.int z35), .val (.int z37), .val (.int z39), .val (.int z41), .val (.int z43), .val (.int z45)] [(.ref b102), (.ref b102)])) _
          refine XS.iconst X102.here hx rfl (hb hby own_method_4_d160) ?_
          show Steps p.tables e below (T102.setTop (mkF m 161 #[.val (.ref x), .val (.int p1), .val (.int p2), .val (.int p3), .val (.int z29), .val (.int z31), .val (.int z33), .val (.int z35), .val (.int z37), .val (.int z39), .val (.int z41), .val (.int z43), .val (.int z45)] [(.int (5 : Int32)), (.ref b102), (.ref b102)])) _
          refine st103 _ ?_
          show Steps p.tables e below (T103.setTop (mkF m 163 #[.val (.ref x), .val (.int p1), .val (.int p2), .val (.int p3), .val (.int z29), .val (.int z31), .val (.int z33), .val (.int z35), .val (.int z37), .val (.int z39), .val (.int z41), .val (.int z43), .val (.int z45)] [(.ref b103), (.ref b102), (.ref b102)])) _
          refine XS.dup X103.here hx rfl (hb hby own_method_4_d163) rfl rfl ?_
          show Steps p.tables e below (T103.setTop (mkF m 164 #[.val (.ref x), .val (.int p1), .val (.int p2), .val (.int p3), .val (.int z29), .val (.int z31), .val (.int z33), .val (.int z35), .val (.int z37), .val (.int z39), .val (.int z41), .val (.int z43), .val (.int z45)] [(.ref b103), (.ref b103), (.ref b102), (.ref b102)])) _
          refine XS.iconst X103.here hx rfl (hb hby own_method_4_d164) ?_
          show Steps p.tables e below (T103.setTop (mkF m 165 #[.val (.ref x), .val (.int p1), .val (.int p2), .val (.int p3), .val (.int z29), .val (.int z31), .val (.int z33), .val (.int z35), .val (.int z37), .val (.int z39), .val (.int z41), .val (.int z43), .val (.int z45)] [(.int (0 : Int32)), (.ref b103), (.ref b103), (.ref b102), (.ref b102)])) _
          refine XS.iload X103.here hx rfl (hb hby own_method_4_d165) rfl ?_
          show Steps p.tables e below (T103.setTop (mkF m 167 #[.val (.ref x), .val (.int p1), .val (.int p2), .val (.int p3), .val (.int z29), .val (.int z31), .val (.int z33), .val (.int z35), .val (.int z37), .val (.int z39), .val (.int z41), .val (.int z43), .val (.int z45)] [(.int z29), (.int (0 : Int32)), (.ref b103), (.ref b103), (.ref b102), (.ref b102)])) _
          refine st105 _ ?_
          show Steps p.tables e below (T105.setTop (mkF m 168 #[.val (.ref x), .val (.int p1), .val (.int p2), .val (.int p3), .val (.int z29), .val (.int z31), .val (.int z33), .val (.int z35), .val (.int z37), .val (.int z39), .val (.int z41), .val (.int z43), .val (.int z45)] [(.ref b103), (.ref b102), (.ref b102)])) _
          refine XS.dup X105.here hx rfl (hb hby own_method_4_d168) rfl rfl ?_
          show Steps p.tables e below (T105.setTop (mkF m 169 #[.val (.ref x), .val (.int p1), .val (.int p2), .val (.int p3), .val (.int z29), .val (.int z31), .val (.int z33), .val (.int z35), .val (.int z37), .val (.int z39), .val (.int z41), .val (.int z43), .val (.int z45)] [(.ref b103), (.ref b103), (.ref b102), (.ref b102)])) _
          refine XS.iconst X105.here hx rfl (hb hby own_method_4_d169) ?_
          show Steps p.tables e below (T105.setTop (mkF m 170 #[.val (.ref x), .val (.int p1), .val (.int p2), .val (.int p3), .val (.int z29), .val (.int z31), .val (.int z33), .val (.int z35), .val (.int z37), .val (.int z39), .val (.int z41), .val (.int z43), .val (.int z45)] [(.int (1 : Int32)), (.ref b103), (.ref b103), (.ref b102), (.ref b102)])) _
          refine XS.iload X105.here hx rfl (hb hby own_method_4_d170) rfl ?_
          show Steps p.tables e below (T105.setTop (mkF m 172 #[.val (.ref x), .val (.int p1), .val (.int p2), .val (.int p3), .val (.int z29), .val (.int z31), .val (.int z33), .val (.int z35), .val (.int z37), .val (.int z39), .val (.int z41), .val (.int z43), .val (.int z45)] [(.int z31), (.int (1 : Int32)), (.ref b103), (.ref b103), (.ref b102), (.ref b102)])) _
          refine st107 _ ?_
          show Steps p.tables e below (T107.setTop (mkF m 173 #[.val (.ref x), .val (.int p1), .val (.int p2), .val (.int p3), .val (.int z29), .val (.int z31), .val (.int z33), .val (.int z35), .val (.int z37), .val (.int z39), .val (.int z41), .val (.int z43), .val (.int z45)] [(.ref b103), (.ref b102), (.ref b102)])) _
          refine XS.dup X107.here hx rfl (hb hby own_method_4_d173) rfl rfl ?_
          show Steps p.tables e below (T107.setTop (mkF m 174 #[.val (.ref x), .val (.int p1), .val (.int p2), .val (.int p3), .val (.int z29), .val (.int z31), .val (.int z33), .val (.int z35), .val (.int z37), .val (.int z39), .val (.int z41), .val (.int z43), .val (.int z45)] [(.ref b103), (.ref b103), (.ref b102), (.ref b102)])) _
          refine XS.iconst X107.here hx rfl (hb hby own_method_4_d174) ?_
          show Steps p.tables e below (T107.setTop (mkF m 175 #[.val (.ref x), .val (.int p1), .val (.int p2), .val (.int p3), .val (.int z29), .val (.int z31), .val (.int z33), .val (.int z35), .val (.int z37), .val (.int z39), .val (.int z41), .val (.int z43), .val (.int z45)] [(.int (2 : Int32)), (.ref b103), (.ref b103), (.ref b102), (.ref b102)])) _
          refine XS.iload X107.here hx rfl (hb hby own_method_4_d175) rfl ?_
          show Steps p.tables e below (T107.setTop (mkF m 177 #[.val (.ref x), .val (.int p1), .val (.int p2), .val (.int p3), .val (.int z29), .val (.int z31), .val (.int z33), .val (.int z35), .val (.int z37), .val (.int z39), .val (.int z41), .val (.int z43), .val (.int z45)] [(.int z33), (.int (2 : Int32)), (.ref b103), (.ref b103), (.ref b102), (.ref b102)])) _
          refine st109 _ ?_
          show Steps p.tables e below (T109.setTop (mkF m 178 #[.val (.ref x), .val (.int p1), .val (.int p2), .val (.int p3), .val (.int z29), .val (.int z31), .val (.int z33), .val (.int z35), .val (.int z37), .val (.int z39), .val (.int z41), .val (.int z43), .val (.int z45)] [(.ref b103), (.ref b102), (.ref b102)])) _
          refine XS.dup X109.here hx rfl (hb hby own_method_4_d178) rfl rfl ?_
          show Steps p.tables e below (T109.setTop (mkF m 179 #[.val (.ref x), .val (.int p1), .val (.int p2), .val (.int p3), .val (.int z29), .val (.int z31), .val (.int z33), .val (.int z35), .val (.int z37), .val (.int z39), .val (.int z41), .val (.int z43), .val (.int z45)] [(.ref b103), (.ref b103), (.ref b102), (.ref b102)])) _
          refine XS.iconst X109.here hx rfl (hb hby own_method_4_d179) ?_
          show Steps p.tables e below (T109.setTop (mkF m 180 #[.val (.ref x), .val (.int p1), .val (.int p2), .val (.int p3), .val (.int z29), .val (.int z31), .val (.int z33), .val (.int z35), .val (.int z37), .val (.int z39), .val (.int z41), .val (.int z43), .val (.int z45)] [(.int (3 : Int32)), (.ref b103), (.ref b103), (.ref b102), (.ref b102)])) _
          refine XS.iload X109.here hx rfl (hb hby own_method_4_d180) rfl ?_
          show Steps p.tables e below (T109.setTop (mkF m 182 #[.val (.ref x), .val (.int p1), .val (.int p2), .val (.int p3), .val (.int z29), .val (.int z31), .val (.int z33), .val (.int z35), .val (.int z37), .val (.int z39), .val (.int z41), .val (.int z43), .val (.int z45)] [(.int z35), (.int (3 : Int32)), (.ref b103), (.ref b103), (.ref b102), (.ref b102)])) _
          refine st111 _ ?_
          show Steps p.tables e below (T111.setTop (mkF m 183 #[.val (.ref x), .val (.int p1), .val (.int p2), .val (.int p3), .val (.int z29), .val (.int z31), .val (.int z33), .val (.int z35), .val (.int z37), .val (.int z39), .val (.int z41), .val (.int z43), .val (.int z45)] [(.ref b103), (.ref b102), (.ref b102)])) _
          refine XS.dup X111.here hx rfl (hb hby own_method_4_d183) rfl rfl ?_
          show Steps p.tables e below (T111.setTop (mkF m 184 #[.val (.ref x), .val (.int p1), .val (.int p2), .val (.int p3), .val (.int z29), .val (.int z31), .val (.int z33), .val (.int z35), .val (.int z37), .val (.int z39), .val (.int z41), .val (.int z43), .val (.int z45)] [(.ref b103), (.ref b103), (.ref b102), (.ref b102)])) _
          refine XS.iconst X111.here hx rfl (hb hby own_method_4_d184) ?_
          show Steps p.tables e below (T111.setTop (mkF m 185 #[.val (.ref x), .val (.int p1), .val (.int p2), .val (.int p3), .val (.int z29), .val (.int z31), .val (.int z33), .val (.int z35), .val (.int z37), .val (.int z39), .val (.int z41), .val (.int z43), .val (.int z45)] [(.int (4 : Int32)), (.ref b103), (.ref b103), (.ref b102), (.ref b102)])) _
          refine XS.iload X111.here hx rfl (hb hby own_method_4_d185) rfl ?_
          show Steps p.tables e below (T111.setTop (mkF m 187 #[.val (.ref x), .val (.int p1), .val (.int p2), .val (.int p3), .val (.int z29), .val (.int z31), .val (.int z33), .val (.int z35), .val (.int z37), .val (.int z39), .val (.int z41), .val (.int z43), .val (.int z45)] [(.int z37), (.int (4 : Int32)), (.ref b103), (.ref b103), (.ref b102), (.ref b102)])) _
          refine st113 _ ?_
          show Steps p.tables e below (T113.setTop (mkF m 188 #[.val (.ref x), .val (.int p1), .val (.int p2), .val (.int p3), .val (.int z29), .val (.int z31), .val (.int z33), .val (.int z35), .val (.int z37), .val (.int z39), .val (.int z41), .val (.int z43), .val (.int z45)] [(.ref b103), (.ref b102), (.ref b102)])) _
          refine st131.trans ?_
          show Steps p.tables e below (T131.setTop (mkF m 191 #[.val (.ref x), .val (.int p1), .val (.int p2), .val (.int p3), .val (.int z29), .val (.int z31), .val (.int z33), .val (.int z35), .val (.int z37), .val (.int z39), .val (.int z41), .val (.int z43), .val (.int z45)] [(.ref b102)])) _
          exact retR X131 hx Bd.returns rfl rfl rfl (hb hby own_method_4_d191) hr
        · show own_Qmk Z h0 n0 _ T131.heap _
          exact ⟨b102, _, rfl, Na132, Xt133, Str131, Nat.le_of_ble_eq_true rfl⟩
      · have go134 : ∀ t, Steps p.tables e below (T45.setTop (mkF m 195 #[.val (.ref x), .val (.int p1), .val (.int p2), .val (.int p3), .val (.int z29), .val (.int z31), .val (.int z33), .val (.int z35), .val (.int z37), .val (.int z39), .val (.int z41), .val (.int z43), .val (.int z45)] [(.int (6 : Int32)), (.int p1)])) t → Steps p.tables e below (s₁.setTop (mkF m 0 #[.val (.ref x), .val (.int p1), .val (.int p2), .val (.int p3), .unset, .unset, .unset, .unset, .unset, .unset, .unset, .unset, .unset] [])) t := fun t kt => go100 t (by
            show Steps p.tables e below (T45.setTop (mkF m 153 #[.val (.ref x), .val (.int p1), .val (.int p2), .val (.int p3), .val (.int z29), .val (.int z31), .val (.int z33), .val (.int z35), .val (.int z37), .val (.int z39), .val (.int z41), .val (.int z43), .val (.int z45)] [(.int (5 : Int32)), (.int p1)])) _
            refine XS.icmpYes X45.here hx rfl (pc0 := 153) (pc' := 192) rfl (hb hby own_method_4_d153) rfl (feq hc101).2 (by decide) (by decide) ?_
            show Steps p.tables e below (T45.setTop (mkF m 192 #[.val (.ref x), .val (.int p1), .val (.int p2), .val (.int p3), .val (.int z29), .val (.int z31), .val (.int z33), .val (.int z35), .val (.int z37), .val (.int z39), .val (.int z41), .val (.int z43), .val (.int z45)] [])) _
            refine XS.iloadN X45.here hx rfl (hb hby own_method_4_d192) rfl ?_
            show Steps p.tables e below (T45.setTop (mkF m 193 #[.val (.ref x), .val (.int p1), .val (.int p2), .val (.int p3), .val (.int z29), .val (.int z31), .val (.int z33), .val (.int z35), .val (.int z37), .val (.int z39), .val (.int z41), .val (.int z43), .val (.int z45)] [(.int p1)])) _
            refine XS.bipush X45.here hx rfl (hb hby own_method_4_d193) ?_
            exact kt)
        by_cases hc135 : p1 = (6 : Int32)
        · obtain ⟨T136, h136, X136, e136, E136, A136, D136, -, st136⟩ := newO X45 hx hZ hown (hw _ (List.mem_of_getElem? (i := 51) rfl)) (hw _ (List.mem_of_getElem? (i := 3) rfl)) (hw _ (List.mem_of_getElem? (i := 2) rfl)) e45 (g := (mkF m 198 #[.val (.ref x), .val (.int p1), .val (.int p2), .val (.int p3), .val (.int z29), .val (.int z31), .val (.int z33), .val (.int z35), .val (.int z37), .val (.int z39), .val (.int z41), .val (.int z43), .val (.int z45)] [])) rfl (hb hby own_method_4_d198) (by decide) (by decide)
          obtain ⟨b136, g136⟩ : ∃ z, z = h0.size := ⟨_, rfl⟩
          rw [← g136] at A136 D136 st136
          have Fvalue_136 : Fld Z h136 b136 "java/lang/String" "value" "[B" .null := D136 (Or.inr (hw _ (List.mem_of_getElem? (i := 5) rfl))) (ty := (.array .byte)) (by decide)
          have Fcoder_136 : Fld Z h136 b136 "java/lang/String" "coder" "B" (.int (0 : Int32)) := D136 (Or.inr (hw _ (List.mem_of_getElem? (i := 6) rfl))) (ty := .byte) (by decide)
          obtain ⟨T137, h137, k137, X137, e137, E137, A137, st137⟩ := newP X136 hx hZ (hw _ (List.mem_of_getElem? (i := 52) rfl)) e136 (g := (mkF m 204 #[.val (.ref x), .val (.int p1), .val (.int p2), .val (.int p3), .val (.int z29), .val (.int z31), .val (.int z33), .val (.int z35), .val (.int z37), .val (.int z39), .val (.int z41), .val (.int z43), .val (.int z45)] [(.int (6 : Int32)), (.ref b136), (.ref b136)])) rfl (hb hby own_method_4_d204) rfl (by decide) (cap := 6) (by decide) (by decide) (by decide) (by decide)
          obtain ⟨b137, g137⟩ : ∃ z, z = h136.size := ⟨_, rfl⟩
          rw [← g137] at A137 st137
          have V137 : Arv Z h137 b137 k137 .char (6 : Int32) [(.int (0 : Int32)), (.int (0 : Int32)), (.int (0 : Int32)), (.int (0 : Int32)), (.int (0 : Int32)), (.int (0 : Int32))] (.int (0 : Int32)) := (Arv.new A137 (by decide)).pad (pad_rep [] (.int (0 : Int32)) 6)
          obtain ⟨cl138, Ar138, q138, S138, M138, H138, G138⟩ := id V137
          obtain ⟨T139, h139, X139, e139, W139, st139⟩ := stC X137 hx hZ e137 Ar138 (j := (0 : Int32)) (inb_of S138 ⟨by decide, by decide⟩) (g := (mkF m 210 #[.val (.ref x), .val (.int p1), .val (.int p2), .val (.int p3), .val (.int z29), .val (.int z31), .val (.int z33), .val (.int z35), .val (.int z37), .val (.int z39), .val (.int z41), .val (.int z43), .val (.int z45)] [(.int z29), (.int (0 : Int32)), (.ref b137), (.ref b137), (.ref b136), (.ref b136)])) rfl rfl (hb hby own_method_4_d210)
          have V139 : Arv Z h139 b137 k137 .char (6 : Int32) [(.int z29), (.int (0 : Int32)), (.int (0 : Int32)), (.int (0 : Int32)), (.int (0 : Int32)), (.int (0 : Int32))] (.int (0 : Int32)) := by have q := Arv.set Ar138 q138 S138 M138 H138 G138 (fits_nar_char _) W139 0 rfl (Nat.le_of_ble_eq_true rfl); rw [own_nar hz29] at q; exact q
          have N139 := Fr.snoc X139 Na46 (Nat.le_trans (Nat.le_trans Z0 E136.1) (Nat.le_of_eq g137.symm))
          obtain ⟨cl140, Ar140, q140, S140, M140, H140, G140⟩ := id V139
          obtain ⟨T141, h141, X141, e141, W141, st141⟩ := stC X139 hx hZ e139 Ar140 (j := (1 : Int32)) (inb_of S140 ⟨by decide, by decide⟩) (g := (mkF m 215 #[.val (.ref x), .val (.int p1), .val (.int p2), .val (.int p3), .val (.int z29), .val (.int z31), .val (.int z33), .val (.int z35), .val (.int z37), .val (.int z39), .val (.int z41), .val (.int z43), .val (.int z45)] [(.int z31), (.int (1 : Int32)), (.ref b137), (.ref b137), (.ref b136), (.ref b136)])) rfl rfl (hb hby own_method_4_d215)
          have V141 : Arv Z h141 b137 k137 .char (6 : Int32) [(.int z29), (.int z31), (.int (0 : Int32)), (.int (0 : Int32)), (.int (0 : Int32)), (.int (0 : Int32))] (.int (0 : Int32)) := by have q := Arv.set Ar140 q140 S140 M140 H140 G140 (fits_nar_char _) W141 1 rfl (Nat.le_of_ble_eq_true rfl); rw [own_nar hz31] at q; exact q
          have N141 := Fr.snoc X141 N139 (Nat.le_trans (Nat.le_trans Z0 E136.1) (Nat.le_of_eq g137.symm))
          obtain ⟨cl142, Ar142, q142, S142, M142, H142, G142⟩ := id V141
          obtain ⟨T143, h143, X143, e143, W143, st143⟩ := stC X141 hx hZ e141 Ar142 (j := (2 : Int32)) (inb_of S142 ⟨by decide, by decide⟩) (g := (mkF m 220 #[.val (.ref x), .val (.int p1), .val (.int p2), .val (.int p3), .val (.int z29), .val (.int z31), .val (.int z33), .val (.int z35), .val (.int z37), .val (.int z39), .val (.int z41), .val (.int z43), .val (.int z45)] [(.int z33), (.int (2 : Int32)), (.ref b137), (.ref b137), (.ref b136), (.ref b136)])) rfl rfl (hb hby own_method_4_d220)
          have V143 : Arv Z h143 b137 k137 .char (6 : Int32) [(.int z29), (.int z31), (.int z33), (.int (0 : Int32)), (.int (0 : Int32)), (.int (0 : Int32))] (.int (0 : Int32)) := by have q := Arv.set Ar142 q142 S142 M142 H142 G142 (fits_nar_char _) W143 2 rfl (Nat.le_of_ble_eq_true rfl); rw [own_nar hz33] at q; exact q
          have N143 := Fr.snoc X143 N141 (Nat.le_trans (Nat.le_trans Z0 E136.1) (Nat.le_of_eq g137.symm))
          obtain ⟨cl144, Ar144, q144, S144, M144, H144, G144⟩ := id V143
          obtain ⟨T145, h145, X145, e145, W145, st145⟩ := stC X143 hx hZ e143 Ar144 (j := (3 : Int32)) (inb_of S144 ⟨by decide, by decide⟩) (g := (mkF m 225 #[.val (.ref x), .val (.int p1), .val (.int p2), .val (.int p3), .val (.int z29), .val (.int z31), .val (.int z33), .val (.int z35), .val (.int z37), .val (.int z39), .val (.int z41), .val (.int z43), .val (.int z45)] [(.int z35), (.int (3 : Int32)), (.ref b137), (.ref b137), (.ref b136), (.ref b136)])) rfl rfl (hb hby own_method_4_d225)
          have V145 : Arv Z h145 b137 k137 .char (6 : Int32) [(.int z29), (.int z31), (.int z33), (.int z35), (.int (0 : Int32)), (.int (0 : Int32))] (.int (0 : Int32)) := by have q := Arv.set Ar144 q144 S144 M144 H144 G144 (fits_nar_char _) W145 3 rfl (Nat.le_of_ble_eq_true rfl); rw [own_nar hz35] at q; exact q
          have N145 := Fr.snoc X145 N143 (Nat.le_trans (Nat.le_trans Z0 E136.1) (Nat.le_of_eq g137.symm))
          obtain ⟨cl146, Ar146, q146, S146, M146, H146, G146⟩ := id V145
          obtain ⟨T147, h147, X147, e147, W147, st147⟩ := stC X145 hx hZ e145 Ar146 (j := (4 : Int32)) (inb_of S146 ⟨by decide, by decide⟩) (g := (mkF m 230 #[.val (.ref x), .val (.int p1), .val (.int p2), .val (.int p3), .val (.int z29), .val (.int z31), .val (.int z33), .val (.int z35), .val (.int z37), .val (.int z39), .val (.int z41), .val (.int z43), .val (.int z45)] [(.int z37), (.int (4 : Int32)), (.ref b137), (.ref b137), (.ref b136), (.ref b136)])) rfl rfl (hb hby own_method_4_d230)
          have V147 : Arv Z h147 b137 k137 .char (6 : Int32) [(.int z29), (.int z31), (.int z33), (.int z35), (.int z37), (.int (0 : Int32))] (.int (0 : Int32)) := by have q := Arv.set Ar146 q146 S146 M146 H146 G146 (fits_nar_char _) W147 4 rfl (Nat.le_of_ble_eq_true rfl); rw [own_nar hz37] at q; exact q
          have N147 := Fr.snoc X147 N145 (Nat.le_trans (Nat.le_trans Z0 E136.1) (Nat.le_of_eq g137.symm))
          obtain ⟨cl148, Ar148, q148, S148, M148, H148, G148⟩ := id V147
          obtain ⟨T149, h149, X149, e149, W149, st149⟩ := stC X147 hx hZ e147 Ar148 (j := (5 : Int32)) (inb_of S148 ⟨by decide, by decide⟩) (g := (mkF m 235 #[.val (.ref x), .val (.int p1), .val (.int p2), .val (.int p3), .val (.int z29), .val (.int z31), .val (.int z33), .val (.int z35), .val (.int z37), .val (.int z39), .val (.int z41), .val (.int z43), .val (.int z45)] [(.int z39), (.int (5 : Int32)), (.ref b137), (.ref b137), (.ref b136), (.ref b136)])) rfl rfl (hb hby own_method_4_d235)
          have V149 : Arv Z h149 b137 k137 .char (6 : Int32) [(.int z29), (.int z31), (.int z33), (.int z35), (.int z37), (.int z39)] (.int (0 : Int32)) := by have q := Arv.set Ar148 q148 S148 M148 H148 G148 (fits_nar_char _) W149 5 rfl (Nat.le_of_ble_eq_true rfl); rw [own_nar hz39] at q; exact q
          have N149 := Fr.snoc X149 N147 (Nat.le_trans (Nat.le_trans Z0 E136.1) (Nat.le_of_eq g137.symm))
          have Gr156 : h0.size ≤ h137.size := Nat.le_trans E136.1 E137.1
          have Gr155 : h0.size ≤ h139.size := Nat.le_trans Gr156 (Keep.of_wr W139).1
          have Gr154 : h0.size ≤ h141.size := Nat.le_trans Gr155 (Keep.of_wr W141).1
          have Gr153 : h0.size ≤ h143.size := Nat.le_trans Gr154 (Keep.of_wr W143).1
          have Gr152 : h0.size ≤ h145.size := Nat.le_trans Gr153 (Keep.of_wr W145).1
          have Gr151 : h0.size ≤ h147.size := Nat.le_trans Gr152 (Keep.of_wr W147).1
          have Gr150 : h0.size ≤ h149.size := Nat.le_trans Gr151 (Keep.of_wr W149).1
          have Xt157 : Ext h136 h139 := (own_xw E137 W139 (Nat.le_trans (own_xr h136).1 (Nat.le_of_eq g137.symm)))
          have Xt158 : Ext h136 h141 := (own_xw Xt157 W141 (Nat.le_trans (own_xr h136).1 (Nat.le_of_eq g137.symm)))
          have Xt159 : Ext h136 h143 := (own_xw Xt158 W143 (Nat.le_trans (own_xr h136).1 (Nat.le_of_eq g137.symm)))
          have Xt160 : Ext h136 h145 := (own_xw Xt159 W145 (Nat.le_trans (own_xr h136).1 (Nat.le_of_eq g137.symm)))
          have Xt161 : Ext h136 h147 := (own_xw Xt160 W147 (Nat.le_trans (own_xr h136).1 (Nat.le_of_eq g137.symm)))
          have Xt162 : Ext h136 h149 := (own_xw Xt161 W149 (Nat.le_trans (own_xr h136).1 (Nat.le_of_eq g137.symm)))
          have Xt163 : Ext h0 h137 := (own_xt E136 E137)
          have Xt164 : Ext h0 h139 := (own_xw Xt163 W139 (Nat.le_trans E136.1 (Nat.le_of_eq g137.symm)))
          have Xt165 : Ext h0 h141 := (own_xw Xt164 W141 (Nat.le_trans E136.1 (Nat.le_of_eq g137.symm)))
          have Xt166 : Ext h0 h143 := (own_xw Xt165 W143 (Nat.le_trans E136.1 (Nat.le_of_eq g137.symm)))
          have Xt167 : Ext h0 h145 := (own_xw Xt166 W145 (Nat.le_trans E136.1 (Nat.le_of_eq g137.symm)))
          have Xt168 : Ext h0 h147 := (own_xw Xt167 W147 (Nat.le_trans E136.1 (Nat.le_of_eq g137.symm)))
          have Xt169 : Ext h0 h149 := (own_xw Xt168 W149 (Nat.le_trans E136.1 (Nat.le_of_eq g137.symm)))
          obtain ⟨_, _, ⟨T170, L170, k170, n170⟩, -, X170, ⟨Lc170, hQ170, l170, y170, z170⟩, st170⟩ := X149.specialBack hx (y := (⟨"java/lang/String", "<init>", "([C)V"⟩ : MethodName)) rfl hown (mvT hZ (hw _ (List.mem_of_getElem? (i := 53) rfl))) (mvT hZ (hw _ (List.mem_of_getElem? (i := 54) rfl))) (mvT hZ (hw _ (List.mem_of_getElem? (i := 55) rfl))) (by decide) (StrChars.Road.backV (W := 1) hZ (own_ws hw) (kI := 4) (hw _ (List.mem_of_getElem? (i := 3) rfl)) (cs := ([z29, z31, z33, z35, z37, z39] : List Int32)) (bs := ([z29, z31, z33, z35, z37, z39] : List Int32).map (fun c => c.toInt8.toInt32)) (n := 6) (Nat.le_trans Z0 (Nat.le_of_eq g136.symm)) (Nat.le_trans Z0 Gr150) (A136.ext Xt162) (Fvalue_136.ext Xt162) (Fcoder_136.ext Xt162) V149 (S_C.ext Xt169) P5 rfl rfl (by decide) (by decide) (own_cS hz29 (own_cS hz31 (own_cS hz33 (own_cS hz35 (own_cS hz37 (own_cS hz39 own_c0)))))) rfl (by decide) (by decide)) (g := (mkF m 236 #[.val (.ref x), .val (.int p1), .val (.int p2), .val (.int p3), .val (.int z29), .val (.int z31), .val (.int z33), .val (.int z35), .val (.int z37), .val (.int z39), .val (.int z41), .val (.int z43), .val (.int z45)] [(.ref b137), (.ref b136), (.ref b136)])) rfl (by rw [hml]; rfl) (Steps.refl _) (a := b136) (argsL := [(.ref b137)]) (rest := [(.ref b136)]) (lenOf own_pd5 rfl) rfl (by show 2 * 0 + _ ≤ _; exact Nat.le_of_eq rfl) (hb hby own_method_4_d236) (fun _ _ => ⟨rfl, e149, (by decide : 2 + 1 ≤ _), (by decide : 10 + 6 ≤ _)⟩)
          dsimp only [Pt.U, Pt.locs, Pt.cells, Pt.slots] at X170 l170 y170 z170 st170 hQ170
          subst l170 y170 z170
          obtain ⟨rfl, Nq170, K170, Ex170, Co170, t170, kb170, tg170, ts170, tx170, Va170, Ar170⟩ := hQ170
          have Na171 := Fr.app N149 Nq170
          have Str170 : own_Str Z T170.heap b136 ([z29, z31, z33, z35, z37, z39] : List Int32) := ⟨Ex170, (own_cS hz29 (own_cS hz31 (own_cS hz33 (own_cS hz35 (own_cS hz37 (own_cS hz39 own_c0)))))), t170, kb170, Va170, Co170, Ar170⟩
          have Xt172 : Ext h0 T170.heap := (own_xk Xt169 K170 ((allS (Nat.le_trans (own_xr h0).1 (Nat.le_of_eq g136.symm)) all0)))
          obtain ⟨fs, hr, hrun, hended, hW, hsame⟩ := X170.leave (v := some (.ref b136)) (fun h => by rw [Bd.returns] at h; cases h)
          refine ⟨_, _, pre0 _ (go134 _ ?_), hrun, hended, _, _, rfl, ?_, ⟨_, rfl⟩, hW, hsame.mono (by decide) (by decide)⟩
          · show Steps p.tables e below (T45.setTop (mkF m 195 #[.val (.ref x), .val (.int p1), .val (.int p2), .val (.int p3), .val (.int z29), .val (.int z31), .val (.int z33), .val (.int z35), .val (.int z37), .val (.int z39), .val (.int z41), .val (.int z43), .val (.int z45)] [(.int (6 : Int32)), (.int p1)])) _
            refine XS.icmpNo X45.here hx rfl (hb hby own_method_4_d195) rfl (teq hc135).2 ?_
            show Steps p.tables e below (T45.setTop (mkF m 198 #[.val (.ref x), .val (.int p1), .val (.int p2), .val (.int p3), .val (.int z29), .val (.int z31), .val (.int z33), .val (.int z35), .val (.int z37), .val (.int z39), .val (.int z41), .val (.int z43), .val (.int z45)] [])) _
            refine st136 _ ?_
            show Steps p.tables e below (T136.setTop (mkF m 201 #[.val (.ref x), .val (.int p1), .val (.int p2), .val (.int p3), .val (.int z29), .val (.int z31), .val (.int z33), .val (.int z35), .val (.int z37), .val (.int z39), .val (.int z41), .val (.int z43), .val (.int z45)] [(.ref b136)])) _
            refine XS.dup X136.here hx rfl (hb hby own_method_4_d201) rfl rfl ?_
            show Steps p.tables e below (T136.setTop (mkF m 202 #[.val (.ref x), .val (.int p1), .val (.int p2), .val (.int p3), .val (.int z29), .val (.int z31), .val (.int z33), .val (.int z35), .val (.int z37), .val (.int z39), .val (.int z41), .val (.int z43), .val (.int z45)] [(.ref b136), (.ref b136)])) _
            refine XS.bipush X136.here hx rfl (hb hby own_method_4_d202) ?_
            show Steps p.tables e below (T136.setTop (mkF m 204 #[.val (.ref x), .val (.int p1), .val (.int p2), .val (.int p3), .val (.int z29), .val (.int z31), .val (.int z33), .val (.int z35), .val (.int z37), .val (.int z39), .val (.int z41), .val (.int z43), .val (.int z45)] [(.int (6 : Int32)), (.ref b136), (.ref b136)])) _
            refine st137 _ ?_
            show Steps p.tables e below (T137.setTop (mkF m 206 #[.val (.ref x), .val (.int p1), .val (.int p2), .val (.int p3), .val (.int z29), .val (.int z31), .val (.int z33), .val (.int z35), .val (.int z37), .val (.int z39), .val (.int z41), .val (.int z43), .val (.int z45)] [(.ref b137), (.ref b136), (.ref b136)])) _
            refine XS.dup X137.here hx rfl (hb hby own_method_4_d206) rfl rfl ?_
            show Steps p.tables e below (T137.setTop (mkF m 207 #[.val (.ref x), .val (.int p1), .val (.int p2), .val (.int p3), .val (.int z29), .val (.int z31), .val (.int z33), .val (.int z35), .val (.int z37), .val (.int z39), .val (.int z41), .val (.int z43), .val (.int z45)] [(.ref b137), (.ref b137), (.ref b136), (.ref b136)])) _
            refine XS.iconst X137.here hx rfl (hb hby own_method_4_d207) ?_
            show Steps p.tables e below (T137.setTop (mkF m 208 #[.val (.ref x), .val (.int p1), .val (.int p2), .val (.int p3), .val (.int z29), .val (.int z31), .val (.int z33), .val (.int z35), .val (.int z37), .val (.int z39), .val (.int z41), .val (.int z43), .val (.int z45)] [(.int (0 : Int32)), (.ref b137), (.ref b137), (.ref b136), (.ref b136)])) _
            refine XS.iload X137.here hx rfl (hb hby own_method_4_d208) rfl ?_
            show Steps p.tables e below (T137.setTop (mkF m 210 #[.val (.ref x), .val (.int p1), .val (.int p2), .val (.int p3), .val (.int z29), .val (.int z31), .val (.int z33), .val (.int z35), .val (.int z37), .val (.int z39), .val (.int z41), .val (.int z43), .val (.int z45)] [(.int z29), (.int (0 : Int32)), (.ref b137), (.ref b137), (.ref b136), (.ref b136)])) _
            refine st139 _ ?_
            show Steps p.tables e below (T139.setTop (mkF m 211 #[.val (.ref x), .val (.int p1), .val (.int p2), .val (.int p3), .val (.int z29), .val (.int z31), .val (.int z33), .val (.int z35), .val (.int z37), .val (.int z39), .val (.int z41), .val (.int z43), .val (.int z45)] [(.ref b137), (.ref b136), (.ref b136)])) _
            refine XS.dup X139.here hx rfl (hb hby own_method_4_d211) rfl rfl ?_
            show Steps p.tables e below (T139.setTop (mkF m 212 #[.val (.ref x), .val (.int p1), .val (.int p2), .val (.int p3), .val (.int z29), .val (.int z31), .val (.int z33), .val (.int z35), .val (.int z37), .val (.int z39), .val (.int z41), .val (.int z43), .val (.int z45)] [(.ref b137), (.ref b137), (.ref b136), (.ref b136)])) _
            refine XS.iconst X139.here hx rfl (hb hby own_method_4_d212) ?_
            show Steps p.tables e below (T139.setTop (mkF m 213 #[.val (.ref x), .val (.int p1), .val (.int p2), .val (.int p3), .val (.int z29), .val (.int z31), .val (.int z33), .val (.int z35), .val (.int z37), .val (.int z39), .val (.int z41), .val (.int z43), .val (.int z45)] [(.int (1 : Int32)), (.ref b137), (.ref b137), (.ref b136), (.ref b136)])) _
            refine XS.iload X139.here hx rfl (hb hby own_method_4_d213) rfl ?_
            show Steps p.tables e below (T139.setTop (mkF m 215 #[.val (.ref x), .val (.int p1), .val (.int p2), .val (.int p3), .val (.int z29), .val (.int z31), .val (.int z33), .val (.int z35), .val (.int z37), .val (.int z39), .val (.int z41), .val (.int z43), .val (.int z45)] [(.int z31), (.int (1 : Int32)), (.ref b137), (.ref b137), (.ref b136), (.ref b136)])) _
            refine st141 _ ?_
            show Steps p.tables e below (T141.setTop (mkF m 216 #[.val (.ref x), .val (.int p1), .val (.int p2), .val (.int p3), .val (.int z29), .val (.int z31), .val (.int z33), .val (.int z35), .val (.int z37), .val (.int z39), .val (.int z41), .val (.int z43), .val (.int z45)] [(.ref b137), (.ref b136), (.ref b136)])) _
            refine XS.dup X141.here hx rfl (hb hby own_method_4_d216) rfl rfl ?_
            show Steps p.tables e below (T141.setTop (mkF m 217 #[.val (.ref x), .val (.int p1), .val (.int p2), .val (.int p3), .val (.int z29), .val (.int z31), .val (.int z33), .val (.int z35), .val (.int z37), .val (.int z39), .val (.int z41), .val (.int z43), .val (.int z45)] [(.ref b137), (.ref b137), (.ref b136), (.ref b136)])) _
            refine XS.iconst X141.here hx rfl (hb hby own_method_4_d217) ?_
            show Steps p.tables e below (T141.setTop (mkF m 218 #[.val (.ref x), .val (.int p1), .val (.int p2), .val (.int p3), .val (.int z29), .val (.int z31), .val (.int z33), .val (.int z35), .val (.int z37), .val (.int z39), .val (.int z41), .val (.int z43), .val (.int z45)] [(.int (2 : Int32)), (.ref b137), (.ref b137), (.ref b136), (.ref b136)])) _
            refine XS.iload X141.here hx rfl (hb hby own_method_4_d218) rfl ?_
            show Steps p.tables e below (T141.setTop (mkF m 220 #[.val (.ref x), .val (.int p1), .val (.int p2), .val (.int p3), .val (.int z29), .val (.int z31), .val (.int z33), .val (.int z35), .val (.int z37), .val (.int z39), .val (.int z41), .val (.int z43), .val (.int z45)] [(.int z33), (.int (2 : Int32)), (.ref b137), (.ref b137), (.ref b136), (.ref b136)])) _
            refine st143 _ ?_
            show Steps p.tables e below (T143.setTop (mkF m 221 #[.val (.ref x), .val (.int p1), .val (.int p2), .val (.int p3), .val (.int z29), .val (.int z31), .val (.int z33), .val (.int z35), .val (.int z37), .val (.int z39), .val (.int z41), .val (.int z43), .val (.int z45)] [(.ref b137), (.ref b136), (.ref b136)])) _
            refine XS.dup X143.here hx rfl (hb hby own_method_4_d221) rfl rfl ?_
            show Steps p.tables e below (T143.setTop (mkF m 222 #[.val (.ref x), .val (.int p1), .val (.int p2), .val (.int p3), .val (.int z29), .val (.int z31), .val (.int z33), .val (.int z35), .val (.int z37), .val (.int z39), .val (.int z41), .val (.int z43), .val (.int z45)] [(.ref b137), (.ref b137), (.ref b136), (.ref b136)])) _
            refine XS.iconst X143.here hx rfl (hb hby own_method_4_d222) ?_
            show Steps p.tables e below (T143.setTop (mkF m 223 #[.val (.ref x), .val (.int p1), .val (.int p2), .val (.int p3), .val (.int z29), .val (.int z31), .val (.int z33), .val (.int z35), .val (.int z37), .val (.int z39), .val (.int z41), .val (.int z43), .val (.int z45)] [(.int (3 : Int32)), (.ref b137), (.ref b137), (.ref b136), (.ref b136)])) _
            refine XS.iload X143.here hx rfl (hb hby own_method_4_d223) rfl ?_
            show Steps p.tables e below (T143.setTop (mkF m 225 #[.val (.ref x), .val (.int p1), .val (.int p2), .val (.int p3), .val (.int z29), .val (.int z31), .val (.int z33), .val (.int z35), .val (.int z37), .val (.int z39), .val (.int z41), .val (.int z43), .val (.int z45)] [(.int z35), (.int (3 : Int32)), (.ref b137), (.ref b137), (.ref b136), (.ref b136)])) _
            refine st145 _ ?_
            show Steps p.tables e below (T145.setTop (mkF m 226 #[.val (.ref x), .val (.int p1), .val (.int p2), .val (.int p3), .val (.int z29), .val (.int z31), .val (.int z33), .val (.int z35), .val (.int z37), .val (.int z39), .val (.int z41), .val (.int z43), .val (.int z45)] [(.ref b137), (.ref b136), (.ref b136)])) _
            refine XS.dup X145.here hx rfl (hb hby own_method_4_d226) rfl rfl ?_
            show Steps p.tables e below (T145.setTop (mkF m 227 #[.val (.ref x), .val (.int p1), .val (.int p2), .val (.int p3), .val (.int z29), .val (.int z31), .val (.int z33), .val (.int z35), .val (.int z37), .val (.int z39), .val (.int z41), .val (.int z43), .val (.int z45)] [(.ref b137), (.ref b137), (.ref b136), (.ref b136)])) _
            refine XS.iconst X145.here hx rfl (hb hby own_method_4_d227) ?_
            show Steps p.tables e below (T145.setTop (mkF m 228 #[.val (.ref x), .val (.int p1), .val (.int p2), .val (.int p3), .val (.int z29), .val (.int z31), .val (.int z33), .val (.int z35), .val (.int z37), .val (.int z39), .val (.int z41), .val (.int z43), .val (.int z45)] [(.int (4 : Int32)), (.ref b137), (.ref b137), (.ref b136), (.ref b136)])) _
            refine XS.iload X145.here hx rfl (hb hby own_method_4_d228) rfl ?_
            show Steps p.tables e below (T145.setTop (mkF m 230 #[.val (.ref x), .val (.int p1), .val (.int p2), .val (.int p3), .val (.int z29), .val (.int z31), .val (.int z33), .val (.int z35), .val (.int z37), .val (.int z39), .val (.int z41), .val (.int z43), .val (.int z45)] [(.int z37), (.int (4 : Int32)), (.ref b137), (.ref b137), (.ref b136), (.ref b136)])) _
            refine st147 _ ?_
            show Steps p.tables e below (T147.setTop (mkF m 231 #[.val (.ref x), .val (.int p1), .val (.int p2), .val (.int p3), .val (.int z29), .val (.int z31), .val (.int z33), .val (.int z35), .val (.int z37), .val (.int z39), .val (.int z41), .val (.int z43), .val (.int z45)] [(.ref b137), (.ref b136), (.ref b136)])) _
            refine XS.dup X147.here hx rfl (hb hby own_method_4_d231) rfl rfl ?_
            show Steps p.tables e below (T147.setTop (mkF m 232 #[.val (.ref x), .val (.int p1), .val (.int p2), .val (.int p3), .val (.int z29), .val (.int z31), .val (.int z33), .val (.int z35), .val (.int z37), .val (.int z39), .val (.int z41), .val (.int z43), .val (.int z45)] [(.ref b137), (.ref b137), (.ref b136), (.ref b136)])) _
            refine XS.iconst X147.here hx rfl (hb hby own_method_4_d232) ?_
            show Steps p.tables e below (T147.setTop (mkF m 233 #[.val (.ref x), .val (.int p1), .val (.int p2), .val (.int p3), .val (.int z29), .val (.int z31), .val (.int z33), .val (.int z35), .val (.int z37), .val (.int z39), .val (.int z41), .val (.int z43), .val (.int z45)] [(.int (5 : Int32)), (.ref b137), (.ref b137), (.ref b136), (.ref b136)])) _
            refine XS.iload X147.here hx rfl (hb hby own_method_4_d233) rfl ?_
            show Steps p.tables e below (T147.setTop (mkF m 235 #[.val (.ref x), .val (.int p1), .val (.int p2), .val (.int p3), .val (.int z29), .val (.int z31), .val (.int z33), .val (.int z35), .val (.int z37), .val (.int z39), .val (.int z41), .val (.int z43), .val (.int z45)] [(.int z39), (.int (5 : Int32)), (.ref b137), (.ref b137), (.ref b136), (.ref b136)])) _
            refine st149 _ ?_
            show Steps p.tables e below (T149.setTop (mkF m 236 #[.val (.ref x), .val (.int p1), .val (.int p2), .val (.int p3), .val (.int z29), .val (.int z31), .val (.int z33), .val (.int z35), .val (.int z37), .val (.int z39), .val (.int z41), .val (.int z43), .val (.int z45)] [(.ref b137), (.ref b136), (.ref b136)])) _
            refine st170.trans ?_
            show Steps p.tables e below (T170.setTop (mkF m 239 #[.val (.ref x), .val (.int p1), .val (.int p2), .val (.int p3), .val (.int z29), .val (.int z31), .val (.int z33), .val (.int z35), .val (.int z37), .val (.int z39), .val (.int z41), .val (.int z43), .val (.int z45)] [(.ref b136)])) _
            exact retR X170 hx Bd.returns rfl rfl rfl (hb hby own_method_4_d239) hr
          · show own_Qmk Z h0 n0 _ T170.heap _
            exact ⟨b136, _, rfl, Na171, Xt172, Str170, Nat.le_of_ble_eq_true rfl⟩
        · have go173 : ∀ t, Steps p.tables e below (T45.setTop (mkF m 243 #[.val (.ref x), .val (.int p1), .val (.int p2), .val (.int p3), .val (.int z29), .val (.int z31), .val (.int z33), .val (.int z35), .val (.int z37), .val (.int z39), .val (.int z41), .val (.int z43), .val (.int z45)] [(.int (7 : Int32)), (.int p1)])) t → Steps p.tables e below (s₁.setTop (mkF m 0 #[.val (.ref x), .val (.int p1), .val (.int p2), .val (.int p3), .unset, .unset, .unset, .unset, .unset, .unset, .unset, .unset, .unset] [])) t := fun t kt => go134 t (by
              show Steps p.tables e below (T45.setTop (mkF m 195 #[.val (.ref x), .val (.int p1), .val (.int p2), .val (.int p3), .val (.int z29), .val (.int z31), .val (.int z33), .val (.int z35), .val (.int z37), .val (.int z39), .val (.int z41), .val (.int z43), .val (.int z45)] [(.int (6 : Int32)), (.int p1)])) _
              refine XS.icmpYes X45.here hx rfl (pc0 := 195) (pc' := 240) rfl (hb hby own_method_4_d195) rfl (feq hc135).2 (by decide) (by decide) ?_
              show Steps p.tables e below (T45.setTop (mkF m 240 #[.val (.ref x), .val (.int p1), .val (.int p2), .val (.int p3), .val (.int z29), .val (.int z31), .val (.int z33), .val (.int z35), .val (.int z37), .val (.int z39), .val (.int z41), .val (.int z43), .val (.int z45)] [])) _
              refine XS.iloadN X45.here hx rfl (hb hby own_method_4_d240) rfl ?_
              show Steps p.tables e below (T45.setTop (mkF m 241 #[.val (.ref x), .val (.int p1), .val (.int p2), .val (.int p3), .val (.int z29), .val (.int z31), .val (.int z33), .val (.int z35), .val (.int z37), .val (.int z39), .val (.int z41), .val (.int z43), .val (.int z45)] [(.int p1)])) _
              refine XS.bipush X45.here hx rfl (hb hby own_method_4_d241) ?_
              exact kt)
          by_cases hc174 : p1 = (7 : Int32)
          · obtain ⟨T175, h175, X175, e175, E175, A175, D175, -, st175⟩ := newO X45 hx hZ hown (hw _ (List.mem_of_getElem? (i := 51) rfl)) (hw _ (List.mem_of_getElem? (i := 3) rfl)) (hw _ (List.mem_of_getElem? (i := 2) rfl)) e45 (g := (mkF m 246 #[.val (.ref x), .val (.int p1), .val (.int p2), .val (.int p3), .val (.int z29), .val (.int z31), .val (.int z33), .val (.int z35), .val (.int z37), .val (.int z39), .val (.int z41), .val (.int z43), .val (.int z45)] [])) rfl (hb hby own_method_4_d246) (by decide) (by decide)
            obtain ⟨b175, g175⟩ : ∃ z, z = h0.size := ⟨_, rfl⟩
            rw [← g175] at A175 D175 st175
            have Fvalue_175 : Fld Z h175 b175 "java/lang/String" "value" "[B" .null := D175 (Or.inr (hw _ (List.mem_of_getElem? (i := 5) rfl))) (ty := (.array .byte)) (by decide)
            have Fcoder_175 : Fld Z h175 b175 "java/lang/String" "coder" "B" (.int (0 : Int32)) := D175 (Or.inr (hw _ (List.mem_of_getElem? (i := 6) rfl))) (ty := .byte) (by decide)
            obtain ⟨T176, h176, k176, X176, e176, E176, A176, st176⟩ := newP X175 hx hZ (hw _ (List.mem_of_getElem? (i := 52) rfl)) e175 (g := (mkF m 252 #[.val (.ref x), .val (.int p1), .val (.int p2), .val (.int p3), .val (.int z29), .val (.int z31), .val (.int z33), .val (.int z35), .val (.int z37), .val (.int z39), .val (.int z41), .val (.int z43), .val (.int z45)] [(.int (7 : Int32)), (.ref b175), (.ref b175)])) rfl (hb hby own_method_4_d252) rfl (by decide) (cap := 7) (by decide) (by decide) (by decide) (by decide)
            obtain ⟨b176, g176⟩ : ∃ z, z = h175.size := ⟨_, rfl⟩
            rw [← g176] at A176 st176
            have V176 : Arv Z h176 b176 k176 .char (7 : Int32) [(.int (0 : Int32)), (.int (0 : Int32)), (.int (0 : Int32)), (.int (0 : Int32)), (.int (0 : Int32)), (.int (0 : Int32)), (.int (0 : Int32))] (.int (0 : Int32)) := (Arv.new A176 (by decide)).pad (pad_rep [] (.int (0 : Int32)) 7)
            obtain ⟨cl177, Ar177, q177, S177, M177, H177, G177⟩ := id V176
            obtain ⟨T178, h178, X178, e178, W178, st178⟩ := stC X176 hx hZ e176 Ar177 (j := (0 : Int32)) (inb_of S177 ⟨by decide, by decide⟩) (g := (mkF m 258 #[.val (.ref x), .val (.int p1), .val (.int p2), .val (.int p3), .val (.int z29), .val (.int z31), .val (.int z33), .val (.int z35), .val (.int z37), .val (.int z39), .val (.int z41), .val (.int z43), .val (.int z45)] [(.int z29), (.int (0 : Int32)), (.ref b176), (.ref b176), (.ref b175), (.ref b175)])) rfl rfl (hb hby own_method_4_d258)
            have V178 : Arv Z h178 b176 k176 .char (7 : Int32) [(.int z29), (.int (0 : Int32)), (.int (0 : Int32)), (.int (0 : Int32)), (.int (0 : Int32)), (.int (0 : Int32)), (.int (0 : Int32))] (.int (0 : Int32)) := by have q := Arv.set Ar177 q177 S177 M177 H177 G177 (fits_nar_char _) W178 0 rfl (Nat.le_of_ble_eq_true rfl); rw [own_nar hz29] at q; exact q
            have N178 := Fr.snoc X178 Na46 (Nat.le_trans (Nat.le_trans Z0 E175.1) (Nat.le_of_eq g176.symm))
            obtain ⟨cl179, Ar179, q179, S179, M179, H179, G179⟩ := id V178
            obtain ⟨T180, h180, X180, e180, W180, st180⟩ := stC X178 hx hZ e178 Ar179 (j := (1 : Int32)) (inb_of S179 ⟨by decide, by decide⟩) (g := (mkF m 263 #[.val (.ref x), .val (.int p1), .val (.int p2), .val (.int p3), .val (.int z29), .val (.int z31), .val (.int z33), .val (.int z35), .val (.int z37), .val (.int z39), .val (.int z41), .val (.int z43), .val (.int z45)] [(.int z31), (.int (1 : Int32)), (.ref b176), (.ref b176), (.ref b175), (.ref b175)])) rfl rfl (hb hby own_method_4_d263)
            have V180 : Arv Z h180 b176 k176 .char (7 : Int32) [(.int z29), (.int z31), (.int (0 : Int32)), (.int (0 : Int32)), (.int (0 : Int32)), (.int (0 : Int32)), (.int (0 : Int32))] (.int (0 : Int32)) := by have q := Arv.set Ar179 q179 S179 M179 H179 G179 (fits_nar_char _) W180 1 rfl (Nat.le_of_ble_eq_true rfl); rw [own_nar hz31] at q; exact q
            have N180 := Fr.snoc X180 N178 (Nat.le_trans (Nat.le_trans Z0 E175.1) (Nat.le_of_eq g176.symm))
            obtain ⟨cl181, Ar181, q181, S181, M181, H181, G181⟩ := id V180
            obtain ⟨T182, h182, X182, e182, W182, st182⟩ := stC X180 hx hZ e180 Ar181 (j := (2 : Int32)) (inb_of S181 ⟨by decide, by decide⟩) (g := (mkF m 268 #[.val (.ref x), .val (.int p1), .val (.int p2), .val (.int p3), .val (.int z29), .val (.int z31), .val (.int z33), .val (.int z35), .val (.int z37), .val (.int z39), .val (.int z41), .val (.int z43), .val (.int z45)] [(.int z33), (.int (2 : Int32)), (.ref b176), (.ref b176), (.ref b175), (.ref b175)])) rfl rfl (hb hby own_method_4_d268)
            have V182 : Arv Z h182 b176 k176 .char (7 : Int32) [(.int z29), (.int z31), (.int z33), (.int (0 : Int32)), (.int (0 : Int32)), (.int (0 : Int32)), (.int (0 : Int32))] (.int (0 : Int32)) := by have q := Arv.set Ar181 q181 S181 M181 H181 G181 (fits_nar_char _) W182 2 rfl (Nat.le_of_ble_eq_true rfl); rw [own_nar hz33] at q; exact q
            have N182 := Fr.snoc X182 N180 (Nat.le_trans (Nat.le_trans Z0 E175.1) (Nat.le_of_eq g176.symm))
            obtain ⟨cl183, Ar183, q183, S183, M183, H183, G183⟩ := id V182
            obtain ⟨T184, h184, X184, e184, W184, st184⟩ := stC X182 hx hZ e182 Ar183 (j := (3 : Int32)) (inb_of S183 ⟨by decide, by decide⟩) (g := (mkF m 273 #[.val (.ref x), .val (.int p1), .val (.int p2), .val (.int p3), .val (.int z29), .val (.int z31), .val (.int z33), .val (.int z35), .val (.int z37), .val (.int z39), .val (.int z41), .val (.int z43), .val (.int z45)] [(.int z35), (.int (3 : Int32)), (.ref b176), (.ref b176), (.ref b175), (.ref b175)])) rfl rfl (hb hby own_method_4_d273)
            have V184 : Arv Z h184 b176 k176 .char (7 : Int32) [(.int z29), (.int z31), (.int z33), (.int z35), (.int (0 : Int32)), (.int (0 : Int32)), (.int (0 : Int32))] (.int (0 : Int32)) := by have q := Arv.set Ar183 q183 S183 M183 H183 G183 (fits_nar_char _) W184 3 rfl (Nat.le_of_ble_eq_true rfl); rw [own_nar hz35] at q; exact q
            have N184 := Fr.snoc X184 N182 (Nat.le_trans (Nat.le_trans Z0 E175.1) (Nat.le_of_eq g176.symm))
            obtain ⟨cl185, Ar185, q185, S185, M185, H185, G185⟩ := id V184
            obtain ⟨T186, h186, X186, e186, W186, st186⟩ := stC X184 hx hZ e184 Ar185 (j := (4 : Int32)) (inb_of S185 ⟨by decide, by decide⟩) (g := (mkF m 278 #[.val (.ref x), .val (.int p1), .val (.int p2), .val (.int p3), .val (.int z29), .val (.int z31), .val (.int z33), .val (.int z35), .val (.int z37), .val (.int z39), .val (.int z41), .val (.int z43), .val (.int z45)] [(.int z37), (.int (4 : Int32)), (.ref b176), (.ref b176), (.ref b175), (.ref b175)])) rfl rfl (hb hby own_method_4_d278)
            have V186 : Arv Z h186 b176 k176 .char (7 : Int32) [(.int z29), (.int z31), (.int z33), (.int z35), (.int z37), (.int (0 : Int32)), (.int (0 : Int32))] (.int (0 : Int32)) := by have q := Arv.set Ar185 q185 S185 M185 H185 G185 (fits_nar_char _) W186 4 rfl (Nat.le_of_ble_eq_true rfl); rw [own_nar hz37] at q; exact q
            have N186 := Fr.snoc X186 N184 (Nat.le_trans (Nat.le_trans Z0 E175.1) (Nat.le_of_eq g176.symm))
            obtain ⟨cl187, Ar187, q187, S187, M187, H187, G187⟩ := id V186
            obtain ⟨T188, h188, X188, e188, W188, st188⟩ := stC X186 hx hZ e186 Ar187 (j := (5 : Int32)) (inb_of S187 ⟨by decide, by decide⟩) (g := (mkF m 283 #[.val (.ref x), .val (.int p1), .val (.int p2), .val (.int p3), .val (.int z29), .val (.int z31), .val (.int z33), .val (.int z35), .val (.int z37), .val (.int z39), .val (.int z41), .val (.int z43), .val (.int z45)] [(.int z39), (.int (5 : Int32)), (.ref b176), (.ref b176), (.ref b175), (.ref b175)])) rfl rfl (hb hby own_method_4_d283)
            have V188 : Arv Z h188 b176 k176 .char (7 : Int32) [(.int z29), (.int z31), (.int z33), (.int z35), (.int z37), (.int z39), (.int (0 : Int32))] (.int (0 : Int32)) := by have q := Arv.set Ar187 q187 S187 M187 H187 G187 (fits_nar_char _) W188 5 rfl (Nat.le_of_ble_eq_true rfl); rw [own_nar hz39] at q; exact q
            have N188 := Fr.snoc X188 N186 (Nat.le_trans (Nat.le_trans Z0 E175.1) (Nat.le_of_eq g176.symm))
            obtain ⟨cl189, Ar189, q189, S189, M189, H189, G189⟩ := id V188
            obtain ⟨T190, h190, X190, e190, W190, st190⟩ := stC X188 hx hZ e188 Ar189 (j := (6 : Int32)) (inb_of S189 ⟨by decide, by decide⟩) (g := (mkF m 289 #[.val (.ref x), .val (.int p1), .val (.int p2), .val (.int p3), .val (.int z29), .val (.int z31), .val (.int z33), .val (.int z35), .val (.int z37), .val (.int z39), .val (.int z41), .val (.int z43), .val (.int z45)] [(.int z41), (.int (6 : Int32)), (.ref b176), (.ref b176), (.ref b175), (.ref b175)])) rfl rfl (hb hby own_method_4_d289)
            have V190 : Arv Z h190 b176 k176 .char (7 : Int32) [(.int z29), (.int z31), (.int z33), (.int z35), (.int z37), (.int z39), (.int z41)] (.int (0 : Int32)) := by have q := Arv.set Ar189 q189 S189 M189 H189 G189 (fits_nar_char _) W190 6 rfl (Nat.le_of_ble_eq_true rfl); rw [own_nar hz41] at q; exact q
            have N190 := Fr.snoc X190 N188 (Nat.le_trans (Nat.le_trans Z0 E175.1) (Nat.le_of_eq g176.symm))
            have Gr198 : h0.size ≤ h176.size := Nat.le_trans E175.1 E176.1
            have Gr197 : h0.size ≤ h178.size := Nat.le_trans Gr198 (Keep.of_wr W178).1
            have Gr196 : h0.size ≤ h180.size := Nat.le_trans Gr197 (Keep.of_wr W180).1
            have Gr195 : h0.size ≤ h182.size := Nat.le_trans Gr196 (Keep.of_wr W182).1
            have Gr194 : h0.size ≤ h184.size := Nat.le_trans Gr195 (Keep.of_wr W184).1
            have Gr193 : h0.size ≤ h186.size := Nat.le_trans Gr194 (Keep.of_wr W186).1
            have Gr192 : h0.size ≤ h188.size := Nat.le_trans Gr193 (Keep.of_wr W188).1
            have Gr191 : h0.size ≤ h190.size := Nat.le_trans Gr192 (Keep.of_wr W190).1
            have Xt199 : Ext h175 h178 := (own_xw E176 W178 (Nat.le_trans (own_xr h175).1 (Nat.le_of_eq g176.symm)))
            have Xt200 : Ext h175 h180 := (own_xw Xt199 W180 (Nat.le_trans (own_xr h175).1 (Nat.le_of_eq g176.symm)))
            have Xt201 : Ext h175 h182 := (own_xw Xt200 W182 (Nat.le_trans (own_xr h175).1 (Nat.le_of_eq g176.symm)))
            have Xt202 : Ext h175 h184 := (own_xw Xt201 W184 (Nat.le_trans (own_xr h175).1 (Nat.le_of_eq g176.symm)))
            have Xt203 : Ext h175 h186 := (own_xw Xt202 W186 (Nat.le_trans (own_xr h175).1 (Nat.le_of_eq g176.symm)))
            have Xt204 : Ext h175 h188 := (own_xw Xt203 W188 (Nat.le_trans (own_xr h175).1 (Nat.le_of_eq g176.symm)))
            have Xt205 : Ext h175 h190 := (own_xw Xt204 W190 (Nat.le_trans (own_xr h175).1 (Nat.le_of_eq g176.symm)))
            have Xt206 : Ext h0 h176 := (own_xt E175 E176)
            have Xt207 : Ext h0 h178 := (own_xw Xt206 W178 (Nat.le_trans E175.1 (Nat.le_of_eq g176.symm)))
            have Xt208 : Ext h0 h180 := (own_xw Xt207 W180 (Nat.le_trans E175.1 (Nat.le_of_eq g176.symm)))
            have Xt209 : Ext h0 h182 := (own_xw Xt208 W182 (Nat.le_trans E175.1 (Nat.le_of_eq g176.symm)))
            have Xt210 : Ext h0 h184 := (own_xw Xt209 W184 (Nat.le_trans E175.1 (Nat.le_of_eq g176.symm)))
            have Xt211 : Ext h0 h186 := (own_xw Xt210 W186 (Nat.le_trans E175.1 (Nat.le_of_eq g176.symm)))
            have Xt212 : Ext h0 h188 := (own_xw Xt211 W188 (Nat.le_trans E175.1 (Nat.le_of_eq g176.symm)))
            have Xt213 : Ext h0 h190 := (own_xw Xt212 W190 (Nat.le_trans E175.1 (Nat.le_of_eq g176.symm)))
            obtain ⟨_, _, ⟨T214, L214, k214, n214⟩, -, X214, ⟨Lc214, hQ214, l214, y214, z214⟩, st214⟩ := X190.specialBack hx (y := (⟨"java/lang/String", "<init>", "([C)V"⟩ : MethodName)) rfl hown (mvT hZ (hw _ (List.mem_of_getElem? (i := 53) rfl))) (mvT hZ (hw _ (List.mem_of_getElem? (i := 54) rfl))) (mvT hZ (hw _ (List.mem_of_getElem? (i := 55) rfl))) (by decide) (StrChars.Road.backV (W := 1) hZ (own_ws hw) (kI := 4) (hw _ (List.mem_of_getElem? (i := 3) rfl)) (cs := ([z29, z31, z33, z35, z37, z39, z41] : List Int32)) (bs := ([z29, z31, z33, z35, z37, z39, z41] : List Int32).map (fun c => c.toInt8.toInt32)) (n := 7) (Nat.le_trans Z0 (Nat.le_of_eq g175.symm)) (Nat.le_trans Z0 Gr191) (A175.ext Xt205) (Fvalue_175.ext Xt205) (Fcoder_175.ext Xt205) V190 (S_C.ext Xt213) P5 rfl rfl (by decide) (by decide) (own_cS hz29 (own_cS hz31 (own_cS hz33 (own_cS hz35 (own_cS hz37 (own_cS hz39 (own_cS hz41 own_c0))))))) rfl (by decide) (by decide)) (g := (mkF m 290 #[.val (.ref x), .val (.int p1), .val (.int p2), .val (.int p3), .val (.int z29), .val (.int z31), .val (.int z33), .val (.int z35), .val (.int z37), .val (.int z39), .val (.int z41), .val (.int z43), .val (.int z45)] [(.ref b176), (.ref b175), (.ref b175)])) rfl (by rw [hml]; rfl) (Steps.refl _) (a := b175) (argsL := [(.ref b176)]) (rest := [(.ref b175)]) (lenOf own_pd5 rfl) rfl (by show 2 * 0 + _ ≤ _; exact Nat.le_of_eq rfl) (hb hby own_method_4_d290) (fun _ _ => ⟨rfl, e190, (by decide : 2 + 1 ≤ _), (by decide : 11 + 7 ≤ _)⟩)
            dsimp only [Pt.U, Pt.locs, Pt.cells, Pt.slots] at X214 l214 y214 z214 st214 hQ214
            subst l214 y214 z214
            obtain ⟨rfl, Nq214, K214, Ex214, Co214, t214, kb214, tg214, ts214, tx214, Va214, Ar214⟩ := hQ214
            have Na215 := Fr.app N190 Nq214
            have Str214 : own_Str Z T214.heap b175 ([z29, z31, z33, z35, z37, z39, z41] : List Int32) := ⟨Ex214, (own_cS hz29 (own_cS hz31 (own_cS hz33 (own_cS hz35 (own_cS hz37 (own_cS hz39 (own_cS hz41 own_c0))))))), t214, kb214, Va214, Co214, Ar214⟩
            have Xt216 : Ext h0 T214.heap := (own_xk Xt213 K214 ((allS (Nat.le_trans (own_xr h0).1 (Nat.le_of_eq g175.symm)) all0)))
            obtain ⟨fs, hr, hrun, hended, hW, hsame⟩ := X214.leave (v := some (.ref b175)) (fun h => by rw [Bd.returns] at h; cases h)
            refine ⟨_, _, pre0 _ (go173 _ ?_), hrun, hended, _, _, rfl, ?_, ⟨_, rfl⟩, hW, hsame.mono (by decide) (by decide)⟩
            · show Steps p.tables e below (T45.setTop (mkF m 243 #[.val (.ref x), .val (.int p1), .val (.int p2), .val (.int p3), .val (.int z29), .val (.int z31), .val (.int z33), .val (.int z35), .val (.int z37), .val (.int z39), .val (.int z41), .val (.int z43), .val (.int z45)] [(.int (7 : Int32)), (.int p1)])) _
              refine XS.icmpNo X45.here hx rfl (hb hby own_method_4_d243) rfl (teq hc174).2 ?_
              show Steps p.tables e below (T45.setTop (mkF m 246 #[.val (.ref x), .val (.int p1), .val (.int p2), .val (.int p3), .val (.int z29), .val (.int z31), .val (.int z33), .val (.int z35), .val (.int z37), .val (.int z39), .val (.int z41), .val (.int z43), .val (.int z45)] [])) _
              refine st175 _ ?_
              show Steps p.tables e below (T175.setTop (mkF m 249 #[.val (.ref x), .val (.int p1), .val (.int p2), .val (.int p3), .val (.int z29), .val (.int z31), .val (.int z33), .val (.int z35), .val (.int z37), .val (.int z39), .val (.int z41), .val (.int z43), .val (.int z45)] [(.ref b175)])) _
              refine XS.dup X175.here hx rfl (hb hby own_method_4_d249) rfl rfl ?_
              show Steps p.tables e below (T175.setTop (mkF m 250 #[.val (.ref x), .val (.int p1), .val (.int p2), .val (.int p3), .val (.int z29), .val (.int z31), .val (.int z33), .val (.int z35), .val (.int z37), .val (.int z39), .val (.int z41), .val (.int z43), .val (.int z45)] [(.ref b175), (.ref b175)])) _
              refine XS.bipush X175.here hx rfl (hb hby own_method_4_d250) ?_
              show Steps p.tables e below (T175.setTop (mkF m 252 #[.val (.ref x), .val (.int p1), .val (.int p2), .val (.int p3), .val (.int z29), .val (.int z31), .val (.int z33), .val (.int z35), .val (.int z37), .val (.int z39), .val (.int z41), .val (.int z43), .val (.int z45)] [(.int (7 : Int32)), (.ref b175), (.ref b175)])) _
              refine st176 _ ?_
              show Steps p.tables e below (T176.setTop (mkF m 254 #[.val (.ref x), .val (.int p1), .val (.int p2), .val (.int p3), .val (.int z29), .val (.int z31), .val (.int z33), .val (.int z35), .val (.int z37), .val (.int z39), .val (.int z41), .val (.int z43), .val (.int z45)] [(.ref b176), (.ref b175), (.ref b175)])) _
              refine XS.dup X176.here hx rfl (hb hby own_method_4_d254) rfl rfl ?_
              show Steps p.tables e below (T176.setTop (mkF m 255 #[.val (.ref x), .val (.int p1), .val (.int p2), .val (.int p3), .val (.int z29), .val (.int z31), .val (.int z33), .val (.int z35), .val (.int z37), .val (.int z39), .val (.int z41), .val (.int z43), .val (.int z45)] [(.ref b176), (.ref b176), (.ref b175), (.ref b175)])) _
              refine XS.iconst X176.here hx rfl (hb hby own_method_4_d255) ?_
              show Steps p.tables e below (T176.setTop (mkF m 256 #[.val (.ref x), .val (.int p1), .val (.int p2), .val (.int p3), .val (.int z29), .val (.int z31), .val (.int z33), .val (.int z35), .val (.int z37), .val (.int z39), .val (.int z41), .val (.int z43), .val (.int z45)] [(.int (0 : Int32)), (.ref b176), (.ref b176), (.ref b175), (.ref b175)])) _
              refine XS.iload X176.here hx rfl (hb hby own_method_4_d256) rfl ?_
              show Steps p.tables e below (T176.setTop (mkF m 258 #[.val (.ref x), .val (.int p1), .val (.int p2), .val (.int p3), .val (.int z29), .val (.int z31), .val (.int z33), .val (.int z35), .val (.int z37), .val (.int z39), .val (.int z41), .val (.int z43), .val (.int z45)] [(.int z29), (.int (0 : Int32)), (.ref b176), (.ref b176), (.ref b175), (.ref b175)])) _
              refine st178 _ ?_
              show Steps p.tables e below (T178.setTop (mkF m 259 #[.val (.ref x), .val (.int p1), .val (.int p2), .val (.int p3), .val (.int z29), .val (.int z31), .val (.int z33), .val (.int z35), .val (.int z37), .val (.int z39), .val (.int z41), .val (.int z43), .val (.int z45)] [(.ref b176), (.ref b175), (.ref b175)])) _
              refine XS.dup X178.here hx rfl (hb hby own_method_4_d259) rfl rfl ?_
              show Steps p.tables e below (T178.setTop (mkF m 260 #[.val (.ref x), .val (.int p1), .val (.int p2), .val (.int p3), .val (.int z29), .val (.int z31), .val (.int z33), .val (.int z35), .val (.int z37), .val (.int z39), .val (.int z41), .val (.int z43), .val (.int z45)] [(.ref b176), (.ref b176), (.ref b175), (.ref b175)])) _
              refine XS.iconst X178.here hx rfl (hb hby own_method_4_d260) ?_
              show Steps p.tables e below (T178.setTop (mkF m 261 #[.val (.ref x), .val (.int p1), .val (.int p2), .val (.int p3), .val (.int z29), .val (.int z31), .val (.int z33), .val (.int z35), .val (.int z37), .val (.int z39), .val (.int z41), .val (.int z43), .val (.int z45)] [(.int (1 : Int32)), (.ref b176), (.ref b176), (.ref b175), (.ref b175)])) _
              refine XS.iload X178.here hx rfl (hb hby own_method_4_d261) rfl ?_
              show Steps p.tables e below (T178.setTop (mkF m 263 #[.val (.ref x), .val (.int p1), .val (.int p2), .val (.int p3), .val (.int z29), .val (.int z31), .val (.int z33), .val (.int z35), .val (.int z37), .val (.int z39), .val (.int z41), .val (.int z43), .val (.int z45)] [(.int z31), (.int (1 : Int32)), (.ref b176), (.ref b176), (.ref b175), (.ref b175)])) _
              refine st180 _ ?_
              show Steps p.tables e below (T180.setTop (mkF m 264 #[.val (.ref x), .val (.int p1), .val (.int p2), .val (.int p3), .val (.int z29), .val (.int z31), .val (.int z33), .val (.int z35), .val (.int z37), .val (.int z39), .val (.int z41), .val (.int z43), .val (.int z45)] [(.ref b176), (.ref b175), (.ref b175)])) _
              refine XS.dup X180.here hx rfl (hb hby own_method_4_d264) rfl rfl ?_
              show Steps p.tables e below (T180.setTop (mkF m 265 #[.val (.ref x), .val (.int p1), .val (.int p2), .val (.int p3), .val (.int z29), .val (.int z31), .val (.int z33), .val (.int z35), .val (.int z37), .val (.int z39), .val (.int z41), .val (.int z43), .val (.int z45)] [(.ref b176), (.ref b176), (.ref b175), (.ref b175)])) _
              refine XS.iconst X180.here hx rfl (hb hby own_method_4_d265) ?_
              show Steps p.tables e below (T180.setTop (mkF m 266 #[.val (.ref x), .val (.int p1), .val (.int p2), .val (.int p3), .val (.int z29), .val (.int z31), .val (.int z33), .val (.int z35), .val (.int z37), .val (.int z39), .val (.int z41), .val (.int z43), .val (.int z45)] [(.int (2 : Int32)), (.ref b176), (.ref b176), (.ref b175), (.ref b175)])) _
              refine XS.iload X180.here hx rfl (hb hby own_method_4_d266) rfl ?_
              show Steps p.tables e below (T180.setTop (mkF m 268 #[.val (.ref x), .val (.int p1), .val (.int p2), .val (.int p3), .val (.int z29), .val (.int z31), .val (.int z33), .val (.int z35), .val (.int z37), .val (.int z39), .val (.int z41), .val (.int z43), .val (.int z45)] [(.int z33), (.int (2 : Int32)), (.ref b176), (.ref b176), (.ref b175), (.ref b175)])) _
              refine st182 _ ?_
              show Steps p.tables e below (T182.setTop (mkF m 269 #[.val (.ref x), .val (.int p1), .val (.int p2), .val (.int p3), .val (.int z29), .val (.int z31), .val (.int z33), .val (.int z35), .val (.int z37), .val (.int z39), .val (.int z41), .val (.int z43), .val (.int z45)] [(.ref b176), (.ref b175), (.ref b175)])) _
              refine XS.dup X182.here hx rfl (hb hby own_method_4_d269) rfl rfl ?_
              show Steps p.tables e below (T182.setTop (mkF m 270 #[.val (.ref x), .val (.int p1), .val (.int p2), .val (.int p3), .val (.int z29), .val (.int z31), .val (.int z33), .val (.int z35), .val (.int z37), .val (.int z39), .val (.int z41), .val (.int z43), .val (.int z45)] [(.ref b176), (.ref b176), (.ref b175), (.ref b175)])) _
              refine XS.iconst X182.here hx rfl (hb hby own_method_4_d270) ?_
              show Steps p.tables e below (T182.setTop (mkF m 271 #[.val (.ref x), .val (.int p1), .val (.int p2), .val (.int p3), .val (.int z29), .val (.int z31), .val (.int z33), .val (.int z35), .val (.int z37), .val (.int z39), .val (.int z41), .val (.int z43), .val (.int z45)] [(.int (3 : Int32)), (.ref b176), (.ref b176), (.ref b175), (.ref b175)])) _
              refine XS.iload X182.here hx rfl (hb hby own_method_4_d271) rfl ?_
              show Steps p.tables e below (T182.setTop (mkF m 273 #[.val (.ref x), .val (.int p1), .val (.int p2), .val (.int p3), .val (.int z29), .val (.int z31), .val (.int z33), .val (.int z35), .val (.int z37), .val (.int z39), .val (.int z41), .val (.int z43), .val (.int z45)] [(.int z35), (.int (3 : Int32)), (.ref b176), (.ref b176), (.ref b175), (.ref b175)])) _
              refine st184 _ ?_
              show Steps p.tables e below (T184.setTop (mkF m 274 #[.val (.ref x), .val (.int p1), .val (.int p2), .val (.int p3), .val (.int z29), .val (.int z31), .val (.int z33), .val (.int z35), .val (.int z37), .val (.int z39), .val (.int z41), .val (.int z43), .val (.int z45)] [(.ref b176), (.ref b175), (.ref b175)])) _
              refine XS.dup X184.here hx rfl (hb hby own_method_4_d274) rfl rfl ?_
              show Steps p.tables e below (T184.setTop (mkF m 275 #[.val (.ref x), .val (.int p1), .val (.int p2), .val (.int p3), .val (.int z29), .val (.int z31), .val (.int z33), .val (.int z35), .val (.int z37), .val (.int z39), .val (.int z41), .val (.int z43), .val (.int z45)] [(.ref b176), (.ref b176), (.ref b175), (.ref b175)])) _
              refine XS.iconst X184.here hx rfl (hb hby own_method_4_d275) ?_
              show Steps p.tables e below (T184.setTop (mkF m 276 #[.val (.ref x), .val (.int p1), .val (.int p2), .val (.int p3), .val (.int z29), .val (.int z31), .val (.int z33), .val (.int z35), .val (.int z37), .val (.int z39), .val (.int z41), .val (.int z43), .val (.int z45)] [(.int (4 : Int32)), (.ref b176), (.ref b176), (.ref b175), (.ref b175)])) _
              refine XS.iload X184.here hx rfl (hb hby own_method_4_d276) rfl ?_
              show Steps p.tables e below (T184.setTop (mkF m 278 #[.val (.ref x), .val (.int p1), .val (.int p2), .val (.int p3), .val (.int z29), .val (.int z31), .val (.int z33), .val (.int z35), .val (.int z37), .val (.int z39), .val (.int z41), .val (.int z43), .val (.int z45)] [(.int z37), (.int (4 : Int32)), (.ref b176), (.ref b176), (.ref b175), (.ref b175)])) _
              refine st186 _ ?_
              show Steps p.tables e below (T186.setTop (mkF m 279 #[.val (.ref x), .val (.int p1), .val (.int p2), .val (.int p3), .val (.int z29), .val (.int z31), .val (.int z33), .val (.int z35), .val (.int z37), .val (.int z39), .val (.int z41), .val (.int z43), .val (.int z45)] [(.ref b176), (.ref b175), (.ref b175)])) _
              refine XS.dup X186.here hx rfl (hb hby own_method_4_d279) rfl rfl ?_
              show Steps p.tables e below (T186.setTop (mkF m 280 #[.val (.ref x), .val (.int p1), .val (.int p2), .val (.int p3), .val (.int z29), .val (.int z31), .val (.int z33), .val (.int z35), .val (.int z37), .val (.int z39), .val (.int z41), .val (.int z43), .val (.int z45)] [(.ref b176), (.ref b176), (.ref b175), (.ref b175)])) _
              refine XS.iconst X186.here hx rfl (hb hby own_method_4_d280) ?_
              show Steps p.tables e below (T186.setTop (mkF m 281 #[.val (.ref x), .val (.int p1), .val (.int p2), .val (.int p3), .val (.int z29), .val (.int z31), .val (.int z33), .val (.int z35), .val (.int z37), .val (.int z39), .val (.int z41), .val (.int z43), .val (.int z45)] [(.int (5 : Int32)), (.ref b176), (.ref b176), (.ref b175), (.ref b175)])) _
              refine XS.iload X186.here hx rfl (hb hby own_method_4_d281) rfl ?_
              show Steps p.tables e below (T186.setTop (mkF m 283 #[.val (.ref x), .val (.int p1), .val (.int p2), .val (.int p3), .val (.int z29), .val (.int z31), .val (.int z33), .val (.int z35), .val (.int z37), .val (.int z39), .val (.int z41), .val (.int z43), .val (.int z45)] [(.int z39), (.int (5 : Int32)), (.ref b176), (.ref b176), (.ref b175), (.ref b175)])) _
              refine st188 _ ?_
              show Steps p.tables e below (T188.setTop (mkF m 284 #[.val (.ref x), .val (.int p1), .val (.int p2), .val (.int p3), .val (.int z29), .val (.int z31), .val (.int z33), .val (.int z35), .val (.int z37), .val (.int z39), .val (.int z41), .val (.int z43), .val (.int z45)] [(.ref b176), (.ref b175), (.ref b175)])) _
              refine XS.dup X188.here hx rfl (hb hby own_method_4_d284) rfl rfl ?_
              show Steps p.tables e below (T188.setTop (mkF m 285 #[.val (.ref x), .val (.int p1), .val (.int p2), .val (.int p3), .val (.int z29), .val (.int z31), .val (.int z33), .val (.int z35), .val (.int z37), .val (.int z39), .val (.int z41), .val (.int z43), .val (.int z45)] [(.ref b176), (.ref b176), (.ref b175), (.ref b175)])) _
              refine XS.bipush X188.here hx rfl (hb hby own_method_4_d285) ?_
              show Steps p.tables e below (T188.setTop (mkF m 287 #[.val (.ref x), .val (.int p1), .val (.int p2), .val (.int p3), .val (.int z29), .val (.int z31), .val (.int z33), .val (.int z35), .val (.int z37), .val (.int z39), .val (.int z41), .val (.int z43), .val (.int z45)] [(.int (6 : Int32)), (.ref b176), (.ref b176), (.ref b175), (.ref b175)])) _
              refine XS.iload X188.here hx rfl (hb hby own_method_4_d287) rfl ?_
              show Steps p.tables e below (T188.setTop (mkF m 289 #[.val (.ref x), .val (.int p1), .val (.int p2), .val (.int p3), .val (.int z29), .val (.int z31), .val (.int z33), .val (.int z35), .val (.int z37), .val (.int z39), .val (.int z41), .val (.int z43), .val (.int z45)] [(.int z41), (.int (6 : Int32)), (.ref b176), (.ref b176), (.ref b175), (.ref b175)])) _
              refine st190 _ ?_
              show Steps p.tables e below (T190.setTop (mkF m 290 #[.val (.ref x), .val (.int p1), .val (.int p2), .val (.int p3), .val (.int z29), .val (.int z31), .val (.int z33), .val (.int z35), .val (.int z37), .val (.int z39), .val (.int z41), .val (.int z43), .val (.int z45)] [(.ref b176), (.ref b175), (.ref b175)])) _
              refine st214.trans ?_
              show Steps p.tables e below (T214.setTop (mkF m 293 #[.val (.ref x), .val (.int p1), .val (.int p2), .val (.int p3), .val (.int z29), .val (.int z31), .val (.int z33), .val (.int z35), .val (.int z37), .val (.int z39), .val (.int z41), .val (.int z43), .val (.int z45)] [(.ref b175)])) _
              exact retR X214 hx Bd.returns rfl rfl rfl (hb hby own_method_4_d293) hr
            · show own_Qmk Z h0 n0 _ T214.heap _
              exact ⟨b175, _, rfl, Na215, Xt216, Str214, Nat.le_of_ble_eq_true rfl⟩
          · have go217 : ∀ t, Steps p.tables e below (T45.setTop (mkF m 297 #[.val (.ref x), .val (.int p1), .val (.int p2), .val (.int p3), .val (.int z29), .val (.int z31), .val (.int z33), .val (.int z35), .val (.int z37), .val (.int z39), .val (.int z41), .val (.int z43), .val (.int z45)] [(.int (8 : Int32)), (.int p1)])) t → Steps p.tables e below (s₁.setTop (mkF m 0 #[.val (.ref x), .val (.int p1), .val (.int p2), .val (.int p3), .unset, .unset, .unset, .unset, .unset, .unset, .unset, .unset, .unset] [])) t := fun t kt => go173 t (by
                show Steps p.tables e below (T45.setTop (mkF m 243 #[.val (.ref x), .val (.int p1), .val (.int p2), .val (.int p3), .val (.int z29), .val (.int z31), .val (.int z33), .val (.int z35), .val (.int z37), .val (.int z39), .val (.int z41), .val (.int z43), .val (.int z45)] [(.int (7 : Int32)), (.int p1)])) _
                refine XS.icmpYes X45.here hx rfl (pc0 := 243) (pc' := 294) rfl (hb hby own_method_4_d243) rfl (feq hc174).2 (by decide) (by decide) ?_
                show Steps p.tables e below (T45.setTop (mkF m 294 #[.val (.ref x), .val (.int p1), .val (.int p2), .val (.int p3), .val (.int z29), .val (.int z31), .val (.int z33), .val (.int z35), .val (.int z37), .val (.int z39), .val (.int z41), .val (.int z43), .val (.int z45)] [])) _
                refine XS.iloadN X45.here hx rfl (hb hby own_method_4_d294) rfl ?_
                show Steps p.tables e below (T45.setTop (mkF m 295 #[.val (.ref x), .val (.int p1), .val (.int p2), .val (.int p3), .val (.int z29), .val (.int z31), .val (.int z33), .val (.int z35), .val (.int z37), .val (.int z39), .val (.int z41), .val (.int z43), .val (.int z45)] [(.int p1)])) _
                refine XS.bipush X45.here hx rfl (hb hby own_method_4_d295) ?_
                exact kt)
            by_cases hc218 : p1 = (8 : Int32)
            · obtain ⟨T219, h219, X219, e219, E219, A219, D219, -, st219⟩ := newO X45 hx hZ hown (hw _ (List.mem_of_getElem? (i := 51) rfl)) (hw _ (List.mem_of_getElem? (i := 3) rfl)) (hw _ (List.mem_of_getElem? (i := 2) rfl)) e45 (g := (mkF m 300 #[.val (.ref x), .val (.int p1), .val (.int p2), .val (.int p3), .val (.int z29), .val (.int z31), .val (.int z33), .val (.int z35), .val (.int z37), .val (.int z39), .val (.int z41), .val (.int z43), .val (.int z45)] [])) rfl (hb hby own_method_4_d300) (by decide) (by decide)
              obtain ⟨b219, g219⟩ : ∃ z, z = h0.size := ⟨_, rfl⟩
              rw [← g219] at A219 D219 st219
              have Fvalue_219 : Fld Z h219 b219 "java/lang/String" "value" "[B" .null := D219 (Or.inr (hw _ (List.mem_of_getElem? (i := 5) rfl))) (ty := (.array .byte)) (by decide)
              have Fcoder_219 : Fld Z h219 b219 "java/lang/String" "coder" "B" (.int (0 : Int32)) := D219 (Or.inr (hw _ (List.mem_of_getElem? (i := 6) rfl))) (ty := .byte) (by decide)
              obtain ⟨T220, h220, k220, X220, e220, E220, A220, st220⟩ := newP X219 hx hZ (hw _ (List.mem_of_getElem? (i := 52) rfl)) e219 (g := (mkF m 306 #[.val (.ref x), .val (.int p1), .val (.int p2), .val (.int p3), .val (.int z29), .val (.int z31), .val (.int z33), .val (.int z35), .val (.int z37), .val (.int z39), .val (.int z41), .val (.int z43), .val (.int z45)] [(.int (8 : Int32)), (.ref b219), (.ref b219)])) rfl (hb hby own_method_4_d306) rfl (by decide) (cap := 8) (by decide) (by decide) (by decide) (by decide)
              obtain ⟨b220, g220⟩ : ∃ z, z = h219.size := ⟨_, rfl⟩
              rw [← g220] at A220 st220
              have V220 : Arv Z h220 b220 k220 .char (8 : Int32) [(.int (0 : Int32)), (.int (0 : Int32)), (.int (0 : Int32)), (.int (0 : Int32)), (.int (0 : Int32)), (.int (0 : Int32)), (.int (0 : Int32)), (.int (0 : Int32))] (.int (0 : Int32)) := (Arv.new A220 (by decide)).pad (pad_rep [] (.int (0 : Int32)) 8)
              obtain ⟨cl221, Ar221, q221, S221, M221, H221, G221⟩ := id V220
              obtain ⟨T222, h222, X222, e222, W222, st222⟩ := stC X220 hx hZ e220 Ar221 (j := (0 : Int32)) (inb_of S221 ⟨by decide, by decide⟩) (g := (mkF m 312 #[.val (.ref x), .val (.int p1), .val (.int p2), .val (.int p3), .val (.int z29), .val (.int z31), .val (.int z33), .val (.int z35), .val (.int z37), .val (.int z39), .val (.int z41), .val (.int z43), .val (.int z45)] [(.int z29), (.int (0 : Int32)), (.ref b220), (.ref b220), (.ref b219), (.ref b219)])) rfl rfl (hb hby own_method_4_d312)
              have V222 : Arv Z h222 b220 k220 .char (8 : Int32) [(.int z29), (.int (0 : Int32)), (.int (0 : Int32)), (.int (0 : Int32)), (.int (0 : Int32)), (.int (0 : Int32)), (.int (0 : Int32)), (.int (0 : Int32))] (.int (0 : Int32)) := by have q := Arv.set Ar221 q221 S221 M221 H221 G221 (fits_nar_char _) W222 0 rfl (Nat.le_of_ble_eq_true rfl); rw [own_nar hz29] at q; exact q
              have N222 := Fr.snoc X222 Na46 (Nat.le_trans (Nat.le_trans Z0 E219.1) (Nat.le_of_eq g220.symm))
              obtain ⟨cl223, Ar223, q223, S223, M223, H223, G223⟩ := id V222
              obtain ⟨T224, h224, X224, e224, W224, st224⟩ := stC X222 hx hZ e222 Ar223 (j := (1 : Int32)) (inb_of S223 ⟨by decide, by decide⟩) (g := (mkF m 317 #[.val (.ref x), .val (.int p1), .val (.int p2), .val (.int p3), .val (.int z29), .val (.int z31), .val (.int z33), .val (.int z35), .val (.int z37), .val (.int z39), .val (.int z41), .val (.int z43), .val (.int z45)] [(.int z31), (.int (1 : Int32)), (.ref b220), (.ref b220), (.ref b219), (.ref b219)])) rfl rfl (hb hby own_method_4_d317)
              have V224 : Arv Z h224 b220 k220 .char (8 : Int32) [(.int z29), (.int z31), (.int (0 : Int32)), (.int (0 : Int32)), (.int (0 : Int32)), (.int (0 : Int32)), (.int (0 : Int32)), (.int (0 : Int32))] (.int (0 : Int32)) := by have q := Arv.set Ar223 q223 S223 M223 H223 G223 (fits_nar_char _) W224 1 rfl (Nat.le_of_ble_eq_true rfl); rw [own_nar hz31] at q; exact q
              have N224 := Fr.snoc X224 N222 (Nat.le_trans (Nat.le_trans Z0 E219.1) (Nat.le_of_eq g220.symm))
              obtain ⟨cl225, Ar225, q225, S225, M225, H225, G225⟩ := id V224
              obtain ⟨T226, h226, X226, e226, W226, st226⟩ := stC X224 hx hZ e224 Ar225 (j := (2 : Int32)) (inb_of S225 ⟨by decide, by decide⟩) (g := (mkF m 322 #[.val (.ref x), .val (.int p1), .val (.int p2), .val (.int p3), .val (.int z29), .val (.int z31), .val (.int z33), .val (.int z35), .val (.int z37), .val (.int z39), .val (.int z41), .val (.int z43), .val (.int z45)] [(.int z33), (.int (2 : Int32)), (.ref b220), (.ref b220), (.ref b219), (.ref b219)])) rfl rfl (hb hby own_method_4_d322)
              have V226 : Arv Z h226 b220 k220 .char (8 : Int32) [(.int z29), (.int z31), (.int z33), (.int (0 : Int32)), (.int (0 : Int32)), (.int (0 : Int32)), (.int (0 : Int32)), (.int (0 : Int32))] (.int (0 : Int32)) := by have q := Arv.set Ar225 q225 S225 M225 H225 G225 (fits_nar_char _) W226 2 rfl (Nat.le_of_ble_eq_true rfl); rw [own_nar hz33] at q; exact q
              have N226 := Fr.snoc X226 N224 (Nat.le_trans (Nat.le_trans Z0 E219.1) (Nat.le_of_eq g220.symm))
              obtain ⟨cl227, Ar227, q227, S227, M227, H227, G227⟩ := id V226
              obtain ⟨T228, h228, X228, e228, W228, st228⟩ := stC X226 hx hZ e226 Ar227 (j := (3 : Int32)) (inb_of S227 ⟨by decide, by decide⟩) (g := (mkF m 327 #[.val (.ref x), .val (.int p1), .val (.int p2), .val (.int p3), .val (.int z29), .val (.int z31), .val (.int z33), .val (.int z35), .val (.int z37), .val (.int z39), .val (.int z41), .val (.int z43), .val (.int z45)] [(.int z35), (.int (3 : Int32)), (.ref b220), (.ref b220), (.ref b219), (.ref b219)])) rfl rfl (hb hby own_method_4_d327)
              have V228 : Arv Z h228 b220 k220 .char (8 : Int32) [(.int z29), (.int z31), (.int z33), (.int z35), (.int (0 : Int32)), (.int (0 : Int32)), (.int (0 : Int32)), (.int (0 : Int32))] (.int (0 : Int32)) := by have q := Arv.set Ar227 q227 S227 M227 H227 G227 (fits_nar_char _) W228 3 rfl (Nat.le_of_ble_eq_true rfl); rw [own_nar hz35] at q; exact q
              have N228 := Fr.snoc X228 N226 (Nat.le_trans (Nat.le_trans Z0 E219.1) (Nat.le_of_eq g220.symm))
              obtain ⟨cl229, Ar229, q229, S229, M229, H229, G229⟩ := id V228
              obtain ⟨T230, h230, X230, e230, W230, st230⟩ := stC X228 hx hZ e228 Ar229 (j := (4 : Int32)) (inb_of S229 ⟨by decide, by decide⟩) (g := (mkF m 332 #[.val (.ref x), .val (.int p1), .val (.int p2), .val (.int p3), .val (.int z29), .val (.int z31), .val (.int z33), .val (.int z35), .val (.int z37), .val (.int z39), .val (.int z41), .val (.int z43), .val (.int z45)] [(.int z37), (.int (4 : Int32)), (.ref b220), (.ref b220), (.ref b219), (.ref b219)])) rfl rfl (hb hby own_method_4_d332)
              have V230 : Arv Z h230 b220 k220 .char (8 : Int32) [(.int z29), (.int z31), (.int z33), (.int z35), (.int z37), (.int (0 : Int32)), (.int (0 : Int32)), (.int (0 : Int32))] (.int (0 : Int32)) := by have q := Arv.set Ar229 q229 S229 M229 H229 G229 (fits_nar_char _) W230 4 rfl (Nat.le_of_ble_eq_true rfl); rw [own_nar hz37] at q; exact q
              have N230 := Fr.snoc X230 N228 (Nat.le_trans (Nat.le_trans Z0 E219.1) (Nat.le_of_eq g220.symm))
              obtain ⟨cl231, Ar231, q231, S231, M231, H231, G231⟩ := id V230
              obtain ⟨T232, h232, X232, e232, W232, st232⟩ := stC X230 hx hZ e230 Ar231 (j := (5 : Int32)) (inb_of S231 ⟨by decide, by decide⟩) (g := (mkF m 337 #[.val (.ref x), .val (.int p1), .val (.int p2), .val (.int p3), .val (.int z29), .val (.int z31), .val (.int z33), .val (.int z35), .val (.int z37), .val (.int z39), .val (.int z41), .val (.int z43), .val (.int z45)] [(.int z39), (.int (5 : Int32)), (.ref b220), (.ref b220), (.ref b219), (.ref b219)])) rfl rfl (hb hby own_method_4_d337)
              have V232 : Arv Z h232 b220 k220 .char (8 : Int32) [(.int z29), (.int z31), (.int z33), (.int z35), (.int z37), (.int z39), (.int (0 : Int32)), (.int (0 : Int32))] (.int (0 : Int32)) := by have q := Arv.set Ar231 q231 S231 M231 H231 G231 (fits_nar_char _) W232 5 rfl (Nat.le_of_ble_eq_true rfl); rw [own_nar hz39] at q; exact q
              have N232 := Fr.snoc X232 N230 (Nat.le_trans (Nat.le_trans Z0 E219.1) (Nat.le_of_eq g220.symm))
              obtain ⟨cl233, Ar233, q233, S233, M233, H233, G233⟩ := id V232
              obtain ⟨T234, h234, X234, e234, W234, st234⟩ := stC X232 hx hZ e232 Ar233 (j := (6 : Int32)) (inb_of S233 ⟨by decide, by decide⟩) (g := (mkF m 343 #[.val (.ref x), .val (.int p1), .val (.int p2), .val (.int p3), .val (.int z29), .val (.int z31), .val (.int z33), .val (.int z35), .val (.int z37), .val (.int z39), .val (.int z41), .val (.int z43), .val (.int z45)] [(.int z41), (.int (6 : Int32)), (.ref b220), (.ref b220), (.ref b219), (.ref b219)])) rfl rfl (hb hby own_method_4_d343)
              have V234 : Arv Z h234 b220 k220 .char (8 : Int32) [(.int z29), (.int z31), (.int z33), (.int z35), (.int z37), (.int z39), (.int z41), (.int (0 : Int32))] (.int (0 : Int32)) := by have q := Arv.set Ar233 q233 S233 M233 H233 G233 (fits_nar_char _) W234 6 rfl (Nat.le_of_ble_eq_true rfl); rw [own_nar hz41] at q; exact q
              have N234 := Fr.snoc X234 N232 (Nat.le_trans (Nat.le_trans Z0 E219.1) (Nat.le_of_eq g220.symm))
              obtain ⟨cl235, Ar235, q235, S235, M235, H235, G235⟩ := id V234
              obtain ⟨T236, h236, X236, e236, W236, st236⟩ := stC X234 hx hZ e234 Ar235 (j := (7 : Int32)) (inb_of S235 ⟨by decide, by decide⟩) (g := (mkF m 349 #[.val (.ref x), .val (.int p1), .val (.int p2), .val (.int p3), .val (.int z29), .val (.int z31), .val (.int z33), .val (.int z35), .val (.int z37), .val (.int z39), .val (.int z41), .val (.int z43), .val (.int z45)] [(.int z43), (.int (7 : Int32)), (.ref b220), (.ref b220), (.ref b219), (.ref b219)])) rfl rfl (hb hby own_method_4_d349)
              have V236 : Arv Z h236 b220 k220 .char (8 : Int32) [(.int z29), (.int z31), (.int z33), (.int z35), (.int z37), (.int z39), (.int z41), (.int z43)] (.int (0 : Int32)) := by have q := Arv.set Ar235 q235 S235 M235 H235 G235 (fits_nar_char _) W236 7 rfl (Nat.le_of_ble_eq_true rfl); rw [own_nar hz43] at q; exact q
              have N236 := Fr.snoc X236 N234 (Nat.le_trans (Nat.le_trans Z0 E219.1) (Nat.le_of_eq g220.symm))
              have Gr245 : h0.size ≤ h220.size := Nat.le_trans E219.1 E220.1
              have Gr244 : h0.size ≤ h222.size := Nat.le_trans Gr245 (Keep.of_wr W222).1
              have Gr243 : h0.size ≤ h224.size := Nat.le_trans Gr244 (Keep.of_wr W224).1
              have Gr242 : h0.size ≤ h226.size := Nat.le_trans Gr243 (Keep.of_wr W226).1
              have Gr241 : h0.size ≤ h228.size := Nat.le_trans Gr242 (Keep.of_wr W228).1
              have Gr240 : h0.size ≤ h230.size := Nat.le_trans Gr241 (Keep.of_wr W230).1
              have Gr239 : h0.size ≤ h232.size := Nat.le_trans Gr240 (Keep.of_wr W232).1
              have Gr238 : h0.size ≤ h234.size := Nat.le_trans Gr239 (Keep.of_wr W234).1
              have Gr237 : h0.size ≤ h236.size := Nat.le_trans Gr238 (Keep.of_wr W236).1
              have Xt246 : Ext h219 h222 := (own_xw E220 W222 (Nat.le_trans (own_xr h219).1 (Nat.le_of_eq g220.symm)))
              have Xt247 : Ext h219 h224 := (own_xw Xt246 W224 (Nat.le_trans (own_xr h219).1 (Nat.le_of_eq g220.symm)))
              have Xt248 : Ext h219 h226 := (own_xw Xt247 W226 (Nat.le_trans (own_xr h219).1 (Nat.le_of_eq g220.symm)))
              have Xt249 : Ext h219 h228 := (own_xw Xt248 W228 (Nat.le_trans (own_xr h219).1 (Nat.le_of_eq g220.symm)))
              have Xt250 : Ext h219 h230 := (own_xw Xt249 W230 (Nat.le_trans (own_xr h219).1 (Nat.le_of_eq g220.symm)))
              have Xt251 : Ext h219 h232 := (own_xw Xt250 W232 (Nat.le_trans (own_xr h219).1 (Nat.le_of_eq g220.symm)))
              have Xt252 : Ext h219 h234 := (own_xw Xt251 W234 (Nat.le_trans (own_xr h219).1 (Nat.le_of_eq g220.symm)))
              have Xt253 : Ext h219 h236 := (own_xw Xt252 W236 (Nat.le_trans (own_xr h219).1 (Nat.le_of_eq g220.symm)))
              have Xt254 : Ext h0 h220 := (own_xt E219 E220)
              have Xt255 : Ext h0 h222 := (own_xw Xt254 W222 (Nat.le_trans E219.1 (Nat.le_of_eq g220.symm)))
              have Xt256 : Ext h0 h224 := (own_xw Xt255 W224 (Nat.le_trans E219.1 (Nat.le_of_eq g220.symm)))
              have Xt257 : Ext h0 h226 := (own_xw Xt256 W226 (Nat.le_trans E219.1 (Nat.le_of_eq g220.symm)))
              have Xt258 : Ext h0 h228 := (own_xw Xt257 W228 (Nat.le_trans E219.1 (Nat.le_of_eq g220.symm)))
              have Xt259 : Ext h0 h230 := (own_xw Xt258 W230 (Nat.le_trans E219.1 (Nat.le_of_eq g220.symm)))
              have Xt260 : Ext h0 h232 := (own_xw Xt259 W232 (Nat.le_trans E219.1 (Nat.le_of_eq g220.symm)))
              have Xt261 : Ext h0 h234 := (own_xw Xt260 W234 (Nat.le_trans E219.1 (Nat.le_of_eq g220.symm)))
              have Xt262 : Ext h0 h236 := (own_xw Xt261 W236 (Nat.le_trans E219.1 (Nat.le_of_eq g220.symm)))
              obtain ⟨_, _, ⟨T263, L263, k263, n263⟩, -, X263, ⟨Lc263, hQ263, l263, y263, z263⟩, st263⟩ := X236.specialBack hx (y := (⟨"java/lang/String", "<init>", "([C)V"⟩ : MethodName)) rfl hown (mvT hZ (hw _ (List.mem_of_getElem? (i := 53) rfl))) (mvT hZ (hw _ (List.mem_of_getElem? (i := 54) rfl))) (mvT hZ (hw _ (List.mem_of_getElem? (i := 55) rfl))) (by decide) (StrChars.Road.backV (W := 1) hZ (own_ws hw) (kI := 4) (hw _ (List.mem_of_getElem? (i := 3) rfl)) (cs := ([z29, z31, z33, z35, z37, z39, z41, z43] : List Int32)) (bs := ([z29, z31, z33, z35, z37, z39, z41, z43] : List Int32).map (fun c => c.toInt8.toInt32)) (n := 8) (Nat.le_trans Z0 (Nat.le_of_eq g219.symm)) (Nat.le_trans Z0 Gr237) (A219.ext Xt253) (Fvalue_219.ext Xt253) (Fcoder_219.ext Xt253) V236 (S_C.ext Xt262) P5 rfl rfl (by decide) (by decide) (own_cS hz29 (own_cS hz31 (own_cS hz33 (own_cS hz35 (own_cS hz37 (own_cS hz39 (own_cS hz41 (own_cS hz43 own_c0)))))))) rfl (by decide) (by decide)) (g := (mkF m 350 #[.val (.ref x), .val (.int p1), .val (.int p2), .val (.int p3), .val (.int z29), .val (.int z31), .val (.int z33), .val (.int z35), .val (.int z37), .val (.int z39), .val (.int z41), .val (.int z43), .val (.int z45)] [(.ref b220), (.ref b219), (.ref b219)])) rfl (by rw [hml]; rfl) (Steps.refl _) (a := b219) (argsL := [(.ref b220)]) (rest := [(.ref b219)]) (lenOf own_pd5 rfl) rfl (by show 2 * 0 + _ ≤ _; exact Nat.le_of_eq rfl) (hb hby own_method_4_d350) (fun _ _ => ⟨rfl, e236, (by decide : 2 + 1 ≤ _), (by decide : 12 + 8 ≤ _)⟩)
              dsimp only [Pt.U, Pt.locs, Pt.cells, Pt.slots] at X263 l263 y263 z263 st263 hQ263
              subst l263 y263 z263
              obtain ⟨rfl, Nq263, K263, Ex263, Co263, t263, kb263, tg263, ts263, tx263, Va263, Ar263⟩ := hQ263
              have Na264 := Fr.app N236 Nq263
              have Str263 : own_Str Z T263.heap b219 ([z29, z31, z33, z35, z37, z39, z41, z43] : List Int32) := ⟨Ex263, (own_cS hz29 (own_cS hz31 (own_cS hz33 (own_cS hz35 (own_cS hz37 (own_cS hz39 (own_cS hz41 (own_cS hz43 own_c0)))))))), t263, kb263, Va263, Co263, Ar263⟩
              have Xt265 : Ext h0 T263.heap := (own_xk Xt262 K263 ((allS (Nat.le_trans (own_xr h0).1 (Nat.le_of_eq g219.symm)) all0)))
              obtain ⟨fs, hr, hrun, hended, hW, hsame⟩ := X263.leave (v := some (.ref b219)) (fun h => by rw [Bd.returns] at h; cases h)
              refine ⟨_, _, pre0 _ (go217 _ ?_), hrun, hended, _, _, rfl, ?_, ⟨_, rfl⟩, hW, hsame.mono (by decide) (by decide)⟩
              · show Steps p.tables e below (T45.setTop (mkF m 297 #[.val (.ref x), .val (.int p1), .val (.int p2), .val (.int p3), .val (.int z29), .val (.int z31), .val (.int z33), .val (.int z35), .val (.int z37), .val (.int z39), .val (.int z41), .val (.int z43), .val (.int z45)] [(.int (8 : Int32)), (.int p1)])) _
                refine XS.icmpNo X45.here hx rfl (hb hby own_method_4_d297) rfl (teq hc218).2 ?_
                show Steps p.tables e below (T45.setTop (mkF m 300 #[.val (.ref x), .val (.int p1), .val (.int p2), .val (.int p3), .val (.int z29), .val (.int z31), .val (.int z33), .val (.int z35), .val (.int z37), .val (.int z39), .val (.int z41), .val (.int z43), .val (.int z45)] [])) _
                refine st219 _ ?_
                show Steps p.tables e below (T219.setTop (mkF m 303 #[.val (.ref x), .val (.int p1), .val (.int p2), .val (.int p3), .val (.int z29), .val (.int z31), .val (.int z33), .val (.int z35), .val (.int z37), .val (.int z39), .val (.int z41), .val (.int z43), .val (.int z45)] [(.ref b219)])) _
                refine XS.dup X219.here hx rfl (hb hby own_method_4_d303) rfl rfl ?_
                show Steps p.tables e below (T219.setTop (mkF m 304 #[.val (.ref x), .val (.int p1), .val (.int p2), .val (.int p3), .val (.int z29), .val (.int z31), .val (.int z33), .val (.int z35), .val (.int z37), .val (.int z39), .val (.int z41), .val (.int z43), .val (.int z45)] [(.ref b219), (.ref b219)])) _
                refine XS.bipush X219.here hx rfl (hb hby own_method_4_d304) ?_
                show Steps p.tables e below (T219.setTop (mkF m 306 #[.val (.ref x), .val (.int p1), .val (.int p2), .val (.int p3), .val (.int z29), .val (.int z31), .val (.int z33), .val (.int z35), .val (.int z37), .val (.int z39), .val (.int z41), .val (.int z43), .val (.int z45)] [(.int (8 : Int32)), (.ref b219), (.ref b219)])) _
                refine st220 _ ?_
                show Steps p.tables e below (T220.setTop (mkF m 308 #[.val (.ref x), .val (.int p1), .val (.int p2), .val (.int p3), .val (.int z29), .val (.int z31), .val (.int z33), .val (.int z35), .val (.int z37), .val (.int z39), .val (.int z41), .val (.int z43), .val (.int z45)] [(.ref b220), (.ref b219), (.ref b219)])) _
                refine XS.dup X220.here hx rfl (hb hby own_method_4_d308) rfl rfl ?_
                show Steps p.tables e below (T220.setTop (mkF m 309 #[.val (.ref x), .val (.int p1), .val (.int p2), .val (.int p3), .val (.int z29), .val (.int z31), .val (.int z33), .val (.int z35), .val (.int z37), .val (.int z39), .val (.int z41), .val (.int z43), .val (.int z45)] [(.ref b220), (.ref b220), (.ref b219), (.ref b219)])) _
                refine XS.iconst X220.here hx rfl (hb hby own_method_4_d309) ?_
                show Steps p.tables e below (T220.setTop (mkF m 310 #[.val (.ref x), .val (.int p1), .val (.int p2), .val (.int p3), .val (.int z29), .val (.int z31), .val (.int z33), .val (.int z35), .val (.int z37), .val (.int z39), .val (.int z41), .val (.int z43), .val (.int z45)] [(.int (0 : Int32)), (.ref b220), (.ref b220), (.ref b219), (.ref b219)])) _
                refine XS.iload X220.here hx rfl (hb hby own_method_4_d310) rfl ?_
                show Steps p.tables e below (T220.setTop (mkF m 312 #[.val (.ref x), .val (.int p1), .val (.int p2), .val (.int p3), .val (.int z29), .val (.int z31), .val (.int z33), .val (.int z35), .val (.int z37), .val (.int z39), .val (.int z41), .val (.int z43), .val (.int z45)] [(.int z29), (.int (0 : Int32)), (.ref b220), (.ref b220), (.ref b219), (.ref b219)])) _
                refine st222 _ ?_
                show Steps p.tables e below (T222.setTop (mkF m 313 #[.val (.ref x), .val (.int p1), .val (.int p2), .val (.int p3), .val (.int z29), .val (.int z31), .val (.int z33), .val (.int z35), .val (.int z37), .val (.int z39), .val (.int z41), .val (.int z43), .val (.int z45)] [(.ref b220), (.ref b219), (.ref b219)])) _
                refine XS.dup X222.here hx rfl (hb hby own_method_4_d313) rfl rfl ?_
                show Steps p.tables e below (T222.setTop (mkF m 314 #[.val (.ref x), .val (.int p1), .val (.int p2), .val (.int p3), .val (.int z29), .val (.int z31), .val (.int z33), .val (.int z35), .val (.int z37), .val (.int z39), .val (.int z41), .val (.int z43), .val (.int z45)] [(.ref b220), (.ref b220), (.ref b219), (.ref b219)])) _
                refine XS.iconst X222.here hx rfl (hb hby own_method_4_d314) ?_
                show Steps p.tables e below (T222.setTop (mkF m 315 #[.val (.ref x), .val (.int p1), .val (.int p2), .val (.int p3), .val (.int z29), .val (.int z31), .val (.int z33), .val (.int z35), .val (.int z37), .val (.int z39), .val (.int z41), .val (.int z43), .val (.int z45)] [(.int (1 : Int32)), (.ref b220), (.ref b220), (.ref b219), (.ref b219)])) _
                refine XS.iload X222.here hx rfl (hb hby own_method_4_d315) rfl ?_
                show Steps p.tables e below (T222.setTop (mkF m 317 #[.val (.ref x), .val (.int p1), .val (.int p2), .val (.int p3), .val (.int z29), .val (.int z31), .val (.int z33), .val (.int z35), .val (.int z37), .val (.int z39), .val (.int z41), .val (.int z43), .val (.int z45)] [(.int z31), (.int (1 : Int32)), (.ref b220), (.ref b220), (.ref b219), (.ref b219)])) _
                refine st224 _ ?_
                show Steps p.tables e below (T224.setTop (mkF m 318 #[.val (.ref x), .val (.int p1), .val (.int p2), .val (.int p3), .val (.int z29), .val (.int z31), .val (.int z33), .val (.int z35), .val (.int z37), .val (.int z39), .val (.int z41), .val (.int z43), .val (.int z45)] [(.ref b220), (.ref b219), (.ref b219)])) _
                refine XS.dup X224.here hx rfl (hb hby own_method_4_d318) rfl rfl ?_
                show Steps p.tables e below (T224.setTop (mkF m 319 #[.val (.ref x), .val (.int p1), .val (.int p2), .val (.int p3), .val (.int z29), .val (.int z31), .val (.int z33), .val (.int z35), .val (.int z37), .val (.int z39), .val (.int z41), .val (.int z43), .val (.int z45)] [(.ref b220), (.ref b220), (.ref b219), (.ref b219)])) _
                refine XS.iconst X224.here hx rfl (hb hby own_method_4_d319) ?_
                show Steps p.tables e below (T224.setTop (mkF m 320 #[.val (.ref x), .val (.int p1), .val (.int p2), .val (.int p3), .val (.int z29), .val (.int z31), .val (.int z33), .val (.int z35), .val (.int z37), .val (.int z39), .val (.int z41), .val (.int z43), .val (.int z45)] [(.int (2 : Int32)), (.ref b220), (.ref b220), (.ref b219), (.ref b219)])) _
                refine XS.iload X224.here hx rfl (hb hby own_method_4_d320) rfl ?_
                show Steps p.tables e below (T224.setTop (mkF m 322 #[.val (.ref x), .val (.int p1), .val (.int p2), .val (.int p3), .val (.int z29), .val (.int z31), .val (.int z33), .val (.int z35), .val (.int z37), .val (.int z39), .val (.int z41), .val (.int z43), .val (.int z45)] [(.int z33), (.int (2 : Int32)), (.ref b220), (.ref b220), (.ref b219), (.ref b219)])) _
                refine st226 _ ?_
                show Steps p.tables e below (T226.setTop (mkF m 323 #[.val (.ref x), .val (.int p1), .val (.int p2), .val (.int p3), .val (.int z29), .val (.int z31), .val (.int z33), .val (.int z35), .val (.int z37), .val (.int z39), .val (.int z41), .val (.int z43), .val (.int z45)] [(.ref b220), (.ref b219), (.ref b219)])) _
                refine XS.dup X226.here hx rfl (hb hby own_method_4_d323) rfl rfl ?_
                show Steps p.tables e below (T226.setTop (mkF m 324 #[.val (.ref x), .val (.int p1), .val (.int p2), .val (.int p3), .val (.int z29), .val (.int z31), .val (.int z33), .val (.int z35), .val (.int z37), .val (.int z39), .val (.int z41), .val (.int z43), .val (.int z45)] [(.ref b220), (.ref b220), (.ref b219), (.ref b219)])) _
                refine XS.iconst X226.here hx rfl (hb hby own_method_4_d324) ?_
                show Steps p.tables e below (T226.setTop (mkF m 325 #[.val (.ref x), .val (.int p1), .val (.int p2), .val (.int p3), .val (.int z29), .val (.int z31), .val (.int z33), .val (.int z35), .val (.int z37), .val (.int z39), .val (.int z41), .val (.int z43), .val (.int z45)] [(.int (3 : Int32)), (.ref b220), (.ref b220), (.ref b219), (.ref b219)])) _
                refine XS.iload X226.here hx rfl (hb hby own_method_4_d325) rfl ?_
                show Steps p.tables e below (T226.setTop (mkF m 327 #[.val (.ref x), .val (.int p1), .val (.int p2), .val (.int p3), .val (.int z29), .val (.int z31), .val (.int z33), .val (.int z35), .val (.int z37), .val (.int z39), .val (.int z41), .val (.int z43), .val (.int z45)] [(.int z35), (.int (3 : Int32)), (.ref b220), (.ref b220), (.ref b219), (.ref b219)])) _
                refine st228 _ ?_
                show Steps p.tables e below (T228.setTop (mkF m 328 #[.val (.ref x), .val (.int p1), .val (.int p2), .val (.int p3), .val (.int z29), .val (.int z31), .val (.int z33), .val (.int z35), .val (.int z37), .val (.int z39), .val (.int z41), .val (.int z43), .val (.int z45)] [(.ref b220), (.ref b219), (.ref b219)])) _
                refine XS.dup X228.here hx rfl (hb hby own_method_4_d328) rfl rfl ?_
                show Steps p.tables e below (T228.setTop (mkF m 329 #[.val (.ref x), .val (.int p1), .val (.int p2), .val (.int p3), .val (.int z29), .val (.int z31), .val (.int z33), .val (.int z35), .val (.int z37), .val (.int z39), .val (.int z41), .val (.int z43), .val (.int z45)] [(.ref b220), (.ref b220), (.ref b219), (.ref b219)])) _
                refine XS.iconst X228.here hx rfl (hb hby own_method_4_d329) ?_
                show Steps p.tables e below (T228.setTop (mkF m 330 #[.val (.ref x), .val (.int p1), .val (.int p2), .val (.int p3), .val (.int z29), .val (.int z31), .val (.int z33), .val (.int z35), .val (.int z37), .val (.int z39), .val (.int z41), .val (.int z43), .val (.int z45)] [(.int (4 : Int32)), (.ref b220), (.ref b220), (.ref b219), (.ref b219)])) _
                refine XS.iload X228.here hx rfl (hb hby own_method_4_d330) rfl ?_
                show Steps p.tables e below (T228.setTop (mkF m 332 #[.val (.ref x), .val (.int p1), .val (.int p2), .val (.int p3), .val (.int z29), .val (.int z31), .val (.int z33), .val (.int z35), .val (.int z37), .val (.int z39), .val (.int z41), .val (.int z43), .val (.int z45)] [(.int z37), (.int (4 : Int32)), (.ref b220), (.ref b220), (.ref b219), (.ref b219)])) _
                refine st230 _ ?_
                show Steps p.tables e below (T230.setTop (mkF m 333 #[.val (.ref x), .val (.int p1), .val (.int p2), .val (.int p3), .val (.int z29), .val (.int z31), .val (.int z33), .val (.int z35), .val (.int z37), .val (.int z39), .val (.int z41), .val (.int z43), .val (.int z45)] [(.ref b220), (.ref b219), (.ref b219)])) _
                refine XS.dup X230.here hx rfl (hb hby own_method_4_d333) rfl rfl ?_
                show Steps p.tables e below (T230.setTop (mkF m 334 #[.val (.ref x), .val (.int p1), .val (.int p2), .val (.int p3), .val (.int z29), .val (.int z31), .val (.int z33), .val (.int z35), .val (.int z37), .val (.int z39), .val (.int z41), .val (.int z43), .val (.int z45)] [(.ref b220), (.ref b220), (.ref b219), (.ref b219)])) _
                refine XS.iconst X230.here hx rfl (hb hby own_method_4_d334) ?_
                show Steps p.tables e below (T230.setTop (mkF m 335 #[.val (.ref x), .val (.int p1), .val (.int p2), .val (.int p3), .val (.int z29), .val (.int z31), .val (.int z33), .val (.int z35), .val (.int z37), .val (.int z39), .val (.int z41), .val (.int z43), .val (.int z45)] [(.int (5 : Int32)), (.ref b220), (.ref b220), (.ref b219), (.ref b219)])) _
                refine XS.iload X230.here hx rfl (hb hby own_method_4_d335) rfl ?_
                show Steps p.tables e below (T230.setTop (mkF m 337 #[.val (.ref x), .val (.int p1), .val (.int p2), .val (.int p3), .val (.int z29), .val (.int z31), .val (.int z33), .val (.int z35), .val (.int z37), .val (.int z39), .val (.int z41), .val (.int z43), .val (.int z45)] [(.int z39), (.int (5 : Int32)), (.ref b220), (.ref b220), (.ref b219), (.ref b219)])) _
                refine st232 _ ?_
                show Steps p.tables e below (T232.setTop (mkF m 338 #[.val (.ref x), .val (.int p1), .val (.int p2), .val (.int p3), .val (.int z29), .val (.int z31), .val (.int z33), .val (.int z35), .val (.int z37), .val (.int z39), .val (.int z41), .val (.int z43), .val (.int z45)] [(.ref b220), (.ref b219), (.ref b219)])) _
                refine XS.dup X232.here hx rfl (hb hby own_method_4_d338) rfl rfl ?_
                show Steps p.tables e below (T232.setTop (mkF m 339 #[.val (.ref x), .val (.int p1), .val (.int p2), .val (.int p3), .val (.int z29), .val (.int z31), .val (.int z33), .val (.int z35), .val (.int z37), .val (.int z39), .val (.int z41), .val (.int z43), .val (.int z45)] [(.ref b220), (.ref b220), (.ref b219), (.ref b219)])) _
                refine XS.bipush X232.here hx rfl (hb hby own_method_4_d339) ?_
                show Steps p.tables e below (T232.setTop (mkF m 341 #[.val (.ref x), .val (.int p1), .val (.int p2), .val (.int p3), .val (.int z29), .val (.int z31), .val (.int z33), .val (.int z35), .val (.int z37), .val (.int z39), .val (.int z41), .val (.int z43), .val (.int z45)] [(.int (6 : Int32)), (.ref b220), (.ref b220), (.ref b219), (.ref b219)])) _
                refine XS.iload X232.here hx rfl (hb hby own_method_4_d341) rfl ?_
                show Steps p.tables e below (T232.setTop (mkF m 343 #[.val (.ref x), .val (.int p1), .val (.int p2), .val (.int p3), .val (.int z29), .val (.int z31), .val (.int z33), .val (.int z35), .val (.int z37), .val (.int z39), .val (.int z41), .val (.int z43), .val (.int z45)] [(.int z41), (.int (6 : Int32)), (.ref b220), (.ref b220), (.ref b219), (.ref b219)])) _
                refine st234 _ ?_
                show Steps p.tables e below (T234.setTop (mkF m 344 #[.val (.ref x), .val (.int p1), .val (.int p2), .val (.int p3), .val (.int z29), .val (.int z31), .val (.int z33), .val (.int z35), .val (.int z37), .val (.int z39), .val (.int z41), .val (.int z43), .val (.int z45)] [(.ref b220), (.ref b219), (.ref b219)])) _
                refine XS.dup X234.here hx rfl (hb hby own_method_4_d344) rfl rfl ?_
                show Steps p.tables e below (T234.setTop (mkF m 345 #[.val (.ref x), .val (.int p1), .val (.int p2), .val (.int p3), .val (.int z29), .val (.int z31), .val (.int z33), .val (.int z35), .val (.int z37), .val (.int z39), .val (.int z41), .val (.int z43), .val (.int z45)] [(.ref b220), (.ref b220), (.ref b219), (.ref b219)])) _
                refine XS.bipush X234.here hx rfl (hb hby own_method_4_d345) ?_
                show Steps p.tables e below (T234.setTop (mkF m 347 #[.val (.ref x), .val (.int p1), .val (.int p2), .val (.int p3), .val (.int z29), .val (.int z31), .val (.int z33), .val (.int z35), .val (.int z37), .val (.int z39), .val (.int z41), .val (.int z43), .val (.int z45)] [(.int (7 : Int32)), (.ref b220), (.ref b220), (.ref b219), (.ref b219)])) _
                refine XS.iload X234.here hx rfl (hb hby own_method_4_d347) rfl ?_
                show Steps p.tables e below (T234.setTop (mkF m 349 #[.val (.ref x), .val (.int p1), .val (.int p2), .val (.int p3), .val (.int z29), .val (.int z31), .val (.int z33), .val (.int z35), .val (.int z37), .val (.int z39), .val (.int z41), .val (.int z43), .val (.int z45)] [(.int z43), (.int (7 : Int32)), (.ref b220), (.ref b220), (.ref b219), (.ref b219)])) _
                refine st236 _ ?_
                show Steps p.tables e below (T236.setTop (mkF m 350 #[.val (.ref x), .val (.int p1), .val (.int p2), .val (.int p3), .val (.int z29), .val (.int z31), .val (.int z33), .val (.int z35), .val (.int z37), .val (.int z39), .val (.int z41), .val (.int z43), .val (.int z45)] [(.ref b220), (.ref b219), (.ref b219)])) _
                refine st263.trans ?_
                show Steps p.tables e below (T263.setTop (mkF m 353 #[.val (.ref x), .val (.int p1), .val (.int p2), .val (.int p3), .val (.int z29), .val (.int z31), .val (.int z33), .val (.int z35), .val (.int z37), .val (.int z39), .val (.int z41), .val (.int z43), .val (.int z45)] [(.ref b219)])) _
                exact retR X263 hx Bd.returns rfl rfl rfl (hb hby own_method_4_d353) hr
              · show own_Qmk Z h0 n0 _ T263.heap _
                exact ⟨b219, _, rfl, Na264, Xt265, Str263, Nat.le_of_ble_eq_true rfl⟩
            · obtain ⟨T266, h266, X266, e266, E266, A266, D266, -, st266⟩ := newO X45 hx hZ hown (hw _ (List.mem_of_getElem? (i := 51) rfl)) (hw _ (List.mem_of_getElem? (i := 3) rfl)) (hw _ (List.mem_of_getElem? (i := 2) rfl)) e45 (g := (mkF m 354 #[.val (.ref x), .val (.int p1), .val (.int p2), .val (.int p3), .val (.int z29), .val (.int z31), .val (.int z33), .val (.int z35), .val (.int z37), .val (.int z39), .val (.int z41), .val (.int z43), .val (.int z45)] [])) rfl (hb hby own_method_4_d354) (by decide) (by decide)
              obtain ⟨b266, g266⟩ : ∃ z, z = h0.size := ⟨_, rfl⟩
              rw [← g266] at A266 D266 st266
              have Fvalue_266 : Fld Z h266 b266 "java/lang/String" "value" "[B" .null := D266 (Or.inr (hw _ (List.mem_of_getElem? (i := 5) rfl))) (ty := (.array .byte)) (by decide)
              have Fcoder_266 : Fld Z h266 b266 "java/lang/String" "coder" "B" (.int (0 : Int32)) := D266 (Or.inr (hw _ (List.mem_of_getElem? (i := 6) rfl))) (ty := .byte) (by decide)
              obtain ⟨T267, h267, k267, X267, e267, E267, A267, st267⟩ := newP X266 hx hZ (hw _ (List.mem_of_getElem? (i := 52) rfl)) e266 (g := (mkF m 360 #[.val (.ref x), .val (.int p1), .val (.int p2), .val (.int p3), .val (.int z29), .val (.int z31), .val (.int z33), .val (.int z35), .val (.int z37), .val (.int z39), .val (.int z41), .val (.int z43), .val (.int z45)] [(.int (9 : Int32)), (.ref b266), (.ref b266)])) rfl (hb hby own_method_4_d360) rfl (by decide) (cap := 9) (by decide) (by decide) (by decide) (by decide)
              obtain ⟨b267, g267⟩ : ∃ z, z = h266.size := ⟨_, rfl⟩
              rw [← g267] at A267 st267
              have V267 : Arv Z h267 b267 k267 .char (9 : Int32) [(.int (0 : Int32)), (.int (0 : Int32)), (.int (0 : Int32)), (.int (0 : Int32)), (.int (0 : Int32)), (.int (0 : Int32)), (.int (0 : Int32)), (.int (0 : Int32)), (.int (0 : Int32))] (.int (0 : Int32)) := (Arv.new A267 (by decide)).pad (pad_rep [] (.int (0 : Int32)) 9)
              obtain ⟨cl268, Ar268, q268, S268, M268, H268, G268⟩ := id V267
              obtain ⟨T269, h269, X269, e269, W269, st269⟩ := stC X267 hx hZ e267 Ar268 (j := (0 : Int32)) (inb_of S268 ⟨by decide, by decide⟩) (g := (mkF m 366 #[.val (.ref x), .val (.int p1), .val (.int p2), .val (.int p3), .val (.int z29), .val (.int z31), .val (.int z33), .val (.int z35), .val (.int z37), .val (.int z39), .val (.int z41), .val (.int z43), .val (.int z45)] [(.int z29), (.int (0 : Int32)), (.ref b267), (.ref b267), (.ref b266), (.ref b266)])) rfl rfl (hb hby own_method_4_d366)
              have V269 : Arv Z h269 b267 k267 .char (9 : Int32) [(.int z29), (.int (0 : Int32)), (.int (0 : Int32)), (.int (0 : Int32)), (.int (0 : Int32)), (.int (0 : Int32)), (.int (0 : Int32)), (.int (0 : Int32)), (.int (0 : Int32))] (.int (0 : Int32)) := by have q := Arv.set Ar268 q268 S268 M268 H268 G268 (fits_nar_char _) W269 0 rfl (Nat.le_of_ble_eq_true rfl); rw [own_nar hz29] at q; exact q
              have N269 := Fr.snoc X269 Na46 (Nat.le_trans (Nat.le_trans Z0 E266.1) (Nat.le_of_eq g267.symm))
              obtain ⟨cl270, Ar270, q270, S270, M270, H270, G270⟩ := id V269
              obtain ⟨T271, h271, X271, e271, W271, st271⟩ := stC X269 hx hZ e269 Ar270 (j := (1 : Int32)) (inb_of S270 ⟨by decide, by decide⟩) (g := (mkF m 371 #[.val (.ref x), .val (.int p1), .val (.int p2), .val (.int p3), .val (.int z29), .val (.int z31), .val (.int z33), .val (.int z35), .val (.int z37), .val (.int z39), .val (.int z41), .val (.int z43), .val (.int z45)] [(.int z31), (.int (1 : Int32)), (.ref b267), (.ref b267), (.ref b266), (.ref b266)])) rfl rfl (hb hby own_method_4_d371)
              have V271 : Arv Z h271 b267 k267 .char (9 : Int32) [(.int z29), (.int z31), (.int (0 : Int32)), (.int (0 : Int32)), (.int (0 : Int32)), (.int (0 : Int32)), (.int (0 : Int32)), (.int (0 : Int32)), (.int (0 : Int32))] (.int (0 : Int32)) := by have q := Arv.set Ar270 q270 S270 M270 H270 G270 (fits_nar_char _) W271 1 rfl (Nat.le_of_ble_eq_true rfl); rw [own_nar hz31] at q; exact q
              have N271 := Fr.snoc X271 N269 (Nat.le_trans (Nat.le_trans Z0 E266.1) (Nat.le_of_eq g267.symm))
              obtain ⟨cl272, Ar272, q272, S272, M272, H272, G272⟩ := id V271
              obtain ⟨T273, h273, X273, e273, W273, st273⟩ := stC X271 hx hZ e271 Ar272 (j := (2 : Int32)) (inb_of S272 ⟨by decide, by decide⟩) (g := (mkF m 376 #[.val (.ref x), .val (.int p1), .val (.int p2), .val (.int p3), .val (.int z29), .val (.int z31), .val (.int z33), .val (.int z35), .val (.int z37), .val (.int z39), .val (.int z41), .val (.int z43), .val (.int z45)] [(.int z33), (.int (2 : Int32)), (.ref b267), (.ref b267), (.ref b266), (.ref b266)])) rfl rfl (hb hby own_method_4_d376)
              have V273 : Arv Z h273 b267 k267 .char (9 : Int32) [(.int z29), (.int z31), (.int z33), (.int (0 : Int32)), (.int (0 : Int32)), (.int (0 : Int32)), (.int (0 : Int32)), (.int (0 : Int32)), (.int (0 : Int32))] (.int (0 : Int32)) := by have q := Arv.set Ar272 q272 S272 M272 H272 G272 (fits_nar_char _) W273 2 rfl (Nat.le_of_ble_eq_true rfl); rw [own_nar hz33] at q; exact q
              have N273 := Fr.snoc X273 N271 (Nat.le_trans (Nat.le_trans Z0 E266.1) (Nat.le_of_eq g267.symm))
              obtain ⟨cl274, Ar274, q274, S274, M274, H274, G274⟩ := id V273
              obtain ⟨T275, h275, X275, e275, W275, st275⟩ := stC X273 hx hZ e273 Ar274 (j := (3 : Int32)) (inb_of S274 ⟨by decide, by decide⟩) (g := (mkF m 381 #[.val (.ref x), .val (.int p1), .val (.int p2), .val (.int p3), .val (.int z29), .val (.int z31), .val (.int z33), .val (.int z35), .val (.int z37), .val (.int z39), .val (.int z41), .val (.int z43), .val (.int z45)] [(.int z35), (.int (3 : Int32)), (.ref b267), (.ref b267), (.ref b266), (.ref b266)])) rfl rfl (hb hby own_method_4_d381)
              have V275 : Arv Z h275 b267 k267 .char (9 : Int32) [(.int z29), (.int z31), (.int z33), (.int z35), (.int (0 : Int32)), (.int (0 : Int32)), (.int (0 : Int32)), (.int (0 : Int32)), (.int (0 : Int32))] (.int (0 : Int32)) := by have q := Arv.set Ar274 q274 S274 M274 H274 G274 (fits_nar_char _) W275 3 rfl (Nat.le_of_ble_eq_true rfl); rw [own_nar hz35] at q; exact q
              have N275 := Fr.snoc X275 N273 (Nat.le_trans (Nat.le_trans Z0 E266.1) (Nat.le_of_eq g267.symm))
              obtain ⟨cl276, Ar276, q276, S276, M276, H276, G276⟩ := id V275
              obtain ⟨T277, h277, X277, e277, W277, st277⟩ := stC X275 hx hZ e275 Ar276 (j := (4 : Int32)) (inb_of S276 ⟨by decide, by decide⟩) (g := (mkF m 386 #[.val (.ref x), .val (.int p1), .val (.int p2), .val (.int p3), .val (.int z29), .val (.int z31), .val (.int z33), .val (.int z35), .val (.int z37), .val (.int z39), .val (.int z41), .val (.int z43), .val (.int z45)] [(.int z37), (.int (4 : Int32)), (.ref b267), (.ref b267), (.ref b266), (.ref b266)])) rfl rfl (hb hby own_method_4_d386)
              have V277 : Arv Z h277 b267 k267 .char (9 : Int32) [(.int z29), (.int z31), (.int z33), (.int z35), (.int z37), (.int (0 : Int32)), (.int (0 : Int32)), (.int (0 : Int32)), (.int (0 : Int32))] (.int (0 : Int32)) := by have q := Arv.set Ar276 q276 S276 M276 H276 G276 (fits_nar_char _) W277 4 rfl (Nat.le_of_ble_eq_true rfl); rw [own_nar hz37] at q; exact q
              have N277 := Fr.snoc X277 N275 (Nat.le_trans (Nat.le_trans Z0 E266.1) (Nat.le_of_eq g267.symm))
              obtain ⟨cl278, Ar278, q278, S278, M278, H278, G278⟩ := id V277
              obtain ⟨T279, h279, X279, e279, W279, st279⟩ := stC X277 hx hZ e277 Ar278 (j := (5 : Int32)) (inb_of S278 ⟨by decide, by decide⟩) (g := (mkF m 391 #[.val (.ref x), .val (.int p1), .val (.int p2), .val (.int p3), .val (.int z29), .val (.int z31), .val (.int z33), .val (.int z35), .val (.int z37), .val (.int z39), .val (.int z41), .val (.int z43), .val (.int z45)] [(.int z39), (.int (5 : Int32)), (.ref b267), (.ref b267), (.ref b266), (.ref b266)])) rfl rfl (hb hby own_method_4_d391)
              have V279 : Arv Z h279 b267 k267 .char (9 : Int32) [(.int z29), (.int z31), (.int z33), (.int z35), (.int z37), (.int z39), (.int (0 : Int32)), (.int (0 : Int32)), (.int (0 : Int32))] (.int (0 : Int32)) := by have q := Arv.set Ar278 q278 S278 M278 H278 G278 (fits_nar_char _) W279 5 rfl (Nat.le_of_ble_eq_true rfl); rw [own_nar hz39] at q; exact q
              have N279 := Fr.snoc X279 N277 (Nat.le_trans (Nat.le_trans Z0 E266.1) (Nat.le_of_eq g267.symm))
              obtain ⟨cl280, Ar280, q280, S280, M280, H280, G280⟩ := id V279
              obtain ⟨T281, h281, X281, e281, W281, st281⟩ := stC X279 hx hZ e279 Ar280 (j := (6 : Int32)) (inb_of S280 ⟨by decide, by decide⟩) (g := (mkF m 397 #[.val (.ref x), .val (.int p1), .val (.int p2), .val (.int p3), .val (.int z29), .val (.int z31), .val (.int z33), .val (.int z35), .val (.int z37), .val (.int z39), .val (.int z41), .val (.int z43), .val (.int z45)] [(.int z41), (.int (6 : Int32)), (.ref b267), (.ref b267), (.ref b266), (.ref b266)])) rfl rfl (hb hby own_method_4_d397)
              have V281 : Arv Z h281 b267 k267 .char (9 : Int32) [(.int z29), (.int z31), (.int z33), (.int z35), (.int z37), (.int z39), (.int z41), (.int (0 : Int32)), (.int (0 : Int32))] (.int (0 : Int32)) := by have q := Arv.set Ar280 q280 S280 M280 H280 G280 (fits_nar_char _) W281 6 rfl (Nat.le_of_ble_eq_true rfl); rw [own_nar hz41] at q; exact q
              have N281 := Fr.snoc X281 N279 (Nat.le_trans (Nat.le_trans Z0 E266.1) (Nat.le_of_eq g267.symm))
              obtain ⟨cl282, Ar282, q282, S282, M282, H282, G282⟩ := id V281
              obtain ⟨T283, h283, X283, e283, W283, st283⟩ := stC X281 hx hZ e281 Ar282 (j := (7 : Int32)) (inb_of S282 ⟨by decide, by decide⟩) (g := (mkF m 403 #[.val (.ref x), .val (.int p1), .val (.int p2), .val (.int p3), .val (.int z29), .val (.int z31), .val (.int z33), .val (.int z35), .val (.int z37), .val (.int z39), .val (.int z41), .val (.int z43), .val (.int z45)] [(.int z43), (.int (7 : Int32)), (.ref b267), (.ref b267), (.ref b266), (.ref b266)])) rfl rfl (hb hby own_method_4_d403)
              have V283 : Arv Z h283 b267 k267 .char (9 : Int32) [(.int z29), (.int z31), (.int z33), (.int z35), (.int z37), (.int z39), (.int z41), (.int z43), (.int (0 : Int32))] (.int (0 : Int32)) := by have q := Arv.set Ar282 q282 S282 M282 H282 G282 (fits_nar_char _) W283 7 rfl (Nat.le_of_ble_eq_true rfl); rw [own_nar hz43] at q; exact q
              have N283 := Fr.snoc X283 N281 (Nat.le_trans (Nat.le_trans Z0 E266.1) (Nat.le_of_eq g267.symm))
              obtain ⟨cl284, Ar284, q284, S284, M284, H284, G284⟩ := id V283
              obtain ⟨T285, h285, X285, e285, W285, st285⟩ := stC X283 hx hZ e283 Ar284 (j := (8 : Int32)) (inb_of S284 ⟨by decide, by decide⟩) (g := (mkF m 409 #[.val (.ref x), .val (.int p1), .val (.int p2), .val (.int p3), .val (.int z29), .val (.int z31), .val (.int z33), .val (.int z35), .val (.int z37), .val (.int z39), .val (.int z41), .val (.int z43), .val (.int z45)] [(.int z45), (.int (8 : Int32)), (.ref b267), (.ref b267), (.ref b266), (.ref b266)])) rfl rfl (hb hby own_method_4_d409)
              have V285 : Arv Z h285 b267 k267 .char (9 : Int32) [(.int z29), (.int z31), (.int z33), (.int z35), (.int z37), (.int z39), (.int z41), (.int z43), (.int z45)] (.int (0 : Int32)) := by have q := Arv.set Ar284 q284 S284 M284 H284 G284 (fits_nar_char _) W285 8 rfl (Nat.le_of_ble_eq_true rfl); rw [own_nar hz45] at q; exact q
              have N285 := Fr.snoc X285 N283 (Nat.le_trans (Nat.le_trans Z0 E266.1) (Nat.le_of_eq g267.symm))
              have Gr295 : h0.size ≤ h267.size := Nat.le_trans E266.1 E267.1
              have Gr294 : h0.size ≤ h269.size := Nat.le_trans Gr295 (Keep.of_wr W269).1
              have Gr293 : h0.size ≤ h271.size := Nat.le_trans Gr294 (Keep.of_wr W271).1
              have Gr292 : h0.size ≤ h273.size := Nat.le_trans Gr293 (Keep.of_wr W273).1
              have Gr291 : h0.size ≤ h275.size := Nat.le_trans Gr292 (Keep.of_wr W275).1
              have Gr290 : h0.size ≤ h277.size := Nat.le_trans Gr291 (Keep.of_wr W277).1
              have Gr289 : h0.size ≤ h279.size := Nat.le_trans Gr290 (Keep.of_wr W279).1
              have Gr288 : h0.size ≤ h281.size := Nat.le_trans Gr289 (Keep.of_wr W281).1
              have Gr287 : h0.size ≤ h283.size := Nat.le_trans Gr288 (Keep.of_wr W283).1
              have Gr286 : h0.size ≤ h285.size := Nat.le_trans Gr287 (Keep.of_wr W285).1
              have Xt296 : Ext h266 h269 := (own_xw E267 W269 (Nat.le_trans (own_xr h266).1 (Nat.le_of_eq g267.symm)))
              have Xt297 : Ext h266 h271 := (own_xw Xt296 W271 (Nat.le_trans (own_xr h266).1 (Nat.le_of_eq g267.symm)))
              have Xt298 : Ext h266 h273 := (own_xw Xt297 W273 (Nat.le_trans (own_xr h266).1 (Nat.le_of_eq g267.symm)))
              have Xt299 : Ext h266 h275 := (own_xw Xt298 W275 (Nat.le_trans (own_xr h266).1 (Nat.le_of_eq g267.symm)))
              have Xt300 : Ext h266 h277 := (own_xw Xt299 W277 (Nat.le_trans (own_xr h266).1 (Nat.le_of_eq g267.symm)))
              have Xt301 : Ext h266 h279 := (own_xw Xt300 W279 (Nat.le_trans (own_xr h266).1 (Nat.le_of_eq g267.symm)))
              have Xt302 : Ext h266 h281 := (own_xw Xt301 W281 (Nat.le_trans (own_xr h266).1 (Nat.le_of_eq g267.symm)))
              have Xt303 : Ext h266 h283 := (own_xw Xt302 W283 (Nat.le_trans (own_xr h266).1 (Nat.le_of_eq g267.symm)))
              have Xt304 : Ext h266 h285 := (own_xw Xt303 W285 (Nat.le_trans (own_xr h266).1 (Nat.le_of_eq g267.symm)))
              have Xt305 : Ext h0 h267 := (own_xt E266 E267)
              have Xt306 : Ext h0 h269 := (own_xw Xt305 W269 (Nat.le_trans E266.1 (Nat.le_of_eq g267.symm)))
              have Xt307 : Ext h0 h271 := (own_xw Xt306 W271 (Nat.le_trans E266.1 (Nat.le_of_eq g267.symm)))
              have Xt308 : Ext h0 h273 := (own_xw Xt307 W273 (Nat.le_trans E266.1 (Nat.le_of_eq g267.symm)))
              have Xt309 : Ext h0 h275 := (own_xw Xt308 W275 (Nat.le_trans E266.1 (Nat.le_of_eq g267.symm)))
              have Xt310 : Ext h0 h277 := (own_xw Xt309 W277 (Nat.le_trans E266.1 (Nat.le_of_eq g267.symm)))
              have Xt311 : Ext h0 h279 := (own_xw Xt310 W279 (Nat.le_trans E266.1 (Nat.le_of_eq g267.symm)))
              have Xt312 : Ext h0 h281 := (own_xw Xt311 W281 (Nat.le_trans E266.1 (Nat.le_of_eq g267.symm)))
              have Xt313 : Ext h0 h283 := (own_xw Xt312 W283 (Nat.le_trans E266.1 (Nat.le_of_eq g267.symm)))
              have Xt314 : Ext h0 h285 := (own_xw Xt313 W285 (Nat.le_trans E266.1 (Nat.le_of_eq g267.symm)))
              obtain ⟨_, _, ⟨T315, L315, k315, n315⟩, -, X315, ⟨Lc315, hQ315, l315, y315, z315⟩, st315⟩ := X285.specialBack hx (y := (⟨"java/lang/String", "<init>", "([C)V"⟩ : MethodName)) rfl hown (mvT hZ (hw _ (List.mem_of_getElem? (i := 53) rfl))) (mvT hZ (hw _ (List.mem_of_getElem? (i := 54) rfl))) (mvT hZ (hw _ (List.mem_of_getElem? (i := 55) rfl))) (by decide) (StrChars.Road.backV (W := 1) hZ (own_ws hw) (kI := 4) (hw _ (List.mem_of_getElem? (i := 3) rfl)) (cs := ([z29, z31, z33, z35, z37, z39, z41, z43, z45] : List Int32)) (bs := ([z29, z31, z33, z35, z37, z39, z41, z43, z45] : List Int32).map (fun c => c.toInt8.toInt32)) (n := 9) (Nat.le_trans Z0 (Nat.le_of_eq g266.symm)) (Nat.le_trans Z0 Gr286) (A266.ext Xt304) (Fvalue_266.ext Xt304) (Fcoder_266.ext Xt304) V285 (S_C.ext Xt314) P5 rfl rfl (by decide) (by decide) (own_cS hz29 (own_cS hz31 (own_cS hz33 (own_cS hz35 (own_cS hz37 (own_cS hz39 (own_cS hz41 (own_cS hz43 (own_cS hz45 own_c0))))))))) rfl (by decide) (by decide)) (g := (mkF m 410 #[.val (.ref x), .val (.int p1), .val (.int p2), .val (.int p3), .val (.int z29), .val (.int z31), .val (.int z33), .val (.int z35), .val (.int z37), .val (.int z39), .val (.int z41), .val (.int z43), .val (.int z45)] [(.ref b267), (.ref b266), (.ref b266)])) rfl (by rw [hml]; rfl) (Steps.refl _) (a := b266) (argsL := [(.ref b267)]) (rest := [(.ref b266)]) (lenOf own_pd5 rfl) rfl (by show 2 * 0 + _ ≤ _; exact Nat.le_of_eq rfl) (hb hby own_method_4_d410) (fun _ _ => ⟨rfl, e285, (by decide : 2 + 1 ≤ _), (by decide : 13 + 9 ≤ _)⟩)
              dsimp only [Pt.U, Pt.locs, Pt.cells, Pt.slots] at X315 l315 y315 z315 st315 hQ315
              subst l315 y315 z315
              obtain ⟨rfl, Nq315, K315, Ex315, Co315, t315, kb315, tg315, ts315, tx315, Va315, Ar315⟩ := hQ315
              have Na316 := Fr.app N285 Nq315
              have Str315 : own_Str Z T315.heap b266 ([z29, z31, z33, z35, z37, z39, z41, z43, z45] : List Int32) := ⟨Ex315, (own_cS hz29 (own_cS hz31 (own_cS hz33 (own_cS hz35 (own_cS hz37 (own_cS hz39 (own_cS hz41 (own_cS hz43 (own_cS hz45 own_c0))))))))), t315, kb315, Va315, Co315, Ar315⟩
              have Xt317 : Ext h0 T315.heap := (own_xk Xt314 K315 ((allS (Nat.le_trans (own_xr h0).1 (Nat.le_of_eq g266.symm)) all0)))
              obtain ⟨fs, hr, hrun, hended, hW, hsame⟩ := X315.leave (v := some (.ref b266)) (fun h => by rw [Bd.returns] at h; cases h)
              refine ⟨_, _, pre0 _ (go217 _ ?_), hrun, hended, _, _, rfl, ?_, ⟨_, rfl⟩, hW, hsame.mono (by decide) (by decide)⟩
              · show Steps p.tables e below (T45.setTop (mkF m 297 #[.val (.ref x), .val (.int p1), .val (.int p2), .val (.int p3), .val (.int z29), .val (.int z31), .val (.int z33), .val (.int z35), .val (.int z37), .val (.int z39), .val (.int z41), .val (.int z43), .val (.int z45)] [(.int (8 : Int32)), (.int p1)])) _
                refine XS.icmpYes X45.here hx rfl (pc0 := 297) (pc' := 354) rfl (hb hby own_method_4_d297) rfl (feq hc218).2 (by decide) (by decide) ?_
                show Steps p.tables e below (T45.setTop (mkF m 354 #[.val (.ref x), .val (.int p1), .val (.int p2), .val (.int p3), .val (.int z29), .val (.int z31), .val (.int z33), .val (.int z35), .val (.int z37), .val (.int z39), .val (.int z41), .val (.int z43), .val (.int z45)] [])) _
                refine st266 _ ?_
                show Steps p.tables e below (T266.setTop (mkF m 357 #[.val (.ref x), .val (.int p1), .val (.int p2), .val (.int p3), .val (.int z29), .val (.int z31), .val (.int z33), .val (.int z35), .val (.int z37), .val (.int z39), .val (.int z41), .val (.int z43), .val (.int z45)] [(.ref b266)])) _
                refine XS.dup X266.here hx rfl (hb hby own_method_4_d357) rfl rfl ?_
                show Steps p.tables e below (T266.setTop (mkF m 358 #[.val (.ref x), .val (.int p1), .val (.int p2), .val (.int p3), .val (.int z29), .val (.int z31), .val (.int z33), .val (.int z35), .val (.int z37), .val (.int z39), .val (.int z41), .val (.int z43), .val (.int z45)] [(.ref b266), (.ref b266)])) _
                refine XS.bipush X266.here hx rfl (hb hby own_method_4_d358) ?_
                show Steps p.tables e below (T266.setTop (mkF m 360 #[.val (.ref x), .val (.int p1), .val (.int p2), .val (.int p3), .val (.int z29), .val (.int z31), .val (.int z33), .val (.int z35), .val (.int z37), .val (.int z39), .val (.int z41), .val (.int z43), .val (.int z45)] [(.int (9 : Int32)), (.ref b266), (.ref b266)])) _
                refine st267 _ ?_
                show Steps p.tables e below (T267.setTop (mkF m 362 #[.val (.ref x), .val (.int p1), .val (.int p2), .val (.int p3), .val (.int z29), .val (.int z31), .val (.int z33), .val (.int z35), .val (.int z37), .val (.int z39), .val (.int z41), .val (.int z43), .val (.int z45)] [(.ref b267), (.ref b266), (.ref b266)])) _
                refine XS.dup X267.here hx rfl (hb hby own_method_4_d362) rfl rfl ?_
                show Steps p.tables e below (T267.setTop (mkF m 363 #[.val (.ref x), .val (.int p1), .val (.int p2), .val (.int p3), .val (.int z29), .val (.int z31), .val (.int z33), .val (.int z35), .val (.int z37), .val (.int z39), .val (.int z41), .val (.int z43), .val (.int z45)] [(.ref b267), (.ref b267), (.ref b266), (.ref b266)])) _
                refine XS.iconst X267.here hx rfl (hb hby own_method_4_d363) ?_
                show Steps p.tables e below (T267.setTop (mkF m 364 #[.val (.ref x), .val (.int p1), .val (.int p2), .val (.int p3), .val (.int z29), .val (.int z31), .val (.int z33), .val (.int z35), .val (.int z37), .val (.int z39), .val (.int z41), .val (.int z43), .val (.int z45)] [(.int (0 : Int32)), (.ref b267), (.ref b267), (.ref b266), (.ref b266)])) _
                refine XS.iload X267.here hx rfl (hb hby own_method_4_d364) rfl ?_
                show Steps p.tables e below (T267.setTop (mkF m 366 #[.val (.ref x), .val (.int p1), .val (.int p2), .val (.int p3), .val (.int z29), .val (.int z31), .val (.int z33), .val (.int z35), .val (.int z37), .val (.int z39), .val (.int z41), .val (.int z43), .val (.int z45)] [(.int z29), (.int (0 : Int32)), (.ref b267), (.ref b267), (.ref b266), (.ref b266)])) _
                refine st269 _ ?_
                show Steps p.tables e below (T269.setTop (mkF m 367 #[.val (.ref x), .val (.int p1), .val (.int p2), .val (.int p3), .val (.int z29), .val (.int z31), .val (.int z33), .val (.int z35), .val (.int z37), .val (.int z39), .val (.int z41), .val (.int z43), .val (.int z45)] [(.ref b267), (.ref b266), (.ref b266)])) _
                refine XS.dup X269.here hx rfl (hb hby own_method_4_d367) rfl rfl ?_
                show Steps p.tables e below (T269.setTop (mkF m 368 #[.val (.ref x), .val (.int p1), .val (.int p2), .val (.int p3), .val (.int z29), .val (.int z31), .val (.int z33), .val (.int z35), .val (.int z37), .val (.int z39), .val (.int z41), .val (.int z43), .val (.int z45)] [(.ref b267), (.ref b267), (.ref b266), (.ref b266)])) _
                refine XS.iconst X269.here hx rfl (hb hby own_method_4_d368) ?_
                show Steps p.tables e below (T269.setTop (mkF m 369 #[.val (.ref x), .val (.int p1), .val (.int p2), .val (.int p3), .val (.int z29), .val (.int z31), .val (.int z33), .val (.int z35), .val (.int z37), .val (.int z39), .val (.int z41), .val (.int z43), .val (.int z45)] [(.int (1 : Int32)), (.ref b267), (.ref b267), (.ref b266), (.ref b266)])) _
                refine XS.iload X269.here hx rfl (hb hby own_method_4_d369) rfl ?_
                show Steps p.tables e below (T269.setTop (mkF m 371 #[.val (.ref x), .val (.int p1), .val (.int p2), .val (.int p3), .val (.int z29), .val (.int z31), .val (.int z33), .val (.int z35), .val (.int z37), .val (.int z39), .val (.int z41), .val (.int z43), .val (.int z45)] [(.int z31), (.int (1 : Int32)), (.ref b267), (.ref b267), (.ref b266), (.ref b266)])) _
                refine st271 _ ?_
                show Steps p.tables e below (T271.setTop (mkF m 372 #[.val (.ref x), .val (.int p1), .val (.int p2), .val (.int p3), .val (.int z29), .val (.int z31), .val (.int z33), .val (.int z35), .val (.int z37), .val (.int z39), .val (.int z41), .val (.int z43), .val (.int z45)] [(.ref b267), (.ref b266), (.ref b266)])) _
                refine XS.dup X271.here hx rfl (hb hby own_method_4_d372) rfl rfl ?_
                show Steps p.tables e below (T271.setTop (mkF m 373 #[.val (.ref x), .val (.int p1), .val (.int p2), .val (.int p3), .val (.int z29), .val (.int z31), .val (.int z33), .val (.int z35), .val (.int z37), .val (.int z39), .val (.int z41), .val (.int z43), .val (.int z45)] [(.ref b267), (.ref b267), (.ref b266), (.ref b266)])) _
                refine XS.iconst X271.here hx rfl (hb hby own_method_4_d373) ?_
                show Steps p.tables e below (T271.setTop (mkF m 374 #[.val (.ref x), .val (.int p1), .val (.int p2), .val (.int p3), .val (.int z29), .val (.int z31), .val (.int z33), .val (.int z35), .val (.int z37), .val (.int z39), .val (.int z41), .val (.int z43), .val (.int z45)] [(.int (2 : Int32)), (.ref b267), (.ref b267), (.ref b266), (.ref b266)])) _
                refine XS.iload X271.here hx rfl (hb hby own_method_4_d374) rfl ?_
                show Steps p.tables e below (T271.setTop (mkF m 376 #[.val (.ref x), .val (.int p1), .val (.int p2), .val (.int p3), .val (.int z29), .val (.int z31), .val (.int z33), .val (.int z35), .val (.int z37), .val (.int z39), .val (.int z41), .val (.int z43), .val (.int z45)] [(.int z33), (.int (2 : Int32)), (.ref b267), (.ref b267), (.ref b266), (.ref b266)])) _
                refine st273 _ ?_
                show Steps p.tables e below (T273.setTop (mkF m 377 #[.val (.ref x), .val (.int p1), .val (.int p2), .val (.int p3), .val (.int z29), .val (.int z31), .val (.int z33), .val (.int z35), .val (.int z37), .val (.int z39), .val (.int z41), .val (.int z43), .val (.int z45)] [(.ref b267), (.ref b266), (.ref b266)])) _
                refine XS.dup X273.here hx rfl (hb hby own_method_4_d377) rfl rfl ?_
                show Steps p.tables e below (T273.setTop (mkF m 378 #[.val (.ref x), .val (.int p1), .val (.int p2), .val (.int p3), .val (.int z29), .val (.int z31), .val (.int z33), .val (.int z35), .val (.int z37), .val (.int z39), .val (.int z41), .val (.int z43), .val (.int z45)] [(.ref b267), (.ref b267), (.ref b266), (.ref b266)])) _
                refine XS.iconst X273.here hx rfl (hb hby own_method_4_d378) ?_
                show Steps p.tables e below (T273.setTop (mkF m 379 #[.val (.ref x), .val (.int p1), .val (.int p2), .val (.int p3), .val (.int z29), .val (.int z31), .val (.int z33), .val (.int z35), .val (.int z37), .val (.int z39), .val (.int z41), .val (.int z43), .val (.int z45)] [(.int (3 : Int32)), (.ref b267), (.ref b267), (.ref b266), (.ref b266)])) _
                refine XS.iload X273.here hx rfl (hb hby own_method_4_d379) rfl ?_
                show Steps p.tables e below (T273.setTop (mkF m 381 #[.val (.ref x), .val (.int p1), .val (.int p2), .val (.int p3), .val (.int z29), .val (.int z31), .val (.int z33), .val (.int z35), .val (.int z37), .val (.int z39), .val (.int z41), .val (.int z43), .val (.int z45)] [(.int z35), (.int (3 : Int32)), (.ref b267), (.ref b267), (.ref b266), (.ref b266)])) _
                refine st275 _ ?_
                show Steps p.tables e below (T275.setTop (mkF m 382 #[.val (.ref x), .val (.int p1), .val (.int p2), .val (.int p3), .val (.int z29), .val (.int z31), .val (.int z33), .val (.int z35), .val (.int z37), .val (.int z39), .val (.int z41), .val (.int z43), .val (.int z45)] [(.ref b267), (.ref b266), (.ref b266)])) _
                refine XS.dup X275.here hx rfl (hb hby own_method_4_d382) rfl rfl ?_
                show Steps p.tables e below (T275.setTop (mkF m 383 #[.val (.ref x), .val (.int p1), .val (.int p2), .val (.int p3), .val (.int z29), .val (.int z31), .val (.int z33), .val (.int z35), .val (.int z37), .val (.int z39), .val (.int z41), .val (.int z43), .val (.int z45)] [(.ref b267), (.ref b267), (.ref b266), (.ref b266)])) _
                refine XS.iconst X275.here hx rfl (hb hby own_method_4_d383) ?_
                show Steps p.tables e below (T275.setTop (mkF m 384 #[.val (.ref x), .val (.int p1), .val (.int p2), .val (.int p3), .val (.int z29), .val (.int z31), .val (.int z33), .val (.int z35), .val (.int z37), .val (.int z39), .val (.int z41), .val (.int z43), .val (.int z45)] [(.int (4 : Int32)), (.ref b267), (.ref b267), (.ref b266), (.ref b266)])) _
                refine XS.iload X275.here hx rfl (hb hby own_method_4_d384) rfl ?_
                show Steps p.tables e below (T275.setTop (mkF m 386 #[.val (.ref x), .val (.int p1), .val (.int p2), .val (.int p3), .val (.int z29), .val (.int z31), .val (.int z33), .val (.int z35), .val (.int z37), .val (.int z39), .val (.int z41), .val (.int z43), .val (.int z45)] [(.int z37), (.int (4 : Int32)), (.ref b267), (.ref b267), (.ref b266), (.ref b266)])) _
                refine st277 _ ?_
                show Steps p.tables e below (T277.setTop (mkF m 387 #[.val (.ref x), .val (.int p1), .val (.int p2), .val (.int p3), .val (.int z29), .val (.int z31), .val (.int z33), .val (.int z35), .val (.int z37), .val (.int z39), .val (.int z41), .val (.int z43), .val (.int z45)] [(.ref b267), (.ref b266), (.ref b266)])) _
                refine XS.dup X277.here hx rfl (hb hby own_method_4_d387) rfl rfl ?_
                show Steps p.tables e below (T277.setTop (mkF m 388 #[.val (.ref x), .val (.int p1), .val (.int p2), .val (.int p3), .val (.int z29), .val (.int z31), .val (.int z33), .val (.int z35), .val (.int z37), .val (.int z39), .val (.int z41), .val (.int z43), .val (.int z45)] [(.ref b267), (.ref b267), (.ref b266), (.ref b266)])) _
                refine XS.iconst X277.here hx rfl (hb hby own_method_4_d388) ?_
                show Steps p.tables e below (T277.setTop (mkF m 389 #[.val (.ref x), .val (.int p1), .val (.int p2), .val (.int p3), .val (.int z29), .val (.int z31), .val (.int z33), .val (.int z35), .val (.int z37), .val (.int z39), .val (.int z41), .val (.int z43), .val (.int z45)] [(.int (5 : Int32)), (.ref b267), (.ref b267), (.ref b266), (.ref b266)])) _
                refine XS.iload X277.here hx rfl (hb hby own_method_4_d389) rfl ?_
                show Steps p.tables e below (T277.setTop (mkF m 391 #[.val (.ref x), .val (.int p1), .val (.int p2), .val (.int p3), .val (.int z29), .val (.int z31), .val (.int z33), .val (.int z35), .val (.int z37), .val (.int z39), .val (.int z41), .val (.int z43), .val (.int z45)] [(.int z39), (.int (5 : Int32)), (.ref b267), (.ref b267), (.ref b266), (.ref b266)])) _
                refine st279 _ ?_
                show Steps p.tables e below (T279.setTop (mkF m 392 #[.val (.ref x), .val (.int p1), .val (.int p2), .val (.int p3), .val (.int z29), .val (.int z31), .val (.int z33), .val (.int z35), .val (.int z37), .val (.int z39), .val (.int z41), .val (.int z43), .val (.int z45)] [(.ref b267), (.ref b266), (.ref b266)])) _
                refine XS.dup X279.here hx rfl (hb hby own_method_4_d392) rfl rfl ?_
                show Steps p.tables e below (T279.setTop (mkF m 393 #[.val (.ref x), .val (.int p1), .val (.int p2), .val (.int p3), .val (.int z29), .val (.int z31), .val (.int z33), .val (.int z35), .val (.int z37), .val (.int z39), .val (.int z41), .val (.int z43), .val (.int z45)] [(.ref b267), (.ref b267), (.ref b266), (.ref b266)])) _
                refine XS.bipush X279.here hx rfl (hb hby own_method_4_d393) ?_
                show Steps p.tables e below (T279.setTop (mkF m 395 #[.val (.ref x), .val (.int p1), .val (.int p2), .val (.int p3), .val (.int z29), .val (.int z31), .val (.int z33), .val (.int z35), .val (.int z37), .val (.int z39), .val (.int z41), .val (.int z43), .val (.int z45)] [(.int (6 : Int32)), (.ref b267), (.ref b267), (.ref b266), (.ref b266)])) _
                refine XS.iload X279.here hx rfl (hb hby own_method_4_d395) rfl ?_
                show Steps p.tables e below (T279.setTop (mkF m 397 #[.val (.ref x), .val (.int p1), .val (.int p2), .val (.int p3), .val (.int z29), .val (.int z31), .val (.int z33), .val (.int z35), .val (.int z37), .val (.int z39), .val (.int z41), .val (.int z43), .val (.int z45)] [(.int z41), (.int (6 : Int32)), (.ref b267), (.ref b267), (.ref b266), (.ref b266)])) _
                refine st281 _ ?_
                show Steps p.tables e below (T281.setTop (mkF m 398 #[.val (.ref x), .val (.int p1), .val (.int p2), .val (.int p3), .val (.int z29), .val (.int z31), .val (.int z33), .val (.int z35), .val (.int z37), .val (.int z39), .val (.int z41), .val (.int z43), .val (.int z45)] [(.ref b267), (.ref b266), (.ref b266)])) _
                refine XS.dup X281.here hx rfl (hb hby own_method_4_d398) rfl rfl ?_
                show Steps p.tables e below (T281.setTop (mkF m 399 #[.val (.ref x), .val (.int p1), .val (.int p2), .val (.int p3), .val (.int z29), .val (.int z31), .val (.int z33), .val (.int z35), .val (.int z37), .val (.int z39), .val (.int z41), .val (.int z43), .val (.int z45)] [(.ref b267), (.ref b267), (.ref b266), (.ref b266)])) _
                refine XS.bipush X281.here hx rfl (hb hby own_method_4_d399) ?_
                show Steps p.tables e below (T281.setTop (mkF m 401 #[.val (.ref x), .val (.int p1), .val (.int p2), .val (.int p3), .val (.int z29), .val (.int z31), .val (.int z33), .val (.int z35), .val (.int z37), .val (.int z39), .val (.int z41), .val (.int z43), .val (.int z45)] [(.int (7 : Int32)), (.ref b267), (.ref b267), (.ref b266), (.ref b266)])) _
                refine XS.iload X281.here hx rfl (hb hby own_method_4_d401) rfl ?_
                show Steps p.tables e below (T281.setTop (mkF m 403 #[.val (.ref x), .val (.int p1), .val (.int p2), .val (.int p3), .val (.int z29), .val (.int z31), .val (.int z33), .val (.int z35), .val (.int z37), .val (.int z39), .val (.int z41), .val (.int z43), .val (.int z45)] [(.int z43), (.int (7 : Int32)), (.ref b267), (.ref b267), (.ref b266), (.ref b266)])) _
                refine st283 _ ?_
                show Steps p.tables e below (T283.setTop (mkF m 404 #[.val (.ref x), .val (.int p1), .val (.int p2), .val (.int p3), .val (.int z29), .val (.int z31), .val (.int z33), .val (.int z35), .val (.int z37), .val (.int z39), .val (.int z41), .val (.int z43), .val (.int z45)] [(.ref b267), (.ref b266), (.ref b266)])) _
                refine XS.dup X283.here hx rfl (hb hby own_method_4_d404) rfl rfl ?_
                show Steps p.tables e below (T283.setTop (mkF m 405 #[.val (.ref x), .val (.int p1), .val (.int p2), .val (.int p3), .val (.int z29), .val (.int z31), .val (.int z33), .val (.int z35), .val (.int z37), .val (.int z39), .val (.int z41), .val (.int z43), .val (.int z45)] [(.ref b267), (.ref b267), (.ref b266), (.ref b266)])) _
                refine XS.bipush X283.here hx rfl (hb hby own_method_4_d405) ?_
                show Steps p.tables e below (T283.setTop (mkF m 407 #[.val (.ref x), .val (.int p1), .val (.int p2), .val (.int p3), .val (.int z29), .val (.int z31), .val (.int z33), .val (.int z35), .val (.int z37), .val (.int z39), .val (.int z41), .val (.int z43), .val (.int z45)] [(.int (8 : Int32)), (.ref b267), (.ref b267), (.ref b266), (.ref b266)])) _
                refine XS.iload X283.here hx rfl (hb hby own_method_4_d407) rfl ?_
                show Steps p.tables e below (T283.setTop (mkF m 409 #[.val (.ref x), .val (.int p1), .val (.int p2), .val (.int p3), .val (.int z29), .val (.int z31), .val (.int z33), .val (.int z35), .val (.int z37), .val (.int z39), .val (.int z41), .val (.int z43), .val (.int z45)] [(.int z45), (.int (8 : Int32)), (.ref b267), (.ref b267), (.ref b266), (.ref b266)])) _
                refine st285 _ ?_
                show Steps p.tables e below (T285.setTop (mkF m 410 #[.val (.ref x), .val (.int p1), .val (.int p2), .val (.int p3), .val (.int z29), .val (.int z31), .val (.int z33), .val (.int z35), .val (.int z37), .val (.int z39), .val (.int z41), .val (.int z43), .val (.int z45)] [(.ref b267), (.ref b266), (.ref b266)])) _
                refine st315.trans ?_
                show Steps p.tables e below (T315.setTop (mkF m 413 #[.val (.ref x), .val (.int p1), .val (.int p2), .val (.int p3), .val (.int z29), .val (.int z31), .val (.int z33), .val (.int z35), .val (.int z37), .val (.int z39), .val (.int z41), .val (.int z43), .val (.int z45)] [(.ref b266)])) _
                exact retR X315 hx Bd.returns rfl rfl rfl (hb hby own_method_4_d413) hr
              · show own_Qmk Z h0 n0 _ T315.heap _
                exact ⟨b266, _, rfl, Na316, Xt317, Str315, Nat.le_of_ble_eq_true rfl⟩
def own_Ql (n0 : Nat) (v : Option Value) (h : Heap) (L : List Loc) : Prop := v = some (.int 1) ∧ Fr n0 L
theorem own_l_ef (m : MethodId) (x0 : Int32) (x1 : Int32) (x2 : Int32) (x3 : Int32) : entryFrame m #[(.int x0), (.int x1), (.int x2), (.int x3)] maxLocals = mkF m 0 #[.val (.int x0), .val (.int x1), .val (.int x2), .val (.int x3), .unset, .unset, .unset, .unset, .unset, .unset, .unset, .unset] [] := by first | (simp [entryFrame, mkF, argsToLocals, Value.category, maxLocals]; done) | rfl
set_option maxRecDepth 65536 in
set_option maxHeartbeats 40000000 in
theorem own_l (l : Launch) (Z : State) (a0 : Array Value) (hw : ∀ d ∈ tables_1, d.before a0 Z = true) (ws : List Jvm.Cond) (va en0 en1 en2 : Addr) (kA : ClassId) (tx0 tx1 tx2 : Addr) (w2 : Int32) (p1 p2 p3 p4 : Int32) (fm : Value) (h0 : Heap) (n0 : Nat) (Z0 : n0 ≤ h0.size) (O0 : Ext Z.heap h0) (S_V : Sta Z Z.heap "com/example/spatial_at_rest/spatialatrest/Interpolation" "$VALUES" "[Lcom/example/spatial_at_rest/spatialatrest/Interpolation;" (.ref va)) (EV : Exa Z Z.heap va "[Lcom/example/spatial_at_rest/spatialatrest/Interpolation;") (AV : Arv Z Z.heap va kA (.object "com/example/spatial_at_rest/spatialatrest/Interpolation") (3 : Int32) [(.ref en0), (.ref en1), (.ref en2)] .null) (S_C : Sta Z Z.heap "java/lang/String" "COMPACT_STRINGS" "Z" (.int w2)) (P5 : ¬ w2 = 0) (F0 : Fld Z Z.heap en0 "com/example/spatial_at_rest/spatialatrest/Interpolation" "wireName" "Ljava/lang/String;" (.ref tx0)) (T0 : own_Str Z Z.heap tx0 ([(68 : Int32), (105 : Int32), (115 : Int32), (99 : Int32), (114 : Int32), (101 : Int32), (116 : Int32), (101 : Int32)] : List Int32)) (F1 : Fld Z Z.heap en1 "com/example/spatial_at_rest/spatialatrest/Interpolation" "wireName" "Ljava/lang/String;" (.ref tx1)) (T1 : own_Str Z Z.heap tx1 ([(83 : Int32), (116 : Int32), (101 : Int32), (112 : Int32)] : List Int32)) (F2 : Fld Z Z.heap en2 "com/example/spatial_at_rest/spatialatrest/Interpolation" "wireName" "Ljava/lang/String;" (.ref tx2)) (T2 : own_Str Z Z.heap tx2 ([(76 : Int32), (105 : Int32), (110 : Int32), (101 : Int32), (97 : Int32), (114 : Int32)] : List Int32)) (S_F : Sta Z Z.heap "jdk/internal/util/Preconditions" "SIOOBE_FORMATTER" "Ljava/util/function/BiFunction;" fm) (rf : fm.isRef = true) (S0 : Sta Z Z.heap "com/example/spatial_at_rest/spatialatrest/Interpolation" "DISCRETE" "Lcom/example/spatial_at_rest/spatialatrest/Interpolation;" (.ref en0)) (S1 : Sta Z Z.heap "com/example/spatial_at_rest/spatialatrest/Interpolation" "STEP" "Lcom/example/spatial_at_rest/spatialatrest/Interpolation;" (.ref en1)) (S2 : Sta Z Z.heap "com/example/spatial_at_rest/spatialatrest/Interpolation" "LINEAR" "Lcom/example/spatial_at_rest/spatialatrest/Interpolation;" (.ref en2)) :
    MetFree l x (head1 (Jvm.Cond.code x code maxLocals ret :: ws) room_1) (fun a U => a = #[(.int p1), (.int p2), (.int p3), (.int p4)] ∧ Z.Warmed39 U.vm ∧ U.heap = h0 ∧ CHv Z own_EL U.vm h0) (fun _ _ _ _ _ => True) (fun _ U o U' => ∃ v L, o = .returned v ∧ own_Ql n0 v U'.heap L ∧ CHr Z own_EL U.vm U.heap U'.vm U'.heap ∧ ReturnedEndW U o U' L room_1.cells room_1.slots) := by
  refine MetFree.of_bodySF (plainFor_of_name own_pn) hisR ?_
  intro p e s m args below meth c s₁ Bd hml0 hP hK
  obtain ⟨rfl, hZ, hh, hCH⟩ := hP
  have hx := Bd.exec
  have hby := Bd.bytes
  have hml : c.maxLocals = 12 := hml0
  have hown : s.vm.findClass "com/example/spatial_at_rest/spatialatrest/InterpolationNamedPinLaw" = some m.cls := findClass_of_methodNamed Bd.named
  have hnm := (name_of_methodNamed Bd.named Bd.method).1
  have X0 : Stand p l e room_1 (s.setVm s.vm) m #[(.int p1), (.int p2), (.int p3), (.int p4)] below meth c s₁ [] 0 0 := Stand.of_body Bd
  have e0 : s₁.heap = h0 := by rw [← hh, Bd.state]; rfl
  have N0 := Fr.nil n0
  have hS0 : s.Since s.vm 0 := (State.WarmedH.refl s).since 0
  have CR0 : CHr Z own_EL s.vm h0 s.vm h0 := CHr.refl hCH
  have pre0 : ∀ t, Steps p.tables e below (s₁.setTop (mkF m 0 #[.val (.int p1), .val (.int p2), .val (.int p3), .val (.int p4), .unset, .unset, .unset, .unset, .unset, .unset, .unset, .unset] [])) t → Steps p.tables e below (s₁.setTop (entryFrame m #[(.int p1), (.int p2), (.int p3), (.int p4)] maxLocals)) t := fun t k => castTop (own_l_ef m p1 p2 p3 p4) k
  have go318 : ∀ t, Steps p.tables e below (s₁.setTop (mkF m 0 #[.val (.int p1), .val (.int p2), .val (.int p3), .val (.int p4), .unset, .unset, .unset, .unset, .unset, .unset, .unset, .unset] [])) t → Steps p.tables e below (s₁.setTop (mkF m 0 #[.val (.int p1), .val (.int p2), .val (.int p3), .val (.int p4), .unset, .unset, .unset, .unset, .unset, .unset, .unset, .unset] [])) t := fun t kt => (by
      exact kt)
  obtain ⟨bb, go320⟩ : ∃ (bb : Int32), ∀ t, Steps p.tables e below (s₁.setTop (mkF m 8 #[.val (.int p1), .val (.int p2), .val (.int p3), .val (.int p4), .val (.int bb), .unset, .unset, .unset, .unset, .unset, .unset, .unset] [])) t → Steps p.tables e below (s₁.setTop (mkF m 0 #[.val (.int p1), .val (.int p2), .val (.int p3), .val (.int p4), .unset, .unset, .unset, .unset, .unset, .unset, .unset, .unset] [])) t := by
    have go319 : ∀ t, Steps p.tables e below (s₁.setTop (mkF m 8 #[.val (.int p1), .val (.int p2), .val (.int p3), .val (.int p4), .val (.int ((p1 &&& (2147483647 : Int32)) % (3 : Int32))), .unset, .unset, .unset, .unset, .unset, .unset, .unset] [])) t → Steps p.tables e below (s₁.setTop (mkF m 0 #[.val (.int p1), .val (.int p2), .val (.int p3), .val (.int p4), .unset, .unset, .unset, .unset, .unset, .unset, .unset, .unset] [])) t := fun t kt => go318 t (by
        show Steps p.tables e below (s₁.setTop (mkF m 0 #[.val (.int p1), .val (.int p2), .val (.int p3), .val (.int p4), .unset, .unset, .unset, .unset, .unset, .unset, .unset, .unset] [])) _
        refine XS.iloadN X0.here hx rfl (hb hby at_0) rfl ?_
        show Steps p.tables e below (s₁.setTop (mkF m 1 #[.val (.int p1), .val (.int p2), .val (.int p3), .val (.int p4), .unset, .unset, .unset, .unset, .unset, .unset, .unset, .unset] [(.int p1)])) _
        refine X0.ldcInt hx hown (mvT hZ (hw _ (List.mem_of_getElem? (i := 0) rfl))) (g := (mkF m 1 #[.val (.int p1), .val (.int p2), .val (.int p3), .val (.int p4), .unset, .unset, .unset, .unset, .unset, .unset, .unset, .unset] [(.int p1)])) rfl (hb hby at_1) _ ?_
        show Steps p.tables e below (s₁.setTop (mkF m 3 #[.val (.int p1), .val (.int p2), .val (.int p3), .val (.int p4), .unset, .unset, .unset, .unset, .unset, .unset, .unset, .unset] [(.int (2147483647 : Int32)), (.int p1)])) _
        refine XS.iand X0.here hx rfl (hb hby at_3) rfl ?_
        show Steps p.tables e below (s₁.setTop (mkF m 4 #[.val (.int p1), .val (.int p2), .val (.int p3), .val (.int p4), .unset, .unset, .unset, .unset, .unset, .unset, .unset, .unset] [(.int (p1 &&& (2147483647 : Int32)))])) _
        refine XS.iconst X0.here hx rfl (hb hby at_4) ?_
        show Steps p.tables e below (s₁.setTop (mkF m 5 #[.val (.int p1), .val (.int p2), .val (.int p3), .val (.int p4), .unset, .unset, .unset, .unset, .unset, .unset, .unset, .unset] [(.int (3 : Int32)), (.int (p1 &&& (2147483647 : Int32)))])) _
        refine Jvm.RoadKit.iremM X0 hx rfl (hb hby at_5) rfl (by decide) ?_
        show Steps p.tables e below (s₁.setTop (mkF m 6 #[.val (.int p1), .val (.int p2), .val (.int p3), .val (.int p4), .unset, .unset, .unset, .unset, .unset, .unset, .unset, .unset] [(.int ((p1 &&& (2147483647 : Int32)) % (3 : Int32)))])) _
        refine XS.istore X0.here hx rfl (hb hby at_6) rfl (l' := #[.val (.int p1), .val (.int p2), .val (.int p3), .val (.int p4), .val (.int ((p1 &&& (2147483647 : Int32)) % (3 : Int32))), .unset, .unset, .unset, .unset, .unset, .unset, .unset]) rfl ?_
        exact kt)
    exact ⟨((p1 &&& (2147483647 : Int32)) % (3 : Int32)), go319⟩
  have go321 : ∀ t, Steps p.tables e below (s₁.setTop (mkF m 10 #[.val (.int p1), .val (.int p2), .val (.int p3), .val (.int p4), .val (.int bb), .unset, .unset, .unset, .unset, .unset, .unset, .unset] [(.int bb)])) t → Steps p.tables e below (s₁.setTop (mkF m 0 #[.val (.int p1), .val (.int p2), .val (.int p3), .val (.int p4), .unset, .unset, .unset, .unset, .unset, .unset, .unset, .unset] [])) t := fun t kt => go320 t (by
      show Steps p.tables e below (s₁.setTop (mkF m 8 #[.val (.int p1), .val (.int p2), .val (.int p3), .val (.int p4), .val (.int bb), .unset, .unset, .unset, .unset, .unset, .unset, .unset] [])) _
      refine XS.iload X0.here hx rfl (hb hby at_8) rfl ?_
      exact kt)
  by_cases hc322 : bb = (0 : Int32)
  · obtain ⟨ca325, T325, h325, kq325, cb325, kb325, X325, e325, E325, hS325, hk325, hZ325, ho325, Ex325, Co325, Va325, Ar325, la325, lb325, hC325, Li325, sf325, st325⟩ := ldcCH X0 hx hZ hown (hw _ (List.mem_of_getElem? (i := 1) rfl)) (own_sa hw) e0 hS0 (Nat.zero_le _) (own_ew hw) (by decide) CR0.1 (vs := (([(68 : Int32), (105 : Int32), (115 : Int32), (99 : Int32), (114 : Int32), (101 : Int32), (116 : Int32), (101 : Int32)] : List Int32).map (fun c => c.toInt8.toInt32)).map Value.int) (z := (8 : Int32)) ⟨by decide, by decide +kernel⟩ (by decide) (by decide) (g := (mkF m 13 #[.val (.int p1), .val (.int p2), .val (.int p3), .val (.int p4), .val (.int bb), .unset, .unset, .unset, .unset, .unset, .unset, .unset] [])) rfl (hb hby at_13) (n := 32) (by decide) (by decide) (by decide) (by decide)
    have CR326 : CHr Z own_EL s.vm h0 T325.vm h325 := CR0.trans hC325
    have Sc325 : own_Str Z h325 ca325 ([(68 : Int32), (105 : Int32), (115 : Int32), (99 : Int32), (114 : Int32), (101 : Int32), (116 : Int32), (101 : Int32)] : List Int32) := ⟨Ex325, (own_cS (by decide) (own_cS (by decide) (own_cS (by decide) (own_cS (by decide) (own_cS (by decide) (own_cS (by decide) (own_cS (by decide) (own_cS (by decide) own_c0)))))))), cb325, kb325, Va325, Co325, Ar325⟩
    have Xt327 : Ext Z.heap h325 := (own_xt O0 E325)
    obtain ⟨cq328, kq328, qa328, qb328, qc328⟩ := isOf hZ325 e325 Ex325
    obtain ⟨_, _, ⟨T328, L328, k328, n328⟩, -, X328, ⟨Lc328, hQ328, l328, y328, z328⟩, st328⟩ := X325.virtualBack hx (y := (⟨"java/lang/String", "length", "()I"⟩ : MethodName)) (z := (⟨"java/lang/String", "length", "()I"⟩ : MethodName)) ho325 (mvT hZ325 (hw _ (List.mem_of_getElem? (i := 9) rfl))) (mvT hZ325 (hw _ (List.mem_of_getElem? (i := 10) rfl))) (notFace_of_selects (args := #[]) (mvT hZ325 (hw _ (List.mem_of_getElem? (i := 12) rfl)))) (mvT hZ325 (hw _ (List.mem_of_getElem? (i := 12) rfl))) (mvT hZ325 (hw _ (List.mem_of_getElem? (i := 11) rfl))) (by decide) (own_lenP (W := 0) hZ325 (own_wl hw) (hw _ (List.mem_of_getElem? (i := 3) rfl)) Sc325 (by decide) (S_C.ext Xt327) P5 (by decide) (by decide)) qa328 qc328 (g := (mkF m 35 #[.val (.int p1), .val (.int p2), .val (.int p3), .val (.int p4), .val (.int bb), .val (.ref ca325), .unset, .unset, .unset, .unset, .unset, .unset] [(.ref ca325)])) rfl (by rw [hml]; rfl) (Steps.refl _) (argsL := []) (rest := []) (lenOf own_pd2 rfl) rfl (by show 2 * 0 + _ ≤ _; exact Nat.le_of_eq rfl) (hb hby at_35) (fun _ _ => ⟨rfl, e325, (by decide : 2 + 0 ≤ _), (by decide : 36 + 0 ≤ _)⟩)
    dsimp only [Pt.U, Pt.locs, Pt.cells, Pt.slots] at X328 l328 y328 z328 st328 hQ328
    subst l328 y328 z328
    obtain ⟨rfl, rfl, e328⟩ := hQ328
    have Na329 := Fr.app N0 (Fr.nil n0)
    have go330 : ∀ t, Steps p.tables e below (T328.setTop (mkF m 38 #[.val (.int p1), .val (.int p2), .val (.int p3), .val (.int p4), .val (.int bb), .val (.ref ca325), .unset, .unset, .unset, .unset, .unset, .unset] [(.int (Int32.ofNat ([(68 : Int32), (105 : Int32), (115 : Int32), (99 : Int32), (114 : Int32), (101 : Int32), (116 : Int32), (101 : Int32)] : List Int32).length))])) t → Steps p.tables e below (s₁.setTop (mkF m 0 #[.val (.int p1), .val (.int p2), .val (.int p3), .val (.int p4), .unset, .unset, .unset, .unset, .unset, .unset, .unset, .unset] [])) t := fun t kt => go321 t (by
        show Steps p.tables e below (s₁.setTop (mkF m 10 #[.val (.int p1), .val (.int p2), .val (.int p3), .val (.int p4), .val (.int bb), .unset, .unset, .unset, .unset, .unset, .unset, .unset] [(.int bb)])) _
        refine XS.ifNo X0.here hx rfl (hb hby at_10) rfl ((if0 _ _).trans (teq hc322).2) ?_
        show Steps p.tables e below (s₁.setTop (mkF m 13 #[.val (.int p1), .val (.int p2), .val (.int p3), .val (.int p4), .val (.int bb), .unset, .unset, .unset, .unset, .unset, .unset, .unset] [])) _
        refine st325 _ ?_
        show Steps p.tables e below (T325.setTop (mkF m 15 #[.val (.int p1), .val (.int p2), .val (.int p3), .val (.int p4), .val (.int bb), .unset, .unset, .unset, .unset, .unset, .unset, .unset] [(.ref ca325)])) _
        refine XS.goto X325.here hx rfl (pc0 := 15) (pc' := 31) rfl (hb hby at_15) (by decide) (by decide) ?_
        show Steps p.tables e below (T325.setTop (mkF m 31 #[.val (.int p1), .val (.int p2), .val (.int p3), .val (.int p4), .val (.int bb), .unset, .unset, .unset, .unset, .unset, .unset, .unset] [(.ref ca325)])) _
        refine XS.astore X325.here hx rfl (hb hby at_31) rfl rfl (l' := #[.val (.int p1), .val (.int p2), .val (.int p3), .val (.int p4), .val (.int bb), .val (.ref ca325), .unset, .unset, .unset, .unset, .unset, .unset]) rfl ?_
        show Steps p.tables e below (T325.setTop (mkF m 33 #[.val (.int p1), .val (.int p2), .val (.int p3), .val (.int p4), .val (.int bb), .val (.ref ca325), .unset, .unset, .unset, .unset, .unset, .unset] [])) _
        refine XS.aload X325.here hx rfl (hb hby at_33) rfl rfl ?_
        show Steps p.tables e below (T325.setTop (mkF m 35 #[.val (.int p1), .val (.int p2), .val (.int p3), .val (.int p4), .val (.int bb), .val (.ref ca325), .unset, .unset, .unset, .unset, .unset, .unset] [(.ref ca325)])) _
        refine st328.trans ?_
        exact kt)
    obtain ⟨le, nn, pp, cc, hgo332, go332⟩ : ∃ (le : Int32) (nn : Int32) (pp : Int32) (cc : Int32), (¬ cc < 0 ∧ ¬ (255 : Int32) < cc) ∧ ∀ t, Steps p.tables e below (T328.setTop (mkF m 70 #[.val (.int p1), .val (.int p2), .val (.int p3), .val (.int p4), .val (.int bb), .val (.ref ca325), .val (.int le), .val (.int nn), .val (.int pp), .val (.int cc), .unset, .unset] [])) t → Steps p.tables e below (s₁.setTop (mkF m 0 #[.val (.int p1), .val (.int p2), .val (.int p3), .val (.int p4), .unset, .unset, .unset, .unset, .unset, .unset, .unset, .unset] [])) t := by
      have go331 : ∀ t, Steps p.tables e below (T328.setTop (mkF m 70 #[.val (.int p1), .val (.int p2), .val (.int p3), .val (.int p4), .val (.int bb), .val (.ref ca325), .val (.int (Int32.ofNat ([(68 : Int32), (105 : Int32), (115 : Int32), (99 : Int32), (114 : Int32), (101 : Int32), (116 : Int32), (101 : Int32)] : List Int32).length)), .val (.int (((Int32.ofNat ([(68 : Int32), (105 : Int32), (115 : Int32), (99 : Int32), (114 : Int32), (101 : Int32), (116 : Int32), (101 : Int32)] : List Int32).length) - (1 : Int32)) + ((p4 &&& (2147483647 : Int32)) % (3 : Int32)))), .val (.int ((p2 &&& (2147483647 : Int32)) % (10 : Int32))), .val (.int ((p3 &&& (255 : Int32)).toUInt32.toUInt16.toUInt32.toInt32)), .unset, .unset] [])) t → Steps p.tables e below (s₁.setTop (mkF m 0 #[.val (.int p1), .val (.int p2), .val (.int p3), .val (.int p4), .unset, .unset, .unset, .unset, .unset, .unset, .unset, .unset] [])) t := fun t kt => go330 t (by
          show Steps p.tables e below (T328.setTop (mkF m 38 #[.val (.int p1), .val (.int p2), .val (.int p3), .val (.int p4), .val (.int bb), .val (.ref ca325), .unset, .unset, .unset, .unset, .unset, .unset] [(.int (Int32.ofNat ([(68 : Int32), (105 : Int32), (115 : Int32), (99 : Int32), (114 : Int32), (101 : Int32), (116 : Int32), (101 : Int32)] : List Int32).length))])) _
          refine XS.istore X328.here hx rfl (hb hby at_38) rfl (l' := #[.val (.int p1), .val (.int p2), .val (.int p3), .val (.int p4), .val (.int bb), .val (.ref ca325), .val (.int (Int32.ofNat ([(68 : Int32), (105 : Int32), (115 : Int32), (99 : Int32), (114 : Int32), (101 : Int32), (116 : Int32), (101 : Int32)] : List Int32).length)), .unset, .unset, .unset, .unset, .unset]) rfl ?_
          show Steps p.tables e below (T328.setTop (mkF m 40 #[.val (.int p1), .val (.int p2), .val (.int p3), .val (.int p4), .val (.int bb), .val (.ref ca325), .val (.int (Int32.ofNat ([(68 : Int32), (105 : Int32), (115 : Int32), (99 : Int32), (114 : Int32), (101 : Int32), (116 : Int32), (101 : Int32)] : List Int32).length)), .unset, .unset, .unset, .unset, .unset] [])) _
          refine XS.iload X328.here hx rfl (hb hby at_40) rfl ?_
          show Steps p.tables e below (T328.setTop (mkF m 42 #[.val (.int p1), .val (.int p2), .val (.int p3), .val (.int p4), .val (.int bb), .val (.ref ca325), .val (.int (Int32.ofNat ([(68 : Int32), (105 : Int32), (115 : Int32), (99 : Int32), (114 : Int32), (101 : Int32), (116 : Int32), (101 : Int32)] : List Int32).length)), .unset, .unset, .unset, .unset, .unset] [(.int (Int32.ofNat ([(68 : Int32), (105 : Int32), (115 : Int32), (99 : Int32), (114 : Int32), (101 : Int32), (116 : Int32), (101 : Int32)] : List Int32).length))])) _
          refine XS.iconst X328.here hx rfl (hb hby at_42) ?_
          show Steps p.tables e below (T328.setTop (mkF m 43 #[.val (.int p1), .val (.int p2), .val (.int p3), .val (.int p4), .val (.int bb), .val (.ref ca325), .val (.int (Int32.ofNat ([(68 : Int32), (105 : Int32), (115 : Int32), (99 : Int32), (114 : Int32), (101 : Int32), (116 : Int32), (101 : Int32)] : List Int32).length)), .unset, .unset, .unset, .unset, .unset] [(.int (1 : Int32)), (.int (Int32.ofNat ([(68 : Int32), (105 : Int32), (115 : Int32), (99 : Int32), (114 : Int32), (101 : Int32), (116 : Int32), (101 : Int32)] : List Int32).length))])) _
          refine XS.isub X328.here hx rfl (hb hby at_43) rfl ?_
          show Steps p.tables e below (T328.setTop (mkF m 44 #[.val (.int p1), .val (.int p2), .val (.int p3), .val (.int p4), .val (.int bb), .val (.ref ca325), .val (.int (Int32.ofNat ([(68 : Int32), (105 : Int32), (115 : Int32), (99 : Int32), (114 : Int32), (101 : Int32), (116 : Int32), (101 : Int32)] : List Int32).length)), .unset, .unset, .unset, .unset, .unset] [(.int ((Int32.ofNat ([(68 : Int32), (105 : Int32), (115 : Int32), (99 : Int32), (114 : Int32), (101 : Int32), (116 : Int32), (101 : Int32)] : List Int32).length) - (1 : Int32)))])) _
          refine XS.iloadN X328.here hx rfl (hb hby at_44) rfl ?_
          show Steps p.tables e below (T328.setTop (mkF m 45 #[.val (.int p1), .val (.int p2), .val (.int p3), .val (.int p4), .val (.int bb), .val (.ref ca325), .val (.int (Int32.ofNat ([(68 : Int32), (105 : Int32), (115 : Int32), (99 : Int32), (114 : Int32), (101 : Int32), (116 : Int32), (101 : Int32)] : List Int32).length)), .unset, .unset, .unset, .unset, .unset] [(.int p4), (.int ((Int32.ofNat ([(68 : Int32), (105 : Int32), (115 : Int32), (99 : Int32), (114 : Int32), (101 : Int32), (116 : Int32), (101 : Int32)] : List Int32).length) - (1 : Int32)))])) _
          refine X328.ldcInt hx ho325 (mvT hZ325 (hw _ (List.mem_of_getElem? (i := 0) rfl))) (g := (mkF m 45 #[.val (.int p1), .val (.int p2), .val (.int p3), .val (.int p4), .val (.int bb), .val (.ref ca325), .val (.int (Int32.ofNat ([(68 : Int32), (105 : Int32), (115 : Int32), (99 : Int32), (114 : Int32), (101 : Int32), (116 : Int32), (101 : Int32)] : List Int32).length)), .unset, .unset, .unset, .unset, .unset] [(.int p4), (.int ((Int32.ofNat ([(68 : Int32), (105 : Int32), (115 : Int32), (99 : Int32), (114 : Int32), (101 : Int32), (116 : Int32), (101 : Int32)] : List Int32).length) - (1 : Int32)))])) rfl (hb hby at_45) _ ?_
          show Steps p.tables e below (T328.setTop (mkF m 47 #[.val (.int p1), .val (.int p2), .val (.int p3), .val (.int p4), .val (.int bb), .val (.ref ca325), .val (.int (Int32.ofNat ([(68 : Int32), (105 : Int32), (115 : Int32), (99 : Int32), (114 : Int32), (101 : Int32), (116 : Int32), (101 : Int32)] : List Int32).length)), .unset, .unset, .unset, .unset, .unset] [(.int (2147483647 : Int32)), (.int p4), (.int ((Int32.ofNat ([(68 : Int32), (105 : Int32), (115 : Int32), (99 : Int32), (114 : Int32), (101 : Int32), (116 : Int32), (101 : Int32)] : List Int32).length) - (1 : Int32)))])) _
          refine XS.iand X328.here hx rfl (hb hby at_47) rfl ?_
          show Steps p.tables e below (T328.setTop (mkF m 48 #[.val (.int p1), .val (.int p2), .val (.int p3), .val (.int p4), .val (.int bb), .val (.ref ca325), .val (.int (Int32.ofNat ([(68 : Int32), (105 : Int32), (115 : Int32), (99 : Int32), (114 : Int32), (101 : Int32), (116 : Int32), (101 : Int32)] : List Int32).length)), .unset, .unset, .unset, .unset, .unset] [(.int (p4 &&& (2147483647 : Int32))), (.int ((Int32.ofNat ([(68 : Int32), (105 : Int32), (115 : Int32), (99 : Int32), (114 : Int32), (101 : Int32), (116 : Int32), (101 : Int32)] : List Int32).length) - (1 : Int32)))])) _
          refine XS.iconst X328.here hx rfl (hb hby at_48) ?_
          show Steps p.tables e below (T328.setTop (mkF m 49 #[.val (.int p1), .val (.int p2), .val (.int p3), .val (.int p4), .val (.int bb), .val (.ref ca325), .val (.int (Int32.ofNat ([(68 : Int32), (105 : Int32), (115 : Int32), (99 : Int32), (114 : Int32), (101 : Int32), (116 : Int32), (101 : Int32)] : List Int32).length)), .unset, .unset, .unset, .unset, .unset] [(.int (3 : Int32)), (.int (p4 &&& (2147483647 : Int32))), (.int ((Int32.ofNat ([(68 : Int32), (105 : Int32), (115 : Int32), (99 : Int32), (114 : Int32), (101 : Int32), (116 : Int32), (101 : Int32)] : List Int32).length) - (1 : Int32)))])) _
          refine Jvm.RoadKit.iremM X328 hx rfl (hb hby at_49) rfl (by decide) ?_
          show Steps p.tables e below (T328.setTop (mkF m 50 #[.val (.int p1), .val (.int p2), .val (.int p3), .val (.int p4), .val (.int bb), .val (.ref ca325), .val (.int (Int32.ofNat ([(68 : Int32), (105 : Int32), (115 : Int32), (99 : Int32), (114 : Int32), (101 : Int32), (116 : Int32), (101 : Int32)] : List Int32).length)), .unset, .unset, .unset, .unset, .unset] [(.int ((p4 &&& (2147483647 : Int32)) % (3 : Int32))), (.int ((Int32.ofNat ([(68 : Int32), (105 : Int32), (115 : Int32), (99 : Int32), (114 : Int32), (101 : Int32), (116 : Int32), (101 : Int32)] : List Int32).length) - (1 : Int32)))])) _
          refine XS.iadd X328.here hx rfl (hb hby at_50) rfl ?_
          show Steps p.tables e below (T328.setTop (mkF m 51 #[.val (.int p1), .val (.int p2), .val (.int p3), .val (.int p4), .val (.int bb), .val (.ref ca325), .val (.int (Int32.ofNat ([(68 : Int32), (105 : Int32), (115 : Int32), (99 : Int32), (114 : Int32), (101 : Int32), (116 : Int32), (101 : Int32)] : List Int32).length)), .unset, .unset, .unset, .unset, .unset] [(.int (((Int32.ofNat ([(68 : Int32), (105 : Int32), (115 : Int32), (99 : Int32), (114 : Int32), (101 : Int32), (116 : Int32), (101 : Int32)] : List Int32).length) - (1 : Int32)) + ((p4 &&& (2147483647 : Int32)) % (3 : Int32))))])) _
          refine XS.istore X328.here hx rfl (hb hby at_51) rfl (l' := #[.val (.int p1), .val (.int p2), .val (.int p3), .val (.int p4), .val (.int bb), .val (.ref ca325), .val (.int (Int32.ofNat ([(68 : Int32), (105 : Int32), (115 : Int32), (99 : Int32), (114 : Int32), (101 : Int32), (116 : Int32), (101 : Int32)] : List Int32).length)), .val (.int (((Int32.ofNat ([(68 : Int32), (105 : Int32), (115 : Int32), (99 : Int32), (114 : Int32), (101 : Int32), (116 : Int32), (101 : Int32)] : List Int32).length) - (1 : Int32)) + ((p4 &&& (2147483647 : Int32)) % (3 : Int32)))), .unset, .unset, .unset, .unset]) rfl ?_
          show Steps p.tables e below (T328.setTop (mkF m 53 #[.val (.int p1), .val (.int p2), .val (.int p3), .val (.int p4), .val (.int bb), .val (.ref ca325), .val (.int (Int32.ofNat ([(68 : Int32), (105 : Int32), (115 : Int32), (99 : Int32), (114 : Int32), (101 : Int32), (116 : Int32), (101 : Int32)] : List Int32).length)), .val (.int (((Int32.ofNat ([(68 : Int32), (105 : Int32), (115 : Int32), (99 : Int32), (114 : Int32), (101 : Int32), (116 : Int32), (101 : Int32)] : List Int32).length) - (1 : Int32)) + ((p4 &&& (2147483647 : Int32)) % (3 : Int32)))), .unset, .unset, .unset, .unset] [])) _
          refine XS.iloadN X328.here hx rfl (hb hby at_53) rfl ?_
          show Steps p.tables e below (T328.setTop (mkF m 54 #[.val (.int p1), .val (.int p2), .val (.int p3), .val (.int p4), .val (.int bb), .val (.ref ca325), .val (.int (Int32.ofNat ([(68 : Int32), (105 : Int32), (115 : Int32), (99 : Int32), (114 : Int32), (101 : Int32), (116 : Int32), (101 : Int32)] : List Int32).length)), .val (.int (((Int32.ofNat ([(68 : Int32), (105 : Int32), (115 : Int32), (99 : Int32), (114 : Int32), (101 : Int32), (116 : Int32), (101 : Int32)] : List Int32).length) - (1 : Int32)) + ((p4 &&& (2147483647 : Int32)) % (3 : Int32)))), .unset, .unset, .unset, .unset] [(.int p2)])) _
          refine X328.ldcInt hx ho325 (mvT hZ325 (hw _ (List.mem_of_getElem? (i := 0) rfl))) (g := (mkF m 54 #[.val (.int p1), .val (.int p2), .val (.int p3), .val (.int p4), .val (.int bb), .val (.ref ca325), .val (.int (Int32.ofNat ([(68 : Int32), (105 : Int32), (115 : Int32), (99 : Int32), (114 : Int32), (101 : Int32), (116 : Int32), (101 : Int32)] : List Int32).length)), .val (.int (((Int32.ofNat ([(68 : Int32), (105 : Int32), (115 : Int32), (99 : Int32), (114 : Int32), (101 : Int32), (116 : Int32), (101 : Int32)] : List Int32).length) - (1 : Int32)) + ((p4 &&& (2147483647 : Int32)) % (3 : Int32)))), .unset, .unset, .unset, .unset] [(.int p2)])) rfl (hb hby at_54) _ ?_
          show Steps p.tables e below (T328.setTop (mkF m 56 #[.val (.int p1), .val (.int p2), .val (.int p3), .val (.int p4), .val (.int bb), .val (.ref ca325), .val (.int (Int32.ofNat ([(68 : Int32), (105 : Int32), (115 : Int32), (99 : Int32), (114 : Int32), (101 : Int32), (116 : Int32), (101 : Int32)] : List Int32).length)), .val (.int (((Int32.ofNat ([(68 : Int32), (105 : Int32), (115 : Int32), (99 : Int32), (114 : Int32), (101 : Int32), (116 : Int32), (101 : Int32)] : List Int32).length) - (1 : Int32)) + ((p4 &&& (2147483647 : Int32)) % (3 : Int32)))), .unset, .unset, .unset, .unset] [(.int (2147483647 : Int32)), (.int p2)])) _
          refine XS.iand X328.here hx rfl (hb hby at_56) rfl ?_
          show Steps p.tables e below (T328.setTop (mkF m 57 #[.val (.int p1), .val (.int p2), .val (.int p3), .val (.int p4), .val (.int bb), .val (.ref ca325), .val (.int (Int32.ofNat ([(68 : Int32), (105 : Int32), (115 : Int32), (99 : Int32), (114 : Int32), (101 : Int32), (116 : Int32), (101 : Int32)] : List Int32).length)), .val (.int (((Int32.ofNat ([(68 : Int32), (105 : Int32), (115 : Int32), (99 : Int32), (114 : Int32), (101 : Int32), (116 : Int32), (101 : Int32)] : List Int32).length) - (1 : Int32)) + ((p4 &&& (2147483647 : Int32)) % (3 : Int32)))), .unset, .unset, .unset, .unset] [(.int (p2 &&& (2147483647 : Int32)))])) _
          refine XS.bipush X328.here hx rfl (hb hby at_57) ?_
          show Steps p.tables e below (T328.setTop (mkF m 59 #[.val (.int p1), .val (.int p2), .val (.int p3), .val (.int p4), .val (.int bb), .val (.ref ca325), .val (.int (Int32.ofNat ([(68 : Int32), (105 : Int32), (115 : Int32), (99 : Int32), (114 : Int32), (101 : Int32), (116 : Int32), (101 : Int32)] : List Int32).length)), .val (.int (((Int32.ofNat ([(68 : Int32), (105 : Int32), (115 : Int32), (99 : Int32), (114 : Int32), (101 : Int32), (116 : Int32), (101 : Int32)] : List Int32).length) - (1 : Int32)) + ((p4 &&& (2147483647 : Int32)) % (3 : Int32)))), .unset, .unset, .unset, .unset] [(.int (10 : Int32)), (.int (p2 &&& (2147483647 : Int32)))])) _
          refine Jvm.RoadKit.iremM X328 hx rfl (hb hby at_59) rfl (by decide) ?_
          show Steps p.tables e below (T328.setTop (mkF m 60 #[.val (.int p1), .val (.int p2), .val (.int p3), .val (.int p4), .val (.int bb), .val (.ref ca325), .val (.int (Int32.ofNat ([(68 : Int32), (105 : Int32), (115 : Int32), (99 : Int32), (114 : Int32), (101 : Int32), (116 : Int32), (101 : Int32)] : List Int32).length)), .val (.int (((Int32.ofNat ([(68 : Int32), (105 : Int32), (115 : Int32), (99 : Int32), (114 : Int32), (101 : Int32), (116 : Int32), (101 : Int32)] : List Int32).length) - (1 : Int32)) + ((p4 &&& (2147483647 : Int32)) % (3 : Int32)))), .unset, .unset, .unset, .unset] [(.int ((p2 &&& (2147483647 : Int32)) % (10 : Int32)))])) _
          refine XS.istore X328.here hx rfl (hb hby at_60) rfl (l' := #[.val (.int p1), .val (.int p2), .val (.int p3), .val (.int p4), .val (.int bb), .val (.ref ca325), .val (.int (Int32.ofNat ([(68 : Int32), (105 : Int32), (115 : Int32), (99 : Int32), (114 : Int32), (101 : Int32), (116 : Int32), (101 : Int32)] : List Int32).length)), .val (.int (((Int32.ofNat ([(68 : Int32), (105 : Int32), (115 : Int32), (99 : Int32), (114 : Int32), (101 : Int32), (116 : Int32), (101 : Int32)] : List Int32).length) - (1 : Int32)) + ((p4 &&& (2147483647 : Int32)) % (3 : Int32)))), .val (.int ((p2 &&& (2147483647 : Int32)) % (10 : Int32))), .unset, .unset, .unset]) rfl ?_
          show Steps p.tables e below (T328.setTop (mkF m 62 #[.val (.int p1), .val (.int p2), .val (.int p3), .val (.int p4), .val (.int bb), .val (.ref ca325), .val (.int (Int32.ofNat ([(68 : Int32), (105 : Int32), (115 : Int32), (99 : Int32), (114 : Int32), (101 : Int32), (116 : Int32), (101 : Int32)] : List Int32).length)), .val (.int (((Int32.ofNat ([(68 : Int32), (105 : Int32), (115 : Int32), (99 : Int32), (114 : Int32), (101 : Int32), (116 : Int32), (101 : Int32)] : List Int32).length) - (1 : Int32)) + ((p4 &&& (2147483647 : Int32)) % (3 : Int32)))), .val (.int ((p2 &&& (2147483647 : Int32)) % (10 : Int32))), .unset, .unset, .unset] [])) _
          refine XS.iloadN X328.here hx rfl (hb hby at_62) rfl ?_
          show Steps p.tables e below (T328.setTop (mkF m 63 #[.val (.int p1), .val (.int p2), .val (.int p3), .val (.int p4), .val (.int bb), .val (.ref ca325), .val (.int (Int32.ofNat ([(68 : Int32), (105 : Int32), (115 : Int32), (99 : Int32), (114 : Int32), (101 : Int32), (116 : Int32), (101 : Int32)] : List Int32).length)), .val (.int (((Int32.ofNat ([(68 : Int32), (105 : Int32), (115 : Int32), (99 : Int32), (114 : Int32), (101 : Int32), (116 : Int32), (101 : Int32)] : List Int32).length) - (1 : Int32)) + ((p4 &&& (2147483647 : Int32)) % (3 : Int32)))), .val (.int ((p2 &&& (2147483647 : Int32)) % (10 : Int32))), .unset, .unset, .unset] [(.int p3)])) _
          refine XS.sipush X328.here hx rfl (hb hby at_63) ?_
          show Steps p.tables e below (T328.setTop (mkF m 66 #[.val (.int p1), .val (.int p2), .val (.int p3), .val (.int p4), .val (.int bb), .val (.ref ca325), .val (.int (Int32.ofNat ([(68 : Int32), (105 : Int32), (115 : Int32), (99 : Int32), (114 : Int32), (101 : Int32), (116 : Int32), (101 : Int32)] : List Int32).length)), .val (.int (((Int32.ofNat ([(68 : Int32), (105 : Int32), (115 : Int32), (99 : Int32), (114 : Int32), (101 : Int32), (116 : Int32), (101 : Int32)] : List Int32).length) - (1 : Int32)) + ((p4 &&& (2147483647 : Int32)) % (3 : Int32)))), .val (.int ((p2 &&& (2147483647 : Int32)) % (10 : Int32))), .unset, .unset, .unset] [(.int (255 : Int32)), (.int p3)])) _
          refine XS.iand X328.here hx rfl (hb hby at_66) rfl ?_
          show Steps p.tables e below (T328.setTop (mkF m 67 #[.val (.int p1), .val (.int p2), .val (.int p3), .val (.int p4), .val (.int bb), .val (.ref ca325), .val (.int (Int32.ofNat ([(68 : Int32), (105 : Int32), (115 : Int32), (99 : Int32), (114 : Int32), (101 : Int32), (116 : Int32), (101 : Int32)] : List Int32).length)), .val (.int (((Int32.ofNat ([(68 : Int32), (105 : Int32), (115 : Int32), (99 : Int32), (114 : Int32), (101 : Int32), (116 : Int32), (101 : Int32)] : List Int32).length) - (1 : Int32)) + ((p4 &&& (2147483647 : Int32)) % (3 : Int32)))), .val (.int ((p2 &&& (2147483647 : Int32)) % (10 : Int32))), .unset, .unset, .unset] [(.int (p3 &&& (255 : Int32)))])) _
          refine XS.i2c X328.here hx rfl (hb hby at_67) rfl ?_
          show Steps p.tables e below (T328.setTop (mkF m 68 #[.val (.int p1), .val (.int p2), .val (.int p3), .val (.int p4), .val (.int bb), .val (.ref ca325), .val (.int (Int32.ofNat ([(68 : Int32), (105 : Int32), (115 : Int32), (99 : Int32), (114 : Int32), (101 : Int32), (116 : Int32), (101 : Int32)] : List Int32).length)), .val (.int (((Int32.ofNat ([(68 : Int32), (105 : Int32), (115 : Int32), (99 : Int32), (114 : Int32), (101 : Int32), (116 : Int32), (101 : Int32)] : List Int32).length) - (1 : Int32)) + ((p4 &&& (2147483647 : Int32)) % (3 : Int32)))), .val (.int ((p2 &&& (2147483647 : Int32)) % (10 : Int32))), .unset, .unset, .unset] [(.int ((p3 &&& (255 : Int32)).toUInt32.toUInt16.toUInt32.toInt32))])) _
          refine XS.istore X328.here hx rfl (hb hby at_68) rfl (l' := #[.val (.int p1), .val (.int p2), .val (.int p3), .val (.int p4), .val (.int bb), .val (.ref ca325), .val (.int (Int32.ofNat ([(68 : Int32), (105 : Int32), (115 : Int32), (99 : Int32), (114 : Int32), (101 : Int32), (116 : Int32), (101 : Int32)] : List Int32).length)), .val (.int (((Int32.ofNat ([(68 : Int32), (105 : Int32), (115 : Int32), (99 : Int32), (114 : Int32), (101 : Int32), (116 : Int32), (101 : Int32)] : List Int32).length) - (1 : Int32)) + ((p4 &&& (2147483647 : Int32)) % (3 : Int32)))), .val (.int ((p2 &&& (2147483647 : Int32)) % (10 : Int32))), .val (.int ((p3 &&& (255 : Int32)).toUInt32.toUInt16.toUInt32.toInt32)), .unset, .unset]) rfl ?_
          exact kt)
      exact ⟨(Int32.ofNat ([(68 : Int32), (105 : Int32), (115 : Int32), (99 : Int32), (114 : Int32), (101 : Int32), (116 : Int32), (101 : Int32)] : List Int32).length), (((Int32.ofNat ([(68 : Int32), (105 : Int32), (115 : Int32), (99 : Int32), (114 : Int32), (101 : Int32), (116 : Int32), (101 : Int32)] : List Int32).length) - (1 : Int32)) + ((p4 &&& (2147483647 : Int32)) % (3 : Int32))), ((p2 &&& (2147483647 : Int32)) % (10 : Int32)), ((p3 &&& (255 : Int32)).toUInt32.toUInt16.toUInt32.toInt32), own_d255 _, go331⟩
    obtain ⟨_, _, ⟨T333, L333, k333, n333⟩, -, X333, ⟨Lc333, hQ333, l333, y333, z333⟩, st333⟩ := Jvm.LawKit.callS X328 hx (y := (⟨"com/example/spatial_at_rest/spatialatrest/InterpolationNamedPinLaw", "make", "(Ljava/lang/String;IIC)Ljava/lang/String;"⟩ : MethodName)) ho325 (mvT hZ325 (hw _ (List.mem_of_getElem? (i := 22) rfl))) (mvT hZ325 (hw _ (List.mem_of_getElem? (i := 23) rfl))) (mvT hZ325 (hw _ (List.mem_of_getElem? (i := 24) rfl))) (mvT hZ325 (hw _ (List.mem_of_getElem? (i := 25) rfl))) (by decide) (backOf (W := 0) (own_mk l Z a0 hw [] ca325 nn pp cc w2 ([(68 : Int32), (105 : Int32), (115 : Int32), (99 : Int32), (114 : Int32), (101 : Int32), (116 : Int32), (101 : Int32)] : List Int32) fm h325 n0 (Nat.le_trans Z0 E325.1) Sc325 (by decide) (S_C.ext Xt327) P5 (S_F.ext Xt327) rf hgo332) hZ325 (hw _ (List.mem_of_getElem? (i := 25) rfl)) (hw _ (List.mem_of_getElem? (i := 24) rfl)) (by decide) (by decide)) (g := (mkF m 78 #[.val (.int p1), .val (.int p2), .val (.int p3), .val (.int p4), .val (.int bb), .val (.ref ca325), .val (.int le), .val (.int nn), .val (.int pp), .val (.int cc), .unset, .unset] [(.int cc), (.int pp), (.int nn), (.ref ca325)])) rfl (by rw [hml]; rfl) (argsL := [(.ref ca325), (.int nn), (.int pp), (.int cc)]) (rest := []) (lenOf own_pd6 rfl) rfl (by show 2 * 0 + _ ≤ _; exact Nat.le_of_eq rfl) (hb hby at_78) (fun _ _ => ⟨rfl, e328, (by decide : 2 + 3 ≤ _), (by decide : 36 + 22 ≤ _)⟩)
    dsimp only [Pt.U, Pt.locs, Pt.cells, Pt.slots] at X333 l333 y333 z333 st333 hQ333
    subst l333 y333 z333
    obtain ⟨b333, ds333, rfl, Nq333, E333, Str333, hl333⟩ := hQ333
    have Na334 := Fr.app Na329 Nq333
    have CR335 : CHr Z own_EL s.vm h0 T325.vm T333.heap := CR326.trans (CHr.ext E333 CR326.1)
    obtain ⟨ca336, T336, h336, kq336, cb336, kb336, X336, e336, E336, hS336, hk336, hZ336, ho336, Ex336, Co336, Va336, Ar336, la336, lb336, hC336, Li336, sf336, st336⟩ := ldcCH X333 hx hZ325 ho325 (hw _ (List.mem_of_getElem? (i := 1) rfl)) (own_sa hw) rfl hS325 (Nat.le_trans hk325 E333.1) (own_ew hw) (by decide) CR335.1 (vs := (([(68 : Int32), (105 : Int32), (115 : Int32), (99 : Int32), (114 : Int32), (101 : Int32), (116 : Int32), (101 : Int32)] : List Int32).map (fun c => c.toInt8.toInt32)).map Value.int) (z := (8 : Int32)) ⟨by decide, by decide +kernel⟩ (by decide) (by decide) (g := (mkF m 88 #[.val (.int p1), .val (.int p2), .val (.int p3), .val (.int p4), .val (.int bb), .val (.ref ca325), .val (.int le), .val (.int nn), .val (.int pp), .val (.int cc), .val (.ref b333), .val .null] [(.ref b333)])) rfl (hb hby at_88) (n := 32) (by decide) (by decide) (by decide) (by decide)
    have CR337 : CHr Z own_EL s.vm h0 T336.vm h336 := CR335.trans hC336
    have Sc336 : own_Str Z h336 ca336 ([(68 : Int32), (105 : Int32), (115 : Int32), (99 : Int32), (114 : Int32), (101 : Int32), (116 : Int32), (101 : Int32)] : List Int32) := ⟨Ex336, (own_cS (by decide) (own_cS (by decide) (own_cS (by decide) (own_cS (by decide) (own_cS (by decide) (own_cS (by decide) (own_cS (by decide) (own_cS (by decide) own_c0)))))))), cb336, kb336, Va336, Co336, Ar336⟩
    have go338 : ∀ t, Steps p.tables e below (T336.setTop (mkF m 90 #[.val (.int p1), .val (.int p2), .val (.int p3), .val (.int p4), .val (.int bb), .val (.ref ca325), .val (.int le), .val (.int nn), .val (.int pp), .val (.int cc), .val (.ref b333), .val .null] [(.ref ca336), (.ref b333)])) t → Steps p.tables e below (s₁.setTop (mkF m 0 #[.val (.int p1), .val (.int p2), .val (.int p3), .val (.int p4), .unset, .unset, .unset, .unset, .unset, .unset, .unset, .unset] [])) t := fun t kt => go332 t (by
        show Steps p.tables e below (T328.setTop (mkF m 70 #[.val (.int p1), .val (.int p2), .val (.int p3), .val (.int p4), .val (.int bb), .val (.ref ca325), .val (.int le), .val (.int nn), .val (.int pp), .val (.int cc), .unset, .unset] [])) _
        refine XS.aload X328.here hx rfl (hb hby at_70) rfl rfl ?_
        show Steps p.tables e below (T328.setTop (mkF m 72 #[.val (.int p1), .val (.int p2), .val (.int p3), .val (.int p4), .val (.int bb), .val (.ref ca325), .val (.int le), .val (.int nn), .val (.int pp), .val (.int cc), .unset, .unset] [(.ref ca325)])) _
        refine XS.iload X328.here hx rfl (hb hby at_72) rfl ?_
        show Steps p.tables e below (T328.setTop (mkF m 74 #[.val (.int p1), .val (.int p2), .val (.int p3), .val (.int p4), .val (.int bb), .val (.ref ca325), .val (.int le), .val (.int nn), .val (.int pp), .val (.int cc), .unset, .unset] [(.int nn), (.ref ca325)])) _
        refine XS.iload X328.here hx rfl (hb hby at_74) rfl ?_
        show Steps p.tables e below (T328.setTop (mkF m 76 #[.val (.int p1), .val (.int p2), .val (.int p3), .val (.int p4), .val (.int bb), .val (.ref ca325), .val (.int le), .val (.int nn), .val (.int pp), .val (.int cc), .unset, .unset] [(.int pp), (.int nn), (.ref ca325)])) _
        refine XS.iload X328.here hx rfl (hb hby at_76) rfl ?_
        show Steps p.tables e below (T328.setTop (mkF m 78 #[.val (.int p1), .val (.int p2), .val (.int p3), .val (.int p4), .val (.int bb), .val (.ref ca325), .val (.int le), .val (.int nn), .val (.int pp), .val (.int cc), .unset, .unset] [(.int cc), (.int pp), (.int nn), (.ref ca325)])) _
        refine st333 _ ?_
        show Steps p.tables e below (T333.setTop (mkF m 81 #[.val (.int p1), .val (.int p2), .val (.int p3), .val (.int p4), .val (.int bb), .val (.ref ca325), .val (.int le), .val (.int nn), .val (.int pp), .val (.int cc), .unset, .unset] [(.ref b333)])) _
        refine XS.astore X333.here hx rfl (hb hby at_81) rfl rfl (l' := #[.val (.int p1), .val (.int p2), .val (.int p3), .val (.int p4), .val (.int bb), .val (.ref ca325), .val (.int le), .val (.int nn), .val (.int pp), .val (.int cc), .val (.ref b333), .unset]) rfl ?_
        show Steps p.tables e below (T333.setTop (mkF m 83 #[.val (.int p1), .val (.int p2), .val (.int p3), .val (.int p4), .val (.int bb), .val (.ref ca325), .val (.int le), .val (.int nn), .val (.int pp), .val (.int cc), .val (.ref b333), .unset] [])) _
        refine XS.aconstNull X333.here hx rfl (hb hby at_83) ?_
        show Steps p.tables e below (T333.setTop (mkF m 84 #[.val (.int p1), .val (.int p2), .val (.int p3), .val (.int p4), .val (.int bb), .val (.ref ca325), .val (.int le), .val (.int nn), .val (.int pp), .val (.int cc), .val (.ref b333), .unset] [.null])) _
        refine XS.astore X333.here hx rfl (hb hby at_84) rfl rfl (l' := #[.val (.int p1), .val (.int p2), .val (.int p3), .val (.int p4), .val (.int bb), .val (.ref ca325), .val (.int le), .val (.int nn), .val (.int pp), .val (.int cc), .val (.ref b333), .val .null]) rfl ?_
        show Steps p.tables e below (T333.setTop (mkF m 86 #[.val (.int p1), .val (.int p2), .val (.int p3), .val (.int p4), .val (.int bb), .val (.ref ca325), .val (.int le), .val (.int nn), .val (.int pp), .val (.int cc), .val (.ref b333), .val .null] [])) _
        refine XS.aload X333.here hx rfl (hb hby at_86) rfl rfl ?_
        show Steps p.tables e below (T333.setTop (mkF m 88 #[.val (.int p1), .val (.int p2), .val (.int p3), .val (.int p4), .val (.int bb), .val (.ref ca325), .val (.int le), .val (.int nn), .val (.int pp), .val (.int cc), .val (.ref b333), .val .null] [(.ref b333)])) _
        refine st336 _ ?_
        exact kt)
    have Xt339 : Ext Z.heap T333.heap := (own_xt Xt327 E333)
    have Xt340 : Ext Z.heap h336 := (own_xt Xt339 E336)
    obtain ⟨cq341, kq341, qa341, qb341, qc341⟩ := isOf hZ336 e336 (Str333.1.ext E336)
    obtain ⟨_, _, ⟨T341, L341, k341, n341⟩, -, X341, ⟨Lc341, hQ341, l341, y341, z341⟩, st341⟩ := X336.virtualBack hx (y := (⟨"java/lang/String", "equals", "(Ljava/lang/Object;)Z"⟩ : MethodName)) (z := (⟨"java/lang/String", "equals", "(Ljava/lang/Object;)Z"⟩ : MethodName)) ho336 (mvT hZ336 (hw _ (List.mem_of_getElem? (i := 73) rfl))) (mvT hZ336 (hw _ (List.mem_of_getElem? (i := 74) rfl))) (notFace_of_selects (args := #[]) (mvT hZ336 (hw _ (List.mem_of_getElem? (i := 76) rfl)))) (mvT hZ336 (hw _ (List.mem_of_getElem? (i := 76) rfl))) (mvT hZ336 (hw _ (List.mem_of_getElem? (i := 75) rfl))) (by decide) (own_eq (W := 0) hZ336 (own_wq hw) (hw _ (List.mem_of_getElem? (i := 3) rfl)) (Str333.ext E336) hl333 Sc336 (by decide) (S_C.ext Xt340) P5 (by decide) (by decide)) qa341 qc341 (g := (mkF m 90 #[.val (.int p1), .val (.int p2), .val (.int p3), .val (.int p4), .val (.int bb), .val (.ref ca325), .val (.int le), .val (.int nn), .val (.int pp), .val (.int cc), .val (.ref b333), .val .null] [(.ref ca336), (.ref b333)])) rfl (by rw [hml]; rfl) (Steps.refl _) (argsL := [(.ref ca336)]) (rest := []) (lenOf own_pd1 rfl) rfl (by show 2 * 0 + _ ≤ _; exact Nat.le_of_eq rfl) (hb hby at_90) (fun _ _ => ⟨rfl, e336, (by decide : 7 + 0 ≤ _), (by decide : 94 + 0 ≤ _)⟩)
    dsimp only [Pt.U, Pt.locs, Pt.cells, Pt.slots] at X341 l341 y341 z341 st341 hQ341
    subst l341 y341 z341
    obtain ⟨hcase341, rfl, e341⟩ := hQ341
    have Na342 := Fr.app Na334 (Fr.nil n0)
    rcases hcase341 with ⟨rfl, hq341⟩ | ⟨rfl, hq341⟩
    · obtain ⟨T343, X343, e343, st343⟩ := getS2 X341 hx hZ336 ho336 (host := "") (Or.inl (hw _ (List.mem_of_getElem? (i := 110) rfl))) Via.refl e341 (S0.ext Xt340) (g := (mkF m 96 #[.val (.int p1), .val (.int p2), .val (.int p3), .val (.int p4), .val (.int bb), .val (.ref ca325), .val (.int le), .val (.int nn), .val (.int pp), .val (.int cc), .val (.ref b333), .val .null] [])) rfl (hb hby at_96)
      have Gr345 : h0.size ≤ T333.heap.size := Nat.le_trans E325.1 E333.1
      have Gr344 : h0.size ≤ h336.size := Nat.le_trans Gr345 E336.1
      obtain ⟨_, _, ⟨T346, L346, k346, n346⟩, -, X346, ⟨Lc346, hQ346, l346, y346, z346⟩, st346⟩ := Jvm.LawKit.callS X343 hx (y := (⟨"com/example/spatial_at_rest/spatialatrest/Interpolation", "named", "(Ljava/lang/String;)Lcom/example/spatial_at_rest/spatialatrest/Interpolation;"⟩ : MethodName)) ho336 (mvT hZ336 (hw _ (List.mem_of_getElem? (i := 84) rfl))) (mvT hZ336 (hw _ (List.mem_of_getElem? (i := 85) rfl))) (mvT hZ336 (hw _ (List.mem_of_getElem? (i := 86) rfl))) (mvT hZ336 (hw _ (List.mem_of_getElem? (i := 87) rfl))) (by decide) (backOf (W := 0) (own_named l Z a0 hw [] va en0 en1 en2 kA tx0 tx1 tx2 w2 b333 (.ref en0) ds333 h336 n0 (Nat.le_trans Z0 Gr344) Xt340 S_V EV AV S_C P5 F0 T0 F1 T1 F2 T2 (Str333.ext E336) hl333 (by unfold own_nm; rw [if_pos hq341])) hZ336 (hw _ (List.mem_of_getElem? (i := 87) rfl)) (hw _ (List.mem_of_getElem? (i := 86) rfl)) (by decide) (by decide)) (g := (mkF m 139 #[.val (.int p1), .val (.int p2), .val (.int p3), .val (.int p4), .val (.int bb), .val (.ref ca325), .val (.int le), .val (.int nn), .val (.int pp), .val (.int cc), .val (.ref b333), .val (.ref en0)] [(.ref b333)])) rfl (by rw [hml]; rfl) (argsL := [(.ref b333)]) (rest := []) (lenOf own_pd7 rfl) rfl (by show 2 * 0 + _ ≤ _; exact Nat.le_of_eq rfl) (hb hby at_139) (fun _ _ => ⟨rfl, e343, (by decide : 7 + 1 ≤ _), (by decide : 94 + 3 ≤ _)⟩)
      dsimp only [Pt.U, Pt.locs, Pt.cells, Pt.slots] at X346 l346 y346 z346 st346 hQ346
      subst l346 y346 z346
      obtain ⟨rfl, Nq346, E346⟩ := hQ346
      have Na347 := Fr.app Na342 Nq346
      have CR348 : CHr Z own_EL s.vm h0 T336.vm T346.heap := CR337.trans (CHr.ext E346 CR337.1)
      have CRz : CHr Z own_EL s.vm h0 T346.vm T346.heap := CR348.trans (CHv.at X346 hZ336 (own_ew hw) CR348.1)
      obtain ⟨fs, hr, hrun, hended, hRW⟩ := X346.leaveW hS336 ((Nat.le_trans hk336 E346.1)) (v := some (.int (1 : Int32))) (fun h => by rw [Bd.returns] at h; cases h)
      refine ⟨_, _, pre0 _ (go338 _ ?_), hrun, hended, _, _, rfl, ?_, ?_, own_rew hRW (by decide) (by decide)⟩
      · show Steps p.tables e below (T336.setTop (mkF m 90 #[.val (.int p1), .val (.int p2), .val (.int p3), .val (.int p4), .val (.int bb), .val (.ref ca325), .val (.int le), .val (.int nn), .val (.int pp), .val (.int cc), .val (.ref b333), .val .null] [(.ref ca336), (.ref b333)])) _
        refine st341.trans ?_
        show Steps p.tables e below (T341.setTop (mkF m 93 #[.val (.int p1), .val (.int p2), .val (.int p3), .val (.int p4), .val (.int bb), .val (.ref ca325), .val (.int le), .val (.int nn), .val (.int pp), .val (.int cc), .val (.ref b333), .val .null] [(.int (1 : Int32))])) _
        refine XS.ifNo X341.here hx rfl (hb hby at_93) rfl ((if0 _ _).trans (feq (by decide)).1) ?_
        show Steps p.tables e below (T341.setTop (mkF m 96 #[.val (.int p1), .val (.int p2), .val (.int p3), .val (.int p4), .val (.int bb), .val (.ref ca325), .val (.int le), .val (.int nn), .val (.int pp), .val (.int cc), .val (.ref b333), .val .null] [])) _
        refine st343 _ ?_
        show Steps p.tables e below (T343.setTop (mkF m 99 #[.val (.int p1), .val (.int p2), .val (.int p3), .val (.int p4), .val (.int bb), .val (.ref ca325), .val (.int le), .val (.int nn), .val (.int pp), .val (.int cc), .val (.ref b333), .val .null] [(.ref en0)])) _
        refine XS.astore X343.here hx rfl (hb hby at_99) rfl rfl (l' := #[.val (.int p1), .val (.int p2), .val (.int p3), .val (.int p4), .val (.int bb), .val (.ref ca325), .val (.int le), .val (.int nn), .val (.int pp), .val (.int cc), .val (.ref b333), .val (.ref en0)]) rfl ?_
        show Steps p.tables e below (T343.setTop (mkF m 101 #[.val (.int p1), .val (.int p2), .val (.int p3), .val (.int p4), .val (.int bb), .val (.ref ca325), .val (.int le), .val (.int nn), .val (.int pp), .val (.int cc), .val (.ref b333), .val (.ref en0)] [])) _
        refine XS.goto X343.here hx rfl (pc0 := 101) (pc' := 137) rfl (hb hby at_101) (by decide) (by decide) ?_
        show Steps p.tables e below (T343.setTop (mkF m 137 #[.val (.int p1), .val (.int p2), .val (.int p3), .val (.int p4), .val (.int bb), .val (.ref ca325), .val (.int le), .val (.int nn), .val (.int pp), .val (.int cc), .val (.ref b333), .val (.ref en0)] [])) _
        refine XS.aload X343.here hx rfl (hb hby at_137) rfl rfl ?_
        show Steps p.tables e below (T343.setTop (mkF m 139 #[.val (.int p1), .val (.int p2), .val (.int p3), .val (.int p4), .val (.int bb), .val (.ref ca325), .val (.int le), .val (.int nn), .val (.int pp), .val (.int cc), .val (.ref b333), .val (.ref en0)] [(.ref b333)])) _
        refine st346 _ ?_
        show Steps p.tables e below (T346.setTop (mkF m 142 #[.val (.int p1), .val (.int p2), .val (.int p3), .val (.int p4), .val (.int bb), .val (.ref ca325), .val (.int le), .val (.int nn), .val (.int pp), .val (.int cc), .val (.ref b333), .val (.ref en0)] [(.ref en0)])) _
        refine XS.aload X346.here hx rfl (hb hby at_142) rfl rfl ?_
        show Steps p.tables e below (T346.setTop (mkF m 144 #[.val (.int p1), .val (.int p2), .val (.int p3), .val (.int p4), .val (.int bb), .val (.ref ca325), .val (.int le), .val (.int nn), .val (.int pp), .val (.int cc), .val (.ref b333), .val (.ref en0)] [(.ref en0), (.ref en0)])) _
        refine Jvm.RoadKit.acmp (g := (mkF m 144 #[.val (.int p1), .val (.int p2), .val (.int p3), .val (.int p4), .val (.int bb), .val (.ref ca325), .val (.int le), .val (.int nn), .val (.int pp), .val (.int cc), .val (.ref b333), .val (.ref en0)] [(.ref en0), (.ref en0)])) X346 hx rfl rfl rfl (pc0 := 144) (pc' := 147) (same := true) rfl (hb hby at_144) rfl (decide_eq_true rfl) (by decide) (by decide) ?_
        show Steps p.tables e below (T346.setTop (mkF m 147 #[.val (.int p1), .val (.int p2), .val (.int p3), .val (.int p4), .val (.int bb), .val (.ref ca325), .val (.int le), .val (.int nn), .val (.int pp), .val (.int cc), .val (.ref b333), .val (.ref en0)] [])) _
        refine XS.iconst X346.here hx rfl (hb hby at_147) ?_
        show Steps p.tables e below (T346.setTop (mkF m 148 #[.val (.int p1), .val (.int p2), .val (.int p3), .val (.int p4), .val (.int bb), .val (.ref ca325), .val (.int le), .val (.int nn), .val (.int pp), .val (.int cc), .val (.ref b333), .val (.ref en0)] [(.int (1 : Int32))])) _
        refine XS.goto X346.here hx rfl (pc0 := 148) (pc' := 152) rfl (hb hby at_148) (by decide) (by decide) ?_
        show Steps p.tables e below (T346.setTop (mkF m 152 #[.val (.int p1), .val (.int p2), .val (.int p3), .val (.int p4), .val (.int bb), .val (.ref ca325), .val (.int le), .val (.int nn), .val (.int pp), .val (.int cc), .val (.ref b333), .val (.ref en0)] [(.int (1 : Int32))])) _
        exact retN X346 hx (t := .boolean) Bd.returns (by simp) (hb hby at_152) hr
      · show own_Ql n0 _ T346.heap _
        exact ⟨rfl, Na347⟩
      · show CHr Z own_EL s.vm s.heap T346.vm T346.heap
        rw [hh]; exact CRz
    · obtain ⟨ca349, T349, h349, kq349, cb349, kb349, X349, e349, E349, hS349, hk349, hZ349, ho349, Ex349, Co349, Va349, Ar349, la349, lb349, hC349, Li349, sf349, st349⟩ := ldcCH X341 hx hZ336 ho336 (hw _ (List.mem_of_getElem? (i := 82) rfl)) (own_sa hw) e341 hS336 hk336 (own_ew hw) (by decide) CR337.1 (vs := (([(83 : Int32), (116 : Int32), (101 : Int32), (112 : Int32)] : List Int32).map (fun c => c.toInt8.toInt32)).map Value.int) (z := (4 : Int32)) ⟨by decide, by decide +kernel⟩ (by decide) (by decide) (g := (mkF m 106 #[.val (.int p1), .val (.int p2), .val (.int p3), .val (.int p4), .val (.int bb), .val (.ref ca325), .val (.int le), .val (.int nn), .val (.int pp), .val (.int cc), .val (.ref b333), .val .null] [(.ref b333)])) rfl (hb hby at_106) (n := 16) (by decide) (by decide) (by decide) (by decide)
      have CR350 : CHr Z own_EL s.vm h0 T349.vm h349 := CR337.trans hC349
      have Sc349 : own_Str Z h349 ca349 ([(83 : Int32), (116 : Int32), (101 : Int32), (112 : Int32)] : List Int32) := ⟨Ex349, (own_cS (by decide) (own_cS (by decide) (own_cS (by decide) (own_cS (by decide) own_c0)))), cb349, kb349, Va349, Co349, Ar349⟩
      have go351 : ∀ t, Steps p.tables e below (T349.setTop (mkF m 108 #[.val (.int p1), .val (.int p2), .val (.int p3), .val (.int p4), .val (.int bb), .val (.ref ca325), .val (.int le), .val (.int nn), .val (.int pp), .val (.int cc), .val (.ref b333), .val .null] [(.ref ca349), (.ref b333)])) t → Steps p.tables e below (s₁.setTop (mkF m 0 #[.val (.int p1), .val (.int p2), .val (.int p3), .val (.int p4), .unset, .unset, .unset, .unset, .unset, .unset, .unset, .unset] [])) t := fun t kt => go338 t (by
          show Steps p.tables e below (T336.setTop (mkF m 90 #[.val (.int p1), .val (.int p2), .val (.int p3), .val (.int p4), .val (.int bb), .val (.ref ca325), .val (.int le), .val (.int nn), .val (.int pp), .val (.int cc), .val (.ref b333), .val .null] [(.ref ca336), (.ref b333)])) _
          refine st341.trans ?_
          show Steps p.tables e below (T341.setTop (mkF m 93 #[.val (.int p1), .val (.int p2), .val (.int p3), .val (.int p4), .val (.int bb), .val (.ref ca325), .val (.int le), .val (.int nn), .val (.int pp), .val (.int cc), .val (.ref b333), .val .null] [(.int (0 : Int32))])) _
          refine XS.ifYes X341.here hx rfl (pc0 := 93) (pc' := 104) rfl (hb hby at_93) rfl ((if0 _ _).trans (teq rfl).1) (by decide) (by decide) ?_
          show Steps p.tables e below (T341.setTop (mkF m 104 #[.val (.int p1), .val (.int p2), .val (.int p3), .val (.int p4), .val (.int bb), .val (.ref ca325), .val (.int le), .val (.int nn), .val (.int pp), .val (.int cc), .val (.ref b333), .val .null] [])) _
          refine XS.aload X341.here hx rfl (hb hby at_104) rfl rfl ?_
          show Steps p.tables e below (T341.setTop (mkF m 106 #[.val (.int p1), .val (.int p2), .val (.int p3), .val (.int p4), .val (.int bb), .val (.ref ca325), .val (.int le), .val (.int nn), .val (.int pp), .val (.int cc), .val (.ref b333), .val .null] [(.ref b333)])) _
          refine st349 _ ?_
          exact kt)
      have Xt352 : Ext T333.heap h349 := (own_xt E336 E349)
      have Xt353 : Ext Z.heap h349 := (own_xt Xt340 E349)
      obtain ⟨cq354, kq354, qa354, qb354, qc354⟩ := isOf hZ349 e349 (Str333.1.ext Xt352)
      obtain ⟨_, _, ⟨T354, L354, k354, n354⟩, -, X354, ⟨Lc354, hQ354, l354, y354, z354⟩, st354⟩ := X349.virtualBack hx (y := (⟨"java/lang/String", "equals", "(Ljava/lang/Object;)Z"⟩ : MethodName)) (z := (⟨"java/lang/String", "equals", "(Ljava/lang/Object;)Z"⟩ : MethodName)) ho349 (mvT hZ349 (hw _ (List.mem_of_getElem? (i := 73) rfl))) (mvT hZ349 (hw _ (List.mem_of_getElem? (i := 74) rfl))) (notFace_of_selects (args := #[]) (mvT hZ349 (hw _ (List.mem_of_getElem? (i := 76) rfl)))) (mvT hZ349 (hw _ (List.mem_of_getElem? (i := 76) rfl))) (mvT hZ349 (hw _ (List.mem_of_getElem? (i := 75) rfl))) (by decide) (own_eq (W := 0) hZ349 (own_wq hw) (hw _ (List.mem_of_getElem? (i := 3) rfl)) (Str333.ext Xt352) hl333 Sc349 (by decide) (S_C.ext Xt353) P5 (by decide) (by decide)) qa354 qc354 (g := (mkF m 108 #[.val (.int p1), .val (.int p2), .val (.int p3), .val (.int p4), .val (.int bb), .val (.ref ca325), .val (.int le), .val (.int nn), .val (.int pp), .val (.int cc), .val (.ref b333), .val .null] [(.ref ca349), (.ref b333)])) rfl (by rw [hml]; rfl) (Steps.refl _) (argsL := [(.ref ca349)]) (rest := []) (lenOf own_pd1 rfl) rfl (by show 2 * 0 + _ ≤ _; exact Nat.le_of_eq rfl) (hb hby at_108) (fun _ _ => ⟨rfl, e349, (by decide : 9 + 0 ≤ _), (by decide : 114 + 0 ≤ _)⟩)
      dsimp only [Pt.U, Pt.locs, Pt.cells, Pt.slots] at X354 l354 y354 z354 st354 hQ354
      subst l354 y354 z354
      obtain ⟨hcase354, rfl, e354⟩ := hQ354
      have Na355 := Fr.app Na342 (Fr.nil n0)
      rcases hcase354 with ⟨rfl, hq354⟩ | ⟨rfl, hq354⟩
      · obtain ⟨T356, X356, e356, st356⟩ := getS2 X354 hx hZ349 ho349 (host := "") (Or.inl (hw _ (List.mem_of_getElem? (i := 109) rfl))) Via.refl e354 (S1.ext Xt353) (g := (mkF m 114 #[.val (.int p1), .val (.int p2), .val (.int p3), .val (.int p4), .val (.int bb), .val (.ref ca325), .val (.int le), .val (.int nn), .val (.int pp), .val (.int cc), .val (.ref b333), .val .null] [])) rfl (hb hby at_114)
        have Gr359 : h0.size ≤ T333.heap.size := Nat.le_trans E325.1 E333.1
        have Gr358 : h0.size ≤ h336.size := Nat.le_trans Gr359 E336.1
        have Gr357 : h0.size ≤ h349.size := Nat.le_trans Gr358 E349.1
        obtain ⟨_, _, ⟨T360, L360, k360, n360⟩, -, X360, ⟨Lc360, hQ360, l360, y360, z360⟩, st360⟩ := Jvm.LawKit.callS X356 hx (y := (⟨"com/example/spatial_at_rest/spatialatrest/Interpolation", "named", "(Ljava/lang/String;)Lcom/example/spatial_at_rest/spatialatrest/Interpolation;"⟩ : MethodName)) ho349 (mvT hZ349 (hw _ (List.mem_of_getElem? (i := 84) rfl))) (mvT hZ349 (hw _ (List.mem_of_getElem? (i := 85) rfl))) (mvT hZ349 (hw _ (List.mem_of_getElem? (i := 86) rfl))) (mvT hZ349 (hw _ (List.mem_of_getElem? (i := 87) rfl))) (by decide) (backOf (W := 0) (own_named l Z a0 hw [] va en0 en1 en2 kA tx0 tx1 tx2 w2 b333 (.ref en1) ds333 h349 n0 (Nat.le_trans Z0 Gr357) Xt353 S_V EV AV S_C P5 F0 T0 F1 T1 F2 T2 (Str333.ext Xt352) hl333 (by unfold own_nm; rw [if_neg hq341, if_pos hq354])) hZ349 (hw _ (List.mem_of_getElem? (i := 87) rfl)) (hw _ (List.mem_of_getElem? (i := 86) rfl)) (by decide) (by decide)) (g := (mkF m 139 #[.val (.int p1), .val (.int p2), .val (.int p3), .val (.int p4), .val (.int bb), .val (.ref ca325), .val (.int le), .val (.int nn), .val (.int pp), .val (.int cc), .val (.ref b333), .val (.ref en1)] [(.ref b333)])) rfl (by rw [hml]; rfl) (argsL := [(.ref b333)]) (rest := []) (lenOf own_pd7 rfl) rfl (by show 2 * 0 + _ ≤ _; exact Nat.le_of_eq rfl) (hb hby at_139) (fun _ _ => ⟨rfl, e356, (by decide : 9 + 1 ≤ _), (by decide : 114 + 3 ≤ _)⟩)
        dsimp only [Pt.U, Pt.locs, Pt.cells, Pt.slots] at X360 l360 y360 z360 st360 hQ360
        subst l360 y360 z360
        obtain ⟨rfl, Nq360, E360⟩ := hQ360
        have Na361 := Fr.app Na355 Nq360
        have CR362 : CHr Z own_EL s.vm h0 T349.vm T360.heap := CR350.trans (CHr.ext E360 CR350.1)
        have CRz : CHr Z own_EL s.vm h0 T360.vm T360.heap := CR362.trans (CHv.at X360 hZ349 (own_ew hw) CR362.1)
        obtain ⟨fs, hr, hrun, hended, hRW⟩ := X360.leaveW hS349 ((Nat.le_trans hk349 E360.1)) (v := some (.int (1 : Int32))) (fun h => by rw [Bd.returns] at h; cases h)
        refine ⟨_, _, pre0 _ (go351 _ ?_), hrun, hended, _, _, rfl, ?_, ?_, own_rew hRW (by decide) (by decide)⟩
        · show Steps p.tables e below (T349.setTop (mkF m 108 #[.val (.int p1), .val (.int p2), .val (.int p3), .val (.int p4), .val (.int bb), .val (.ref ca325), .val (.int le), .val (.int nn), .val (.int pp), .val (.int cc), .val (.ref b333), .val .null] [(.ref ca349), (.ref b333)])) _
          refine st354.trans ?_
          show Steps p.tables e below (T354.setTop (mkF m 111 #[.val (.int p1), .val (.int p2), .val (.int p3), .val (.int p4), .val (.int bb), .val (.ref ca325), .val (.int le), .val (.int nn), .val (.int pp), .val (.int cc), .val (.ref b333), .val .null] [(.int (1 : Int32))])) _
          refine XS.ifNo X354.here hx rfl (hb hby at_111) rfl ((if0 _ _).trans (feq (by decide)).1) ?_
          show Steps p.tables e below (T354.setTop (mkF m 114 #[.val (.int p1), .val (.int p2), .val (.int p3), .val (.int p4), .val (.int bb), .val (.ref ca325), .val (.int le), .val (.int nn), .val (.int pp), .val (.int cc), .val (.ref b333), .val .null] [])) _
          refine st356 _ ?_
          show Steps p.tables e below (T356.setTop (mkF m 117 #[.val (.int p1), .val (.int p2), .val (.int p3), .val (.int p4), .val (.int bb), .val (.ref ca325), .val (.int le), .val (.int nn), .val (.int pp), .val (.int cc), .val (.ref b333), .val .null] [(.ref en1)])) _
          refine XS.astore X356.here hx rfl (hb hby at_117) rfl rfl (l' := #[.val (.int p1), .val (.int p2), .val (.int p3), .val (.int p4), .val (.int bb), .val (.ref ca325), .val (.int le), .val (.int nn), .val (.int pp), .val (.int cc), .val (.ref b333), .val (.ref en1)]) rfl ?_
          show Steps p.tables e below (T356.setTop (mkF m 119 #[.val (.int p1), .val (.int p2), .val (.int p3), .val (.int p4), .val (.int bb), .val (.ref ca325), .val (.int le), .val (.int nn), .val (.int pp), .val (.int cc), .val (.ref b333), .val (.ref en1)] [])) _
          refine XS.goto X356.here hx rfl (pc0 := 119) (pc' := 137) rfl (hb hby at_119) (by decide) (by decide) ?_
          show Steps p.tables e below (T356.setTop (mkF m 137 #[.val (.int p1), .val (.int p2), .val (.int p3), .val (.int p4), .val (.int bb), .val (.ref ca325), .val (.int le), .val (.int nn), .val (.int pp), .val (.int cc), .val (.ref b333), .val (.ref en1)] [])) _
          refine XS.aload X356.here hx rfl (hb hby at_137) rfl rfl ?_
          show Steps p.tables e below (T356.setTop (mkF m 139 #[.val (.int p1), .val (.int p2), .val (.int p3), .val (.int p4), .val (.int bb), .val (.ref ca325), .val (.int le), .val (.int nn), .val (.int pp), .val (.int cc), .val (.ref b333), .val (.ref en1)] [(.ref b333)])) _
          refine st360 _ ?_
          show Steps p.tables e below (T360.setTop (mkF m 142 #[.val (.int p1), .val (.int p2), .val (.int p3), .val (.int p4), .val (.int bb), .val (.ref ca325), .val (.int le), .val (.int nn), .val (.int pp), .val (.int cc), .val (.ref b333), .val (.ref en1)] [(.ref en1)])) _
          refine XS.aload X360.here hx rfl (hb hby at_142) rfl rfl ?_
          show Steps p.tables e below (T360.setTop (mkF m 144 #[.val (.int p1), .val (.int p2), .val (.int p3), .val (.int p4), .val (.int bb), .val (.ref ca325), .val (.int le), .val (.int nn), .val (.int pp), .val (.int cc), .val (.ref b333), .val (.ref en1)] [(.ref en1), (.ref en1)])) _
          refine Jvm.RoadKit.acmp (g := (mkF m 144 #[.val (.int p1), .val (.int p2), .val (.int p3), .val (.int p4), .val (.int bb), .val (.ref ca325), .val (.int le), .val (.int nn), .val (.int pp), .val (.int cc), .val (.ref b333), .val (.ref en1)] [(.ref en1), (.ref en1)])) X360 hx rfl rfl rfl (pc0 := 144) (pc' := 147) (same := true) rfl (hb hby at_144) rfl (decide_eq_true rfl) (by decide) (by decide) ?_
          show Steps p.tables e below (T360.setTop (mkF m 147 #[.val (.int p1), .val (.int p2), .val (.int p3), .val (.int p4), .val (.int bb), .val (.ref ca325), .val (.int le), .val (.int nn), .val (.int pp), .val (.int cc), .val (.ref b333), .val (.ref en1)] [])) _
          refine XS.iconst X360.here hx rfl (hb hby at_147) ?_
          show Steps p.tables e below (T360.setTop (mkF m 148 #[.val (.int p1), .val (.int p2), .val (.int p3), .val (.int p4), .val (.int bb), .val (.ref ca325), .val (.int le), .val (.int nn), .val (.int pp), .val (.int cc), .val (.ref b333), .val (.ref en1)] [(.int (1 : Int32))])) _
          refine XS.goto X360.here hx rfl (pc0 := 148) (pc' := 152) rfl (hb hby at_148) (by decide) (by decide) ?_
          show Steps p.tables e below (T360.setTop (mkF m 152 #[.val (.int p1), .val (.int p2), .val (.int p3), .val (.int p4), .val (.int bb), .val (.ref ca325), .val (.int le), .val (.int nn), .val (.int pp), .val (.int cc), .val (.ref b333), .val (.ref en1)] [(.int (1 : Int32))])) _
          exact retN X360 hx (t := .boolean) Bd.returns (by simp) (hb hby at_152) hr
        · show own_Ql n0 _ T360.heap _
          exact ⟨rfl, Na361⟩
        · show CHr Z own_EL s.vm s.heap T360.vm T360.heap
          rw [hh]; exact CRz
      · obtain ⟨ca363, T363, h363, kq363, cb363, kb363, X363, e363, E363, hS363, hk363, hZ363, ho363, Ex363, Co363, Va363, Ar363, la363, lb363, hC363, Li363, sf363, st363⟩ := ldcCH X354 hx hZ349 ho349 (hw _ (List.mem_of_getElem? (i := 83) rfl)) (own_sa hw) e354 hS349 hk349 (own_ew hw) (by decide) CR350.1 (vs := (([(76 : Int32), (105 : Int32), (110 : Int32), (101 : Int32), (97 : Int32), (114 : Int32)] : List Int32).map (fun c => c.toInt8.toInt32)).map Value.int) (z := (6 : Int32)) ⟨by decide, by decide +kernel⟩ (by decide) (by decide) (g := (mkF m 124 #[.val (.int p1), .val (.int p2), .val (.int p3), .val (.int p4), .val (.int bb), .val (.ref ca325), .val (.int le), .val (.int nn), .val (.int pp), .val (.int cc), .val (.ref b333), .val .null] [(.ref b333)])) rfl (hb hby at_124) (n := 24) (by decide) (by decide) (by decide) (by decide)
        have CR364 : CHr Z own_EL s.vm h0 T363.vm h363 := CR350.trans hC363
        have Sc363 : own_Str Z h363 ca363 ([(76 : Int32), (105 : Int32), (110 : Int32), (101 : Int32), (97 : Int32), (114 : Int32)] : List Int32) := ⟨Ex363, (own_cS (by decide) (own_cS (by decide) (own_cS (by decide) (own_cS (by decide) (own_cS (by decide) (own_cS (by decide) own_c0)))))), cb363, kb363, Va363, Co363, Ar363⟩
        have go365 : ∀ t, Steps p.tables e below (T363.setTop (mkF m 126 #[.val (.int p1), .val (.int p2), .val (.int p3), .val (.int p4), .val (.int bb), .val (.ref ca325), .val (.int le), .val (.int nn), .val (.int pp), .val (.int cc), .val (.ref b333), .val .null] [(.ref ca363), (.ref b333)])) t → Steps p.tables e below (s₁.setTop (mkF m 0 #[.val (.int p1), .val (.int p2), .val (.int p3), .val (.int p4), .unset, .unset, .unset, .unset, .unset, .unset, .unset, .unset] [])) t := fun t kt => go351 t (by
            show Steps p.tables e below (T349.setTop (mkF m 108 #[.val (.int p1), .val (.int p2), .val (.int p3), .val (.int p4), .val (.int bb), .val (.ref ca325), .val (.int le), .val (.int nn), .val (.int pp), .val (.int cc), .val (.ref b333), .val .null] [(.ref ca349), (.ref b333)])) _
            refine st354.trans ?_
            show Steps p.tables e below (T354.setTop (mkF m 111 #[.val (.int p1), .val (.int p2), .val (.int p3), .val (.int p4), .val (.int bb), .val (.ref ca325), .val (.int le), .val (.int nn), .val (.int pp), .val (.int cc), .val (.ref b333), .val .null] [(.int (0 : Int32))])) _
            refine XS.ifYes X354.here hx rfl (pc0 := 111) (pc' := 122) rfl (hb hby at_111) rfl ((if0 _ _).trans (teq rfl).1) (by decide) (by decide) ?_
            show Steps p.tables e below (T354.setTop (mkF m 122 #[.val (.int p1), .val (.int p2), .val (.int p3), .val (.int p4), .val (.int bb), .val (.ref ca325), .val (.int le), .val (.int nn), .val (.int pp), .val (.int cc), .val (.ref b333), .val .null] [])) _
            refine XS.aload X354.here hx rfl (hb hby at_122) rfl rfl ?_
            show Steps p.tables e below (T354.setTop (mkF m 124 #[.val (.int p1), .val (.int p2), .val (.int p3), .val (.int p4), .val (.int bb), .val (.ref ca325), .val (.int le), .val (.int nn), .val (.int pp), .val (.int cc), .val (.ref b333), .val .null] [(.ref b333)])) _
            refine st363 _ ?_
            exact kt)
        have Xt366 : Ext T333.heap h363 := (own_xt Xt352 E363)
        have Xt367 : Ext Z.heap h363 := (own_xt Xt353 E363)
        obtain ⟨cq368, kq368, qa368, qb368, qc368⟩ := isOf hZ363 e363 (Str333.1.ext Xt366)
        obtain ⟨_, _, ⟨T368, L368, k368, n368⟩, -, X368, ⟨Lc368, hQ368, l368, y368, z368⟩, st368⟩ := X363.virtualBack hx (y := (⟨"java/lang/String", "equals", "(Ljava/lang/Object;)Z"⟩ : MethodName)) (z := (⟨"java/lang/String", "equals", "(Ljava/lang/Object;)Z"⟩ : MethodName)) ho363 (mvT hZ363 (hw _ (List.mem_of_getElem? (i := 73) rfl))) (mvT hZ363 (hw _ (List.mem_of_getElem? (i := 74) rfl))) (notFace_of_selects (args := #[]) (mvT hZ363 (hw _ (List.mem_of_getElem? (i := 76) rfl)))) (mvT hZ363 (hw _ (List.mem_of_getElem? (i := 76) rfl))) (mvT hZ363 (hw _ (List.mem_of_getElem? (i := 75) rfl))) (by decide) (own_eq (W := 0) hZ363 (own_wq hw) (hw _ (List.mem_of_getElem? (i := 3) rfl)) (Str333.ext Xt366) hl333 Sc363 (by decide) (S_C.ext Xt367) P5 (by decide) (by decide)) qa368 qc368 (g := (mkF m 126 #[.val (.int p1), .val (.int p2), .val (.int p3), .val (.int p4), .val (.int bb), .val (.ref ca325), .val (.int le), .val (.int nn), .val (.int pp), .val (.int cc), .val (.ref b333), .val .null] [(.ref ca363), (.ref b333)])) rfl (by rw [hml]; rfl) (Steps.refl _) (argsL := [(.ref ca363)]) (rest := []) (lenOf own_pd1 rfl) rfl (by show 2 * 0 + _ ≤ _; exact Nat.le_of_eq rfl) (hb hby at_126) (fun _ _ => ⟨rfl, e363, (by decide : 11 + 0 ≤ _), (by decide : 142 + 0 ≤ _)⟩)
        dsimp only [Pt.U, Pt.locs, Pt.cells, Pt.slots] at X368 l368 y368 z368 st368 hQ368
        subst l368 y368 z368
        obtain ⟨hcase368, rfl, e368⟩ := hQ368
        have Na369 := Fr.app Na355 (Fr.nil n0)
        rcases hcase368 with ⟨rfl, hq368⟩ | ⟨rfl, hq368⟩
        · obtain ⟨T370, X370, e370, st370⟩ := getS2 X368 hx hZ363 ho363 (host := "") (Or.inl (hw _ (List.mem_of_getElem? (i := 111) rfl))) Via.refl e368 (S2.ext Xt367) (g := (mkF m 132 #[.val (.int p1), .val (.int p2), .val (.int p3), .val (.int p4), .val (.int bb), .val (.ref ca325), .val (.int le), .val (.int nn), .val (.int pp), .val (.int cc), .val (.ref b333), .val .null] [])) rfl (hb hby at_132)
          have Gr374 : h0.size ≤ T333.heap.size := Nat.le_trans E325.1 E333.1
          have Gr373 : h0.size ≤ h336.size := Nat.le_trans Gr374 E336.1
          have Gr372 : h0.size ≤ h349.size := Nat.le_trans Gr373 E349.1
          have Gr371 : h0.size ≤ h363.size := Nat.le_trans Gr372 E363.1
          obtain ⟨_, _, ⟨T375, L375, k375, n375⟩, -, X375, ⟨Lc375, hQ375, l375, y375, z375⟩, st375⟩ := Jvm.LawKit.callS X370 hx (y := (⟨"com/example/spatial_at_rest/spatialatrest/Interpolation", "named", "(Ljava/lang/String;)Lcom/example/spatial_at_rest/spatialatrest/Interpolation;"⟩ : MethodName)) ho363 (mvT hZ363 (hw _ (List.mem_of_getElem? (i := 84) rfl))) (mvT hZ363 (hw _ (List.mem_of_getElem? (i := 85) rfl))) (mvT hZ363 (hw _ (List.mem_of_getElem? (i := 86) rfl))) (mvT hZ363 (hw _ (List.mem_of_getElem? (i := 87) rfl))) (by decide) (backOf (W := 0) (own_named l Z a0 hw [] va en0 en1 en2 kA tx0 tx1 tx2 w2 b333 (.ref en2) ds333 h363 n0 (Nat.le_trans Z0 Gr371) Xt367 S_V EV AV S_C P5 F0 T0 F1 T1 F2 T2 (Str333.ext Xt366) hl333 (by unfold own_nm; rw [if_neg hq341, if_neg hq354, if_pos hq368])) hZ363 (hw _ (List.mem_of_getElem? (i := 87) rfl)) (hw _ (List.mem_of_getElem? (i := 86) rfl)) (by decide) (by decide)) (g := (mkF m 139 #[.val (.int p1), .val (.int p2), .val (.int p3), .val (.int p4), .val (.int bb), .val (.ref ca325), .val (.int le), .val (.int nn), .val (.int pp), .val (.int cc), .val (.ref b333), .val (.ref en2)] [(.ref b333)])) rfl (by rw [hml]; rfl) (argsL := [(.ref b333)]) (rest := []) (lenOf own_pd7 rfl) rfl (by show 2 * 0 + _ ≤ _; exact Nat.le_of_eq rfl) (hb hby at_139) (fun _ _ => ⟨rfl, e370, (by decide : 11 + 1 ≤ _), (by decide : 142 + 3 ≤ _)⟩)
          dsimp only [Pt.U, Pt.locs, Pt.cells, Pt.slots] at X375 l375 y375 z375 st375 hQ375
          subst l375 y375 z375
          obtain ⟨rfl, Nq375, E375⟩ := hQ375
          have Na376 := Fr.app Na369 Nq375
          have CR377 : CHr Z own_EL s.vm h0 T363.vm T375.heap := CR364.trans (CHr.ext E375 CR364.1)
          have CRz : CHr Z own_EL s.vm h0 T375.vm T375.heap := CR377.trans (CHv.at X375 hZ363 (own_ew hw) CR377.1)
          obtain ⟨fs, hr, hrun, hended, hRW⟩ := X375.leaveW hS363 ((Nat.le_trans hk363 E375.1)) (v := some (.int (1 : Int32))) (fun h => by rw [Bd.returns] at h; cases h)
          refine ⟨_, _, pre0 _ (go365 _ ?_), hrun, hended, _, _, rfl, ?_, ?_, own_rew hRW (by decide) (by decide)⟩
          · show Steps p.tables e below (T363.setTop (mkF m 126 #[.val (.int p1), .val (.int p2), .val (.int p3), .val (.int p4), .val (.int bb), .val (.ref ca325), .val (.int le), .val (.int nn), .val (.int pp), .val (.int cc), .val (.ref b333), .val .null] [(.ref ca363), (.ref b333)])) _
            refine st368.trans ?_
            show Steps p.tables e below (T368.setTop (mkF m 129 #[.val (.int p1), .val (.int p2), .val (.int p3), .val (.int p4), .val (.int bb), .val (.ref ca325), .val (.int le), .val (.int nn), .val (.int pp), .val (.int cc), .val (.ref b333), .val .null] [(.int (1 : Int32))])) _
            refine XS.ifNo X368.here hx rfl (hb hby at_129) rfl ((if0 _ _).trans (feq (by decide)).1) ?_
            show Steps p.tables e below (T368.setTop (mkF m 132 #[.val (.int p1), .val (.int p2), .val (.int p3), .val (.int p4), .val (.int bb), .val (.ref ca325), .val (.int le), .val (.int nn), .val (.int pp), .val (.int cc), .val (.ref b333), .val .null] [])) _
            refine st370 _ ?_
            show Steps p.tables e below (T370.setTop (mkF m 135 #[.val (.int p1), .val (.int p2), .val (.int p3), .val (.int p4), .val (.int bb), .val (.ref ca325), .val (.int le), .val (.int nn), .val (.int pp), .val (.int cc), .val (.ref b333), .val .null] [(.ref en2)])) _
            refine XS.astore X370.here hx rfl (hb hby at_135) rfl rfl (l' := #[.val (.int p1), .val (.int p2), .val (.int p3), .val (.int p4), .val (.int bb), .val (.ref ca325), .val (.int le), .val (.int nn), .val (.int pp), .val (.int cc), .val (.ref b333), .val (.ref en2)]) rfl ?_
            show Steps p.tables e below (T370.setTop (mkF m 137 #[.val (.int p1), .val (.int p2), .val (.int p3), .val (.int p4), .val (.int bb), .val (.ref ca325), .val (.int le), .val (.int nn), .val (.int pp), .val (.int cc), .val (.ref b333), .val (.ref en2)] [])) _
            refine XS.aload X370.here hx rfl (hb hby at_137) rfl rfl ?_
            show Steps p.tables e below (T370.setTop (mkF m 139 #[.val (.int p1), .val (.int p2), .val (.int p3), .val (.int p4), .val (.int bb), .val (.ref ca325), .val (.int le), .val (.int nn), .val (.int pp), .val (.int cc), .val (.ref b333), .val (.ref en2)] [(.ref b333)])) _
            refine st375 _ ?_
            show Steps p.tables e below (T375.setTop (mkF m 142 #[.val (.int p1), .val (.int p2), .val (.int p3), .val (.int p4), .val (.int bb), .val (.ref ca325), .val (.int le), .val (.int nn), .val (.int pp), .val (.int cc), .val (.ref b333), .val (.ref en2)] [(.ref en2)])) _
            refine XS.aload X375.here hx rfl (hb hby at_142) rfl rfl ?_
            show Steps p.tables e below (T375.setTop (mkF m 144 #[.val (.int p1), .val (.int p2), .val (.int p3), .val (.int p4), .val (.int bb), .val (.ref ca325), .val (.int le), .val (.int nn), .val (.int pp), .val (.int cc), .val (.ref b333), .val (.ref en2)] [(.ref en2), (.ref en2)])) _
            refine Jvm.RoadKit.acmp (g := (mkF m 144 #[.val (.int p1), .val (.int p2), .val (.int p3), .val (.int p4), .val (.int bb), .val (.ref ca325), .val (.int le), .val (.int nn), .val (.int pp), .val (.int cc), .val (.ref b333), .val (.ref en2)] [(.ref en2), (.ref en2)])) X375 hx rfl rfl rfl (pc0 := 144) (pc' := 147) (same := true) rfl (hb hby at_144) rfl (decide_eq_true rfl) (by decide) (by decide) ?_
            show Steps p.tables e below (T375.setTop (mkF m 147 #[.val (.int p1), .val (.int p2), .val (.int p3), .val (.int p4), .val (.int bb), .val (.ref ca325), .val (.int le), .val (.int nn), .val (.int pp), .val (.int cc), .val (.ref b333), .val (.ref en2)] [])) _
            refine XS.iconst X375.here hx rfl (hb hby at_147) ?_
            show Steps p.tables e below (T375.setTop (mkF m 148 #[.val (.int p1), .val (.int p2), .val (.int p3), .val (.int p4), .val (.int bb), .val (.ref ca325), .val (.int le), .val (.int nn), .val (.int pp), .val (.int cc), .val (.ref b333), .val (.ref en2)] [(.int (1 : Int32))])) _
            refine XS.goto X375.here hx rfl (pc0 := 148) (pc' := 152) rfl (hb hby at_148) (by decide) (by decide) ?_
            show Steps p.tables e below (T375.setTop (mkF m 152 #[.val (.int p1), .val (.int p2), .val (.int p3), .val (.int p4), .val (.int bb), .val (.ref ca325), .val (.int le), .val (.int nn), .val (.int pp), .val (.int cc), .val (.ref b333), .val (.ref en2)] [(.int (1 : Int32))])) _
            exact retN X375 hx (t := .boolean) Bd.returns (by simp) (hb hby at_152) hr
          · show own_Ql n0 _ T375.heap _
            exact ⟨rfl, Na376⟩
          · show CHr Z own_EL s.vm s.heap T375.vm T375.heap
            rw [hh]; exact CRz
        · have Gr381 : h0.size ≤ T333.heap.size := Nat.le_trans E325.1 E333.1
          have Gr380 : h0.size ≤ h336.size := Nat.le_trans Gr381 E336.1
          have Gr379 : h0.size ≤ h349.size := Nat.le_trans Gr380 E349.1
          have Gr378 : h0.size ≤ h363.size := Nat.le_trans Gr379 E363.1
          obtain ⟨_, _, ⟨T382, L382, k382, n382⟩, -, X382, ⟨Lc382, hQ382, l382, y382, z382⟩, st382⟩ := Jvm.LawKit.callS X368 hx (y := (⟨"com/example/spatial_at_rest/spatialatrest/Interpolation", "named", "(Ljava/lang/String;)Lcom/example/spatial_at_rest/spatialatrest/Interpolation;"⟩ : MethodName)) ho363 (mvT hZ363 (hw _ (List.mem_of_getElem? (i := 84) rfl))) (mvT hZ363 (hw _ (List.mem_of_getElem? (i := 85) rfl))) (mvT hZ363 (hw _ (List.mem_of_getElem? (i := 86) rfl))) (mvT hZ363 (hw _ (List.mem_of_getElem? (i := 87) rfl))) (by decide) (backOf (W := 0) (own_named l Z a0 hw [] va en0 en1 en2 kA tx0 tx1 tx2 w2 b333 .null ds333 h363 n0 (Nat.le_trans Z0 Gr378) Xt367 S_V EV AV S_C P5 F0 T0 F1 T1 F2 T2 (Str333.ext Xt366) hl333 (by unfold own_nm; rw [if_neg hq341, if_neg hq354, if_neg hq368])) hZ363 (hw _ (List.mem_of_getElem? (i := 87) rfl)) (hw _ (List.mem_of_getElem? (i := 86) rfl)) (by decide) (by decide)) (g := (mkF m 139 #[.val (.int p1), .val (.int p2), .val (.int p3), .val (.int p4), .val (.int bb), .val (.ref ca325), .val (.int le), .val (.int nn), .val (.int pp), .val (.int cc), .val (.ref b333), .val .null] [(.ref b333)])) rfl (by rw [hml]; rfl) (argsL := [(.ref b333)]) (rest := []) (lenOf own_pd7 rfl) rfl (by show 2 * 0 + _ ≤ _; exact Nat.le_of_eq rfl) (hb hby at_139) (fun _ _ => ⟨rfl, e368, (by decide : 11 + 1 ≤ _), (by decide : 142 + 3 ≤ _)⟩)
          dsimp only [Pt.U, Pt.locs, Pt.cells, Pt.slots] at X382 l382 y382 z382 st382 hQ382
          subst l382 y382 z382
          obtain ⟨rfl, Nq382, E382⟩ := hQ382
          have Na383 := Fr.app Na369 Nq382
          have CR384 : CHr Z own_EL s.vm h0 T363.vm T382.heap := CR364.trans (CHr.ext E382 CR364.1)
          have CRz : CHr Z own_EL s.vm h0 T382.vm T382.heap := CR384.trans (CHv.at X382 hZ363 (own_ew hw) CR384.1)
          obtain ⟨fs, hr, hrun, hended, hRW⟩ := X382.leaveW hS363 ((Nat.le_trans hk363 E382.1)) (v := some (.int (1 : Int32))) (fun h => by rw [Bd.returns] at h; cases h)
          refine ⟨_, _, pre0 _ (go365 _ ?_), hrun, hended, _, _, rfl, ?_, ?_, own_rew hRW (by decide) (by decide)⟩
          · show Steps p.tables e below (T363.setTop (mkF m 126 #[.val (.int p1), .val (.int p2), .val (.int p3), .val (.int p4), .val (.int bb), .val (.ref ca325), .val (.int le), .val (.int nn), .val (.int pp), .val (.int cc), .val (.ref b333), .val .null] [(.ref ca363), (.ref b333)])) _
            refine st368.trans ?_
            show Steps p.tables e below (T368.setTop (mkF m 129 #[.val (.int p1), .val (.int p2), .val (.int p3), .val (.int p4), .val (.int bb), .val (.ref ca325), .val (.int le), .val (.int nn), .val (.int pp), .val (.int cc), .val (.ref b333), .val .null] [(.int (0 : Int32))])) _
            refine XS.ifYes X368.here hx rfl (pc0 := 129) (pc' := 137) rfl (hb hby at_129) rfl ((if0 _ _).trans (teq rfl).1) (by decide) (by decide) ?_
            show Steps p.tables e below (T368.setTop (mkF m 137 #[.val (.int p1), .val (.int p2), .val (.int p3), .val (.int p4), .val (.int bb), .val (.ref ca325), .val (.int le), .val (.int nn), .val (.int pp), .val (.int cc), .val (.ref b333), .val .null] [])) _
            refine XS.aload X368.here hx rfl (hb hby at_137) rfl rfl ?_
            show Steps p.tables e below (T368.setTop (mkF m 139 #[.val (.int p1), .val (.int p2), .val (.int p3), .val (.int p4), .val (.int bb), .val (.ref ca325), .val (.int le), .val (.int nn), .val (.int pp), .val (.int cc), .val (.ref b333), .val .null] [(.ref b333)])) _
            refine st382 _ ?_
            show Steps p.tables e below (T382.setTop (mkF m 142 #[.val (.int p1), .val (.int p2), .val (.int p3), .val (.int p4), .val (.int bb), .val (.ref ca325), .val (.int le), .val (.int nn), .val (.int pp), .val (.int cc), .val (.ref b333), .val .null] [.null])) _
            refine XS.aload X382.here hx rfl (hb hby at_142) rfl rfl ?_
            show Steps p.tables e below (T382.setTop (mkF m 144 #[.val (.int p1), .val (.int p2), .val (.int p3), .val (.int p4), .val (.int bb), .val (.ref ca325), .val (.int le), .val (.int nn), .val (.int pp), .val (.int cc), .val (.ref b333), .val .null] [.null, .null])) _
            refine Jvm.RoadKit.acmp (g := (mkF m 144 #[.val (.int p1), .val (.int p2), .val (.int p3), .val (.int p4), .val (.int bb), .val (.ref ca325), .val (.int le), .val (.int nn), .val (.int pp), .val (.int cc), .val (.ref b333), .val .null] [.null, .null])) X382 hx rfl rfl rfl (pc0 := 144) (pc' := 147) (same := true) rfl (hb hby at_144) rfl (decide_eq_true rfl) (by decide) (by decide) ?_
            show Steps p.tables e below (T382.setTop (mkF m 147 #[.val (.int p1), .val (.int p2), .val (.int p3), .val (.int p4), .val (.int bb), .val (.ref ca325), .val (.int le), .val (.int nn), .val (.int pp), .val (.int cc), .val (.ref b333), .val .null] [])) _
            refine XS.iconst X382.here hx rfl (hb hby at_147) ?_
            show Steps p.tables e below (T382.setTop (mkF m 148 #[.val (.int p1), .val (.int p2), .val (.int p3), .val (.int p4), .val (.int bb), .val (.ref ca325), .val (.int le), .val (.int nn), .val (.int pp), .val (.int cc), .val (.ref b333), .val .null] [(.int (1 : Int32))])) _
            refine XS.goto X382.here hx rfl (pc0 := 148) (pc' := 152) rfl (hb hby at_148) (by decide) (by decide) ?_
            show Steps p.tables e below (T382.setTop (mkF m 152 #[.val (.int p1), .val (.int p2), .val (.int p3), .val (.int p4), .val (.int bb), .val (.ref ca325), .val (.int le), .val (.int nn), .val (.int pp), .val (.int cc), .val (.ref b333), .val .null] [(.int (1 : Int32))])) _
            exact retN X382 hx (t := .boolean) Bd.returns (by simp) (hb hby at_152) hr
          · show own_Ql n0 _ T382.heap _
            exact ⟨rfl, Na383⟩
          · show CHr Z own_EL s.vm s.heap T382.vm T382.heap
            rw [hh]; exact CRz
  · have go323 : ∀ t, Steps p.tables e below (s₁.setTop (mkF m 21 #[.val (.int p1), .val (.int p2), .val (.int p3), .val (.int p4), .val (.int bb), .unset, .unset, .unset, .unset, .unset, .unset, .unset] [(.int (1 : Int32)), (.int bb)])) t → Steps p.tables e below (s₁.setTop (mkF m 0 #[.val (.int p1), .val (.int p2), .val (.int p3), .val (.int p4), .unset, .unset, .unset, .unset, .unset, .unset, .unset, .unset] [])) t := fun t kt => go321 t (by
        show Steps p.tables e below (s₁.setTop (mkF m 10 #[.val (.int p1), .val (.int p2), .val (.int p3), .val (.int p4), .val (.int bb), .unset, .unset, .unset, .unset, .unset, .unset, .unset] [(.int bb)])) _
        refine XS.ifYes X0.here hx rfl (pc0 := 10) (pc' := 18) rfl (hb hby at_10) rfl ((if0 _ _).trans (feq hc322).2) (by decide) (by decide) ?_
        show Steps p.tables e below (s₁.setTop (mkF m 18 #[.val (.int p1), .val (.int p2), .val (.int p3), .val (.int p4), .val (.int bb), .unset, .unset, .unset, .unset, .unset, .unset, .unset] [])) _
        refine XS.iload X0.here hx rfl (hb hby at_18) rfl ?_
        show Steps p.tables e below (s₁.setTop (mkF m 20 #[.val (.int p1), .val (.int p2), .val (.int p3), .val (.int p4), .val (.int bb), .unset, .unset, .unset, .unset, .unset, .unset, .unset] [(.int bb)])) _
        refine XS.iconst X0.here hx rfl (hb hby at_20) ?_
        exact kt)
    by_cases hc324 : bb = (1 : Int32)
    · obtain ⟨ca385, T385, h385, kq385, cb385, kb385, X385, e385, E385, hS385, hk385, hZ385, ho385, Ex385, Co385, Va385, Ar385, la385, lb385, hC385, Li385, sf385, st385⟩ := ldcCH X0 hx hZ hown (hw _ (List.mem_of_getElem? (i := 82) rfl)) (own_sa hw) e0 hS0 (Nat.zero_le _) (own_ew hw) (by decide) CR0.1 (vs := (([(83 : Int32), (116 : Int32), (101 : Int32), (112 : Int32)] : List Int32).map (fun c => c.toInt8.toInt32)).map Value.int) (z := (4 : Int32)) ⟨by decide, by decide +kernel⟩ (by decide) (by decide) (g := (mkF m 24 #[.val (.int p1), .val (.int p2), .val (.int p3), .val (.int p4), .val (.int bb), .unset, .unset, .unset, .unset, .unset, .unset, .unset] [])) rfl (hb hby at_24) (n := 16) (by decide) (by decide) (by decide) (by decide)
      have CR386 : CHr Z own_EL s.vm h0 T385.vm h385 := CR0.trans hC385
      have Sc385 : own_Str Z h385 ca385 ([(83 : Int32), (116 : Int32), (101 : Int32), (112 : Int32)] : List Int32) := ⟨Ex385, (own_cS (by decide) (own_cS (by decide) (own_cS (by decide) (own_cS (by decide) own_c0)))), cb385, kb385, Va385, Co385, Ar385⟩
      have Xt387 : Ext Z.heap h385 := (own_xt O0 E385)
      obtain ⟨cq388, kq388, qa388, qb388, qc388⟩ := isOf hZ385 e385 Ex385
      obtain ⟨_, _, ⟨T388, L388, k388, n388⟩, -, X388, ⟨Lc388, hQ388, l388, y388, z388⟩, st388⟩ := X385.virtualBack hx (y := (⟨"java/lang/String", "length", "()I"⟩ : MethodName)) (z := (⟨"java/lang/String", "length", "()I"⟩ : MethodName)) ho385 (mvT hZ385 (hw _ (List.mem_of_getElem? (i := 9) rfl))) (mvT hZ385 (hw _ (List.mem_of_getElem? (i := 10) rfl))) (notFace_of_selects (args := #[]) (mvT hZ385 (hw _ (List.mem_of_getElem? (i := 12) rfl)))) (mvT hZ385 (hw _ (List.mem_of_getElem? (i := 12) rfl))) (mvT hZ385 (hw _ (List.mem_of_getElem? (i := 11) rfl))) (by decide) (own_lenP (W := 0) hZ385 (own_wl hw) (hw _ (List.mem_of_getElem? (i := 3) rfl)) Sc385 (by decide) (S_C.ext Xt387) P5 (by decide) (by decide)) qa388 qc388 (g := (mkF m 35 #[.val (.int p1), .val (.int p2), .val (.int p3), .val (.int p4), .val (.int bb), .val (.ref ca385), .unset, .unset, .unset, .unset, .unset, .unset] [(.ref ca385)])) rfl (by rw [hml]; rfl) (Steps.refl _) (argsL := []) (rest := []) (lenOf own_pd2 rfl) rfl (by show 2 * 0 + _ ≤ _; exact Nat.le_of_eq rfl) (hb hby at_35) (fun _ _ => ⟨rfl, e385, (by decide : 2 + 0 ≤ _), (by decide : 20 + 0 ≤ _)⟩)
      dsimp only [Pt.U, Pt.locs, Pt.cells, Pt.slots] at X388 l388 y388 z388 st388 hQ388
      subst l388 y388 z388
      obtain ⟨rfl, rfl, e388⟩ := hQ388
      have Na389 := Fr.app N0 (Fr.nil n0)
      have go390 : ∀ t, Steps p.tables e below (T388.setTop (mkF m 38 #[.val (.int p1), .val (.int p2), .val (.int p3), .val (.int p4), .val (.int bb), .val (.ref ca385), .unset, .unset, .unset, .unset, .unset, .unset] [(.int (Int32.ofNat ([(83 : Int32), (116 : Int32), (101 : Int32), (112 : Int32)] : List Int32).length))])) t → Steps p.tables e below (s₁.setTop (mkF m 0 #[.val (.int p1), .val (.int p2), .val (.int p3), .val (.int p4), .unset, .unset, .unset, .unset, .unset, .unset, .unset, .unset] [])) t := fun t kt => go323 t (by
          show Steps p.tables e below (s₁.setTop (mkF m 21 #[.val (.int p1), .val (.int p2), .val (.int p3), .val (.int p4), .val (.int bb), .unset, .unset, .unset, .unset, .unset, .unset, .unset] [(.int (1 : Int32)), (.int bb)])) _
          refine XS.icmpNo X0.here hx rfl (hb hby at_21) rfl (teq hc324).2 ?_
          show Steps p.tables e below (s₁.setTop (mkF m 24 #[.val (.int p1), .val (.int p2), .val (.int p3), .val (.int p4), .val (.int bb), .unset, .unset, .unset, .unset, .unset, .unset, .unset] [])) _
          refine st385 _ ?_
          show Steps p.tables e below (T385.setTop (mkF m 26 #[.val (.int p1), .val (.int p2), .val (.int p3), .val (.int p4), .val (.int bb), .unset, .unset, .unset, .unset, .unset, .unset, .unset] [(.ref ca385)])) _
          refine XS.goto X385.here hx rfl (pc0 := 26) (pc' := 31) rfl (hb hby at_26) (by decide) (by decide) ?_
          show Steps p.tables e below (T385.setTop (mkF m 31 #[.val (.int p1), .val (.int p2), .val (.int p3), .val (.int p4), .val (.int bb), .unset, .unset, .unset, .unset, .unset, .unset, .unset] [(.ref ca385)])) _
          refine XS.astore X385.here hx rfl (hb hby at_31) rfl rfl (l' := #[.val (.int p1), .val (.int p2), .val (.int p3), .val (.int p4), .val (.int bb), .val (.ref ca385), .unset, .unset, .unset, .unset, .unset, .unset]) rfl ?_
          show Steps p.tables e below (T385.setTop (mkF m 33 #[.val (.int p1), .val (.int p2), .val (.int p3), .val (.int p4), .val (.int bb), .val (.ref ca385), .unset, .unset, .unset, .unset, .unset, .unset] [])) _
          refine XS.aload X385.here hx rfl (hb hby at_33) rfl rfl ?_
          show Steps p.tables e below (T385.setTop (mkF m 35 #[.val (.int p1), .val (.int p2), .val (.int p3), .val (.int p4), .val (.int bb), .val (.ref ca385), .unset, .unset, .unset, .unset, .unset, .unset] [(.ref ca385)])) _
          refine st388.trans ?_
          exact kt)
      obtain ⟨le, nn, pp, cc, hgo392, go392⟩ : ∃ (le : Int32) (nn : Int32) (pp : Int32) (cc : Int32), (¬ cc < 0 ∧ ¬ (255 : Int32) < cc) ∧ ∀ t, Steps p.tables e below (T388.setTop (mkF m 70 #[.val (.int p1), .val (.int p2), .val (.int p3), .val (.int p4), .val (.int bb), .val (.ref ca385), .val (.int le), .val (.int nn), .val (.int pp), .val (.int cc), .unset, .unset] [])) t → Steps p.tables e below (s₁.setTop (mkF m 0 #[.val (.int p1), .val (.int p2), .val (.int p3), .val (.int p4), .unset, .unset, .unset, .unset, .unset, .unset, .unset, .unset] [])) t := by
        have go391 : ∀ t, Steps p.tables e below (T388.setTop (mkF m 70 #[.val (.int p1), .val (.int p2), .val (.int p3), .val (.int p4), .val (.int bb), .val (.ref ca385), .val (.int (Int32.ofNat ([(83 : Int32), (116 : Int32), (101 : Int32), (112 : Int32)] : List Int32).length)), .val (.int (((Int32.ofNat ([(83 : Int32), (116 : Int32), (101 : Int32), (112 : Int32)] : List Int32).length) - (1 : Int32)) + ((p4 &&& (2147483647 : Int32)) % (3 : Int32)))), .val (.int ((p2 &&& (2147483647 : Int32)) % (10 : Int32))), .val (.int ((p3 &&& (255 : Int32)).toUInt32.toUInt16.toUInt32.toInt32)), .unset, .unset] [])) t → Steps p.tables e below (s₁.setTop (mkF m 0 #[.val (.int p1), .val (.int p2), .val (.int p3), .val (.int p4), .unset, .unset, .unset, .unset, .unset, .unset, .unset, .unset] [])) t := fun t kt => go390 t (by
            show Steps p.tables e below (T388.setTop (mkF m 38 #[.val (.int p1), .val (.int p2), .val (.int p3), .val (.int p4), .val (.int bb), .val (.ref ca385), .unset, .unset, .unset, .unset, .unset, .unset] [(.int (Int32.ofNat ([(83 : Int32), (116 : Int32), (101 : Int32), (112 : Int32)] : List Int32).length))])) _
            refine XS.istore X388.here hx rfl (hb hby at_38) rfl (l' := #[.val (.int p1), .val (.int p2), .val (.int p3), .val (.int p4), .val (.int bb), .val (.ref ca385), .val (.int (Int32.ofNat ([(83 : Int32), (116 : Int32), (101 : Int32), (112 : Int32)] : List Int32).length)), .unset, .unset, .unset, .unset, .unset]) rfl ?_
            show Steps p.tables e below (T388.setTop (mkF m 40 #[.val (.int p1), .val (.int p2), .val (.int p3), .val (.int p4), .val (.int bb), .val (.ref ca385), .val (.int (Int32.ofNat ([(83 : Int32), (116 : Int32), (101 : Int32), (112 : Int32)] : List Int32).length)), .unset, .unset, .unset, .unset, .unset] [])) _
            refine XS.iload X388.here hx rfl (hb hby at_40) rfl ?_
            show Steps p.tables e below (T388.setTop (mkF m 42 #[.val (.int p1), .val (.int p2), .val (.int p3), .val (.int p4), .val (.int bb), .val (.ref ca385), .val (.int (Int32.ofNat ([(83 : Int32), (116 : Int32), (101 : Int32), (112 : Int32)] : List Int32).length)), .unset, .unset, .unset, .unset, .unset] [(.int (Int32.ofNat ([(83 : Int32), (116 : Int32), (101 : Int32), (112 : Int32)] : List Int32).length))])) _
            refine XS.iconst X388.here hx rfl (hb hby at_42) ?_
            show Steps p.tables e below (T388.setTop (mkF m 43 #[.val (.int p1), .val (.int p2), .val (.int p3), .val (.int p4), .val (.int bb), .val (.ref ca385), .val (.int (Int32.ofNat ([(83 : Int32), (116 : Int32), (101 : Int32), (112 : Int32)] : List Int32).length)), .unset, .unset, .unset, .unset, .unset] [(.int (1 : Int32)), (.int (Int32.ofNat ([(83 : Int32), (116 : Int32), (101 : Int32), (112 : Int32)] : List Int32).length))])) _
            refine XS.isub X388.here hx rfl (hb hby at_43) rfl ?_
            show Steps p.tables e below (T388.setTop (mkF m 44 #[.val (.int p1), .val (.int p2), .val (.int p3), .val (.int p4), .val (.int bb), .val (.ref ca385), .val (.int (Int32.ofNat ([(83 : Int32), (116 : Int32), (101 : Int32), (112 : Int32)] : List Int32).length)), .unset, .unset, .unset, .unset, .unset] [(.int ((Int32.ofNat ([(83 : Int32), (116 : Int32), (101 : Int32), (112 : Int32)] : List Int32).length) - (1 : Int32)))])) _
            refine XS.iloadN X388.here hx rfl (hb hby at_44) rfl ?_
            show Steps p.tables e below (T388.setTop (mkF m 45 #[.val (.int p1), .val (.int p2), .val (.int p3), .val (.int p4), .val (.int bb), .val (.ref ca385), .val (.int (Int32.ofNat ([(83 : Int32), (116 : Int32), (101 : Int32), (112 : Int32)] : List Int32).length)), .unset, .unset, .unset, .unset, .unset] [(.int p4), (.int ((Int32.ofNat ([(83 : Int32), (116 : Int32), (101 : Int32), (112 : Int32)] : List Int32).length) - (1 : Int32)))])) _
            refine X388.ldcInt hx ho385 (mvT hZ385 (hw _ (List.mem_of_getElem? (i := 0) rfl))) (g := (mkF m 45 #[.val (.int p1), .val (.int p2), .val (.int p3), .val (.int p4), .val (.int bb), .val (.ref ca385), .val (.int (Int32.ofNat ([(83 : Int32), (116 : Int32), (101 : Int32), (112 : Int32)] : List Int32).length)), .unset, .unset, .unset, .unset, .unset] [(.int p4), (.int ((Int32.ofNat ([(83 : Int32), (116 : Int32), (101 : Int32), (112 : Int32)] : List Int32).length) - (1 : Int32)))])) rfl (hb hby at_45) _ ?_
            show Steps p.tables e below (T388.setTop (mkF m 47 #[.val (.int p1), .val (.int p2), .val (.int p3), .val (.int p4), .val (.int bb), .val (.ref ca385), .val (.int (Int32.ofNat ([(83 : Int32), (116 : Int32), (101 : Int32), (112 : Int32)] : List Int32).length)), .unset, .unset, .unset, .unset, .unset] [(.int (2147483647 : Int32)), (.int p4), (.int ((Int32.ofNat ([(83 : Int32), (116 : Int32), (101 : Int32), (112 : Int32)] : List Int32).length) - (1 : Int32)))])) _
            refine XS.iand X388.here hx rfl (hb hby at_47) rfl ?_
            show Steps p.tables e below (T388.setTop (mkF m 48 #[.val (.int p1), .val (.int p2), .val (.int p3), .val (.int p4), .val (.int bb), .val (.ref ca385), .val (.int (Int32.ofNat ([(83 : Int32), (116 : Int32), (101 : Int32), (112 : Int32)] : List Int32).length)), .unset, .unset, .unset, .unset, .unset] [(.int (p4 &&& (2147483647 : Int32))), (.int ((Int32.ofNat ([(83 : Int32), (116 : Int32), (101 : Int32), (112 : Int32)] : List Int32).length) - (1 : Int32)))])) _
            refine XS.iconst X388.here hx rfl (hb hby at_48) ?_
            show Steps p.tables e below (T388.setTop (mkF m 49 #[.val (.int p1), .val (.int p2), .val (.int p3), .val (.int p4), .val (.int bb), .val (.ref ca385), .val (.int (Int32.ofNat ([(83 : Int32), (116 : Int32), (101 : Int32), (112 : Int32)] : List Int32).length)), .unset, .unset, .unset, .unset, .unset] [(.int (3 : Int32)), (.int (p4 &&& (2147483647 : Int32))), (.int ((Int32.ofNat ([(83 : Int32), (116 : Int32), (101 : Int32), (112 : Int32)] : List Int32).length) - (1 : Int32)))])) _
            refine Jvm.RoadKit.iremM X388 hx rfl (hb hby at_49) rfl (by decide) ?_
            show Steps p.tables e below (T388.setTop (mkF m 50 #[.val (.int p1), .val (.int p2), .val (.int p3), .val (.int p4), .val (.int bb), .val (.ref ca385), .val (.int (Int32.ofNat ([(83 : Int32), (116 : Int32), (101 : Int32), (112 : Int32)] : List Int32).length)), .unset, .unset, .unset, .unset, .unset] [(.int ((p4 &&& (2147483647 : Int32)) % (3 : Int32))), (.int ((Int32.ofNat ([(83 : Int32), (116 : Int32), (101 : Int32), (112 : Int32)] : List Int32).length) - (1 : Int32)))])) _
            refine XS.iadd X388.here hx rfl (hb hby at_50) rfl ?_
            show Steps p.tables e below (T388.setTop (mkF m 51 #[.val (.int p1), .val (.int p2), .val (.int p3), .val (.int p4), .val (.int bb), .val (.ref ca385), .val (.int (Int32.ofNat ([(83 : Int32), (116 : Int32), (101 : Int32), (112 : Int32)] : List Int32).length)), .unset, .unset, .unset, .unset, .unset] [(.int (((Int32.ofNat ([(83 : Int32), (116 : Int32), (101 : Int32), (112 : Int32)] : List Int32).length) - (1 : Int32)) + ((p4 &&& (2147483647 : Int32)) % (3 : Int32))))])) _
            refine XS.istore X388.here hx rfl (hb hby at_51) rfl (l' := #[.val (.int p1), .val (.int p2), .val (.int p3), .val (.int p4), .val (.int bb), .val (.ref ca385), .val (.int (Int32.ofNat ([(83 : Int32), (116 : Int32), (101 : Int32), (112 : Int32)] : List Int32).length)), .val (.int (((Int32.ofNat ([(83 : Int32), (116 : Int32), (101 : Int32), (112 : Int32)] : List Int32).length) - (1 : Int32)) + ((p4 &&& (2147483647 : Int32)) % (3 : Int32)))), .unset, .unset, .unset, .unset]) rfl ?_
            show Steps p.tables e below (T388.setTop (mkF m 53 #[.val (.int p1), .val (.int p2), .val (.int p3), .val (.int p4), .val (.int bb), .val (.ref ca385), .val (.int (Int32.ofNat ([(83 : Int32), (116 : Int32), (101 : Int32), (112 : Int32)] : List Int32).length)), .val (.int (((Int32.ofNat ([(83 : Int32), (116 : Int32), (101 : Int32), (112 : Int32)] : List Int32).length) - (1 : Int32)) + ((p4 &&& (2147483647 : Int32)) % (3 : Int32)))), .unset, .unset, .unset, .unset] [])) _
            refine XS.iloadN X388.here hx rfl (hb hby at_53) rfl ?_
            show Steps p.tables e below (T388.setTop (mkF m 54 #[.val (.int p1), .val (.int p2), .val (.int p3), .val (.int p4), .val (.int bb), .val (.ref ca385), .val (.int (Int32.ofNat ([(83 : Int32), (116 : Int32), (101 : Int32), (112 : Int32)] : List Int32).length)), .val (.int (((Int32.ofNat ([(83 : Int32), (116 : Int32), (101 : Int32), (112 : Int32)] : List Int32).length) - (1 : Int32)) + ((p4 &&& (2147483647 : Int32)) % (3 : Int32)))), .unset, .unset, .unset, .unset] [(.int p2)])) _
            refine X388.ldcInt hx ho385 (mvT hZ385 (hw _ (List.mem_of_getElem? (i := 0) rfl))) (g := (mkF m 54 #[.val (.int p1), .val (.int p2), .val (.int p3), .val (.int p4), .val (.int bb), .val (.ref ca385), .val (.int (Int32.ofNat ([(83 : Int32), (116 : Int32), (101 : Int32), (112 : Int32)] : List Int32).length)), .val (.int (((Int32.ofNat ([(83 : Int32), (116 : Int32), (101 : Int32), (112 : Int32)] : List Int32).length) - (1 : Int32)) + ((p4 &&& (2147483647 : Int32)) % (3 : Int32)))), .unset, .unset, .unset, .unset] [(.int p2)])) rfl (hb hby at_54) _ ?_
            show Steps p.tables e below (T388.setTop (mkF m 56 #[.val (.int p1), .val (.int p2), .val (.int p3), .val (.int p4), .val (.int bb), .val (.ref ca385), .val (.int (Int32.ofNat ([(83 : Int32), (116 : Int32), (101 : Int32), (112 : Int32)] : List Int32).length)), .val (.int (((Int32.ofNat ([(83 : Int32), (116 : Int32), (101 : Int32), (112 : Int32)] : List Int32).length) - (1 : Int32)) + ((p4 &&& (2147483647 : Int32)) % (3 : Int32)))), .unset, .unset, .unset, .unset] [(.int (2147483647 : Int32)), (.int p2)])) _
            refine XS.iand X388.here hx rfl (hb hby at_56) rfl ?_
            show Steps p.tables e below (T388.setTop (mkF m 57 #[.val (.int p1), .val (.int p2), .val (.int p3), .val (.int p4), .val (.int bb), .val (.ref ca385), .val (.int (Int32.ofNat ([(83 : Int32), (116 : Int32), (101 : Int32), (112 : Int32)] : List Int32).length)), .val (.int (((Int32.ofNat ([(83 : Int32), (116 : Int32), (101 : Int32), (112 : Int32)] : List Int32).length) - (1 : Int32)) + ((p4 &&& (2147483647 : Int32)) % (3 : Int32)))), .unset, .unset, .unset, .unset] [(.int (p2 &&& (2147483647 : Int32)))])) _
            refine XS.bipush X388.here hx rfl (hb hby at_57) ?_
            show Steps p.tables e below (T388.setTop (mkF m 59 #[.val (.int p1), .val (.int p2), .val (.int p3), .val (.int p4), .val (.int bb), .val (.ref ca385), .val (.int (Int32.ofNat ([(83 : Int32), (116 : Int32), (101 : Int32), (112 : Int32)] : List Int32).length)), .val (.int (((Int32.ofNat ([(83 : Int32), (116 : Int32), (101 : Int32), (112 : Int32)] : List Int32).length) - (1 : Int32)) + ((p4 &&& (2147483647 : Int32)) % (3 : Int32)))), .unset, .unset, .unset, .unset] [(.int (10 : Int32)), (.int (p2 &&& (2147483647 : Int32)))])) _
            refine Jvm.RoadKit.iremM X388 hx rfl (hb hby at_59) rfl (by decide) ?_
            show Steps p.tables e below (T388.setTop (mkF m 60 #[.val (.int p1), .val (.int p2), .val (.int p3), .val (.int p4), .val (.int bb), .val (.ref ca385), .val (.int (Int32.ofNat ([(83 : Int32), (116 : Int32), (101 : Int32), (112 : Int32)] : List Int32).length)), .val (.int (((Int32.ofNat ([(83 : Int32), (116 : Int32), (101 : Int32), (112 : Int32)] : List Int32).length) - (1 : Int32)) + ((p4 &&& (2147483647 : Int32)) % (3 : Int32)))), .unset, .unset, .unset, .unset] [(.int ((p2 &&& (2147483647 : Int32)) % (10 : Int32)))])) _
            refine XS.istore X388.here hx rfl (hb hby at_60) rfl (l' := #[.val (.int p1), .val (.int p2), .val (.int p3), .val (.int p4), .val (.int bb), .val (.ref ca385), .val (.int (Int32.ofNat ([(83 : Int32), (116 : Int32), (101 : Int32), (112 : Int32)] : List Int32).length)), .val (.int (((Int32.ofNat ([(83 : Int32), (116 : Int32), (101 : Int32), (112 : Int32)] : List Int32).length) - (1 : Int32)) + ((p4 &&& (2147483647 : Int32)) % (3 : Int32)))), .val (.int ((p2 &&& (2147483647 : Int32)) % (10 : Int32))), .unset, .unset, .unset]) rfl ?_
            show Steps p.tables e below (T388.setTop (mkF m 62 #[.val (.int p1), .val (.int p2), .val (.int p3), .val (.int p4), .val (.int bb), .val (.ref ca385), .val (.int (Int32.ofNat ([(83 : Int32), (116 : Int32), (101 : Int32), (112 : Int32)] : List Int32).length)), .val (.int (((Int32.ofNat ([(83 : Int32), (116 : Int32), (101 : Int32), (112 : Int32)] : List Int32).length) - (1 : Int32)) + ((p4 &&& (2147483647 : Int32)) % (3 : Int32)))), .val (.int ((p2 &&& (2147483647 : Int32)) % (10 : Int32))), .unset, .unset, .unset] [])) _
            refine XS.iloadN X388.here hx rfl (hb hby at_62) rfl ?_
            show Steps p.tables e below (T388.setTop (mkF m 63 #[.val (.int p1), .val (.int p2), .val (.int p3), .val (.int p4), .val (.int bb), .val (.ref ca385), .val (.int (Int32.ofNat ([(83 : Int32), (116 : Int32), (101 : Int32), (112 : Int32)] : List Int32).length)), .val (.int (((Int32.ofNat ([(83 : Int32), (116 : Int32), (101 : Int32), (112 : Int32)] : List Int32).length) - (1 : Int32)) + ((p4 &&& (2147483647 : Int32)) % (3 : Int32)))), .val (.int ((p2 &&& (2147483647 : Int32)) % (10 : Int32))), .unset, .unset, .unset] [(.int p3)])) _
            refine XS.sipush X388.here hx rfl (hb hby at_63) ?_
            show Steps p.tables e below (T388.setTop (mkF m 66 #[.val (.int p1), .val (.int p2), .val (.int p3), .val (.int p4), .val (.int bb), .val (.ref ca385), .val (.int (Int32.ofNat ([(83 : Int32), (116 : Int32), (101 : Int32), (112 : Int32)] : List Int32).length)), .val (.int (((Int32.ofNat ([(83 : Int32), (116 : Int32), (101 : Int32), (112 : Int32)] : List Int32).length) - (1 : Int32)) + ((p4 &&& (2147483647 : Int32)) % (3 : Int32)))), .val (.int ((p2 &&& (2147483647 : Int32)) % (10 : Int32))), .unset, .unset, .unset] [(.int (255 : Int32)), (.int p3)])) _
            refine XS.iand X388.here hx rfl (hb hby at_66) rfl ?_
            show Steps p.tables e below (T388.setTop (mkF m 67 #[.val (.int p1), .val (.int p2), .val (.int p3), .val (.int p4), .val (.int bb), .val (.ref ca385), .val (.int (Int32.ofNat ([(83 : Int32), (116 : Int32), (101 : Int32), (112 : Int32)] : List Int32).length)), .val (.int (((Int32.ofNat ([(83 : Int32), (116 : Int32), (101 : Int32), (112 : Int32)] : List Int32).length) - (1 : Int32)) + ((p4 &&& (2147483647 : Int32)) % (3 : Int32)))), .val (.int ((p2 &&& (2147483647 : Int32)) % (10 : Int32))), .unset, .unset, .unset] [(.int (p3 &&& (255 : Int32)))])) _
            refine XS.i2c X388.here hx rfl (hb hby at_67) rfl ?_
            show Steps p.tables e below (T388.setTop (mkF m 68 #[.val (.int p1), .val (.int p2), .val (.int p3), .val (.int p4), .val (.int bb), .val (.ref ca385), .val (.int (Int32.ofNat ([(83 : Int32), (116 : Int32), (101 : Int32), (112 : Int32)] : List Int32).length)), .val (.int (((Int32.ofNat ([(83 : Int32), (116 : Int32), (101 : Int32), (112 : Int32)] : List Int32).length) - (1 : Int32)) + ((p4 &&& (2147483647 : Int32)) % (3 : Int32)))), .val (.int ((p2 &&& (2147483647 : Int32)) % (10 : Int32))), .unset, .unset, .unset] [(.int ((p3 &&& (255 : Int32)).toUInt32.toUInt16.toUInt32.toInt32))])) _
            refine XS.istore X388.here hx rfl (hb hby at_68) rfl (l' := #[.val (.int p1), .val (.int p2), .val (.int p3), .val (.int p4), .val (.int bb), .val (.ref ca385), .val (.int (Int32.ofNat ([(83 : Int32), (116 : Int32), (101 : Int32), (112 : Int32)] : List Int32).length)), .val (.int (((Int32.ofNat ([(83 : Int32), (116 : Int32), (101 : Int32), (112 : Int32)] : List Int32).length) - (1 : Int32)) + ((p4 &&& (2147483647 : Int32)) % (3 : Int32)))), .val (.int ((p2 &&& (2147483647 : Int32)) % (10 : Int32))), .val (.int ((p3 &&& (255 : Int32)).toUInt32.toUInt16.toUInt32.toInt32)), .unset, .unset]) rfl ?_
            exact kt)
        exact ⟨(Int32.ofNat ([(83 : Int32), (116 : Int32), (101 : Int32), (112 : Int32)] : List Int32).length), (((Int32.ofNat ([(83 : Int32), (116 : Int32), (101 : Int32), (112 : Int32)] : List Int32).length) - (1 : Int32)) + ((p4 &&& (2147483647 : Int32)) % (3 : Int32))), ((p2 &&& (2147483647 : Int32)) % (10 : Int32)), ((p3 &&& (255 : Int32)).toUInt32.toUInt16.toUInt32.toInt32), own_d255 _, go391⟩
      obtain ⟨_, _, ⟨T393, L393, k393, n393⟩, -, X393, ⟨Lc393, hQ393, l393, y393, z393⟩, st393⟩ := Jvm.LawKit.callS X388 hx (y := (⟨"com/example/spatial_at_rest/spatialatrest/InterpolationNamedPinLaw", "make", "(Ljava/lang/String;IIC)Ljava/lang/String;"⟩ : MethodName)) ho385 (mvT hZ385 (hw _ (List.mem_of_getElem? (i := 22) rfl))) (mvT hZ385 (hw _ (List.mem_of_getElem? (i := 23) rfl))) (mvT hZ385 (hw _ (List.mem_of_getElem? (i := 24) rfl))) (mvT hZ385 (hw _ (List.mem_of_getElem? (i := 25) rfl))) (by decide) (backOf (W := 0) (own_mk l Z a0 hw [] ca385 nn pp cc w2 ([(83 : Int32), (116 : Int32), (101 : Int32), (112 : Int32)] : List Int32) fm h385 n0 (Nat.le_trans Z0 E385.1) Sc385 (by decide) (S_C.ext Xt387) P5 (S_F.ext Xt387) rf hgo392) hZ385 (hw _ (List.mem_of_getElem? (i := 25) rfl)) (hw _ (List.mem_of_getElem? (i := 24) rfl)) (by decide) (by decide)) (g := (mkF m 78 #[.val (.int p1), .val (.int p2), .val (.int p3), .val (.int p4), .val (.int bb), .val (.ref ca385), .val (.int le), .val (.int nn), .val (.int pp), .val (.int cc), .unset, .unset] [(.int cc), (.int pp), (.int nn), (.ref ca385)])) rfl (by rw [hml]; rfl) (argsL := [(.ref ca385), (.int nn), (.int pp), (.int cc)]) (rest := []) (lenOf own_pd6 rfl) rfl (by show 2 * 0 + _ ≤ _; exact Nat.le_of_eq rfl) (hb hby at_78) (fun _ _ => ⟨rfl, e388, (by decide : 2 + 3 ≤ _), (by decide : 20 + 22 ≤ _)⟩)
      dsimp only [Pt.U, Pt.locs, Pt.cells, Pt.slots] at X393 l393 y393 z393 st393 hQ393
      subst l393 y393 z393
      obtain ⟨b393, ds393, rfl, Nq393, E393, Str393, hl393⟩ := hQ393
      have Na394 := Fr.app Na389 Nq393
      have CR395 : CHr Z own_EL s.vm h0 T385.vm T393.heap := CR386.trans (CHr.ext E393 CR386.1)
      obtain ⟨ca396, T396, h396, kq396, cb396, kb396, X396, e396, E396, hS396, hk396, hZ396, ho396, Ex396, Co396, Va396, Ar396, la396, lb396, hC396, Li396, sf396, st396⟩ := ldcCH X393 hx hZ385 ho385 (hw _ (List.mem_of_getElem? (i := 1) rfl)) (own_sa hw) rfl hS385 (Nat.le_trans hk385 E393.1) (own_ew hw) (by decide) CR395.1 (vs := (([(68 : Int32), (105 : Int32), (115 : Int32), (99 : Int32), (114 : Int32), (101 : Int32), (116 : Int32), (101 : Int32)] : List Int32).map (fun c => c.toInt8.toInt32)).map Value.int) (z := (8 : Int32)) ⟨by decide, by decide +kernel⟩ (by decide) (by decide) (g := (mkF m 88 #[.val (.int p1), .val (.int p2), .val (.int p3), .val (.int p4), .val (.int bb), .val (.ref ca385), .val (.int le), .val (.int nn), .val (.int pp), .val (.int cc), .val (.ref b393), .val .null] [(.ref b393)])) rfl (hb hby at_88) (n := 32) (by decide) (by decide) (by decide) (by decide)
      have CR397 : CHr Z own_EL s.vm h0 T396.vm h396 := CR395.trans hC396
      have Sc396 : own_Str Z h396 ca396 ([(68 : Int32), (105 : Int32), (115 : Int32), (99 : Int32), (114 : Int32), (101 : Int32), (116 : Int32), (101 : Int32)] : List Int32) := ⟨Ex396, (own_cS (by decide) (own_cS (by decide) (own_cS (by decide) (own_cS (by decide) (own_cS (by decide) (own_cS (by decide) (own_cS (by decide) (own_cS (by decide) own_c0)))))))), cb396, kb396, Va396, Co396, Ar396⟩
      have go398 : ∀ t, Steps p.tables e below (T396.setTop (mkF m 90 #[.val (.int p1), .val (.int p2), .val (.int p3), .val (.int p4), .val (.int bb), .val (.ref ca385), .val (.int le), .val (.int nn), .val (.int pp), .val (.int cc), .val (.ref b393), .val .null] [(.ref ca396), (.ref b393)])) t → Steps p.tables e below (s₁.setTop (mkF m 0 #[.val (.int p1), .val (.int p2), .val (.int p3), .val (.int p4), .unset, .unset, .unset, .unset, .unset, .unset, .unset, .unset] [])) t := fun t kt => go392 t (by
          show Steps p.tables e below (T388.setTop (mkF m 70 #[.val (.int p1), .val (.int p2), .val (.int p3), .val (.int p4), .val (.int bb), .val (.ref ca385), .val (.int le), .val (.int nn), .val (.int pp), .val (.int cc), .unset, .unset] [])) _
          refine XS.aload X388.here hx rfl (hb hby at_70) rfl rfl ?_
          show Steps p.tables e below (T388.setTop (mkF m 72 #[.val (.int p1), .val (.int p2), .val (.int p3), .val (.int p4), .val (.int bb), .val (.ref ca385), .val (.int le), .val (.int nn), .val (.int pp), .val (.int cc), .unset, .unset] [(.ref ca385)])) _
          refine XS.iload X388.here hx rfl (hb hby at_72) rfl ?_
          show Steps p.tables e below (T388.setTop (mkF m 74 #[.val (.int p1), .val (.int p2), .val (.int p3), .val (.int p4), .val (.int bb), .val (.ref ca385), .val (.int le), .val (.int nn), .val (.int pp), .val (.int cc), .unset, .unset] [(.int nn), (.ref ca385)])) _
          refine XS.iload X388.here hx rfl (hb hby at_74) rfl ?_
          show Steps p.tables e below (T388.setTop (mkF m 76 #[.val (.int p1), .val (.int p2), .val (.int p3), .val (.int p4), .val (.int bb), .val (.ref ca385), .val (.int le), .val (.int nn), .val (.int pp), .val (.int cc), .unset, .unset] [(.int pp), (.int nn), (.ref ca385)])) _
          refine XS.iload X388.here hx rfl (hb hby at_76) rfl ?_
          show Steps p.tables e below (T388.setTop (mkF m 78 #[.val (.int p1), .val (.int p2), .val (.int p3), .val (.int p4), .val (.int bb), .val (.ref ca385), .val (.int le), .val (.int nn), .val (.int pp), .val (.int cc), .unset, .unset] [(.int cc), (.int pp), (.int nn), (.ref ca385)])) _
          refine st393 _ ?_
          show Steps p.tables e below (T393.setTop (mkF m 81 #[.val (.int p1), .val (.int p2), .val (.int p3), .val (.int p4), .val (.int bb), .val (.ref ca385), .val (.int le), .val (.int nn), .val (.int pp), .val (.int cc), .unset, .unset] [(.ref b393)])) _
          refine XS.astore X393.here hx rfl (hb hby at_81) rfl rfl (l' := #[.val (.int p1), .val (.int p2), .val (.int p3), .val (.int p4), .val (.int bb), .val (.ref ca385), .val (.int le), .val (.int nn), .val (.int pp), .val (.int cc), .val (.ref b393), .unset]) rfl ?_
          show Steps p.tables e below (T393.setTop (mkF m 83 #[.val (.int p1), .val (.int p2), .val (.int p3), .val (.int p4), .val (.int bb), .val (.ref ca385), .val (.int le), .val (.int nn), .val (.int pp), .val (.int cc), .val (.ref b393), .unset] [])) _
          refine XS.aconstNull X393.here hx rfl (hb hby at_83) ?_
          show Steps p.tables e below (T393.setTop (mkF m 84 #[.val (.int p1), .val (.int p2), .val (.int p3), .val (.int p4), .val (.int bb), .val (.ref ca385), .val (.int le), .val (.int nn), .val (.int pp), .val (.int cc), .val (.ref b393), .unset] [.null])) _
          refine XS.astore X393.here hx rfl (hb hby at_84) rfl rfl (l' := #[.val (.int p1), .val (.int p2), .val (.int p3), .val (.int p4), .val (.int bb), .val (.ref ca385), .val (.int le), .val (.int nn), .val (.int pp), .val (.int cc), .val (.ref b393), .val .null]) rfl ?_
          show Steps p.tables e below (T393.setTop (mkF m 86 #[.val (.int p1), .val (.int p2), .val (.int p3), .val (.int p4), .val (.int bb), .val (.ref ca385), .val (.int le), .val (.int nn), .val (.int pp), .val (.int cc), .val (.ref b393), .val .null] [])) _
          refine XS.aload X393.here hx rfl (hb hby at_86) rfl rfl ?_
          show Steps p.tables e below (T393.setTop (mkF m 88 #[.val (.int p1), .val (.int p2), .val (.int p3), .val (.int p4), .val (.int bb), .val (.ref ca385), .val (.int le), .val (.int nn), .val (.int pp), .val (.int cc), .val (.ref b393), .val .null] [(.ref b393)])) _
          refine st396 _ ?_
          exact kt)
      have Xt399 : Ext Z.heap T393.heap := (own_xt Xt387 E393)
      have Xt400 : Ext Z.heap h396 := (own_xt Xt399 E396)
      obtain ⟨cq401, kq401, qa401, qb401, qc401⟩ := isOf hZ396 e396 (Str393.1.ext E396)
      obtain ⟨_, _, ⟨T401, L401, k401, n401⟩, -, X401, ⟨Lc401, hQ401, l401, y401, z401⟩, st401⟩ := X396.virtualBack hx (y := (⟨"java/lang/String", "equals", "(Ljava/lang/Object;)Z"⟩ : MethodName)) (z := (⟨"java/lang/String", "equals", "(Ljava/lang/Object;)Z"⟩ : MethodName)) ho396 (mvT hZ396 (hw _ (List.mem_of_getElem? (i := 73) rfl))) (mvT hZ396 (hw _ (List.mem_of_getElem? (i := 74) rfl))) (notFace_of_selects (args := #[]) (mvT hZ396 (hw _ (List.mem_of_getElem? (i := 76) rfl)))) (mvT hZ396 (hw _ (List.mem_of_getElem? (i := 76) rfl))) (mvT hZ396 (hw _ (List.mem_of_getElem? (i := 75) rfl))) (by decide) (own_eq (W := 0) hZ396 (own_wq hw) (hw _ (List.mem_of_getElem? (i := 3) rfl)) (Str393.ext E396) hl393 Sc396 (by decide) (S_C.ext Xt400) P5 (by decide) (by decide)) qa401 qc401 (g := (mkF m 90 #[.val (.int p1), .val (.int p2), .val (.int p3), .val (.int p4), .val (.int bb), .val (.ref ca385), .val (.int le), .val (.int nn), .val (.int pp), .val (.int cc), .val (.ref b393), .val .null] [(.ref ca396), (.ref b393)])) rfl (by rw [hml]; rfl) (Steps.refl _) (argsL := [(.ref ca396)]) (rest := []) (lenOf own_pd1 rfl) rfl (by show 2 * 0 + _ ≤ _; exact Nat.le_of_eq rfl) (hb hby at_90) (fun _ _ => ⟨rfl, e396, (by decide : 7 + 0 ≤ _), (by decide : 78 + 0 ≤ _)⟩)
      dsimp only [Pt.U, Pt.locs, Pt.cells, Pt.slots] at X401 l401 y401 z401 st401 hQ401
      subst l401 y401 z401
      obtain ⟨hcase401, rfl, e401⟩ := hQ401
      have Na402 := Fr.app Na394 (Fr.nil n0)
      rcases hcase401 with ⟨rfl, hq401⟩ | ⟨rfl, hq401⟩
      · obtain ⟨T403, X403, e403, st403⟩ := getS2 X401 hx hZ396 ho396 (host := "") (Or.inl (hw _ (List.mem_of_getElem? (i := 110) rfl))) Via.refl e401 (S0.ext Xt400) (g := (mkF m 96 #[.val (.int p1), .val (.int p2), .val (.int p3), .val (.int p4), .val (.int bb), .val (.ref ca385), .val (.int le), .val (.int nn), .val (.int pp), .val (.int cc), .val (.ref b393), .val .null] [])) rfl (hb hby at_96)
        have Gr405 : h0.size ≤ T393.heap.size := Nat.le_trans E385.1 E393.1
        have Gr404 : h0.size ≤ h396.size := Nat.le_trans Gr405 E396.1
        obtain ⟨_, _, ⟨T406, L406, k406, n406⟩, -, X406, ⟨Lc406, hQ406, l406, y406, z406⟩, st406⟩ := Jvm.LawKit.callS X403 hx (y := (⟨"com/example/spatial_at_rest/spatialatrest/Interpolation", "named", "(Ljava/lang/String;)Lcom/example/spatial_at_rest/spatialatrest/Interpolation;"⟩ : MethodName)) ho396 (mvT hZ396 (hw _ (List.mem_of_getElem? (i := 84) rfl))) (mvT hZ396 (hw _ (List.mem_of_getElem? (i := 85) rfl))) (mvT hZ396 (hw _ (List.mem_of_getElem? (i := 86) rfl))) (mvT hZ396 (hw _ (List.mem_of_getElem? (i := 87) rfl))) (by decide) (backOf (W := 0) (own_named l Z a0 hw [] va en0 en1 en2 kA tx0 tx1 tx2 w2 b393 (.ref en0) ds393 h396 n0 (Nat.le_trans Z0 Gr404) Xt400 S_V EV AV S_C P5 F0 T0 F1 T1 F2 T2 (Str393.ext E396) hl393 (by unfold own_nm; rw [if_pos hq401])) hZ396 (hw _ (List.mem_of_getElem? (i := 87) rfl)) (hw _ (List.mem_of_getElem? (i := 86) rfl)) (by decide) (by decide)) (g := (mkF m 139 #[.val (.int p1), .val (.int p2), .val (.int p3), .val (.int p4), .val (.int bb), .val (.ref ca385), .val (.int le), .val (.int nn), .val (.int pp), .val (.int cc), .val (.ref b393), .val (.ref en0)] [(.ref b393)])) rfl (by rw [hml]; rfl) (argsL := [(.ref b393)]) (rest := []) (lenOf own_pd7 rfl) rfl (by show 2 * 0 + _ ≤ _; exact Nat.le_of_eq rfl) (hb hby at_139) (fun _ _ => ⟨rfl, e403, (by decide : 7 + 1 ≤ _), (by decide : 78 + 3 ≤ _)⟩)
        dsimp only [Pt.U, Pt.locs, Pt.cells, Pt.slots] at X406 l406 y406 z406 st406 hQ406
        subst l406 y406 z406
        obtain ⟨rfl, Nq406, E406⟩ := hQ406
        have Na407 := Fr.app Na402 Nq406
        have CR408 : CHr Z own_EL s.vm h0 T396.vm T406.heap := CR397.trans (CHr.ext E406 CR397.1)
        have CRz : CHr Z own_EL s.vm h0 T406.vm T406.heap := CR408.trans (CHv.at X406 hZ396 (own_ew hw) CR408.1)
        obtain ⟨fs, hr, hrun, hended, hRW⟩ := X406.leaveW hS396 ((Nat.le_trans hk396 E406.1)) (v := some (.int (1 : Int32))) (fun h => by rw [Bd.returns] at h; cases h)
        refine ⟨_, _, pre0 _ (go398 _ ?_), hrun, hended, _, _, rfl, ?_, ?_, own_rew hRW (by decide) (by decide)⟩
        · show Steps p.tables e below (T396.setTop (mkF m 90 #[.val (.int p1), .val (.int p2), .val (.int p3), .val (.int p4), .val (.int bb), .val (.ref ca385), .val (.int le), .val (.int nn), .val (.int pp), .val (.int cc), .val (.ref b393), .val .null] [(.ref ca396), (.ref b393)])) _
          refine st401.trans ?_
          show Steps p.tables e below (T401.setTop (mkF m 93 #[.val (.int p1), .val (.int p2), .val (.int p3), .val (.int p4), .val (.int bb), .val (.ref ca385), .val (.int le), .val (.int nn), .val (.int pp), .val (.int cc), .val (.ref b393), .val .null] [(.int (1 : Int32))])) _
          refine XS.ifNo X401.here hx rfl (hb hby at_93) rfl ((if0 _ _).trans (feq (by decide)).1) ?_
          show Steps p.tables e below (T401.setTop (mkF m 96 #[.val (.int p1), .val (.int p2), .val (.int p3), .val (.int p4), .val (.int bb), .val (.ref ca385), .val (.int le), .val (.int nn), .val (.int pp), .val (.int cc), .val (.ref b393), .val .null] [])) _
          refine st403 _ ?_
          show Steps p.tables e below (T403.setTop (mkF m 99 #[.val (.int p1), .val (.int p2), .val (.int p3), .val (.int p4), .val (.int bb), .val (.ref ca385), .val (.int le), .val (.int nn), .val (.int pp), .val (.int cc), .val (.ref b393), .val .null] [(.ref en0)])) _
          refine XS.astore X403.here hx rfl (hb hby at_99) rfl rfl (l' := #[.val (.int p1), .val (.int p2), .val (.int p3), .val (.int p4), .val (.int bb), .val (.ref ca385), .val (.int le), .val (.int nn), .val (.int pp), .val (.int cc), .val (.ref b393), .val (.ref en0)]) rfl ?_
          show Steps p.tables e below (T403.setTop (mkF m 101 #[.val (.int p1), .val (.int p2), .val (.int p3), .val (.int p4), .val (.int bb), .val (.ref ca385), .val (.int le), .val (.int nn), .val (.int pp), .val (.int cc), .val (.ref b393), .val (.ref en0)] [])) _
          refine XS.goto X403.here hx rfl (pc0 := 101) (pc' := 137) rfl (hb hby at_101) (by decide) (by decide) ?_
          show Steps p.tables e below (T403.setTop (mkF m 137 #[.val (.int p1), .val (.int p2), .val (.int p3), .val (.int p4), .val (.int bb), .val (.ref ca385), .val (.int le), .val (.int nn), .val (.int pp), .val (.int cc), .val (.ref b393), .val (.ref en0)] [])) _
          refine XS.aload X403.here hx rfl (hb hby at_137) rfl rfl ?_
          show Steps p.tables e below (T403.setTop (mkF m 139 #[.val (.int p1), .val (.int p2), .val (.int p3), .val (.int p4), .val (.int bb), .val (.ref ca385), .val (.int le), .val (.int nn), .val (.int pp), .val (.int cc), .val (.ref b393), .val (.ref en0)] [(.ref b393)])) _
          refine st406 _ ?_
          show Steps p.tables e below (T406.setTop (mkF m 142 #[.val (.int p1), .val (.int p2), .val (.int p3), .val (.int p4), .val (.int bb), .val (.ref ca385), .val (.int le), .val (.int nn), .val (.int pp), .val (.int cc), .val (.ref b393), .val (.ref en0)] [(.ref en0)])) _
          refine XS.aload X406.here hx rfl (hb hby at_142) rfl rfl ?_
          show Steps p.tables e below (T406.setTop (mkF m 144 #[.val (.int p1), .val (.int p2), .val (.int p3), .val (.int p4), .val (.int bb), .val (.ref ca385), .val (.int le), .val (.int nn), .val (.int pp), .val (.int cc), .val (.ref b393), .val (.ref en0)] [(.ref en0), (.ref en0)])) _
          refine Jvm.RoadKit.acmp (g := (mkF m 144 #[.val (.int p1), .val (.int p2), .val (.int p3), .val (.int p4), .val (.int bb), .val (.ref ca385), .val (.int le), .val (.int nn), .val (.int pp), .val (.int cc), .val (.ref b393), .val (.ref en0)] [(.ref en0), (.ref en0)])) X406 hx rfl rfl rfl (pc0 := 144) (pc' := 147) (same := true) rfl (hb hby at_144) rfl (decide_eq_true rfl) (by decide) (by decide) ?_
          show Steps p.tables e below (T406.setTop (mkF m 147 #[.val (.int p1), .val (.int p2), .val (.int p3), .val (.int p4), .val (.int bb), .val (.ref ca385), .val (.int le), .val (.int nn), .val (.int pp), .val (.int cc), .val (.ref b393), .val (.ref en0)] [])) _
          refine XS.iconst X406.here hx rfl (hb hby at_147) ?_
          show Steps p.tables e below (T406.setTop (mkF m 148 #[.val (.int p1), .val (.int p2), .val (.int p3), .val (.int p4), .val (.int bb), .val (.ref ca385), .val (.int le), .val (.int nn), .val (.int pp), .val (.int cc), .val (.ref b393), .val (.ref en0)] [(.int (1 : Int32))])) _
          refine XS.goto X406.here hx rfl (pc0 := 148) (pc' := 152) rfl (hb hby at_148) (by decide) (by decide) ?_
          show Steps p.tables e below (T406.setTop (mkF m 152 #[.val (.int p1), .val (.int p2), .val (.int p3), .val (.int p4), .val (.int bb), .val (.ref ca385), .val (.int le), .val (.int nn), .val (.int pp), .val (.int cc), .val (.ref b393), .val (.ref en0)] [(.int (1 : Int32))])) _
          exact retN X406 hx (t := .boolean) Bd.returns (by simp) (hb hby at_152) hr
        · show own_Ql n0 _ T406.heap _
          exact ⟨rfl, Na407⟩
        · show CHr Z own_EL s.vm s.heap T406.vm T406.heap
          rw [hh]; exact CRz
      · obtain ⟨ca409, T409, h409, kq409, cb409, kb409, X409, e409, E409, hS409, hk409, hZ409, ho409, Ex409, Co409, Va409, Ar409, la409, lb409, hC409, Li409, sf409, st409⟩ := ldcCH X401 hx hZ396 ho396 (hw _ (List.mem_of_getElem? (i := 82) rfl)) (own_sa hw) e401 hS396 hk396 (own_ew hw) (by decide) CR397.1 (vs := (([(83 : Int32), (116 : Int32), (101 : Int32), (112 : Int32)] : List Int32).map (fun c => c.toInt8.toInt32)).map Value.int) (z := (4 : Int32)) ⟨by decide, by decide +kernel⟩ (by decide) (by decide) (g := (mkF m 106 #[.val (.int p1), .val (.int p2), .val (.int p3), .val (.int p4), .val (.int bb), .val (.ref ca385), .val (.int le), .val (.int nn), .val (.int pp), .val (.int cc), .val (.ref b393), .val .null] [(.ref b393)])) rfl (hb hby at_106) (n := 16) (by decide) (by decide) (by decide) (by decide)
        have CR410 : CHr Z own_EL s.vm h0 T409.vm h409 := CR397.trans hC409
        have Sc409 : own_Str Z h409 ca409 ([(83 : Int32), (116 : Int32), (101 : Int32), (112 : Int32)] : List Int32) := ⟨Ex409, (own_cS (by decide) (own_cS (by decide) (own_cS (by decide) (own_cS (by decide) own_c0)))), cb409, kb409, Va409, Co409, Ar409⟩
        have go411 : ∀ t, Steps p.tables e below (T409.setTop (mkF m 108 #[.val (.int p1), .val (.int p2), .val (.int p3), .val (.int p4), .val (.int bb), .val (.ref ca385), .val (.int le), .val (.int nn), .val (.int pp), .val (.int cc), .val (.ref b393), .val .null] [(.ref ca409), (.ref b393)])) t → Steps p.tables e below (s₁.setTop (mkF m 0 #[.val (.int p1), .val (.int p2), .val (.int p3), .val (.int p4), .unset, .unset, .unset, .unset, .unset, .unset, .unset, .unset] [])) t := fun t kt => go398 t (by
            show Steps p.tables e below (T396.setTop (mkF m 90 #[.val (.int p1), .val (.int p2), .val (.int p3), .val (.int p4), .val (.int bb), .val (.ref ca385), .val (.int le), .val (.int nn), .val (.int pp), .val (.int cc), .val (.ref b393), .val .null] [(.ref ca396), (.ref b393)])) _
            refine st401.trans ?_
            show Steps p.tables e below (T401.setTop (mkF m 93 #[.val (.int p1), .val (.int p2), .val (.int p3), .val (.int p4), .val (.int bb), .val (.ref ca385), .val (.int le), .val (.int nn), .val (.int pp), .val (.int cc), .val (.ref b393), .val .null] [(.int (0 : Int32))])) _
            refine XS.ifYes X401.here hx rfl (pc0 := 93) (pc' := 104) rfl (hb hby at_93) rfl ((if0 _ _).trans (teq rfl).1) (by decide) (by decide) ?_
            show Steps p.tables e below (T401.setTop (mkF m 104 #[.val (.int p1), .val (.int p2), .val (.int p3), .val (.int p4), .val (.int bb), .val (.ref ca385), .val (.int le), .val (.int nn), .val (.int pp), .val (.int cc), .val (.ref b393), .val .null] [])) _
            refine XS.aload X401.here hx rfl (hb hby at_104) rfl rfl ?_
            show Steps p.tables e below (T401.setTop (mkF m 106 #[.val (.int p1), .val (.int p2), .val (.int p3), .val (.int p4), .val (.int bb), .val (.ref ca385), .val (.int le), .val (.int nn), .val (.int pp), .val (.int cc), .val (.ref b393), .val .null] [(.ref b393)])) _
            refine st409 _ ?_
            exact kt)
        have Xt412 : Ext T393.heap h409 := (own_xt E396 E409)
        have Xt413 : Ext Z.heap h409 := (own_xt Xt400 E409)
        obtain ⟨cq414, kq414, qa414, qb414, qc414⟩ := isOf hZ409 e409 (Str393.1.ext Xt412)
        obtain ⟨_, _, ⟨T414, L414, k414, n414⟩, -, X414, ⟨Lc414, hQ414, l414, y414, z414⟩, st414⟩ := X409.virtualBack hx (y := (⟨"java/lang/String", "equals", "(Ljava/lang/Object;)Z"⟩ : MethodName)) (z := (⟨"java/lang/String", "equals", "(Ljava/lang/Object;)Z"⟩ : MethodName)) ho409 (mvT hZ409 (hw _ (List.mem_of_getElem? (i := 73) rfl))) (mvT hZ409 (hw _ (List.mem_of_getElem? (i := 74) rfl))) (notFace_of_selects (args := #[]) (mvT hZ409 (hw _ (List.mem_of_getElem? (i := 76) rfl)))) (mvT hZ409 (hw _ (List.mem_of_getElem? (i := 76) rfl))) (mvT hZ409 (hw _ (List.mem_of_getElem? (i := 75) rfl))) (by decide) (own_eq (W := 0) hZ409 (own_wq hw) (hw _ (List.mem_of_getElem? (i := 3) rfl)) (Str393.ext Xt412) hl393 Sc409 (by decide) (S_C.ext Xt413) P5 (by decide) (by decide)) qa414 qc414 (g := (mkF m 108 #[.val (.int p1), .val (.int p2), .val (.int p3), .val (.int p4), .val (.int bb), .val (.ref ca385), .val (.int le), .val (.int nn), .val (.int pp), .val (.int cc), .val (.ref b393), .val .null] [(.ref ca409), (.ref b393)])) rfl (by rw [hml]; rfl) (Steps.refl _) (argsL := [(.ref ca409)]) (rest := []) (lenOf own_pd1 rfl) rfl (by show 2 * 0 + _ ≤ _; exact Nat.le_of_eq rfl) (hb hby at_108) (fun _ _ => ⟨rfl, e409, (by decide : 9 + 0 ≤ _), (by decide : 98 + 0 ≤ _)⟩)
        dsimp only [Pt.U, Pt.locs, Pt.cells, Pt.slots] at X414 l414 y414 z414 st414 hQ414
        subst l414 y414 z414
        obtain ⟨hcase414, rfl, e414⟩ := hQ414
        have Na415 := Fr.app Na402 (Fr.nil n0)
        rcases hcase414 with ⟨rfl, hq414⟩ | ⟨rfl, hq414⟩
        · obtain ⟨T416, X416, e416, st416⟩ := getS2 X414 hx hZ409 ho409 (host := "") (Or.inl (hw _ (List.mem_of_getElem? (i := 109) rfl))) Via.refl e414 (S1.ext Xt413) (g := (mkF m 114 #[.val (.int p1), .val (.int p2), .val (.int p3), .val (.int p4), .val (.int bb), .val (.ref ca385), .val (.int le), .val (.int nn), .val (.int pp), .val (.int cc), .val (.ref b393), .val .null] [])) rfl (hb hby at_114)
          have Gr419 : h0.size ≤ T393.heap.size := Nat.le_trans E385.1 E393.1
          have Gr418 : h0.size ≤ h396.size := Nat.le_trans Gr419 E396.1
          have Gr417 : h0.size ≤ h409.size := Nat.le_trans Gr418 E409.1
          obtain ⟨_, _, ⟨T420, L420, k420, n420⟩, -, X420, ⟨Lc420, hQ420, l420, y420, z420⟩, st420⟩ := Jvm.LawKit.callS X416 hx (y := (⟨"com/example/spatial_at_rest/spatialatrest/Interpolation", "named", "(Ljava/lang/String;)Lcom/example/spatial_at_rest/spatialatrest/Interpolation;"⟩ : MethodName)) ho409 (mvT hZ409 (hw _ (List.mem_of_getElem? (i := 84) rfl))) (mvT hZ409 (hw _ (List.mem_of_getElem? (i := 85) rfl))) (mvT hZ409 (hw _ (List.mem_of_getElem? (i := 86) rfl))) (mvT hZ409 (hw _ (List.mem_of_getElem? (i := 87) rfl))) (by decide) (backOf (W := 0) (own_named l Z a0 hw [] va en0 en1 en2 kA tx0 tx1 tx2 w2 b393 (.ref en1) ds393 h409 n0 (Nat.le_trans Z0 Gr417) Xt413 S_V EV AV S_C P5 F0 T0 F1 T1 F2 T2 (Str393.ext Xt412) hl393 (by unfold own_nm; rw [if_neg hq401, if_pos hq414])) hZ409 (hw _ (List.mem_of_getElem? (i := 87) rfl)) (hw _ (List.mem_of_getElem? (i := 86) rfl)) (by decide) (by decide)) (g := (mkF m 139 #[.val (.int p1), .val (.int p2), .val (.int p3), .val (.int p4), .val (.int bb), .val (.ref ca385), .val (.int le), .val (.int nn), .val (.int pp), .val (.int cc), .val (.ref b393), .val (.ref en1)] [(.ref b393)])) rfl (by rw [hml]; rfl) (argsL := [(.ref b393)]) (rest := []) (lenOf own_pd7 rfl) rfl (by show 2 * 0 + _ ≤ _; exact Nat.le_of_eq rfl) (hb hby at_139) (fun _ _ => ⟨rfl, e416, (by decide : 9 + 1 ≤ _), (by decide : 98 + 3 ≤ _)⟩)
          dsimp only [Pt.U, Pt.locs, Pt.cells, Pt.slots] at X420 l420 y420 z420 st420 hQ420
          subst l420 y420 z420
          obtain ⟨rfl, Nq420, E420⟩ := hQ420
          have Na421 := Fr.app Na415 Nq420
          have CR422 : CHr Z own_EL s.vm h0 T409.vm T420.heap := CR410.trans (CHr.ext E420 CR410.1)
          have CRz : CHr Z own_EL s.vm h0 T420.vm T420.heap := CR422.trans (CHv.at X420 hZ409 (own_ew hw) CR422.1)
          obtain ⟨fs, hr, hrun, hended, hRW⟩ := X420.leaveW hS409 ((Nat.le_trans hk409 E420.1)) (v := some (.int (1 : Int32))) (fun h => by rw [Bd.returns] at h; cases h)
          refine ⟨_, _, pre0 _ (go411 _ ?_), hrun, hended, _, _, rfl, ?_, ?_, own_rew hRW (by decide) (by decide)⟩
          · show Steps p.tables e below (T409.setTop (mkF m 108 #[.val (.int p1), .val (.int p2), .val (.int p3), .val (.int p4), .val (.int bb), .val (.ref ca385), .val (.int le), .val (.int nn), .val (.int pp), .val (.int cc), .val (.ref b393), .val .null] [(.ref ca409), (.ref b393)])) _
            refine st414.trans ?_
            show Steps p.tables e below (T414.setTop (mkF m 111 #[.val (.int p1), .val (.int p2), .val (.int p3), .val (.int p4), .val (.int bb), .val (.ref ca385), .val (.int le), .val (.int nn), .val (.int pp), .val (.int cc), .val (.ref b393), .val .null] [(.int (1 : Int32))])) _
            refine XS.ifNo X414.here hx rfl (hb hby at_111) rfl ((if0 _ _).trans (feq (by decide)).1) ?_
            show Steps p.tables e below (T414.setTop (mkF m 114 #[.val (.int p1), .val (.int p2), .val (.int p3), .val (.int p4), .val (.int bb), .val (.ref ca385), .val (.int le), .val (.int nn), .val (.int pp), .val (.int cc), .val (.ref b393), .val .null] [])) _
            refine st416 _ ?_
            show Steps p.tables e below (T416.setTop (mkF m 117 #[.val (.int p1), .val (.int p2), .val (.int p3), .val (.int p4), .val (.int bb), .val (.ref ca385), .val (.int le), .val (.int nn), .val (.int pp), .val (.int cc), .val (.ref b393), .val .null] [(.ref en1)])) _
            refine XS.astore X416.here hx rfl (hb hby at_117) rfl rfl (l' := #[.val (.int p1), .val (.int p2), .val (.int p3), .val (.int p4), .val (.int bb), .val (.ref ca385), .val (.int le), .val (.int nn), .val (.int pp), .val (.int cc), .val (.ref b393), .val (.ref en1)]) rfl ?_
            show Steps p.tables e below (T416.setTop (mkF m 119 #[.val (.int p1), .val (.int p2), .val (.int p3), .val (.int p4), .val (.int bb), .val (.ref ca385), .val (.int le), .val (.int nn), .val (.int pp), .val (.int cc), .val (.ref b393), .val (.ref en1)] [])) _
            refine XS.goto X416.here hx rfl (pc0 := 119) (pc' := 137) rfl (hb hby at_119) (by decide) (by decide) ?_
            show Steps p.tables e below (T416.setTop (mkF m 137 #[.val (.int p1), .val (.int p2), .val (.int p3), .val (.int p4), .val (.int bb), .val (.ref ca385), .val (.int le), .val (.int nn), .val (.int pp), .val (.int cc), .val (.ref b393), .val (.ref en1)] [])) _
            refine XS.aload X416.here hx rfl (hb hby at_137) rfl rfl ?_
            show Steps p.tables e below (T416.setTop (mkF m 139 #[.val (.int p1), .val (.int p2), .val (.int p3), .val (.int p4), .val (.int bb), .val (.ref ca385), .val (.int le), .val (.int nn), .val (.int pp), .val (.int cc), .val (.ref b393), .val (.ref en1)] [(.ref b393)])) _
            refine st420 _ ?_
            show Steps p.tables e below (T420.setTop (mkF m 142 #[.val (.int p1), .val (.int p2), .val (.int p3), .val (.int p4), .val (.int bb), .val (.ref ca385), .val (.int le), .val (.int nn), .val (.int pp), .val (.int cc), .val (.ref b393), .val (.ref en1)] [(.ref en1)])) _
            refine XS.aload X420.here hx rfl (hb hby at_142) rfl rfl ?_
            show Steps p.tables e below (T420.setTop (mkF m 144 #[.val (.int p1), .val (.int p2), .val (.int p3), .val (.int p4), .val (.int bb), .val (.ref ca385), .val (.int le), .val (.int nn), .val (.int pp), .val (.int cc), .val (.ref b393), .val (.ref en1)] [(.ref en1), (.ref en1)])) _
            refine Jvm.RoadKit.acmp (g := (mkF m 144 #[.val (.int p1), .val (.int p2), .val (.int p3), .val (.int p4), .val (.int bb), .val (.ref ca385), .val (.int le), .val (.int nn), .val (.int pp), .val (.int cc), .val (.ref b393), .val (.ref en1)] [(.ref en1), (.ref en1)])) X420 hx rfl rfl rfl (pc0 := 144) (pc' := 147) (same := true) rfl (hb hby at_144) rfl (decide_eq_true rfl) (by decide) (by decide) ?_
            show Steps p.tables e below (T420.setTop (mkF m 147 #[.val (.int p1), .val (.int p2), .val (.int p3), .val (.int p4), .val (.int bb), .val (.ref ca385), .val (.int le), .val (.int nn), .val (.int pp), .val (.int cc), .val (.ref b393), .val (.ref en1)] [])) _
            refine XS.iconst X420.here hx rfl (hb hby at_147) ?_
            show Steps p.tables e below (T420.setTop (mkF m 148 #[.val (.int p1), .val (.int p2), .val (.int p3), .val (.int p4), .val (.int bb), .val (.ref ca385), .val (.int le), .val (.int nn), .val (.int pp), .val (.int cc), .val (.ref b393), .val (.ref en1)] [(.int (1 : Int32))])) _
            refine XS.goto X420.here hx rfl (pc0 := 148) (pc' := 152) rfl (hb hby at_148) (by decide) (by decide) ?_
            show Steps p.tables e below (T420.setTop (mkF m 152 #[.val (.int p1), .val (.int p2), .val (.int p3), .val (.int p4), .val (.int bb), .val (.ref ca385), .val (.int le), .val (.int nn), .val (.int pp), .val (.int cc), .val (.ref b393), .val (.ref en1)] [(.int (1 : Int32))])) _
            exact retN X420 hx (t := .boolean) Bd.returns (by simp) (hb hby at_152) hr
          · show own_Ql n0 _ T420.heap _
            exact ⟨rfl, Na421⟩
          · show CHr Z own_EL s.vm s.heap T420.vm T420.heap
            rw [hh]; exact CRz
        · obtain ⟨ca423, T423, h423, kq423, cb423, kb423, X423, e423, E423, hS423, hk423, hZ423, ho423, Ex423, Co423, Va423, Ar423, la423, lb423, hC423, Li423, sf423, st423⟩ := ldcCH X414 hx hZ409 ho409 (hw _ (List.mem_of_getElem? (i := 83) rfl)) (own_sa hw) e414 hS409 hk409 (own_ew hw) (by decide) CR410.1 (vs := (([(76 : Int32), (105 : Int32), (110 : Int32), (101 : Int32), (97 : Int32), (114 : Int32)] : List Int32).map (fun c => c.toInt8.toInt32)).map Value.int) (z := (6 : Int32)) ⟨by decide, by decide +kernel⟩ (by decide) (by decide) (g := (mkF m 124 #[.val (.int p1), .val (.int p2), .val (.int p3), .val (.int p4), .val (.int bb), .val (.ref ca385), .val (.int le), .val (.int nn), .val (.int pp), .val (.int cc), .val (.ref b393), .val .null] [(.ref b393)])) rfl (hb hby at_124) (n := 24) (by decide) (by decide) (by decide) (by decide)
          have CR424 : CHr Z own_EL s.vm h0 T423.vm h423 := CR410.trans hC423
          have Sc423 : own_Str Z h423 ca423 ([(76 : Int32), (105 : Int32), (110 : Int32), (101 : Int32), (97 : Int32), (114 : Int32)] : List Int32) := ⟨Ex423, (own_cS (by decide) (own_cS (by decide) (own_cS (by decide) (own_cS (by decide) (own_cS (by decide) (own_cS (by decide) own_c0)))))), cb423, kb423, Va423, Co423, Ar423⟩
          have go425 : ∀ t, Steps p.tables e below (T423.setTop (mkF m 126 #[.val (.int p1), .val (.int p2), .val (.int p3), .val (.int p4), .val (.int bb), .val (.ref ca385), .val (.int le), .val (.int nn), .val (.int pp), .val (.int cc), .val (.ref b393), .val .null] [(.ref ca423), (.ref b393)])) t → Steps p.tables e below (s₁.setTop (mkF m 0 #[.val (.int p1), .val (.int p2), .val (.int p3), .val (.int p4), .unset, .unset, .unset, .unset, .unset, .unset, .unset, .unset] [])) t := fun t kt => go411 t (by
              show Steps p.tables e below (T409.setTop (mkF m 108 #[.val (.int p1), .val (.int p2), .val (.int p3), .val (.int p4), .val (.int bb), .val (.ref ca385), .val (.int le), .val (.int nn), .val (.int pp), .val (.int cc), .val (.ref b393), .val .null] [(.ref ca409), (.ref b393)])) _
              refine st414.trans ?_
              show Steps p.tables e below (T414.setTop (mkF m 111 #[.val (.int p1), .val (.int p2), .val (.int p3), .val (.int p4), .val (.int bb), .val (.ref ca385), .val (.int le), .val (.int nn), .val (.int pp), .val (.int cc), .val (.ref b393), .val .null] [(.int (0 : Int32))])) _
              refine XS.ifYes X414.here hx rfl (pc0 := 111) (pc' := 122) rfl (hb hby at_111) rfl ((if0 _ _).trans (teq rfl).1) (by decide) (by decide) ?_
              show Steps p.tables e below (T414.setTop (mkF m 122 #[.val (.int p1), .val (.int p2), .val (.int p3), .val (.int p4), .val (.int bb), .val (.ref ca385), .val (.int le), .val (.int nn), .val (.int pp), .val (.int cc), .val (.ref b393), .val .null] [])) _
              refine XS.aload X414.here hx rfl (hb hby at_122) rfl rfl ?_
              show Steps p.tables e below (T414.setTop (mkF m 124 #[.val (.int p1), .val (.int p2), .val (.int p3), .val (.int p4), .val (.int bb), .val (.ref ca385), .val (.int le), .val (.int nn), .val (.int pp), .val (.int cc), .val (.ref b393), .val .null] [(.ref b393)])) _
              refine st423 _ ?_
              exact kt)
          have Xt426 : Ext T393.heap h423 := (own_xt Xt412 E423)
          have Xt427 : Ext Z.heap h423 := (own_xt Xt413 E423)
          obtain ⟨cq428, kq428, qa428, qb428, qc428⟩ := isOf hZ423 e423 (Str393.1.ext Xt426)
          obtain ⟨_, _, ⟨T428, L428, k428, n428⟩, -, X428, ⟨Lc428, hQ428, l428, y428, z428⟩, st428⟩ := X423.virtualBack hx (y := (⟨"java/lang/String", "equals", "(Ljava/lang/Object;)Z"⟩ : MethodName)) (z := (⟨"java/lang/String", "equals", "(Ljava/lang/Object;)Z"⟩ : MethodName)) ho423 (mvT hZ423 (hw _ (List.mem_of_getElem? (i := 73) rfl))) (mvT hZ423 (hw _ (List.mem_of_getElem? (i := 74) rfl))) (notFace_of_selects (args := #[]) (mvT hZ423 (hw _ (List.mem_of_getElem? (i := 76) rfl)))) (mvT hZ423 (hw _ (List.mem_of_getElem? (i := 76) rfl))) (mvT hZ423 (hw _ (List.mem_of_getElem? (i := 75) rfl))) (by decide) (own_eq (W := 0) hZ423 (own_wq hw) (hw _ (List.mem_of_getElem? (i := 3) rfl)) (Str393.ext Xt426) hl393 Sc423 (by decide) (S_C.ext Xt427) P5 (by decide) (by decide)) qa428 qc428 (g := (mkF m 126 #[.val (.int p1), .val (.int p2), .val (.int p3), .val (.int p4), .val (.int bb), .val (.ref ca385), .val (.int le), .val (.int nn), .val (.int pp), .val (.int cc), .val (.ref b393), .val .null] [(.ref ca423), (.ref b393)])) rfl (by rw [hml]; rfl) (Steps.refl _) (argsL := [(.ref ca423)]) (rest := []) (lenOf own_pd1 rfl) rfl (by show 2 * 0 + _ ≤ _; exact Nat.le_of_eq rfl) (hb hby at_126) (fun _ _ => ⟨rfl, e423, (by decide : 11 + 0 ≤ _), (by decide : 126 + 0 ≤ _)⟩)
          dsimp only [Pt.U, Pt.locs, Pt.cells, Pt.slots] at X428 l428 y428 z428 st428 hQ428
          subst l428 y428 z428
          obtain ⟨hcase428, rfl, e428⟩ := hQ428
          have Na429 := Fr.app Na415 (Fr.nil n0)
          rcases hcase428 with ⟨rfl, hq428⟩ | ⟨rfl, hq428⟩
          · obtain ⟨T430, X430, e430, st430⟩ := getS2 X428 hx hZ423 ho423 (host := "") (Or.inl (hw _ (List.mem_of_getElem? (i := 111) rfl))) Via.refl e428 (S2.ext Xt427) (g := (mkF m 132 #[.val (.int p1), .val (.int p2), .val (.int p3), .val (.int p4), .val (.int bb), .val (.ref ca385), .val (.int le), .val (.int nn), .val (.int pp), .val (.int cc), .val (.ref b393), .val .null] [])) rfl (hb hby at_132)
            have Gr434 : h0.size ≤ T393.heap.size := Nat.le_trans E385.1 E393.1
            have Gr433 : h0.size ≤ h396.size := Nat.le_trans Gr434 E396.1
            have Gr432 : h0.size ≤ h409.size := Nat.le_trans Gr433 E409.1
            have Gr431 : h0.size ≤ h423.size := Nat.le_trans Gr432 E423.1
            obtain ⟨_, _, ⟨T435, L435, k435, n435⟩, -, X435, ⟨Lc435, hQ435, l435, y435, z435⟩, st435⟩ := Jvm.LawKit.callS X430 hx (y := (⟨"com/example/spatial_at_rest/spatialatrest/Interpolation", "named", "(Ljava/lang/String;)Lcom/example/spatial_at_rest/spatialatrest/Interpolation;"⟩ : MethodName)) ho423 (mvT hZ423 (hw _ (List.mem_of_getElem? (i := 84) rfl))) (mvT hZ423 (hw _ (List.mem_of_getElem? (i := 85) rfl))) (mvT hZ423 (hw _ (List.mem_of_getElem? (i := 86) rfl))) (mvT hZ423 (hw _ (List.mem_of_getElem? (i := 87) rfl))) (by decide) (backOf (W := 0) (own_named l Z a0 hw [] va en0 en1 en2 kA tx0 tx1 tx2 w2 b393 (.ref en2) ds393 h423 n0 (Nat.le_trans Z0 Gr431) Xt427 S_V EV AV S_C P5 F0 T0 F1 T1 F2 T2 (Str393.ext Xt426) hl393 (by unfold own_nm; rw [if_neg hq401, if_neg hq414, if_pos hq428])) hZ423 (hw _ (List.mem_of_getElem? (i := 87) rfl)) (hw _ (List.mem_of_getElem? (i := 86) rfl)) (by decide) (by decide)) (g := (mkF m 139 #[.val (.int p1), .val (.int p2), .val (.int p3), .val (.int p4), .val (.int bb), .val (.ref ca385), .val (.int le), .val (.int nn), .val (.int pp), .val (.int cc), .val (.ref b393), .val (.ref en2)] [(.ref b393)])) rfl (by rw [hml]; rfl) (argsL := [(.ref b393)]) (rest := []) (lenOf own_pd7 rfl) rfl (by show 2 * 0 + _ ≤ _; exact Nat.le_of_eq rfl) (hb hby at_139) (fun _ _ => ⟨rfl, e430, (by decide : 11 + 1 ≤ _), (by decide : 126 + 3 ≤ _)⟩)
            dsimp only [Pt.U, Pt.locs, Pt.cells, Pt.slots] at X435 l435 y435 z435 st435 hQ435
            subst l435 y435 z435
            obtain ⟨rfl, Nq435, E435⟩ := hQ435
            have Na436 := Fr.app Na429 Nq435
            have CR437 : CHr Z own_EL s.vm h0 T423.vm T435.heap := CR424.trans (CHr.ext E435 CR424.1)
            have CRz : CHr Z own_EL s.vm h0 T435.vm T435.heap := CR437.trans (CHv.at X435 hZ423 (own_ew hw) CR437.1)
            obtain ⟨fs, hr, hrun, hended, hRW⟩ := X435.leaveW hS423 ((Nat.le_trans hk423 E435.1)) (v := some (.int (1 : Int32))) (fun h => by rw [Bd.returns] at h; cases h)
            refine ⟨_, _, pre0 _ (go425 _ ?_), hrun, hended, _, _, rfl, ?_, ?_, own_rew hRW (by decide) (by decide)⟩
            · show Steps p.tables e below (T423.setTop (mkF m 126 #[.val (.int p1), .val (.int p2), .val (.int p3), .val (.int p4), .val (.int bb), .val (.ref ca385), .val (.int le), .val (.int nn), .val (.int pp), .val (.int cc), .val (.ref b393), .val .null] [(.ref ca423), (.ref b393)])) _
              refine st428.trans ?_
              show Steps p.tables e below (T428.setTop (mkF m 129 #[.val (.int p1), .val (.int p2), .val (.int p3), .val (.int p4), .val (.int bb), .val (.ref ca385), .val (.int le), .val (.int nn), .val (.int pp), .val (.int cc), .val (.ref b393), .val .null] [(.int (1 : Int32))])) _
              refine XS.ifNo X428.here hx rfl (hb hby at_129) rfl ((if0 _ _).trans (feq (by decide)).1) ?_
              show Steps p.tables e below (T428.setTop (mkF m 132 #[.val (.int p1), .val (.int p2), .val (.int p3), .val (.int p4), .val (.int bb), .val (.ref ca385), .val (.int le), .val (.int nn), .val (.int pp), .val (.int cc), .val (.ref b393), .val .null] [])) _
              refine st430 _ ?_
              show Steps p.tables e below (T430.setTop (mkF m 135 #[.val (.int p1), .val (.int p2), .val (.int p3), .val (.int p4), .val (.int bb), .val (.ref ca385), .val (.int le), .val (.int nn), .val (.int pp), .val (.int cc), .val (.ref b393), .val .null] [(.ref en2)])) _
              refine XS.astore X430.here hx rfl (hb hby at_135) rfl rfl (l' := #[.val (.int p1), .val (.int p2), .val (.int p3), .val (.int p4), .val (.int bb), .val (.ref ca385), .val (.int le), .val (.int nn), .val (.int pp), .val (.int cc), .val (.ref b393), .val (.ref en2)]) rfl ?_
              show Steps p.tables e below (T430.setTop (mkF m 137 #[.val (.int p1), .val (.int p2), .val (.int p3), .val (.int p4), .val (.int bb), .val (.ref ca385), .val (.int le), .val (.int nn), .val (.int pp), .val (.int cc), .val (.ref b393), .val (.ref en2)] [])) _
              refine XS.aload X430.here hx rfl (hb hby at_137) rfl rfl ?_
              show Steps p.tables e below (T430.setTop (mkF m 139 #[.val (.int p1), .val (.int p2), .val (.int p3), .val (.int p4), .val (.int bb), .val (.ref ca385), .val (.int le), .val (.int nn), .val (.int pp), .val (.int cc), .val (.ref b393), .val (.ref en2)] [(.ref b393)])) _
              refine st435 _ ?_
              show Steps p.tables e below (T435.setTop (mkF m 142 #[.val (.int p1), .val (.int p2), .val (.int p3), .val (.int p4), .val (.int bb), .val (.ref ca385), .val (.int le), .val (.int nn), .val (.int pp), .val (.int cc), .val (.ref b393), .val (.ref en2)] [(.ref en2)])) _
              refine XS.aload X435.here hx rfl (hb hby at_142) rfl rfl ?_
              show Steps p.tables e below (T435.setTop (mkF m 144 #[.val (.int p1), .val (.int p2), .val (.int p3), .val (.int p4), .val (.int bb), .val (.ref ca385), .val (.int le), .val (.int nn), .val (.int pp), .val (.int cc), .val (.ref b393), .val (.ref en2)] [(.ref en2), (.ref en2)])) _
              refine Jvm.RoadKit.acmp (g := (mkF m 144 #[.val (.int p1), .val (.int p2), .val (.int p3), .val (.int p4), .val (.int bb), .val (.ref ca385), .val (.int le), .val (.int nn), .val (.int pp), .val (.int cc), .val (.ref b393), .val (.ref en2)] [(.ref en2), (.ref en2)])) X435 hx rfl rfl rfl (pc0 := 144) (pc' := 147) (same := true) rfl (hb hby at_144) rfl (decide_eq_true rfl) (by decide) (by decide) ?_
              show Steps p.tables e below (T435.setTop (mkF m 147 #[.val (.int p1), .val (.int p2), .val (.int p3), .val (.int p4), .val (.int bb), .val (.ref ca385), .val (.int le), .val (.int nn), .val (.int pp), .val (.int cc), .val (.ref b393), .val (.ref en2)] [])) _
              refine XS.iconst X435.here hx rfl (hb hby at_147) ?_
              show Steps p.tables e below (T435.setTop (mkF m 148 #[.val (.int p1), .val (.int p2), .val (.int p3), .val (.int p4), .val (.int bb), .val (.ref ca385), .val (.int le), .val (.int nn), .val (.int pp), .val (.int cc), .val (.ref b393), .val (.ref en2)] [(.int (1 : Int32))])) _
              refine XS.goto X435.here hx rfl (pc0 := 148) (pc' := 152) rfl (hb hby at_148) (by decide) (by decide) ?_
              show Steps p.tables e below (T435.setTop (mkF m 152 #[.val (.int p1), .val (.int p2), .val (.int p3), .val (.int p4), .val (.int bb), .val (.ref ca385), .val (.int le), .val (.int nn), .val (.int pp), .val (.int cc), .val (.ref b393), .val (.ref en2)] [(.int (1 : Int32))])) _
              exact retN X435 hx (t := .boolean) Bd.returns (by simp) (hb hby at_152) hr
            · show own_Ql n0 _ T435.heap _
              exact ⟨rfl, Na436⟩
            · show CHr Z own_EL s.vm s.heap T435.vm T435.heap
              rw [hh]; exact CRz
          · have Gr441 : h0.size ≤ T393.heap.size := Nat.le_trans E385.1 E393.1
            have Gr440 : h0.size ≤ h396.size := Nat.le_trans Gr441 E396.1
            have Gr439 : h0.size ≤ h409.size := Nat.le_trans Gr440 E409.1
            have Gr438 : h0.size ≤ h423.size := Nat.le_trans Gr439 E423.1
            obtain ⟨_, _, ⟨T442, L442, k442, n442⟩, -, X442, ⟨Lc442, hQ442, l442, y442, z442⟩, st442⟩ := Jvm.LawKit.callS X428 hx (y := (⟨"com/example/spatial_at_rest/spatialatrest/Interpolation", "named", "(Ljava/lang/String;)Lcom/example/spatial_at_rest/spatialatrest/Interpolation;"⟩ : MethodName)) ho423 (mvT hZ423 (hw _ (List.mem_of_getElem? (i := 84) rfl))) (mvT hZ423 (hw _ (List.mem_of_getElem? (i := 85) rfl))) (mvT hZ423 (hw _ (List.mem_of_getElem? (i := 86) rfl))) (mvT hZ423 (hw _ (List.mem_of_getElem? (i := 87) rfl))) (by decide) (backOf (W := 0) (own_named l Z a0 hw [] va en0 en1 en2 kA tx0 tx1 tx2 w2 b393 .null ds393 h423 n0 (Nat.le_trans Z0 Gr438) Xt427 S_V EV AV S_C P5 F0 T0 F1 T1 F2 T2 (Str393.ext Xt426) hl393 (by unfold own_nm; rw [if_neg hq401, if_neg hq414, if_neg hq428])) hZ423 (hw _ (List.mem_of_getElem? (i := 87) rfl)) (hw _ (List.mem_of_getElem? (i := 86) rfl)) (by decide) (by decide)) (g := (mkF m 139 #[.val (.int p1), .val (.int p2), .val (.int p3), .val (.int p4), .val (.int bb), .val (.ref ca385), .val (.int le), .val (.int nn), .val (.int pp), .val (.int cc), .val (.ref b393), .val .null] [(.ref b393)])) rfl (by rw [hml]; rfl) (argsL := [(.ref b393)]) (rest := []) (lenOf own_pd7 rfl) rfl (by show 2 * 0 + _ ≤ _; exact Nat.le_of_eq rfl) (hb hby at_139) (fun _ _ => ⟨rfl, e428, (by decide : 11 + 1 ≤ _), (by decide : 126 + 3 ≤ _)⟩)
            dsimp only [Pt.U, Pt.locs, Pt.cells, Pt.slots] at X442 l442 y442 z442 st442 hQ442
            subst l442 y442 z442
            obtain ⟨rfl, Nq442, E442⟩ := hQ442
            have Na443 := Fr.app Na429 Nq442
            have CR444 : CHr Z own_EL s.vm h0 T423.vm T442.heap := CR424.trans (CHr.ext E442 CR424.1)
            have CRz : CHr Z own_EL s.vm h0 T442.vm T442.heap := CR444.trans (CHv.at X442 hZ423 (own_ew hw) CR444.1)
            obtain ⟨fs, hr, hrun, hended, hRW⟩ := X442.leaveW hS423 ((Nat.le_trans hk423 E442.1)) (v := some (.int (1 : Int32))) (fun h => by rw [Bd.returns] at h; cases h)
            refine ⟨_, _, pre0 _ (go425 _ ?_), hrun, hended, _, _, rfl, ?_, ?_, own_rew hRW (by decide) (by decide)⟩
            · show Steps p.tables e below (T423.setTop (mkF m 126 #[.val (.int p1), .val (.int p2), .val (.int p3), .val (.int p4), .val (.int bb), .val (.ref ca385), .val (.int le), .val (.int nn), .val (.int pp), .val (.int cc), .val (.ref b393), .val .null] [(.ref ca423), (.ref b393)])) _
              refine st428.trans ?_
              show Steps p.tables e below (T428.setTop (mkF m 129 #[.val (.int p1), .val (.int p2), .val (.int p3), .val (.int p4), .val (.int bb), .val (.ref ca385), .val (.int le), .val (.int nn), .val (.int pp), .val (.int cc), .val (.ref b393), .val .null] [(.int (0 : Int32))])) _
              refine XS.ifYes X428.here hx rfl (pc0 := 129) (pc' := 137) rfl (hb hby at_129) rfl ((if0 _ _).trans (teq rfl).1) (by decide) (by decide) ?_
              show Steps p.tables e below (T428.setTop (mkF m 137 #[.val (.int p1), .val (.int p2), .val (.int p3), .val (.int p4), .val (.int bb), .val (.ref ca385), .val (.int le), .val (.int nn), .val (.int pp), .val (.int cc), .val (.ref b393), .val .null] [])) _
              refine XS.aload X428.here hx rfl (hb hby at_137) rfl rfl ?_
              show Steps p.tables e below (T428.setTop (mkF m 139 #[.val (.int p1), .val (.int p2), .val (.int p3), .val (.int p4), .val (.int bb), .val (.ref ca385), .val (.int le), .val (.int nn), .val (.int pp), .val (.int cc), .val (.ref b393), .val .null] [(.ref b393)])) _
              refine st442 _ ?_
              show Steps p.tables e below (T442.setTop (mkF m 142 #[.val (.int p1), .val (.int p2), .val (.int p3), .val (.int p4), .val (.int bb), .val (.ref ca385), .val (.int le), .val (.int nn), .val (.int pp), .val (.int cc), .val (.ref b393), .val .null] [.null])) _
              refine XS.aload X442.here hx rfl (hb hby at_142) rfl rfl ?_
              show Steps p.tables e below (T442.setTop (mkF m 144 #[.val (.int p1), .val (.int p2), .val (.int p3), .val (.int p4), .val (.int bb), .val (.ref ca385), .val (.int le), .val (.int nn), .val (.int pp), .val (.int cc), .val (.ref b393), .val .null] [.null, .null])) _
              refine Jvm.RoadKit.acmp (g := (mkF m 144 #[.val (.int p1), .val (.int p2), .val (.int p3), .val (.int p4), .val (.int bb), .val (.ref ca385), .val (.int le), .val (.int nn), .val (.int pp), .val (.int cc), .val (.ref b393), .val .null] [.null, .null])) X442 hx rfl rfl rfl (pc0 := 144) (pc' := 147) (same := true) rfl (hb hby at_144) rfl (decide_eq_true rfl) (by decide) (by decide) ?_
              show Steps p.tables e below (T442.setTop (mkF m 147 #[.val (.int p1), .val (.int p2), .val (.int p3), .val (.int p4), .val (.int bb), .val (.ref ca385), .val (.int le), .val (.int nn), .val (.int pp), .val (.int cc), .val (.ref b393), .val .null] [])) _
              refine XS.iconst X442.here hx rfl (hb hby at_147) ?_
              show Steps p.tables e below (T442.setTop (mkF m 148 #[.val (.int p1), .val (.int p2), .val (.int p3), .val (.int p4), .val (.int bb), .val (.ref ca385), .val (.int le), .val (.int nn), .val (.int pp), .val (.int cc), .val (.ref b393), .val .null] [(.int (1 : Int32))])) _
              refine XS.goto X442.here hx rfl (pc0 := 148) (pc' := 152) rfl (hb hby at_148) (by decide) (by decide) ?_
              show Steps p.tables e below (T442.setTop (mkF m 152 #[.val (.int p1), .val (.int p2), .val (.int p3), .val (.int p4), .val (.int bb), .val (.ref ca385), .val (.int le), .val (.int nn), .val (.int pp), .val (.int cc), .val (.ref b393), .val .null] [(.int (1 : Int32))])) _
              exact retN X442 hx (t := .boolean) Bd.returns (by simp) (hb hby at_152) hr
            · show own_Ql n0 _ T442.heap _
              exact ⟨rfl, Na443⟩
            · show CHr Z own_EL s.vm s.heap T442.vm T442.heap
              rw [hh]; exact CRz
    · obtain ⟨ca445, T445, h445, kq445, cb445, kb445, X445, e445, E445, hS445, hk445, hZ445, ho445, Ex445, Co445, Va445, Ar445, la445, lb445, hC445, Li445, sf445, st445⟩ := ldcCH X0 hx hZ hown (hw _ (List.mem_of_getElem? (i := 83) rfl)) (own_sa hw) e0 hS0 (Nat.zero_le _) (own_ew hw) (by decide) CR0.1 (vs := (([(76 : Int32), (105 : Int32), (110 : Int32), (101 : Int32), (97 : Int32), (114 : Int32)] : List Int32).map (fun c => c.toInt8.toInt32)).map Value.int) (z := (6 : Int32)) ⟨by decide, by decide +kernel⟩ (by decide) (by decide) (g := (mkF m 29 #[.val (.int p1), .val (.int p2), .val (.int p3), .val (.int p4), .val (.int bb), .unset, .unset, .unset, .unset, .unset, .unset, .unset] [])) rfl (hb hby at_29) (n := 24) (by decide) (by decide) (by decide) (by decide)
      have CR446 : CHr Z own_EL s.vm h0 T445.vm h445 := CR0.trans hC445
      have Sc445 : own_Str Z h445 ca445 ([(76 : Int32), (105 : Int32), (110 : Int32), (101 : Int32), (97 : Int32), (114 : Int32)] : List Int32) := ⟨Ex445, (own_cS (by decide) (own_cS (by decide) (own_cS (by decide) (own_cS (by decide) (own_cS (by decide) (own_cS (by decide) own_c0)))))), cb445, kb445, Va445, Co445, Ar445⟩
      have Xt447 : Ext Z.heap h445 := (own_xt O0 E445)
      obtain ⟨cq448, kq448, qa448, qb448, qc448⟩ := isOf hZ445 e445 Ex445
      obtain ⟨_, _, ⟨T448, L448, k448, n448⟩, -, X448, ⟨Lc448, hQ448, l448, y448, z448⟩, st448⟩ := X445.virtualBack hx (y := (⟨"java/lang/String", "length", "()I"⟩ : MethodName)) (z := (⟨"java/lang/String", "length", "()I"⟩ : MethodName)) ho445 (mvT hZ445 (hw _ (List.mem_of_getElem? (i := 9) rfl))) (mvT hZ445 (hw _ (List.mem_of_getElem? (i := 10) rfl))) (notFace_of_selects (args := #[]) (mvT hZ445 (hw _ (List.mem_of_getElem? (i := 12) rfl)))) (mvT hZ445 (hw _ (List.mem_of_getElem? (i := 12) rfl))) (mvT hZ445 (hw _ (List.mem_of_getElem? (i := 11) rfl))) (by decide) (own_lenP (W := 0) hZ445 (own_wl hw) (hw _ (List.mem_of_getElem? (i := 3) rfl)) Sc445 (by decide) (S_C.ext Xt447) P5 (by decide) (by decide)) qa448 qc448 (g := (mkF m 35 #[.val (.int p1), .val (.int p2), .val (.int p3), .val (.int p4), .val (.int bb), .val (.ref ca445), .unset, .unset, .unset, .unset, .unset, .unset] [(.ref ca445)])) rfl (by rw [hml]; rfl) (Steps.refl _) (argsL := []) (rest := []) (lenOf own_pd2 rfl) rfl (by show 2 * 0 + _ ≤ _; exact Nat.le_of_eq rfl) (hb hby at_35) (fun _ _ => ⟨rfl, e445, (by decide : 2 + 0 ≤ _), (by decide : 28 + 0 ≤ _)⟩)
      dsimp only [Pt.U, Pt.locs, Pt.cells, Pt.slots] at X448 l448 y448 z448 st448 hQ448
      subst l448 y448 z448
      obtain ⟨rfl, rfl, e448⟩ := hQ448
      have Na449 := Fr.app N0 (Fr.nil n0)
      have go450 : ∀ t, Steps p.tables e below (T448.setTop (mkF m 38 #[.val (.int p1), .val (.int p2), .val (.int p3), .val (.int p4), .val (.int bb), .val (.ref ca445), .unset, .unset, .unset, .unset, .unset, .unset] [(.int (Int32.ofNat ([(76 : Int32), (105 : Int32), (110 : Int32), (101 : Int32), (97 : Int32), (114 : Int32)] : List Int32).length))])) t → Steps p.tables e below (s₁.setTop (mkF m 0 #[.val (.int p1), .val (.int p2), .val (.int p3), .val (.int p4), .unset, .unset, .unset, .unset, .unset, .unset, .unset, .unset] [])) t := fun t kt => go323 t (by
          show Steps p.tables e below (s₁.setTop (mkF m 21 #[.val (.int p1), .val (.int p2), .val (.int p3), .val (.int p4), .val (.int bb), .unset, .unset, .unset, .unset, .unset, .unset, .unset] [(.int (1 : Int32)), (.int bb)])) _
          refine XS.icmpYes X0.here hx rfl (pc0 := 21) (pc' := 29) rfl (hb hby at_21) rfl (feq hc324).2 (by decide) (by decide) ?_
          show Steps p.tables e below (s₁.setTop (mkF m 29 #[.val (.int p1), .val (.int p2), .val (.int p3), .val (.int p4), .val (.int bb), .unset, .unset, .unset, .unset, .unset, .unset, .unset] [])) _
          refine st445 _ ?_
          show Steps p.tables e below (T445.setTop (mkF m 31 #[.val (.int p1), .val (.int p2), .val (.int p3), .val (.int p4), .val (.int bb), .unset, .unset, .unset, .unset, .unset, .unset, .unset] [(.ref ca445)])) _
          refine XS.astore X445.here hx rfl (hb hby at_31) rfl rfl (l' := #[.val (.int p1), .val (.int p2), .val (.int p3), .val (.int p4), .val (.int bb), .val (.ref ca445), .unset, .unset, .unset, .unset, .unset, .unset]) rfl ?_
          show Steps p.tables e below (T445.setTop (mkF m 33 #[.val (.int p1), .val (.int p2), .val (.int p3), .val (.int p4), .val (.int bb), .val (.ref ca445), .unset, .unset, .unset, .unset, .unset, .unset] [])) _
          refine XS.aload X445.here hx rfl (hb hby at_33) rfl rfl ?_
          show Steps p.tables e below (T445.setTop (mkF m 35 #[.val (.int p1), .val (.int p2), .val (.int p3), .val (.int p4), .val (.int bb), .val (.ref ca445), .unset, .unset, .unset, .unset, .unset, .unset] [(.ref ca445)])) _
          refine st448.trans ?_
          exact kt)
      obtain ⟨le, nn, pp, cc, hgo452, go452⟩ : ∃ (le : Int32) (nn : Int32) (pp : Int32) (cc : Int32), (¬ cc < 0 ∧ ¬ (255 : Int32) < cc) ∧ ∀ t, Steps p.tables e below (T448.setTop (mkF m 70 #[.val (.int p1), .val (.int p2), .val (.int p3), .val (.int p4), .val (.int bb), .val (.ref ca445), .val (.int le), .val (.int nn), .val (.int pp), .val (.int cc), .unset, .unset] [])) t → Steps p.tables e below (s₁.setTop (mkF m 0 #[.val (.int p1), .val (.int p2), .val (.int p3), .val (.int p4), .unset, .unset, .unset, .unset, .unset, .unset, .unset, .unset] [])) t := by
        have go451 : ∀ t, Steps p.tables e below (T448.setTop (mkF m 70 #[.val (.int p1), .val (.int p2), .val (.int p3), .val (.int p4), .val (.int bb), .val (.ref ca445), .val (.int (Int32.ofNat ([(76 : Int32), (105 : Int32), (110 : Int32), (101 : Int32), (97 : Int32), (114 : Int32)] : List Int32).length)), .val (.int (((Int32.ofNat ([(76 : Int32), (105 : Int32), (110 : Int32), (101 : Int32), (97 : Int32), (114 : Int32)] : List Int32).length) - (1 : Int32)) + ((p4 &&& (2147483647 : Int32)) % (3 : Int32)))), .val (.int ((p2 &&& (2147483647 : Int32)) % (10 : Int32))), .val (.int ((p3 &&& (255 : Int32)).toUInt32.toUInt16.toUInt32.toInt32)), .unset, .unset] [])) t → Steps p.tables e below (s₁.setTop (mkF m 0 #[.val (.int p1), .val (.int p2), .val (.int p3), .val (.int p4), .unset, .unset, .unset, .unset, .unset, .unset, .unset, .unset] [])) t := fun t kt => go450 t (by
            show Steps p.tables e below (T448.setTop (mkF m 38 #[.val (.int p1), .val (.int p2), .val (.int p3), .val (.int p4), .val (.int bb), .val (.ref ca445), .unset, .unset, .unset, .unset, .unset, .unset] [(.int (Int32.ofNat ([(76 : Int32), (105 : Int32), (110 : Int32), (101 : Int32), (97 : Int32), (114 : Int32)] : List Int32).length))])) _
            refine XS.istore X448.here hx rfl (hb hby at_38) rfl (l' := #[.val (.int p1), .val (.int p2), .val (.int p3), .val (.int p4), .val (.int bb), .val (.ref ca445), .val (.int (Int32.ofNat ([(76 : Int32), (105 : Int32), (110 : Int32), (101 : Int32), (97 : Int32), (114 : Int32)] : List Int32).length)), .unset, .unset, .unset, .unset, .unset]) rfl ?_
            show Steps p.tables e below (T448.setTop (mkF m 40 #[.val (.int p1), .val (.int p2), .val (.int p3), .val (.int p4), .val (.int bb), .val (.ref ca445), .val (.int (Int32.ofNat ([(76 : Int32), (105 : Int32), (110 : Int32), (101 : Int32), (97 : Int32), (114 : Int32)] : List Int32).length)), .unset, .unset, .unset, .unset, .unset] [])) _
            refine XS.iload X448.here hx rfl (hb hby at_40) rfl ?_
            show Steps p.tables e below (T448.setTop (mkF m 42 #[.val (.int p1), .val (.int p2), .val (.int p3), .val (.int p4), .val (.int bb), .val (.ref ca445), .val (.int (Int32.ofNat ([(76 : Int32), (105 : Int32), (110 : Int32), (101 : Int32), (97 : Int32), (114 : Int32)] : List Int32).length)), .unset, .unset, .unset, .unset, .unset] [(.int (Int32.ofNat ([(76 : Int32), (105 : Int32), (110 : Int32), (101 : Int32), (97 : Int32), (114 : Int32)] : List Int32).length))])) _
            refine XS.iconst X448.here hx rfl (hb hby at_42) ?_
            show Steps p.tables e below (T448.setTop (mkF m 43 #[.val (.int p1), .val (.int p2), .val (.int p3), .val (.int p4), .val (.int bb), .val (.ref ca445), .val (.int (Int32.ofNat ([(76 : Int32), (105 : Int32), (110 : Int32), (101 : Int32), (97 : Int32), (114 : Int32)] : List Int32).length)), .unset, .unset, .unset, .unset, .unset] [(.int (1 : Int32)), (.int (Int32.ofNat ([(76 : Int32), (105 : Int32), (110 : Int32), (101 : Int32), (97 : Int32), (114 : Int32)] : List Int32).length))])) _
            refine XS.isub X448.here hx rfl (hb hby at_43) rfl ?_
            show Steps p.tables e below (T448.setTop (mkF m 44 #[.val (.int p1), .val (.int p2), .val (.int p3), .val (.int p4), .val (.int bb), .val (.ref ca445), .val (.int (Int32.ofNat ([(76 : Int32), (105 : Int32), (110 : Int32), (101 : Int32), (97 : Int32), (114 : Int32)] : List Int32).length)), .unset, .unset, .unset, .unset, .unset] [(.int ((Int32.ofNat ([(76 : Int32), (105 : Int32), (110 : Int32), (101 : Int32), (97 : Int32), (114 : Int32)] : List Int32).length) - (1 : Int32)))])) _
            refine XS.iloadN X448.here hx rfl (hb hby at_44) rfl ?_
            show Steps p.tables e below (T448.setTop (mkF m 45 #[.val (.int p1), .val (.int p2), .val (.int p3), .val (.int p4), .val (.int bb), .val (.ref ca445), .val (.int (Int32.ofNat ([(76 : Int32), (105 : Int32), (110 : Int32), (101 : Int32), (97 : Int32), (114 : Int32)] : List Int32).length)), .unset, .unset, .unset, .unset, .unset] [(.int p4), (.int ((Int32.ofNat ([(76 : Int32), (105 : Int32), (110 : Int32), (101 : Int32), (97 : Int32), (114 : Int32)] : List Int32).length) - (1 : Int32)))])) _
            refine X448.ldcInt hx ho445 (mvT hZ445 (hw _ (List.mem_of_getElem? (i := 0) rfl))) (g := (mkF m 45 #[.val (.int p1), .val (.int p2), .val (.int p3), .val (.int p4), .val (.int bb), .val (.ref ca445), .val (.int (Int32.ofNat ([(76 : Int32), (105 : Int32), (110 : Int32), (101 : Int32), (97 : Int32), (114 : Int32)] : List Int32).length)), .unset, .unset, .unset, .unset, .unset] [(.int p4), (.int ((Int32.ofNat ([(76 : Int32), (105 : Int32), (110 : Int32), (101 : Int32), (97 : Int32), (114 : Int32)] : List Int32).length) - (1 : Int32)))])) rfl (hb hby at_45) _ ?_
            show Steps p.tables e below (T448.setTop (mkF m 47 #[.val (.int p1), .val (.int p2), .val (.int p3), .val (.int p4), .val (.int bb), .val (.ref ca445), .val (.int (Int32.ofNat ([(76 : Int32), (105 : Int32), (110 : Int32), (101 : Int32), (97 : Int32), (114 : Int32)] : List Int32).length)), .unset, .unset, .unset, .unset, .unset] [(.int (2147483647 : Int32)), (.int p4), (.int ((Int32.ofNat ([(76 : Int32), (105 : Int32), (110 : Int32), (101 : Int32), (97 : Int32), (114 : Int32)] : List Int32).length) - (1 : Int32)))])) _
            refine XS.iand X448.here hx rfl (hb hby at_47) rfl ?_
            show Steps p.tables e below (T448.setTop (mkF m 48 #[.val (.int p1), .val (.int p2), .val (.int p3), .val (.int p4), .val (.int bb), .val (.ref ca445), .val (.int (Int32.ofNat ([(76 : Int32), (105 : Int32), (110 : Int32), (101 : Int32), (97 : Int32), (114 : Int32)] : List Int32).length)), .unset, .unset, .unset, .unset, .unset] [(.int (p4 &&& (2147483647 : Int32))), (.int ((Int32.ofNat ([(76 : Int32), (105 : Int32), (110 : Int32), (101 : Int32), (97 : Int32), (114 : Int32)] : List Int32).length) - (1 : Int32)))])) _
            refine XS.iconst X448.here hx rfl (hb hby at_48) ?_
            show Steps p.tables e below (T448.setTop (mkF m 49 #[.val (.int p1), .val (.int p2), .val (.int p3), .val (.int p4), .val (.int bb), .val (.ref ca445), .val (.int (Int32.ofNat ([(76 : Int32), (105 : Int32), (110 : Int32), (101 : Int32), (97 : Int32), (114 : Int32)] : List Int32).length)), .unset, .unset, .unset, .unset, .unset] [(.int (3 : Int32)), (.int (p4 &&& (2147483647 : Int32))), (.int ((Int32.ofNat ([(76 : Int32), (105 : Int32), (110 : Int32), (101 : Int32), (97 : Int32), (114 : Int32)] : List Int32).length) - (1 : Int32)))])) _
            refine Jvm.RoadKit.iremM X448 hx rfl (hb hby at_49) rfl (by decide) ?_
            show Steps p.tables e below (T448.setTop (mkF m 50 #[.val (.int p1), .val (.int p2), .val (.int p3), .val (.int p4), .val (.int bb), .val (.ref ca445), .val (.int (Int32.ofNat ([(76 : Int32), (105 : Int32), (110 : Int32), (101 : Int32), (97 : Int32), (114 : Int32)] : List Int32).length)), .unset, .unset, .unset, .unset, .unset] [(.int ((p4 &&& (2147483647 : Int32)) % (3 : Int32))), (.int ((Int32.ofNat ([(76 : Int32), (105 : Int32), (110 : Int32), (101 : Int32), (97 : Int32), (114 : Int32)] : List Int32).length) - (1 : Int32)))])) _
            refine XS.iadd X448.here hx rfl (hb hby at_50) rfl ?_
            show Steps p.tables e below (T448.setTop (mkF m 51 #[.val (.int p1), .val (.int p2), .val (.int p3), .val (.int p4), .val (.int bb), .val (.ref ca445), .val (.int (Int32.ofNat ([(76 : Int32), (105 : Int32), (110 : Int32), (101 : Int32), (97 : Int32), (114 : Int32)] : List Int32).length)), .unset, .unset, .unset, .unset, .unset] [(.int (((Int32.ofNat ([(76 : Int32), (105 : Int32), (110 : Int32), (101 : Int32), (97 : Int32), (114 : Int32)] : List Int32).length) - (1 : Int32)) + ((p4 &&& (2147483647 : Int32)) % (3 : Int32))))])) _
            refine XS.istore X448.here hx rfl (hb hby at_51) rfl (l' := #[.val (.int p1), .val (.int p2), .val (.int p3), .val (.int p4), .val (.int bb), .val (.ref ca445), .val (.int (Int32.ofNat ([(76 : Int32), (105 : Int32), (110 : Int32), (101 : Int32), (97 : Int32), (114 : Int32)] : List Int32).length)), .val (.int (((Int32.ofNat ([(76 : Int32), (105 : Int32), (110 : Int32), (101 : Int32), (97 : Int32), (114 : Int32)] : List Int32).length) - (1 : Int32)) + ((p4 &&& (2147483647 : Int32)) % (3 : Int32)))), .unset, .unset, .unset, .unset]) rfl ?_
            show Steps p.tables e below (T448.setTop (mkF m 53 #[.val (.int p1), .val (.int p2), .val (.int p3), .val (.int p4), .val (.int bb), .val (.ref ca445), .val (.int (Int32.ofNat ([(76 : Int32), (105 : Int32), (110 : Int32), (101 : Int32), (97 : Int32), (114 : Int32)] : List Int32).length)), .val (.int (((Int32.ofNat ([(76 : Int32), (105 : Int32), (110 : Int32), (101 : Int32), (97 : Int32), (114 : Int32)] : List Int32).length) - (1 : Int32)) + ((p4 &&& (2147483647 : Int32)) % (3 : Int32)))), .unset, .unset, .unset, .unset] [])) _
            refine XS.iloadN X448.here hx rfl (hb hby at_53) rfl ?_
            show Steps p.tables e below (T448.setTop (mkF m 54 #[.val (.int p1), .val (.int p2), .val (.int p3), .val (.int p4), .val (.int bb), .val (.ref ca445), .val (.int (Int32.ofNat ([(76 : Int32), (105 : Int32), (110 : Int32), (101 : Int32), (97 : Int32), (114 : Int32)] : List Int32).length)), .val (.int (((Int32.ofNat ([(76 : Int32), (105 : Int32), (110 : Int32), (101 : Int32), (97 : Int32), (114 : Int32)] : List Int32).length) - (1 : Int32)) + ((p4 &&& (2147483647 : Int32)) % (3 : Int32)))), .unset, .unset, .unset, .unset] [(.int p2)])) _
            refine X448.ldcInt hx ho445 (mvT hZ445 (hw _ (List.mem_of_getElem? (i := 0) rfl))) (g := (mkF m 54 #[.val (.int p1), .val (.int p2), .val (.int p3), .val (.int p4), .val (.int bb), .val (.ref ca445), .val (.int (Int32.ofNat ([(76 : Int32), (105 : Int32), (110 : Int32), (101 : Int32), (97 : Int32), (114 : Int32)] : List Int32).length)), .val (.int (((Int32.ofNat ([(76 : Int32), (105 : Int32), (110 : Int32), (101 : Int32), (97 : Int32), (114 : Int32)] : List Int32).length) - (1 : Int32)) + ((p4 &&& (2147483647 : Int32)) % (3 : Int32)))), .unset, .unset, .unset, .unset] [(.int p2)])) rfl (hb hby at_54) _ ?_
            show Steps p.tables e below (T448.setTop (mkF m 56 #[.val (.int p1), .val (.int p2), .val (.int p3), .val (.int p4), .val (.int bb), .val (.ref ca445), .val (.int (Int32.ofNat ([(76 : Int32), (105 : Int32), (110 : Int32), (101 : Int32), (97 : Int32), (114 : Int32)] : List Int32).length)), .val (.int (((Int32.ofNat ([(76 : Int32), (105 : Int32), (110 : Int32), (101 : Int32), (97 : Int32), (114 : Int32)] : List Int32).length) - (1 : Int32)) + ((p4 &&& (2147483647 : Int32)) % (3 : Int32)))), .unset, .unset, .unset, .unset] [(.int (2147483647 : Int32)), (.int p2)])) _
            refine XS.iand X448.here hx rfl (hb hby at_56) rfl ?_
            show Steps p.tables e below (T448.setTop (mkF m 57 #[.val (.int p1), .val (.int p2), .val (.int p3), .val (.int p4), .val (.int bb), .val (.ref ca445), .val (.int (Int32.ofNat ([(76 : Int32), (105 : Int32), (110 : Int32), (101 : Int32), (97 : Int32), (114 : Int32)] : List Int32).length)), .val (.int (((Int32.ofNat ([(76 : Int32), (105 : Int32), (110 : Int32), (101 : Int32), (97 : Int32), (114 : Int32)] : List Int32).length) - (1 : Int32)) + ((p4 &&& (2147483647 : Int32)) % (3 : Int32)))), .unset, .unset, .unset, .unset] [(.int (p2 &&& (2147483647 : Int32)))])) _
            refine XS.bipush X448.here hx rfl (hb hby at_57) ?_
            show Steps p.tables e below (T448.setTop (mkF m 59 #[.val (.int p1), .val (.int p2), .val (.int p3), .val (.int p4), .val (.int bb), .val (.ref ca445), .val (.int (Int32.ofNat ([(76 : Int32), (105 : Int32), (110 : Int32), (101 : Int32), (97 : Int32), (114 : Int32)] : List Int32).length)), .val (.int (((Int32.ofNat ([(76 : Int32), (105 : Int32), (110 : Int32), (101 : Int32), (97 : Int32), (114 : Int32)] : List Int32).length) - (1 : Int32)) + ((p4 &&& (2147483647 : Int32)) % (3 : Int32)))), .unset, .unset, .unset, .unset] [(.int (10 : Int32)), (.int (p2 &&& (2147483647 : Int32)))])) _
            refine Jvm.RoadKit.iremM X448 hx rfl (hb hby at_59) rfl (by decide) ?_
            show Steps p.tables e below (T448.setTop (mkF m 60 #[.val (.int p1), .val (.int p2), .val (.int p3), .val (.int p4), .val (.int bb), .val (.ref ca445), .val (.int (Int32.ofNat ([(76 : Int32), (105 : Int32), (110 : Int32), (101 : Int32), (97 : Int32), (114 : Int32)] : List Int32).length)), .val (.int (((Int32.ofNat ([(76 : Int32), (105 : Int32), (110 : Int32), (101 : Int32), (97 : Int32), (114 : Int32)] : List Int32).length) - (1 : Int32)) + ((p4 &&& (2147483647 : Int32)) % (3 : Int32)))), .unset, .unset, .unset, .unset] [(.int ((p2 &&& (2147483647 : Int32)) % (10 : Int32)))])) _
            refine XS.istore X448.here hx rfl (hb hby at_60) rfl (l' := #[.val (.int p1), .val (.int p2), .val (.int p3), .val (.int p4), .val (.int bb), .val (.ref ca445), .val (.int (Int32.ofNat ([(76 : Int32), (105 : Int32), (110 : Int32), (101 : Int32), (97 : Int32), (114 : Int32)] : List Int32).length)), .val (.int (((Int32.ofNat ([(76 : Int32), (105 : Int32), (110 : Int32), (101 : Int32), (97 : Int32), (114 : Int32)] : List Int32).length) - (1 : Int32)) + ((p4 &&& (2147483647 : Int32)) % (3 : Int32)))), .val (.int ((p2 &&& (2147483647 : Int32)) % (10 : Int32))), .unset, .unset, .unset]) rfl ?_
            show Steps p.tables e below (T448.setTop (mkF m 62 #[.val (.int p1), .val (.int p2), .val (.int p3), .val (.int p4), .val (.int bb), .val (.ref ca445), .val (.int (Int32.ofNat ([(76 : Int32), (105 : Int32), (110 : Int32), (101 : Int32), (97 : Int32), (114 : Int32)] : List Int32).length)), .val (.int (((Int32.ofNat ([(76 : Int32), (105 : Int32), (110 : Int32), (101 : Int32), (97 : Int32), (114 : Int32)] : List Int32).length) - (1 : Int32)) + ((p4 &&& (2147483647 : Int32)) % (3 : Int32)))), .val (.int ((p2 &&& (2147483647 : Int32)) % (10 : Int32))), .unset, .unset, .unset] [])) _
            refine XS.iloadN X448.here hx rfl (hb hby at_62) rfl ?_
            show Steps p.tables e below (T448.setTop (mkF m 63 #[.val (.int p1), .val (.int p2), .val (.int p3), .val (.int p4), .val (.int bb), .val (.ref ca445), .val (.int (Int32.ofNat ([(76 : Int32), (105 : Int32), (110 : Int32), (101 : Int32), (97 : Int32), (114 : Int32)] : List Int32).length)), .val (.int (((Int32.ofNat ([(76 : Int32), (105 : Int32), (110 : Int32), (101 : Int32), (97 : Int32), (114 : Int32)] : List Int32).length) - (1 : Int32)) + ((p4 &&& (2147483647 : Int32)) % (3 : Int32)))), .val (.int ((p2 &&& (2147483647 : Int32)) % (10 : Int32))), .unset, .unset, .unset] [(.int p3)])) _
            refine XS.sipush X448.here hx rfl (hb hby at_63) ?_
            show Steps p.tables e below (T448.setTop (mkF m 66 #[.val (.int p1), .val (.int p2), .val (.int p3), .val (.int p4), .val (.int bb), .val (.ref ca445), .val (.int (Int32.ofNat ([(76 : Int32), (105 : Int32), (110 : Int32), (101 : Int32), (97 : Int32), (114 : Int32)] : List Int32).length)), .val (.int (((Int32.ofNat ([(76 : Int32), (105 : Int32), (110 : Int32), (101 : Int32), (97 : Int32), (114 : Int32)] : List Int32).length) - (1 : Int32)) + ((p4 &&& (2147483647 : Int32)) % (3 : Int32)))), .val (.int ((p2 &&& (2147483647 : Int32)) % (10 : Int32))), .unset, .unset, .unset] [(.int (255 : Int32)), (.int p3)])) _
            refine XS.iand X448.here hx rfl (hb hby at_66) rfl ?_
            show Steps p.tables e below (T448.setTop (mkF m 67 #[.val (.int p1), .val (.int p2), .val (.int p3), .val (.int p4), .val (.int bb), .val (.ref ca445), .val (.int (Int32.ofNat ([(76 : Int32), (105 : Int32), (110 : Int32), (101 : Int32), (97 : Int32), (114 : Int32)] : List Int32).length)), .val (.int (((Int32.ofNat ([(76 : Int32), (105 : Int32), (110 : Int32), (101 : Int32), (97 : Int32), (114 : Int32)] : List Int32).length) - (1 : Int32)) + ((p4 &&& (2147483647 : Int32)) % (3 : Int32)))), .val (.int ((p2 &&& (2147483647 : Int32)) % (10 : Int32))), .unset, .unset, .unset] [(.int (p3 &&& (255 : Int32)))])) _
            refine XS.i2c X448.here hx rfl (hb hby at_67) rfl ?_
            show Steps p.tables e below (T448.setTop (mkF m 68 #[.val (.int p1), .val (.int p2), .val (.int p3), .val (.int p4), .val (.int bb), .val (.ref ca445), .val (.int (Int32.ofNat ([(76 : Int32), (105 : Int32), (110 : Int32), (101 : Int32), (97 : Int32), (114 : Int32)] : List Int32).length)), .val (.int (((Int32.ofNat ([(76 : Int32), (105 : Int32), (110 : Int32), (101 : Int32), (97 : Int32), (114 : Int32)] : List Int32).length) - (1 : Int32)) + ((p4 &&& (2147483647 : Int32)) % (3 : Int32)))), .val (.int ((p2 &&& (2147483647 : Int32)) % (10 : Int32))), .unset, .unset, .unset] [(.int ((p3 &&& (255 : Int32)).toUInt32.toUInt16.toUInt32.toInt32))])) _
            refine XS.istore X448.here hx rfl (hb hby at_68) rfl (l' := #[.val (.int p1), .val (.int p2), .val (.int p3), .val (.int p4), .val (.int bb), .val (.ref ca445), .val (.int (Int32.ofNat ([(76 : Int32), (105 : Int32), (110 : Int32), (101 : Int32), (97 : Int32), (114 : Int32)] : List Int32).length)), .val (.int (((Int32.ofNat ([(76 : Int32), (105 : Int32), (110 : Int32), (101 : Int32), (97 : Int32), (114 : Int32)] : List Int32).length) - (1 : Int32)) + ((p4 &&& (2147483647 : Int32)) % (3 : Int32)))), .val (.int ((p2 &&& (2147483647 : Int32)) % (10 : Int32))), .val (.int ((p3 &&& (255 : Int32)).toUInt32.toUInt16.toUInt32.toInt32)), .unset, .unset]) rfl ?_
            exact kt)
        exact ⟨(Int32.ofNat ([(76 : Int32), (105 : Int32), (110 : Int32), (101 : Int32), (97 : Int32), (114 : Int32)] : List Int32).length), (((Int32.ofNat ([(76 : Int32), (105 : Int32), (110 : Int32), (101 : Int32), (97 : Int32), (114 : Int32)] : List Int32).length) - (1 : Int32)) + ((p4 &&& (2147483647 : Int32)) % (3 : Int32))), ((p2 &&& (2147483647 : Int32)) % (10 : Int32)), ((p3 &&& (255 : Int32)).toUInt32.toUInt16.toUInt32.toInt32), own_d255 _, go451⟩
      obtain ⟨_, _, ⟨T453, L453, k453, n453⟩, -, X453, ⟨Lc453, hQ453, l453, y453, z453⟩, st453⟩ := Jvm.LawKit.callS X448 hx (y := (⟨"com/example/spatial_at_rest/spatialatrest/InterpolationNamedPinLaw", "make", "(Ljava/lang/String;IIC)Ljava/lang/String;"⟩ : MethodName)) ho445 (mvT hZ445 (hw _ (List.mem_of_getElem? (i := 22) rfl))) (mvT hZ445 (hw _ (List.mem_of_getElem? (i := 23) rfl))) (mvT hZ445 (hw _ (List.mem_of_getElem? (i := 24) rfl))) (mvT hZ445 (hw _ (List.mem_of_getElem? (i := 25) rfl))) (by decide) (backOf (W := 0) (own_mk l Z a0 hw [] ca445 nn pp cc w2 ([(76 : Int32), (105 : Int32), (110 : Int32), (101 : Int32), (97 : Int32), (114 : Int32)] : List Int32) fm h445 n0 (Nat.le_trans Z0 E445.1) Sc445 (by decide) (S_C.ext Xt447) P5 (S_F.ext Xt447) rf hgo452) hZ445 (hw _ (List.mem_of_getElem? (i := 25) rfl)) (hw _ (List.mem_of_getElem? (i := 24) rfl)) (by decide) (by decide)) (g := (mkF m 78 #[.val (.int p1), .val (.int p2), .val (.int p3), .val (.int p4), .val (.int bb), .val (.ref ca445), .val (.int le), .val (.int nn), .val (.int pp), .val (.int cc), .unset, .unset] [(.int cc), (.int pp), (.int nn), (.ref ca445)])) rfl (by rw [hml]; rfl) (argsL := [(.ref ca445), (.int nn), (.int pp), (.int cc)]) (rest := []) (lenOf own_pd6 rfl) rfl (by show 2 * 0 + _ ≤ _; exact Nat.le_of_eq rfl) (hb hby at_78) (fun _ _ => ⟨rfl, e448, (by decide : 2 + 3 ≤ _), (by decide : 28 + 22 ≤ _)⟩)
      dsimp only [Pt.U, Pt.locs, Pt.cells, Pt.slots] at X453 l453 y453 z453 st453 hQ453
      subst l453 y453 z453
      obtain ⟨b453, ds453, rfl, Nq453, E453, Str453, hl453⟩ := hQ453
      have Na454 := Fr.app Na449 Nq453
      have CR455 : CHr Z own_EL s.vm h0 T445.vm T453.heap := CR446.trans (CHr.ext E453 CR446.1)
      obtain ⟨ca456, T456, h456, kq456, cb456, kb456, X456, e456, E456, hS456, hk456, hZ456, ho456, Ex456, Co456, Va456, Ar456, la456, lb456, hC456, Li456, sf456, st456⟩ := ldcCH X453 hx hZ445 ho445 (hw _ (List.mem_of_getElem? (i := 1) rfl)) (own_sa hw) rfl hS445 (Nat.le_trans hk445 E453.1) (own_ew hw) (by decide) CR455.1 (vs := (([(68 : Int32), (105 : Int32), (115 : Int32), (99 : Int32), (114 : Int32), (101 : Int32), (116 : Int32), (101 : Int32)] : List Int32).map (fun c => c.toInt8.toInt32)).map Value.int) (z := (8 : Int32)) ⟨by decide, by decide +kernel⟩ (by decide) (by decide) (g := (mkF m 88 #[.val (.int p1), .val (.int p2), .val (.int p3), .val (.int p4), .val (.int bb), .val (.ref ca445), .val (.int le), .val (.int nn), .val (.int pp), .val (.int cc), .val (.ref b453), .val .null] [(.ref b453)])) rfl (hb hby at_88) (n := 32) (by decide) (by decide) (by decide) (by decide)
      have CR457 : CHr Z own_EL s.vm h0 T456.vm h456 := CR455.trans hC456
      have Sc456 : own_Str Z h456 ca456 ([(68 : Int32), (105 : Int32), (115 : Int32), (99 : Int32), (114 : Int32), (101 : Int32), (116 : Int32), (101 : Int32)] : List Int32) := ⟨Ex456, (own_cS (by decide) (own_cS (by decide) (own_cS (by decide) (own_cS (by decide) (own_cS (by decide) (own_cS (by decide) (own_cS (by decide) (own_cS (by decide) own_c0)))))))), cb456, kb456, Va456, Co456, Ar456⟩
      have go458 : ∀ t, Steps p.tables e below (T456.setTop (mkF m 90 #[.val (.int p1), .val (.int p2), .val (.int p3), .val (.int p4), .val (.int bb), .val (.ref ca445), .val (.int le), .val (.int nn), .val (.int pp), .val (.int cc), .val (.ref b453), .val .null] [(.ref ca456), (.ref b453)])) t → Steps p.tables e below (s₁.setTop (mkF m 0 #[.val (.int p1), .val (.int p2), .val (.int p3), .val (.int p4), .unset, .unset, .unset, .unset, .unset, .unset, .unset, .unset] [])) t := fun t kt => go452 t (by
          show Steps p.tables e below (T448.setTop (mkF m 70 #[.val (.int p1), .val (.int p2), .val (.int p3), .val (.int p4), .val (.int bb), .val (.ref ca445), .val (.int le), .val (.int nn), .val (.int pp), .val (.int cc), .unset, .unset] [])) _
          refine XS.aload X448.here hx rfl (hb hby at_70) rfl rfl ?_
          show Steps p.tables e below (T448.setTop (mkF m 72 #[.val (.int p1), .val (.int p2), .val (.int p3), .val (.int p4), .val (.int bb), .val (.ref ca445), .val (.int le), .val (.int nn), .val (.int pp), .val (.int cc), .unset, .unset] [(.ref ca445)])) _
          refine XS.iload X448.here hx rfl (hb hby at_72) rfl ?_
          show Steps p.tables e below (T448.setTop (mkF m 74 #[.val (.int p1), .val (.int p2), .val (.int p3), .val (.int p4), .val (.int bb), .val (.ref ca445), .val (.int le), .val (.int nn), .val (.int pp), .val (.int cc), .unset, .unset] [(.int nn), (.ref ca445)])) _
          refine XS.iload X448.here hx rfl (hb hby at_74) rfl ?_
          show Steps p.tables e below (T448.setTop (mkF m 76 #[.val (.int p1), .val (.int p2), .val (.int p3), .val (.int p4), .val (.int bb), .val (.ref ca445), .val (.int le), .val (.int nn), .val (.int pp), .val (.int cc), .unset, .unset] [(.int pp), (.int nn), (.ref ca445)])) _
          refine XS.iload X448.here hx rfl (hb hby at_76) rfl ?_
          show Steps p.tables e below (T448.setTop (mkF m 78 #[.val (.int p1), .val (.int p2), .val (.int p3), .val (.int p4), .val (.int bb), .val (.ref ca445), .val (.int le), .val (.int nn), .val (.int pp), .val (.int cc), .unset, .unset] [(.int cc), (.int pp), (.int nn), (.ref ca445)])) _
          refine st453 _ ?_
          show Steps p.tables e below (T453.setTop (mkF m 81 #[.val (.int p1), .val (.int p2), .val (.int p3), .val (.int p4), .val (.int bb), .val (.ref ca445), .val (.int le), .val (.int nn), .val (.int pp), .val (.int cc), .unset, .unset] [(.ref b453)])) _
          refine XS.astore X453.here hx rfl (hb hby at_81) rfl rfl (l' := #[.val (.int p1), .val (.int p2), .val (.int p3), .val (.int p4), .val (.int bb), .val (.ref ca445), .val (.int le), .val (.int nn), .val (.int pp), .val (.int cc), .val (.ref b453), .unset]) rfl ?_
          show Steps p.tables e below (T453.setTop (mkF m 83 #[.val (.int p1), .val (.int p2), .val (.int p3), .val (.int p4), .val (.int bb), .val (.ref ca445), .val (.int le), .val (.int nn), .val (.int pp), .val (.int cc), .val (.ref b453), .unset] [])) _
          refine XS.aconstNull X453.here hx rfl (hb hby at_83) ?_
          show Steps p.tables e below (T453.setTop (mkF m 84 #[.val (.int p1), .val (.int p2), .val (.int p3), .val (.int p4), .val (.int bb), .val (.ref ca445), .val (.int le), .val (.int nn), .val (.int pp), .val (.int cc), .val (.ref b453), .unset] [.null])) _
          refine XS.astore X453.here hx rfl (hb hby at_84) rfl rfl (l' := #[.val (.int p1), .val (.int p2), .val (.int p3), .val (.int p4), .val (.int bb), .val (.ref ca445), .val (.int le), .val (.int nn), .val (.int pp), .val (.int cc), .val (.ref b453), .val .null]) rfl ?_
          show Steps p.tables e below (T453.setTop (mkF m 86 #[.val (.int p1), .val (.int p2), .val (.int p3), .val (.int p4), .val (.int bb), .val (.ref ca445), .val (.int le), .val (.int nn), .val (.int pp), .val (.int cc), .val (.ref b453), .val .null] [])) _
          refine XS.aload X453.here hx rfl (hb hby at_86) rfl rfl ?_
          show Steps p.tables e below (T453.setTop (mkF m 88 #[.val (.int p1), .val (.int p2), .val (.int p3), .val (.int p4), .val (.int bb), .val (.ref ca445), .val (.int le), .val (.int nn), .val (.int pp), .val (.int cc), .val (.ref b453), .val .null] [(.ref b453)])) _
          refine st456 _ ?_
          exact kt)
      have Xt459 : Ext Z.heap T453.heap := (own_xt Xt447 E453)
      have Xt460 : Ext Z.heap h456 := (own_xt Xt459 E456)
      obtain ⟨cq461, kq461, qa461, qb461, qc461⟩ := isOf hZ456 e456 (Str453.1.ext E456)
      obtain ⟨_, _, ⟨T461, L461, k461, n461⟩, -, X461, ⟨Lc461, hQ461, l461, y461, z461⟩, st461⟩ := X456.virtualBack hx (y := (⟨"java/lang/String", "equals", "(Ljava/lang/Object;)Z"⟩ : MethodName)) (z := (⟨"java/lang/String", "equals", "(Ljava/lang/Object;)Z"⟩ : MethodName)) ho456 (mvT hZ456 (hw _ (List.mem_of_getElem? (i := 73) rfl))) (mvT hZ456 (hw _ (List.mem_of_getElem? (i := 74) rfl))) (notFace_of_selects (args := #[]) (mvT hZ456 (hw _ (List.mem_of_getElem? (i := 76) rfl)))) (mvT hZ456 (hw _ (List.mem_of_getElem? (i := 76) rfl))) (mvT hZ456 (hw _ (List.mem_of_getElem? (i := 75) rfl))) (by decide) (own_eq (W := 0) hZ456 (own_wq hw) (hw _ (List.mem_of_getElem? (i := 3) rfl)) (Str453.ext E456) hl453 Sc456 (by decide) (S_C.ext Xt460) P5 (by decide) (by decide)) qa461 qc461 (g := (mkF m 90 #[.val (.int p1), .val (.int p2), .val (.int p3), .val (.int p4), .val (.int bb), .val (.ref ca445), .val (.int le), .val (.int nn), .val (.int pp), .val (.int cc), .val (.ref b453), .val .null] [(.ref ca456), (.ref b453)])) rfl (by rw [hml]; rfl) (Steps.refl _) (argsL := [(.ref ca456)]) (rest := []) (lenOf own_pd1 rfl) rfl (by show 2 * 0 + _ ≤ _; exact Nat.le_of_eq rfl) (hb hby at_90) (fun _ _ => ⟨rfl, e456, (by decide : 7 + 0 ≤ _), (by decide : 86 + 0 ≤ _)⟩)
      dsimp only [Pt.U, Pt.locs, Pt.cells, Pt.slots] at X461 l461 y461 z461 st461 hQ461
      subst l461 y461 z461
      obtain ⟨hcase461, rfl, e461⟩ := hQ461
      have Na462 := Fr.app Na454 (Fr.nil n0)
      rcases hcase461 with ⟨rfl, hq461⟩ | ⟨rfl, hq461⟩
      · obtain ⟨T463, X463, e463, st463⟩ := getS2 X461 hx hZ456 ho456 (host := "") (Or.inl (hw _ (List.mem_of_getElem? (i := 110) rfl))) Via.refl e461 (S0.ext Xt460) (g := (mkF m 96 #[.val (.int p1), .val (.int p2), .val (.int p3), .val (.int p4), .val (.int bb), .val (.ref ca445), .val (.int le), .val (.int nn), .val (.int pp), .val (.int cc), .val (.ref b453), .val .null] [])) rfl (hb hby at_96)
        have Gr465 : h0.size ≤ T453.heap.size := Nat.le_trans E445.1 E453.1
        have Gr464 : h0.size ≤ h456.size := Nat.le_trans Gr465 E456.1
        obtain ⟨_, _, ⟨T466, L466, k466, n466⟩, -, X466, ⟨Lc466, hQ466, l466, y466, z466⟩, st466⟩ := Jvm.LawKit.callS X463 hx (y := (⟨"com/example/spatial_at_rest/spatialatrest/Interpolation", "named", "(Ljava/lang/String;)Lcom/example/spatial_at_rest/spatialatrest/Interpolation;"⟩ : MethodName)) ho456 (mvT hZ456 (hw _ (List.mem_of_getElem? (i := 84) rfl))) (mvT hZ456 (hw _ (List.mem_of_getElem? (i := 85) rfl))) (mvT hZ456 (hw _ (List.mem_of_getElem? (i := 86) rfl))) (mvT hZ456 (hw _ (List.mem_of_getElem? (i := 87) rfl))) (by decide) (backOf (W := 0) (own_named l Z a0 hw [] va en0 en1 en2 kA tx0 tx1 tx2 w2 b453 (.ref en0) ds453 h456 n0 (Nat.le_trans Z0 Gr464) Xt460 S_V EV AV S_C P5 F0 T0 F1 T1 F2 T2 (Str453.ext E456) hl453 (by unfold own_nm; rw [if_pos hq461])) hZ456 (hw _ (List.mem_of_getElem? (i := 87) rfl)) (hw _ (List.mem_of_getElem? (i := 86) rfl)) (by decide) (by decide)) (g := (mkF m 139 #[.val (.int p1), .val (.int p2), .val (.int p3), .val (.int p4), .val (.int bb), .val (.ref ca445), .val (.int le), .val (.int nn), .val (.int pp), .val (.int cc), .val (.ref b453), .val (.ref en0)] [(.ref b453)])) rfl (by rw [hml]; rfl) (argsL := [(.ref b453)]) (rest := []) (lenOf own_pd7 rfl) rfl (by show 2 * 0 + _ ≤ _; exact Nat.le_of_eq rfl) (hb hby at_139) (fun _ _ => ⟨rfl, e463, (by decide : 7 + 1 ≤ _), (by decide : 86 + 3 ≤ _)⟩)
        dsimp only [Pt.U, Pt.locs, Pt.cells, Pt.slots] at X466 l466 y466 z466 st466 hQ466
        subst l466 y466 z466
        obtain ⟨rfl, Nq466, E466⟩ := hQ466
        have Na467 := Fr.app Na462 Nq466
        have CR468 : CHr Z own_EL s.vm h0 T456.vm T466.heap := CR457.trans (CHr.ext E466 CR457.1)
        have CRz : CHr Z own_EL s.vm h0 T466.vm T466.heap := CR468.trans (CHv.at X466 hZ456 (own_ew hw) CR468.1)
        obtain ⟨fs, hr, hrun, hended, hRW⟩ := X466.leaveW hS456 ((Nat.le_trans hk456 E466.1)) (v := some (.int (1 : Int32))) (fun h => by rw [Bd.returns] at h; cases h)
        refine ⟨_, _, pre0 _ (go458 _ ?_), hrun, hended, _, _, rfl, ?_, ?_, own_rew hRW (by decide) (by decide)⟩
        · show Steps p.tables e below (T456.setTop (mkF m 90 #[.val (.int p1), .val (.int p2), .val (.int p3), .val (.int p4), .val (.int bb), .val (.ref ca445), .val (.int le), .val (.int nn), .val (.int pp), .val (.int cc), .val (.ref b453), .val .null] [(.ref ca456), (.ref b453)])) _
          refine st461.trans ?_
          show Steps p.tables e below (T461.setTop (mkF m 93 #[.val (.int p1), .val (.int p2), .val (.int p3), .val (.int p4), .val (.int bb), .val (.ref ca445), .val (.int le), .val (.int nn), .val (.int pp), .val (.int cc), .val (.ref b453), .val .null] [(.int (1 : Int32))])) _
          refine XS.ifNo X461.here hx rfl (hb hby at_93) rfl ((if0 _ _).trans (feq (by decide)).1) ?_
          show Steps p.tables e below (T461.setTop (mkF m 96 #[.val (.int p1), .val (.int p2), .val (.int p3), .val (.int p4), .val (.int bb), .val (.ref ca445), .val (.int le), .val (.int nn), .val (.int pp), .val (.int cc), .val (.ref b453), .val .null] [])) _
          refine st463 _ ?_
          show Steps p.tables e below (T463.setTop (mkF m 99 #[.val (.int p1), .val (.int p2), .val (.int p3), .val (.int p4), .val (.int bb), .val (.ref ca445), .val (.int le), .val (.int nn), .val (.int pp), .val (.int cc), .val (.ref b453), .val .null] [(.ref en0)])) _
          refine XS.astore X463.here hx rfl (hb hby at_99) rfl rfl (l' := #[.val (.int p1), .val (.int p2), .val (.int p3), .val (.int p4), .val (.int bb), .val (.ref ca445), .val (.int le), .val (.int nn), .val (.int pp), .val (.int cc), .val (.ref b453), .val (.ref en0)]) rfl ?_
          show Steps p.tables e below (T463.setTop (mkF m 101 #[.val (.int p1), .val (.int p2), .val (.int p3), .val (.int p4), .val (.int bb), .val (.ref ca445), .val (.int le), .val (.int nn), .val (.int pp), .val (.int cc), .val (.ref b453), .val (.ref en0)] [])) _
          refine XS.goto X463.here hx rfl (pc0 := 101) (pc' := 137) rfl (hb hby at_101) (by decide) (by decide) ?_
          show Steps p.tables e below (T463.setTop (mkF m 137 #[.val (.int p1), .val (.int p2), .val (.int p3), .val (.int p4), .val (.int bb), .val (.ref ca445), .val (.int le), .val (.int nn), .val (.int pp), .val (.int cc), .val (.ref b453), .val (.ref en0)] [])) _
          refine XS.aload X463.here hx rfl (hb hby at_137) rfl rfl ?_
          show Steps p.tables e below (T463.setTop (mkF m 139 #[.val (.int p1), .val (.int p2), .val (.int p3), .val (.int p4), .val (.int bb), .val (.ref ca445), .val (.int le), .val (.int nn), .val (.int pp), .val (.int cc), .val (.ref b453), .val (.ref en0)] [(.ref b453)])) _
          refine st466 _ ?_
          show Steps p.tables e below (T466.setTop (mkF m 142 #[.val (.int p1), .val (.int p2), .val (.int p3), .val (.int p4), .val (.int bb), .val (.ref ca445), .val (.int le), .val (.int nn), .val (.int pp), .val (.int cc), .val (.ref b453), .val (.ref en0)] [(.ref en0)])) _
          refine XS.aload X466.here hx rfl (hb hby at_142) rfl rfl ?_
          show Steps p.tables e below (T466.setTop (mkF m 144 #[.val (.int p1), .val (.int p2), .val (.int p3), .val (.int p4), .val (.int bb), .val (.ref ca445), .val (.int le), .val (.int nn), .val (.int pp), .val (.int cc), .val (.ref b453), .val (.ref en0)] [(.ref en0), (.ref en0)])) _
          refine Jvm.RoadKit.acmp (g := (mkF m 144 #[.val (.int p1), .val (.int p2), .val (.int p3), .val (.int p4), .val (.int bb), .val (.ref ca445), .val (.int le), .val (.int nn), .val (.int pp), .val (.int cc), .val (.ref b453), .val (.ref en0)] [(.ref en0), (.ref en0)])) X466 hx rfl rfl rfl (pc0 := 144) (pc' := 147) (same := true) rfl (hb hby at_144) rfl (decide_eq_true rfl) (by decide) (by decide) ?_
          show Steps p.tables e below (T466.setTop (mkF m 147 #[.val (.int p1), .val (.int p2), .val (.int p3), .val (.int p4), .val (.int bb), .val (.ref ca445), .val (.int le), .val (.int nn), .val (.int pp), .val (.int cc), .val (.ref b453), .val (.ref en0)] [])) _
          refine XS.iconst X466.here hx rfl (hb hby at_147) ?_
          show Steps p.tables e below (T466.setTop (mkF m 148 #[.val (.int p1), .val (.int p2), .val (.int p3), .val (.int p4), .val (.int bb), .val (.ref ca445), .val (.int le), .val (.int nn), .val (.int pp), .val (.int cc), .val (.ref b453), .val (.ref en0)] [(.int (1 : Int32))])) _
          refine XS.goto X466.here hx rfl (pc0 := 148) (pc' := 152) rfl (hb hby at_148) (by decide) (by decide) ?_
          show Steps p.tables e below (T466.setTop (mkF m 152 #[.val (.int p1), .val (.int p2), .val (.int p3), .val (.int p4), .val (.int bb), .val (.ref ca445), .val (.int le), .val (.int nn), .val (.int pp), .val (.int cc), .val (.ref b453), .val (.ref en0)] [(.int (1 : Int32))])) _
          exact retN X466 hx (t := .boolean) Bd.returns (by simp) (hb hby at_152) hr
        · show own_Ql n0 _ T466.heap _
          exact ⟨rfl, Na467⟩
        · show CHr Z own_EL s.vm s.heap T466.vm T466.heap
          rw [hh]; exact CRz
      · obtain ⟨ca469, T469, h469, kq469, cb469, kb469, X469, e469, E469, hS469, hk469, hZ469, ho469, Ex469, Co469, Va469, Ar469, la469, lb469, hC469, Li469, sf469, st469⟩ := ldcCH X461 hx hZ456 ho456 (hw _ (List.mem_of_getElem? (i := 82) rfl)) (own_sa hw) e461 hS456 hk456 (own_ew hw) (by decide) CR457.1 (vs := (([(83 : Int32), (116 : Int32), (101 : Int32), (112 : Int32)] : List Int32).map (fun c => c.toInt8.toInt32)).map Value.int) (z := (4 : Int32)) ⟨by decide, by decide +kernel⟩ (by decide) (by decide) (g := (mkF m 106 #[.val (.int p1), .val (.int p2), .val (.int p3), .val (.int p4), .val (.int bb), .val (.ref ca445), .val (.int le), .val (.int nn), .val (.int pp), .val (.int cc), .val (.ref b453), .val .null] [(.ref b453)])) rfl (hb hby at_106) (n := 16) (by decide) (by decide) (by decide) (by decide)
        have CR470 : CHr Z own_EL s.vm h0 T469.vm h469 := CR457.trans hC469
        have Sc469 : own_Str Z h469 ca469 ([(83 : Int32), (116 : Int32), (101 : Int32), (112 : Int32)] : List Int32) := ⟨Ex469, (own_cS (by decide) (own_cS (by decide) (own_cS (by decide) (own_cS (by decide) own_c0)))), cb469, kb469, Va469, Co469, Ar469⟩
        have go471 : ∀ t, Steps p.tables e below (T469.setTop (mkF m 108 #[.val (.int p1), .val (.int p2), .val (.int p3), .val (.int p4), .val (.int bb), .val (.ref ca445), .val (.int le), .val (.int nn), .val (.int pp), .val (.int cc), .val (.ref b453), .val .null] [(.ref ca469), (.ref b453)])) t → Steps p.tables e below (s₁.setTop (mkF m 0 #[.val (.int p1), .val (.int p2), .val (.int p3), .val (.int p4), .unset, .unset, .unset, .unset, .unset, .unset, .unset, .unset] [])) t := fun t kt => go458 t (by
            show Steps p.tables e below (T456.setTop (mkF m 90 #[.val (.int p1), .val (.int p2), .val (.int p3), .val (.int p4), .val (.int bb), .val (.ref ca445), .val (.int le), .val (.int nn), .val (.int pp), .val (.int cc), .val (.ref b453), .val .null] [(.ref ca456), (.ref b453)])) _
            refine st461.trans ?_
            show Steps p.tables e below (T461.setTop (mkF m 93 #[.val (.int p1), .val (.int p2), .val (.int p3), .val (.int p4), .val (.int bb), .val (.ref ca445), .val (.int le), .val (.int nn), .val (.int pp), .val (.int cc), .val (.ref b453), .val .null] [(.int (0 : Int32))])) _
            refine XS.ifYes X461.here hx rfl (pc0 := 93) (pc' := 104) rfl (hb hby at_93) rfl ((if0 _ _).trans (teq rfl).1) (by decide) (by decide) ?_
            show Steps p.tables e below (T461.setTop (mkF m 104 #[.val (.int p1), .val (.int p2), .val (.int p3), .val (.int p4), .val (.int bb), .val (.ref ca445), .val (.int le), .val (.int nn), .val (.int pp), .val (.int cc), .val (.ref b453), .val .null] [])) _
            refine XS.aload X461.here hx rfl (hb hby at_104) rfl rfl ?_
            show Steps p.tables e below (T461.setTop (mkF m 106 #[.val (.int p1), .val (.int p2), .val (.int p3), .val (.int p4), .val (.int bb), .val (.ref ca445), .val (.int le), .val (.int nn), .val (.int pp), .val (.int cc), .val (.ref b453), .val .null] [(.ref b453)])) _
            refine st469 _ ?_
            exact kt)
        have Xt472 : Ext T453.heap h469 := (own_xt E456 E469)
        have Xt473 : Ext Z.heap h469 := (own_xt Xt460 E469)
        obtain ⟨cq474, kq474, qa474, qb474, qc474⟩ := isOf hZ469 e469 (Str453.1.ext Xt472)
        obtain ⟨_, _, ⟨T474, L474, k474, n474⟩, -, X474, ⟨Lc474, hQ474, l474, y474, z474⟩, st474⟩ := X469.virtualBack hx (y := (⟨"java/lang/String", "equals", "(Ljava/lang/Object;)Z"⟩ : MethodName)) (z := (⟨"java/lang/String", "equals", "(Ljava/lang/Object;)Z"⟩ : MethodName)) ho469 (mvT hZ469 (hw _ (List.mem_of_getElem? (i := 73) rfl))) (mvT hZ469 (hw _ (List.mem_of_getElem? (i := 74) rfl))) (notFace_of_selects (args := #[]) (mvT hZ469 (hw _ (List.mem_of_getElem? (i := 76) rfl)))) (mvT hZ469 (hw _ (List.mem_of_getElem? (i := 76) rfl))) (mvT hZ469 (hw _ (List.mem_of_getElem? (i := 75) rfl))) (by decide) (own_eq (W := 0) hZ469 (own_wq hw) (hw _ (List.mem_of_getElem? (i := 3) rfl)) (Str453.ext Xt472) hl453 Sc469 (by decide) (S_C.ext Xt473) P5 (by decide) (by decide)) qa474 qc474 (g := (mkF m 108 #[.val (.int p1), .val (.int p2), .val (.int p3), .val (.int p4), .val (.int bb), .val (.ref ca445), .val (.int le), .val (.int nn), .val (.int pp), .val (.int cc), .val (.ref b453), .val .null] [(.ref ca469), (.ref b453)])) rfl (by rw [hml]; rfl) (Steps.refl _) (argsL := [(.ref ca469)]) (rest := []) (lenOf own_pd1 rfl) rfl (by show 2 * 0 + _ ≤ _; exact Nat.le_of_eq rfl) (hb hby at_108) (fun _ _ => ⟨rfl, e469, (by decide : 9 + 0 ≤ _), (by decide : 106 + 0 ≤ _)⟩)
        dsimp only [Pt.U, Pt.locs, Pt.cells, Pt.slots] at X474 l474 y474 z474 st474 hQ474
        subst l474 y474 z474
        obtain ⟨hcase474, rfl, e474⟩ := hQ474
        have Na475 := Fr.app Na462 (Fr.nil n0)
        rcases hcase474 with ⟨rfl, hq474⟩ | ⟨rfl, hq474⟩
        · obtain ⟨T476, X476, e476, st476⟩ := getS2 X474 hx hZ469 ho469 (host := "") (Or.inl (hw _ (List.mem_of_getElem? (i := 109) rfl))) Via.refl e474 (S1.ext Xt473) (g := (mkF m 114 #[.val (.int p1), .val (.int p2), .val (.int p3), .val (.int p4), .val (.int bb), .val (.ref ca445), .val (.int le), .val (.int nn), .val (.int pp), .val (.int cc), .val (.ref b453), .val .null] [])) rfl (hb hby at_114)
          have Gr479 : h0.size ≤ T453.heap.size := Nat.le_trans E445.1 E453.1
          have Gr478 : h0.size ≤ h456.size := Nat.le_trans Gr479 E456.1
          have Gr477 : h0.size ≤ h469.size := Nat.le_trans Gr478 E469.1
          obtain ⟨_, _, ⟨T480, L480, k480, n480⟩, -, X480, ⟨Lc480, hQ480, l480, y480, z480⟩, st480⟩ := Jvm.LawKit.callS X476 hx (y := (⟨"com/example/spatial_at_rest/spatialatrest/Interpolation", "named", "(Ljava/lang/String;)Lcom/example/spatial_at_rest/spatialatrest/Interpolation;"⟩ : MethodName)) ho469 (mvT hZ469 (hw _ (List.mem_of_getElem? (i := 84) rfl))) (mvT hZ469 (hw _ (List.mem_of_getElem? (i := 85) rfl))) (mvT hZ469 (hw _ (List.mem_of_getElem? (i := 86) rfl))) (mvT hZ469 (hw _ (List.mem_of_getElem? (i := 87) rfl))) (by decide) (backOf (W := 0) (own_named l Z a0 hw [] va en0 en1 en2 kA tx0 tx1 tx2 w2 b453 (.ref en1) ds453 h469 n0 (Nat.le_trans Z0 Gr477) Xt473 S_V EV AV S_C P5 F0 T0 F1 T1 F2 T2 (Str453.ext Xt472) hl453 (by unfold own_nm; rw [if_neg hq461, if_pos hq474])) hZ469 (hw _ (List.mem_of_getElem? (i := 87) rfl)) (hw _ (List.mem_of_getElem? (i := 86) rfl)) (by decide) (by decide)) (g := (mkF m 139 #[.val (.int p1), .val (.int p2), .val (.int p3), .val (.int p4), .val (.int bb), .val (.ref ca445), .val (.int le), .val (.int nn), .val (.int pp), .val (.int cc), .val (.ref b453), .val (.ref en1)] [(.ref b453)])) rfl (by rw [hml]; rfl) (argsL := [(.ref b453)]) (rest := []) (lenOf own_pd7 rfl) rfl (by show 2 * 0 + _ ≤ _; exact Nat.le_of_eq rfl) (hb hby at_139) (fun _ _ => ⟨rfl, e476, (by decide : 9 + 1 ≤ _), (by decide : 106 + 3 ≤ _)⟩)
          dsimp only [Pt.U, Pt.locs, Pt.cells, Pt.slots] at X480 l480 y480 z480 st480 hQ480
          subst l480 y480 z480
          obtain ⟨rfl, Nq480, E480⟩ := hQ480
          have Na481 := Fr.app Na475 Nq480
          have CR482 : CHr Z own_EL s.vm h0 T469.vm T480.heap := CR470.trans (CHr.ext E480 CR470.1)
          have CRz : CHr Z own_EL s.vm h0 T480.vm T480.heap := CR482.trans (CHv.at X480 hZ469 (own_ew hw) CR482.1)
          obtain ⟨fs, hr, hrun, hended, hRW⟩ := X480.leaveW hS469 ((Nat.le_trans hk469 E480.1)) (v := some (.int (1 : Int32))) (fun h => by rw [Bd.returns] at h; cases h)
          refine ⟨_, _, pre0 _ (go471 _ ?_), hrun, hended, _, _, rfl, ?_, ?_, own_rew hRW (by decide) (by decide)⟩
          · show Steps p.tables e below (T469.setTop (mkF m 108 #[.val (.int p1), .val (.int p2), .val (.int p3), .val (.int p4), .val (.int bb), .val (.ref ca445), .val (.int le), .val (.int nn), .val (.int pp), .val (.int cc), .val (.ref b453), .val .null] [(.ref ca469), (.ref b453)])) _
            refine st474.trans ?_
            show Steps p.tables e below (T474.setTop (mkF m 111 #[.val (.int p1), .val (.int p2), .val (.int p3), .val (.int p4), .val (.int bb), .val (.ref ca445), .val (.int le), .val (.int nn), .val (.int pp), .val (.int cc), .val (.ref b453), .val .null] [(.int (1 : Int32))])) _
            refine XS.ifNo X474.here hx rfl (hb hby at_111) rfl ((if0 _ _).trans (feq (by decide)).1) ?_
            show Steps p.tables e below (T474.setTop (mkF m 114 #[.val (.int p1), .val (.int p2), .val (.int p3), .val (.int p4), .val (.int bb), .val (.ref ca445), .val (.int le), .val (.int nn), .val (.int pp), .val (.int cc), .val (.ref b453), .val .null] [])) _
            refine st476 _ ?_
            show Steps p.tables e below (T476.setTop (mkF m 117 #[.val (.int p1), .val (.int p2), .val (.int p3), .val (.int p4), .val (.int bb), .val (.ref ca445), .val (.int le), .val (.int nn), .val (.int pp), .val (.int cc), .val (.ref b453), .val .null] [(.ref en1)])) _
            refine XS.astore X476.here hx rfl (hb hby at_117) rfl rfl (l' := #[.val (.int p1), .val (.int p2), .val (.int p3), .val (.int p4), .val (.int bb), .val (.ref ca445), .val (.int le), .val (.int nn), .val (.int pp), .val (.int cc), .val (.ref b453), .val (.ref en1)]) rfl ?_
            show Steps p.tables e below (T476.setTop (mkF m 119 #[.val (.int p1), .val (.int p2), .val (.int p3), .val (.int p4), .val (.int bb), .val (.ref ca445), .val (.int le), .val (.int nn), .val (.int pp), .val (.int cc), .val (.ref b453), .val (.ref en1)] [])) _
            refine XS.goto X476.here hx rfl (pc0 := 119) (pc' := 137) rfl (hb hby at_119) (by decide) (by decide) ?_
            show Steps p.tables e below (T476.setTop (mkF m 137 #[.val (.int p1), .val (.int p2), .val (.int p3), .val (.int p4), .val (.int bb), .val (.ref ca445), .val (.int le), .val (.int nn), .val (.int pp), .val (.int cc), .val (.ref b453), .val (.ref en1)] [])) _
            refine XS.aload X476.here hx rfl (hb hby at_137) rfl rfl ?_
            show Steps p.tables e below (T476.setTop (mkF m 139 #[.val (.int p1), .val (.int p2), .val (.int p3), .val (.int p4), .val (.int bb), .val (.ref ca445), .val (.int le), .val (.int nn), .val (.int pp), .val (.int cc), .val (.ref b453), .val (.ref en1)] [(.ref b453)])) _
            refine st480 _ ?_
            show Steps p.tables e below (T480.setTop (mkF m 142 #[.val (.int p1), .val (.int p2), .val (.int p3), .val (.int p4), .val (.int bb), .val (.ref ca445), .val (.int le), .val (.int nn), .val (.int pp), .val (.int cc), .val (.ref b453), .val (.ref en1)] [(.ref en1)])) _
            refine XS.aload X480.here hx rfl (hb hby at_142) rfl rfl ?_
            show Steps p.tables e below (T480.setTop (mkF m 144 #[.val (.int p1), .val (.int p2), .val (.int p3), .val (.int p4), .val (.int bb), .val (.ref ca445), .val (.int le), .val (.int nn), .val (.int pp), .val (.int cc), .val (.ref b453), .val (.ref en1)] [(.ref en1), (.ref en1)])) _
            refine Jvm.RoadKit.acmp (g := (mkF m 144 #[.val (.int p1), .val (.int p2), .val (.int p3), .val (.int p4), .val (.int bb), .val (.ref ca445), .val (.int le), .val (.int nn), .val (.int pp), .val (.int cc), .val (.ref b453), .val (.ref en1)] [(.ref en1), (.ref en1)])) X480 hx rfl rfl rfl (pc0 := 144) (pc' := 147) (same := true) rfl (hb hby at_144) rfl (decide_eq_true rfl) (by decide) (by decide) ?_
            show Steps p.tables e below (T480.setTop (mkF m 147 #[.val (.int p1), .val (.int p2), .val (.int p3), .val (.int p4), .val (.int bb), .val (.ref ca445), .val (.int le), .val (.int nn), .val (.int pp), .val (.int cc), .val (.ref b453), .val (.ref en1)] [])) _
            refine XS.iconst X480.here hx rfl (hb hby at_147) ?_
            show Steps p.tables e below (T480.setTop (mkF m 148 #[.val (.int p1), .val (.int p2), .val (.int p3), .val (.int p4), .val (.int bb), .val (.ref ca445), .val (.int le), .val (.int nn), .val (.int pp), .val (.int cc), .val (.ref b453), .val (.ref en1)] [(.int (1 : Int32))])) _
            refine XS.goto X480.here hx rfl (pc0 := 148) (pc' := 152) rfl (hb hby at_148) (by decide) (by decide) ?_
            show Steps p.tables e below (T480.setTop (mkF m 152 #[.val (.int p1), .val (.int p2), .val (.int p3), .val (.int p4), .val (.int bb), .val (.ref ca445), .val (.int le), .val (.int nn), .val (.int pp), .val (.int cc), .val (.ref b453), .val (.ref en1)] [(.int (1 : Int32))])) _
            exact retN X480 hx (t := .boolean) Bd.returns (by simp) (hb hby at_152) hr
          · show own_Ql n0 _ T480.heap _
            exact ⟨rfl, Na481⟩
          · show CHr Z own_EL s.vm s.heap T480.vm T480.heap
            rw [hh]; exact CRz
        · obtain ⟨ca483, T483, h483, kq483, cb483, kb483, X483, e483, E483, hS483, hk483, hZ483, ho483, Ex483, Co483, Va483, Ar483, la483, lb483, hC483, Li483, sf483, st483⟩ := ldcCH X474 hx hZ469 ho469 (hw _ (List.mem_of_getElem? (i := 83) rfl)) (own_sa hw) e474 hS469 hk469 (own_ew hw) (by decide) CR470.1 (vs := (([(76 : Int32), (105 : Int32), (110 : Int32), (101 : Int32), (97 : Int32), (114 : Int32)] : List Int32).map (fun c => c.toInt8.toInt32)).map Value.int) (z := (6 : Int32)) ⟨by decide, by decide +kernel⟩ (by decide) (by decide) (g := (mkF m 124 #[.val (.int p1), .val (.int p2), .val (.int p3), .val (.int p4), .val (.int bb), .val (.ref ca445), .val (.int le), .val (.int nn), .val (.int pp), .val (.int cc), .val (.ref b453), .val .null] [(.ref b453)])) rfl (hb hby at_124) (n := 24) (by decide) (by decide) (by decide) (by decide)
          have CR484 : CHr Z own_EL s.vm h0 T483.vm h483 := CR470.trans hC483
          have Sc483 : own_Str Z h483 ca483 ([(76 : Int32), (105 : Int32), (110 : Int32), (101 : Int32), (97 : Int32), (114 : Int32)] : List Int32) := ⟨Ex483, (own_cS (by decide) (own_cS (by decide) (own_cS (by decide) (own_cS (by decide) (own_cS (by decide) (own_cS (by decide) own_c0)))))), cb483, kb483, Va483, Co483, Ar483⟩
          have go485 : ∀ t, Steps p.tables e below (T483.setTop (mkF m 126 #[.val (.int p1), .val (.int p2), .val (.int p3), .val (.int p4), .val (.int bb), .val (.ref ca445), .val (.int le), .val (.int nn), .val (.int pp), .val (.int cc), .val (.ref b453), .val .null] [(.ref ca483), (.ref b453)])) t → Steps p.tables e below (s₁.setTop (mkF m 0 #[.val (.int p1), .val (.int p2), .val (.int p3), .val (.int p4), .unset, .unset, .unset, .unset, .unset, .unset, .unset, .unset] [])) t := fun t kt => go471 t (by
              show Steps p.tables e below (T469.setTop (mkF m 108 #[.val (.int p1), .val (.int p2), .val (.int p3), .val (.int p4), .val (.int bb), .val (.ref ca445), .val (.int le), .val (.int nn), .val (.int pp), .val (.int cc), .val (.ref b453), .val .null] [(.ref ca469), (.ref b453)])) _
              refine st474.trans ?_
              show Steps p.tables e below (T474.setTop (mkF m 111 #[.val (.int p1), .val (.int p2), .val (.int p3), .val (.int p4), .val (.int bb), .val (.ref ca445), .val (.int le), .val (.int nn), .val (.int pp), .val (.int cc), .val (.ref b453), .val .null] [(.int (0 : Int32))])) _
              refine XS.ifYes X474.here hx rfl (pc0 := 111) (pc' := 122) rfl (hb hby at_111) rfl ((if0 _ _).trans (teq rfl).1) (by decide) (by decide) ?_
              show Steps p.tables e below (T474.setTop (mkF m 122 #[.val (.int p1), .val (.int p2), .val (.int p3), .val (.int p4), .val (.int bb), .val (.ref ca445), .val (.int le), .val (.int nn), .val (.int pp), .val (.int cc), .val (.ref b453), .val .null] [])) _
              refine XS.aload X474.here hx rfl (hb hby at_122) rfl rfl ?_
              show Steps p.tables e below (T474.setTop (mkF m 124 #[.val (.int p1), .val (.int p2), .val (.int p3), .val (.int p4), .val (.int bb), .val (.ref ca445), .val (.int le), .val (.int nn), .val (.int pp), .val (.int cc), .val (.ref b453), .val .null] [(.ref b453)])) _
              refine st483 _ ?_
              exact kt)
          have Xt486 : Ext T453.heap h483 := (own_xt Xt472 E483)
          have Xt487 : Ext Z.heap h483 := (own_xt Xt473 E483)
          obtain ⟨cq488, kq488, qa488, qb488, qc488⟩ := isOf hZ483 e483 (Str453.1.ext Xt486)
          obtain ⟨_, _, ⟨T488, L488, k488, n488⟩, -, X488, ⟨Lc488, hQ488, l488, y488, z488⟩, st488⟩ := X483.virtualBack hx (y := (⟨"java/lang/String", "equals", "(Ljava/lang/Object;)Z"⟩ : MethodName)) (z := (⟨"java/lang/String", "equals", "(Ljava/lang/Object;)Z"⟩ : MethodName)) ho483 (mvT hZ483 (hw _ (List.mem_of_getElem? (i := 73) rfl))) (mvT hZ483 (hw _ (List.mem_of_getElem? (i := 74) rfl))) (notFace_of_selects (args := #[]) (mvT hZ483 (hw _ (List.mem_of_getElem? (i := 76) rfl)))) (mvT hZ483 (hw _ (List.mem_of_getElem? (i := 76) rfl))) (mvT hZ483 (hw _ (List.mem_of_getElem? (i := 75) rfl))) (by decide) (own_eq (W := 0) hZ483 (own_wq hw) (hw _ (List.mem_of_getElem? (i := 3) rfl)) (Str453.ext Xt486) hl453 Sc483 (by decide) (S_C.ext Xt487) P5 (by decide) (by decide)) qa488 qc488 (g := (mkF m 126 #[.val (.int p1), .val (.int p2), .val (.int p3), .val (.int p4), .val (.int bb), .val (.ref ca445), .val (.int le), .val (.int nn), .val (.int pp), .val (.int cc), .val (.ref b453), .val .null] [(.ref ca483), (.ref b453)])) rfl (by rw [hml]; rfl) (Steps.refl _) (argsL := [(.ref ca483)]) (rest := []) (lenOf own_pd1 rfl) rfl (by show 2 * 0 + _ ≤ _; exact Nat.le_of_eq rfl) (hb hby at_126) (fun _ _ => ⟨rfl, e483, (by decide : 11 + 0 ≤ _), (by decide : 134 + 0 ≤ _)⟩)
          dsimp only [Pt.U, Pt.locs, Pt.cells, Pt.slots] at X488 l488 y488 z488 st488 hQ488
          subst l488 y488 z488
          obtain ⟨hcase488, rfl, e488⟩ := hQ488
          have Na489 := Fr.app Na475 (Fr.nil n0)
          rcases hcase488 with ⟨rfl, hq488⟩ | ⟨rfl, hq488⟩
          · obtain ⟨T490, X490, e490, st490⟩ := getS2 X488 hx hZ483 ho483 (host := "") (Or.inl (hw _ (List.mem_of_getElem? (i := 111) rfl))) Via.refl e488 (S2.ext Xt487) (g := (mkF m 132 #[.val (.int p1), .val (.int p2), .val (.int p3), .val (.int p4), .val (.int bb), .val (.ref ca445), .val (.int le), .val (.int nn), .val (.int pp), .val (.int cc), .val (.ref b453), .val .null] [])) rfl (hb hby at_132)
            have Gr494 : h0.size ≤ T453.heap.size := Nat.le_trans E445.1 E453.1
            have Gr493 : h0.size ≤ h456.size := Nat.le_trans Gr494 E456.1
            have Gr492 : h0.size ≤ h469.size := Nat.le_trans Gr493 E469.1
            have Gr491 : h0.size ≤ h483.size := Nat.le_trans Gr492 E483.1
            obtain ⟨_, _, ⟨T495, L495, k495, n495⟩, -, X495, ⟨Lc495, hQ495, l495, y495, z495⟩, st495⟩ := Jvm.LawKit.callS X490 hx (y := (⟨"com/example/spatial_at_rest/spatialatrest/Interpolation", "named", "(Ljava/lang/String;)Lcom/example/spatial_at_rest/spatialatrest/Interpolation;"⟩ : MethodName)) ho483 (mvT hZ483 (hw _ (List.mem_of_getElem? (i := 84) rfl))) (mvT hZ483 (hw _ (List.mem_of_getElem? (i := 85) rfl))) (mvT hZ483 (hw _ (List.mem_of_getElem? (i := 86) rfl))) (mvT hZ483 (hw _ (List.mem_of_getElem? (i := 87) rfl))) (by decide) (backOf (W := 0) (own_named l Z a0 hw [] va en0 en1 en2 kA tx0 tx1 tx2 w2 b453 (.ref en2) ds453 h483 n0 (Nat.le_trans Z0 Gr491) Xt487 S_V EV AV S_C P5 F0 T0 F1 T1 F2 T2 (Str453.ext Xt486) hl453 (by unfold own_nm; rw [if_neg hq461, if_neg hq474, if_pos hq488])) hZ483 (hw _ (List.mem_of_getElem? (i := 87) rfl)) (hw _ (List.mem_of_getElem? (i := 86) rfl)) (by decide) (by decide)) (g := (mkF m 139 #[.val (.int p1), .val (.int p2), .val (.int p3), .val (.int p4), .val (.int bb), .val (.ref ca445), .val (.int le), .val (.int nn), .val (.int pp), .val (.int cc), .val (.ref b453), .val (.ref en2)] [(.ref b453)])) rfl (by rw [hml]; rfl) (argsL := [(.ref b453)]) (rest := []) (lenOf own_pd7 rfl) rfl (by show 2 * 0 + _ ≤ _; exact Nat.le_of_eq rfl) (hb hby at_139) (fun _ _ => ⟨rfl, e490, (by decide : 11 + 1 ≤ _), (by decide : 134 + 3 ≤ _)⟩)
            dsimp only [Pt.U, Pt.locs, Pt.cells, Pt.slots] at X495 l495 y495 z495 st495 hQ495
            subst l495 y495 z495
            obtain ⟨rfl, Nq495, E495⟩ := hQ495
            have Na496 := Fr.app Na489 Nq495
            have CR497 : CHr Z own_EL s.vm h0 T483.vm T495.heap := CR484.trans (CHr.ext E495 CR484.1)
            have CRz : CHr Z own_EL s.vm h0 T495.vm T495.heap := CR497.trans (CHv.at X495 hZ483 (own_ew hw) CR497.1)
            obtain ⟨fs, hr, hrun, hended, hRW⟩ := X495.leaveW hS483 ((Nat.le_trans hk483 E495.1)) (v := some (.int (1 : Int32))) (fun h => by rw [Bd.returns] at h; cases h)
            refine ⟨_, _, pre0 _ (go485 _ ?_), hrun, hended, _, _, rfl, ?_, ?_, own_rew hRW (by decide) (by decide)⟩
            · show Steps p.tables e below (T483.setTop (mkF m 126 #[.val (.int p1), .val (.int p2), .val (.int p3), .val (.int p4), .val (.int bb), .val (.ref ca445), .val (.int le), .val (.int nn), .val (.int pp), .val (.int cc), .val (.ref b453), .val .null] [(.ref ca483), (.ref b453)])) _
              refine st488.trans ?_
              show Steps p.tables e below (T488.setTop (mkF m 129 #[.val (.int p1), .val (.int p2), .val (.int p3), .val (.int p4), .val (.int bb), .val (.ref ca445), .val (.int le), .val (.int nn), .val (.int pp), .val (.int cc), .val (.ref b453), .val .null] [(.int (1 : Int32))])) _
              refine XS.ifNo X488.here hx rfl (hb hby at_129) rfl ((if0 _ _).trans (feq (by decide)).1) ?_
              show Steps p.tables e below (T488.setTop (mkF m 132 #[.val (.int p1), .val (.int p2), .val (.int p3), .val (.int p4), .val (.int bb), .val (.ref ca445), .val (.int le), .val (.int nn), .val (.int pp), .val (.int cc), .val (.ref b453), .val .null] [])) _
              refine st490 _ ?_
              show Steps p.tables e below (T490.setTop (mkF m 135 #[.val (.int p1), .val (.int p2), .val (.int p3), .val (.int p4), .val (.int bb), .val (.ref ca445), .val (.int le), .val (.int nn), .val (.int pp), .val (.int cc), .val (.ref b453), .val .null] [(.ref en2)])) _
              refine XS.astore X490.here hx rfl (hb hby at_135) rfl rfl (l' := #[.val (.int p1), .val (.int p2), .val (.int p3), .val (.int p4), .val (.int bb), .val (.ref ca445), .val (.int le), .val (.int nn), .val (.int pp), .val (.int cc), .val (.ref b453), .val (.ref en2)]) rfl ?_
              show Steps p.tables e below (T490.setTop (mkF m 137 #[.val (.int p1), .val (.int p2), .val (.int p3), .val (.int p4), .val (.int bb), .val (.ref ca445), .val (.int le), .val (.int nn), .val (.int pp), .val (.int cc), .val (.ref b453), .val (.ref en2)] [])) _
              refine XS.aload X490.here hx rfl (hb hby at_137) rfl rfl ?_
              show Steps p.tables e below (T490.setTop (mkF m 139 #[.val (.int p1), .val (.int p2), .val (.int p3), .val (.int p4), .val (.int bb), .val (.ref ca445), .val (.int le), .val (.int nn), .val (.int pp), .val (.int cc), .val (.ref b453), .val (.ref en2)] [(.ref b453)])) _
              refine st495 _ ?_
              show Steps p.tables e below (T495.setTop (mkF m 142 #[.val (.int p1), .val (.int p2), .val (.int p3), .val (.int p4), .val (.int bb), .val (.ref ca445), .val (.int le), .val (.int nn), .val (.int pp), .val (.int cc), .val (.ref b453), .val (.ref en2)] [(.ref en2)])) _
              refine XS.aload X495.here hx rfl (hb hby at_142) rfl rfl ?_
              show Steps p.tables e below (T495.setTop (mkF m 144 #[.val (.int p1), .val (.int p2), .val (.int p3), .val (.int p4), .val (.int bb), .val (.ref ca445), .val (.int le), .val (.int nn), .val (.int pp), .val (.int cc), .val (.ref b453), .val (.ref en2)] [(.ref en2), (.ref en2)])) _
              refine Jvm.RoadKit.acmp (g := (mkF m 144 #[.val (.int p1), .val (.int p2), .val (.int p3), .val (.int p4), .val (.int bb), .val (.ref ca445), .val (.int le), .val (.int nn), .val (.int pp), .val (.int cc), .val (.ref b453), .val (.ref en2)] [(.ref en2), (.ref en2)])) X495 hx rfl rfl rfl (pc0 := 144) (pc' := 147) (same := true) rfl (hb hby at_144) rfl (decide_eq_true rfl) (by decide) (by decide) ?_
              show Steps p.tables e below (T495.setTop (mkF m 147 #[.val (.int p1), .val (.int p2), .val (.int p3), .val (.int p4), .val (.int bb), .val (.ref ca445), .val (.int le), .val (.int nn), .val (.int pp), .val (.int cc), .val (.ref b453), .val (.ref en2)] [])) _
              refine XS.iconst X495.here hx rfl (hb hby at_147) ?_
              show Steps p.tables e below (T495.setTop (mkF m 148 #[.val (.int p1), .val (.int p2), .val (.int p3), .val (.int p4), .val (.int bb), .val (.ref ca445), .val (.int le), .val (.int nn), .val (.int pp), .val (.int cc), .val (.ref b453), .val (.ref en2)] [(.int (1 : Int32))])) _
              refine XS.goto X495.here hx rfl (pc0 := 148) (pc' := 152) rfl (hb hby at_148) (by decide) (by decide) ?_
              show Steps p.tables e below (T495.setTop (mkF m 152 #[.val (.int p1), .val (.int p2), .val (.int p3), .val (.int p4), .val (.int bb), .val (.ref ca445), .val (.int le), .val (.int nn), .val (.int pp), .val (.int cc), .val (.ref b453), .val (.ref en2)] [(.int (1 : Int32))])) _
              exact retN X495 hx (t := .boolean) Bd.returns (by simp) (hb hby at_152) hr
            · show own_Ql n0 _ T495.heap _
              exact ⟨rfl, Na496⟩
            · show CHr Z own_EL s.vm s.heap T495.vm T495.heap
              rw [hh]; exact CRz
          · have Gr501 : h0.size ≤ T453.heap.size := Nat.le_trans E445.1 E453.1
            have Gr500 : h0.size ≤ h456.size := Nat.le_trans Gr501 E456.1
            have Gr499 : h0.size ≤ h469.size := Nat.le_trans Gr500 E469.1
            have Gr498 : h0.size ≤ h483.size := Nat.le_trans Gr499 E483.1
            obtain ⟨_, _, ⟨T502, L502, k502, n502⟩, -, X502, ⟨Lc502, hQ502, l502, y502, z502⟩, st502⟩ := Jvm.LawKit.callS X488 hx (y := (⟨"com/example/spatial_at_rest/spatialatrest/Interpolation", "named", "(Ljava/lang/String;)Lcom/example/spatial_at_rest/spatialatrest/Interpolation;"⟩ : MethodName)) ho483 (mvT hZ483 (hw _ (List.mem_of_getElem? (i := 84) rfl))) (mvT hZ483 (hw _ (List.mem_of_getElem? (i := 85) rfl))) (mvT hZ483 (hw _ (List.mem_of_getElem? (i := 86) rfl))) (mvT hZ483 (hw _ (List.mem_of_getElem? (i := 87) rfl))) (by decide) (backOf (W := 0) (own_named l Z a0 hw [] va en0 en1 en2 kA tx0 tx1 tx2 w2 b453 .null ds453 h483 n0 (Nat.le_trans Z0 Gr498) Xt487 S_V EV AV S_C P5 F0 T0 F1 T1 F2 T2 (Str453.ext Xt486) hl453 (by unfold own_nm; rw [if_neg hq461, if_neg hq474, if_neg hq488])) hZ483 (hw _ (List.mem_of_getElem? (i := 87) rfl)) (hw _ (List.mem_of_getElem? (i := 86) rfl)) (by decide) (by decide)) (g := (mkF m 139 #[.val (.int p1), .val (.int p2), .val (.int p3), .val (.int p4), .val (.int bb), .val (.ref ca445), .val (.int le), .val (.int nn), .val (.int pp), .val (.int cc), .val (.ref b453), .val .null] [(.ref b453)])) rfl (by rw [hml]; rfl) (argsL := [(.ref b453)]) (rest := []) (lenOf own_pd7 rfl) rfl (by show 2 * 0 + _ ≤ _; exact Nat.le_of_eq rfl) (hb hby at_139) (fun _ _ => ⟨rfl, e488, (by decide : 11 + 1 ≤ _), (by decide : 134 + 3 ≤ _)⟩)
            dsimp only [Pt.U, Pt.locs, Pt.cells, Pt.slots] at X502 l502 y502 z502 st502 hQ502
            subst l502 y502 z502
            obtain ⟨rfl, Nq502, E502⟩ := hQ502
            have Na503 := Fr.app Na489 Nq502
            have CR504 : CHr Z own_EL s.vm h0 T483.vm T502.heap := CR484.trans (CHr.ext E502 CR484.1)
            have CRz : CHr Z own_EL s.vm h0 T502.vm T502.heap := CR504.trans (CHv.at X502 hZ483 (own_ew hw) CR504.1)
            obtain ⟨fs, hr, hrun, hended, hRW⟩ := X502.leaveW hS483 ((Nat.le_trans hk483 E502.1)) (v := some (.int (1 : Int32))) (fun h => by rw [Bd.returns] at h; cases h)
            refine ⟨_, _, pre0 _ (go485 _ ?_), hrun, hended, _, _, rfl, ?_, ?_, own_rew hRW (by decide) (by decide)⟩
            · show Steps p.tables e below (T483.setTop (mkF m 126 #[.val (.int p1), .val (.int p2), .val (.int p3), .val (.int p4), .val (.int bb), .val (.ref ca445), .val (.int le), .val (.int nn), .val (.int pp), .val (.int cc), .val (.ref b453), .val .null] [(.ref ca483), (.ref b453)])) _
              refine st488.trans ?_
              show Steps p.tables e below (T488.setTop (mkF m 129 #[.val (.int p1), .val (.int p2), .val (.int p3), .val (.int p4), .val (.int bb), .val (.ref ca445), .val (.int le), .val (.int nn), .val (.int pp), .val (.int cc), .val (.ref b453), .val .null] [(.int (0 : Int32))])) _
              refine XS.ifYes X488.here hx rfl (pc0 := 129) (pc' := 137) rfl (hb hby at_129) rfl ((if0 _ _).trans (teq rfl).1) (by decide) (by decide) ?_
              show Steps p.tables e below (T488.setTop (mkF m 137 #[.val (.int p1), .val (.int p2), .val (.int p3), .val (.int p4), .val (.int bb), .val (.ref ca445), .val (.int le), .val (.int nn), .val (.int pp), .val (.int cc), .val (.ref b453), .val .null] [])) _
              refine XS.aload X488.here hx rfl (hb hby at_137) rfl rfl ?_
              show Steps p.tables e below (T488.setTop (mkF m 139 #[.val (.int p1), .val (.int p2), .val (.int p3), .val (.int p4), .val (.int bb), .val (.ref ca445), .val (.int le), .val (.int nn), .val (.int pp), .val (.int cc), .val (.ref b453), .val .null] [(.ref b453)])) _
              refine st502 _ ?_
              show Steps p.tables e below (T502.setTop (mkF m 142 #[.val (.int p1), .val (.int p2), .val (.int p3), .val (.int p4), .val (.int bb), .val (.ref ca445), .val (.int le), .val (.int nn), .val (.int pp), .val (.int cc), .val (.ref b453), .val .null] [.null])) _
              refine XS.aload X502.here hx rfl (hb hby at_142) rfl rfl ?_
              show Steps p.tables e below (T502.setTop (mkF m 144 #[.val (.int p1), .val (.int p2), .val (.int p3), .val (.int p4), .val (.int bb), .val (.ref ca445), .val (.int le), .val (.int nn), .val (.int pp), .val (.int cc), .val (.ref b453), .val .null] [.null, .null])) _
              refine Jvm.RoadKit.acmp (g := (mkF m 144 #[.val (.int p1), .val (.int p2), .val (.int p3), .val (.int p4), .val (.int bb), .val (.ref ca445), .val (.int le), .val (.int nn), .val (.int pp), .val (.int cc), .val (.ref b453), .val .null] [.null, .null])) X502 hx rfl rfl rfl (pc0 := 144) (pc' := 147) (same := true) rfl (hb hby at_144) rfl (decide_eq_true rfl) (by decide) (by decide) ?_
              show Steps p.tables e below (T502.setTop (mkF m 147 #[.val (.int p1), .val (.int p2), .val (.int p3), .val (.int p4), .val (.int bb), .val (.ref ca445), .val (.int le), .val (.int nn), .val (.int pp), .val (.int cc), .val (.ref b453), .val .null] [])) _
              refine XS.iconst X502.here hx rfl (hb hby at_147) ?_
              show Steps p.tables e below (T502.setTop (mkF m 148 #[.val (.int p1), .val (.int p2), .val (.int p3), .val (.int p4), .val (.int bb), .val (.ref ca445), .val (.int le), .val (.int nn), .val (.int pp), .val (.int cc), .val (.ref b453), .val .null] [(.int (1 : Int32))])) _
              refine XS.goto X502.here hx rfl (pc0 := 148) (pc' := 152) rfl (hb hby at_148) (by decide) (by decide) ?_
              show Steps p.tables e below (T502.setTop (mkF m 152 #[.val (.int p1), .val (.int p2), .val (.int p3), .val (.int p4), .val (.int bb), .val (.ref ca445), .val (.int le), .val (.int nn), .val (.int pp), .val (.int cc), .val (.ref b453), .val .null] [(.int (1 : Int32))])) _
              exact retN X502 hx (t := .boolean) Bd.returns (by simp) (hb hby at_152) hr
            · show own_Ql n0 _ T502.heap _
              exact ⟨rfl, Na503⟩
            · show CHr Z own_EL s.vm s.heap T502.vm T502.heap
              rw [hh]; exact CRz
set_option maxRecDepth 65536 in
set_option maxHeartbeats 40000000 in
theorem comes_1 {Post : Tables → Env → Array Value → State → Outcome → State → Prop} (hpost : ∀ tb e args s v u, (limb_1_1.after args s (.returned v) u = true ∧ limb_1_2.after args s (.returned v) u = true ∧ True) → ReturnedEndW s (.returned v) u (Jvm.fieldLocs frame_1_writes args s ++ Jvm.arrayLocs frame_1_arrays args s ++ Jvm.staticLocs frame_1_statics s) 24 3200 → Post tb e args s (.returned v) u) :
    ArmFor flags0 classFile x code maxLocals ret World_1 tables_1 room_1 Calls_1 rest_1 Pre_1 Post := by
  intro l hfl _ _ p e ha hc hk s m args below hf hA hF happ hP
  obtain ⟨hcalls, hrest, hpre⟩ := hP
  obtain ⟨-, -, -, hnamed, -, -, -, hat⟩ := (Spec.applies_iff hf).mp happ
  obtain ⟨hg, hn⟩ := and_e (Cond.before_iff.mp (show (Jvm.Cond.and given_1 narrow_1).before args s = true from hpre))
  obtain ⟨hgc, hgr0⟩ := and_e hg
  obtain ⟨hg0, hgr1⟩ := and_e hgr0
  obtain ⟨hg1, hgr2⟩ := and_e hgr1
  obtain ⟨hg2, hgr3⟩ := and_e hgr2
  obtain ⟨w0, w1, w2, w3, rfl⟩ : ∃ w0 w1 w2 w3 : Value, args = #[w0, w1, w2, w3] := by
    have hs : args.size = 4 := by simpa [Cond.value, given_1] using hgc
    obtain ⟨L⟩ := args
    match L, hs with
    | [w0, w1, w2, w3], _ => exact ⟨w0, w1, w2, w3, rfl⟩
  have hw := fun d (hd : d ∈ tables_1) => atoms_spec (ws := Jvm.Cond.code x code maxLocals ret :: tables_1) hat d (List.mem_cons_of_mem _ hd)
  have hfit : Fit s := fun {y c} hc i hi => by
    obtain ⟨ha, rfl⟩ := Array.getElem?_eq_some_iff.mp hc
    have q := List.all_eq_true.mp ((Array.all_eq_true_iff_forall_mem.mp hF) _ (Array.getElem_mem ha)) i (List.mem_range.mpr hi)
    simpa [Array.getElem?_eq_getElem hi] using q
  obtain ⟨hsets, hown0⟩ := atoms_of _ (rest_1_c_eq ▸ (show rest_1_c.before _ s = true from hrest))
  obtain ⟨i0, ei0⟩ := is_v hg0
  obtain rfl : w0 = (.int i0) := Option.some.inj ei0
  obtain ⟨i1, ei1⟩ := is_v hg1
  obtain rfl : w1 = (.int i1) := Option.some.inj ei1
  obtain ⟨i2, ei2⟩ := is_v hg2
  obtain rfl : w2 = (.int i2) := Option.some.inj ei2
  obtain ⟨i3, ei3⟩ := is_v hgr3
  obtain rfl : w3 = (.int i3) := Option.some.inj ei3
  have n3 := not_v (Cond.before_iff.mp (hsets _ (List.mem_of_getElem? (i := 2) rfl)))
  obtain ⟨ic, ec⟩ := is_v (Cond.before_iff.mp (hsets _ (List.mem_of_getElem? (i := 1) rfl)))
  have S_C : Sta s s.heap "java/lang/String" "COMPACT_STRINGS" "Z" (.int ic) := Sta.start ec (Or.inl (hsets _ (List.mem_of_getElem? (i := 0) rfl)))
  have P5 : ¬ (ic = (0 : Int32)) := gotF (Cond.eq_ints ec (Term.int_eval (0))) n3
  obtain ⟨fm, em, rf⟩ := isR_v (Cond.before_iff.mp (hsets _ (List.mem_of_getElem? (i := 8) rfl)))
  have S_F : Sta s s.heap "jdk/internal/util/Preconditions" "SIOOBE_FORMATTER" "Ljava/util/function/BiFunction;" fm := Sta.start em (Or.inl (hsets _ (List.mem_of_getElem? (i := 7) rfl)))
  obtain ⟨nw0, nr0⟩ := and_e hn
  obtain ⟨nw1, nr1⟩ := and_e nr0
  obtain ⟨nw2, nr2⟩ := and_e nr1
  obtain ⟨nw3, nr3⟩ := and_e nr2
  obtain ⟨nw4, nr4⟩ := and_e nr3
  obtain ⟨nw5, nr5⟩ := and_e nr4
  obtain ⟨nw6, nr6⟩ := and_e nr5
  obtain ⟨nw7, nr7⟩ := and_e nr6
  obtain ⟨nw8, nr8⟩ := and_e nr7
  obtain ⟨nw9, nr9⟩ := and_e nr8
  obtain ⟨nw10, nr10⟩ := and_e nr9
  obtain ⟨nw11, nr11⟩ := and_e nr10
  obtain ⟨nw12, nr12⟩ := and_e nr11
  obtain ⟨nw13, nr13⟩ := and_e nr12
  obtain ⟨nw14, nr14⟩ := and_e nr13
  obtain ⟨nw15, nr15⟩ := and_e nr14
  obtain ⟨nw16, nr16⟩ := and_e nr15
  obtain ⟨nw17, nr17⟩ := and_e nr16
  obtain ⟨nw18, nr18⟩ := and_e nr17
  obtain ⟨nw19, nr19⟩ := and_e nr18
  obtain ⟨nw20, nr20⟩ := and_e nr19
  obtain ⟨nw21, nr21⟩ := and_e nr20
  obtain ⟨nw22, nr22⟩ := and_e nr21
  obtain ⟨nw23, nr23⟩ := and_e nr22
  obtain ⟨nw24, nr24⟩ := and_e nr23
  obtain ⟨nw25, nr25⟩ := and_e nr24
  obtain ⟨nw26, nr26⟩ := and_e nr25
  obtain ⟨nw27, nr27⟩ := and_e nr26
  obtain ⟨nw28, nr28⟩ := and_e nr27
  obtain ⟨nw29, nr29⟩ := and_e nr28
  obtain ⟨nw30, nr30⟩ := and_e nr29
  obtain ⟨nw31, nr31⟩ := and_e nr30
  obtain ⟨nw32, nr32⟩ := and_e nr31
  obtain ⟨nw33, nr33⟩ := and_e nr32
  obtain ⟨nw34, nr34⟩ := and_e nr33
  obtain ⟨nw35, nr35⟩ := and_e nr34
  obtain ⟨nw36, nr36⟩ := and_e nr35
  obtain ⟨nw37, nr37⟩ := and_e nr36
  have nw38 := nr37
  obtain ⟨va, ev⟩ := exa_v nw1
  have S_V : Sta s s.heap "com/example/spatial_at_rest/spatialatrest/Interpolation" "$VALUES" "[Lcom/example/spatial_at_rest/spatialatrest/Interpolation;" (.ref va) := Sta.start ev (Or.inl (hw _ (List.mem_of_getElem? (i := 103) rfl)))
  have EV := Exa.start ev nw1
  obtain ⟨en0, ee0⟩ := exa_v nw3
  have EE0 := Exa.start ee0 nw3
  have S0 : Sta s s.heap "com/example/spatial_at_rest/spatialatrest/Interpolation" "DISCRETE" "Lcom/example/spatial_at_rest/spatialatrest/Interpolation;" (.ref en0) := Sta.start ee0 (Or.inr ⟨(hw _ (List.mem_of_getElem? (i := 86) rfl)), (hw _ (List.mem_of_getElem? (i := 100) rfl))⟩)
  obtain ⟨tx0, et0⟩ := exa_v nw9
  have F0 : Fld s s.heap en0 "com/example/spatial_at_rest/spatialatrest/Interpolation" "wireName" "Ljava/lang/String;" (.ref tx0) := Fld.start ((fld_at ee0).symm.trans et0)
  have T0 : own_Str s s.heap tx0 ([68, 105, 115, 99, 114, 101, 116, 101] : List Int32) := own_strS _ hfit et0 nw9 nw10 nw11 nw12 (by decide) (by decide) (by decide) (own_cS (by decide) (own_cS (by decide) (own_cS (by decide) (own_cS (by decide) (own_cS (by decide) (own_cS (by decide) (own_cS (by decide) (own_cS (by decide) own_c0)))))))) (fun b c eb hb => ⟨own_elI eb nw25 hb, own_elI eb nw26 hb, own_elI eb nw27 hb, own_elI eb nw28 hb, own_elI eb nw29 hb, own_elI eb nw30 hb, own_elI eb nw31 hb, own_elI eb nw32 hb, trivial⟩)
  obtain ⟨en1, ee1⟩ := exa_v nw5
  have EE1 := Exa.start ee1 nw5
  have S1 : Sta s s.heap "com/example/spatial_at_rest/spatialatrest/Interpolation" "STEP" "Lcom/example/spatial_at_rest/spatialatrest/Interpolation;" (.ref en1) := Sta.start ee1 (Or.inr ⟨(hw _ (List.mem_of_getElem? (i := 86) rfl)), (hw _ (List.mem_of_getElem? (i := 101) rfl))⟩)
  obtain ⟨tx1, et1⟩ := exa_v nw13
  have F1 : Fld s s.heap en1 "com/example/spatial_at_rest/spatialatrest/Interpolation" "wireName" "Ljava/lang/String;" (.ref tx1) := Fld.start ((fld_at ee1).symm.trans et1)
  have T1 : own_Str s s.heap tx1 ([83, 116, 101, 112] : List Int32) := own_strS _ hfit et1 nw13 nw14 nw15 nw16 (by decide) (by decide) (by decide) (own_cS (by decide) (own_cS (by decide) (own_cS (by decide) (own_cS (by decide) own_c0)))) (fun b c eb hb => ⟨own_elI eb nw21 hb, own_elI eb nw22 hb, own_elI eb nw23 hb, own_elI eb nw24 hb, trivial⟩)
  obtain ⟨en2, ee2⟩ := exa_v nw7
  have EE2 := Exa.start ee2 nw7
  have S2 : Sta s s.heap "com/example/spatial_at_rest/spatialatrest/Interpolation" "LINEAR" "Lcom/example/spatial_at_rest/spatialatrest/Interpolation;" (.ref en2) := Sta.start ee2 (Or.inr ⟨(hw _ (List.mem_of_getElem? (i := 86) rfl)), (hw _ (List.mem_of_getElem? (i := 102) rfl))⟩)
  obtain ⟨tx2, et2⟩ := exa_v nw17
  have F2 : Fld s s.heap en2 "com/example/spatial_at_rest/spatialatrest/Interpolation" "wireName" "Ljava/lang/String;" (.ref tx2) := Fld.start ((fld_at ee2).symm.trans et2)
  have T2 : own_Str s s.heap tx2 ([76, 105, 110, 101, 97, 114] : List Int32) := own_strS _ hfit et2 nw17 nw18 nw19 nw20 (by decide) (by decide) (by decide) (own_cS (by decide) (own_cS (by decide) (own_cS (by decide) (own_cS (by decide) (own_cS (by decide) (own_cS (by decide) own_c0)))))) (fun b c eb hb => ⟨own_elI eb nw33 hb, own_elI eb nw34 hb, own_elI eb nw35 hb, own_elI eb nw36 hb, own_elI eb nw37 hb, own_elI eb nw38 hb, trivial⟩)
  obtain ⟨kA, AV⟩ := own_arr (dv := .null) (vs := [(.ref en0), (.ref en1), (.ref en2)]) hfit ev nw0 nw2 (by decide) rfl (fun c hb => ⟨own_elR ev ee0 nw4 hb, own_elR ev ee1 nw6 hb, own_elR ev ee2 nw8 hb, trivial⟩)
  have hCH : CHv s own_EL s.vm s.heap := CHv.start (own_ew hw) (fun p hp => hcalls.1 p hp) (hsets _ (List.mem_of_getElem? (i := 2) rfl)) (hw _ (List.mem_of_getElem? (i := 4) rfl)) (hw _ (List.mem_of_getElem? (i := 3) rfl))
  obtain ⟨n, o, h1, h2, h3, _, L, rfl, ⟨rfl, N⟩, hcr, hq⟩ := own_l l s _ hw tables_1 va en0 en1 en2 kA tx0 tx1 tx2 ic i0 i1 i2 i3 fm s.heap s.heap.size (Nat.le_refl _) (own_xr _) S_V EV AV S_C P5 F0 T0 F1 T1 F2 T2 S_F rf S0 S1 S2 p e ha hc hk s m _ below hf ((Spec.applies_iff_loose hf).mp happ).1 ⟨rfl, State.Warmed39.refl s, rfl, hCH⟩ trivial
  refine ⟨n, _, h1, h2, h3, hpost _ _ _ _ _ _ ⟨Cond.after_iff.mpr rfl, Cond.after_iff.mpr (eq_i res_at (Term.int_eval (1)) rfl), trivial⟩ ⟨hq.1, hq.2.1, hq.2.2.1, (hq.2.2.2.sift fun y hy => Or.inr (N y hy)).mono (by decide) (by decide)⟩⟩
theorem main_1_1 : Claimed_1_1 := comes_1 fun _ _ _ _ _ _ h hF => ⟨h.1, hF⟩
theorem main_1_2 : Claimed_1_2 := comes_1 fun _ _ _ _ _ _ h hF => ⟨h.2.1, hF⟩
end Jvm.Pilot.@@N@@
namespace Jvm.Pilot.@@N@@
open Jvm Jvm.ClassFile Sem Op Lib Jvm.Free Jvm.Stand Jvm.Pilot.@@N@@.Jvm.D
/-! MADE BY PROGRAM (witnessworld.py) out of the Statement's table words and the real class files: 22 classes; the members and pool entries that the words name. The judged class is class 1, her method 1. -/
namespace start1
open Jvm.ClassFile
def u (s : String) : CpInfo := .utf8 (stringToUtf16 s)
/-- a pool by its gaps: so many unusable entries, then the entry; so many at the end -/
def gap : Nat → List CpInfo → List CpInfo
  | 0, r => r
  | n + 1, r => .unusable :: gap n r
def poolList (es : List (Nat × CpInfo)) (last : Nat) : List CpInfo := es.foldr (fun e r => gap e.1 (e.2 :: r)) (gap last [])
def pool (es : List (Nat × CpInfo)) (last : Nat) : Array CpInfo := ⟨poolList es last⟩
def fileOf (pool : Array CpInfo) (this : Nat) (attrs : Array Attribute := #[]) (ms : Array MethodInfo := #[]) (fl : Nat := 33) (sup : Nat := 0) (ifs : Array Nat := #[]) (fds : Array FieldInfo := #[]) : ClassFile where
  minorVersion := 0
  majorVersion := 65
  constantPool := pool
  accessFlags := fl
  thisClass := this
  superClass := sup
  interfaces := ifs
  fields := fds
  methods := ms
  attributes := attrs
def plain (name : String) (sup : Option ClassId) : Class where
  name := name
  kind := .ordinary
  loader := none
  accessFlags := 33
  super := sup
  interfaces := #[]
  cf := none
  fields := #[]
  methods := #[]
  instanceTypes := #[]
  staticTypes := #[]
  resolved := #[]
  callSites := []
  init := .initialized
  statics := none
  mirror := none

def pool0 : Array CpInfo := pool [(5, u "<init>"), (0, u "()V"), (1, .class_ 10), (1, u "java/lang/Object"), (85, u "clone"), (0, u "()Ljava/lang/Object;")] 26

def k0c0 : Code := { maxStack := 0, maxLocals := 1, code := object_method_1_code, exceptionTable := #[], attributes := #[] }
def k0m0 : Method := { name := "<init>", desc := "()V", sig := { parameters := [], returnType := none }, accessFlags := 1, code := some k0c0 }
def k0m1 : Method := { name := "clone", desc := "()Ljava/lang/Object;", sig := { parameters := [], returnType := some (.object "java/lang/Object") }, accessFlags := 260, code := none }
/-- java/lang/Object -/
def k0 : Class := { plain "java/lang/Object" none with
  accessFlags := 33
  interfaces := #[]
  cf := some (fileOf pool0 8 #[] #[{ accessFlags := 1, nameIndex := 5, descriptorIndex := 6, attributes := #[] }, { accessFlags := 260, nameIndex := 96, descriptorIndex := 97, attributes := #[] }] 33 0 #[] #[])
  fields := #[]
  methods := #[k0m0, k0m1]
  instanceTypes := #[]
  staticTypes := #[]
  resolved := Array.replicate 124 none
  statics := none }

def pool1 : Array CpInfo := pool [(2, .class_ 4), (1, u "java/lang/Object"), (0, u "<init>"), (0, u "()V"), (0, .integer 2147483647), (0, .string 9), (0, u "Discrete"), (0, .string 11), (0, u "Step"), (0, .string 13), (0, u "Linear"), (0, .methodref 15 16), (0, .class_ 17), (0, .nameAndType 18 19), (0, u "java/lang/String"), (0, u "length"), (0, u "()I"), (0, .methodref 21 22), (0, .class_ 23), (0, .nameAndType 24 25), (0, u "com/example/spatial_at_rest/spatialatrest/InterpolationNamedPinLaw"), (0, u "make"), (0, u "(Ljava/lang/String;IIC)Ljava/lang/String;"), (0, .methodref 15 27), (0, .nameAndType 28 29), (0, u "equals"), (0, u "(Ljava/lang/Object;)Z"), (0, .fieldref 31 32), (0, .class_ 33), (0, .nameAndType 34 35), (0, u "com/example/spatial_at_rest/spatialatrest/Interpolation"), (0, u "DISCRETE"), (0, u "Lcom/example/spatial_at_rest/spatialatrest/Interpolation;"), (0, .fieldref 31 37), (0, .nameAndType 38 35), (0, u "STEP"), (0, .fieldref 31 40), (0, .nameAndType 41 35), (0, u "LINEAR"), (0, .methodref 31 43), (0, .nameAndType 44 45), (0, u "named"), (0, u "(Ljava/lang/String;)Lcom/example/spatial_at_rest/spatialatrest/Interpolation;"), (0, .methodref 15 47), (0, .nameAndType 48 49), (0, u "charAt"), (0, u "(I)C"), (0, .methodref 21 51), (0, .nameAndType 52 53), (0, u "at"), (0, u "(Ljava/lang/String;IIC)C"), (0, .methodref 15 55), (0, .nameAndType 5 56), (0, u "([C)V"), (2, u "law"), (0, u "(IIII)Z")] 3

def k1m0 : Method := { name := "<init>", desc := "()V", sig := { parameters := [], returnType := none }, accessFlags := 1, code := none }
def k1c1 : Code := { maxStack := 4, maxLocals := 12, code := code, exceptionTable := #[], attributes := #[] }
def k1m1 : Method := { name := "law", desc := "(IIII)Z", sig := { parameters := [.int, .int, .int, .int], returnType := some .boolean }, accessFlags := 9, code := some k1c1 }
def k1c2 : Code := { maxStack := 2, maxLocals := 4, code := method_3_code, exceptionTable := #[], attributes := #[] }
def k1m2 : Method := { name := "at", desc := "(Ljava/lang/String;IIC)C", sig := { parameters := [(.object "java/lang/String"), .int, .int, .char], returnType := some .char }, accessFlags := 10, code := some k1c2 }
def k1c3 : Code := { maxStack := 6, maxLocals := 13, code := method_4_code, exceptionTable := #[], attributes := #[] }
def k1m3 : Method := { name := "make", desc := "(Ljava/lang/String;IIC)Ljava/lang/String;", sig := { parameters := [(.object "java/lang/String"), .int, .int, .char], returnType := some (.object "java/lang/String") }, accessFlags := 10, code := some k1c3 }
/-- com/example/spatial_at_rest/spatialatrest/InterpolationNamedPinLaw -/
def k1 : Class := { plain "com/example/spatial_at_rest/spatialatrest/InterpolationNamedPinLaw" (some 0) with
  accessFlags := 49
  interfaces := #[]
  cf := some (fileOf pool1 21 #[] #[{ accessFlags := 1, nameIndex := 5, descriptorIndex := 6, attributes := #[] }, { accessFlags := 9, nameIndex := 59, descriptorIndex := 60, attributes := #[] }, { accessFlags := 10, nameIndex := 52, descriptorIndex := 53, attributes := #[] }, { accessFlags := 10, nameIndex := 24, descriptorIndex := 25, attributes := #[] }] 49 2 #[] #[])
  fields := #[]
  methods := #[k1m0, k1m1, k1m2, k1m3]
  instanceTypes := #[]
  staticTypes := #[]
  resolved := Array.replicate 64 none
  statics := none }

def pool2 : Array CpInfo := pool [(1, .class_ 2), (0, u "java/io/Serializable"), (0, .class_ 4), (0, u "java/lang/Object")] 2

/-- java/io/Serializable -/
def k2 : Class := { plain "java/io/Serializable" (some 0) with
  accessFlags := 1537
  interfaces := #[]
  cf := some (fileOf pool2 1 #[] #[] 1537 3 #[] #[])
  fields := #[]
  methods := #[]
  instanceTypes := #[]
  staticTypes := #[]
  resolved := Array.replicate 7 none
  statics := none }

def pool3 : Array CpInfo := pool [(1, .class_ 2), (0, u "java/lang/Comparable"), (0, .class_ 4), (0, u "java/lang/Object")] 7

/-- java/lang/Comparable -/
def k3 : Class := { plain "java/lang/Comparable" (some 0) with
  accessFlags := 1537
  interfaces := #[]
  cf := some (fileOf pool3 1 #[] #[] 1537 3 #[] #[])
  fields := #[]
  methods := #[]
  instanceTypes := #[]
  staticTypes := #[]
  resolved := Array.replicate 12 none
  statics := none }

def pool4 : Array CpInfo := pool [(2, .class_ 4), (1, u "java/lang/CharSequence"), (42, .class_ 48), (0, u "java/lang/CharSequence$1CodePointIterator"), (10, .class_ 60), (0, u "java/lang/CharSequence$1CharIterator"), (5, .class_ 67), (0, u "java/lang/Object")] 63

/-- java/lang/CharSequence -/
def k4 : Class := { plain "java/lang/CharSequence" (some 0) with
  accessFlags := 1537
  interfaces := #[]
  cf := some (fileOf pool4 2 #[.nestMembers #[47, 59]] #[] 1537 66 #[] #[])
  fields := #[]
  methods := #[]
  instanceTypes := #[]
  staticTypes := #[]
  resolved := Array.replicate 131 none
  statics := none }

def pool5 : Array CpInfo := pool [(1, .class_ 2), (0, u "java/lang/constant/Constable"), (0, .class_ 4), (0, u "java/lang/Object")] 6

/-- java/lang/constant/Constable -/
def k5 : Class := { plain "java/lang/constant/Constable" (some 0) with
  accessFlags := 1537
  interfaces := #[]
  cf := some (fileOf pool5 1 #[] #[] 1537 3 #[] #[])
  fields := #[]
  methods := #[]
  instanceTypes := #[]
  staticTypes := #[]
  resolved := Array.replicate 11 none
  statics := none }

def pool6 : Array CpInfo := pool [(1, .class_ 2), (0, u "java/lang/constant/ConstantDesc"), (0, .class_ 4), (0, u "java/lang/Object")] 32

/-- java/lang/constant/ConstantDesc -/
def k6 : Class := { plain "java/lang/constant/ConstantDesc" (some 0) with
  accessFlags := 1537
  interfaces := #[]
  cf := some (fileOf pool6 1 #[] #[] 1537 3 #[] #[])
  fields := #[]
  methods := #[]
  instanceTypes := #[]
  staticTypes := #[]
  resolved := Array.replicate 37 none
  statics := none }

def pool7 : Array CpInfo := pool [(1, .methodref 2 3), (0, .class_ 4), (0, .nameAndType 5 6), (0, u "java/lang/Object"), (0, u "<init>"), (0, u "()V"), (2, .fieldref 10 11), (0, .class_ 12), (0, .nameAndType 13 14), (0, u "java/lang/String"), (0, u "value"), (0, u "[B"), (0, .fieldref 10 16), (0, .nameAndType 17 18), (0, u "coder"), (0, u "B"), (2, u "hash"), (0, u "I"), (2, u "hashIsZero"), (0, u "Z"), (0, .methodref 10 28), (0, .nameAndType 5 29), (0, u "([CIILjava/lang/Void;)V"), (8, .fieldref 10 39), (0, .nameAndType 40 26), (0, u "COMPACT_STRINGS"), (1, .class_ 44), (1, u "java/lang/StringUTF16"), (0, u "compress"), (1, .methodref 42 48), (0, .nameAndType 49 50), (0, u "coderFromArrayLen"), (0, u "([BI)B"), (56, .class_ 109), (1, u "java/lang/StringLatin1"), (32, u "()Z"), (34, .methodref 42 178), (0, .nameAndType 45 179), (0, u "([CII)[B"), (154, u "()I"), (0, .methodref 10 336), (0, .nameAndType 17 337), (0, u "()B"), (25, u "([BI)C"), (27, u "(II)V"), (35, u "(I)C"), (64, .methodref 10 493), (0, .nameAndType 494 142), (0, u "isLatin1"), (0, .methodref 107 496), (0, .nameAndType 497 363), (0, u "charAt"), (3, u "checkIndex"), (5, u "length"), (33, .methodref 107 542), (0, .nameAndType 543 544), (0, u "equals"), (0, u "([B[B)Z"), (28, u "(Ljava/lang/Object;)Z"), (1, .class_ 576), (0, u "java/lang/CharSequence"), (22, u "CASE_INSENSITIVE_ORDER"), (0, u "Ljava/util/Comparator;"), (409, u "([C)V"), (42, .fieldref 1054 1055), (0, .class_ 1056), (0, .nameAndType 1057 1058), (0, u "jdk/internal/util/Preconditions"), (0, u "SIOOBE_FORMATTER"), (0, u "Ljava/util/function/BiFunction;"), (0, .methodref 1054 1060), (0, .nameAndType 501 1061), (0, u "(IILjava/util/function/BiFunction;)I"), (39, u "serialPersistentFields"), (0, u "[Ljava/io/ObjectStreamField;"), (0, .class_ 1104), (0, u "java/lang/String$CaseInsensitiveComparator"), (1, .class_ 1107), (0, u "java/io/Serializable"), (0, .class_ 1109), (0, u "java/lang/Comparable"), (0, .class_ 1111), (0, u "java/lang/constant/Constable"), (0, .class_ 1113), (0, u "java/lang/constant/ConstantDesc"), (2, u "serialVersionUID"), (0, u "J"), (3, u "REPL"), (0, u "C"), (2, u "LATIN1"), (1, u "UTF16")] 323

def k7m0 : Method := { name := "<init>", desc := "()V", sig := { parameters := [], returnType := none }, accessFlags := 1, code := none }
def k7c1 : Code := { maxStack := 5, maxLocals := 2, code := jdk_42_method_3_code, exceptionTable := #[], attributes := #[] }
def k7m1 : Method := { name := "<init>", desc := "([C)V", sig := { parameters := [(.array .char)], returnType := none }, accessFlags := 1, code := some k7c1 }
def k7c2 : Code := { maxStack := 2, maxLocals := 1, code := jdk_42_method_54_code, exceptionTable := #[], attributes := #[] }
def k7m2 : Method := { name := "length", desc := "()I", sig := { parameters := [], returnType := some .int }, accessFlags := 1, code := some k7c2 }
def k7c3 : Code := { maxStack := 2, maxLocals := 2, code := jdk_42_method_56_code, exceptionTable := #[], attributes := #[] }
def k7m3 : Method := { name := "charAt", desc := "(I)C", sig := { parameters := [.int], returnType := some .char }, accessFlags := 1, code := some k7c3 }
def k7c4 : Code := { maxStack := 2, maxLocals := 3, code := jdk_42_method_66_code, exceptionTable := #[], attributes := #[] }
def k7m4 : Method := { name := "equals", desc := "(Ljava/lang/Object;)Z", sig := { parameters := [(.object "java/lang/Object")], returnType := some .boolean }, accessFlags := 1, code := some k7c4 }
def k7c5 : Code := { maxStack := 4, maxLocals := 6, code := jdk_42_method_149_code, exceptionTable := #[], attributes := #[] }
def k7m5 : Method := { name := "<init>", desc := "([CIILjava/lang/Void;)V", sig := { parameters := [(.array .char), .int, .int, (.object "java/lang/Void")], returnType := none }, accessFlags := 2, code := some k7c5 }
def k7c6 : Code := { maxStack := 1, maxLocals := 1, code := jdk_42_method_152_code, exceptionTable := #[], attributes := #[] }
def k7m6 : Method := { name := "coder", desc := "()B", sig := { parameters := [], returnType := some .byte }, accessFlags := 0, code := some k7c6 }
def k7c7 : Code := { maxStack := 1, maxLocals := 1, code := jdk_42_method_154_code, exceptionTable := #[], attributes := #[] }
def k7m7 : Method := { name := "isLatin1", desc := "()Z", sig := { parameters := [], returnType := some .boolean }, accessFlags := 0, code := some k7c7 }
def k7c8 : Code := { maxStack := 3, maxLocals := 2, code := jdk_42_method_155_code, exceptionTable := #[], attributes := #[] }
def k7m8 : Method := { name := "checkIndex", desc := "(II)V", sig := { parameters := [.int, .int], returnType := none }, accessFlags := 8, code := some k7c8 }
/-- java/lang/String -/
def k7 : Class := { plain "java/lang/String" (some 0) with
  accessFlags := 49
  interfaces := #[2, 3, 4, 5, 6]
  cf := some (fileOf pool7 10 #[.nestMembers #[1103]] #[{ accessFlags := 1, nameIndex := 5, descriptorIndex := 6, attributes := #[] }, { accessFlags := 1, nameIndex := 5, descriptorIndex := 1010, attributes := #[] }, { accessFlags := 1, nameIndex := 507, descriptorIndex := 334, attributes := #[] }, { accessFlags := 1, nameIndex := 497, descriptorIndex := 427, attributes := #[] }, { accessFlags := 1, nameIndex := 543, descriptorIndex := 573, attributes := #[] }, { accessFlags := 2, nameIndex := 5, descriptorIndex := 29, attributes := #[] }, { accessFlags := 0, nameIndex := 17, descriptorIndex := 337, attributes := #[] }, { accessFlags := 0, nameIndex := 494, descriptorIndex := 142, attributes := #[] }, { accessFlags := 8, nameIndex := 501, descriptorIndex := 391, attributes := #[] }] 49 2 #[1106, 1108, 575, 1110, 1112] #[{ accessFlags := 18, nameIndex := 13, descriptorIndex := 14, attributes := #[] }, { accessFlags := 18, nameIndex := 17, descriptorIndex := 18, attributes := #[] }, { accessFlags := 2, nameIndex := 21, descriptorIndex := 22, attributes := #[] }, { accessFlags := 2, nameIndex := 25, descriptorIndex := 26, attributes := #[] }, { accessFlags := 26, nameIndex := 1116, descriptorIndex := 1117, attributes := #[] }, { accessFlags := 24, nameIndex := 40, descriptorIndex := 26, attributes := #[] }, { accessFlags := 26, nameIndex := 1101, descriptorIndex := 1102, attributes := #[] }, { accessFlags := 26, nameIndex := 1121, descriptorIndex := 1122, attributes := #[] }, { accessFlags := 25, nameIndex := 599, descriptorIndex := 600, attributes := #[] }, { accessFlags := 24, nameIndex := 1125, descriptorIndex := 18, attributes := #[] }, { accessFlags := 24, nameIndex := 1127, descriptorIndex := 18, attributes := #[] }])
  fields := #[{ name := "value", type := (.array .byte), accessFlags := 18, slot := 0, constantValue := 0 }, { name := "coder", type := .byte, accessFlags := 18, slot := 1, constantValue := 0 }, { name := "hash", type := .int, accessFlags := 2, slot := 2, constantValue := 0 }, { name := "hashIsZero", type := .boolean, accessFlags := 2, slot := 3, constantValue := 0 }, { name := "serialVersionUID", type := .long, accessFlags := 26, slot := 0, constantValue := 0 }, { name := "COMPACT_STRINGS", type := .boolean, accessFlags := 24, slot := 1, constantValue := 0 }, { name := "serialPersistentFields", type := (.array (.object "java/io/ObjectStreamField")), accessFlags := 26, slot := 2, constantValue := 0 }, { name := "REPL", type := .char, accessFlags := 26, slot := 3, constantValue := 0 }, { name := "CASE_INSENSITIVE_ORDER", type := (.object "java/util/Comparator"), accessFlags := 25, slot := 4, constantValue := 0 }, { name := "LATIN1", type := .byte, accessFlags := 24, slot := 5, constantValue := 0 }, { name := "UTF16", type := .byte, accessFlags := 24, slot := 6, constantValue := 0 }]
  methods := #[k7m0, k7m1, k7m2, k7m3, k7m4, k7m5, k7m6, k7m7, k7m8]
  instanceTypes := #[(.array .byte), .byte, .int, .boolean]
  staticTypes := #[.long, .boolean, (.array (.object "java/io/ObjectStreamField")), .char, (.object "java/util/Comparator"), .byte, .byte]
  resolved := Array.replicate 1451 none
  statics := some 0 }

def pool8 : Array CpInfo := pool [(1, .class_ 2), (0, u "java/lang/String"), (1, .class_ 6), (1, u "java/lang/Object"), (0, u "<init>"), (0, u "()V"), (0, .methodref 1 10), (0, .nameAndType 11 12), (0, u "checkIndex"), (0, u "(II)V"), (1, .class_ 16), (1, u "java/lang/StringLatin1"), (36, u "([BI)C"), (67, u "$assertionsDisabled"), (0, u "Z"), (98, .class_ 223), (1, u "java/lang/StringLatin1$LinesSpliterator"), (28, u "charAt"), (28, u "equals"), (0, u "([B[B)Z"), (107, .class_ 391), (0, u "java/lang/StringLatin1$CharsSpliterator")] 3

def k8m0 : Method := { name := "<init>", desc := "()V", sig := { parameters := [], returnType := none }, accessFlags := 0, code := none }
def k8c1 : Code := { maxStack := 2, maxLocals := 2, code := jdk_43_method_2_code, exceptionTable := #[], attributes := #[] }
def k8m1 : Method := { name := "charAt", desc := "([BI)C", sig := { parameters := [(.array .byte), .int], returnType := some .char }, accessFlags := 9, code := some k8c1 }
def k8c2 : Code := { maxStack := 3, maxLocals := 3, code := jdk_43_method_13_code, exceptionTable := #[], attributes := #[] }
def k8m2 : Method := { name := "equals", desc := "([B[B)Z", sig := { parameters := [(.array .byte), (.array .byte)], returnType := some .boolean }, accessFlags := 9, code := some k8c2 }
/-- java/lang/StringLatin1 -/
def k8 : Class := { plain "java/lang/StringLatin1" (some 0) with
  accessFlags := 48
  interfaces := #[]
  cf := some (fileOf pool8 14 #[.nestMembers #[390, 221]] #[{ accessFlags := 0, nameIndex := 7, descriptorIndex := 8, attributes := #[] }, { accessFlags := 9, nameIndex := 252, descriptorIndex := 53, attributes := #[] }, { accessFlags := 9, nameIndex := 281, descriptorIndex := 282, attributes := #[] }] 48 4 #[] #[{ accessFlags := 4120, nameIndex := 121, descriptorIndex := 122, attributes := #[] }])
  fields := #[{ name := "$assertionsDisabled", type := .boolean, accessFlags := 4120, slot := 0, constantValue := 0 }]
  methods := #[k8m0, k8m1, k8m2]
  instanceTypes := #[]
  staticTypes := #[.boolean]
  resolved := Array.replicate 395 none
  statics := none }

def pool9 : Array CpInfo := pool [(2, .class_ 4), (1, u "java/lang/Object"), (0, u "<init>"), (0, u "()V"), (17, .class_ 26), (1, u "jdk/internal/util/Preconditions"), (6, u "checkIndex"), (21, .class_ 56), (0, u "jdk/internal/util/Preconditions$4"), (57, .class_ 115), (0, u "jdk/internal/util/Preconditions$1"), (7, u "SIOOBE_FORMATTER"), (0, u "Ljava/util/function/BiFunction;"), (0, .class_ 126), (0, u "jdk/internal/util/Preconditions$2"), (3, u "AIOOBE_FORMATTER"), (0, .class_ 132), (0, u "jdk/internal/util/Preconditions$3"), (3, u "IOOBE_FORMATTER"), (41, u "(IILjava/util/function/BiFunction;)I")] 15

def k9m0 : Method := { name := "<init>", desc := "()V", sig := { parameters := [], returnType := none }, accessFlags := 1, code := none }
def k9c1 : Code := { maxStack := 3, maxLocals := 3, code := jdk_41_method_11_code, exceptionTable := #[], attributes := #[] }
def k9m1 : Method := { name := "checkIndex", desc := "(IILjava/util/function/BiFunction;)I", sig := { parameters := [.int, .int, (.object "java/util/function/BiFunction")], returnType := some .int }, accessFlags := 9, code := some k9c1 }
/-- jdk/internal/util/Preconditions -/
def k9 : Class := { plain "jdk/internal/util/Preconditions" (some 0) with
  accessFlags := 33
  interfaces := #[]
  cf := some (fileOf pool9 24 #[.nestMembers #[55, 131, 125, 114]] #[{ accessFlags := 1, nameIndex := 5, descriptorIndex := 6, attributes := #[] }, { accessFlags := 9, nameIndex := 33, descriptorIndex := 178, attributes := #[] }] 33 2 #[] #[{ accessFlags := 25, nameIndex := 123, descriptorIndex := 124, attributes := #[] }, { accessFlags := 25, nameIndex := 130, descriptorIndex := 124, attributes := #[] }, { accessFlags := 25, nameIndex := 136, descriptorIndex := 124, attributes := #[] }])
  fields := #[{ name := "SIOOBE_FORMATTER", type := (.object "java/util/function/BiFunction"), accessFlags := 25, slot := 0, constantValue := 0 }, { name := "AIOOBE_FORMATTER", type := (.object "java/util/function/BiFunction"), accessFlags := 25, slot := 1, constantValue := 0 }, { name := "IOOBE_FORMATTER", type := (.object "java/util/function/BiFunction"), accessFlags := 25, slot := 2, constantValue := 0 }]
  methods := #[k9m0, k9m1]
  instanceTypes := #[]
  staticTypes := #[(.object "java/util/function/BiFunction"), (.object "java/util/function/BiFunction"), (.object "java/util/function/BiFunction")]
  resolved := Array.replicate 194 none
  statics := some 1 }

def pool10 : Array CpInfo := pool [(6, .class_ 8), (1, u "java/lang/Object"), (0, u "<init>"), (0, u "()V"), (1, .class_ 14), (1, u "java/lang/StringUTF16"), (31, u "$assertionsDisabled"), (0, u "Z"), (13, u "HI_BYTE_SHIFT"), (0, u "I"), (2, u "LO_BYTE_SHIFT"), (49, .methodref 12 116), (0, .nameAndType 117 118), (0, u "compress"), (0, u "([CI[BII)I"), (3, u "([CII)[B"), (138, u "coderFromArrayLen"), (0, u "([BI)B"), (106, .class_ 371), (1, u "java/lang/StringUTF16$LinesSpliterator"), (58, u "MAX_LENGTH"), (196, .class_ 628), (0, u "java/lang/StringUTF16$CodePointsSpliterator"), (0, .class_ 630), (0, u "java/lang/StringUTF16$CharsSpliterator")] 4

def k10m0 : Method := { name := "<init>", desc := "()V", sig := { parameters := [], returnType := none }, accessFlags := 0, code := none }
def k10c1 : Code := { maxStack := 2, maxLocals := 2, code := jdk_52_method_15_code, exceptionTable := #[], attributes := #[] }
def k10m1 : Method := { name := "coderFromArrayLen", desc := "([BI)B", sig := { parameters := [(.array .byte), .int], returnType := some .byte }, accessFlags := 8, code := some k10c1 }
def k10c2 : Code := { maxStack := 5, maxLocals := 6, code := jdk_52_method_16_code, exceptionTable := #[], attributes := #[] }
def k10m2 : Method := { name := "compress", desc := "([CII)[B", sig := { parameters := [(.array .char), .int, .int], returnType := some (.array .byte) }, accessFlags := 9, code := some k10c2 }
def k10c3 : Code := { maxStack := 3, maxLocals := 7, code := jdk_52_method_21_code, exceptionTable := #[], attributes := #[] }
def k10m3 : Method := { name := "compress", desc := "([CI[BII)I", sig := { parameters := [(.array .char), .int, (.array .byte), .int, .int], returnType := some .int }, accessFlags := 9, code := some k10c3 }
/-- java/lang/StringUTF16 -/
def k10 : Class := { plain "java/lang/StringUTF16" (some 0) with
  accessFlags := 48
  interfaces := #[]
  cf := some (fileOf pool10 12 #[.nestMembers #[627, 629, 369]] #[{ accessFlags := 0, nameIndex := 9, descriptorIndex := 10, attributes := #[] }, { accessFlags := 8, nameIndex := 261, descriptorIndex := 262, attributes := #[] }, { accessFlags := 9, nameIndex := 117, descriptorIndex := 122, attributes := #[] }, { accessFlags := 9, nameIndex := 117, descriptorIndex := 118, attributes := #[] }] 48 6 #[] #[{ accessFlags := 26, nameIndex := 61, descriptorIndex := 62, attributes := #[] }, { accessFlags := 26, nameIndex := 65, descriptorIndex := 62, attributes := #[] }, { accessFlags := 24, nameIndex := 430, descriptorIndex := 62, attributes := #[] }, { accessFlags := 4120, nameIndex := 46, descriptorIndex := 47, attributes := #[] }])
  fields := #[{ name := "HI_BYTE_SHIFT", type := .int, accessFlags := 26, slot := 0, constantValue := 0 }, { name := "LO_BYTE_SHIFT", type := .int, accessFlags := 26, slot := 1, constantValue := 0 }, { name := "MAX_LENGTH", type := .int, accessFlags := 24, slot := 2, constantValue := 0 }, { name := "$assertionsDisabled", type := .boolean, accessFlags := 4120, slot := 3, constantValue := 0 }]
  methods := #[k10m0, k10m1, k10m2, k10m3]
  instanceTypes := #[]
  staticTypes := #[.int, .int, .int, .boolean]
  resolved := Array.replicate 635 none
  statics := none }

def pool11 : Array CpInfo := pool [(2, .class_ 4), (1, u "java/lang/Enum"), (0, u "name"), (0, u "Ljava/lang/String;"), (2, u "ordinal"), (0, u "I"), (1, .class_ 14), (1, u "java/lang/Object"), (4, u "hash"), (86, .class_ 108), (1, u "java/lang/Enum$EnumDesc"), (2, .class_ 112), (0, u "java/lang/constant/Constable"), (0, .class_ 114), (0, u "java/lang/Comparable"), (0, .class_ 116), (0, u "java/io/Serializable")] 87

/-- java/lang/Enum -/
def k11 : Class := { plain "java/lang/Enum" (some 0) with
  accessFlags := 1057
  interfaces := #[5, 3, 2]
  cf := some (fileOf pool11 2 #[.nestMembers #[106]] #[] 1057 12 #[111, 113, 115] #[{ accessFlags := 18, nameIndex := 5, descriptorIndex := 6, attributes := #[] }, { accessFlags := 18, nameIndex := 9, descriptorIndex := 10, attributes := #[] }, { accessFlags := 2, nameIndex := 19, descriptorIndex := 10, attributes := #[] }])
  fields := #[{ name := "name", type := (.object "java/lang/String"), accessFlags := 18, slot := 0, constantValue := 0 }, { name := "ordinal", type := .int, accessFlags := 18, slot := 1, constantValue := 0 }, { name := "hash", type := .int, accessFlags := 2, slot := 2, constantValue := 0 }]
  methods := #[]
  instanceTypes := #[(.object "java/lang/String"), .int, .int]
  staticTypes := #[]
  resolved := Array.replicate 204 none
  statics := none }

def pool12 : Array CpInfo := pool [(1, .class_ 2), (0, u "com/example/spatial_at_rest/spatialatrest/Interpolation"), (2, u "DISCRETE"), (0, u "Lcom/example/spatial_at_rest/spatialatrest/Interpolation;"), (2, u "STEP"), (2, u "LINEAR"), (0, .fieldref 1 14), (0, .nameAndType 15 16), (0, u "$VALUES"), (0, u "[Lcom/example/spatial_at_rest/spatialatrest/Interpolation;"), (0, .methodref 18 19), (0, .class_ 16), (0, .nameAndType 20 21), (0, u "clone"), (0, u "()Ljava/lang/Object;"), (1, .class_ 25), (1, u "java/lang/Enum"), (6, .fieldref 1 33), (0, .nameAndType 34 35), (0, u "wireName"), (0, u "Ljava/lang/String;"), (0, .methodref 1 37), (0, .nameAndType 38 39), (0, u "values"), (0, u "()[Lcom/example/spatial_at_rest/spatialatrest/Interpolation;"), (0, .methodref 41 42), (0, .class_ 43), (0, .nameAndType 44 45), (0, u "java/lang/String"), (0, u "equals"), (0, u "(Ljava/lang/Object;)Z"), (17, u "(Ljava/lang/String;)Lcom/example/spatial_at_rest/spatialatrest/Interpolation;"), (4, u "named")] 8

def k12c0 : Code := { maxStack := 1, maxLocals := 0, code := prog_4_method_1_code, exceptionTable := #[], attributes := #[] }
def k12m0 : Method := { name := "values", desc := "()[Lcom/example/spatial_at_rest/spatialatrest/Interpolation;", sig := { parameters := [], returnType := some (.array (.object "com/example/spatial_at_rest/spatialatrest/Interpolation")) }, accessFlags := 9, code := some k12c0 }
def k12c1 : Code := { maxStack := 2, maxLocals := 6, code := prog_4_method_5_code, exceptionTable := #[], attributes := #[] }
def k12m1 : Method := { name := "named", desc := "(Ljava/lang/String;)Lcom/example/spatial_at_rest/spatialatrest/Interpolation;", sig := { parameters := [(.object "java/lang/String")], returnType := some (.object "com/example/spatial_at_rest/spatialatrest/Interpolation") }, accessFlags := 8, code := some k12c1 }
/-- com/example/spatial_at_rest/spatialatrest/Interpolation -/
def k12 : Class := { plain "com/example/spatial_at_rest/spatialatrest/Interpolation" (some 11) with
  accessFlags := 16432
  interfaces := #[]
  cf := some (fileOf pool12 1 #[] #[{ accessFlags := 9, nameIndex := 38, descriptorIndex := 39, attributes := #[] }, { accessFlags := 8, nameIndex := 68, descriptorIndex := 63, attributes := #[] }] 16432 23 #[] #[{ accessFlags := 16409, nameIndex := 5, descriptorIndex := 6, attributes := #[] }, { accessFlags := 16409, nameIndex := 9, descriptorIndex := 6, attributes := #[] }, { accessFlags := 16409, nameIndex := 12, descriptorIndex := 6, attributes := #[] }, { accessFlags := 18, nameIndex := 34, descriptorIndex := 35, attributes := #[] }, { accessFlags := 4122, nameIndex := 15, descriptorIndex := 16, attributes := #[] }])
  fields := #[{ name := "DISCRETE", type := (.object "com/example/spatial_at_rest/spatialatrest/Interpolation"), accessFlags := 16409, slot := 0, constantValue := 0 }, { name := "STEP", type := (.object "com/example/spatial_at_rest/spatialatrest/Interpolation"), accessFlags := 16409, slot := 1, constantValue := 0 }, { name := "LINEAR", type := (.object "com/example/spatial_at_rest/spatialatrest/Interpolation"), accessFlags := 16409, slot := 2, constantValue := 0 }, { name := "wireName", type := (.object "java/lang/String"), accessFlags := 18, slot := 3, constantValue := 0 }, { name := "$VALUES", type := (.array (.object "com/example/spatial_at_rest/spatialatrest/Interpolation")), accessFlags := 4122, slot := 3, constantValue := 0 }]
  methods := #[k12m0, k12m1]
  instanceTypes := #[(.object "java/lang/String"), .int, .int, (.object "java/lang/String")]
  staticTypes := #[(.object "com/example/spatial_at_rest/spatialatrest/Interpolation"), (.object "com/example/spatial_at_rest/spatialatrest/Interpolation"), (.object "com/example/spatial_at_rest/spatialatrest/Interpolation"), (.array (.object "com/example/spatial_at_rest/spatialatrest/Interpolation"))]
  resolved := Array.replicate 77 none
  statics := some 2 }

def pool13 : Array CpInfo := pool [(1, .class_ 2), (0, u "java/lang/Cloneable"), (0, .class_ 4), (0, u "java/lang/Object")] 2

/-- java/lang/Cloneable -/
def k13 : Class := { plain "java/lang/Cloneable" (some 0) with
  accessFlags := 1537
  interfaces := #[]
  cf := some (fileOf pool13 1 #[] #[] 1537 3 #[] #[])
  fields := #[]
  methods := #[]
  instanceTypes := #[]
  staticTypes := #[]
  resolved := Array.replicate 7 none
  statics := none }

def pool14 : Array CpInfo := pool [(9, u "<init>"), (6, .class_ 18), (1, u "java/lang/Object"), (0, u "()V"), (1, .class_ 23), (1, u "jdk/internal/util/ArraysSupport"), (0, u "LOG2_ARRAY_LONG_INDEX_SCALE"), (0, u "I"), (2, u "U"), (0, u "Ljdk/internal/misc/Unsafe;"), (8, u "BIG_ENDIAN"), (0, u "Z"), (8, u "LOG2_BYTE_BIT_SIZE"), (4, u "LOG2_ARRAY_INT_INDEX_SCALE"), (54, u "JLA"), (0, u "Ljdk/internal/access/JavaLangAccess;"), (11, u "LOG2_ARRAY_BOOLEAN_INDEX_SCALE"), (9, u "LOG2_ARRAY_BYTE_INDEX_SCALE"), (5, u "LOG2_ARRAY_CHAR_INDEX_SCALE"), (5, u "LOG2_ARRAY_SHORT_INDEX_SCALE"), (18, u "LOG2_ARRAY_FLOAT_INDEX_SCALE"), (24, u "LOG2_ARRAY_DOUBLE_INDEX_SCALE"), (89, u "T_BOOLEAN"), (2, u "T_CHAR"), (1, u "T_FLOAT"), (1, u "T_DOUBLE"), (1, u "T_BYTE"), (1, u "T_SHORT"), (1, u "T_INT"), (1, u "T_LONG"), (1, u "SOFT_MAX_ARRAY_LENGTH")] 83

def k14m0 : Method := { name := "<init>", desc := "()V", sig := { parameters := [], returnType := none }, accessFlags := 2, code := none }
/-- jdk/internal/util/ArraysSupport -/
def k14 : Class := { plain "jdk/internal/util/ArraysSupport" (some 0) with
  accessFlags := 33
  interfaces := #[]
  cf := some (fileOf pool14 21 #[] #[{ accessFlags := 2, nameIndex := 9, descriptorIndex := 19, attributes := #[] }] 33 16 #[] #[{ accessFlags := 24, nameIndex := 28, descriptorIndex := 29, attributes := #[] }, { accessFlags := 26, nameIndex := 38, descriptorIndex := 39, attributes := #[] }, { accessFlags := 25, nameIndex := 121, descriptorIndex := 25, attributes := #[] }, { accessFlags := 25, nameIndex := 131, descriptorIndex := 25, attributes := #[] }, { accessFlags := 25, nameIndex := 137, descriptorIndex := 25, attributes := #[] }, { accessFlags := 25, nameIndex := 143, descriptorIndex := 25, attributes := #[] }, { accessFlags := 25, nameIndex := 53, descriptorIndex := 25, attributes := #[] }, { accessFlags := 25, nameIndex := 24, descriptorIndex := 25, attributes := #[] }, { accessFlags := 25, nameIndex := 162, descriptorIndex := 25, attributes := #[] }, { accessFlags := 25, nameIndex := 187, descriptorIndex := 25, attributes := #[] }, { accessFlags := 26, nameIndex := 48, descriptorIndex := 25, attributes := #[] }, { accessFlags := 25, nameIndex := 277, descriptorIndex := 25, attributes := #[] }, { accessFlags := 25, nameIndex := 280, descriptorIndex := 25, attributes := #[] }, { accessFlags := 25, nameIndex := 282, descriptorIndex := 25, attributes := #[] }, { accessFlags := 25, nameIndex := 284, descriptorIndex := 25, attributes := #[] }, { accessFlags := 25, nameIndex := 286, descriptorIndex := 25, attributes := #[] }, { accessFlags := 25, nameIndex := 288, descriptorIndex := 25, attributes := #[] }, { accessFlags := 25, nameIndex := 290, descriptorIndex := 25, attributes := #[] }, { accessFlags := 25, nameIndex := 292, descriptorIndex := 25, attributes := #[] }, { accessFlags := 26, nameIndex := 108, descriptorIndex := 109, attributes := #[] }, { accessFlags := 25, nameIndex := 294, descriptorIndex := 25, attributes := #[] }])
  fields := #[{ name := "U", type := (.object "jdk/internal/misc/Unsafe"), accessFlags := 24, slot := 0, constantValue := 0 }, { name := "BIG_ENDIAN", type := .boolean, accessFlags := 26, slot := 1, constantValue := 0 }, { name := "LOG2_ARRAY_BOOLEAN_INDEX_SCALE", type := .int, accessFlags := 25, slot := 2, constantValue := 0 }, { name := "LOG2_ARRAY_BYTE_INDEX_SCALE", type := .int, accessFlags := 25, slot := 3, constantValue := 0 }, { name := "LOG2_ARRAY_CHAR_INDEX_SCALE", type := .int, accessFlags := 25, slot := 4, constantValue := 0 }, { name := "LOG2_ARRAY_SHORT_INDEX_SCALE", type := .int, accessFlags := 25, slot := 5, constantValue := 0 }, { name := "LOG2_ARRAY_INT_INDEX_SCALE", type := .int, accessFlags := 25, slot := 6, constantValue := 0 }, { name := "LOG2_ARRAY_LONG_INDEX_SCALE", type := .int, accessFlags := 25, slot := 7, constantValue := 0 }, { name := "LOG2_ARRAY_FLOAT_INDEX_SCALE", type := .int, accessFlags := 25, slot := 8, constantValue := 0 }, { name := "LOG2_ARRAY_DOUBLE_INDEX_SCALE", type := .int, accessFlags := 25, slot := 9, constantValue := 0 }, { name := "LOG2_BYTE_BIT_SIZE", type := .int, accessFlags := 26, slot := 10, constantValue := 0 }, { name := "T_BOOLEAN", type := .int, accessFlags := 25, slot := 11, constantValue := 0 }, { name := "T_CHAR", type := .int, accessFlags := 25, slot := 12, constantValue := 0 }, { name := "T_FLOAT", type := .int, accessFlags := 25, slot := 13, constantValue := 0 }, { name := "T_DOUBLE", type := .int, accessFlags := 25, slot := 14, constantValue := 0 }, { name := "T_BYTE", type := .int, accessFlags := 25, slot := 15, constantValue := 0 }, { name := "T_SHORT", type := .int, accessFlags := 25, slot := 16, constantValue := 0 }, { name := "T_INT", type := .int, accessFlags := 25, slot := 17, constantValue := 0 }, { name := "T_LONG", type := .int, accessFlags := 25, slot := 18, constantValue := 0 }, { name := "JLA", type := (.object "jdk/internal/access/JavaLangAccess"), accessFlags := 26, slot := 19, constantValue := 0 }, { name := "SOFT_MAX_ARRAY_LENGTH", type := .int, accessFlags := 25, slot := 20, constantValue := 0 }]
  methods := #[k14m0]
  instanceTypes := #[]
  staticTypes := #[(.object "jdk/internal/misc/Unsafe"), .boolean, .int, .int, .int, .int, .int, .int, .int, .int, .int, .int, .int, .int, .int, .int, .int, .int, .int, (.object "jdk/internal/access/JavaLangAccess"), .int]
  resolved := Array.replicate 378 none
  statics := none }

/-- the primitive byte -/
def k15 : Class := { plain "byte" none with kind := .primitive 'B', accessFlags := 0x411 }
/-- [B -/
def k16 : Class := { plain "[B" (some 0) with kind := .array 15 .byte, interfaces := #[13, 2], accessFlags := 1041 }

/-- the primitive char -/
def k17 : Class := { plain "char" none with kind := .primitive 'C', accessFlags := 0x411 }
/-- [C -/
def k18 : Class := { plain "[C" (some 0) with kind := .array 17 .char, interfaces := #[13, 2], accessFlags := 1041 }

/-- the primitive int -/
def k19 : Class := { plain "int" none with kind := .primitive 'I', accessFlags := 0x411 }
/-- [I -/
def k20 : Class := { plain "[I" (some 0) with kind := .array 19 .int, interfaces := #[13, 2], accessFlags := 1041 }

/-- [Lcom/example/spatial_at_rest/spatialatrest/Interpolation; -/
def k21 : Class := { plain "[Lcom/example/spatial_at_rest/spatialatrest/Interpolation;" (some 0) with kind := .array 12 (.object "com/example/spatial_at_rest/spatialatrest/Interpolation"), interfaces := #[13, 2], accessFlags := 1041 }

def heap : Heap := #[{ cls := 7, slots := #[.long 0, .int 1, .null, .int 0, .null, .int 0, .int 0], vm := .statics 7 },
  { cls := 9, slots := #[.null, .null, .null], vm := .statics 9 },
  { cls := 12, slots := #[.ref 4, .ref 5, .ref 6, .ref 3], vm := .statics 12 },
  { cls := 21, slots := #[.ref 4, .ref 5, .ref 6], vm := .none },
  { cls := 12, slots := #[.null, .int 0, .int 0, .ref 7], vm := .none },
  { cls := 12, slots := #[.null, .int 1, .int 0, .ref 8], vm := .none },
  { cls := 12, slots := #[.null, .int 2, .int 0, .ref 9], vm := .none },
  { cls := 7, slots := #[.ref 10, .int 0, .int 0, .int 0], vm := .none },
  { cls := 7, slots := #[.ref 11, .int 0, .int 0, .int 0], vm := .none },
  { cls := 7, slots := #[.ref 12, .int 0, .int 0, .int 0], vm := .none },
  { cls := 16, slots := #[.int 68, .int 105, .int 115, .int 99, .int 114, .int 101, .int 116, .int 101], vm := .none },
  { cls := 16, slots := #[.int 83, .int 116, .int 101, .int 112], vm := .none },
  { cls := 16, slots := #[.int 76, .int 105, .int 110, .int 101, .int 97, .int 114], vm := .none }]
def classes : Array Class := #[k0, k1, k2, k3, k4, k5, k6, k7, k8, k9, k10, k11, k12, k13, k14, k15, k16, k17, k18, k19, k20, k21]
def interned : List (Array UInt16 × Addr) := []
def slotsUsed : Nat := 59
def theMethod : MethodId := ⟨1, 1⟩
def args0 : Array Value := #[.int 5, .int 7, .int 9, .int 11]
def aboutOver (below : List Frame) : State where
  vm := { classes := classes, interned := interned.toArray }
  heap := heap
  slotsUsed := slotsUsed
  threads := #[{ frames := .invoking theMethod args0 :: below }]
def below0 : List Frame := [.native { method := ⟨0, 0⟩, args := #[] }]
def about1 : State := aboutOver below0
def p0 : Program := .bare "" "" ""
def e0 : Env := launch0.env 0 0 0
theorem w_frames : about1.frames = Frame.invoking theMethod args0 :: below0 := rfl
set_option maxRecDepth 65536 in
theorem w_args : argsFit about1.vm theMethod args0 = true := by decide +kernel
set_option maxRecDepth 65536 in
theorem w_heap : heapFits about1 = true := by decide +kernel
set_option maxRecDepth 65536 in
theorem w_runnable : about1.curStatus? = some .runnable := by decide +kernel
set_option maxRecDepth 65536 in
theorem w_alone : about1.alone = true := by decide +kernel
set_option maxRecDepth 65536 in
theorem w_named : about1.methodNamed? x = some theMethod := by decide +kernel
set_option maxRecDepth 65536 in
theorem w_hears : about1.hears theMethod below0 = true := by decide +kernel
set_option maxRecDepth 65536 in
theorem w_ripe : about1.ripe theMethod args0 below0 = true := by decide +kernel
theorem w_running : about1.status = .running := rfl
set_option maxRecDepth 65536 in
theorem w_room : about1.hasRoom e0.platform room_1 = true :=
  launch0.hasRoom_least _ room_1 (by decide +kernel) (by decide +kernel) (by decide +kernel) (by decide +kernel) (by decide +kernel) (by decide +kernel)
theorem allAtoms_all (ts : List Jvm.Cond) (a : Array Jvm.Value) (st : Jvm.State) : (allAtoms ts).before a st = ts.all (fun c => c.before a st) := by
  induction ts with
  | nil => rfl
  | cons c t ih =>
    show (Jvm.Cond.and c (allAtoms t)).before a st = _
    rw [Jvm.Cond.before_and, ih, List.all_cons]
def words1 : List Jvm.Cond := Jvm.Cond.code x code maxLocals ret :: tables_1
/-- a 'code' word, met by the world's own term for the bytes: nothing is compared byte by byte -/
theorem code_word {y : MethodName} {bytes : ByteArray} {mx : Nat} {rt : Option FieldType} {a : Array Value} {s : State} {m : MethodId} {meth : Method} {c : Code} (h1 : s.methodNamed? y = some m) (h2 : s.vm.method? m = some meth) (h3 : meth.code = some c) (h4 : c.code = bytes)
    (h5 : (c.maxLocals == mx && c.exceptionTable.isEmpty && decide (c.maxStack ≤ mostOperands) && decide (meth.sig.returnType = rt) && !meth.locks && decide (parseMethodDescriptor y.desc = some meth.sig)) = true) : (Jvm.Cond.code y bytes mx rt).before a s = true := by
  simp only [Bool.and_eq_true, beq_iff_eq, Bool.not_eq_true', decide_eq_true_eq] at h5
  obtain ⟨⟨⟨⟨⟨g1, g2⟩, g3⟩, g4⟩, g5⟩, g6⟩ := h5
  simp [Cond.before, Cond.holds, Cond.value, h1, h2, h3, h4, g1, g2, g3, g4, g5, g6]
def isCode : Jvm.Cond → Bool
  | .code _ _ _ _ => true
  | _ => false
theorem all_split {L : List Jvm.Cond} {P : Jvm.Cond → Bool} (h1 : L.all (fun c => isCode c || P c) = true) (h2 : ∀ c ∈ L.filter isCode, P c = true) : L.all P = true := by
  refine List.all_eq_true.mpr fun c hc => ?_
  have h := List.all_eq_true.mp h1 c hc
  rcases Bool.eq_false_or_eq_true (isCode c) with hi | hi
  · exact h2 c (List.mem_filter.mpr ⟨hc, hi⟩)
  · simpa [hi] using h
set_option maxRecDepth 65536 in
theorem w_c0 : (Jvm.Cond.code x code maxLocals ret).before args0 about1 = true := code_word (m := ⟨1, 1⟩) (meth := k1m1) (c := k1c1) (by decide +kernel) rfl rfl rfl (by decide +kernel)
set_option maxRecDepth 65536 in
theorem w_c1 : (Jvm.Cond.code ({ cls := "java/lang/String", name := "length", desc := "()I" } : Jvm.MethodName) jdk_42_method_54_code (1 : Nat) (Option.some Jvm.ClassFile.FieldType.int)).before args0 about1 = true := code_word (m := ⟨7, 2⟩) (meth := k7m2) (c := k7c2) (by decide +kernel) rfl rfl rfl (by decide +kernel)
set_option maxRecDepth 65536 in
theorem w_c2 : (Jvm.Cond.code ({ cls := "java/lang/String", name := "coder", desc := "()B" } : Jvm.MethodName) jdk_42_method_152_code (1 : Nat) (Option.some Jvm.ClassFile.FieldType.byte)).before args0 about1 = true := code_word (m := ⟨7, 6⟩) (meth := k7m6) (c := k7c6) (by decide +kernel) rfl rfl rfl (by decide +kernel)
set_option maxRecDepth 65536 in
theorem w_c3 : (Jvm.Cond.code ({ cls := "com/example/spatial_at_rest/spatialatrest/InterpolationNamedPinLaw", name := "make", desc := "(Ljava/lang/String;IIC)Ljava/lang/String;" } : Jvm.MethodName) method_4_code (13 : Nat) (Option.some (Jvm.ClassFile.FieldType.object "java/lang/String"))).before args0 about1 = true := code_word (m := ⟨1, 3⟩) (meth := k1m3) (c := k1c3) (by decide +kernel) rfl rfl rfl (by decide +kernel)
set_option maxRecDepth 65536 in
theorem w_c4 : (Jvm.Cond.code ({ cls := "com/example/spatial_at_rest/spatialatrest/InterpolationNamedPinLaw", name := "at", desc := "(Ljava/lang/String;IIC)C" } : Jvm.MethodName) method_3_code (4 : Nat) (Option.some Jvm.ClassFile.FieldType.char)).before args0 about1 = true := code_word (m := ⟨1, 2⟩) (meth := k1m2) (c := k1c2) (by decide +kernel) rfl rfl rfl (by decide +kernel)
set_option maxRecDepth 65536 in
theorem w_c5 : (Jvm.Cond.code ({ cls := "java/lang/String", name := "charAt", desc := "(I)C" } : Jvm.MethodName) jdk_42_method_56_code (2 : Nat) (Option.some Jvm.ClassFile.FieldType.char)).before args0 about1 = true := code_word (m := ⟨7, 3⟩) (meth := k7m3) (c := k7c3) (by decide +kernel) rfl rfl rfl (by decide +kernel)
set_option maxRecDepth 65536 in
theorem w_c6 : (Jvm.Cond.code ({ cls := "java/lang/String", name := "isLatin1", desc := "()Z" } : Jvm.MethodName) jdk_42_method_154_code (1 : Nat) (Option.some Jvm.ClassFile.FieldType.boolean)).before args0 about1 = true := code_word (m := ⟨7, 7⟩) (meth := k7m7) (c := k7c7) (by decide +kernel) rfl rfl rfl (by decide +kernel)
set_option maxRecDepth 65536 in
theorem w_c7 : (Jvm.Cond.code ({ cls := "java/lang/StringLatin1", name := "charAt", desc := "([BI)C" } : Jvm.MethodName) jdk_43_method_2_code (2 : Nat) (Option.some Jvm.ClassFile.FieldType.char)).before args0 about1 = true := code_word (m := ⟨8, 1⟩) (meth := k8m1) (c := k8c1) (by decide +kernel) rfl rfl rfl (by decide +kernel)
set_option maxRecDepth 65536 in
theorem w_c8 : (Jvm.Cond.code ({ cls := "java/lang/String", name := "checkIndex", desc := "(II)V" } : Jvm.MethodName) jdk_42_method_155_code (2 : Nat) (Option.none : Option Jvm.ClassFile.FieldType)).before args0 about1 = true := code_word (m := ⟨7, 8⟩) (meth := k7m8) (c := k7c8) (by decide +kernel) rfl rfl rfl (by decide +kernel)
set_option maxRecDepth 65536 in
theorem w_c9 : (Jvm.Cond.code ({ cls := "jdk/internal/util/Preconditions", name := "checkIndex", desc := "(IILjava/util/function/BiFunction;)I" } : Jvm.MethodName) jdk_41_method_11_code (3 : Nat) (Option.some Jvm.ClassFile.FieldType.int)).before args0 about1 = true := code_word (m := ⟨9, 1⟩) (meth := k9m1) (c := k9c1) (by decide +kernel) rfl rfl rfl (by decide +kernel)
set_option maxRecDepth 65536 in
theorem w_c10 : (Jvm.Cond.code ({ cls := "java/lang/String", name := "<init>", desc := "([C)V" } : Jvm.MethodName) jdk_42_method_3_code (2 : Nat) (Option.none : Option Jvm.ClassFile.FieldType)).before args0 about1 = true := code_word (m := ⟨7, 1⟩) (meth := k7m1) (c := k7c1) (by decide +kernel) rfl rfl rfl (by decide +kernel)
set_option maxRecDepth 65536 in
theorem w_c11 : (Jvm.Cond.code ({ cls := "java/lang/String", name := "<init>", desc := "([CIILjava/lang/Void;)V" } : Jvm.MethodName) jdk_42_method_149_code (6 : Nat) (Option.none : Option Jvm.ClassFile.FieldType)).before args0 about1 = true := code_word (m := ⟨7, 5⟩) (meth := k7m5) (c := k7c5) (by decide +kernel) rfl rfl rfl (by decide +kernel)
set_option maxRecDepth 65536 in
theorem w_c12 : (Jvm.Cond.code ({ cls := "java/lang/Object", name := "<init>", desc := "()V" } : Jvm.MethodName) object_method_1_code (1 : Nat) (Option.none : Option Jvm.ClassFile.FieldType)).before args0 about1 = true := code_word (m := ⟨0, 0⟩) (meth := k0m0) (c := k0c0) (by decide +kernel) rfl rfl rfl (by decide +kernel)
set_option maxRecDepth 65536 in
theorem w_c13 : (Jvm.Cond.code ({ cls := "java/lang/StringUTF16", name := "compress", desc := "([CII)[B" } : Jvm.MethodName) jdk_52_method_16_code (6 : Nat) (Option.some (Jvm.ClassFile.FieldType.array Jvm.ClassFile.FieldType.byte))).before args0 about1 = true := code_word (m := ⟨10, 2⟩) (meth := k10m2) (c := k10c2) (by decide +kernel) rfl rfl rfl (by decide +kernel)
set_option maxRecDepth 65536 in
theorem w_c14 : (Jvm.Cond.code ({ cls := "java/lang/StringUTF16", name := "compress", desc := "([CI[BII)I" } : Jvm.MethodName) jdk_52_method_21_code (7 : Nat) (Option.some Jvm.ClassFile.FieldType.int)).before args0 about1 = true := code_word (m := ⟨10, 3⟩) (meth := k10m3) (c := k10c3) (by decide +kernel) rfl rfl rfl (by decide +kernel)
set_option maxRecDepth 65536 in
theorem w_c15 : (Jvm.Cond.code ({ cls := "java/lang/StringUTF16", name := "coderFromArrayLen", desc := "([BI)B" } : Jvm.MethodName) jdk_52_method_15_code (2 : Nat) (Option.some Jvm.ClassFile.FieldType.byte)).before args0 about1 = true := code_word (m := ⟨10, 1⟩) (meth := k10m1) (c := k10c1) (by decide +kernel) rfl rfl rfl (by decide +kernel)
set_option maxRecDepth 65536 in
theorem w_c16 : (Jvm.Cond.code ({ cls := "java/lang/String", name := "equals", desc := "(Ljava/lang/Object;)Z" } : Jvm.MethodName) jdk_42_method_66_code (3 : Nat) (Option.some Jvm.ClassFile.FieldType.boolean)).before args0 about1 = true := code_word (m := ⟨7, 4⟩) (meth := k7m4) (c := k7c4) (by decide +kernel) rfl rfl rfl (by decide +kernel)
set_option maxRecDepth 65536 in
theorem w_c17 : (Jvm.Cond.code ({ cls := "java/lang/StringLatin1", name := "equals", desc := "([B[B)Z" } : Jvm.MethodName) jdk_43_method_13_code (3 : Nat) (Option.some Jvm.ClassFile.FieldType.boolean)).before args0 about1 = true := code_word (m := ⟨8, 2⟩) (meth := k8m2) (c := k8c2) (by decide +kernel) rfl rfl rfl (by decide +kernel)
set_option maxRecDepth 65536 in
theorem w_c18 : (Jvm.Cond.code ({ cls := "com/example/spatial_at_rest/spatialatrest/Interpolation", name := "named", desc := "(Ljava/lang/String;)Lcom/example/spatial_at_rest/spatialatrest/Interpolation;" } : Jvm.MethodName) prog_4_method_5_code (6 : Nat) (Option.some (Jvm.ClassFile.FieldType.object "com/example/spatial_at_rest/spatialatrest/Interpolation"))).before args0 about1 = true := code_word (m := ⟨12, 1⟩) (meth := k12m1) (c := k12c1) (by decide +kernel) rfl rfl rfl (by decide +kernel)
set_option maxRecDepth 65536 in
theorem w_c19 : (Jvm.Cond.code ({ cls := "com/example/spatial_at_rest/spatialatrest/Interpolation", name := "values", desc := "()[Lcom/example/spatial_at_rest/spatialatrest/Interpolation;" } : Jvm.MethodName) prog_4_method_1_code (0 : Nat) (Option.some (Jvm.ClassFile.FieldType.array (Jvm.ClassFile.FieldType.object "com/example/spatial_at_rest/spatialatrest/Interpolation")))).before args0 about1 = true := code_word (m := ⟨12, 0⟩) (meth := k12m0) (c := k12c0) (by decide +kernel) rfl rfl rfl (by decide +kernel)
def codes1 : List Jvm.Cond := [Jvm.Cond.code x code maxLocals ret, Jvm.Cond.code ({ cls := "java/lang/String", name := "length", desc := "()I" } : Jvm.MethodName) jdk_42_method_54_code (1 : Nat) (Option.some Jvm.ClassFile.FieldType.int), Jvm.Cond.code ({ cls := "java/lang/String", name := "coder", desc := "()B" } : Jvm.MethodName) jdk_42_method_152_code (1 : Nat) (Option.some Jvm.ClassFile.FieldType.byte), Jvm.Cond.code ({ cls := "com/example/spatial_at_rest/spatialatrest/InterpolationNamedPinLaw", name := "make", desc := "(Ljava/lang/String;IIC)Ljava/lang/String;" } : Jvm.MethodName) method_4_code (13 : Nat) (Option.some (Jvm.ClassFile.FieldType.object "java/lang/String")), Jvm.Cond.code ({ cls := "com/example/spatial_at_rest/spatialatrest/InterpolationNamedPinLaw", name := "at", desc := "(Ljava/lang/String;IIC)C" } : Jvm.MethodName) method_3_code (4 : Nat) (Option.some Jvm.ClassFile.FieldType.char), Jvm.Cond.code ({ cls := "java/lang/String", name := "charAt", desc := "(I)C" } : Jvm.MethodName) jdk_42_method_56_code (2 : Nat) (Option.some Jvm.ClassFile.FieldType.char), Jvm.Cond.code ({ cls := "java/lang/String", name := "isLatin1", desc := "()Z" } : Jvm.MethodName) jdk_42_method_154_code (1 : Nat) (Option.some Jvm.ClassFile.FieldType.boolean), Jvm.Cond.code ({ cls := "java/lang/StringLatin1", name := "charAt", desc := "([BI)C" } : Jvm.MethodName) jdk_43_method_2_code (2 : Nat) (Option.some Jvm.ClassFile.FieldType.char), Jvm.Cond.code ({ cls := "java/lang/String", name := "checkIndex", desc := "(II)V" } : Jvm.MethodName) jdk_42_method_155_code (2 : Nat) (Option.none : Option Jvm.ClassFile.FieldType), Jvm.Cond.code ({ cls := "jdk/internal/util/Preconditions", name := "checkIndex", desc := "(IILjava/util/function/BiFunction;)I" } : Jvm.MethodName) jdk_41_method_11_code (3 : Nat) (Option.some Jvm.ClassFile.FieldType.int), Jvm.Cond.code ({ cls := "java/lang/String", name := "<init>", desc := "([C)V" } : Jvm.MethodName) jdk_42_method_3_code (2 : Nat) (Option.none : Option Jvm.ClassFile.FieldType), Jvm.Cond.code ({ cls := "java/lang/String", name := "<init>", desc := "([CIILjava/lang/Void;)V" } : Jvm.MethodName) jdk_42_method_149_code (6 : Nat) (Option.none : Option Jvm.ClassFile.FieldType), Jvm.Cond.code ({ cls := "java/lang/Object", name := "<init>", desc := "()V" } : Jvm.MethodName) object_method_1_code (1 : Nat) (Option.none : Option Jvm.ClassFile.FieldType), Jvm.Cond.code ({ cls := "java/lang/StringUTF16", name := "compress", desc := "([CII)[B" } : Jvm.MethodName) jdk_52_method_16_code (6 : Nat) (Option.some (Jvm.ClassFile.FieldType.array Jvm.ClassFile.FieldType.byte)), Jvm.Cond.code ({ cls := "java/lang/StringUTF16", name := "compress", desc := "([CI[BII)I" } : Jvm.MethodName) jdk_52_method_21_code (7 : Nat) (Option.some Jvm.ClassFile.FieldType.int), Jvm.Cond.code ({ cls := "java/lang/StringUTF16", name := "coderFromArrayLen", desc := "([BI)B" } : Jvm.MethodName) jdk_52_method_15_code (2 : Nat) (Option.some Jvm.ClassFile.FieldType.byte), Jvm.Cond.code ({ cls := "java/lang/String", name := "equals", desc := "(Ljava/lang/Object;)Z" } : Jvm.MethodName) jdk_42_method_66_code (3 : Nat) (Option.some Jvm.ClassFile.FieldType.boolean), Jvm.Cond.code ({ cls := "java/lang/StringLatin1", name := "equals", desc := "([B[B)Z" } : Jvm.MethodName) jdk_43_method_13_code (3 : Nat) (Option.some Jvm.ClassFile.FieldType.boolean), Jvm.Cond.code ({ cls := "com/example/spatial_at_rest/spatialatrest/Interpolation", name := "named", desc := "(Ljava/lang/String;)Lcom/example/spatial_at_rest/spatialatrest/Interpolation;" } : Jvm.MethodName) prog_4_method_5_code (6 : Nat) (Option.some (Jvm.ClassFile.FieldType.object "com/example/spatial_at_rest/spatialatrest/Interpolation")), Jvm.Cond.code ({ cls := "com/example/spatial_at_rest/spatialatrest/Interpolation", name := "values", desc := "()[Lcom/example/spatial_at_rest/spatialatrest/Interpolation;" } : Jvm.MethodName) prog_4_method_1_code (0 : Nat) (Option.some (Jvm.ClassFile.FieldType.array (Jvm.ClassFile.FieldType.object "com/example/spatial_at_rest/spatialatrest/Interpolation")))]
set_option maxRecDepth 65536 in
theorem codes_eq : words1.filter isCode = codes1 := rfl
theorem w_codes : ∀ c ∈ words1.filter isCode, c.before args0 about1 = true := by
  rw [codes_eq]
  intro c hc
  simp only [codes1, List.mem_cons, List.not_mem_nil, or_false] at hc
  rcases hc with rfl | rfl | rfl | rfl | rfl | rfl | rfl | rfl | rfl | rfl | rfl | rfl | rfl | rfl | rfl | rfl | rfl | rfl | rfl | rfl
  · exact w_c0
  · exact w_c1
  · exact w_c2
  · exact w_c3
  · exact w_c4
  · exact w_c5
  · exact w_c6
  · exact w_c7
  · exact w_c8
  · exact w_c9
  · exact w_c10
  · exact w_c11
  · exact w_c12
  · exact w_c13
  · exact w_c14
  · exact w_c15
  · exact w_c16
  · exact w_c17
  · exact w_c18
  · exact w_c19
set_option maxRecDepth 65536 in
theorem w_t1 : (words1.take 24).all (fun c => isCode c || c.before args0 about1) = true := by decide +kernel
set_option maxRecDepth 65536 in
theorem w_t2 : ((words1.drop 24).take 24).all (fun c => isCode c || c.before args0 about1) = true := by decide +kernel
set_option maxRecDepth 65536 in
theorem w_t3 : (((words1.drop 24).drop 24).take 24).all (fun c => isCode c || c.before args0 about1) = true := by decide +kernel
set_option maxRecDepth 65536 in
theorem w_t4 : ((((words1.drop 24).drop 24).drop 24).take 24).all (fun c => isCode c || c.before args0 about1) = true := by decide +kernel
set_option maxRecDepth 65536 in
theorem w_t5 : ((((words1.drop 24).drop 24).drop 24).drop 24).all (fun c => isCode c || c.before args0 about1) = true := by decide +kernel
theorem w_tables : (allAtoms (Jvm.Cond.code x code maxLocals ret :: tables_1)).before args0 about1 = true := by
  rw [allAtoms_all]
  show words1.all (fun c => c.before args0 about1) = true
  refine all_split ?_ w_codes
  rw [← List.take_append_drop 24 words1, List.all_append, w_t1, ← List.take_append_drop 24 (words1.drop 24), List.all_append, w_t2, ← List.take_append_drop 24 ((words1.drop 24).drop 24), List.all_append, w_t3, ← List.take_append_drop 24 (((words1.drop 24).drop 24).drop 24), List.all_append, w_t4, w_t5]
  rfl
set_option maxRecDepth 65536 in
theorem w_rest : rest_1_c.before args0 about1 = true := by decide +kernel
set_option maxRecDepth 65536 in
theorem w_case : (Jvm.Cond.and given_1 narrow_1).before args0 about1 = true := by decide +kernel
set_option maxRecDepth 65536 in
theorem w_consts : constsHeld consts_1 about1 := Jvm.Lit.constsHeldB_iff.mp (by decide +kernel)
theorem w_applies : (headSpec (Jvm.Cond.code x code maxLocals ret :: tables_1) room_1).applies x e0.platform about1 = true :=
  (Spec.applies_iff w_frames).mpr ⟨w_running, w_runnable, w_alone, w_named, w_hears, w_ripe, w_room, w_tables⟩
theorem atStart : AtStart classFile x code maxLocals ret World_1 tables_1 room_1 Calls_1 rest_1 Pre_1 launch0 p0 e0 about1 theMethod args0 below0 :=
  ⟨lists_1, trivial, launch0.admits_env _ _ _, launch0.least_env, fairChoices_fair.cas, fairChoices_fair.clock, w_frames, w_args, w_heap, w_applies, ⟨w_consts, trivial⟩, w_rest, w_case⟩
end start1
theorem witness_1 : WitnessClaimed_1 := ⟨start1.p0, start1.e0, start1.about1, start1.theMethod, start1.args0, start1.below0, start1.atStart⟩
end Jvm.Pilot.@@N@@
