import JvmDerived
import JvmDerived.Pilot.@@N@@Statement
import JvmDerived.Pilot.@@N@@Code
set_option linter.unusedVariables false
set_option linter.unusedSimpArgs false
namespace Jvm.RoadKit
open Sem ClassFile Op Lib Jvm.Stand Jvm.Free Jvm.LawKit
section New
variable {p : Program} {l : Launch} {e : Env} {R : Room} {s : State} {m : MethodId} {args : Array Value} {below : List Frame} {meth : Method} {c : Code} {T : State} {locs : List Loc} {cells slots : Nat}
theorem retI (X : Stand p l e R s m args below meth c T locs cells slots) (hx : p.tables.exec = Jvm.exec) {pc : Nat} {Ls : Array Slot} {z : Int32} {rest : List Value} (hret : meth.sig.returnType = some .int) (hd : decode c.code pc = .ok (.ireturn, 1)) {fs : List Frame}
    (hl : ∀ (f : JFrame) (acts : List Action), f.method = m → f.locked = none → f.entered = [] → (doReturn e (T.setTop f) acts (some (.int z))).1 = T.setFrames fs) : Steps p.tables e below (T.setTop (mkF m pc Ls (.int z :: rest))) (T.setFrames fs) := by
  have hm' : T.vm.method? m = some meth := X.method'
  have hn : narrow .int (.int z) = .int z := rfl
  show Steps p.tables e below (T.setTop { method := m, pc := pc, locals := Ls, stack := _ :: rest, locked := none }) _
  jvm_step X.here [X.here.top, hx, hd, hm', hret, hn]
  first | (intro acts; rw [hl _ acts rfl rfl rfl]) | rw [hl _ _ rfl rfl rfl]
  exact Steps.refl _
theorem retR (X : Stand p l e R s m args below meth c T locs cells slots) (hx : p.tables.exec = Jvm.exec) {pc : Nat} {Ls : Array Slot} {w : Value} {t : FieldType} {rest : List Value} (hret : meth.sig.returnType = some t) (hn : narrow t w = w) (ht : t.isReference = true) (hw : w.isRef = true) (hd : decode c.code pc = .ok (.areturn, 1)) {fs : List Frame}
    (hl : ∀ (f : JFrame) (acts : List Action), f.method = m → f.locked = none → f.entered = [] → (doReturn e (T.setTop f) acts (some w)).1 = T.setFrames fs) : Steps p.tables e below (T.setTop (mkF m pc Ls (w :: rest))) (T.setFrames fs) := by
  have hm' : T.vm.method? m = some meth := X.method'
  show Steps p.tables e below (T.setTop { method := m, pc := pc, locals := Ls, stack := _ :: rest, locked := none }) _
  jvm_step X.here [X.here.top, hx, hd, hm', hret, hn, hw]
  try (refine ⟨ht, ?_⟩)
  first | (intro acts; rw [hl _ acts rfl rfl rfl]) | rw [hl _ _ rfl rfl rfl]
  exact Steps.refl _
end New
end Jvm.RoadKit

namespace Jvm.Pilot.@@N@@
open Jvm Jvm.ClassFile Sem Op Lib Jvm.Free Jvm.Stand Jvm.LawKit Jvm.RoadKit Bundle Jvm.Pilot.@@N@@.Jvm.D

set_option maxRecDepth 65536
set_option maxHeartbeats 40000000
abbrev vI (z : Int32) : Slot := .val (.int z)
abbrev vR (a : Addr) : Slot := .val (.ref a)
abbrev vU : Slot := .unset
theorem ow {a0 : Array Value} {Z : State} (hw : ∀ d ∈ tables_1, d.before a0 Z = true) (i : Nat) {d : Jvm.Cond} (q : tables_1[i]? = some d) : d.before a0 Z = true := hw d (List.mem_of_getElem? q)
abbrev y_0 : MethodName := ⟨"java/lang/String", "coder", "()B"⟩
abbrev y_1 : MethodName := ⟨"java/lang/String", "isLatin1", "()Z"⟩
abbrev y_2 : MethodName := ⟨"java/lang/String", "length", "()I"⟩
abbrev y_3 : MethodName := ⟨"java/lang/String", "isEmpty", "()Z"⟩
abbrev y_4 : MethodName := ⟨"java/util/Objects", "requireNonNull", "(Ljava/lang/Object;Ljava/lang/String;)Ljava/lang/Object;"⟩
abbrev y_5 : MethodName := ⟨"java/lang/Math", "max", "(II)I"⟩
abbrev y_6 : MethodName := ⟨"java/lang/Math", "min", "(II)I"⟩
abbrev y_7 : MethodName := ⟨"java/lang/StringLatin1", "canEncode", "(I)Z"⟩
abbrev y_8 : MethodName := ⟨"java/lang/StringLatin1", "canEncode", "(C)Z"⟩
abbrev y_9 : MethodName := ⟨"jdk/internal/util/Preconditions", "checkIndex", "(IILjava/util/function/BiFunction;)I"⟩
abbrev y_10 : MethodName := ⟨"java/lang/String", "checkIndex", "(II)V"⟩
abbrev y_11 : MethodName := ⟨"java/lang/StringUTF16", "length", "([B)I"⟩
abbrev y_12 : MethodName := ⟨"java/lang/StringUTF16", "checkIndex", "(I[B)V"⟩
abbrev y_13 : MethodName := ⟨"jdk/internal/util/Preconditions", "checkFromToIndex", "(IIILjava/util/function/BiFunction;)I"⟩
abbrev y_14 : MethodName := ⟨"java/lang/String", "checkBoundsBeginEnd", "(III)V"⟩
abbrev y_15 : MethodName := ⟨"java/lang/StringUTF16", "checkBoundsBeginEnd", "(II[B)V"⟩
abbrev y_16 : MethodName := ⟨"jdk/internal/util/Preconditions", "checkFromIndexSize", "(IIILjava/util/function/BiFunction;)I"⟩
abbrev y_17 : MethodName := ⟨"java/lang/String", "checkBoundsOffCount", "(III)I"⟩
abbrev y_18 : MethodName := ⟨"java/lang/StringUTF16", "checkBoundsOffCount", "(II[B)V"⟩
abbrev y_19 : MethodName := ⟨"java/lang/StringUTF16", "getChar", "([BI)C"⟩
abbrev y_20 : MethodName := ⟨"java/lang/StringUTF16", "putChar", "([BII)V"⟩
abbrev y_21 : MethodName := ⟨"java/lang/StringLatin1", "indexOfChar", "([BIII)I"⟩
abbrev y_22 : MethodName := ⟨"java/lang/StringLatin1", "indexOf", "([BIII)I"⟩
abbrev y_23 : MethodName := ⟨"java/lang/StringUTF16", "indexOfCharUnsafe", "([BIII)I"⟩
abbrev y_24 : MethodName := ⟨"java/lang/StringUTF16", "indexOfChar", "([BIII)I"⟩
abbrev y_25 : MethodName := ⟨"java/lang/StringUTF16", "indexOf", "([BIII)I"⟩
abbrev y_26 : MethodName := ⟨"java/lang/String", "indexOf", "(II)I"⟩
abbrev y_27 : MethodName := ⟨"java/lang/String", "indexOf", "(I)I"⟩
abbrev y_28 : MethodName := ⟨"java/lang/StringLatin1", "charAt", "([BI)C"⟩
abbrev y_29 : MethodName := ⟨"java/lang/String", "charAt", "(I)C"⟩
abbrev y_30 : MethodName := ⟨"java/lang/StringUTF16", "charAt", "([BI)C"⟩
abbrev y_31 : MethodName := ⟨"java/lang/AbstractStringBuilder", "<init>", "(I)V"⟩
abbrev y_32 : MethodName := ⟨"java/lang/StringBuilder", "<init>", "()V"⟩
abbrev y_33 : MethodName := ⟨"java/lang/AbstractStringBuilder", "ensureCapacityInternal", "(I)V"⟩
abbrev y_34 : MethodName := ⟨"java/lang/AbstractStringBuilder", "isLatin1", "()Z"⟩
abbrev y_35 : MethodName := ⟨"java/lang/StringUTF16", "newBytesLength", "(I)I"⟩
abbrev y_36 : MethodName := ⟨"java/lang/StringUTF16", "newBytesFor", "(I)[B"⟩
abbrev y_37 : MethodName := ⟨"java/lang/StringUTF16", "inflate", "([BI[BII)V"⟩
abbrev y_38 : MethodName := ⟨"java/lang/StringLatin1", "inflate", "([BI[BII)V"⟩
abbrev y_39 : MethodName := ⟨"java/lang/AbstractStringBuilder", "inflate", "()V"⟩
abbrev y_40 : MethodName := ⟨"java/lang/AbstractStringBuilder", "inflateIfNeededFor", "(Ljava/lang/String;)V"⟩
abbrev y_41 : MethodName := ⟨"java/lang/String", "getBytes", "([BIB)V"⟩
abbrev y_42 : MethodName := ⟨"java/lang/AbstractStringBuilder", "putStringAt", "(ILjava/lang/String;)V"⟩
abbrev y_43 : MethodName := ⟨"java/lang/AbstractStringBuilder", "append", "(Ljava/lang/String;)Ljava/lang/AbstractStringBuilder;"⟩
abbrev y_44 : MethodName := ⟨"java/lang/StringBuilder", "append", "(Ljava/lang/String;)Ljava/lang/StringBuilder;"⟩
abbrev y_45 : MethodName := ⟨"java/lang/AbstractStringBuilder", "append", "(C)Ljava/lang/AbstractStringBuilder;"⟩
abbrev y_46 : MethodName := ⟨"java/lang/StringBuilder", "append", "(C)Ljava/lang/StringBuilder;"⟩
abbrev y_47 : MethodName := ⟨"java/lang/StringUTF16", "putCharSB", "([BII)V"⟩
abbrev y_48 : MethodName := ⟨"java/lang/AbstractStringBuilder", "getValue", "()[B"⟩
abbrev y_49 : MethodName := ⟨"java/lang/AbstractStringBuilder", "length", "()I"⟩
abbrev y_50 : MethodName := ⟨"java/lang/StringBuilder", "length", "()I"⟩
abbrev y_51 : MethodName := ⟨"java/util/Arrays", "checkLength", "(II)V"⟩
abbrev y_52 : MethodName := ⟨"java/util/Arrays", "copyOfRangeByte", "([BII)[B"⟩
abbrev y_53 : MethodName := ⟨"java/util/Arrays", "copyOfRange", "([BII)[B"⟩
abbrev y_54 : MethodName := ⟨"java/lang/String", "<init>", "(Ljava/lang/AbstractStringBuilder;Ljava/lang/Void;)V"⟩
abbrev y_55 : MethodName := ⟨"java/lang/String", "<init>", "(Ljava/lang/StringBuilder;)V"⟩
abbrev y_56 : MethodName := ⟨"java/lang/StringBuilder", "toString", "()Ljava/lang/String;"⟩
abbrev y_57 : MethodName := ⟨"java/lang/StringUTF16", "toBytes", "([CII)[B"⟩
abbrev y_58 : MethodName := ⟨"java/lang/StringUTF16", "coderFromArrayLen", "([BI)B"⟩
abbrev y_59 : MethodName := ⟨"java/lang/StringUTF16", "compress", "([CI[BII)I"⟩
abbrev y_60 : MethodName := ⟨"java/lang/StringUTF16", "compress", "([CII)[B"⟩
abbrev y_61 : MethodName := ⟨"java/lang/String", "<init>", "([CIILjava/lang/Void;)V"⟩
abbrev y_62 : MethodName := ⟨"java/lang/String", "<init>", "([C)V"⟩
abbrev y_63 : MethodName := ⟨"com/example/libhasp/libhasp/RecordName", "<init>", "(Ljava/lang/String;Ljava/lang/String;)V"⟩
abbrev y_64 : MethodName := ⟨"com/example/libhasp/libhasp/RecordName", "redisKey", "()Ljava/lang/String;"⟩
abbrev y_65 : MethodName := ⟨"com/example/libhasp/libhasp/RecordNameRedisKeyPinLaw", "typeChar", "(I)C"⟩
theorem own_xr (h : Heap) : Ext h h := ⟨Nat.le_refl _, fun _ _ q => q⟩
theorem own_xt {h h1 h2 : Heap} (A : Ext h h1) (B : Ext h1 h2) : Ext h h2 := ⟨Nat.le_trans A.1 B.1, fun a c q => B.2 a c (A.2 a c q)⟩
theorem own_xk {h h1 h2 : Heap} {ws : List Addr} (A : Ext h h1) (K : Keep h1 h2 ws) (q : ∀ x ∈ ws, h.size ≤ x) : Ext h h2 :=
  ⟨Nat.le_trans A.1 K.1, fun a c r => K.2.1 a c (A.2 a c r) fun z => absurd (Array.getElem?_eq_some_iff.mp r).1 (Nat.not_lt.mpr (q a z))⟩
theorem own_xw {h h1 h2 : Heap} {a : Addr} {sl : Nat} {v : Value} (A : Ext h h1) (W : Wr h1 h2 a sl v) (q : h.size ≤ a) : Ext h h2 := own_xk A (Keep.of_wr W) (allS q all0)
theorem own_mask (x : Int32) : ∃ k : Fin 256, (x &&& (255 : Int32)) = Int32.ofNat k.val := by
  have h : (x &&& 255).toBitVec.toNat < 256 := by
    simp only [Int32.toBitVec_and, BitVec.toNat_and]
    exact Nat.lt_succ_of_le Nat.and_le_right
  refine ⟨⟨_, h⟩, ?_⟩
  apply Int32.toBitVec_inj.mp
  show _ = BitVec.ofNat 32 _
  rw [BitVec.ofNat_toNat]; simp
theorem own_d255 (x : Int32) : ¬ ((x &&& (255 : Int32)).toUInt32.toUInt16.toUInt32.toInt32) < 0 ∧ ¬ (255 : Int32) < ((x &&& (255 : Int32)).toUInt32.toUInt16.toUInt32.toInt32) := by
  have t : ∀ k : Fin 256, ¬ ((Int32.ofNat k.val).toUInt32.toUInt16.toUInt32.toInt32) < 0 ∧ ¬ (255 : Int32) < ((Int32.ofNat k.val).toUInt32.toUInt16.toUInt32.toInt32) := by decide +kernel
  obtain ⟨k, e⟩ := own_mask x
  rw [e]
  exact t k

theorem own_fin {d : Int32} (h : ¬ d < 0 ∧ ¬ (255 : Int32) < d) : ∃ k : Fin 256, d = Int32.ofNat k.val := by
  have h1 : ¬ d.toInt < 0 := fun q => h.1 (Int32.lt_iff_toInt_lt.mpr q)
  have h2 : ¬ 255 < d.toInt := fun q => h.2 (Int32.lt_iff_toInt_lt.mpr q)
  refine ⟨⟨d.toInt.toNat, by omega⟩, ?_⟩
  apply Int32.toInt_inj.mp
  rw [Int32.toInt_ofNat_of_lt (by show d.toInt.toNat < 2147483648; omega)]
  show d.toInt = (d.toInt.toNat : Int)
  omega
theorem own_nar {d : Int32} (h : ¬ d < 0 ∧ ¬ (255 : Int32) < d) : nar .char d = d := by
  obtain ⟨k, rfl⟩ := own_fin h
  exact (by decide +kernel : ∀ k : Fin 256, nar .char (Int32.ofNat k.val) = Int32.ofNat k.val) k
theorem own_rew {s t : State} {o : Outcome} {L : List Loc} {k n k' n' : Nat} (h : ReturnedEndW s o t L k n) (hk : k ≤ k') (hn : n ≤ n') : ReturnedEndW s o t L k' n' := ⟨h.1, h.2.1, h.2.2.1, h.2.2.2.mono hk hn⟩
theorem own_sa {a0 : Array Value} {Z : State} (hw : ∀ d ∈ tables_1, d.before a0 Z = true) : ∀ d ∈ Bundle.stringAtoms, d.before a0 Z = true := fun d hd => hw d ((by decide +kernel : ∀ d ∈ Bundle.stringAtoms, d ∈ tables_1) d hd)

theorem own_staK {Z : State} {h h' : Heap} {ws : List Addr} {C n d : String} {v : Value} (S : Sta Z h C n d v) (K : Keep h h' ws) (q : ∀ x ∈ ws, ∀ cell : Cell, h[x]? = some cell → cell.vm.isStatics = false) : Sta Z h' C n d v := by
  obtain ⟨cf, i, k, f, st, cell, h1, h2, h3, h4, h5, h6, h7⟩ := S
  exact ⟨cf, i, k, f, st, cell, h1, h2, h3, h4, K.2.1 st cell h5 (fun hm => by rw [q st hm cell h5] at h6; cases h6), h6, h7⟩
theorem own_nf {args : Array Value} {s : State} {C : String} {y y' : MethodName} (hsel : (Cond.selects C y y).before args s = true) (e : y'.cls = y.cls) : NotFace s y' := fun r0 h0 => by
  obtain ⟨c2, r2, m2, q1, q2, q3, q4, kP, hkP, hkPi⟩ := Cond.selects_spec hsel
  have a := findClass_of_methodNamed h0
  have b := findClass_of_methodNamed q3
  rw [e] at a
  have e1 : r0.cls = m2.cls := Option.some.inj (a.symm.trans b)
  exact ⟨kP, by rw [e1]; exact hkP, hkPi⟩
theorem own_same {args : Array Value} {s : State} {C : String} {y y' : MethodName} (hsel : (Cond.selects C y y).before args s = true) (e : y'.cls = y.cls) (hi : (Cond.instanceMethod y').before args s = true) (hy : y'.cls ≠ "java/lang/invoke/MethodHandle" ∧ y'.cls ≠ "java/lang/invoke/VarHandle") : (Cond.sameMethod y'.cls y'.cls y'.name y'.desc).before args s = true := by
  obtain ⟨mk, methM, hnamed, hmethM, hstM, habM⟩ := Cond.instanceMethod_spec hi
  obtain ⟨kr, hk, hn⟩ := own_nf hsel e mk hnamed
  have a := findClass_of_methodNamed hnamed
  have f := State.methodFound?_of_named hnamed hy
  have nm : s.methodNamed? ⟨y'.cls, y'.name, y'.desc⟩ = some mk := hnamed
  simp [Cond.before, Cond.holds, Cond.value, a, f, nm, hk, hn]
def own_Sr (Z : State) (h : Heap) (x u : Addr) (k : ClassId) (cd N : Int32) (vs : List Value) : Prop := Exa Z h x "java/lang/String" ∧ Fld Z h x "java/lang/String" "value" "[B" (.ref u) ∧ Fld Z h x "java/lang/String" "coder" "B" (.int cd) ∧ Arv Z h u k .byte N vs (.int 0)
theorem own_Sr.ext {Z : State} {h h' : Heap} {x u : Addr} {k : ClassId} {cd N : Int32} {vs : List Value} (S : own_Sr Z h x u k cd N vs) (E : Ext h h') : own_Sr Z h' x u k cd N vs := ⟨S.1.ext E, S.2.1.ext E, S.2.2.1.ext E, S.2.2.2.ext E⟩
def own_Bd (Z : State) (h : Heap) (sb t : Addr) (k : ClassId) (cd n N : Int32) (vs : List Value) : Prop := Exa Z h sb "java/lang/StringBuilder" ∧ Fld Z h sb "java/lang/AbstractStringBuilder" "value" "[B" (.ref t) ∧ Fld Z h sb "java/lang/AbstractStringBuilder" "coder" "B" (.int cd) ∧ Fld Z h sb "java/lang/AbstractStringBuilder" "count" "I" (.int n) ∧ Fld Z h sb "java/lang/AbstractStringBuilder" "maybeLatin1" "Z" (.int 0) ∧ Arv Z h t k .byte N vs (.int 0)
theorem own_Bd.ext {Z : State} {h h' : Heap} {sb t : Addr} {k : ClassId} {cd n N : Int32} {vs : List Value} (S : own_Bd Z h sb t k cd n N vs) (E : Ext h h') : own_Bd Z h' sb t k cd n N vs := ⟨S.1.ext E, S.2.1.ext E, S.2.2.1.ext E, S.2.2.2.1.ext E, S.2.2.2.2.1.ext E, S.2.2.2.2.2.ext E⟩
def own_ST (Z : State) (h : Heap) (w2 : Int32) (fm : Value) : Prop := Sta Z h "java/lang/String" "COMPACT_STRINGS" "Z" (.int w2) ∧ (¬ w2 = 0) ∧ Sta Z h "jdk/internal/util/Preconditions" "SIOOBE_FORMATTER" "Ljava/util/function/BiFunction;" fm ∧ fm.isRef = true ∧ Sta Z h "java/lang/StringUTF16" "$assertionsDisabled" "Z" (.int 1) ∧ Sta Z h "java/lang/StringUTF16" "HI_BYTE_SHIFT" "I" (.int 0) ∧ Sta Z h "java/lang/StringUTF16" "LO_BYTE_SHIFT" "I" (.int 8)
theorem own_ST.ext {Z : State} {h h' : Heap} {w2 : Int32} {fm : Value} (S : own_ST Z h w2 fm) (E : Ext h h') : own_ST Z h' w2 fm := ⟨S.1.ext E, S.2.1, S.2.2.1.ext E, S.2.2.2.1, S.2.2.2.2.1.ext E, S.2.2.2.2.2.1.ext E, S.2.2.2.2.2.2.ext E⟩
theorem own_ST.wr {Z : State} {h h' : Heap} {a : Addr} {sl : Nat} {v : Value} {w2 : Int32} {fm : Value} (S : own_ST Z h w2 fm) (E : Wr h h' a sl v) : own_ST Z h' w2 fm := ⟨S.1.wr E, S.2.1, S.2.2.1.wr E, S.2.2.2.1, S.2.2.2.2.1.wr E, S.2.2.2.2.2.1.wr E, S.2.2.2.2.2.2.wr E⟩
theorem own_stK {Z : State} {h h' : Heap} {ws : List Addr} {w2 : Int32} {fm : Value} (S : own_ST Z h w2 fm) (K : Keep h h' ws) (q : ∀ x ∈ ws, ∀ cell : Cell, h[x]? = some cell → cell.vm.isStatics = false) : own_ST Z h' w2 fm := ⟨own_staK S.1 K q, S.2.1, own_staK S.2.2.1 K q, S.2.2.2.1, own_staK S.2.2.2.2.1 K q, own_staK S.2.2.2.2.2.1 K q, own_staK S.2.2.2.2.2.2 K q⟩
theorem own_decl {args : Array Value} {s : State} {y : MethodName} {bytes : ByteArray} {maxL : Nat} {ret : Option FieldType} (hi : (Cond.instanceMethod y).before args s = true) (hc : (Cond.code y bytes maxL ret).before args s = true) : (Cond.declares y).before args s = true := by
  obtain ⟨mk, methM, hnamed, hmethM, hstM, habM⟩ := Cond.instanceMethod_spec hi
  obtain ⟨m2, cM, q1, -, -, -, -, -, -, hsig⟩ := Cond.code_spec hnamed hc
  cases hmethM.symm.trans q1
  simp [Cond.before, Cond.holds, Cond.value, hnamed, hmethM, hstM, hsig]

abbrev rm (f c s l : Nat) : Room := { frames := f, cells := c, slots := s, locals := l }
abbrev own_HW (a0 : Array Value) (Z : State) : Prop := ∀ d ∈ tables_1, d.before a0 Z = true
abbrev own_M (l : Launch) (Z : State) (h0 : Heap) (y : MethodName) (bytes : ByteArray) (ml : Nat) (rt : Option FieldType) (rm : Room) (as' : Array Value) (Q : Option Value → Heap → List Loc → Prop) : Prop := MetFree l y (head1 [Cond.code y bytes ml rt] rm) (fun a U => a = as' ∧ Z.Warmed39 U.vm ∧ U.heap = h0) (fun _ _ _ _ _ => True) (fun _ U o U' => ∃ v L, o = .returned v ∧ Q v U'.heap L ∧ FrameEnd U o U' L rm.cells rm.slots)
theorem own_go {l : Launch} {Z : State} {h0 : Heap} {y : MethodName} {bytes : ByteArray} {ml : Nat} {rt : Option FieldType} {rm : Room} {A : Array Value} {Q : Option Value → Heap → List Loc → Prop} (L0 : Array Slot) (pn : plainFor y = true) (ef : ∀ m, entryFrame m A ml = mkF m 0 L0 [])
    (H : ∀ (p : Program) (e : Env) (s : State) (m : MethodId) (below : List Frame) (meth : Method) (c : Code) (s₁ : State), p.tables.exec = Jvm.exec → c.code = bytes → ml = c.maxLocals → Z.Warmed39 s.vm → s.vm.findClass y.cls = some m.cls → meth.name = y.name → meth.sig.returnType = rt → Stand p l e rm s m A below meth c s₁ [] 0 0 → s₁.heap = h0 →
      ∃ (T : State) (L : List Loc) (k n : Nat) (v : Option Value), Stand p l e rm s m A below meth c T L k n ∧ (rt = none → v = none) ∧ k ≤ rm.cells ∧ n ≤ rm.slots ∧ Q v T.heap L ∧
        ∀ fs, (∀ (f : JFrame) (acts : List Action), f.method = m → f.locked = none → f.entered = [] → (doReturn e (T.setTop f) acts v).1 = T.setFrames fs) → Steps p.tables e below (s₁.setTop (mkF m 0 L0 [])) (T.setFrames fs)) : own_M l Z h0 y bytes ml rt rm A Q := by
  refine MetFree.of_bodySF pn hisR ?_
  intro p e s m args below meth c s₁ Bd hml0 hP hK
  obtain ⟨rfl, hZ, hh⟩ := hP
  obtain ⟨T, L, k, n, v, X, hv, hk, hn, hQ, go⟩ := H p e s m below meth c s₁ Bd.exec Bd.bytes hml0.symm hZ (findClass_of_methodNamed Bd.named) (name_of_methodNamed Bd.named Bd.method).1 Bd.returns (Stand.of_body Bd) (by rw [← hh, Bd.state]; rfl)
  obtain ⟨fs, hr, hrun, hended, hW, hsame⟩ := X.leave (v := v) (fun h => hv (Bd.returns.symm.trans h))
  exact ⟨_, _, castTop (ef m) (go fs hr), hrun, hended, _, _, rfl, hQ, ⟨_, rfl⟩, hW, hsame.mono hk hn⟩
section Calls
variable {p : Program} {l : Launch} {e : Env} {R : Room} {s : State} {m : MethodId} {args : Array Value} {below : List Frame} {meth : Method} {c : Code} {T : State} {locs : List Loc} {cells slots : Nat} {Z : State} {a0 : Array Value} {h : Heap}
theorem own_cs (W : Nat) (X : Stand p l e R s m args below meth c T locs cells slots) (hx : p.tables.exec = Jvm.exec) (hZ : Z.Warmed39 s.vm) {own : String} {index : Nat} (hown : s.vm.findClass own = some m.cls) {y : MethodName} {bytes : ByteArray} {ml : Nat} {rt : Option FieldType} {rm : Room} {Q : Option Value → Heap → List Loc → Prop} {argsL rest : List Value}
    (w1 : (Cond.methodLink own index y).before a0 Z = true) (w2 : (Cond.static y).before a0 Z = true) (w3 : (Cond.initialized y.cls).before a0 Z = true) (w4 : (Cond.code y bytes ml rt).before a0 Z = true) (hM : own_M l Z h y bytes ml rt rm argsL.toArray Q) (eT : T.heap = h) {g : JFrame} (hlen : ∀ sig, parseMethodDescriptor y.desc = some sig → argsL.length = sig.parameters.length) (hd : decode c.code g.pc = .ok (.invokestatic index, 3)) (hsize : g.locals.size = c.maxLocals) (hstack : g.stack = argsL.reverse ++ rest := by rfl) (hg : g.method = m := by rfl) (hW : 2 * g.monitorRoom + (rest.map fun v => v.category).sum ≤ W := by exact Nat.le_of_eq rfl)
    (hy : y.cls ≠ "java/lang/invoke/MethodHandle" ∧ y.cls ≠ "java/lang/invoke/VarHandle" := by decide) (hf : rm.frames + 1 ≤ R.frames := by decide) (hl : W + (ml + 11) + rm.locals ≤ R.locals := by decide) (hc : cells + rm.cells ≤ R.cells := by decide) (hs : slots + rm.slots ≤ R.slots := by decide) :
    ∃ v T' L, Stand p l e R s m args below meth c T' (locs ++ L) (cells + rm.cells) (slots + rm.slots) ∧ Q v T'.heap L ∧ ∀ target, Steps p.tables e below (T'.setTop { g with pc := g.pc + 3, stack := v.toList ++ rest }) target → Steps p.tables e below (T.setTop g) target := by
  obtain ⟨v, _, ⟨T', L', k', n'⟩, -, X', ⟨Lc, hQ, l1, y1, z1⟩, st⟩ := Jvm.LawKit.callS X hx hown (mvT hZ w1) (mvT hZ w2) (mvT hZ w3) (mvT hZ w4) hy (backOf (W := W) hM hZ w4 w3 hf hl) hg hsize hlen hstack hW hd (fun _ _ => ⟨rfl, eT, hc, hs⟩)
  dsimp only [Pt.U, Pt.locs, Pt.cells, Pt.slots] at X' l1 y1 z1 st hQ
  subst l1 y1 z1
  exact ⟨v, T', Lc, X', hQ, st⟩
theorem own_cp (W : Nat) (X : Stand p l e R s m args below meth c T locs cells slots) (hx : p.tables.exec = Jvm.exec) (hZ : Z.Warmed39 s.vm) {own : String} {index : Nat} (hown : s.vm.findClass own = some m.cls) {y : MethodName} {bytes : ByteArray} {ml : Nat} {rm : Room} {Q : Option Value → Heap → List Loc → Prop} {a : Addr} {argsL rest : List Value}
    (w1 : (Cond.methodLink own index y).before a0 Z = true) (w2 : (Cond.instanceMethod y).before a0 Z = true) (w3 : (Cond.initialized y.cls).before a0 Z = true) (w4 : (Cond.code y bytes ml none).before a0 Z = true) (hM : own_M l Z h y bytes ml none rm (.ref a :: argsL).toArray Q) (eT : T.heap = h) {g : JFrame} (hlen : ∀ sig, parseMethodDescriptor y.desc = some sig → argsL.length = sig.parameters.length) (hd : decode c.code g.pc = .ok (.invokespecial index, 3)) (hsize : g.locals.size = c.maxLocals) (hn : y.name = "<init>" := by rfl) (hstack : g.stack = argsL.reverse ++ .ref a :: rest := by rfl) (hg : g.method = m := by rfl) (hW : 2 * g.monitorRoom + (rest.map fun v => v.category).sum ≤ W := by exact Nat.le_of_eq rfl)
    (hy : y.cls ≠ "java/lang/invoke/MethodHandle" ∧ y.cls ≠ "java/lang/invoke/VarHandle" := by decide) (hf : rm.frames + 1 ≤ R.frames := by decide) (hl : W + (ml + 11) + rm.locals ≤ R.locals := by decide) (hc : cells + rm.cells ≤ R.cells := by decide) (hs : slots + rm.slots ≤ R.slots := by decide) :
    ∃ v T' L, Stand p l e R s m args below meth c T' (locs ++ L) (cells + rm.cells) (slots + rm.slots) ∧ Q v T'.heap L ∧ ∀ target, Steps p.tables e below (T'.setTop { g with pc := g.pc + 3, stack := v.toList ++ rest }) target → Steps p.tables e below (T.setTop g) target := by
  obtain ⟨v, _, ⟨T', L', k', n'⟩, -, X', ⟨Lc, hQ, l1, y1, z1⟩, st⟩ := X.specialBack hx (y := y) hn hown (mvT hZ w1) (mvT hZ w2) (mvT hZ w4) hy (backOf (W := W) hM hZ w4 w3 hf hl) hg hsize (Steps.refl _) hlen hstack hW hd (fun _ _ => ⟨rfl, eT, hc, hs⟩)
  dsimp only [Pt.U, Pt.locs, Pt.cells, Pt.slots] at X' l1 y1 z1 st hQ
  subst l1 y1 z1
  exact ⟨v, T', Lc, X', hQ, fun _ k => st.trans k⟩
theorem own_cu (W : Nat) (X : Stand p l e R s m args below meth c T locs cells slots) (hx : p.tables.exec = Jvm.exec) (hZ : Z.Warmed39 s.vm) {own K C : String} {index : Nat} (hown : s.vm.findClass own = some m.cls) {y y2 : MethodName} {bytes : ByteArray} {ml : Nat} {rt : Option FieldType} {rm : Room} {Q : Option Value → Heap → List Loc → Prop} {a : Addr} {argsL rest : List Value}
    (w1 : (Cond.methodLink own index y).before a0 Z = true) (w2 : (Cond.instanceMethod y).before a0 Z = true) (w3 : (Cond.initialized y.cls).before a0 Z = true) (w4 : (Cond.code y bytes ml rt).before a0 Z = true) (w5 : (Cond.superclass own y.cls).before a0 Z = true) (w6 : (Cond.selects C y2 y2).before a0 Z = true) (hM : own_M l Z h y bytes ml rt rm (.ref a :: argsL).toArray Q) (eT : T.heap = h) (E : Exa Z h a K) {g : JFrame} (hlen : ∀ sig, parseMethodDescriptor y.desc = some sig → argsL.length = sig.parameters.length) (hd : decode c.code g.pc = .ok (.invokespecial index, 3)) (hsize : g.locals.size = c.maxLocals) (e2 : y.cls = y2.cls := by rfl) (hn : y.name ≠ "<init>" := by decide) (hstack : g.stack = argsL.reverse ++ .ref a :: rest := by rfl) (hg : g.method = m := by rfl) (hW : 2 * g.monitorRoom + (rest.map fun v => v.category).sum ≤ W := by exact Nat.le_of_eq rfl)
    (hy : y.cls ≠ "java/lang/invoke/MethodHandle" ∧ y.cls ≠ "java/lang/invoke/VarHandle" := by decide) (hf : rm.frames + 1 ≤ R.frames := by decide) (hl : W + (ml + 11) + rm.locals ≤ R.locals := by decide) (hc : cells + rm.cells ≤ R.cells := by decide) (hs : slots + rm.slots ≤ R.slots := by decide) :
    ∃ v T' L, Stand p l e R s m args below meth c T' (locs ++ L) (cells + rm.cells) (slots + rm.slots) ∧ Q v T'.heap L ∧ ∀ target, Steps p.tables e below (T'.setTop { g with pc := g.pc + 3, stack := v.toList ++ rest }) target → Steps p.tables e below (T.setTop g) target := by
  obtain ⟨v, _, ⟨T', L', k', n'⟩, -, X', ⟨Lc, hQ, l1, y1, z1⟩, st⟩ := superBack X hx hZ hown w1 (own_same w6 e2 w2 hy) w2 w5 hn (backOf (W := W) hM hZ w4 w3 hf hl) eT (Ins.self E) hg hsize w4 hlen hstack hW hd (fun _ _ => ⟨rfl, eT, hc, hs⟩)
  dsimp only [Pt.U, Pt.locs, Pt.cells, Pt.slots] at X' l1 y1 z1 st hQ
  subst l1 y1 z1
  exact ⟨v, T', Lc, X', hQ, fun _ k => st.trans k⟩
theorem own_cv (W : Nat) (X : Stand p l e R s m args below meth c T locs cells slots) (hx : p.tables.exec = Jvm.exec) (hZ : Z.Warmed39 s.vm) {own C C2 : String} {index : Nat} (hown : s.vm.findClass own = some m.cls) {y z y2 : MethodName} {bytes : ByteArray} {ml : Nat} {rt : Option FieldType} {rm : Room} {Q : Option Value → Heap → List Loc → Prop} {a : Addr} {argsL rest : List Value}
    (w1 : (Cond.methodLink own index y).before a0 Z = true) (wd : (Cond.declares y).before a0 Z = true) (w6 : (Cond.selects C2 y2 y2).before a0 Z = true) (ws : (Cond.selects C y z).before a0 Z = true) (w2 : (Cond.instanceMethod z).before a0 Z = true) (w3 : (Cond.initialized z.cls).before a0 Z = true) (w4 : (Cond.code z bytes ml rt).before a0 Z = true) (hM : own_M l Z h z bytes ml rt rm (.ref a :: argsL).toArray Q) (eT : T.heap = h) (E : Exa Z h a C) {g : JFrame} (hlen : ∀ sig, parseMethodDescriptor y.desc = some sig → argsL.length = sig.parameters.length) (hd : decode c.code g.pc = .ok (.invokevirtual index, 3)) (hsize : g.locals.size = c.maxLocals) (e2 : y.cls = y2.cls := by rfl) (hstack : g.stack = argsL.reverse ++ .ref a :: rest := by rfl) (hg : g.method = m := by rfl) (hW : 2 * g.monitorRoom + (rest.map fun v => v.category).sum ≤ W := by exact Nat.le_of_eq rfl)
    (hy : y.cls ≠ "java/lang/invoke/MethodHandle" ∧ y.cls ≠ "java/lang/invoke/VarHandle" := by decide) (hf : rm.frames + 1 ≤ R.frames := by decide) (hl : W + (ml + 11) + rm.locals ≤ R.locals := by decide) (hc : cells + rm.cells ≤ R.cells := by decide) (hs : slots + rm.slots ≤ R.slots := by decide) :
    ∃ v T' L, Stand p l e R s m args below meth c T' (locs ++ L) (cells + rm.cells) (slots + rm.slots) ∧ Q v T'.heap L ∧ ∀ target, Steps p.tables e below (T'.setTop { g with pc := g.pc + 3, stack := v.toList ++ rest }) target → Steps p.tables e below (T.setTop g) target := by
  obtain ⟨cq, kq, qa, qb, qc⟩ := isOf hZ eT E
  obtain ⟨v, _, ⟨T', L', k', n'⟩, -, X', ⟨Lc, hQ, l1, y1, z1⟩, st⟩ := X.virtualBack hx (y := y) (z := z) hown (mvT hZ w1) (mvT hZ wd) (own_nf (args := #[]) (mvT hZ w6) e2) (mvT hZ ws) (mvT hZ w2) hy (backOf (W := W) hM hZ w4 w3 hf hl) qa qc hg hsize (Steps.refl _) hlen hstack hW hd (fun _ _ => ⟨rfl, eT, hc, hs⟩)
  dsimp only [Pt.U, Pt.locs, Pt.cells, Pt.slots] at X' l1 y1 z1 st hQ
  subst l1 y1 z1
  exact ⟨v, T', Lc, X', hQ, fun _ k => st.trans k⟩
end Calls
theorem own_dec {k : ByteArray} {L : List (Nat × Instr × Nat)} (H : L.all (fun q => decide (decode k q.1 = .ok (q.2.1, q.2.2))) = true) {c : Code} (hby : c.code = k) {i pc n : Nat} {ins : Instr} (h : L[i]? = some (pc, ins, n)) : decode c.code pc = .ok (ins, n) := by
  have q : decide (decode k pc = .ok (ins, n)) = true := List.all_eq_true.mp H (pc, ins, n) (List.mem_of_getElem? h)
  rw [hby]
  exact of_decide_eq_true q
section Short
variable {tb : Tables} [Ours tb] {e : Env} {below : List Frame} {T target : State} {m : MethodId} {c : Code} {g : JFrame}
theorem sA (h : At T m c below) (hx : tb.exec = Jvm.exec) {k : Fin 4} {v : Value} (hd : decode c.code g.pc = .ok (.aload_n k, 1)) (hr : Steps tb e below (T.setTop { g with pc := g.pc + 1, stack := v :: g.stack }) target) (hl : g.locals[k.val]? = some (.val v) := by rfl) (hv : v.isRef = true := by rfl) (hg : g.method = m := by rfl) : Steps tb e below (T.setTop g) target := XS.aloadN h hx hg hd hl hv hr
theorem sB (h : At T m c below) (hx : tb.exec = Jvm.exec) {k : Nat} {v : Value} (hd : decode c.code g.pc = .ok (.aload k, 2)) (hr : Steps tb e below (T.setTop { g with pc := g.pc + 2, stack := v :: g.stack }) target) (hl : g.locals[k]? = some (.val v) := by rfl) (hv : v.isRef = true := by rfl) (hg : g.method = m := by rfl) : Steps tb e below (T.setTop g) target := XS.aload h hx hg hd hl hv hr
theorem sI (h : At T m c below) (hx : tb.exec = Jvm.exec) {k : Fin 4} {v : Int32} (hd : decode c.code g.pc = .ok (.iload_n k, 1)) (hr : Steps tb e below (T.setTop { g with pc := g.pc + 1, stack := .int v :: g.stack }) target) (hl : g.locals[k.val]? = some (vI v) := by rfl) (hg : g.method = m := by rfl) : Steps tb e below (T.setTop g) target := XS.iloadN h hx hg hd hl hr
theorem sJ (h : At T m c below) (hx : tb.exec = Jvm.exec) {k : Nat} {v : Int32} (hd : decode c.code g.pc = .ok (.iload k, 2)) (hr : Steps tb e below (T.setTop { g with pc := g.pc + 2, stack := .int v :: g.stack }) target) (hl : g.locals[k]? = some (vI v) := by rfl) (hg : g.method = m := by rfl) : Steps tb e below (T.setTop g) target := XS.iload h hx hg hd hl hr
theorem sC (h : At T m c below) (hx : tb.exec = Jvm.exec) {i : Int} (hd : decode c.code g.pc = .ok (.iconst i, 1)) (hr : Steps tb e below (T.setTop { g with pc := g.pc + 1, stack := .int (Int32.ofInt i) :: g.stack }) target) (hg : g.method = m := by rfl) : Steps tb e below (T.setTop g) target := XS.iconst h hx hg hd hr
end Short
theorem own_mono {l : Launch} {Z : State} {h0 : Heap} {y : MethodName} {bytes : ByteArray} {ml : Nat} {rt : Option FieldType} {rm : Room} {A : Array Value} {Q Q' : Option Value → Heap → List Loc → Prop} (H : own_M l Z h0 y bytes ml rt rm A Q) (q : ∀ v h L, Q v h L → Q' v h L) : own_M l Z h0 y bytes ml rt rm A Q' := by
  intro p e ha hc hk s m args below hf happ hP hK
  obtain ⟨n, o, h1, h2, h3, v, L, e1, hq, r⟩ := H p e ha hc hk s m args below hf happ hP hK
  exact ⟨n, o, h1, h2, h3, v, L, e1, q _ _ _ hq, r⟩

variable {l : Launch} {Z : State} {a0 : Array Value} {h0 : Heap} {n0 : Nat}
def own_EL : List (String × Nat) := [("com/example/libhasp/libhasp/RecordName", 7), ("com/example/libhasp/libhasp/RecordName", 15), ("com/example/libhasp/libhasp/RecordName", 58)]
theorem own_ew {a0 : Array Value} {Z : State} (hw : ∀ d ∈ tables_1, d.before a0 Z = true) : EW Z a0 own_EL := (EW.cons (text := "type must not be null") (ow hw 41 rfl) (by decide) (EW.cons (text := "id must not be null") (ow hw 48 rfl) (by decide) (EW.cons (text := "hasp:") (ow hw 123 rfl) (by decide) EW.nil)))
theorem own_pd0 : parseMethodDescriptor "()B" = some ⟨[], some .byte⟩ := by decide +kernel
theorem own_pd1 : parseMethodDescriptor "(IILjava/util/function/BiFunction;)I" = some ⟨[.int, .int, (.object "java/util/function/BiFunction")], some .int⟩ := by decide +kernel
theorem own_pd2 : parseMethodDescriptor "([B)I" = some ⟨[(.array .byte)], some .int⟩ := by decide +kernel
theorem own_pd3 : parseMethodDescriptor "(II)V" = some ⟨[.int, .int], none⟩ := by decide +kernel
theorem own_pd4 : parseMethodDescriptor "(IIILjava/util/function/BiFunction;)I" = some ⟨[.int, .int, .int, (.object "java/util/function/BiFunction")], some .int⟩ := by decide +kernel
theorem own_pd5 : parseMethodDescriptor "(III)V" = some ⟨[.int, .int, .int], none⟩ := by decide +kernel
theorem own_pd6 : parseMethodDescriptor "(III)I" = some ⟨[.int, .int, .int], some .int⟩ := by decide +kernel
theorem own_pd7 : parseMethodDescriptor "(I)Z" = some ⟨[.int], some .boolean⟩ := by decide +kernel
theorem own_pd8 : parseMethodDescriptor "(II)I" = some ⟨[.int, .int], some .int⟩ := by decide +kernel
theorem own_pd9 : parseMethodDescriptor "([BIII)I" = some ⟨[(.array .byte), .int, .int, .int], some .int⟩ := by decide +kernel
theorem own_pd10 : parseMethodDescriptor "([BI)C" = some ⟨[(.array .byte), .int], some .char⟩ := by decide +kernel
theorem own_pd11 : parseMethodDescriptor "(II[B)V" = some ⟨[.int, .int, (.array .byte)], none⟩ := by decide +kernel
theorem own_pd12 : parseMethodDescriptor "()Z" = some ⟨[], some .boolean⟩ := by decide +kernel
theorem own_pd13 : parseMethodDescriptor "()I" = some ⟨[], some .int⟩ := by decide +kernel
theorem own_pd14 : parseMethodDescriptor "(I[B)V" = some ⟨[.int, (.array .byte)], none⟩ := by decide +kernel
theorem own_pd15 : parseMethodDescriptor "(I)V" = some ⟨[.int], none⟩ := by decide +kernel
theorem own_pd16 : parseMethodDescriptor "(I)I" = some ⟨[.int], some .int⟩ := by decide +kernel
theorem own_pd17 : parseMethodDescriptor "([BII)V" = some ⟨[(.array .byte), .int, .int], none⟩ := by decide +kernel
theorem own_pd18 : parseMethodDescriptor "([BI[BII)V" = some ⟨[(.array .byte), .int, (.array .byte), .int, .int], none⟩ := by decide +kernel
theorem own_pd19 : parseMethodDescriptor "(I)[B" = some ⟨[.int], some (.array .byte)⟩ := by decide +kernel
theorem own_pd20 : parseMethodDescriptor "()V" = some ⟨[], none⟩ := by decide +kernel
theorem own_pd21 : parseMethodDescriptor "(Ljava/lang/String;)V" = some ⟨[(.object "java/lang/String")], none⟩ := by decide +kernel
theorem own_pd22 : parseMethodDescriptor "([BIB)V" = some ⟨[(.array .byte), .int, .byte], none⟩ := by decide +kernel
theorem own_pd23 : parseMethodDescriptor "(ILjava/lang/String;)V" = some ⟨[.int, (.object "java/lang/String")], none⟩ := by decide +kernel
theorem own_pd24 : parseMethodDescriptor "(Ljava/lang/String;)Ljava/lang/AbstractStringBuilder;" = some ⟨[(.object "java/lang/String")], some (.object "java/lang/AbstractStringBuilder")⟩ := by decide +kernel
theorem own_pd25 : parseMethodDescriptor "(C)Z" = some ⟨[.char], some .boolean⟩ := by decide +kernel
theorem own_pd26 : parseMethodDescriptor "(C)Ljava/lang/AbstractStringBuilder;" = some ⟨[.char], some (.object "java/lang/AbstractStringBuilder")⟩ := by decide +kernel
theorem own_pd27 : parseMethodDescriptor "([BII)[B" = some ⟨[(.array .byte), .int, .int], some (.array .byte)⟩ := by decide +kernel
theorem own_pd28 : parseMethodDescriptor "()[B" = some ⟨[], some (.array .byte)⟩ := by decide +kernel
theorem own_pd29 : parseMethodDescriptor "(Ljava/lang/AbstractStringBuilder;Ljava/lang/Void;)V" = some ⟨[(.object "java/lang/AbstractStringBuilder"), (.object "java/lang/Void")], none⟩ := by decide +kernel
theorem own_pd30 : parseMethodDescriptor "(Ljava/lang/StringBuilder;)V" = some ⟨[(.object "java/lang/StringBuilder")], none⟩ := by decide +kernel
theorem own_pd31 : parseMethodDescriptor "([CI[BII)I" = some ⟨[(.array .char), .int, (.array .byte), .int, .int], some .int⟩ := by decide +kernel
theorem own_pd32 : parseMethodDescriptor "([CII)[B" = some ⟨[(.array .char), .int, .int], some (.array .byte)⟩ := by decide +kernel
theorem own_pd33 : parseMethodDescriptor "([BI)B" = some ⟨[(.array .byte), .int], some .byte⟩ := by decide +kernel
theorem own_pd34 : parseMethodDescriptor "([CIILjava/lang/Void;)V" = some ⟨[(.array .char), .int, .int, (.object "java/lang/Void")], none⟩ := by decide +kernel
theorem own_pd35 : parseMethodDescriptor "(Ljava/lang/Object;Ljava/lang/String;)Ljava/lang/Object;" = some ⟨[(.object "java/lang/Object"), (.object "java/lang/String")], some (.object "java/lang/Object")⟩ := by decide +kernel
theorem own_pd36 : parseMethodDescriptor "(Ljava/lang/String;)Ljava/lang/StringBuilder;" = some ⟨[(.object "java/lang/String")], some (.object "java/lang/StringBuilder")⟩ := by decide +kernel
theorem own_pd37 : parseMethodDescriptor "(C)Ljava/lang/StringBuilder;" = some ⟨[.char], some (.object "java/lang/StringBuilder")⟩ := by decide +kernel
theorem own_pd38 : parseMethodDescriptor "()Ljava/lang/String;" = some ⟨[], some (.object "java/lang/String")⟩ := by decide +kernel
theorem own_pd39 : parseMethodDescriptor "(I)C" = some ⟨[.int], some .char⟩ := by decide +kernel
theorem own_pd40 : parseMethodDescriptor "([C)V" = some ⟨[(.array .char)], none⟩ := by decide +kernel
theorem own_pd41 : parseMethodDescriptor "(Ljava/lang/String;Ljava/lang/String;)V" = some ⟨[(.object "java/lang/String"), (.object "java/lang/String")], none⟩ := by decide +kernel
theorem j42_152 {c : Code} (hby : c.code = jdk_42_method_152_code) (i : Nat) {pc n : Nat} {ins : Instr} (h : ([(0, .getstatic 38, 3), (3, .ifCond .eq 10, 3), (6, .aload_n 0, 1), (7, .getfield 15, 3), (10, .goto 4, 3), (14, .ireturn, 1)] : List (Nat × Instr × Nat))[i]? = some (pc, ins, n)) : decode c.code pc = .ok (ins, n) := own_dec (by decide +kernel) hby h
theorem j42_154 {c : Code} (hby : c.code = jdk_42_method_154_code) (i : Nat) {pc n : Nat} {ins : Instr} (h : ([(0, .getstatic 38, 3), (3, .ifCond .eq 14, 3), (6, .aload_n 0, 1), (7, .getfield 15, 3), (10, .ifCond .ne 7, 3), (13, .iconst 1, 1), (14, .goto 4, 3), (18, .ireturn, 1), (17, .iconst 0, 1)] : List (Nat × Instr × Nat))[i]? = some (pc, ins, n)) : decode c.code pc = .ok (ins, n) := own_dec (by decide +kernel) hby h
theorem j42_54 {c : Code} (hby : c.code = jdk_42_method_54_code) (i : Nat) {pc n : Nat} {ins : Instr} (h : ([(0, .aload_n 0, 1), (1, .getfield 9, 3), (4, .arraylength, 1), (5, .aload_n 0, 1), (6, .invokevirtual 335, 3), (9, .ishr, 1), (10, .ireturn, 1)] : List (Nat × Instr × Nat))[i]? = some (pc, ins, n)) : decode c.code pc = .ok (ins, n) := own_dec (by decide +kernel) hby h
theorem j42_55 {c : Code} (hby : c.code = jdk_42_method_55_code) (i : Nat) {pc n : Nat} {ins : Instr} (h : ([(0, .aload_n 0, 1), (1, .getfield 9, 3), (4, .arraylength, 1), (5, .ifCond .ne 7, 3), (12, .iconst 0, 1), (13, .ireturn, 1)] : List (Nat × Instr × Nat))[i]? = some (pc, ins, n)) : decode c.code pc = .ok (ins, n) := own_dec (by decide +kernel) hby h
theorem j31_11 {c : Code} (hby : c.code = jdk_31_method_11_code) (i : Nat) {pc n : Nat} {ins : Instr} (h : ([(0, .aload_n 0, 1), (1, .ifnonnull 12, 3), (13, .aload_n 0, 1), (14, .areturn, 1)] : List (Nat × Instr × Nat))[i]? = some (pc, ins, n)) : decode c.code pc = .ok (ins, n) := own_dec (by decide +kernel) hby h
theorem j29_65 {c : Code} (hby : c.code = jdk_29_method_65_code) (i : Nat) {pc n : Nat} {ins : Instr} (h : ([(0, .iload_n 0, 1), (1, .iload_n 1, 1), (2, .if_icmp .lt 7, 3), (5, .iload_n 0, 1), (6, .goto 4, 3), (10, .ireturn, 1)] : List (Nat × Instr × Nat))[i]? = some (pc, ins, n)) : decode c.code pc = .ok (ins, n) := own_dec (by decide +kernel) hby h
theorem j29_69 {c : Code} (hby : c.code = jdk_29_method_69_code) (i : Nat) {pc n : Nat} {ins : Instr} (h : ([(0, .iload_n 0, 1), (1, .iload_n 1, 1), (2, .if_icmp .gt 7, 3), (5, .iload_n 0, 1), (6, .goto 4, 3), (10, .ireturn, 1), (9, .iload_n 1, 1)] : List (Nat × Instr × Nat))[i]? = some (pc, ins, n)) : decode c.code pc = .ok (ins, n) := own_dec (by decide +kernel) hby h
theorem j43_4 {c : Code} (hby : c.code = jdk_43_method_4_code) (i : Nat) {pc n : Nat} {ins : Instr} (h : ([(0, .iload_n 0, 1), (1, .ifCond .lt 14, 3), (4, .iload_n 0, 1), (5, .sipush 255, 3), (8, .if_icmp .gt 7, 3), (11, .iconst 1, 1), (12, .goto 4, 3), (16, .ireturn, 1)] : List (Nat × Instr × Nat))[i]? = some (pc, ins, n)) : decode c.code pc = .ok (ins, n) := own_dec (by decide +kernel) hby h
theorem j43_3 {c : Code} (hby : c.code = jdk_43_method_3_code) (i : Nat) {pc n : Nat} {ins : Instr} (h : ([(0, .iload_n 0, 1), (1, .sipush 255, 3), (4, .if_icmp .gt 7, 3), (7, .iconst 1, 1), (8, .goto 4, 3), (12, .ireturn, 1)] : List (Nat × Instr × Nat))[i]? = some (pc, ins, n)) : decode c.code pc = .ok (ins, n) := own_dec (by decide +kernel) hby h
theorem j41_11 {c : Code} (hby : c.code = jdk_41_method_11_code) (i : Nat) {pc n : Nat} {ins : Instr} (h : ([(0, .iload_n 0, 1), (1, .ifCond .lt 8, 3), (4, .iload_n 0, 1), (5, .iload_n 1, 1), (6, .if_icmp .lt 10, 3), (16, .iload_n 0, 1), (17, .ireturn, 1)] : List (Nat × Instr × Nat))[i]? = some (pc, ins, n)) : decode c.code pc = .ok (ins, n) := own_dec (by decide +kernel) hby h
theorem j42_155 {c : Code} (hby : c.code = jdk_42_method_155_code) (i : Nat) {pc n : Nat} {ins : Instr} (h : ([(0, .iload_n 0, 1), (1, .iload_n 1, 1), (2, .getstatic 1053, 3), (5, .invokestatic 1059, 3), (8, .pop, 1), (9, .return_, 1)] : List (Nat × Instr × Nat))[i]? = some (pc, ins, n)) : decode c.code pc = .ok (ins, n) := own_dec (by decide +kernel) hby h
theorem j52_6 {c : Code} (hby : c.code = jdk_52_method_6_code) (i : Nat) {pc n : Nat} {ins : Instr} (h : ([(0, .aload_n 0, 1), (1, .arraylength, 1), (2, .iconst 1, 1), (3, .ishr, 1), (4, .ireturn, 1)] : List (Nat × Instr × Nat))[i]? = some (pc, ins, n)) : decode c.code pc = .ok (ins, n) := own_dec (by decide +kernel) hby h
theorem j52_91 {c : Code} (hby : c.code = jdk_52_method_91_code) (i : Nat) {pc n : Nat} {ins : Instr} (h : ([(0, .iload_n 0, 1), (1, .aload_n 1, 1), (2, .invokestatic 48, 3), (5, .invokestatic 414, 3), (8, .return_, 1)] : List (Nat × Instr × Nat))[i]? = some (pc, ins, n)) : decode c.code pc = .ok (ins, n) := own_dec (by decide +kernel) hby h
theorem j41_12 {c : Code} (hby : c.code = jdk_41_method_12_code) (i : Nat) {pc n : Nat} {ins : Instr} (h : ([(0, .iload_n 0, 1), (1, .ifCond .lt 13, 3), (4, .iload_n 0, 1), (5, .iload_n 1, 1), (6, .if_icmp .gt 8, 3), (9, .iload_n 1, 1), (10, .iload_n 2, 1), (11, .if_icmp .le 11, 3), (22, .iload_n 0, 1), (23, .ireturn, 1)] : List (Nat × Instr × Nat))[i]? = some (pc, ins, n)) : decode c.code pc = .ok (ins, n) := own_dec (by decide +kernel) hby h
theorem j42_158 {c : Code} (hby : c.code = jdk_42_method_158_code) (i : Nat) {pc n : Nat} {ins : Instr} (h : ([(0, .iload_n 0, 1), (1, .iload_n 1, 1), (2, .iload_n 2, 1), (3, .getstatic 1053, 3), (6, .invokestatic 1062, 3), (9, .pop, 1), (10, .return_, 1)] : List (Nat × Instr × Nat))[i]? = some (pc, ins, n)) : decode c.code pc = .ok (ins, n) := own_dec (by decide +kernel) hby h
theorem j52_93 {c : Code} (hby : c.code = jdk_52_method_93_code) (i : Nat) {pc n : Nat} {ins : Instr} (h : ([(0, .iload_n 0, 1), (1, .iload_n 1, 1), (2, .aload_n 2, 1), (3, .invokestatic 48, 3), (6, .invokestatic 241, 3), (9, .return_, 1)] : List (Nat × Instr × Nat))[i]? = some (pc, ins, n)) : decode c.code pc = .ok (ins, n) := own_dec (by decide +kernel) hby h
theorem j41_13 {c : Code} (hby : c.code = jdk_41_method_13_code) (i : Nat) {pc n : Nat} {ins : Instr} (h : ([(0, .iload_n 2, 1), (1, .iload_n 0, 1), (2, .ior, 1), (3, .iload_n 1, 1), (4, .ior, 1), (5, .ifCond .lt 10, 3), (8, .iload_n 1, 1), (9, .iload_n 2, 1), (10, .iload_n 0, 1), (11, .isub, 1), (12, .if_icmp .le 11, 3), (23, .iload_n 0, 1), (24, .ireturn, 1)] : List (Nat × Instr × Nat))[i]? = some (pc, ins, n)) : decode c.code pc = .ok (ins, n) := own_dec (by decide +kernel) hby h
theorem j42_157 {c : Code} (hby : c.code = jdk_42_method_157_code) (i : Nat) {pc n : Nat} {ins : Instr} (h : ([(0, .iload_n 0, 1), (1, .iload_n 1, 1), (2, .iload_n 2, 1), (3, .getstatic 1053, 3), (6, .invokestatic 1065, 3), (9, .ireturn, 1)] : List (Nat × Instr × Nat))[i]? = some (pc, ins, n)) : decode c.code pc = .ok (ins, n) := own_dec (by decide +kernel) hby h
theorem j52_94 {c : Code} (hby : c.code = jdk_52_method_94_code) (i : Nat) {pc n : Nat} {ins : Instr} (h : ([(0, .iload_n 0, 1), (1, .iload_n 1, 1), (2, .aload_n 2, 1), (3, .invokestatic 48, 3), (6, .invokestatic 419, 3), (9, .pop, 1), (10, .return_, 1)] : List (Nat × Instr × Nat))[i]? = some (pc, ins, n)) : decode c.code pc = .ok (ins, n) := own_dec (by decide +kernel) hby h
theorem j52_5 {c : Code} (hby : c.code = jdk_52_method_5_code) (i : Nat) {pc n : Nat} {ins : Instr} (h : ([(0, .getstatic 44, 3), (3, .ifCond .ne 25, 3), (28, .iload_n 1, 1), (29, .iconst 1, 1), (30, .ishl, 1), (31, .istore_n 1, 1), (32, .aload_n 0, 1), (33, .iload_n 1, 1), (34, .iinc 1 1, 3), (37, .baload, 1), (38, .sipush 255, 3), (41, .iand, 1), (42, .getstatic 59, 3), (45, .ishl, 1), (46, .aload_n 0, 1), (47, .iload_n 1, 1), (48, .baload, 1), (49, .sipush 255, 3), (52, .iand, 1), (53, .getstatic 63, 3), (56, .ishl, 1), (57, .ior, 1), (58, .i2c, 1), (59, .ireturn, 1)] : List (Nat × Instr × Nat))[i]? = some (pc, ins, n)) : decode c.code pc = .ok (ins, n) := own_dec (by decide +kernel) hby h
theorem j52_4 {c : Code} (hby : c.code = jdk_52_method_4_code) (i : Nat) {pc n : Nat} {ins : Instr} (h : ([(0, .getstatic 44, 3), (3, .ifCond .ne 25, 3), (28, .iload_n 1, 1), (29, .iconst 1, 1), (30, .ishl, 1), (31, .istore_n 1, 1), (32, .aload_n 0, 1), (33, .iload_n 1, 1), (34, .iinc 1 1, 3), (37, .iload_n 2, 1), (38, .getstatic 59, 3), (41, .ishr, 1), (42, .i2b, 1), (43, .bastore, 1), (44, .aload_n 0, 1), (45, .iload_n 1, 1), (46, .iload_n 2, 1), (47, .getstatic 63, 3), (50, .ishr, 1), (51, .i2b, 1), (52, .bastore, 1), (53, .return_, 1)] : List (Nat × Instr × Nat))[i]? = some (pc, ins, n)) : decode c.code pc = .ok (ins, n) := own_dec (by decide +kernel) hby h
theorem j43_23 {c : Code} (hby : c.code = jdk_43_method_23_code) (i : Nat) {pc n : Nat} {ins : Instr} (h : ([(0, .iload_n 1, 1), (1, .i2b, 1), (2, .istore 4, 2), (4, .iload_n 2, 1), (5, .istore 5, 2), (7, .iload 5, 2), (9, .iload_n 3, 1), (10, .if_icmp .ge 21, 3), (13, .aload_n 0, 1), (14, .iload 5, 2), (16, .baload, 1), (17, .iload 4, 2), (19, .if_icmp .ne 6, 3), (25, .iinc 5 1, 3), (28, .goto (-21), 3), (31, .iconst (-1), 1), (32, .ireturn, 1)] : List (Nat × Instr × Nat))[i]? = some (pc, ins, n)) : decode c.code pc = .ok (ins, n) := own_dec (by decide +kernel) hby h
theorem j43_22 {c : Code} (hby : c.code = jdk_43_method_22_code) (i : Nat) {pc n : Nat} {ins : Instr} (h : ([(0, .iload_n 1, 1), (1, .invokestatic 88, 3), (4, .ifCond .ne 5, 3), (9, .iload_n 2, 1), (10, .iconst 0, 1), (11, .invokestatic 92, 3), (14, .istore_n 2, 1), (15, .iload_n 3, 1), (16, .aload_n 0, 1), (17, .arraylength, 1), (18, .invokestatic 38, 3), (21, .istore_n 3, 1), (22, .iload_n 2, 1), (23, .iload_n 3, 1), (24, .if_icmp .lt 5, 3), (29, .aload_n 0, 1), (30, .iload_n 1, 1), (31, .iload_n 2, 1), (32, .iload_n 3, 1), (33, .invokestatic 95, 3), (36, .ireturn, 1)] : List (Nat × Instr × Nat))[i]? = some (pc, ins, n)) : decode c.code pc = .ok (ins, n) := own_dec (by decide +kernel) hby h
theorem j52_48 {c : Code} (hby : c.code = jdk_52_method_48_code) (i : Nat) {pc n : Nat} {ins : Instr} (h : ([(0, .iload_n 2, 1), (1, .istore 4, 2), (3, .iload 4, 2), (5, .iload_n 3, 1), (6, .if_icmp .ge 22, 3), (9, .aload_n 0, 1), (10, .iload 4, 2), (12, .invokestatic 71, 3), (15, .iload_n 1, 1), (16, .if_icmp .ne 6, 3), (22, .iinc 4 1, 3), (25, .goto (-22), 3), (28, .iconst (-1), 1), (29, .ireturn, 1)] : List (Nat × Instr × Nat))[i]? = some (pc, ins, n)) : decode c.code pc = .ok (ins, n) := own_dec (by decide +kernel) hby h
theorem j52_47 {c : Code} (hby : c.code = jdk_52_method_47_code) (i : Nat) {pc n : Nat} {ins : Instr} (h : ([(0, .iload_n 2, 1), (1, .iload_n 3, 1), (2, .aload_n 0, 1), (3, .invokestatic 96, 3), (6, .aload_n 0, 1), (7, .iload_n 1, 1), (8, .iload_n 2, 1), (9, .iload_n 3, 1), (10, .invokestatic 244, 3), (13, .ireturn, 1)] : List (Nat × Instr × Nat))[i]? = some (pc, ins, n)) : decode c.code pc = .ok (ins, n) := own_dec (by decide +kernel) hby h
theorem j52_40 {c : Code} (hby : c.code = jdk_52_method_40_code) (i : Nat) {pc n : Nat} {ins : Instr} (h : ([(0, .iload_n 2, 1), (1, .iconst 0, 1), (2, .invokestatic 224, 3), (5, .istore_n 2, 1), (6, .iload_n 3, 1), (7, .aload_n 0, 1), (8, .arraylength, 1), (9, .iconst 1, 1), (10, .ishr, 1), (11, .invokestatic 183, 3), (14, .istore_n 3, 1), (15, .iload_n 2, 1), (16, .iload_n 3, 1), (17, .if_icmp .lt 5, 3), (22, .iload_n 1, 1), (23, .ldc 227, 2), (25, .if_icmp .ge 11, 3), (28, .aload_n 0, 1), (29, .iload_n 1, 1), (30, .iload_n 2, 1), (31, .iload_n 3, 1), (32, .invokestatic 228, 3), (35, .ireturn, 1)] : List (Nat × Instr × Nat))[i]? = some (pc, ins, n)) : decode c.code pc = .ok (ins, n) := own_dec (by decide +kernel) hby h
theorem j42_80 {c : Code} (hby : c.code = jdk_42_method_80_code) (i : Nat) {pc n : Nat} {ins : Instr} (h : ([(0, .aload_n 0, 1), (1, .invokevirtual 492, 3), (4, .ifCond .eq 19, 3), (7, .aload_n 0, 1), (8, .getfield 9, 3), (11, .iload_n 1, 1), (12, .iload_n 2, 1), (13, .aload_n 0, 1), (14, .invokevirtual 505, 3), (17, .invokestatic 637, 3), (20, .goto 16, 3), (36, .ireturn, 1), (23, .aload_n 0, 1), (24, .getfield 9, 3), (27, .iload_n 1, 1), (28, .iload_n 2, 1), (29, .aload_n 0, 1), (30, .invokevirtual 505, 3), (33, .invokestatic 640, 3)] : List (Nat × Instr × Nat))[i]? = some (pc, ins, n)) : decode c.code pc = .ok (ins, n) := own_dec (by decide +kernel) hby h
theorem j42_79 {c : Code} (hby : c.code = jdk_42_method_79_code) (i : Nat) {pc n : Nat} {ins : Instr} (h : ([(0, .aload_n 0, 1), (1, .iload_n 1, 1), (2, .iconst 0, 1), (3, .invokevirtual 633, 3), (6, .ireturn, 1)] : List (Nat × Instr × Nat))[i]? = some (pc, ins, n)) : decode c.code pc = .ok (ins, n) := own_dec (by decide +kernel) hby h
theorem j43_2 {c : Code} (hby : c.code = jdk_43_method_2_code) (i : Nat) {pc n : Nat} {ins : Instr} (h : ([(0, .iload_n 1, 1), (1, .aload_n 0, 1), (2, .arraylength, 1), (3, .invokestatic 9, 3), (6, .aload_n 0, 1), (7, .iload_n 1, 1), (8, .baload, 1), (9, .sipush 255, 3), (12, .iand, 1), (13, .i2c, 1), (14, .ireturn, 1)] : List (Nat × Instr × Nat))[i]? = some (pc, ins, n)) : decode c.code pc = .ok (ins, n) := own_dec (by decide +kernel) hby h
theorem j42_56 {c : Code} (hby : c.code = jdk_42_method_56_code) (i : Nat) {pc n : Nat} {ins : Instr} (h : ([(0, .aload_n 0, 1), (1, .invokevirtual 492, 3), (4, .ifCond .eq 12, 3), (7, .aload_n 0, 1), (8, .getfield 9, 3), (11, .iload_n 1, 1), (12, .invokestatic 495, 3), (15, .ireturn, 1), (16, .aload_n 0, 1), (17, .getfield 9, 3), (20, .iload_n 1, 1), (21, .invokestatic 498, 3), (24, .ireturn, 1)] : List (Nat × Instr × Nat))[i]? = some (pc, ins, n)) : decode c.code pc = .ok (ins, n) := own_dec (by decide +kernel) hby h
theorem j52_83 {c : Code} (hby : c.code = jdk_52_method_83_code) (i : Nat) {pc n : Nat} {ins : Instr} (h : ([(0, .iload_n 1, 1), (1, .aload_n 0, 1), (2, .invokestatic 67, 3), (5, .aload_n 0, 1), (6, .iload_n 1, 1), (7, .invokestatic 71, 3), (10, .ireturn, 1)] : List (Nat × Instr × Nat))[i]? = some (pc, ins, n)) : decode c.code pc = .ok (ins, n) := own_dec (by decide +kernel) hby h
theorem j68_2 {c : Code} (hby : c.code = jdk_68_method_2_code) (i : Nat) {pc n : Nat} {ins : Instr} (h : ([(0, .aload_n 0, 1), (1, .invokespecial 3, 3), (4, .getstatic 18, 3), (7, .ifCond .eq 18, 3), (10, .aload_n 0, 1), (11, .iload_n 1, 1), (12, .newarray .byte, 2), (14, .putfield 15, 3), (17, .aload_n 0, 1), (18, .iconst 0, 1), (19, .putfield 22, 3), (22, .goto 16, 3), (38, .return_, 1)] : List (Nat × Instr × Nat))[i]? = some (pc, ins, n)) : decode c.code pc = .ok (ins, n) := own_dec (by decide +kernel) hby h
theorem j67_1 {c : Code} (hby : c.code = jdk_67_method_1_code) (i : Nat) {pc n : Nat} {ins : Instr} (h : ([(0, .aload_n 0, 1), (1, .bipush 16, 2), (3, .invokespecial 1, 3), (6, .return_, 1)] : List (Nat × Instr × Nat))[i]? = some (pc, ins, n)) : decode c.code pc = .ok (ins, n) := own_dec (by decide +kernel) hby h
theorem j68_9 {c : Code} (hby : c.code = jdk_68_method_9_code) (i : Nat) {pc n : Nat} {ins : Instr} (h : ([(0, .aload_n 0, 1), (1, .getfield 15, 3), (4, .arraylength, 1), (5, .aload_n 0, 1), (6, .getfield 22, 3), (9, .ishr, 1), (10, .istore_n 2, 1), (11, .iload_n 1, 1), (12, .iload_n 2, 1), (13, .isub, 1), (14, .ifCond .le 24, 3), (38, .return_, 1)] : List (Nat × Instr × Nat))[i]? = some (pc, ins, n)) : decode c.code pc = .ok (ins, n) := own_dec (by decide +kernel) hby h
theorem j68_68 {c : Code} (hby : c.code = jdk_68_method_68_code) (i : Nat) {pc n : Nat} {ins : Instr} (h : ([(0, .getstatic 18, 3), (3, .ifCond .eq 14, 3), (6, .aload_n 0, 1), (7, .getfield 22, 3), (10, .ifCond .ne 7, 3), (13, .iconst 1, 1), (14, .goto 4, 3), (18, .ireturn, 1), (17, .iconst 0, 1)] : List (Nat × Instr × Nat))[i]? = some (pc, ins, n)) : decode c.code pc = .ok (ins, n) := own_dec (by decide +kernel) hby h
theorem j52_3 {c : Code} (hby : c.code = jdk_52_method_3_code) (i : Nat) {pc n : Nat} {ins : Instr} (h : ([(0, .iload_n 0, 1), (1, .ifCond .ge 11, 3), (12, .iload_n 0, 1), (13, .ldc 20, 2), (15, .if_icmp .lt 40, 3), (55, .iload_n 0, 1), (56, .iconst 1, 1), (57, .ishl, 1), (58, .ireturn, 1)] : List (Nat × Instr × Nat))[i]? = some (pc, ins, n)) : decode c.code pc = .ok (ins, n) := own_dec (by decide +kernel) hby h
theorem j52_2 {c : Code} (hby : c.code = jdk_52_method_2_code) (i : Nat) {pc n : Nat} {ins : Instr} (h : ([(0, .iload_n 0, 1), (1, .invokestatic 11, 3), (4, .newarray .byte, 2), (6, .areturn, 1)] : List (Nat × Instr × Nat))[i]? = some (pc, ins, n)) : decode c.code pc = .ok (ins, n) := own_dec (by decide +kernel) hby h
theorem j52_86 {c : Code} (hby : c.code = jdk_52_method_86_code) (i : Nat) {pc n : Nat} {ins : Instr} (h : ([(0, .iload_n 3, 1), (1, .iload 4, 2), (3, .aload_n 2, 1), (4, .invokestatic 173, 3), (7, .iconst 0, 1), (8, .istore 5, 2), (10, .iload 5, 2), (12, .iload 4, 2), (14, .if_icmp .ge 27, 3), (17, .aload_n 2, 1), (18, .iload_n 3, 1), (19, .iinc 3 1, 3), (22, .aload_n 0, 1), (23, .iload_n 1, 1), (24, .iinc 1 1, 3), (27, .baload, 1), (28, .sipush 255, 3), (31, .iand, 1), (32, .invokestatic 111, 3), (35, .iinc 5 1, 3), (38, .goto (-28), 3), (41, .return_, 1)] : List (Nat × Instr × Nat))[i]? = some (pc, ins, n)) : decode c.code pc = .ok (ins, n) := own_dec (by decide +kernel) hby h
theorem j43_50 {c : Code} (hby : c.code = jdk_43_method_50_code) (i : Nat) {pc n : Nat} {ins : Instr} (h : ([(0, .aload_n 0, 1), (1, .iload_n 1, 1), (2, .aload_n 2, 1), (3, .iload_n 3, 1), (4, .iload 4, 2), (6, .invokestatic 240, 3), (9, .return_, 1)] : List (Nat × Instr × Nat))[i]? = some (pc, ins, n)) : decode c.code pc = .ok (ins, n) := own_dec (by decide +kernel) hby h
theorem j68_11 {c : Code} (hby : c.code = jdk_68_method_11_code) (i : Nat) {pc n : Nat} {ins : Instr} (h : ([(0, .aload_n 0, 1), (1, .invokevirtual 83, 3), (4, .ifCond .ne 4, 3), (8, .aload_n 0, 1), (9, .getfield 15, 3), (12, .arraylength, 1), (13, .invokestatic 26, 3), (16, .astore_n 1, 1), (17, .aload_n 0, 1), (18, .getfield 15, 3), (21, .iconst 0, 1), (22, .aload_n 1, 1), (23, .iconst 0, 1), (24, .aload_n 0, 1), (25, .getfield 79, 3), (28, .invokestatic 125, 3), (31, .aload_n 0, 1), (32, .aload_n 1, 1), (33, .putfield 15, 3), (36, .aload_n 0, 1), (37, .iconst 1, 1), (38, .putfield 22, 3), (41, .return_, 1), (7, .return_, 1)] : List (Nat × Instr × Nat))[i]? = some (pc, ins, n)) : decode c.code pc = .ok (ins, n) := own_dec (by decide +kernel) hby h
theorem j68_71 {c : Code} (hby : c.code = jdk_68_method_71_code) (i : Nat) {pc n : Nat} {ins : Instr} (h : ([(0, .getstatic 18, 3), (3, .ifCond .eq 18, 3), (6, .aload_n 0, 1), (7, .getfield 22, 3), (10, .aload_n 1, 1), (11, .invokevirtual 40, 3), (14, .if_icmp .eq 7, 3), (21, .return_, 1), (17, .aload_n 0, 1), (18, .invokevirtual 195, 3)] : List (Nat × Instr × Nat))[i]? = some (pc, ins, n)) : decode c.code pc = .ok (ins, n) := own_dec (by decide +kernel) hby h
theorem j42_147 {c : Code} (hby : c.code = jdk_42_method_147_code) (i : Nat) {pc n : Nat} {ins : Instr} (h : ([(0, .aload_n 0, 1), (1, .invokevirtual 335, 3), (4, .iload_n 3, 1), (5, .if_icmp .ne 23, 3), (8, .aload_n 0, 1), (9, .getfield 9, 3), (12, .iconst 0, 1), (13, .aload_n 1, 1), (14, .iload_n 2, 1), (15, .iload_n 3, 1), (16, .ishl, 1), (17, .aload_n 0, 1), (18, .getfield 9, 3), (21, .arraylength, 1), (22, .invokestatic 212, 3), (25, .goto 18, 3), (43, .return_, 1), (28, .aload_n 0, 1), (29, .getfield 9, 3), (32, .iconst 0, 1), (33, .aload_n 1, 1), (34, .iload_n 2, 1), (35, .aload_n 0, 1), (36, .getfield 9, 3), (39, .arraylength, 1), (40, .invokestatic 106, 3)] : List (Nat × Instr × Nat))[i]? = some (pc, ins, n)) : decode c.code pc = .ok (ins, n) := own_dec (by decide +kernel) hby h
theorem j68_73 {c : Code} (hby : c.code = jdk_68_method_73_code) (i : Nat) {pc n : Nat} {ins : Instr} (h : ([(0, .aload_n 0, 1), (1, .aload_n 2, 1), (2, .invokevirtual 397, 3), (5, .aload_n 2, 1), (6, .aload_n 0, 1), (7, .getfield 15, 3), (10, .iload_n 1, 1), (11, .aload_n 0, 1), (12, .getfield 22, 3), (15, .invokevirtual 399, 3), (18, .return_, 1)] : List (Nat × Instr × Nat))[i]? = some (pc, ins, n)) : decode c.code pc = .ok (ins, n) := own_dec (by decide +kernel) hby h
theorem j68_22 {c : Code} (hby : c.code = jdk_68_method_22_code) (i : Nat) {pc n : Nat} {ins : Instr} (h : ([(0, .aload_n 1, 1), (1, .ifnonnull 8, 3), (9, .aload_n 1, 1), (10, .invokevirtual 32, 3), (13, .istore_n 2, 1), (14, .aload_n 0, 1), (15, .aload_n 0, 1), (16, .getfield 79, 3), (19, .iload_n 2, 1), (20, .iadd, 1), (21, .invokevirtual 100, 3), (24, .aload_n 0, 1), (25, .aload_n 0, 1), (26, .getfield 79, 3), (29, .aload_n 1, 1), (30, .invokevirtual 208, 3), (33, .aload_n 0, 1), (34, .dup, 1), (35, .getfield 79, 3), (38, .iload_n 2, 1), (39, .iadd, 1), (40, .putfield 79, 3), (43, .aload_n 0, 1), (44, .areturn, 1)] : List (Nat × Instr × Nat))[i]? = some (pc, ins, n)) : decode c.code pc = .ok (ins, n) := own_dec (by decide +kernel) hby h
theorem j67_7 {c : Code} (hby : c.code = jdk_67_method_7_code) (i : Nat) {pc n : Nat} {ins : Instr} (h : ([(0, .aload_n 0, 1), (1, .aload_n 1, 1), (2, .invokespecial 29, 3), (5, .pop, 1), (6, .aload_n 0, 1), (7, .areturn, 1)] : List (Nat × Instr × Nat))[i]? = some (pc, ins, n)) : decode c.code pc = .ok (ins, n) := own_dec (by decide +kernel) hby h
theorem j68_31 {c : Code} (hby : c.code = jdk_68_method_31_code) (i : Nat) {pc n : Nat} {ins : Instr} (h : ([(0, .aload_n 0, 1), (1, .aload_n 0, 1), (2, .getfield 79, 3), (5, .iconst 1, 1), (6, .iadd, 1), (7, .invokevirtual 100, 3), (10, .aload_n 0, 1), (11, .invokevirtual 83, 3), (14, .ifCond .eq 31, 3), (17, .iload_n 1, 1), (18, .invokestatic 191, 3), (21, .ifCond .eq 24, 3), (24, .aload_n 0, 1), (25, .getfield 15, 3), (28, .aload_n 0, 1), (29, .dup, 1), (30, .getfield 79, 3), (33, .dup_x1, 1), (34, .iconst 1, 1), (35, .iadd, 1), (36, .putfield 79, 3), (39, .iload_n 1, 1), (40, .i2b, 1), (41, .bastore, 1), (42, .goto 33, 3), (75, .aload_n 0, 1), (76, .areturn, 1), (45, .aload_n 0, 1), (46, .invokevirtual 83, 3), (49, .ifCond .eq 7, 3), (56, .aload_n 0, 1), (57, .getfield 15, 3), (60, .aload_n 0, 1), (61, .dup, 1), (62, .getfield 79, 3), (65, .dup_x1, 1), (66, .iconst 1, 1), (67, .iadd, 1), (68, .putfield 79, 3), (71, .iload_n 1, 1), (72, .invokestatic 197, 3)] : List (Nat × Instr × Nat))[i]? = some (pc, ins, n)) : decode c.code pc = .ok (ins, n) := own_dec (by decide +kernel) hby h
theorem j67_14 {c : Code} (hby : c.code = jdk_67_method_14_code) (i : Nat) {pc n : Nat} {ins : Instr} (h : ([(0, .aload_n 0, 1), (1, .iload_n 1, 1), (2, .invokespecial 50, 3), (5, .pop, 1), (6, .aload_n 0, 1), (7, .areturn, 1)] : List (Nat × Instr × Nat))[i]? = some (pc, ins, n)) : decode c.code pc = .ok (ins, n) := own_dec (by decide +kernel) hby h
theorem j52_71 {c : Code} (hby : c.code = jdk_52_method_71_code) (i : Nat) {pc n : Nat} {ins : Instr} (h : ([(0, .iload_n 1, 1), (1, .aload_n 0, 1), (2, .invokestatic 67, 3), (5, .aload_n 0, 1), (6, .iload_n 1, 1), (7, .iload_n 2, 1), (8, .invokestatic 111, 3), (11, .return_, 1)] : List (Nat × Instr × Nat))[i]? = some (pc, ins, n)) : decode c.code pc = .ok (ins, n) := own_dec (by decide +kernel) hby h
theorem j68_64 {c : Code} (hby : c.code = jdk_68_method_64_code) (i : Nat) {pc n : Nat} {ins : Instr} (h : ([(0, .aload_n 0, 1), (1, .getfield 15, 3), (4, .areturn, 1)] : List (Nat × Instr × Nat))[i]? = some (pc, ins, n)) : decode c.code pc = .ok (ins, n) := own_dec (by decide +kernel) hby h
theorem j68_6 {c : Code} (hby : c.code = jdk_68_method_6_code) (i : Nat) {pc n : Nat} {ins : Instr} (h : ([(0, .aload_n 0, 1), (1, .getfield 79, 3), (4, .ireturn, 1)] : List (Nat × Instr × Nat))[i]? = some (pc, ins, n)) : decode c.code pc = .ok (ins, n) := own_dec (by decide +kernel) hby h
theorem j67_93 {c : Code} (hby : c.code = jdk_67_method_93_code) (i : Nat) {pc n : Nat} {ins : Instr} (h : ([(0, .aload_n 0, 1), (1, .invokespecial 343, 3), (4, .ireturn, 1)] : List (Nat × Instr × Nat))[i]? = some (pc, ins, n)) : decode c.code pc = .ok (ins, n) := own_dec (by decide +kernel) hby h
theorem j65_131 {c : Code} (hby : c.code = jdk_65_method_131_code) (i : Nat) {pc n : Nat} {ins : Instr} (h : ([(0, .iload_n 1, 1), (1, .iload_n 0, 1), (2, .if_icmp .ge 35, 3), (37, .return_, 1)] : List (Nat × Instr × Nat))[i]? = some (pc, ins, n)) : decode c.code pc = .ok (ins, n) := own_dec (by decide +kernel) hby h
theorem j65_133 {c : Code} (hby : c.code = jdk_65_method_133_code) (i : Nat) {pc n : Nat} {ins : Instr} (h : ([(0, .iload_n 1, 1), (1, .iload_n 2, 1), (2, .invokestatic 343, 3), (5, .iload_n 2, 1), (6, .iload_n 1, 1), (7, .isub, 1), (8, .istore_n 3, 1), (9, .iload_n 3, 1), (10, .newarray .byte, 2), (12, .astore 4, 2), (14, .aload_n 0, 1), (15, .iload_n 1, 1), (16, .aload 4, 2), (18, .iconst 0, 1), (19, .aload_n 0, 1), (20, .arraylength, 1), (21, .iload_n 1, 1), (22, .isub, 1), (23, .iload_n 3, 1), (24, .invokestatic 304, 3), (27, .invokestatic 150, 3), (30, .aload 4, 2), (32, .areturn, 1)] : List (Nat × Instr × Nat))[i]? = some (pc, ins, n)) : decode c.code pc = .ok (ins, n) := own_dec (by decide +kernel) hby h
theorem j65_132 {c : Code} (hby : c.code = jdk_65_method_132_code) (i : Nat) {pc n : Nat} {ins : Instr} (h : ([(0, .iload_n 1, 1), (1, .ifCond .ne 9, 3), (4, .iload_n 2, 1), (5, .aload_n 0, 1), (6, .arraylength, 1), (7, .if_icmp .eq 10, 3), (10, .aload_n 0, 1), (11, .iload_n 1, 1), (12, .iload_n 2, 1), (13, .invokestatic 339, 3), (16, .areturn, 1)] : List (Nat × Instr × Nat))[i]? = some (pc, ins, n)) : decode c.code pc = .ok (ins, n) := own_dec (by decide +kernel) hby h
theorem j42_150 {c : Code} (hby : c.code = jdk_42_method_150_code) (i : Nat) {pc n : Nat} {ins : Instr} (h : ([(0, .aload_n 0, 1), (1, .invokespecial 1, 3), (4, .aload_n 1, 1), (5, .invokevirtual 552, 3), (8, .astore_n 3, 1), (9, .aload_n 1, 1), (10, .invokevirtual 549, 3), (13, .istore 4, 2), (15, .aload_n 1, 1), (16, .invokevirtual 1047, 3), (19, .ifCond .eq 22, 3), (22, .aload_n 0, 1), (23, .iconst 0, 1), (24, .putfield 15, 3), (27, .aload_n 0, 1), (28, .aload_n 3, 1), (29, .iconst 0, 1), (30, .iload 4, 2), (32, .invokestatic 54, 3), (35, .putfield 9, 3), (38, .goto 59, 3), (97, .return_, 1), (41, .getstatic 38, 3), (44, .ifCond .eq 35, 3), (47, .aload_n 1, 1), (48, .getfield 1048, 3), (51, .ifCond .eq 28, 3), (79, .aload_n 0, 1), (80, .iconst 1, 1), (81, .putfield 15, 3), (84, .aload_n 0, 1), (85, .aload_n 3, 1), (86, .iconst 0, 1), (87, .iload 4, 2), (89, .iconst 1, 1), (90, .ishl, 1), (91, .invokestatic 54, 3), (94, .putfield 9, 3)] : List (Nat × Instr × Nat))[i]? = some (pc, ins, n)) : decode c.code pc = .ok (ins, n) := own_dec (by decide +kernel) hby h
theorem j42_53 {c : Code} (hby : c.code = jdk_42_method_53_code) (i : Nat) {pc n : Nat} {ins : Instr} (h : ([(0, .aload_n 0, 1), (1, .aload_n 1, 1), (2, .aconst_null, 1), (3, .invokespecial 489, 3), (6, .return_, 1)] : List (Nat × Instr × Nat))[i]? = some (pc, ins, n)) : decode c.code pc = .ok (ins, n) := own_dec (by decide +kernel) hby h
theorem j67_42 {c : Code} (hby : c.code = jdk_67_method_42_code) (i : Nat) {pc n : Nat} {ins : Instr} (h : ([(0, .new 18, 3), (3, .dup, 1), (4, .aload_n 0, 1), (5, .invokespecial 137, 3), (8, .areturn, 1)] : List (Nat × Instr × Nat))[i]? = some (pc, ins, n)) : decode c.code pc = .ok (ins, n) := own_dec (by decide +kernel) hby h
theorem j52_14 {c : Code} (hby : c.code = jdk_52_method_14_code) (i : Nat) {pc n : Nat} {ins : Instr} (h : ([(0, .iload_n 2, 1), (1, .invokestatic 107, 3), (4, .astore_n 3, 1), (5, .iconst 0, 1), (6, .istore 4, 2), (8, .iload 4, 2), (10, .iload_n 2, 1), (11, .if_icmp .ge 21, 3), (14, .aload_n 3, 1), (15, .iload 4, 2), (17, .aload_n 0, 1), (18, .iload_n 1, 1), (19, .caload, 1), (20, .invokestatic 111, 3), (23, .iinc 1 1, 3), (26, .iinc 4 1, 3), (29, .goto (-21), 3), (32, .aload_n 3, 1), (33, .areturn, 1)] : List (Nat × Instr × Nat))[i]? = some (pc, ins, n)) : decode c.code pc = .ok (ins, n) := own_dec (by decide +kernel) hby h
theorem j52_15 {c : Code} (hby : c.code = jdk_52_method_15_code) (i : Nat) {pc n : Nat} {ins : Instr} (h : ([(0, .iload_n 1, 1), (1, .aload_n 0, 1), (2, .arraylength, 1), (3, .isub, 1), (4, .bipush 31, 2), (6, .iushr, 1), (7, .i2b, 1), (8, .ireturn, 1)] : List (Nat × Instr × Nat))[i]? = some (pc, ins, n)) : decode c.code pc = .ok (ins, n) := own_dec (by decide +kernel) hby h
theorem j52_21 {c : Code} (hby : c.code = jdk_52_method_21_code) (i : Nat) {pc n : Nat} {ins : Instr} (h : ([(0, .iconst 0, 1), (1, .istore 5, 2), (3, .iload 5, 2), (5, .iload 4, 2), (7, .if_icmp .ge 37, 3), (10, .aload_n 0, 1), (11, .iload_n 1, 1), (12, .caload, 1), (13, .istore 6, 2), (15, .iload 6, 2), (17, .sipush 255, 3), (20, .if_icmp .le 6, 3), (23, .iload 5, 2), (25, .ireturn, 1), (26, .aload_n 2, 1), (27, .iload_n 3, 1), (28, .iload 6, 2), (30, .i2b, 1), (31, .bastore, 1), (32, .iinc 1 1, 3), (35, .iinc 3 1, 3), (38, .iinc 5 1, 3), (41, .goto (-38), 3), (44, .iload 4, 2), (46, .ireturn, 1)] : List (Nat × Instr × Nat))[i]? = some (pc, ins, n)) : decode c.code pc = .ok (ins, n) := own_dec (by decide +kernel) hby h
theorem j52_16 {c : Code} (hby : c.code = jdk_52_method_16_code) (i : Nat) {pc n : Nat} {ins : Instr} (h : ([(0, .iload_n 2, 1), (1, .newarray .byte, 2), (3, .astore_n 3, 1), (4, .aload_n 0, 1), (5, .iload_n 1, 1), (6, .aload_n 3, 1), (7, .iconst 0, 1), (8, .iload_n 2, 1), (9, .invokestatic 115, 3), (12, .istore 4, 2), (14, .iload 4, 2), (16, .iload_n 2, 1), (17, .if_icmp .eq 40, 3), (20, .aload_n 0, 1), (21, .iload_n 1, 1), (22, .iload_n 2, 1), (23, .invokestatic 119, 3), (26, .astore 5, 2), (28, .aload 5, 2), (30, .iload 4, 2), (32, .invokestatic 71, 3), (35, .sipush 255, 3), (38, .if_icmp .gt 16, 3), (54, .aload 5, 2), (56, .areturn, 1), (57, .aload_n 3, 1), (58, .areturn, 1)] : List (Nat × Instr × Nat))[i]? = some (pc, ins, n)) : decode c.code pc = .ok (ins, n) := own_dec (by decide +kernel) hby h
theorem j42_149 {c : Code} (hby : c.code = jdk_42_method_149_code) (i : Nat) {pc n : Nat} {ins : Instr} (h : ([(0, .aload_n 0, 1), (1, .invokespecial 1, 3), (4, .iload_n 3, 1), (5, .ifCond .ne 22, 3), (27, .getstatic 38, 3), (30, .ifCond .eq 28, 3), (33, .aload_n 1, 1), (34, .iload_n 2, 1), (35, .iload_n 3, 1), (36, .invokestatic 177, 3), (39, .astore 5, 2), (41, .aload_n 0, 1), (42, .aload 5, 2), (44, .iload_n 3, 1), (45, .invokestatic 47, 3), (48, .putfield 15, 3), (51, .aload_n 0, 1), (52, .aload 5, 2), (54, .putfield 9, 3), (57, .return_, 1)] : List (Nat × Instr × Nat))[i]? = some (pc, ins, n)) : decode c.code pc = .ok (ins, n) := own_dec (by decide +kernel) hby h
theorem j42_3 {c : Code} (hby : c.code = jdk_42_method_3_code) (i : Nat) {pc n : Nat} {ins : Instr} (h : ([(0, .aload_n 0, 1), (1, .aload_n 1, 1), (2, .iconst 0, 1), (3, .aload_n 1, 1), (4, .arraylength, 1), (5, .aconst_null, 1), (6, .invokespecial 27, 3), (9, .return_, 1)] : List (Nat × Instr × Nat))[i]? = some (pc, ins, n)) : decode c.code pc = .ok (ins, n) := own_dec (by decide +kernel) hby h
theorem g4_1 {c : Code} (hby : c.code = prog_4_method_1_code) (i : Nat) {pc n : Nat} {ins : Instr} (h : ([(0, .aload_n 0, 1), (1, .invokespecial 1, 3), (4, .aload_n 1, 1), (5, .ldc 7, 2), (7, .invokestatic 9, 3), (10, .pop, 1), (11, .aload_n 2, 1), (12, .ldc 15, 2), (14, .invokestatic 9, 3), (17, .pop, 1), (18, .aload_n 1, 1), (19, .invokevirtual 17, 3), (22, .ifCond .ne 12, 3), (25, .aload_n 1, 1), (26, .bipush 58, 2), (28, .invokevirtual 23, 3), (31, .ifCond .lt 35, 3), (66, .aload_n 2, 1), (67, .invokevirtual 17, 3), (70, .ifCond .eq 13, 3), (83, .aload_n 0, 1), (84, .aload_n 1, 1), (85, .putfield 49, 3), (88, .aload_n 0, 1), (89, .aload_n 2, 1), (90, .putfield 55, 3), (93, .return_, 1)] : List (Nat × Instr × Nat))[i]? = some (pc, ins, n)) : decode c.code pc = .ok (ins, n) := own_dec (by decide +kernel) hby h
theorem g4_2 {c : Code} (hby : c.code = prog_4_method_2_code) (i : Nat) {pc n : Nat} {ins : Instr} (h : ([(0, .new 29, 3), (3, .dup, 1), (4, .invokespecial 31, 3), (7, .ldc 58, 2), (9, .invokevirtual 34, 3), (12, .aload_n 0, 1), (13, .getfield 49, 3), (16, .invokevirtual 34, 3), (19, .bipush 58, 2), (21, .invokevirtual 60, 3), (24, .aload_n 0, 1), (25, .getfield 55, 3), (28, .invokevirtual 34, 3), (31, .invokevirtual 40, 3), (34, .areturn, 1)] : List (Nat × Instr × Nat))[i]? = some (pc, ins, n)) : decode c.code pc = .ok (ins, n) := own_dec (by decide +kernel) hby h
theorem own_method_2 {c : Code} (hby : c.code = method_2_code) (i : Nat) {pc n : Nat} {ins : Instr} (h : ([(0, .iload_n 0, 1), (1, .sipush 255, 3), (4, .iand, 1), (5, .i2c, 1), (6, .istore_n 1, 1), (7, .iload_n 1, 1), (8, .bipush 58, 2), (10, .if_icmp .ne 7, 3), (13, .sipush 314, 3), (16, .ireturn, 1), (17, .iload_n 1, 1), (18, .ireturn, 1)] : List (Nat × Instr × Nat))[i]? = some (pc, ins, n)) : decode c.code pc = .ok (ins, n) := own_dec (by decide +kernel) hby h
theorem own_pn0 : plainName "java/lang/String" = true := by first | (simp [plainName, overriddenIn]; done) | decide +kernel
def own_Qcod0 (Z : State) (x : Addr) (w2 : Int32) (fm : Value) (h0 : Heap) (n0 : Nat) (v : Option Value) (h : Heap) (L : List Loc) : Prop := v = some (.int 0) ∧ Fr n0 L ∧ h = h0
theorem own_cod0 (hw : own_HW a0 Z) {x : Addr} {w2 : Int32} {fm : Value}  (Z0 : n0 ≤ h0.size) (F_x_coder : Fld Z h0 x "java/lang/String" "coder" "B" (.int 0)) (SS : own_ST Z h0 w2 fm) : own_M l Z h0 y_0 jdk_42_method_152_code 1 (some .byte) (rm 0 0 0 0) #[(.ref x)] (own_Qcod0 Z x w2 fm h0 n0) := by
  refine own_go #[vR x] (plainFor_of_name own_pn0) (fun m => rfl) fun p e s m below meth c s₁ hx hby hz hZ hown hnm hrt X0 e0 => ?_
  have P5 := SS.2.1
  obtain ⟨T10, X10, e10, st10⟩ := getS2 X0 hx hZ hown (host := "") (Or.inl (ow hw 18 rfl)) Via.refl e0 SS.1 (g := (mkF m 0 #[vR x] [])) rfl (j42_152 hby 0 rfl)
  obtain ⟨T11, X11, e11, st11⟩ := getF X10 hx hZ hown (host := "") (Or.inl (ow hw 30 rfl)) Via.refl e10 F_x_coder (g := (mkF m 7 #[vR x] [(.ref x)])) rfl rfl (j42_152 hby 3 rfl)
  refine ⟨_, _, _, _, some (.int 0), X11, (fun h => nomatch h), by decide, by decide, ?_, fun fs hr => ?_⟩
  · show own_Qcod0 Z x w2 fm h0 n0 _ T11.heap _
    rw [e11]
    exact ⟨rfl, (Fr.nil n0), rfl⟩
  · refine st10 _ ?_
    refine XS.ifNo X10.here hx rfl (j42_152 hby 1 rfl) rfl ((if0 _ _).trans (feq P5).1) ?_
    refine sA X10.here hx (j42_152 hby 2 rfl) ?_
    refine st11 _ ?_
    refine XS.goto X11.here hx rfl (pc0 := 10) (pc' := 14) rfl (j42_152 hby 4 rfl) (by decide) (by decide) ?_
    exact retN X11 hx (t := .byte) hrt (by simp) (j42_152 hby 5 rfl) hr
def own_Qisl0 (Z : State) (x : Addr) (w2 : Int32) (fm : Value) (h0 : Heap) (n0 : Nat) (v : Option Value) (h : Heap) (L : List Loc) : Prop := v = some (.int 1) ∧ Fr n0 L ∧ h = h0
theorem own_isl0 (hw : own_HW a0 Z) {x : Addr} {w2 : Int32} {fm : Value}  (Z0 : n0 ≤ h0.size) (F_x_coder : Fld Z h0 x "java/lang/String" "coder" "B" (.int 0)) (SS : own_ST Z h0 w2 fm) : own_M l Z h0 y_1 jdk_42_method_154_code 1 (some .boolean) (rm 0 0 0 0) #[(.ref x)] (own_Qisl0 Z x w2 fm h0 n0) := by
  refine own_go #[vR x] (plainFor_of_name own_pn0) (fun m => rfl) fun p e s m below meth c s₁ hx hby hz hZ hown hnm hrt X0 e0 => ?_
  have P5 := SS.2.1
  obtain ⟨T10, X10, e10, st10⟩ := getS2 X0 hx hZ hown (host := "") (Or.inl (ow hw 18 rfl)) Via.refl e0 SS.1 (g := (mkF m 0 #[vR x] [])) rfl (j42_154 hby 0 rfl)
  obtain ⟨T11, X11, e11, st11⟩ := getF X10 hx hZ hown (host := "") (Or.inl (ow hw 30 rfl)) Via.refl e10 F_x_coder (g := (mkF m 7 #[vR x] [(.ref x)])) rfl rfl (j42_154 hby 3 rfl)
  refine ⟨_, _, _, _, some (.int 1), X11, (fun h => nomatch h), by decide, by decide, ?_, fun fs hr => ?_⟩
  · show own_Qisl0 Z x w2 fm h0 n0 _ T11.heap _
    rw [e11]
    exact ⟨rfl, (Fr.nil n0), rfl⟩
  · refine st10 _ ?_
    refine XS.ifNo X10.here hx rfl (j42_154 hby 1 rfl) rfl ((if0 _ _).trans (feq P5).1) ?_
    refine sA X10.here hx (j42_154 hby 2 rfl) ?_
    refine st11 _ ?_
    refine XS.ifNo X11.here hx rfl (j42_154 hby 4 rfl) rfl ((if0 _ _).trans (teq rfl).2) ?_
    refine sC X11.here hx (j42_154 hby 5 rfl) ?_
    refine XS.goto X11.here hx rfl (pc0 := 14) (pc' := 18) rfl (j42_154 hby 6 rfl) (by decide) (by decide) ?_
    exact retN X11 hx (t := .boolean) hrt (by simp) (j42_154 hby 7 rfl) hr
def own_Qlen0 (Z : State) (x u : Addr) (ku : ClassId) (N : Int32) (us : List Value) (w2 r : Int32) (fm : Value) (h0 : Heap) (n0 : Nat) (v : Option Value) (h : Heap) (L : List Loc) : Prop := v = some (.int r) ∧ Fr n0 L ∧ h = h0
theorem own_len0 (hw : own_HW a0 Z) {x u : Addr} {ku : ClassId} {N : Int32} {us : List Value} {w2 : Int32} {fm : Value} (r : Int32) (Z0 : n0 ≤ h0.size) (S_x : own_Sr Z h0 x u ku 0 N us) (SS : own_ST Z h0 w2 fm) (hres : (N >>> ((0 : Int32) &&& 31)) = r) : own_M l Z h0 y_2 jdk_42_method_54_code 1 (some .int) (rm 1 0 0 13) #[(.ref x)] (own_Qlen0 Z x u ku N us w2 r fm h0 n0) := by
  refine own_go #[vR x] (plainFor_of_name own_pn0) (fun m => rfl) fun p e s m below meth c s₁ hx hby hz hZ hown hnm hrt X0 e0 => ?_
  obtain ⟨T10, X10, e10, st10⟩ := getF X0 hx hZ hown (host := "") (Or.inl (ow hw 32 rfl)) Via.refl e0 S_x.2.1 (g := (mkF m 1 #[vR x] [(.ref x)])) rfl rfl (j42_54 hby 1 rfl)
  obtain ⟨cl11, Ar11, q11, S11, M11, H11, G11⟩ := id S_x.2.2.2
  obtain ⟨_, T12, L12, X12, ⟨rfl, Nq12, e12⟩, st12⟩ := own_cv 1 X10 hx hZ hown (ow hw 74 rfl) (ow hw 75 rfl) (ow hw 52 rfl) (ow hw 77 rfl) (ow hw 76 rfl) (ow hw 6 rfl) (ow hw 78 rfl) (own_cod0 hw  Z0 S_x.2.2.1 SS) e10 S_x.1 (g := (mkF m 6 #[vR x] [(.ref x), (.int N)])) (rest := [(.int N)]) (lenOf own_pd0 rfl) (j42_54 hby 4 rfl) hz
  have Na13 := Fr.app (Fr.nil n0) Nq12
  refine ⟨_, _, _, _, some (.int r), X12, (fun h => nomatch h), by decide, by decide, ?_, fun fs hr => ?_⟩
  · show own_Qlen0 Z x u ku N us w2 r fm h0 n0 _ T12.heap _
    rw [e12]
    exact ⟨rfl, Na13, rfl⟩
  · refine sA X0.here hx (j42_54 hby 0 rfl) ?_
    refine st10 _ ?_
    refine X10.arraylength hx (by rw [e10]; exact Ar11.1) (State.isArrayOf_alike hZ.alike Ar11.2.1) (g := (mkF m 4 #[vR x] [(.ref u)])) rfl rfl (j42_54 hby 2 rfl) _ ?_
    rw [len_of S11 M11]
    refine sA X10.here hx (j42_54 hby 3 rfl) ?_
    refine st12 _ ?_
    refine XS.ishr X12.here hx rfl (j42_54 hby 5 rfl) rfl ?_
    show Steps p.tables e below (T12.setTop (mkF m 10 #[vR x] [(.int (N >>> ((0 : Int32) &&& 31)))])) _
    rw [hres]
    exact retI X12 hx hrt (j42_54 hby 6 rfl) hr
def own_Qcod1 (Z : State) (x : Addr) (w2 : Int32) (fm : Value) (h0 : Heap) (n0 : Nat) (v : Option Value) (h : Heap) (L : List Loc) : Prop := v = some (.int 1) ∧ Fr n0 L ∧ h = h0
theorem own_cod1 (hw : own_HW a0 Z) {x : Addr} {w2 : Int32} {fm : Value}  (Z0 : n0 ≤ h0.size) (F_x_coder : Fld Z h0 x "java/lang/String" "coder" "B" (.int 1)) (SS : own_ST Z h0 w2 fm) : own_M l Z h0 y_0 jdk_42_method_152_code 1 (some .byte) (rm 0 0 0 0) #[(.ref x)] (own_Qcod1 Z x w2 fm h0 n0) := by
  refine own_go #[vR x] (plainFor_of_name own_pn0) (fun m => rfl) fun p e s m below meth c s₁ hx hby hz hZ hown hnm hrt X0 e0 => ?_
  have P5 := SS.2.1
  obtain ⟨T10, X10, e10, st10⟩ := getS2 X0 hx hZ hown (host := "") (Or.inl (ow hw 18 rfl)) Via.refl e0 SS.1 (g := (mkF m 0 #[vR x] [])) rfl (j42_152 hby 0 rfl)
  obtain ⟨T11, X11, e11, st11⟩ := getF X10 hx hZ hown (host := "") (Or.inl (ow hw 30 rfl)) Via.refl e10 F_x_coder (g := (mkF m 7 #[vR x] [(.ref x)])) rfl rfl (j42_152 hby 3 rfl)
  refine ⟨_, _, _, _, some (.int 1), X11, (fun h => nomatch h), by decide, by decide, ?_, fun fs hr => ?_⟩
  · show own_Qcod1 Z x w2 fm h0 n0 _ T11.heap _
    rw [e11]
    exact ⟨rfl, (Fr.nil n0), rfl⟩
  · refine st10 _ ?_
    refine XS.ifNo X10.here hx rfl (j42_152 hby 1 rfl) rfl ((if0 _ _).trans (feq P5).1) ?_
    refine sA X10.here hx (j42_152 hby 2 rfl) ?_
    refine st11 _ ?_
    refine XS.goto X11.here hx rfl (pc0 := 10) (pc' := 14) rfl (j42_152 hby 4 rfl) (by decide) (by decide) ?_
    exact retN X11 hx (t := .byte) hrt (by simp) (j42_152 hby 5 rfl) hr
def own_Qisl1 (Z : State) (x : Addr) (w2 : Int32) (fm : Value) (h0 : Heap) (n0 : Nat) (v : Option Value) (h : Heap) (L : List Loc) : Prop := v = some (.int 0) ∧ Fr n0 L ∧ h = h0
theorem own_isl1 (hw : own_HW a0 Z) {x : Addr} {w2 : Int32} {fm : Value}  (Z0 : n0 ≤ h0.size) (F_x_coder : Fld Z h0 x "java/lang/String" "coder" "B" (.int 1)) (SS : own_ST Z h0 w2 fm) : own_M l Z h0 y_1 jdk_42_method_154_code 1 (some .boolean) (rm 0 0 0 0) #[(.ref x)] (own_Qisl1 Z x w2 fm h0 n0) := by
  refine own_go #[vR x] (plainFor_of_name own_pn0) (fun m => rfl) fun p e s m below meth c s₁ hx hby hz hZ hown hnm hrt X0 e0 => ?_
  have P5 := SS.2.1
  obtain ⟨T10, X10, e10, st10⟩ := getS2 X0 hx hZ hown (host := "") (Or.inl (ow hw 18 rfl)) Via.refl e0 SS.1 (g := (mkF m 0 #[vR x] [])) rfl (j42_154 hby 0 rfl)
  obtain ⟨T11, X11, e11, st11⟩ := getF X10 hx hZ hown (host := "") (Or.inl (ow hw 30 rfl)) Via.refl e10 F_x_coder (g := (mkF m 7 #[vR x] [(.ref x)])) rfl rfl (j42_154 hby 3 rfl)
  refine ⟨_, _, _, _, some (.int 0), X11, (fun h => nomatch h), by decide, by decide, ?_, fun fs hr => ?_⟩
  · show own_Qisl1 Z x w2 fm h0 n0 _ T11.heap _
    rw [e11]
    exact ⟨rfl, (Fr.nil n0), rfl⟩
  · refine st10 _ ?_
    refine XS.ifNo X10.here hx rfl (j42_154 hby 1 rfl) rfl ((if0 _ _).trans (feq P5).1) ?_
    refine sA X10.here hx (j42_154 hby 2 rfl) ?_
    refine st11 _ ?_
    refine XS.ifYes X11.here hx rfl (pc0 := 10) (pc' := 17) rfl (j42_154 hby 4 rfl) rfl ((if0 _ _).trans (feq (by decide)).2) (by decide) (by decide) ?_
    refine sC X11.here hx (j42_154 hby 8 rfl) ?_
    exact retN X11 hx (t := .boolean) hrt (by simp) (j42_154 hby 7 rfl) hr
def own_Qlen1 (Z : State) (x u : Addr) (ku : ClassId) (N : Int32) (us : List Value) (w2 r : Int32) (fm : Value) (h0 : Heap) (n0 : Nat) (v : Option Value) (h : Heap) (L : List Loc) : Prop := v = some (.int r) ∧ Fr n0 L ∧ h = h0
theorem own_len1 (hw : own_HW a0 Z) {x u : Addr} {ku : ClassId} {N : Int32} {us : List Value} {w2 : Int32} {fm : Value} (r : Int32) (Z0 : n0 ≤ h0.size) (S_x : own_Sr Z h0 x u ku 1 N us) (SS : own_ST Z h0 w2 fm) (hres : (N >>> ((1 : Int32) &&& 31)) = r) : own_M l Z h0 y_2 jdk_42_method_54_code 1 (some .int) (rm 1 0 0 13) #[(.ref x)] (own_Qlen1 Z x u ku N us w2 r fm h0 n0) := by
  refine own_go #[vR x] (plainFor_of_name own_pn0) (fun m => rfl) fun p e s m below meth c s₁ hx hby hz hZ hown hnm hrt X0 e0 => ?_
  obtain ⟨T10, X10, e10, st10⟩ := getF X0 hx hZ hown (host := "") (Or.inl (ow hw 32 rfl)) Via.refl e0 S_x.2.1 (g := (mkF m 1 #[vR x] [(.ref x)])) rfl rfl (j42_54 hby 1 rfl)
  obtain ⟨cl11, Ar11, q11, S11, M11, H11, G11⟩ := id S_x.2.2.2
  obtain ⟨_, T12, L12, X12, ⟨rfl, Nq12, e12⟩, st12⟩ := own_cv 1 X10 hx hZ hown (ow hw 74 rfl) (ow hw 75 rfl) (ow hw 52 rfl) (ow hw 77 rfl) (ow hw 76 rfl) (ow hw 6 rfl) (ow hw 78 rfl) (own_cod1 hw  Z0 S_x.2.2.1 SS) e10 S_x.1 (g := (mkF m 6 #[vR x] [(.ref x), (.int N)])) (rest := [(.int N)]) (lenOf own_pd0 rfl) (j42_54 hby 4 rfl) hz
  have Na13 := Fr.app (Fr.nil n0) Nq12
  refine ⟨_, _, _, _, some (.int r), X12, (fun h => nomatch h), by decide, by decide, ?_, fun fs hr => ?_⟩
  · show own_Qlen1 Z x u ku N us w2 r fm h0 n0 _ T12.heap _
    rw [e12]
    exact ⟨rfl, Na13, rfl⟩
  · refine sA X0.here hx (j42_54 hby 0 rfl) ?_
    refine st10 _ ?_
    refine X10.arraylength hx (by rw [e10]; exact Ar11.1) (State.isArrayOf_alike hZ.alike Ar11.2.1) (g := (mkF m 4 #[vR x] [(.ref u)])) rfl rfl (j42_54 hby 2 rfl) _ ?_
    rw [len_of S11 M11]
    refine sA X10.here hx (j42_54 hby 3 rfl) ?_
    refine st12 _ ?_
    refine XS.ishr X12.here hx rfl (j42_54 hby 5 rfl) rfl ?_
    show Steps p.tables e below (T12.setTop (mkF m 10 #[vR x] [(.int (N >>> ((1 : Int32) &&& 31)))])) _
    rw [hres]
    exact retI X12 hx hrt (j42_54 hby 6 rfl) hr
def own_Qemp (Z : State) (x u : Addr) (ku : ClassId) (N : Int32) (us : List Value) (h0 : Heap) (n0 : Nat) (v : Option Value) (h : Heap) (L : List Loc) : Prop := v = some (.int 0) ∧ Fr n0 L ∧ h = h0
theorem own_emp (hw : own_HW a0 Z) {x u : Addr} {ku : ClassId} {N : Int32} {us : List Value}  (Z0 : n0 ≤ h0.size) (F_x_value : Fld Z h0 x "java/lang/String" "value" "[B" (.ref u)) (A_u : Arv Z h0 u ku .byte N us (.int 0)) (hN : ¬ N = 0) : own_M l Z h0 y_3 jdk_42_method_55_code 1 (some .boolean) (rm 0 0 0 0) #[(.ref x)] (own_Qemp Z x u ku N us h0 n0) := by
  refine own_go #[vR x] (plainFor_of_name own_pn0) (fun m => rfl) fun p e s m below meth c s₁ hx hby hz hZ hown hnm hrt X0 e0 => ?_
  obtain ⟨T10, X10, e10, st10⟩ := getF X0 hx hZ hown (host := "") (Or.inl (ow hw 32 rfl)) Via.refl e0 F_x_value (g := (mkF m 1 #[vR x] [(.ref x)])) rfl rfl (j42_55 hby 1 rfl)
  obtain ⟨cl11, Ar11, q11, S11, M11, H11, G11⟩ := id A_u
  refine ⟨_, _, _, _, some (.int 0), X10, (fun h => nomatch h), by decide, by decide, ?_, fun fs hr => ?_⟩
  · show own_Qemp Z x u ku N us h0 n0 _ T10.heap _
    rw [e10]
    exact ⟨rfl, (Fr.nil n0), rfl⟩
  · refine sA X0.here hx (j42_55 hby 0 rfl) ?_
    refine st10 _ ?_
    refine X10.arraylength hx (by rw [e10]; exact Ar11.1) (State.isArrayOf_alike hZ.alike Ar11.2.1) (g := (mkF m 4 #[vR x] [(.ref u)])) rfl rfl (j42_55 hby 2 rfl) _ ?_
    rw [len_of S11 M11]
    refine XS.ifYes X10.here hx rfl (pc0 := 5) (pc' := 12) rfl (j42_55 hby 3 rfl) rfl ((if0 _ _).trans (feq hN).2) (by decide) (by decide) ?_
    refine sC X10.here hx (j42_55 hby 4 rfl) ?_
    exact retN X10 hx (t := .boolean) hrt (by simp) (j42_55 hby 5 rfl) hr
theorem own_pn1 : plainName "java/util/Objects" = true := by first | (simp [plainName, overriddenIn]; done) | decide +kernel
def own_Qrnn (Z : State) (a1 a2 : Addr) (h0 : Heap) (n0 : Nat) (v : Option Value) (h : Heap) (L : List Loc) : Prop := v = some (.ref a1) ∧ Fr n0 L ∧ h = h0
theorem own_rnn (hw : own_HW a0 Z) (a1 a2 : Addr) (Z0 : n0 ≤ h0.size)  : own_M l Z h0 y_4 jdk_31_method_11_code 2 (some (.object "java/lang/Object")) (rm 0 0 0 0) #[(.ref a1), (.ref a2)] (own_Qrnn Z a1 a2 h0 n0) := by
  refine own_go #[vR a1, vR a2] (plainFor_of_name own_pn1) (fun m => rfl) fun p e s m below meth c s₁ hx hby hz hZ hown hnm hrt X0 e0 => ?_
  refine ⟨_, _, _, _, some (.ref a1), X0, (fun h => nomatch h), by decide, by decide, ?_, fun fs hr => ?_⟩
  · show own_Qrnn Z a1 a2 h0 n0 _ s₁.heap _
    rw [e0]
    exact ⟨rfl, (Fr.nil n0), rfl⟩
  · refine sA X0.here hx (j31_11 hby 0 rfl) ?_
    refine XS.ifnonnullYes X0.here hx rfl (pc0 := 1) (pc' := 13) rfl (j31_11 hby 1 rfl) rfl (by decide) (by decide) ?_
    refine sA X0.here hx (j31_11 hby 2 rfl) ?_
    exact retR X0 hx hrt rfl rfl rfl (j31_11 hby 3 rfl) hr
def own_Qmx (Z : State) (p1 p2 : Int32) (h0 : Heap) (n0 : Nat) (v : Option Value) (h : Heap) (L : List Loc) : Prop := v = some (.int p1) ∧ Fr n0 L ∧ h = h0
theorem own_mx (hw : own_HW a0 Z) (p1 p2 : Int32) (Z0 : n0 ≤ h0.size) (hq : ¬ p1 < p2) : own_M l Z h0 y_5 jdk_29_method_65_code 2 (some .int) (rm 0 0 0 0) #[(.int p1), (.int p2)] (own_Qmx Z p1 p2 h0 n0) := by
  refine own_go #[vI p1, vI p2] (Jvm.Free.JP.mathPlain rfl (by decide +kernel)) (fun m => rfl) fun p e s m below meth c s₁ hx hby hz hZ hown hnm hrt X0 e0 => ?_
  refine ⟨_, _, _, _, some (.int p1), X0, (fun h => nomatch h), by decide, by decide, ?_, fun fs hr => ?_⟩
  · show own_Qmx Z p1 p2 h0 n0 _ s₁.heap _
    rw [e0]
    exact ⟨rfl, (Fr.nil n0), rfl⟩
  · refine sI X0.here hx (j29_65 hby 0 rfl) ?_
    refine sI X0.here hx (j29_65 hby 1 rfl) ?_
    refine XS.icmpNo X0.here hx rfl (j29_65 hby 2 rfl) rfl (flt hq).1 ?_
    refine sI X0.here hx (j29_65 hby 3 rfl) ?_
    refine XS.goto X0.here hx rfl (pc0 := 6) (pc' := 10) rfl (j29_65 hby 4 rfl) (by decide) (by decide) ?_
    exact retI X0 hx hrt (j29_65 hby 5 rfl) hr
def own_QmnA (Z : State) (p1 p2 : Int32) (h0 : Heap) (n0 : Nat) (v : Option Value) (h : Heap) (L : List Loc) : Prop := v = some (.int p1) ∧ Fr n0 L ∧ h = h0
theorem own_mnA (hw : own_HW a0 Z) (p1 p2 : Int32) (Z0 : n0 ≤ h0.size) (hq : ¬ p2 < p1) : own_M l Z h0 y_6 jdk_29_method_69_code 2 (some .int) (rm 0 0 0 0) #[(.int p1), (.int p2)] (own_QmnA Z p1 p2 h0 n0) := by
  refine own_go #[vI p1, vI p2] (Jvm.Free.JP.mathPlain rfl (by decide +kernel)) (fun m => rfl) fun p e s m below meth c s₁ hx hby hz hZ hown hnm hrt X0 e0 => ?_
  refine ⟨_, _, _, _, some (.int p1), X0, (fun h => nomatch h), by decide, by decide, ?_, fun fs hr => ?_⟩
  · show own_QmnA Z p1 p2 h0 n0 _ s₁.heap _
    rw [e0]
    exact ⟨rfl, (Fr.nil n0), rfl⟩
  · refine sI X0.here hx (j29_69 hby 0 rfl) ?_
    refine sI X0.here hx (j29_69 hby 1 rfl) ?_
    refine XS.icmpNo X0.here hx rfl (j29_69 hby 2 rfl) rfl (flt hq).2.2.1 ?_
    refine sI X0.here hx (j29_69 hby 3 rfl) ?_
    refine XS.goto X0.here hx rfl (pc0 := 6) (pc' := 10) rfl (j29_69 hby 4 rfl) (by decide) (by decide) ?_
    exact retI X0 hx hrt (j29_69 hby 5 rfl) hr
def own_QmnB (Z : State) (p1 p2 : Int32) (h0 : Heap) (n0 : Nat) (v : Option Value) (h : Heap) (L : List Loc) : Prop := v = some (.int p2) ∧ Fr n0 L ∧ h = h0
theorem own_mnB (hw : own_HW a0 Z) (p1 p2 : Int32) (Z0 : n0 ≤ h0.size) (hq : p2 < p1) : own_M l Z h0 y_6 jdk_29_method_69_code 2 (some .int) (rm 0 0 0 0) #[(.int p1), (.int p2)] (own_QmnB Z p1 p2 h0 n0) := by
  refine own_go #[vI p1, vI p2] (Jvm.Free.JP.mathPlain rfl (by decide +kernel)) (fun m => rfl) fun p e s m below meth c s₁ hx hby hz hZ hown hnm hrt X0 e0 => ?_
  refine ⟨_, _, _, _, some (.int p2), X0, (fun h => nomatch h), by decide, by decide, ?_, fun fs hr => ?_⟩
  · show own_QmnB Z p1 p2 h0 n0 _ s₁.heap _
    rw [e0]
    exact ⟨rfl, (Fr.nil n0), rfl⟩
  · refine sI X0.here hx (j29_69 hby 0 rfl) ?_
    refine sI X0.here hx (j29_69 hby 1 rfl) ?_
    refine XS.icmpYes X0.here hx rfl (pc0 := 2) (pc' := 9) rfl (j29_69 hby 2 rfl) rfl (tlt hq).2.2.1 (by decide) (by decide) ?_
    refine sI X0.here hx (j29_69 hby 6 rfl) ?_
    exact retI X0 hx hrt (j29_69 hby 5 rfl) hr
theorem own_pn2 : plainName "java/lang/StringLatin1" = true := by first | (simp [plainName, overriddenIn]; done) | decide +kernel
def own_QceI (Z : State)  (h0 : Heap) (n0 : Nat) (v : Option Value) (h : Heap) (L : List Loc) : Prop := v = some (.int 1) ∧ Fr n0 L ∧ h = h0
theorem own_ceI (hw : own_HW a0 Z)  (Z0 : n0 ≤ h0.size)  : own_M l Z h0 y_7 jdk_43_method_4_code 1 (some .boolean) (rm 0 0 0 0) #[(.int 58)] (own_QceI Z  h0 n0) := by
  refine own_go #[vI 58] (plainFor_of_name own_pn2) (fun m => rfl) fun p e s m below meth c s₁ hx hby hz hZ hown hnm hrt X0 e0 => ?_
  refine ⟨_, _, _, _, some (.int 1), X0, (fun h => nomatch h), by decide, by decide, ?_, fun fs hr => ?_⟩
  · show own_QceI Z  h0 n0 _ s₁.heap _
    rw [e0]
    exact ⟨rfl, (Fr.nil n0), rfl⟩
  · refine sI X0.here hx (j43_4 hby 0 rfl) ?_
    refine XS.ifNo X0.here hx rfl (j43_4 hby 1 rfl) rfl ((if0 _ _).trans (flt (by decide)).1) ?_
    refine sI X0.here hx (j43_4 hby 2 rfl) ?_
    refine XS.sipush X0.here hx rfl (j43_4 hby 3 rfl) ?_
    refine XS.icmpNo X0.here hx rfl (j43_4 hby 4 rfl) rfl (flt (by decide)).2.2.1 ?_
    refine sC X0.here hx (j43_4 hby 5 rfl) ?_
    refine XS.goto X0.here hx rfl (pc0 := 12) (pc' := 16) rfl (j43_4 hby 6 rfl) (by decide) (by decide) ?_
    exact retN X0 hx (t := .boolean) hrt (by simp) (j43_4 hby 7 rfl) hr
def own_QceC (Z : State)  (h0 : Heap) (n0 : Nat) (v : Option Value) (h : Heap) (L : List Loc) : Prop := v = some (.int 1) ∧ Fr n0 L ∧ h = h0
theorem own_ceC (hw : own_HW a0 Z)  (Z0 : n0 ≤ h0.size)  : own_M l Z h0 y_8 jdk_43_method_3_code 1 (some .boolean) (rm 0 0 0 0) #[(.int 58)] (own_QceC Z  h0 n0) := by
  refine own_go #[vI 58] (plainFor_of_name own_pn2) (fun m => rfl) fun p e s m below meth c s₁ hx hby hz hZ hown hnm hrt X0 e0 => ?_
  refine ⟨_, _, _, _, some (.int 1), X0, (fun h => nomatch h), by decide, by decide, ?_, fun fs hr => ?_⟩
  · show own_QceC Z  h0 n0 _ s₁.heap _
    rw [e0]
    exact ⟨rfl, (Fr.nil n0), rfl⟩
  · refine sI X0.here hx (j43_3 hby 0 rfl) ?_
    refine XS.sipush X0.here hx rfl (j43_3 hby 1 rfl) ?_
    refine XS.icmpNo X0.here hx rfl (j43_3 hby 2 rfl) rfl (flt (by decide)).2.2.1 ?_
    refine sC X0.here hx (j43_3 hby 3 rfl) ?_
    refine XS.goto X0.here hx rfl (pc0 := 8) (pc' := 12) rfl (j43_3 hby 4 rfl) (by decide) (by decide) ?_
    exact retN X0 hx (t := .boolean) hrt (by simp) (j43_3 hby 5 rfl) hr
theorem own_pn3 : plainName "jdk/internal/util/Preconditions" = true := by first | (simp [plainName, overriddenIn]; done) | decide +kernel
def own_Qpci (Z : State) (i n : Int32) (fm : Value) (h0 : Heap) (n0 : Nat) (v : Option Value) (h : Heap) (L : List Loc) : Prop := v = some (.int i) ∧ Fr n0 L ∧ h = h0
theorem own_pci_ef (m : MethodId) (x0 : Int32) (x1 : Int32) (x2 : Value) (r2 : x2.isRef = true) : entryFrame m #[(.int x0), (.int x1), x2] 3 = mkF m 0 #[vI x0, vI x1, .val x2] [] := by rcases ref_cases r2 with rfl | ⟨y2, rfl⟩ <;> first | (simp [entryFrame, mkF, argsToLocals, Value.category]; done) | rfl
theorem own_pci (hw : own_HW a0 Z) (i n : Int32) (fm : Value) (Z0 : n0 ≤ h0.size) (rf : fm.isRef = true) (h1 : ¬ i < 0) (h2 : i < n) : own_M l Z h0 y_9 jdk_41_method_11_code 3 (some .int) (rm 0 0 0 0) #[(.int i), (.int n), fm] (own_Qpci Z i n fm h0 n0) := by
  refine own_go #[vI i, vI n, .val fm] (plainFor_of_name own_pn3) (fun m => own_pci_ef m i n fm rf) fun p e s m below meth c s₁ hx hby hz hZ hown hnm hrt X0 e0 => ?_
  refine ⟨_, _, _, _, some (.int i), X0, (fun h => nomatch h), by decide, by decide, ?_, fun fs hr => ?_⟩
  · show own_Qpci Z i n fm h0 n0 _ s₁.heap _
    rw [e0]
    exact ⟨rfl, (Fr.nil n0), rfl⟩
  · refine sI X0.here hx (j41_11 hby 0 rfl) ?_
    refine XS.ifNo X0.here hx rfl (j41_11 hby 1 rfl) rfl ((if0 _ _).trans (flt h1).1) ?_
    refine sI X0.here hx (j41_11 hby 2 rfl) ?_
    refine sI X0.here hx (j41_11 hby 3 rfl) ?_
    refine XS.icmpYes X0.here hx rfl (pc0 := 6) (pc' := 16) rfl (j41_11 hby 4 rfl) rfl (tlt h2).1 (by decide) (by decide) ?_
    refine sI X0.here hx (j41_11 hby 5 rfl) ?_
    exact retI X0 hx hrt (j41_11 hby 6 rfl) hr
def own_Qsci (Z : State) (i n : Int32) (fm : Value) (w2 : Int32) (h0 : Heap) (n0 : Nat) (v : Option Value) (h : Heap) (L : List Loc) : Prop := v = none ∧ Fr n0 L ∧ h = h0
theorem own_sci (hw : own_HW a0 Z) {fm : Value} {w2 : Int32} (i n : Int32) (Z0 : n0 ≤ h0.size) (SS : own_ST Z h0 w2 fm) (h1 : ¬ i < 0) (h2 : i < n) : own_M l Z h0 y_10 jdk_42_method_155_code 2 none (rm 1 0 0 14) #[(.int i), (.int n)] (own_Qsci Z i n fm w2 h0 n0) := by
  refine own_go #[vI i, vI n] (plainFor_of_name own_pn0) (fun m => rfl) fun p e s m below meth c s₁ hx hby hz hZ hown hnm hrt X0 e0 => ?_
  have rf := SS.2.2.2.1
  obtain ⟨T10, X10, e10, st10⟩ := getS2 X0 hx hZ hown (host := "") (Or.inl (ow hw 229 rfl)) Via.refl e0 SS.2.2.1 (g := (mkF m 2 #[vI i, vI n] [(.int n), (.int i)])) rfl (j42_155 hby 2 rfl)
  obtain ⟨_, T11, L11, X11, ⟨rfl, Nq11, e11⟩, st11⟩ := own_cs 0 X10 hx hZ hown (ow hw 231 rfl) (ow hw 232 rfl) (ow hw 230 rfl) (ow hw 233 rfl) (own_pci hw i n fm Z0 rf h1 h2) e10 (g := (mkF m 5 #[vI i, vI n] [fm, (.int n), (.int i)])) (rest := []) (lenOf own_pd1 rfl) (j42_155 hby 3 rfl) hz
  have Na12 := Fr.app (Fr.nil n0) Nq11
  refine ⟨_, _, _, _, none, X11, (fun _ => rfl), by decide, by decide, ?_, fun fs hr => ?_⟩
  · show own_Qsci Z i n fm w2 h0 n0 _ T11.heap _
    rw [e11]
    exact ⟨rfl, Na12, rfl⟩
  · refine sI X0.here hx (j42_155 hby 0 rfl) ?_
    refine sI X0.here hx (j42_155 hby 1 rfl) ?_
    refine st10 _ ?_
    refine st11 _ ?_
    refine XS.pop X11.here hx rfl (j42_155 hby 4 rfl) rfl rfl ?_
    exact X11.returnOut hx hrt (j42_155 hby 5 rfl) hr
theorem own_pn4 : plainName "java/lang/StringUTF16" = true := by first | (simp [plainName, overriddenIn]; done) | decide +kernel
def own_Qul (Z : State) (u : Addr) (ku : ClassId) (N : Int32) (us : List Value) (r : Int32) (h0 : Heap) (n0 : Nat) (v : Option Value) (h : Heap) (L : List Loc) : Prop := v = some (.int r) ∧ Fr n0 L ∧ h = h0
theorem own_ul (hw : own_HW a0 Z) {u : Addr} {ku : ClassId} {N : Int32} {us : List Value} (r : Int32) (Z0 : n0 ≤ h0.size) (A_u : Arv Z h0 u ku .byte N us (.int 0)) (hres : (N >>> ((1 : Int32) &&& 31)) = r) : own_M l Z h0 y_11 jdk_52_method_6_code 1 (some .int) (rm 0 0 0 0) #[(.ref u)] (own_Qul Z u ku N us r h0 n0) := by
  refine own_go #[vR u] (plainFor_of_name own_pn4) (fun m => rfl) fun p e s m below meth c s₁ hx hby hz hZ hown hnm hrt X0 e0 => ?_
  obtain ⟨cl10, Ar10, q10, S10, M10, H10, G10⟩ := id A_u
  refine ⟨_, _, _, _, some (.int r), X0, (fun h => nomatch h), by decide, by decide, ?_, fun fs hr => ?_⟩
  · show own_Qul Z u ku N us r h0 n0 _ s₁.heap _
    rw [e0]
    exact ⟨rfl, (Fr.nil n0), rfl⟩
  · refine sA X0.here hx (j52_6 hby 0 rfl) ?_
    refine X0.arraylength hx (by rw [e0]; exact Ar10.1) (State.isArrayOf_alike hZ.alike Ar10.2.1) (g := (mkF m 1 #[vR u] [(.ref u)])) rfl rfl (j52_6 hby 1 rfl) _ ?_
    rw [len_of S10 M10]
    refine sC X0.here hx (j52_6 hby 2 rfl) ?_
    refine XS.ishr X0.here hx rfl (j52_6 hby 3 rfl) rfl ?_
    show Steps p.tables e below (s₁.setTop (mkF m 4 #[vR u] [(.int (N >>> ((1 : Int32) &&& 31)))])) _
    rw [hres]
    exact retI X0 hx hrt (j52_6 hby 4 rfl) hr
def own_Quci (Z : State) (i : Int32) (u : Addr) (ku : ClassId) (N : Int32) (us : List Value) (r : Int32) (fm : Value) (w2 : Int32) (h0 : Heap) (n0 : Nat) (v : Option Value) (h : Heap) (L : List Loc) : Prop := v = none ∧ Fr n0 L ∧ h = h0
theorem own_uci (hw : own_HW a0 Z) {u : Addr} {ku : ClassId} {N : Int32} {us : List Value} {fm : Value} {w2 : Int32} (i r : Int32) (Z0 : n0 ≤ h0.size) (A_u : Arv Z h0 u ku .byte N us (.int 0)) (SS : own_ST Z h0 w2 fm) (hres : (N >>> ((1 : Int32) &&& 31)) = r) (h1 : ¬ i < 0) (h2 : i < r) : own_M l Z h0 y_12 jdk_52_method_91_code 2 none (rm 2 0 0 27) #[(.int i), (.ref u)] (own_Quci Z i u ku N us r fm w2 h0 n0) := by
  refine own_go #[vI i, vR u] (plainFor_of_name own_pn4) (fun m => rfl) fun p e s m below meth c s₁ hx hby hz hZ hown hnm hrt X0 e0 => ?_
  obtain ⟨_, T10, L10, X10, ⟨rfl, Nq10, e10⟩, st10⟩ := own_cs 1 X0 hx hZ hown (ow hw 265 rfl) (ow hw 266 rfl) (ow hw 21 rfl) (ow hw 267 rfl) (own_ul hw r Z0 A_u hres) e0 (g := (mkF m 2 #[vI i, vR u] [(.ref u), (.int i)])) (rest := [(.int i)]) (lenOf own_pd2 rfl) (j52_91 hby 2 rfl) hz
  have Na11 := Fr.app (Fr.nil n0) Nq10
  obtain ⟨_, T12, L12, X12, ⟨rfl, Nq12, e12⟩, st12⟩ := own_cs 0 X10 hx hZ hown (ow hw 304 rfl) (ow hw 227 rfl) (ow hw 6 rfl) (ow hw 228 rfl) (own_sci hw i r Z0 SS h1 h2) e10 (g := (mkF m 5 #[vI i, vR u] [(.int r), (.int i)])) (rest := []) (lenOf own_pd3 rfl) (j52_91 hby 3 rfl) hz
  have Na13 := Fr.app Na11 Nq12
  refine ⟨_, _, _, _, none, X12, (fun _ => rfl), by decide, by decide, ?_, fun fs hr => ?_⟩
  · show own_Quci Z i u ku N us r fm w2 h0 n0 _ T12.heap _
    rw [e12]
    exact ⟨rfl, Na13, rfl⟩
  · refine sI X0.here hx (j52_91 hby 0 rfl) ?_
    refine sA X0.here hx (j52_91 hby 1 rfl) ?_
    refine st10 _ ?_
    refine st12 _ ?_
    exact X12.returnOut hx hrt (j52_91 hby 4 rfl) hr
def own_Qpft (Z : State) (i j n : Int32) (fm : Value) (h0 : Heap) (n0 : Nat) (v : Option Value) (h : Heap) (L : List Loc) : Prop := v = some (.int i) ∧ Fr n0 L ∧ h = h0
theorem own_pft_ef (m : MethodId) (x0 : Int32) (x1 : Int32) (x2 : Int32) (x3 : Value) (r3 : x3.isRef = true) : entryFrame m #[(.int x0), (.int x1), (.int x2), x3] 4 = mkF m 0 #[vI x0, vI x1, vI x2, .val x3] [] := by rcases ref_cases r3 with rfl | ⟨y3, rfl⟩ <;> first | (simp [entryFrame, mkF, argsToLocals, Value.category]; done) | rfl
theorem own_pft (hw : own_HW a0 Z) (i j n : Int32) (fm : Value) (Z0 : n0 ≤ h0.size) (rf : fm.isRef = true) (h1 : ¬ i < 0) (h2 : ¬ j < i) (h3 : ¬ n < j) : own_M l Z h0 y_13 jdk_41_method_12_code 4 (some .int) (rm 0 0 0 0) #[(.int i), (.int j), (.int n), fm] (own_Qpft Z i j n fm h0 n0) := by
  refine own_go #[vI i, vI j, vI n, .val fm] (plainFor_of_name own_pn3) (fun m => own_pft_ef m i j n fm rf) fun p e s m below meth c s₁ hx hby hz hZ hown hnm hrt X0 e0 => ?_
  refine ⟨_, _, _, _, some (.int i), X0, (fun h => nomatch h), by decide, by decide, ?_, fun fs hr => ?_⟩
  · show own_Qpft Z i j n fm h0 n0 _ s₁.heap _
    rw [e0]
    exact ⟨rfl, (Fr.nil n0), rfl⟩
  · refine sI X0.here hx (j41_12 hby 0 rfl) ?_
    refine XS.ifNo X0.here hx rfl (j41_12 hby 1 rfl) rfl ((if0 _ _).trans (flt h1).1) ?_
    refine sI X0.here hx (j41_12 hby 2 rfl) ?_
    refine sI X0.here hx (j41_12 hby 3 rfl) ?_
    refine XS.icmpNo X0.here hx rfl (j41_12 hby 4 rfl) rfl (flt h2).2.2.1 ?_
    refine sI X0.here hx (j41_12 hby 5 rfl) ?_
    refine sI X0.here hx (j41_12 hby 6 rfl) ?_
    refine XS.icmpYes X0.here hx rfl (pc0 := 11) (pc' := 22) rfl (j41_12 hby 7 rfl) rfl (flt h3).2.2.2 (by decide) (by decide) ?_
    refine sI X0.here hx (j41_12 hby 8 rfl) ?_
    exact retI X0 hx hrt (j41_12 hby 9 rfl) hr
def own_Qsft (Z : State) (i j n : Int32) (fm : Value) (w2 : Int32) (h0 : Heap) (n0 : Nat) (v : Option Value) (h : Heap) (L : List Loc) : Prop := v = none ∧ Fr n0 L ∧ h = h0
theorem own_sft (hw : own_HW a0 Z) {fm : Value} {w2 : Int32} (i j n : Int32) (Z0 : n0 ≤ h0.size) (SS : own_ST Z h0 w2 fm) (h1 : ¬ i < 0) (h2 : ¬ j < i) (h3 : ¬ n < j) : own_M l Z h0 y_14 jdk_42_method_158_code 3 none (rm 1 0 0 15) #[(.int i), (.int j), (.int n)] (own_Qsft Z i j n fm w2 h0 n0) := by
  refine own_go #[vI i, vI j, vI n] (plainFor_of_name own_pn0) (fun m => rfl) fun p e s m below meth c s₁ hx hby hz hZ hown hnm hrt X0 e0 => ?_
  have rf := SS.2.2.2.1
  obtain ⟨T10, X10, e10, st10⟩ := getS2 X0 hx hZ hown (host := "") (Or.inl (ow hw 229 rfl)) Via.refl e0 SS.2.2.1 (g := (mkF m 3 #[vI i, vI j, vI n] [(.int n), (.int j), (.int i)])) rfl (j42_158 hby 3 rfl)
  obtain ⟨_, T11, L11, X11, ⟨rfl, Nq11, e11⟩, st11⟩ := own_cs 0 X10 hx hZ hown (ow hw 271 rfl) (ow hw 272 rfl) (ow hw 230 rfl) (ow hw 273 rfl) (own_pft hw i j n fm Z0 rf h1 h2 h3) e10 (g := (mkF m 6 #[vI i, vI j, vI n] [fm, (.int n), (.int j), (.int i)])) (rest := []) (lenOf own_pd4 rfl) (j42_158 hby 4 rfl) hz
  have Na12 := Fr.app (Fr.nil n0) Nq11
  refine ⟨_, _, _, _, none, X11, (fun _ => rfl), by decide, by decide, ?_, fun fs hr => ?_⟩
  · show own_Qsft Z i j n fm w2 h0 n0 _ T11.heap _
    rw [e11]
    exact ⟨rfl, Na12, rfl⟩
  · refine sI X0.here hx (j42_158 hby 0 rfl) ?_
    refine sI X0.here hx (j42_158 hby 1 rfl) ?_
    refine sI X0.here hx (j42_158 hby 2 rfl) ?_
    refine st10 _ ?_
    refine st11 _ ?_
    refine XS.pop X11.here hx rfl (j42_158 hby 5 rfl) rfl rfl ?_
    exact X11.returnOut hx hrt (j42_158 hby 6 rfl) hr
def own_Quft (Z : State) (i j : Int32) (u : Addr) (ku : ClassId) (N : Int32) (us : List Value) (n : Int32) (fm : Value) (w2 : Int32) (h0 : Heap) (n0 : Nat) (v : Option Value) (h : Heap) (L : List Loc) : Prop := v = none ∧ Fr n0 L ∧ h = h0
theorem own_uft (hw : own_HW a0 Z) {u : Addr} {ku : ClassId} {N : Int32} {us : List Value} {fm : Value} {w2 : Int32} (i j n : Int32) (Z0 : n0 ≤ h0.size) (A_u : Arv Z h0 u ku .byte N us (.int 0)) (SS : own_ST Z h0 w2 fm) (hres : (N >>> ((1 : Int32) &&& 31)) = n) (h1 : ¬ i < 0) (h2 : ¬ j < i) (h3 : ¬ n < j) : own_M l Z h0 y_15 jdk_52_method_93_code 3 none (rm 2 0 0 29) #[(.int i), (.int j), (.ref u)] (own_Quft Z i j u ku N us n fm w2 h0 n0) := by
  refine own_go #[vI i, vI j, vR u] (plainFor_of_name own_pn4) (fun m => rfl) fun p e s m below meth c s₁ hx hby hz hZ hown hnm hrt X0 e0 => ?_
  obtain ⟨_, T10, L10, X10, ⟨rfl, Nq10, e10⟩, st10⟩ := own_cs 2 X0 hx hZ hown (ow hw 265 rfl) (ow hw 266 rfl) (ow hw 21 rfl) (ow hw 267 rfl) (own_ul hw n Z0 A_u hres) e0 (g := (mkF m 3 #[vI i, vI j, vR u] [(.ref u), (.int j), (.int i)])) (rest := [(.int j), (.int i)]) (lenOf own_pd2 rfl) (j52_93 hby 3 rfl) hz
  have Na11 := Fr.app (Fr.nil n0) Nq10
  obtain ⟨_, T12, L12, X12, ⟨rfl, Nq12, e12⟩, st12⟩ := own_cs 0 X10 hx hZ hown (ow hw 268 rfl) (ow hw 269 rfl) (ow hw 6 rfl) (ow hw 270 rfl) (own_sft hw i j n Z0 SS h1 h2 h3) e10 (g := (mkF m 6 #[vI i, vI j, vR u] [(.int n), (.int j), (.int i)])) (rest := []) (lenOf own_pd5 rfl) (j52_93 hby 4 rfl) hz
  have Na13 := Fr.app Na11 Nq12
  refine ⟨_, _, _, _, none, X12, (fun _ => rfl), by decide, by decide, ?_, fun fs hr => ?_⟩
  · show own_Quft Z i j u ku N us n fm w2 h0 n0 _ T12.heap _
    rw [e12]
    exact ⟨rfl, Na13, rfl⟩
  · refine sI X0.here hx (j52_93 hby 0 rfl) ?_
    refine sI X0.here hx (j52_93 hby 1 rfl) ?_
    refine sA X0.here hx (j52_93 hby 2 rfl) ?_
    refine st10 _ ?_
    refine st12 _ ?_
    exact X12.returnOut hx hrt (j52_93 hby 5 rfl) hr
def own_Qpfs (Z : State) (i j n : Int32) (fm : Value) (h0 : Heap) (n0 : Nat) (v : Option Value) (h : Heap) (L : List Loc) : Prop := v = some (.int i) ∧ Fr n0 L ∧ h = h0
theorem own_pfs_ef (m : MethodId) (x0 : Int32) (x1 : Int32) (x2 : Int32) (x3 : Value) (r3 : x3.isRef = true) : entryFrame m #[(.int x0), (.int x1), (.int x2), x3] 4 = mkF m 0 #[vI x0, vI x1, vI x2, .val x3] [] := by rcases ref_cases r3 with rfl | ⟨y3, rfl⟩ <;> first | (simp [entryFrame, mkF, argsToLocals, Value.category]; done) | rfl
theorem own_pfs (hw : own_HW a0 Z) (i j n : Int32) (fm : Value) (Z0 : n0 ≤ h0.size) (rf : fm.isRef = true) (h1 : ¬ ((n ||| i) ||| j) < 0) (h2 : ¬ (n - i) < j) : own_M l Z h0 y_16 jdk_41_method_13_code 4 (some .int) (rm 0 0 0 0) #[(.int i), (.int j), (.int n), fm] (own_Qpfs Z i j n fm h0 n0) := by
  refine own_go #[vI i, vI j, vI n, .val fm] (plainFor_of_name own_pn3) (fun m => own_pfs_ef m i j n fm rf) fun p e s m below meth c s₁ hx hby hz hZ hown hnm hrt X0 e0 => ?_
  refine ⟨_, _, _, _, some (.int i), X0, (fun h => nomatch h), by decide, by decide, ?_, fun fs hr => ?_⟩
  · show own_Qpfs Z i j n fm h0 n0 _ s₁.heap _
    rw [e0]
    exact ⟨rfl, (Fr.nil n0), rfl⟩
  · refine sI X0.here hx (j41_13 hby 0 rfl) ?_
    refine sI X0.here hx (j41_13 hby 1 rfl) ?_
    refine XS.ior X0.here hx rfl (j41_13 hby 2 rfl) rfl ?_
    refine sI X0.here hx (j41_13 hby 3 rfl) ?_
    refine XS.ior X0.here hx rfl (j41_13 hby 4 rfl) rfl ?_
    refine XS.ifNo X0.here hx rfl (j41_13 hby 5 rfl) rfl ((if0 _ _).trans (flt h1).1) ?_
    refine sI X0.here hx (j41_13 hby 6 rfl) ?_
    refine sI X0.here hx (j41_13 hby 7 rfl) ?_
    refine sI X0.here hx (j41_13 hby 8 rfl) ?_
    refine XS.isub X0.here hx rfl (j41_13 hby 9 rfl) rfl ?_
    refine XS.icmpYes X0.here hx rfl (pc0 := 12) (pc' := 23) rfl (j41_13 hby 10 rfl) rfl (flt h2).2.2.2 (by decide) (by decide) ?_
    refine sI X0.here hx (j41_13 hby 11 rfl) ?_
    exact retI X0 hx hrt (j41_13 hby 12 rfl) hr
def own_Qsfs (Z : State) (i j n : Int32) (fm : Value) (w2 : Int32) (h0 : Heap) (n0 : Nat) (v : Option Value) (h : Heap) (L : List Loc) : Prop := v = some (.int i) ∧ Fr n0 L ∧ h = h0
theorem own_sfs (hw : own_HW a0 Z) {fm : Value} {w2 : Int32} (i j n : Int32) (Z0 : n0 ≤ h0.size) (SS : own_ST Z h0 w2 fm) (h1 : ¬ ((n ||| i) ||| j) < 0) (h2 : ¬ (n - i) < j) : own_M l Z h0 y_17 jdk_42_method_157_code 3 (some .int) (rm 1 0 0 15) #[(.int i), (.int j), (.int n)] (own_Qsfs Z i j n fm w2 h0 n0) := by
  refine own_go #[vI i, vI j, vI n] (plainFor_of_name own_pn0) (fun m => rfl) fun p e s m below meth c s₁ hx hby hz hZ hown hnm hrt X0 e0 => ?_
  have rf := SS.2.2.2.1
  obtain ⟨T10, X10, e10, st10⟩ := getS2 X0 hx hZ hown (host := "") (Or.inl (ow hw 229 rfl)) Via.refl e0 SS.2.2.1 (g := (mkF m 3 #[vI i, vI j, vI n] [(.int n), (.int j), (.int i)])) rfl (j42_157 hby 3 rfl)
  obtain ⟨_, T11, L11, X11, ⟨rfl, Nq11, e11⟩, st11⟩ := own_cs 0 X10 hx hZ hown (ow hw 295 rfl) (ow hw 296 rfl) (ow hw 230 rfl) (ow hw 297 rfl) (own_pfs hw i j n fm Z0 rf h1 h2) e10 (g := (mkF m 6 #[vI i, vI j, vI n] [fm, (.int n), (.int j), (.int i)])) (rest := []) (lenOf own_pd4 rfl) (j42_157 hby 4 rfl) hz
  have Na12 := Fr.app (Fr.nil n0) Nq11
  refine ⟨_, _, _, _, some (.int i), X11, (fun h => nomatch h), by decide, by decide, ?_, fun fs hr => ?_⟩
  · show own_Qsfs Z i j n fm w2 h0 n0 _ T11.heap _
    rw [e11]
    exact ⟨rfl, Na12, rfl⟩
  · refine sI X0.here hx (j42_157 hby 0 rfl) ?_
    refine sI X0.here hx (j42_157 hby 1 rfl) ?_
    refine sI X0.here hx (j42_157 hby 2 rfl) ?_
    refine st10 _ ?_
    refine st11 _ ?_
    exact retI X11 hx hrt (j42_157 hby 5 rfl) hr
def own_Qufs (Z : State) (i j : Int32) (u : Addr) (ku : ClassId) (N : Int32) (us : List Value) (n : Int32) (fm : Value) (w2 : Int32) (h0 : Heap) (n0 : Nat) (v : Option Value) (h : Heap) (L : List Loc) : Prop := v = none ∧ Fr n0 L ∧ h = h0
theorem own_ufs (hw : own_HW a0 Z) {u : Addr} {ku : ClassId} {N : Int32} {us : List Value} {fm : Value} {w2 : Int32} (i j n : Int32) (Z0 : n0 ≤ h0.size) (A_u : Arv Z h0 u ku .byte N us (.int 0)) (SS : own_ST Z h0 w2 fm) (hres : (N >>> ((1 : Int32) &&& 31)) = n) (h1 : ¬ ((n ||| i) ||| j) < 0) (h2 : ¬ (n - i) < j) : own_M l Z h0 y_18 jdk_52_method_94_code 3 none (rm 2 0 0 29) #[(.int i), (.int j), (.ref u)] (own_Qufs Z i j u ku N us n fm w2 h0 n0) := by
  refine own_go #[vI i, vI j, vR u] (plainFor_of_name own_pn4) (fun m => rfl) fun p e s m below meth c s₁ hx hby hz hZ hown hnm hrt X0 e0 => ?_
  obtain ⟨_, T10, L10, X10, ⟨rfl, Nq10, e10⟩, st10⟩ := own_cs 2 X0 hx hZ hown (ow hw 265 rfl) (ow hw 266 rfl) (ow hw 21 rfl) (ow hw 267 rfl) (own_ul hw n Z0 A_u hres) e0 (g := (mkF m 3 #[vI i, vI j, vR u] [(.ref u), (.int j), (.int i)])) (rest := [(.int j), (.int i)]) (lenOf own_pd2 rfl) (j52_94 hby 3 rfl) hz
  have Na11 := Fr.app (Fr.nil n0) Nq10
  obtain ⟨_, T12, L12, X12, ⟨rfl, Nq12, e12⟩, st12⟩ := own_cs 0 X10 hx hZ hown (ow hw 292 rfl) (ow hw 293 rfl) (ow hw 6 rfl) (ow hw 294 rfl) (own_sfs hw i j n Z0 SS h1 h2) e10 (g := (mkF m 6 #[vI i, vI j, vR u] [(.int n), (.int j), (.int i)])) (rest := []) (lenOf own_pd6 rfl) (j52_94 hby 4 rfl) hz
  have Na13 := Fr.app Na11 Nq12
  refine ⟨_, _, _, _, none, X12, (fun _ => rfl), by decide, by decide, ?_, fun fs hr => ?_⟩
  · show own_Qufs Z i j u ku N us n fm w2 h0 n0 _ T12.heap _
    rw [e12]
    exact ⟨rfl, Na13, rfl⟩
  · refine sI X0.here hx (j52_94 hby 0 rfl) ?_
    refine sI X0.here hx (j52_94 hby 1 rfl) ?_
    refine sA X0.here hx (j52_94 hby 2 rfl) ?_
    refine st10 _ ?_
    refine st12 _ ?_
    refine XS.pop X12.here hx rfl (j52_94 hby 5 rfl) rfl rfl ?_
    exact X12.returnOut hx hrt (j52_94 hby 6 rfl) hr
def own_Qgc (Z : State) (u : Addr) (i : Int32) (ku : ClassId) (N : Int32) (us : List Value) (j j1 lo hi r w2 : Int32) (fm : Value) (h0 : Heap) (n0 : Nat) (v : Option Value) (h : Heap) (L : List Loc) : Prop := v = some (.int r) ∧ Fr n0 L ∧ h = h0
theorem own_gc (hw : own_HW a0 Z) {u : Addr} {ku : ClassId} {N : Int32} {us : List Value} {w2 : Int32} {fm : Value} (i j j1 lo hi r : Int32) (Z0 : n0 ≤ h0.size) (A_u : Arv Z h0 u ku .byte N us (.int 0)) (SS : own_ST Z h0 w2 fm) (hj : (i <<< ((1 : Int32) &&& 31)) = j) (hj1 : (j + (1 : Int32)) = j1) (bj : ¬ j < 0 ∧ j < N) (bj1 : ¬ j1 < 0 ∧ j1 < N) (gj : us.getD j.toNatClampNeg (.int 0) = (.int lo)) (gj1 : us.getD j1.toNatClampNeg (.int 0) = (.int hi)) (hres : nar .char ((((lo &&& (255 : Int32)) <<< ((0 : Int32) &&& 31)) ||| ((hi &&& (255 : Int32)) <<< ((8 : Int32) &&& 31))).toUInt32.toUInt16.toUInt32.toInt32) = r) : own_M l Z h0 y_19 jdk_52_method_5_code 2 (some .char) (rm 0 0 0 0) #[(.ref u), (.int i)] (own_Qgc Z u i ku N us j j1 lo hi r w2 fm h0 n0) := by
  refine own_go #[vR u, vI i] (plainFor_of_name own_pn4) (fun m => rfl) fun p e s m below meth c s₁ hx hby hz hZ hown hnm hrt X0 e0 => ?_
  obtain ⟨T10, X10, e10, st10⟩ := getS2 X0 hx hZ hown (host := "") (Or.inl (ow hw 247 rfl)) Via.refl e0 SS.2.2.2.2.1 (g := (mkF m 0 #[vR u, vI i] [])) rfl (j52_5 hby 0 rfl)
  obtain ⟨cl11, Ar11, q11, S11, M11, H11, G11⟩ := id A_u
  have hin11 : ¬ (j < 0 ∨ cl11.slots.size ≤ (j).toNatClampNeg) := inb_of S11 bj
  obtain ⟨T12, X12, e12, st12⟩ := getS2 X10 hx hZ hown (host := "") (Or.inl (ow hw 248 rfl)) Via.refl e10 SS.2.2.2.2.2.1 (g := (mkF m 42 #[vR u, vI j1] [(.int (lo &&& (255 : Int32)))])) rfl (j52_5 hby 12 rfl)
  obtain ⟨cl13, Ar13, q13, S13, M13, H13, G13⟩ := id A_u
  have hin13 : ¬ (j1 < 0 ∨ cl13.slots.size ≤ (j1).toNatClampNeg) := inb_of S13 bj1
  obtain ⟨T14, X14, e14, st14⟩ := getS2 X12 hx hZ hown (host := "") (Or.inl (ow hw 249 rfl)) Via.refl e12 SS.2.2.2.2.2.2 (g := (mkF m 53 #[vR u, vI j1] [(.int (hi &&& (255 : Int32))), (.int ((lo &&& (255 : Int32)) <<< ((0 : Int32) &&& 31)))])) rfl (j52_5 hby 19 rfl)
  refine ⟨_, _, _, _, some (.int (nar .char ((((lo &&& (255 : Int32)) <<< ((0 : Int32) &&& 31)) ||| ((hi &&& (255 : Int32)) <<< ((8 : Int32) &&& 31))).toUInt32.toUInt16.toUInt32.toInt32))), X14, (fun h => nomatch h), by decide, by decide, ?_, fun fs hr => ?_⟩
  · show own_Qgc Z u i ku N us j j1 lo hi r w2 fm h0 n0 _ T14.heap _
    rw [e14]
    exact ⟨(congrArg (fun z => some (Value.int z)) hres), (Fr.nil n0), rfl⟩
  · refine st10 _ ?_
    refine XS.ifYes X10.here hx rfl (pc0 := 3) (pc' := 28) rfl (j52_5 hby 1 rfl) rfl ((if0 _ _).trans (feq (by decide)).2) (by decide) (by decide) ?_
    refine sI X10.here hx (j52_5 hby 2 rfl) ?_
    refine sC X10.here hx (j52_5 hby 3 rfl) ?_
    refine XS.ishl X10.here hx rfl (j52_5 hby 4 rfl) rfl ?_
    show Steps p.tables e below (T10.setTop (mkF m 31 #[vR u, vI i] [(.int (i <<< ((1 : Int32) &&& 31)))])) _
    rw [hj]
    refine XS.istoreN X10.here hx rfl (j52_5 hby 5 rfl) rfl (l' := #[vR u, vI j]) rfl ?_
    refine sA X10.here hx (j52_5 hby 6 rfl) ?_
    refine sI X10.here hx (j52_5 hby 7 rfl) ?_
    refine XS.iinc X10.here hx rfl (j52_5 hby 8 rfl) rfl (l' := #[vR u, vI (j + (1 : Int32))]) rfl ?_
    show Steps p.tables e below (T10.setTop (mkF m 37 #[vR u, vI (j + (1 : Int32))] [(.int j), (.ref u)])) _
    rw [hj1]
    refine X10.baloadBytes hx (j := j) (v := (.int lo)) (by rw [e10]; exact Ar11.1) (State.isArrayOf_alike hZ.alike Ar11.2.1) Ar11.2.2 hin11 (Has.at H11 hin11 gj) (g := (mkF m 37 #[vR u, vI j1] [(.int j), (.ref u)])) rfl rfl (j52_5 hby 9 rfl) _ ?_
    refine XS.sipush X10.here hx rfl (j52_5 hby 10 rfl) ?_
    refine XS.iand X10.here hx rfl (j52_5 hby 11 rfl) rfl ?_
    refine st12 _ ?_
    refine XS.ishl X12.here hx rfl (j52_5 hby 13 rfl) rfl ?_
    refine sA X12.here hx (j52_5 hby 14 rfl) ?_
    refine sI X12.here hx (j52_5 hby 15 rfl) ?_
    refine X12.baloadBytes hx (j := j1) (v := (.int hi)) (by rw [e12]; exact Ar13.1) (State.isArrayOf_alike hZ.alike Ar13.2.1) Ar13.2.2 hin13 (Has.at H13 hin13 gj1) (g := (mkF m 48 #[vR u, vI j1] [(.int j1), (.ref u), (.int ((lo &&& (255 : Int32)) <<< ((0 : Int32) &&& 31)))])) rfl rfl (j52_5 hby 16 rfl) _ ?_
    refine XS.sipush X12.here hx rfl (j52_5 hby 17 rfl) ?_
    refine XS.iand X12.here hx rfl (j52_5 hby 18 rfl) rfl ?_
    refine st14 _ ?_
    refine XS.ishl X14.here hx rfl (j52_5 hby 20 rfl) rfl ?_
    refine XS.ior X14.here hx rfl (j52_5 hby 21 rfl) rfl ?_
    refine XS.i2c X14.here hx rfl (j52_5 hby 22 rfl) rfl ?_
    exact retN X14 hx (t := .char) hrt (by simp) (j52_5 hby 23 rfl) hr
def own_lo (c : Int32) : Int32 := nar .byte ((c >>> ((0 : Int32) &&& 31)).toInt8.toInt32)
def own_hi (c : Int32) : Int32 := nar .byte ((c >>> ((8 : Int32) &&& 31)).toInt8.toInt32)
abbrev z0 : Value := .int 0
abbrev oL (c : Int32) : Value := .int (own_lo c)
abbrev oH (c : Int32) : Value := .int (own_hi c)
abbrev oLoL (c : Int32) : Value := .int (own_lo (c &&& 255))
abbrev oHoH (c : Int32) : Value := .int (own_hi (c &&& 255))
def own_Qpc (Z : State) (u : Addr) (i ch : Int32) (ku : ClassId) (N : Int32) (us usz : List Value) (j j1 : Int32) (mm mm1 : Nat) (w2 : Int32) (fm : Value) (h0 : Heap) (n0 : Nat) (v : Option Value) (h : Heap) (L : List Loc) : Prop := v = none ∧ Fr n0 L ∧ Keep h0 h [u] ∧ Arv Z h u ku .byte N usz (.int 0)
theorem own_pc (hw : own_HW a0 Z) {u : Addr} {ku : ClassId} {N : Int32} {us : List Value} {w2 : Int32} {fm : Value} (i ch : Int32) (usz : List Value) (j j1 : Int32) (mm mm1 : Nat) (Z0 : n0 ≤ h0.size) (A_u : Arv Z h0 u ku .byte N us (.int 0)) (g_u : n0 ≤ u) (SS : own_ST Z h0 w2 fm) (hj : (i <<< ((1 : Int32) &&& 31)) = j) (hj1 : (j + (1 : Int32)) = j1) (bj : ¬ j < 0 ∧ j < N) (bj1 : ¬ j1 < 0 ∧ j1 < N) (hm : j.toNatClampNeg = mm) (hm1 : j1.toNatClampNeg = mm1) (lm : mm < us.length) (lm1 : mm1 < us.length) (hv : (us.set mm (oL ch)).set mm1 (oH ch) = usz) : own_M l Z h0 y_20 jdk_52_method_4_code 3 none (rm 0 0 0 0) #[(.ref u), (.int i), (.int ch)] (own_Qpc Z u i ch ku N us usz j j1 mm mm1 w2 fm h0 n0) := by
  refine own_go #[vR u, vI i, vI ch] (plainFor_of_name own_pn4) (fun m => rfl) fun p e s m below meth c s₁ hx hby hz hZ hown hnm hrt X0 e0 => ?_
  obtain ⟨T10, X10, e10, st10⟩ := getS2 X0 hx hZ hown (host := "") (Or.inl (ow hw 247 rfl)) Via.refl e0 SS.2.2.2.2.1 (g := (mkF m 0 #[vR u, vI i, vI ch] [])) rfl (j52_4 hby 0 rfl)
  obtain ⟨T11, X11, e11, st11⟩ := getS2 X10 hx hZ hown (host := "") (Or.inl (ow hw 248 rfl)) Via.refl e10 SS.2.2.2.2.2.1 (g := (mkF m 38 #[vR u, vI j1, vI ch] [(.int ch), (.int j), (.ref u)])) rfl (j52_4 hby 10 rfl)
  obtain ⟨cl12, Ar12, q12, S12, M12, H12, G12⟩ := id A_u
  obtain ⟨T13, h13, X13, e13, W13, st13⟩ := stB X11 hx hZ e11 Ar12 (j := j) (inb_of S12 bj) (g := (mkF m 43 #[vR u, vI j1, vI ch] [(.int ((ch >>> ((0 : Int32) &&& 31)).toInt8.toInt32)), (.int j), (.ref u)])) rfl rfl (j52_4 hby 13 rfl)
  have V13 : Arv Z h13 u ku .byte N (us.set mm (.int (nar .byte ((ch >>> ((0 : Int32) &&& 31)).toInt8.toInt32)))) (.int 0) := Arv.set Ar12 q12 S12 M12 H12 G12 (fits_nar_byte _) W13 mm hm lm
  have N13 := Fr.snoc X13 (Fr.nil n0) g_u
  have Cf14 := SS.2.2.2.2.2.2.wr W13
  obtain ⟨T15, X15, e15, st15⟩ := getS2 X13 hx hZ hown (host := "") (Or.inl (ow hw 249 rfl)) Via.refl e13 Cf14 (g := (mkF m 47 #[vR u, vI j1, vI ch] [(.int ch), (.int j1), (.ref u)])) rfl (j52_4 hby 17 rfl)
  obtain ⟨cl16, Ar16, q16, S16, M16, H16, G16⟩ := id V13
  obtain ⟨T17, h17, X17, e17, W17, st17⟩ := stB X15 hx hZ e15 Ar16 (j := j1) (inb_of S16 bj1) (g := (mkF m 52 #[vR u, vI j1, vI ch] [(.int ((ch >>> ((8 : Int32) &&& 31)).toInt8.toInt32)), (.int j1), (.ref u)])) rfl rfl (j52_4 hby 20 rfl)
  have V17 : Arv Z h17 u ku .byte N ((us.set mm (.int (nar .byte ((ch >>> ((0 : Int32) &&& 31)).toInt8.toInt32)))).set mm1 (.int (nar .byte ((ch >>> ((8 : Int32) &&& 31)).toInt8.toInt32)))) (.int 0) := Arv.set Ar16 q16 S16 M16 H16 G16 (fits_nar_byte _) W17 mm1 hm1 (by rw [List.length_set]; exact lm1)
  have N17 := Fr.snoc X17 N13 g_u
  have Vz : Arv Z h17 u ku .byte N usz (.int 0) := by rw [← hv]; exact V17
  refine ⟨_, _, _, _, none, X17, (fun _ => rfl), by decide, by decide, ?_, fun fs hr => ?_⟩
  · show own_Qpc Z u i ch ku N us usz j j1 mm mm1 w2 fm h0 n0 _ T17.heap _
    rw [e17]
    exact ⟨rfl, N17, (((Keep.refl h0 [u]).wr W13 (Or.inl (List.mem_of_getElem? (i := 0) rfl))).wr W17 (Or.inl (List.mem_of_getElem? (i := 0) rfl))), Vz⟩
  · refine st10 _ ?_
    refine XS.ifYes X10.here hx rfl (pc0 := 3) (pc' := 28) rfl (j52_4 hby 1 rfl) rfl ((if0 _ _).trans (feq (by decide)).2) (by decide) (by decide) ?_
    refine sI X10.here hx (j52_4 hby 2 rfl) ?_
    refine sC X10.here hx (j52_4 hby 3 rfl) ?_
    refine XS.ishl X10.here hx rfl (j52_4 hby 4 rfl) rfl ?_
    show Steps p.tables e below (T10.setTop (mkF m 31 #[vR u, vI i, vI ch] [(.int (i <<< ((1 : Int32) &&& 31)))])) _
    rw [hj]
    refine XS.istoreN X10.here hx rfl (j52_4 hby 5 rfl) rfl (l' := #[vR u, vI j, vI ch]) rfl ?_
    refine sA X10.here hx (j52_4 hby 6 rfl) ?_
    refine sI X10.here hx (j52_4 hby 7 rfl) ?_
    refine XS.iinc X10.here hx rfl (j52_4 hby 8 rfl) rfl (l' := #[vR u, vI (j + (1 : Int32)), vI ch]) rfl ?_
    show Steps p.tables e below (T10.setTop (mkF m 37 #[vR u, vI (j + (1 : Int32)), vI ch] [(.int j), (.ref u)])) _
    rw [hj1]
    refine sI X10.here hx (j52_4 hby 9 rfl) ?_
    refine st11 _ ?_
    refine XS.ishr X11.here hx rfl (j52_4 hby 11 rfl) rfl ?_
    refine XS.i2b X11.here hx rfl (j52_4 hby 12 rfl) rfl ?_
    refine st13 _ ?_
    refine sA X13.here hx (j52_4 hby 14 rfl) ?_
    refine sI X13.here hx (j52_4 hby 15 rfl) ?_
    refine sI X13.here hx (j52_4 hby 16 rfl) ?_
    refine st15 _ ?_
    refine XS.ishr X15.here hx rfl (j52_4 hby 18 rfl) rfl ?_
    refine XS.i2b X15.here hx rfl (j52_4 hby 19 rfl) rfl ?_
    refine st17 _ ?_
    exact X17.returnOut hx hrt (j52_4 hby 21 rfl) hr
def own_Qioc1 (Z : State) (u : Addr) (ku : ClassId) (v0 : Int32) (h0 : Heap) (n0 : Nat) (v : Option Value) (h : Heap) (L : List Loc) : Prop := v = some (.int (-1)) ∧ Fr n0 L ∧ h = h0
theorem own_ioc1 (hw : own_HW a0 Z) {u : Addr} {ku : ClassId} {v0 : Int32}  (Z0 : n0 ≤ h0.size) (A_u : Arv Z h0 u ku .byte (1 : Int32) [(.int v0)] (.int 0)) (q0 : ¬ v0 = 58) : own_M l Z h0 y_21 jdk_43_method_23_code 6 (some .int) (rm 0 0 0 0) #[(.ref u), (.int 58), (.int 0), (.int 1)] (own_Qioc1 Z u ku v0 h0 n0) := by
  refine own_go #[vR u, vI 58, vI 0, vI 1, vU, vU] (plainFor_of_name own_pn2) (fun m => rfl) fun p e s m below meth c s₁ hx hby hz hZ hown hnm hrt X0 e0 => ?_
  obtain ⟨cl10, Ar10, q10, S10, M10, H10, G10⟩ := id A_u
  have hin10 : ¬ ((0 : Int32) < 0 ∨ cl10.slots.size ≤ ((0 : Int32)).toNatClampNeg) := inb_of S10 ⟨by decide, by decide⟩
  refine ⟨_, _, _, _, some (.int (-1)), X0, (fun h => nomatch h), by decide, by decide, ?_, fun fs hr => ?_⟩
  · show own_Qioc1 Z u ku v0 h0 n0 _ s₁.heap _
    rw [e0]
    exact ⟨rfl, (Fr.nil n0), rfl⟩
  · refine sI X0.here hx (j43_23 hby 0 rfl) ?_
    refine XS.i2b X0.here hx rfl (j43_23 hby 1 rfl) rfl ?_
    show Steps p.tables e below (s₁.setTop (mkF m 2 #[vR u, vI 58, vI 0, vI 1, vU, vU] [(.int ((58 : Int32).toInt8.toInt32))])) _
    rw [(by decide : ((58 : Int32).toInt8.toInt32) = (58 : Int32))]
    refine XS.istore X0.here hx rfl (j43_23 hby 2 rfl) rfl (l' := #[vR u, vI 58, vI 0, vI 1, vI 58, vU]) rfl ?_
    refine sI X0.here hx (j43_23 hby 3 rfl) ?_
    refine XS.istore X0.here hx rfl (j43_23 hby 4 rfl) rfl (l' := #[vR u, vI 58, vI 0, vI 1, vI 58, vI 0]) rfl ?_
    refine sJ X0.here hx (j43_23 hby 5 rfl) ?_
    refine sI X0.here hx (j43_23 hby 6 rfl) ?_
    refine XS.icmpNo X0.here hx rfl (j43_23 hby 7 rfl) rfl (tlt (by decide)).2.1 ?_
    refine sA X0.here hx (j43_23 hby 8 rfl) ?_
    refine sJ X0.here hx (j43_23 hby 9 rfl) ?_
    refine X0.baloadBytes hx (j := (0 : Int32)) (v := (.int v0)) (by rw [e0]; exact Ar10.1) (State.isArrayOf_alike hZ.alike Ar10.2.1) Ar10.2.2 hin10 (Has.at H10 hin10 rfl) (g := (mkF m 16 #[vR u, vI 58, vI 0, vI 1, vI 58, vI 0] [(.int 0), (.ref u)])) rfl rfl (j43_23 hby 10 rfl) _ ?_
    refine sJ X0.here hx (j43_23 hby 11 rfl) ?_
    refine XS.icmpYes X0.here hx rfl (pc0 := 19) (pc' := 25) rfl (j43_23 hby 12 rfl) rfl (feq q0).2 (by decide) (by decide) ?_
    refine XS.iinc X0.here hx rfl (j43_23 hby 13 rfl) rfl (l' := #[vR u, vI 58, vI 0, vI 1, vI 58, vI 1]) rfl ?_
    refine XS.goto X0.here hx rfl (pc0 := 28) (pc' := 7) rfl (j43_23 hby 14 rfl) (by decide) (by decide) ?_
    refine sJ X0.here hx (j43_23 hby 5 rfl) ?_
    refine sI X0.here hx (j43_23 hby 6 rfl) ?_
    refine XS.icmpYes X0.here hx rfl (pc0 := 10) (pc' := 31) rfl (j43_23 hby 7 rfl) rfl (flt (by decide)).2.1 (by decide) (by decide) ?_
    refine sC X0.here hx (j43_23 hby 15 rfl) ?_
    exact retI X0 hx hrt (j43_23 hby 16 rfl) hr
def own_Qiol1 (Z : State) (u : Addr) (ku : ClassId) (v0 : Int32) (h0 : Heap) (n0 : Nat) (v : Option Value) (h : Heap) (L : List Loc) : Prop := v = some (.int (-1)) ∧ Fr n0 L ∧ h = h0
theorem own_iol1 (hw : own_HW a0 Z) {u : Addr} {ku : ClassId} {v0 : Int32}  (Z0 : n0 ≤ h0.size) (A_u : Arv Z h0 u ku .byte (1 : Int32) [(.int v0)] (.int 0)) (q0 : ¬ v0 = 58) : own_M l Z h0 y_22 jdk_43_method_22_code 4 (some .int) (rm 1 0 0 17) #[(.ref u), (.int 58), (.int 0), (.int 1)] (own_Qiol1 Z u ku v0 h0 n0) := by
  refine own_go #[vR u, vI 58, vI 0, vI 1] (plainFor_of_name own_pn2) (fun m => rfl) fun p e s m below meth c s₁ hx hby hz hZ hown hnm hrt X0 e0 => ?_
  obtain ⟨_, T10, L10, X10, ⟨rfl, Nq10, e10⟩, st10⟩ := own_cs 0 X0 hx hZ hown (ow hw 83 rfl) (ow hw 84 rfl) (ow hw 81 rfl) (ow hw 85 rfl) (own_ceI hw  Z0 ) e0 (g := (mkF m 1 #[vR u, vI 58, vI 0, vI 1] [(.int 58)])) (rest := []) (lenOf own_pd7 rfl) (j43_22 hby 1 rfl) hz
  have Na11 := Fr.app (Fr.nil n0) Nq10
  obtain ⟨_, T12, L12, X12, ⟨rfl, Nq12, e12⟩, st12⟩ := own_cs 0 X10 hx hZ hown (ow hw 86 rfl) (ow hw 87 rfl) (ow hw 88 rfl) (ow hw 89 rfl) (own_mx hw (0 : Int32) (0 : Int32) Z0 (by decide)) e10 (g := (mkF m 11 #[vR u, vI 58, vI 0, vI 1] [(.int 0), (.int 0)])) (rest := []) (lenOf own_pd8 rfl) (j43_22 hby 5 rfl) hz
  have Na13 := Fr.app Na11 Nq12
  obtain ⟨cl14, Ar14, q14, S14, M14, H14, G14⟩ := id A_u
  obtain ⟨_, T15, L15, X15, ⟨rfl, Nq15, e15⟩, st15⟩ := own_cs 0 X12 hx hZ hown (ow hw 90 rfl) (ow hw 91 rfl) (ow hw 88 rfl) (ow hw 92 rfl) (own_mnA hw (1 : Int32) (1 : Int32) Z0 (by decide)) e12 (g := (mkF m 18 #[vR u, vI 58, vI 0, vI 1] [(.int 1), (.int 1)])) (rest := []) (lenOf own_pd8 rfl) (j43_22 hby 10 rfl) hz
  have Na16 := Fr.app Na13 Nq15
  obtain ⟨_, T17, L17, X17, ⟨rfl, Nq17, e17⟩, st17⟩ := own_cs 0 X15 hx hZ hown (ow hw 93 rfl) (ow hw 94 rfl) (ow hw 81 rfl) (ow hw 95 rfl) (own_ioc1 hw  Z0 A_u q0) e15 (g := (mkF m 33 #[vR u, vI 58, vI 0, vI 1] [(.int 1), (.int 0), (.int 58), (.ref u)])) (rest := []) (lenOf own_pd9 rfl) (j43_22 hby 19 rfl) hz
  have Na18 := Fr.app Na16 Nq17
  refine ⟨_, _, _, _, some (.int (-1)), X17, (fun h => nomatch h), by decide, by decide, ?_, fun fs hr => ?_⟩
  · show own_Qiol1 Z u ku v0 h0 n0 _ T17.heap _
    rw [e17]
    exact ⟨rfl, Na18, rfl⟩
  · refine sI X0.here hx (j43_22 hby 0 rfl) ?_
    refine st10 _ ?_
    refine XS.ifYes X10.here hx rfl (pc0 := 4) (pc' := 9) rfl (j43_22 hby 2 rfl) rfl ((if0 _ _).trans (feq (by decide)).2) (by decide) (by decide) ?_
    refine sI X10.here hx (j43_22 hby 3 rfl) ?_
    refine sC X10.here hx (j43_22 hby 4 rfl) ?_
    refine st12 _ ?_
    refine XS.istoreN X12.here hx rfl (j43_22 hby 6 rfl) rfl (l' := #[vR u, vI 58, vI 0, vI 1]) rfl ?_
    refine sI X12.here hx (j43_22 hby 7 rfl) ?_
    refine sA X12.here hx (j43_22 hby 8 rfl) ?_
    refine X12.arraylength hx (by rw [e12]; exact Ar14.1) (State.isArrayOf_alike hZ.alike Ar14.2.1) (g := (mkF m 17 #[vR u, vI 58, vI 0, vI 1] [(.ref u), (.int 1)])) rfl rfl (j43_22 hby 9 rfl) _ ?_
    rw [len_of S14 M14]
    refine st15 _ ?_
    refine XS.istoreN X15.here hx rfl (j43_22 hby 11 rfl) rfl (l' := #[vR u, vI 58, vI 0, vI 1]) rfl ?_
    refine sI X15.here hx (j43_22 hby 12 rfl) ?_
    refine sI X15.here hx (j43_22 hby 13 rfl) ?_
    refine XS.icmpYes X15.here hx rfl (pc0 := 24) (pc' := 29) rfl (j43_22 hby 14 rfl) rfl (tlt (by decide)).1 (by decide) (by decide) ?_
    refine sA X15.here hx (j43_22 hby 15 rfl) ?_
    refine sI X15.here hx (j43_22 hby 16 rfl) ?_
    refine sI X15.here hx (j43_22 hby 17 rfl) ?_
    refine sI X15.here hx (j43_22 hby 18 rfl) ?_
    refine st17 _ ?_
    exact retI X17 hx hrt (j43_22 hby 20 rfl) hr
def own_Qioc2 (Z : State) (u : Addr) (ku : ClassId) (v0 v1 : Int32) (h0 : Heap) (n0 : Nat) (v : Option Value) (h : Heap) (L : List Loc) : Prop := v = some (.int (-1)) ∧ Fr n0 L ∧ h = h0
theorem own_ioc2 (hw : own_HW a0 Z) {u : Addr} {ku : ClassId} {v0 v1 : Int32}  (Z0 : n0 ≤ h0.size) (A_u : Arv Z h0 u ku .byte (2 : Int32) [(.int v0), (.int v1)] (.int 0)) (q0 : ¬ v0 = 58) (q1 : ¬ v1 = 58) : own_M l Z h0 y_21 jdk_43_method_23_code 6 (some .int) (rm 0 0 0 0) #[(.ref u), (.int 58), (.int 0), (.int 2)] (own_Qioc2 Z u ku v0 v1 h0 n0) := by
  refine own_go #[vR u, vI 58, vI 0, vI 2, vU, vU] (plainFor_of_name own_pn2) (fun m => rfl) fun p e s m below meth c s₁ hx hby hz hZ hown hnm hrt X0 e0 => ?_
  obtain ⟨cl10, Ar10, q10, S10, M10, H10, G10⟩ := id A_u
  have hin10 : ¬ ((0 : Int32) < 0 ∨ cl10.slots.size ≤ ((0 : Int32)).toNatClampNeg) := inb_of S10 ⟨by decide, by decide⟩
  obtain ⟨cl11, Ar11, q11, S11, M11, H11, G11⟩ := id A_u
  have hin11 : ¬ ((1 : Int32) < 0 ∨ cl11.slots.size ≤ ((1 : Int32)).toNatClampNeg) := inb_of S11 ⟨by decide, by decide⟩
  refine ⟨_, _, _, _, some (.int (-1)), X0, (fun h => nomatch h), by decide, by decide, ?_, fun fs hr => ?_⟩
  · show own_Qioc2 Z u ku v0 v1 h0 n0 _ s₁.heap _
    rw [e0]
    exact ⟨rfl, (Fr.nil n0), rfl⟩
  · refine sI X0.here hx (j43_23 hby 0 rfl) ?_
    refine XS.i2b X0.here hx rfl (j43_23 hby 1 rfl) rfl ?_
    show Steps p.tables e below (s₁.setTop (mkF m 2 #[vR u, vI 58, vI 0, vI 2, vU, vU] [(.int ((58 : Int32).toInt8.toInt32))])) _
    rw [(by decide : ((58 : Int32).toInt8.toInt32) = (58 : Int32))]
    refine XS.istore X0.here hx rfl (j43_23 hby 2 rfl) rfl (l' := #[vR u, vI 58, vI 0, vI 2, vI 58, vU]) rfl ?_
    refine sI X0.here hx (j43_23 hby 3 rfl) ?_
    refine XS.istore X0.here hx rfl (j43_23 hby 4 rfl) rfl (l' := #[vR u, vI 58, vI 0, vI 2, vI 58, vI 0]) rfl ?_
    refine sJ X0.here hx (j43_23 hby 5 rfl) ?_
    refine sI X0.here hx (j43_23 hby 6 rfl) ?_
    refine XS.icmpNo X0.here hx rfl (j43_23 hby 7 rfl) rfl (tlt (by decide)).2.1 ?_
    refine sA X0.here hx (j43_23 hby 8 rfl) ?_
    refine sJ X0.here hx (j43_23 hby 9 rfl) ?_
    refine X0.baloadBytes hx (j := (0 : Int32)) (v := (.int v0)) (by rw [e0]; exact Ar10.1) (State.isArrayOf_alike hZ.alike Ar10.2.1) Ar10.2.2 hin10 (Has.at H10 hin10 rfl) (g := (mkF m 16 #[vR u, vI 58, vI 0, vI 2, vI 58, vI 0] [(.int 0), (.ref u)])) rfl rfl (j43_23 hby 10 rfl) _ ?_
    refine sJ X0.here hx (j43_23 hby 11 rfl) ?_
    refine XS.icmpYes X0.here hx rfl (pc0 := 19) (pc' := 25) rfl (j43_23 hby 12 rfl) rfl (feq q0).2 (by decide) (by decide) ?_
    refine XS.iinc X0.here hx rfl (j43_23 hby 13 rfl) rfl (l' := #[vR u, vI 58, vI 0, vI 2, vI 58, vI 1]) rfl ?_
    refine XS.goto X0.here hx rfl (pc0 := 28) (pc' := 7) rfl (j43_23 hby 14 rfl) (by decide) (by decide) ?_
    refine sJ X0.here hx (j43_23 hby 5 rfl) ?_
    refine sI X0.here hx (j43_23 hby 6 rfl) ?_
    refine XS.icmpNo X0.here hx rfl (j43_23 hby 7 rfl) rfl (tlt (by decide)).2.1 ?_
    refine sA X0.here hx (j43_23 hby 8 rfl) ?_
    refine sJ X0.here hx (j43_23 hby 9 rfl) ?_
    refine X0.baloadBytes hx (j := (1 : Int32)) (v := (.int v1)) (by rw [e0]; exact Ar11.1) (State.isArrayOf_alike hZ.alike Ar11.2.1) Ar11.2.2 hin11 (Has.at H11 hin11 rfl) (g := (mkF m 16 #[vR u, vI 58, vI 0, vI 2, vI 58, vI 1] [(.int 1), (.ref u)])) rfl rfl (j43_23 hby 10 rfl) _ ?_
    refine sJ X0.here hx (j43_23 hby 11 rfl) ?_
    refine XS.icmpYes X0.here hx rfl (pc0 := 19) (pc' := 25) rfl (j43_23 hby 12 rfl) rfl (feq q1).2 (by decide) (by decide) ?_
    refine XS.iinc X0.here hx rfl (j43_23 hby 13 rfl) rfl (l' := #[vR u, vI 58, vI 0, vI 2, vI 58, vI 2]) rfl ?_
    refine XS.goto X0.here hx rfl (pc0 := 28) (pc' := 7) rfl (j43_23 hby 14 rfl) (by decide) (by decide) ?_
    refine sJ X0.here hx (j43_23 hby 5 rfl) ?_
    refine sI X0.here hx (j43_23 hby 6 rfl) ?_
    refine XS.icmpYes X0.here hx rfl (pc0 := 10) (pc' := 31) rfl (j43_23 hby 7 rfl) rfl (flt (by decide)).2.1 (by decide) (by decide) ?_
    refine sC X0.here hx (j43_23 hby 15 rfl) ?_
    exact retI X0 hx hrt (j43_23 hby 16 rfl) hr
def own_Qiol2 (Z : State) (u : Addr) (ku : ClassId) (v0 v1 : Int32) (h0 : Heap) (n0 : Nat) (v : Option Value) (h : Heap) (L : List Loc) : Prop := v = some (.int (-1)) ∧ Fr n0 L ∧ h = h0
theorem own_iol2 (hw : own_HW a0 Z) {u : Addr} {ku : ClassId} {v0 v1 : Int32}  (Z0 : n0 ≤ h0.size) (A_u : Arv Z h0 u ku .byte (2 : Int32) [(.int v0), (.int v1)] (.int 0)) (q0 : ¬ v0 = 58) (q1 : ¬ v1 = 58) : own_M l Z h0 y_22 jdk_43_method_22_code 4 (some .int) (rm 1 0 0 17) #[(.ref u), (.int 58), (.int 0), (.int 2)] (own_Qiol2 Z u ku v0 v1 h0 n0) := by
  refine own_go #[vR u, vI 58, vI 0, vI 2] (plainFor_of_name own_pn2) (fun m => rfl) fun p e s m below meth c s₁ hx hby hz hZ hown hnm hrt X0 e0 => ?_
  obtain ⟨_, T10, L10, X10, ⟨rfl, Nq10, e10⟩, st10⟩ := own_cs 0 X0 hx hZ hown (ow hw 83 rfl) (ow hw 84 rfl) (ow hw 81 rfl) (ow hw 85 rfl) (own_ceI hw  Z0 ) e0 (g := (mkF m 1 #[vR u, vI 58, vI 0, vI 2] [(.int 58)])) (rest := []) (lenOf own_pd7 rfl) (j43_22 hby 1 rfl) hz
  have Na11 := Fr.app (Fr.nil n0) Nq10
  obtain ⟨_, T12, L12, X12, ⟨rfl, Nq12, e12⟩, st12⟩ := own_cs 0 X10 hx hZ hown (ow hw 86 rfl) (ow hw 87 rfl) (ow hw 88 rfl) (ow hw 89 rfl) (own_mx hw (0 : Int32) (0 : Int32) Z0 (by decide)) e10 (g := (mkF m 11 #[vR u, vI 58, vI 0, vI 2] [(.int 0), (.int 0)])) (rest := []) (lenOf own_pd8 rfl) (j43_22 hby 5 rfl) hz
  have Na13 := Fr.app Na11 Nq12
  obtain ⟨cl14, Ar14, q14, S14, M14, H14, G14⟩ := id A_u
  obtain ⟨_, T15, L15, X15, ⟨rfl, Nq15, e15⟩, st15⟩ := own_cs 0 X12 hx hZ hown (ow hw 90 rfl) (ow hw 91 rfl) (ow hw 88 rfl) (ow hw 92 rfl) (own_mnA hw (2 : Int32) (2 : Int32) Z0 (by decide)) e12 (g := (mkF m 18 #[vR u, vI 58, vI 0, vI 2] [(.int 2), (.int 2)])) (rest := []) (lenOf own_pd8 rfl) (j43_22 hby 10 rfl) hz
  have Na16 := Fr.app Na13 Nq15
  obtain ⟨_, T17, L17, X17, ⟨rfl, Nq17, e17⟩, st17⟩ := own_cs 0 X15 hx hZ hown (ow hw 93 rfl) (ow hw 94 rfl) (ow hw 81 rfl) (ow hw 95 rfl) (own_ioc2 hw  Z0 A_u q0 q1) e15 (g := (mkF m 33 #[vR u, vI 58, vI 0, vI 2] [(.int 2), (.int 0), (.int 58), (.ref u)])) (rest := []) (lenOf own_pd9 rfl) (j43_22 hby 19 rfl) hz
  have Na18 := Fr.app Na16 Nq17
  refine ⟨_, _, _, _, some (.int (-1)), X17, (fun h => nomatch h), by decide, by decide, ?_, fun fs hr => ?_⟩
  · show own_Qiol2 Z u ku v0 v1 h0 n0 _ T17.heap _
    rw [e17]
    exact ⟨rfl, Na18, rfl⟩
  · refine sI X0.here hx (j43_22 hby 0 rfl) ?_
    refine st10 _ ?_
    refine XS.ifYes X10.here hx rfl (pc0 := 4) (pc' := 9) rfl (j43_22 hby 2 rfl) rfl ((if0 _ _).trans (feq (by decide)).2) (by decide) (by decide) ?_
    refine sI X10.here hx (j43_22 hby 3 rfl) ?_
    refine sC X10.here hx (j43_22 hby 4 rfl) ?_
    refine st12 _ ?_
    refine XS.istoreN X12.here hx rfl (j43_22 hby 6 rfl) rfl (l' := #[vR u, vI 58, vI 0, vI 2]) rfl ?_
    refine sI X12.here hx (j43_22 hby 7 rfl) ?_
    refine sA X12.here hx (j43_22 hby 8 rfl) ?_
    refine X12.arraylength hx (by rw [e12]; exact Ar14.1) (State.isArrayOf_alike hZ.alike Ar14.2.1) (g := (mkF m 17 #[vR u, vI 58, vI 0, vI 2] [(.ref u), (.int 2)])) rfl rfl (j43_22 hby 9 rfl) _ ?_
    rw [len_of S14 M14]
    refine st15 _ ?_
    refine XS.istoreN X15.here hx rfl (j43_22 hby 11 rfl) rfl (l' := #[vR u, vI 58, vI 0, vI 2]) rfl ?_
    refine sI X15.here hx (j43_22 hby 12 rfl) ?_
    refine sI X15.here hx (j43_22 hby 13 rfl) ?_
    refine XS.icmpYes X15.here hx rfl (pc0 := 24) (pc' := 29) rfl (j43_22 hby 14 rfl) rfl (tlt (by decide)).1 (by decide) (by decide) ?_
    refine sA X15.here hx (j43_22 hby 15 rfl) ?_
    refine sI X15.here hx (j43_22 hby 16 rfl) ?_
    refine sI X15.here hx (j43_22 hby 17 rfl) ?_
    refine sI X15.here hx (j43_22 hby 18 rfl) ?_
    refine st17 _ ?_
    exact retI X17 hx hrt (j43_22 hby 20 rfl) hr
def own_Qiua1 (Z : State) (u : Addr) (ku : ClassId) (l0 m0 v0 w2 : Int32) (fm : Value) (h0 : Heap) (n0 : Nat) (v : Option Value) (h : Heap) (L : List Loc) : Prop := v = some (.int (-1)) ∧ Fr n0 L ∧ h = h0
theorem own_iua1 (hw : own_HW a0 Z) {u : Addr} {ku : ClassId} {l0 m0 w2 : Int32} {fm : Value} (v0 : Int32) (Z0 : n0 ≤ h0.size) (A_u : Arv Z h0 u ku .byte (2 : Int32) [(.int l0), (.int m0)] (.int 0)) (SS : own_ST Z h0 w2 fm) (z0 : nar .char ((((l0 &&& (255 : Int32)) <<< ((0 : Int32) &&& 31)) ||| ((m0 &&& (255 : Int32)) <<< ((8 : Int32) &&& 31))).toUInt32.toUInt16.toUInt32.toInt32) = v0) (q0 : ¬ v0 = 58) : own_M l Z h0 y_23 jdk_52_method_48_code 5 (some .int) (rm 1 0 0 13) #[(.ref u), (.int 58), (.int 0), (.int 1)] (own_Qiua1 Z u ku l0 m0 v0 w2 fm h0 n0) := by
  refine own_go #[vR u, vI 58, vI 0, vI 1, vU] (plainFor_of_name own_pn4) (fun m => rfl) fun p e s m below meth c s₁ hx hby hz hZ hown hnm hrt X0 e0 => ?_
  obtain ⟨_, T10, L10, X10, ⟨rfl, Nq10, e10⟩, st10⟩ := own_cs 0 X0 hx hZ hown (ow hw 250 rfl) (ow hw 251 rfl) (ow hw 21 rfl) (ow hw 252 rfl) (own_gc hw (0 : Int32) (0 : Int32) (1 : Int32) l0 m0 v0 Z0 A_u SS (by decide) (by decide) (by decide) (by decide) rfl rfl z0) e0 (g := (mkF m 12 #[vR u, vI 58, vI 0, vI 1, vI 0] [(.int 0), (.ref u)])) (rest := []) (lenOf own_pd10 rfl) (j52_48 hby 7 rfl) hz
  have Na11 := Fr.app (Fr.nil n0) Nq10
  refine ⟨_, _, _, _, some (.int (-1)), X10, (fun h => nomatch h), by decide, by decide, ?_, fun fs hr => ?_⟩
  · show own_Qiua1 Z u ku l0 m0 v0 w2 fm h0 n0 _ T10.heap _
    rw [e10]
    exact ⟨rfl, Na11, rfl⟩
  · refine sI X0.here hx (j52_48 hby 0 rfl) ?_
    refine XS.istore X0.here hx rfl (j52_48 hby 1 rfl) rfl (l' := #[vR u, vI 58, vI 0, vI 1, vI 0]) rfl ?_
    refine sJ X0.here hx (j52_48 hby 2 rfl) ?_
    refine sI X0.here hx (j52_48 hby 3 rfl) ?_
    refine XS.icmpNo X0.here hx rfl (j52_48 hby 4 rfl) rfl (tlt (by decide)).2.1 ?_
    refine sA X0.here hx (j52_48 hby 5 rfl) ?_
    refine sJ X0.here hx (j52_48 hby 6 rfl) ?_
    refine st10 _ ?_
    refine sI X10.here hx (j52_48 hby 8 rfl) ?_
    refine XS.icmpYes X10.here hx rfl (pc0 := 16) (pc' := 22) rfl (j52_48 hby 9 rfl) rfl (feq q0).2 (by decide) (by decide) ?_
    refine XS.iinc X10.here hx rfl (j52_48 hby 10 rfl) rfl (l' := #[vR u, vI 58, vI 0, vI 1, vI 1]) rfl ?_
    refine XS.goto X10.here hx rfl (pc0 := 25) (pc' := 3) rfl (j52_48 hby 11 rfl) (by decide) (by decide) ?_
    refine sJ X10.here hx (j52_48 hby 2 rfl) ?_
    refine sI X10.here hx (j52_48 hby 3 rfl) ?_
    refine XS.icmpYes X10.here hx rfl (pc0 := 6) (pc' := 28) rfl (j52_48 hby 4 rfl) rfl (flt (by decide)).2.1 (by decide) (by decide) ?_
    refine sC X10.here hx (j52_48 hby 12 rfl) ?_
    exact retI X10 hx hrt (j52_48 hby 13 rfl) hr
def own_Qiub1 (Z : State) (u : Addr) (ku : ClassId) (l0 m0 v0 : Int32) (fm : Value) (w2 : Int32) (h0 : Heap) (n0 : Nat) (v : Option Value) (h : Heap) (L : List Loc) : Prop := v = some (.int (-1)) ∧ Fr n0 L ∧ h = h0
theorem own_iub1 (hw : own_HW a0 Z) {u : Addr} {ku : ClassId} {l0 m0 : Int32} {fm : Value} {w2 : Int32} (v0 : Int32) (Z0 : n0 ≤ h0.size) (A_u : Arv Z h0 u ku .byte (2 : Int32) [(.int l0), (.int m0)] (.int 0)) (SS : own_ST Z h0 w2 fm) (z0 : nar .char ((((l0 &&& (255 : Int32)) <<< ((0 : Int32) &&& 31)) ||| ((m0 &&& (255 : Int32)) <<< ((8 : Int32) &&& 31))).toUInt32.toUInt16.toUInt32.toInt32) = v0) (q0 : ¬ v0 = 58) : own_M l Z h0 y_24 jdk_52_method_47_code 4 (some .int) (rm 3 0 0 43) #[(.ref u), (.int 58), (.int 0), (.int 1)] (own_Qiub1 Z u ku l0 m0 v0 fm w2 h0 n0) := by
  refine own_go #[vR u, vI 58, vI 0, vI 1] (plainFor_of_name own_pn4) (fun m => rfl) fun p e s m below meth c s₁ hx hby hz hZ hown hnm hrt X0 e0 => ?_
  obtain ⟨_, T10, L10, X10, ⟨rfl, Nq10, e10⟩, st10⟩ := own_cs 0 X0 hx hZ hown (ow hw 262 rfl) (ow hw 263 rfl) (ow hw 21 rfl) (ow hw 264 rfl) (own_uft hw (0 : Int32) (1 : Int32) (1 : Int32) Z0 A_u SS (by decide) (by decide) (by decide) (by decide)) e0 (g := (mkF m 3 #[vR u, vI 58, vI 0, vI 1] [(.ref u), (.int 1), (.int 0)])) (rest := []) (lenOf own_pd11 rfl) (j52_47 hby 3 rfl) hz
  have Na11 := Fr.app (Fr.nil n0) Nq10
  obtain ⟨_, T12, L12, X12, ⟨rfl, Nq12, e12⟩, st12⟩ := own_cs 0 X10 hx hZ hown (ow hw 274 rfl) (ow hw 275 rfl) (ow hw 21 rfl) (ow hw 276 rfl) (own_iua1 hw v0 Z0 A_u SS z0 q0) e10 (g := (mkF m 10 #[vR u, vI 58, vI 0, vI 1] [(.int 1), (.int 0), (.int 58), (.ref u)])) (rest := []) (lenOf own_pd9 rfl) (j52_47 hby 8 rfl) hz
  have Na13 := Fr.app Na11 Nq12
  refine ⟨_, _, _, _, some (.int (-1)), X12, (fun h => nomatch h), by decide, by decide, ?_, fun fs hr => ?_⟩
  · show own_Qiub1 Z u ku l0 m0 v0 fm w2 h0 n0 _ T12.heap _
    rw [e12]
    exact ⟨rfl, Na13, rfl⟩
  · refine sI X0.here hx (j52_47 hby 0 rfl) ?_
    refine sI X0.here hx (j52_47 hby 1 rfl) ?_
    refine sA X0.here hx (j52_47 hby 2 rfl) ?_
    refine st10 _ ?_
    refine sA X10.here hx (j52_47 hby 4 rfl) ?_
    refine sI X10.here hx (j52_47 hby 5 rfl) ?_
    refine sI X10.here hx (j52_47 hby 6 rfl) ?_
    refine sI X10.here hx (j52_47 hby 7 rfl) ?_
    refine st12 _ ?_
    exact retI X12 hx hrt (j52_47 hby 9 rfl) hr
def own_Qiou1 (Z : State) (u : Addr) (ku : ClassId) (l0 m0 v0 : Int32) (fm : Value) (w2 : Int32) (h0 : Heap) (n0 : Nat) (v : Option Value) (h : Heap) (L : List Loc) : Prop := v = some (.int (-1)) ∧ Fr n0 L ∧ h = h0
theorem own_iou1 (hw : own_HW a0 Z) {u : Addr} {ku : ClassId} {l0 m0 : Int32} {fm : Value} {w2 : Int32} (v0 : Int32) (Z0 : n0 ≤ h0.size) (A_u : Arv Z h0 u ku .byte (2 : Int32) [(.int l0), (.int m0)] (.int 0)) (SS : own_ST Z h0 w2 fm) (z0 : nar .char ((((l0 &&& (255 : Int32)) <<< ((0 : Int32) &&& 31)) ||| ((m0 &&& (255 : Int32)) <<< ((8 : Int32) &&& 31))).toUInt32.toUInt16.toUInt32.toInt32) = v0) (q0 : ¬ v0 = 58) : own_M l Z h0 y_25 jdk_52_method_40_code 4 (some .int) (rm 4 0 0 58) #[(.ref u), (.int 58), (.int 0), (.int 1)] (own_Qiou1 Z u ku l0 m0 v0 fm w2 h0 n0) := by
  refine own_go #[vR u, vI 58, vI 0, vI 1] (plainFor_of_name own_pn4) (fun m => rfl) fun p e s m below meth c s₁ hx hby hz hZ hown hnm hrt X0 e0 => ?_
  obtain ⟨_, T10, L10, X10, ⟨rfl, Nq10, e10⟩, st10⟩ := own_cs 0 X0 hx hZ hown (ow hw 256 rfl) (ow hw 87 rfl) (ow hw 88 rfl) (ow hw 89 rfl) (own_mx hw (0 : Int32) (0 : Int32) Z0 (by decide)) e0 (g := (mkF m 2 #[vR u, vI 58, vI 0, vI 1] [(.int 0), (.int 0)])) (rest := []) (lenOf own_pd8 rfl) (j52_40 hby 2 rfl) hz
  have Na11 := Fr.app (Fr.nil n0) Nq10
  obtain ⟨cl12, Ar12, q12, S12, M12, H12, G12⟩ := id A_u
  obtain ⟨_, T13, L13, X13, ⟨rfl, Nq13, e13⟩, st13⟩ := own_cs 0 X10 hx hZ hown (ow hw 257 rfl) (ow hw 91 rfl) (ow hw 88 rfl) (ow hw 92 rfl) (own_mnA hw (1 : Int32) (1 : Int32) Z0 (by decide)) e10 (g := (mkF m 11 #[vR u, vI 58, vI 0, vI 1] [(.int 1), (.int 1)])) (rest := []) (lenOf own_pd8 rfl) (j52_40 hby 9 rfl) hz
  have Na14 := Fr.app Na11 Nq13
  obtain ⟨_, T15, L15, X15, ⟨rfl, Nq15, e15⟩, st15⟩ := own_cs 0 X13 hx hZ hown (ow hw 259 rfl) (ow hw 260 rfl) (ow hw 21 rfl) (ow hw 261 rfl) (own_iub1 hw v0 Z0 A_u SS z0 q0) e13 (g := (mkF m 32 #[vR u, vI 58, vI 0, vI 1] [(.int 1), (.int 0), (.int 58), (.ref u)])) (rest := []) (lenOf own_pd9 rfl) (j52_40 hby 21 rfl) hz
  have Na16 := Fr.app Na14 Nq15
  refine ⟨_, _, _, _, some (.int (-1)), X15, (fun h => nomatch h), by decide, by decide, ?_, fun fs hr => ?_⟩
  · show own_Qiou1 Z u ku l0 m0 v0 fm w2 h0 n0 _ T15.heap _
    rw [e15]
    exact ⟨rfl, Na16, rfl⟩
  · refine sI X0.here hx (j52_40 hby 0 rfl) ?_
    refine sC X0.here hx (j52_40 hby 1 rfl) ?_
    refine st10 _ ?_
    refine XS.istoreN X10.here hx rfl (j52_40 hby 3 rfl) rfl (l' := #[vR u, vI 58, vI 0, vI 1]) rfl ?_
    refine sI X10.here hx (j52_40 hby 4 rfl) ?_
    refine sA X10.here hx (j52_40 hby 5 rfl) ?_
    refine X10.arraylength hx (by rw [e10]; exact Ar12.1) (State.isArrayOf_alike hZ.alike Ar12.2.1) (g := (mkF m 8 #[vR u, vI 58, vI 0, vI 1] [(.ref u), (.int 1)])) rfl rfl (j52_40 hby 6 rfl) _ ?_
    rw [len_of S12 M12]
    refine sC X10.here hx (j52_40 hby 7 rfl) ?_
    refine XS.ishr X10.here hx rfl (j52_40 hby 8 rfl) rfl ?_
    show Steps p.tables e below (T10.setTop (mkF m 11 #[vR u, vI 58, vI 0, vI 1] [(.int ((2 : Int32) >>> ((1 : Int32) &&& 31))), (.int 1)])) _
    rw [(by decide : ((2 : Int32) >>> ((1 : Int32) &&& 31)) = (1 : Int32))]
    refine st13 _ ?_
    refine XS.istoreN X13.here hx rfl (j52_40 hby 10 rfl) rfl (l' := #[vR u, vI 58, vI 0, vI 1]) rfl ?_
    refine sI X13.here hx (j52_40 hby 11 rfl) ?_
    refine sI X13.here hx (j52_40 hby 12 rfl) ?_
    refine XS.icmpYes X13.here hx rfl (pc0 := 17) (pc' := 22) rfl (j52_40 hby 13 rfl) rfl (tlt (by decide)).1 (by decide) (by decide) ?_
    refine sI X13.here hx (j52_40 hby 14 rfl) ?_
    refine X13.ldcInt hx hown (mvT hZ (ow hw 258 rfl)) (g := (mkF m 23 #[vR u, vI 58, vI 0, vI 1] [(.int 58)])) rfl (j52_40 hby 15 rfl) _ ?_
    refine XS.icmpNo X13.here hx rfl (j52_40 hby 16 rfl) rfl (tlt (by decide)).2.1 ?_
    refine sA X13.here hx (j52_40 hby 17 rfl) ?_
    refine sI X13.here hx (j52_40 hby 18 rfl) ?_
    refine sI X13.here hx (j52_40 hby 19 rfl) ?_
    refine sI X13.here hx (j52_40 hby 20 rfl) ?_
    refine st15 _ ?_
    exact retI X15 hx hrt (j52_40 hby 22 rfl) hr
def own_Qiua2 (Z : State) (u : Addr) (ku : ClassId) (l0 m0 v0 l1 m1 v1 w2 : Int32) (fm : Value) (h0 : Heap) (n0 : Nat) (v : Option Value) (h : Heap) (L : List Loc) : Prop := v = some (.int (-1)) ∧ Fr n0 L ∧ h = h0
theorem own_iua2 (hw : own_HW a0 Z) {u : Addr} {ku : ClassId} {l0 m0 l1 m1 w2 : Int32} {fm : Value} (v0 v1 : Int32) (Z0 : n0 ≤ h0.size) (A_u : Arv Z h0 u ku .byte (4 : Int32) [(.int l0), (.int m0), (.int l1), (.int m1)] (.int 0)) (SS : own_ST Z h0 w2 fm) (z0 : nar .char ((((l0 &&& (255 : Int32)) <<< ((0 : Int32) &&& 31)) ||| ((m0 &&& (255 : Int32)) <<< ((8 : Int32) &&& 31))).toUInt32.toUInt16.toUInt32.toInt32) = v0) (z1 : nar .char ((((l1 &&& (255 : Int32)) <<< ((0 : Int32) &&& 31)) ||| ((m1 &&& (255 : Int32)) <<< ((8 : Int32) &&& 31))).toUInt32.toUInt16.toUInt32.toInt32) = v1) (q0 : ¬ v0 = 58) (q1 : ¬ v1 = 58) : own_M l Z h0 y_23 jdk_52_method_48_code 5 (some .int) (rm 1 0 0 13) #[(.ref u), (.int 58), (.int 0), (.int 2)] (own_Qiua2 Z u ku l0 m0 v0 l1 m1 v1 w2 fm h0 n0) := by
  refine own_go #[vR u, vI 58, vI 0, vI 2, vU] (plainFor_of_name own_pn4) (fun m => rfl) fun p e s m below meth c s₁ hx hby hz hZ hown hnm hrt X0 e0 => ?_
  obtain ⟨_, T10, L10, X10, ⟨rfl, Nq10, e10⟩, st10⟩ := own_cs 0 X0 hx hZ hown (ow hw 250 rfl) (ow hw 251 rfl) (ow hw 21 rfl) (ow hw 252 rfl) (own_gc hw (0 : Int32) (0 : Int32) (1 : Int32) l0 m0 v0 Z0 A_u SS (by decide) (by decide) (by decide) (by decide) rfl rfl z0) e0 (g := (mkF m 12 #[vR u, vI 58, vI 0, vI 2, vI 0] [(.int 0), (.ref u)])) (rest := []) (lenOf own_pd10 rfl) (j52_48 hby 7 rfl) hz
  have Na11 := Fr.app (Fr.nil n0) Nq10
  obtain ⟨_, T12, L12, X12, ⟨rfl, Nq12, e12⟩, st12⟩ := own_cs 0 X10 hx hZ hown (ow hw 250 rfl) (ow hw 251 rfl) (ow hw 21 rfl) (ow hw 252 rfl) (own_gc hw (1 : Int32) (2 : Int32) (3 : Int32) l1 m1 v1 Z0 A_u SS (by decide) (by decide) (by decide) (by decide) rfl rfl z1) e10 (g := (mkF m 12 #[vR u, vI 58, vI 0, vI 2, vI 1] [(.int 1), (.ref u)])) (rest := []) (lenOf own_pd10 rfl) (j52_48 hby 7 rfl) hz
  have Na13 := Fr.app Na11 Nq12
  refine ⟨_, _, _, _, some (.int (-1)), X12, (fun h => nomatch h), by decide, by decide, ?_, fun fs hr => ?_⟩
  · show own_Qiua2 Z u ku l0 m0 v0 l1 m1 v1 w2 fm h0 n0 _ T12.heap _
    rw [e12]
    exact ⟨rfl, Na13, rfl⟩
  · refine sI X0.here hx (j52_48 hby 0 rfl) ?_
    refine XS.istore X0.here hx rfl (j52_48 hby 1 rfl) rfl (l' := #[vR u, vI 58, vI 0, vI 2, vI 0]) rfl ?_
    refine sJ X0.here hx (j52_48 hby 2 rfl) ?_
    refine sI X0.here hx (j52_48 hby 3 rfl) ?_
    refine XS.icmpNo X0.here hx rfl (j52_48 hby 4 rfl) rfl (tlt (by decide)).2.1 ?_
    refine sA X0.here hx (j52_48 hby 5 rfl) ?_
    refine sJ X0.here hx (j52_48 hby 6 rfl) ?_
    refine st10 _ ?_
    refine sI X10.here hx (j52_48 hby 8 rfl) ?_
    refine XS.icmpYes X10.here hx rfl (pc0 := 16) (pc' := 22) rfl (j52_48 hby 9 rfl) rfl (feq q0).2 (by decide) (by decide) ?_
    refine XS.iinc X10.here hx rfl (j52_48 hby 10 rfl) rfl (l' := #[vR u, vI 58, vI 0, vI 2, vI 1]) rfl ?_
    refine XS.goto X10.here hx rfl (pc0 := 25) (pc' := 3) rfl (j52_48 hby 11 rfl) (by decide) (by decide) ?_
    refine sJ X10.here hx (j52_48 hby 2 rfl) ?_
    refine sI X10.here hx (j52_48 hby 3 rfl) ?_
    refine XS.icmpNo X10.here hx rfl (j52_48 hby 4 rfl) rfl (tlt (by decide)).2.1 ?_
    refine sA X10.here hx (j52_48 hby 5 rfl) ?_
    refine sJ X10.here hx (j52_48 hby 6 rfl) ?_
    refine st12 _ ?_
    refine sI X12.here hx (j52_48 hby 8 rfl) ?_
    refine XS.icmpYes X12.here hx rfl (pc0 := 16) (pc' := 22) rfl (j52_48 hby 9 rfl) rfl (feq q1).2 (by decide) (by decide) ?_
    refine XS.iinc X12.here hx rfl (j52_48 hby 10 rfl) rfl (l' := #[vR u, vI 58, vI 0, vI 2, vI 2]) rfl ?_
    refine XS.goto X12.here hx rfl (pc0 := 25) (pc' := 3) rfl (j52_48 hby 11 rfl) (by decide) (by decide) ?_
    refine sJ X12.here hx (j52_48 hby 2 rfl) ?_
    refine sI X12.here hx (j52_48 hby 3 rfl) ?_
    refine XS.icmpYes X12.here hx rfl (pc0 := 6) (pc' := 28) rfl (j52_48 hby 4 rfl) rfl (flt (by decide)).2.1 (by decide) (by decide) ?_
    refine sC X12.here hx (j52_48 hby 12 rfl) ?_
    exact retI X12 hx hrt (j52_48 hby 13 rfl) hr
def own_Qiub2 (Z : State) (u : Addr) (ku : ClassId) (l0 m0 v0 l1 m1 v1 : Int32) (fm : Value) (w2 : Int32) (h0 : Heap) (n0 : Nat) (v : Option Value) (h : Heap) (L : List Loc) : Prop := v = some (.int (-1)) ∧ Fr n0 L ∧ h = h0
theorem own_iub2 (hw : own_HW a0 Z) {u : Addr} {ku : ClassId} {l0 m0 l1 m1 : Int32} {fm : Value} {w2 : Int32} (v0 v1 : Int32) (Z0 : n0 ≤ h0.size) (A_u : Arv Z h0 u ku .byte (4 : Int32) [(.int l0), (.int m0), (.int l1), (.int m1)] (.int 0)) (SS : own_ST Z h0 w2 fm) (z0 : nar .char ((((l0 &&& (255 : Int32)) <<< ((0 : Int32) &&& 31)) ||| ((m0 &&& (255 : Int32)) <<< ((8 : Int32) &&& 31))).toUInt32.toUInt16.toUInt32.toInt32) = v0) (z1 : nar .char ((((l1 &&& (255 : Int32)) <<< ((0 : Int32) &&& 31)) ||| ((m1 &&& (255 : Int32)) <<< ((8 : Int32) &&& 31))).toUInt32.toUInt16.toUInt32.toInt32) = v1) (q0 : ¬ v0 = 58) (q1 : ¬ v1 = 58) : own_M l Z h0 y_24 jdk_52_method_47_code 4 (some .int) (rm 3 0 0 43) #[(.ref u), (.int 58), (.int 0), (.int 2)] (own_Qiub2 Z u ku l0 m0 v0 l1 m1 v1 fm w2 h0 n0) := by
  refine own_go #[vR u, vI 58, vI 0, vI 2] (plainFor_of_name own_pn4) (fun m => rfl) fun p e s m below meth c s₁ hx hby hz hZ hown hnm hrt X0 e0 => ?_
  obtain ⟨_, T10, L10, X10, ⟨rfl, Nq10, e10⟩, st10⟩ := own_cs 0 X0 hx hZ hown (ow hw 262 rfl) (ow hw 263 rfl) (ow hw 21 rfl) (ow hw 264 rfl) (own_uft hw (0 : Int32) (2 : Int32) (2 : Int32) Z0 A_u SS (by decide) (by decide) (by decide) (by decide)) e0 (g := (mkF m 3 #[vR u, vI 58, vI 0, vI 2] [(.ref u), (.int 2), (.int 0)])) (rest := []) (lenOf own_pd11 rfl) (j52_47 hby 3 rfl) hz
  have Na11 := Fr.app (Fr.nil n0) Nq10
  obtain ⟨_, T12, L12, X12, ⟨rfl, Nq12, e12⟩, st12⟩ := own_cs 0 X10 hx hZ hown (ow hw 274 rfl) (ow hw 275 rfl) (ow hw 21 rfl) (ow hw 276 rfl) (own_iua2 hw v0 v1 Z0 A_u SS z0 z1 q0 q1) e10 (g := (mkF m 10 #[vR u, vI 58, vI 0, vI 2] [(.int 2), (.int 0), (.int 58), (.ref u)])) (rest := []) (lenOf own_pd9 rfl) (j52_47 hby 8 rfl) hz
  have Na13 := Fr.app Na11 Nq12
  refine ⟨_, _, _, _, some (.int (-1)), X12, (fun h => nomatch h), by decide, by decide, ?_, fun fs hr => ?_⟩
  · show own_Qiub2 Z u ku l0 m0 v0 l1 m1 v1 fm w2 h0 n0 _ T12.heap _
    rw [e12]
    exact ⟨rfl, Na13, rfl⟩
  · refine sI X0.here hx (j52_47 hby 0 rfl) ?_
    refine sI X0.here hx (j52_47 hby 1 rfl) ?_
    refine sA X0.here hx (j52_47 hby 2 rfl) ?_
    refine st10 _ ?_
    refine sA X10.here hx (j52_47 hby 4 rfl) ?_
    refine sI X10.here hx (j52_47 hby 5 rfl) ?_
    refine sI X10.here hx (j52_47 hby 6 rfl) ?_
    refine sI X10.here hx (j52_47 hby 7 rfl) ?_
    refine st12 _ ?_
    exact retI X12 hx hrt (j52_47 hby 9 rfl) hr
def own_Qiou2 (Z : State) (u : Addr) (ku : ClassId) (l0 m0 v0 l1 m1 v1 : Int32) (fm : Value) (w2 : Int32) (h0 : Heap) (n0 : Nat) (v : Option Value) (h : Heap) (L : List Loc) : Prop := v = some (.int (-1)) ∧ Fr n0 L ∧ h = h0
theorem own_iou2 (hw : own_HW a0 Z) {u : Addr} {ku : ClassId} {l0 m0 l1 m1 : Int32} {fm : Value} {w2 : Int32} (v0 v1 : Int32) (Z0 : n0 ≤ h0.size) (A_u : Arv Z h0 u ku .byte (4 : Int32) [(.int l0), (.int m0), (.int l1), (.int m1)] (.int 0)) (SS : own_ST Z h0 w2 fm) (z0 : nar .char ((((l0 &&& (255 : Int32)) <<< ((0 : Int32) &&& 31)) ||| ((m0 &&& (255 : Int32)) <<< ((8 : Int32) &&& 31))).toUInt32.toUInt16.toUInt32.toInt32) = v0) (z1 : nar .char ((((l1 &&& (255 : Int32)) <<< ((0 : Int32) &&& 31)) ||| ((m1 &&& (255 : Int32)) <<< ((8 : Int32) &&& 31))).toUInt32.toUInt16.toUInt32.toInt32) = v1) (q0 : ¬ v0 = 58) (q1 : ¬ v1 = 58) : own_M l Z h0 y_25 jdk_52_method_40_code 4 (some .int) (rm 4 0 0 58) #[(.ref u), (.int 58), (.int 0), (.int 2)] (own_Qiou2 Z u ku l0 m0 v0 l1 m1 v1 fm w2 h0 n0) := by
  refine own_go #[vR u, vI 58, vI 0, vI 2] (plainFor_of_name own_pn4) (fun m => rfl) fun p e s m below meth c s₁ hx hby hz hZ hown hnm hrt X0 e0 => ?_
  obtain ⟨_, T10, L10, X10, ⟨rfl, Nq10, e10⟩, st10⟩ := own_cs 0 X0 hx hZ hown (ow hw 256 rfl) (ow hw 87 rfl) (ow hw 88 rfl) (ow hw 89 rfl) (own_mx hw (0 : Int32) (0 : Int32) Z0 (by decide)) e0 (g := (mkF m 2 #[vR u, vI 58, vI 0, vI 2] [(.int 0), (.int 0)])) (rest := []) (lenOf own_pd8 rfl) (j52_40 hby 2 rfl) hz
  have Na11 := Fr.app (Fr.nil n0) Nq10
  obtain ⟨cl12, Ar12, q12, S12, M12, H12, G12⟩ := id A_u
  obtain ⟨_, T13, L13, X13, ⟨rfl, Nq13, e13⟩, st13⟩ := own_cs 0 X10 hx hZ hown (ow hw 257 rfl) (ow hw 91 rfl) (ow hw 88 rfl) (ow hw 92 rfl) (own_mnA hw (2 : Int32) (2 : Int32) Z0 (by decide)) e10 (g := (mkF m 11 #[vR u, vI 58, vI 0, vI 2] [(.int 2), (.int 2)])) (rest := []) (lenOf own_pd8 rfl) (j52_40 hby 9 rfl) hz
  have Na14 := Fr.app Na11 Nq13
  obtain ⟨_, T15, L15, X15, ⟨rfl, Nq15, e15⟩, st15⟩ := own_cs 0 X13 hx hZ hown (ow hw 259 rfl) (ow hw 260 rfl) (ow hw 21 rfl) (ow hw 261 rfl) (own_iub2 hw v0 v1 Z0 A_u SS z0 z1 q0 q1) e13 (g := (mkF m 32 #[vR u, vI 58, vI 0, vI 2] [(.int 2), (.int 0), (.int 58), (.ref u)])) (rest := []) (lenOf own_pd9 rfl) (j52_40 hby 21 rfl) hz
  have Na16 := Fr.app Na14 Nq15
  refine ⟨_, _, _, _, some (.int (-1)), X15, (fun h => nomatch h), by decide, by decide, ?_, fun fs hr => ?_⟩
  · show own_Qiou2 Z u ku l0 m0 v0 l1 m1 v1 fm w2 h0 n0 _ T15.heap _
    rw [e15]
    exact ⟨rfl, Na16, rfl⟩
  · refine sI X0.here hx (j52_40 hby 0 rfl) ?_
    refine sC X0.here hx (j52_40 hby 1 rfl) ?_
    refine st10 _ ?_
    refine XS.istoreN X10.here hx rfl (j52_40 hby 3 rfl) rfl (l' := #[vR u, vI 58, vI 0, vI 2]) rfl ?_
    refine sI X10.here hx (j52_40 hby 4 rfl) ?_
    refine sA X10.here hx (j52_40 hby 5 rfl) ?_
    refine X10.arraylength hx (by rw [e10]; exact Ar12.1) (State.isArrayOf_alike hZ.alike Ar12.2.1) (g := (mkF m 8 #[vR u, vI 58, vI 0, vI 2] [(.ref u), (.int 2)])) rfl rfl (j52_40 hby 6 rfl) _ ?_
    rw [len_of S12 M12]
    refine sC X10.here hx (j52_40 hby 7 rfl) ?_
    refine XS.ishr X10.here hx rfl (j52_40 hby 8 rfl) rfl ?_
    show Steps p.tables e below (T10.setTop (mkF m 11 #[vR u, vI 58, vI 0, vI 2] [(.int ((4 : Int32) >>> ((1 : Int32) &&& 31))), (.int 2)])) _
    rw [(by decide : ((4 : Int32) >>> ((1 : Int32) &&& 31)) = (2 : Int32))]
    refine st13 _ ?_
    refine XS.istoreN X13.here hx rfl (j52_40 hby 10 rfl) rfl (l' := #[vR u, vI 58, vI 0, vI 2]) rfl ?_
    refine sI X13.here hx (j52_40 hby 11 rfl) ?_
    refine sI X13.here hx (j52_40 hby 12 rfl) ?_
    refine XS.icmpYes X13.here hx rfl (pc0 := 17) (pc' := 22) rfl (j52_40 hby 13 rfl) rfl (tlt (by decide)).1 (by decide) (by decide) ?_
    refine sI X13.here hx (j52_40 hby 14 rfl) ?_
    refine X13.ldcInt hx hown (mvT hZ (ow hw 258 rfl)) (g := (mkF m 23 #[vR u, vI 58, vI 0, vI 2] [(.int 58)])) rfl (j52_40 hby 15 rfl) _ ?_
    refine XS.icmpNo X13.here hx rfl (j52_40 hby 16 rfl) rfl (tlt (by decide)).2.1 ?_
    refine sA X13.here hx (j52_40 hby 17 rfl) ?_
    refine sI X13.here hx (j52_40 hby 18 rfl) ?_
    refine sI X13.here hx (j52_40 hby 19 rfl) ?_
    refine sI X13.here hx (j52_40 hby 20 rfl) ?_
    refine st15 _ ?_
    exact retI X15 hx hrt (j52_40 hby 22 rfl) hr
def own_Qix2_01 (Z : State) (x u : Addr) (ku : ClassId) (w2 v0 : Int32) (fm : Value) (h0 : Heap) (n0 : Nat) (v : Option Value) (h : Heap) (L : List Loc) : Prop := v = some (.int (-1)) ∧ Fr n0 L ∧ h = h0
theorem own_ix2_01 (hw : own_HW a0 Z) {x u : Addr} {ku : ClassId} {w2 v0 : Int32} {fm : Value}  (Z0 : n0 ≤ h0.size) (S_x : own_Sr Z h0 x u ku 0 1 [(.int v0)]) (SS : own_ST Z h0 w2 fm) (q0 : ¬ v0 = 58) : own_M l Z h0 y_26 jdk_42_method_80_code 3 (some .int) (rm 2 0 0 32) #[(.ref x), (.int 58), (.int 0)] (own_Qix2_01 Z x u ku w2 v0 fm h0 n0) := by
  refine own_go #[vR x, vI 58, vI 0] (plainFor_of_name own_pn0) (fun m => rfl) fun p e s m below meth c s₁ hx hby hz hZ hown hnm hrt X0 e0 => ?_
  obtain ⟨_, T10, L10, X10, ⟨rfl, Nq10, e10⟩, st10⟩ := own_cv 0 X0 hx hZ hown (ow hw 64 rfl) (ow hw 65 rfl) (ow hw 52 rfl) (ow hw 67 rfl) (ow hw 66 rfl) (ow hw 6 rfl) (ow hw 68 rfl) (own_isl0 hw  Z0 S_x.2.2.1 SS) e0 S_x.1 (g := (mkF m 1 #[vR x, vI 58, vI 0] [(.ref x)])) (rest := []) (lenOf own_pd12 rfl) (j42_80 hby 1 rfl) hz
  have Na11 := Fr.app (Fr.nil n0) Nq10
  obtain ⟨T12, X12, e12, st12⟩ := getF X10 hx hZ hown (host := "") (Or.inl (ow hw 32 rfl)) Via.refl e10 S_x.2.1 (g := (mkF m 8 #[vR x, vI 58, vI 0] [(.ref x)])) rfl rfl (j42_80 hby 4 rfl)
  obtain ⟨_, T13, L13, X13, ⟨rfl, Nq13, e13⟩, st13⟩ := own_cv 3 X12 hx hZ hown (ow hw 69 rfl) (ow hw 70 rfl) (ow hw 52 rfl) (ow hw 72 rfl) (ow hw 71 rfl) (ow hw 6 rfl) (ow hw 73 rfl) (own_len0 hw (1 : Int32) Z0 S_x SS (by decide)) e12 S_x.1 (g := (mkF m 14 #[vR x, vI 58, vI 0] [(.ref x), (.int 0), (.int 58), (.ref u)])) (rest := [(.int 0), (.int 58), (.ref u)]) (lenOf own_pd13 rfl) (j42_80 hby 8 rfl) hz
  have Na14 := Fr.app Na11 Nq13
  obtain ⟨_, T15, L15, X15, ⟨rfl, Nq15, e15⟩, st15⟩ := own_cs 0 X13 hx hZ hown (ow hw 79 rfl) (ow hw 80 rfl) (ow hw 81 rfl) (ow hw 82 rfl) (own_iol1 hw  Z0 S_x.2.2.2 q0) e13 (g := (mkF m 17 #[vR x, vI 58, vI 0] [(.int 1), (.int 0), (.int 58), (.ref u)])) (rest := []) (lenOf own_pd9 rfl) (j42_80 hby 9 rfl) hz
  have Na16 := Fr.app Na14 Nq15
  refine ⟨_, _, _, _, some (.int (-1)), X15, (fun h => nomatch h), by decide, by decide, ?_, fun fs hr => ?_⟩
  · show own_Qix2_01 Z x u ku w2 v0 fm h0 n0 _ T15.heap _
    rw [e15]
    exact ⟨rfl, Na16, rfl⟩
  · refine sA X0.here hx (j42_80 hby 0 rfl) ?_
    refine st10 _ ?_
    refine XS.ifNo X10.here hx rfl (j42_80 hby 2 rfl) rfl ((if0 _ _).trans (feq (by decide)).1) ?_
    refine sA X10.here hx (j42_80 hby 3 rfl) ?_
    refine st12 _ ?_
    refine sI X12.here hx (j42_80 hby 5 rfl) ?_
    refine sI X12.here hx (j42_80 hby 6 rfl) ?_
    refine sA X12.here hx (j42_80 hby 7 rfl) ?_
    refine st13 _ ?_
    refine st15 _ ?_
    refine XS.goto X15.here hx rfl (pc0 := 20) (pc' := 36) rfl (j42_80 hby 10 rfl) (by decide) (by decide) ?_
    exact retI X15 hx hrt (j42_80 hby 11 rfl) hr
def own_Qix_01 (Z : State) (x u : Addr) (ku : ClassId) (w2 v0 : Int32) (fm : Value) (h0 : Heap) (n0 : Nat) (v : Option Value) (h : Heap) (L : List Loc) : Prop := v = some (.int (-1)) ∧ Fr n0 L ∧ h = h0
theorem own_ix_01 (hw : own_HW a0 Z) {x u : Addr} {ku : ClassId} {w2 v0 : Int32} {fm : Value}  (Z0 : n0 ≤ h0.size) (S_x : own_Sr Z h0 x u ku 0 1 [(.int v0)]) (SS : own_ST Z h0 w2 fm) (q0 : ¬ v0 = 58) : own_M l Z h0 y_27 jdk_42_method_79_code 2 (some .int) (rm 3 0 0 46) #[(.ref x), (.int 58)] (own_Qix_01 Z x u ku w2 v0 fm h0 n0) := by
  refine own_go #[vR x, vI 58] (plainFor_of_name own_pn0) (fun m => rfl) fun p e s m below meth c s₁ hx hby hz hZ hown hnm hrt X0 e0 => ?_
  obtain ⟨_, T10, L10, X10, ⟨rfl, Nq10, e10⟩, st10⟩ := own_cv 0 X0 hx hZ hown (ow hw 59 rfl) (ow hw 60 rfl) (ow hw 52 rfl) (ow hw 62 rfl) (ow hw 61 rfl) (ow hw 6 rfl) (ow hw 63 rfl) (own_ix2_01 hw  Z0 S_x SS q0) e0 S_x.1 (g := (mkF m 3 #[vR x, vI 58] [(.int 0), (.int 58), (.ref x)])) (rest := []) (lenOf own_pd8 rfl) (j42_79 hby 3 rfl) hz
  have Na11 := Fr.app (Fr.nil n0) Nq10
  refine ⟨_, _, _, _, some (.int (-1)), X10, (fun h => nomatch h), by decide, by decide, ?_, fun fs hr => ?_⟩
  · show own_Qix_01 Z x u ku w2 v0 fm h0 n0 _ T10.heap _
    rw [e10]
    exact ⟨rfl, Na11, rfl⟩
  · refine sA X0.here hx (j42_79 hby 0 rfl) ?_
    refine sI X0.here hx (j42_79 hby 1 rfl) ?_
    refine sC X0.here hx (j42_79 hby 2 rfl) ?_
    refine st10 _ ?_
    exact retI X10 hx hrt (j42_79 hby 4 rfl) hr
def own_Qix2_02 (Z : State) (x u : Addr) (ku : ClassId) (w2 v0 v1 : Int32) (fm : Value) (h0 : Heap) (n0 : Nat) (v : Option Value) (h : Heap) (L : List Loc) : Prop := v = some (.int (-1)) ∧ Fr n0 L ∧ h = h0
theorem own_ix2_02 (hw : own_HW a0 Z) {x u : Addr} {ku : ClassId} {w2 v0 v1 : Int32} {fm : Value}  (Z0 : n0 ≤ h0.size) (S_x : own_Sr Z h0 x u ku 0 2 [(.int v0), (.int v1)]) (SS : own_ST Z h0 w2 fm) (q0 : ¬ v0 = 58) (q1 : ¬ v1 = 58) : own_M l Z h0 y_26 jdk_42_method_80_code 3 (some .int) (rm 2 0 0 32) #[(.ref x), (.int 58), (.int 0)] (own_Qix2_02 Z x u ku w2 v0 v1 fm h0 n0) := by
  refine own_go #[vR x, vI 58, vI 0] (plainFor_of_name own_pn0) (fun m => rfl) fun p e s m below meth c s₁ hx hby hz hZ hown hnm hrt X0 e0 => ?_
  obtain ⟨_, T10, L10, X10, ⟨rfl, Nq10, e10⟩, st10⟩ := own_cv 0 X0 hx hZ hown (ow hw 64 rfl) (ow hw 65 rfl) (ow hw 52 rfl) (ow hw 67 rfl) (ow hw 66 rfl) (ow hw 6 rfl) (ow hw 68 rfl) (own_isl0 hw  Z0 S_x.2.2.1 SS) e0 S_x.1 (g := (mkF m 1 #[vR x, vI 58, vI 0] [(.ref x)])) (rest := []) (lenOf own_pd12 rfl) (j42_80 hby 1 rfl) hz
  have Na11 := Fr.app (Fr.nil n0) Nq10
  obtain ⟨T12, X12, e12, st12⟩ := getF X10 hx hZ hown (host := "") (Or.inl (ow hw 32 rfl)) Via.refl e10 S_x.2.1 (g := (mkF m 8 #[vR x, vI 58, vI 0] [(.ref x)])) rfl rfl (j42_80 hby 4 rfl)
  obtain ⟨_, T13, L13, X13, ⟨rfl, Nq13, e13⟩, st13⟩ := own_cv 3 X12 hx hZ hown (ow hw 69 rfl) (ow hw 70 rfl) (ow hw 52 rfl) (ow hw 72 rfl) (ow hw 71 rfl) (ow hw 6 rfl) (ow hw 73 rfl) (own_len0 hw (2 : Int32) Z0 S_x SS (by decide)) e12 S_x.1 (g := (mkF m 14 #[vR x, vI 58, vI 0] [(.ref x), (.int 0), (.int 58), (.ref u)])) (rest := [(.int 0), (.int 58), (.ref u)]) (lenOf own_pd13 rfl) (j42_80 hby 8 rfl) hz
  have Na14 := Fr.app Na11 Nq13
  obtain ⟨_, T15, L15, X15, ⟨rfl, Nq15, e15⟩, st15⟩ := own_cs 0 X13 hx hZ hown (ow hw 79 rfl) (ow hw 80 rfl) (ow hw 81 rfl) (ow hw 82 rfl) (own_iol2 hw  Z0 S_x.2.2.2 q0 q1) e13 (g := (mkF m 17 #[vR x, vI 58, vI 0] [(.int 2), (.int 0), (.int 58), (.ref u)])) (rest := []) (lenOf own_pd9 rfl) (j42_80 hby 9 rfl) hz
  have Na16 := Fr.app Na14 Nq15
  refine ⟨_, _, _, _, some (.int (-1)), X15, (fun h => nomatch h), by decide, by decide, ?_, fun fs hr => ?_⟩
  · show own_Qix2_02 Z x u ku w2 v0 v1 fm h0 n0 _ T15.heap _
    rw [e15]
    exact ⟨rfl, Na16, rfl⟩
  · refine sA X0.here hx (j42_80 hby 0 rfl) ?_
    refine st10 _ ?_
    refine XS.ifNo X10.here hx rfl (j42_80 hby 2 rfl) rfl ((if0 _ _).trans (feq (by decide)).1) ?_
    refine sA X10.here hx (j42_80 hby 3 rfl) ?_
    refine st12 _ ?_
    refine sI X12.here hx (j42_80 hby 5 rfl) ?_
    refine sI X12.here hx (j42_80 hby 6 rfl) ?_
    refine sA X12.here hx (j42_80 hby 7 rfl) ?_
    refine st13 _ ?_
    refine st15 _ ?_
    refine XS.goto X15.here hx rfl (pc0 := 20) (pc' := 36) rfl (j42_80 hby 10 rfl) (by decide) (by decide) ?_
    exact retI X15 hx hrt (j42_80 hby 11 rfl) hr
def own_Qix_02 (Z : State) (x u : Addr) (ku : ClassId) (w2 v0 v1 : Int32) (fm : Value) (h0 : Heap) (n0 : Nat) (v : Option Value) (h : Heap) (L : List Loc) : Prop := v = some (.int (-1)) ∧ Fr n0 L ∧ h = h0
theorem own_ix_02 (hw : own_HW a0 Z) {x u : Addr} {ku : ClassId} {w2 v0 v1 : Int32} {fm : Value}  (Z0 : n0 ≤ h0.size) (S_x : own_Sr Z h0 x u ku 0 2 [(.int v0), (.int v1)]) (SS : own_ST Z h0 w2 fm) (q0 : ¬ v0 = 58) (q1 : ¬ v1 = 58) : own_M l Z h0 y_27 jdk_42_method_79_code 2 (some .int) (rm 3 0 0 46) #[(.ref x), (.int 58)] (own_Qix_02 Z x u ku w2 v0 v1 fm h0 n0) := by
  refine own_go #[vR x, vI 58] (plainFor_of_name own_pn0) (fun m => rfl) fun p e s m below meth c s₁ hx hby hz hZ hown hnm hrt X0 e0 => ?_
  obtain ⟨_, T10, L10, X10, ⟨rfl, Nq10, e10⟩, st10⟩ := own_cv 0 X0 hx hZ hown (ow hw 59 rfl) (ow hw 60 rfl) (ow hw 52 rfl) (ow hw 62 rfl) (ow hw 61 rfl) (ow hw 6 rfl) (ow hw 63 rfl) (own_ix2_02 hw  Z0 S_x SS q0 q1) e0 S_x.1 (g := (mkF m 3 #[vR x, vI 58] [(.int 0), (.int 58), (.ref x)])) (rest := []) (lenOf own_pd8 rfl) (j42_79 hby 3 rfl) hz
  have Na11 := Fr.app (Fr.nil n0) Nq10
  refine ⟨_, _, _, _, some (.int (-1)), X10, (fun h => nomatch h), by decide, by decide, ?_, fun fs hr => ?_⟩
  · show own_Qix_02 Z x u ku w2 v0 v1 fm h0 n0 _ T10.heap _
    rw [e10]
    exact ⟨rfl, Na11, rfl⟩
  · refine sA X0.here hx (j42_79 hby 0 rfl) ?_
    refine sI X0.here hx (j42_79 hby 1 rfl) ?_
    refine sC X0.here hx (j42_79 hby 2 rfl) ?_
    refine st10 _ ?_
    exact retI X10 hx hrt (j42_79 hby 4 rfl) hr
def own_Qix2_11 (Z : State) (x u : Addr) (ku : ClassId) (w2 l0 m0 v0 : Int32) (fm : Value) (h0 : Heap) (n0 : Nat) (v : Option Value) (h : Heap) (L : List Loc) : Prop := v = some (.int (-1)) ∧ Fr n0 L ∧ h = h0
theorem own_ix2_11 (hw : own_HW a0 Z) {x u : Addr} {ku : ClassId} {w2 l0 m0 : Int32} {fm : Value} (v0 : Int32) (Z0 : n0 ≤ h0.size) (S_x : own_Sr Z h0 x u ku 1 2 [(.int l0), (.int m0)]) (SS : own_ST Z h0 w2 fm) (z0 : nar .char ((((l0 &&& (255 : Int32)) <<< ((0 : Int32) &&& 31)) ||| ((m0 &&& (255 : Int32)) <<< ((8 : Int32) &&& 31))).toUInt32.toUInt16.toUInt32.toInt32) = v0) (q0 : ¬ v0 = 58) : own_M l Z h0 y_26 jdk_42_method_80_code 3 (some .int) (rm 5 0 0 73) #[(.ref x), (.int 58), (.int 0)] (own_Qix2_11 Z x u ku w2 l0 m0 v0 fm h0 n0) := by
  refine own_go #[vR x, vI 58, vI 0] (plainFor_of_name own_pn0) (fun m => rfl) fun p e s m below meth c s₁ hx hby hz hZ hown hnm hrt X0 e0 => ?_
  obtain ⟨_, T10, L10, X10, ⟨rfl, Nq10, e10⟩, st10⟩ := own_cv 0 X0 hx hZ hown (ow hw 64 rfl) (ow hw 65 rfl) (ow hw 52 rfl) (ow hw 67 rfl) (ow hw 66 rfl) (ow hw 6 rfl) (ow hw 68 rfl) (own_isl1 hw  Z0 S_x.2.2.1 SS) e0 S_x.1 (g := (mkF m 1 #[vR x, vI 58, vI 0] [(.ref x)])) (rest := []) (lenOf own_pd12 rfl) (j42_80 hby 1 rfl) hz
  have Na11 := Fr.app (Fr.nil n0) Nq10
  obtain ⟨T12, X12, e12, st12⟩ := getF X10 hx hZ hown (host := "") (Or.inl (ow hw 32 rfl)) Via.refl e10 S_x.2.1 (g := (mkF m 24 #[vR x, vI 58, vI 0] [(.ref x)])) rfl rfl (j42_80 hby 13 rfl)
  obtain ⟨_, T13, L13, X13, ⟨rfl, Nq13, e13⟩, st13⟩ := own_cv 3 X12 hx hZ hown (ow hw 69 rfl) (ow hw 70 rfl) (ow hw 52 rfl) (ow hw 72 rfl) (ow hw 71 rfl) (ow hw 6 rfl) (ow hw 73 rfl) (own_len1 hw (1 : Int32) Z0 S_x SS (by decide)) e12 S_x.1 (g := (mkF m 30 #[vR x, vI 58, vI 0] [(.ref x), (.int 0), (.int 58), (.ref u)])) (rest := [(.int 0), (.int 58), (.ref u)]) (lenOf own_pd13 rfl) (j42_80 hby 17 rfl) hz
  have Na14 := Fr.app Na11 Nq13
  obtain ⟨_, T15, L15, X15, ⟨rfl, Nq15, e15⟩, st15⟩ := own_cs 0 X13 hx hZ hown (ow hw 253 rfl) (ow hw 254 rfl) (ow hw 21 rfl) (ow hw 255 rfl) (own_iou1 hw v0 Z0 S_x.2.2.2 SS z0 q0) e13 (g := (mkF m 33 #[vR x, vI 58, vI 0] [(.int 1), (.int 0), (.int 58), (.ref u)])) (rest := []) (lenOf own_pd9 rfl) (j42_80 hby 18 rfl) hz
  have Na16 := Fr.app Na14 Nq15
  refine ⟨_, _, _, _, some (.int (-1)), X15, (fun h => nomatch h), by decide, by decide, ?_, fun fs hr => ?_⟩
  · show own_Qix2_11 Z x u ku w2 l0 m0 v0 fm h0 n0 _ T15.heap _
    rw [e15]
    exact ⟨rfl, Na16, rfl⟩
  · refine sA X0.here hx (j42_80 hby 0 rfl) ?_
    refine st10 _ ?_
    refine XS.ifYes X10.here hx rfl (pc0 := 4) (pc' := 23) rfl (j42_80 hby 2 rfl) rfl ((if0 _ _).trans (teq rfl).1) (by decide) (by decide) ?_
    refine sA X10.here hx (j42_80 hby 12 rfl) ?_
    refine st12 _ ?_
    refine sI X12.here hx (j42_80 hby 14 rfl) ?_
    refine sI X12.here hx (j42_80 hby 15 rfl) ?_
    refine sA X12.here hx (j42_80 hby 16 rfl) ?_
    refine st13 _ ?_
    refine st15 _ ?_
    exact retI X15 hx hrt (j42_80 hby 11 rfl) hr
def own_Qix_11 (Z : State) (x u : Addr) (ku : ClassId) (w2 l0 m0 v0 : Int32) (fm : Value) (h0 : Heap) (n0 : Nat) (v : Option Value) (h : Heap) (L : List Loc) : Prop := v = some (.int (-1)) ∧ Fr n0 L ∧ h = h0
theorem own_ix_11 (hw : own_HW a0 Z) {x u : Addr} {ku : ClassId} {w2 l0 m0 : Int32} {fm : Value} (v0 : Int32) (Z0 : n0 ≤ h0.size) (S_x : own_Sr Z h0 x u ku 1 2 [(.int l0), (.int m0)]) (SS : own_ST Z h0 w2 fm) (z0 : nar .char ((((l0 &&& (255 : Int32)) <<< ((0 : Int32) &&& 31)) ||| ((m0 &&& (255 : Int32)) <<< ((8 : Int32) &&& 31))).toUInt32.toUInt16.toUInt32.toInt32) = v0) (q0 : ¬ v0 = 58) : own_M l Z h0 y_27 jdk_42_method_79_code 2 (some .int) (rm 6 0 0 87) #[(.ref x), (.int 58)] (own_Qix_11 Z x u ku w2 l0 m0 v0 fm h0 n0) := by
  refine own_go #[vR x, vI 58] (plainFor_of_name own_pn0) (fun m => rfl) fun p e s m below meth c s₁ hx hby hz hZ hown hnm hrt X0 e0 => ?_
  obtain ⟨_, T10, L10, X10, ⟨rfl, Nq10, e10⟩, st10⟩ := own_cv 0 X0 hx hZ hown (ow hw 59 rfl) (ow hw 60 rfl) (ow hw 52 rfl) (ow hw 62 rfl) (ow hw 61 rfl) (ow hw 6 rfl) (ow hw 63 rfl) (own_ix2_11 hw v0 Z0 S_x SS z0 q0) e0 S_x.1 (g := (mkF m 3 #[vR x, vI 58] [(.int 0), (.int 58), (.ref x)])) (rest := []) (lenOf own_pd8 rfl) (j42_79 hby 3 rfl) hz
  have Na11 := Fr.app (Fr.nil n0) Nq10
  refine ⟨_, _, _, _, some (.int (-1)), X10, (fun h => nomatch h), by decide, by decide, ?_, fun fs hr => ?_⟩
  · show own_Qix_11 Z x u ku w2 l0 m0 v0 fm h0 n0 _ T10.heap _
    rw [e10]
    exact ⟨rfl, Na11, rfl⟩
  · refine sA X0.here hx (j42_79 hby 0 rfl) ?_
    refine sI X0.here hx (j42_79 hby 1 rfl) ?_
    refine sC X0.here hx (j42_79 hby 2 rfl) ?_
    refine st10 _ ?_
    exact retI X10 hx hrt (j42_79 hby 4 rfl) hr
def own_Qix2_12 (Z : State) (x u : Addr) (ku : ClassId) (w2 l0 m0 v0 l1 m1 v1 : Int32) (fm : Value) (h0 : Heap) (n0 : Nat) (v : Option Value) (h : Heap) (L : List Loc) : Prop := v = some (.int (-1)) ∧ Fr n0 L ∧ h = h0
theorem own_ix2_12 (hw : own_HW a0 Z) {x u : Addr} {ku : ClassId} {w2 l0 m0 l1 m1 : Int32} {fm : Value} (v0 v1 : Int32) (Z0 : n0 ≤ h0.size) (S_x : own_Sr Z h0 x u ku 1 4 [(.int l0), (.int m0), (.int l1), (.int m1)]) (SS : own_ST Z h0 w2 fm) (z0 : nar .char ((((l0 &&& (255 : Int32)) <<< ((0 : Int32) &&& 31)) ||| ((m0 &&& (255 : Int32)) <<< ((8 : Int32) &&& 31))).toUInt32.toUInt16.toUInt32.toInt32) = v0) (z1 : nar .char ((((l1 &&& (255 : Int32)) <<< ((0 : Int32) &&& 31)) ||| ((m1 &&& (255 : Int32)) <<< ((8 : Int32) &&& 31))).toUInt32.toUInt16.toUInt32.toInt32) = v1) (q0 : ¬ v0 = 58) (q1 : ¬ v1 = 58) : own_M l Z h0 y_26 jdk_42_method_80_code 3 (some .int) (rm 5 0 0 73) #[(.ref x), (.int 58), (.int 0)] (own_Qix2_12 Z x u ku w2 l0 m0 v0 l1 m1 v1 fm h0 n0) := by
  refine own_go #[vR x, vI 58, vI 0] (plainFor_of_name own_pn0) (fun m => rfl) fun p e s m below meth c s₁ hx hby hz hZ hown hnm hrt X0 e0 => ?_
  obtain ⟨_, T10, L10, X10, ⟨rfl, Nq10, e10⟩, st10⟩ := own_cv 0 X0 hx hZ hown (ow hw 64 rfl) (ow hw 65 rfl) (ow hw 52 rfl) (ow hw 67 rfl) (ow hw 66 rfl) (ow hw 6 rfl) (ow hw 68 rfl) (own_isl1 hw  Z0 S_x.2.2.1 SS) e0 S_x.1 (g := (mkF m 1 #[vR x, vI 58, vI 0] [(.ref x)])) (rest := []) (lenOf own_pd12 rfl) (j42_80 hby 1 rfl) hz
  have Na11 := Fr.app (Fr.nil n0) Nq10
  obtain ⟨T12, X12, e12, st12⟩ := getF X10 hx hZ hown (host := "") (Or.inl (ow hw 32 rfl)) Via.refl e10 S_x.2.1 (g := (mkF m 24 #[vR x, vI 58, vI 0] [(.ref x)])) rfl rfl (j42_80 hby 13 rfl)
  obtain ⟨_, T13, L13, X13, ⟨rfl, Nq13, e13⟩, st13⟩ := own_cv 3 X12 hx hZ hown (ow hw 69 rfl) (ow hw 70 rfl) (ow hw 52 rfl) (ow hw 72 rfl) (ow hw 71 rfl) (ow hw 6 rfl) (ow hw 73 rfl) (own_len1 hw (2 : Int32) Z0 S_x SS (by decide)) e12 S_x.1 (g := (mkF m 30 #[vR x, vI 58, vI 0] [(.ref x), (.int 0), (.int 58), (.ref u)])) (rest := [(.int 0), (.int 58), (.ref u)]) (lenOf own_pd13 rfl) (j42_80 hby 17 rfl) hz
  have Na14 := Fr.app Na11 Nq13
  obtain ⟨_, T15, L15, X15, ⟨rfl, Nq15, e15⟩, st15⟩ := own_cs 0 X13 hx hZ hown (ow hw 253 rfl) (ow hw 254 rfl) (ow hw 21 rfl) (ow hw 255 rfl) (own_iou2 hw v0 v1 Z0 S_x.2.2.2 SS z0 z1 q0 q1) e13 (g := (mkF m 33 #[vR x, vI 58, vI 0] [(.int 2), (.int 0), (.int 58), (.ref u)])) (rest := []) (lenOf own_pd9 rfl) (j42_80 hby 18 rfl) hz
  have Na16 := Fr.app Na14 Nq15
  refine ⟨_, _, _, _, some (.int (-1)), X15, (fun h => nomatch h), by decide, by decide, ?_, fun fs hr => ?_⟩
  · show own_Qix2_12 Z x u ku w2 l0 m0 v0 l1 m1 v1 fm h0 n0 _ T15.heap _
    rw [e15]
    exact ⟨rfl, Na16, rfl⟩
  · refine sA X0.here hx (j42_80 hby 0 rfl) ?_
    refine st10 _ ?_
    refine XS.ifYes X10.here hx rfl (pc0 := 4) (pc' := 23) rfl (j42_80 hby 2 rfl) rfl ((if0 _ _).trans (teq rfl).1) (by decide) (by decide) ?_
    refine sA X10.here hx (j42_80 hby 12 rfl) ?_
    refine st12 _ ?_
    refine sI X12.here hx (j42_80 hby 14 rfl) ?_
    refine sI X12.here hx (j42_80 hby 15 rfl) ?_
    refine sA X12.here hx (j42_80 hby 16 rfl) ?_
    refine st13 _ ?_
    refine st15 _ ?_
    exact retI X15 hx hrt (j42_80 hby 11 rfl) hr
def own_Qix_12 (Z : State) (x u : Addr) (ku : ClassId) (w2 l0 m0 v0 l1 m1 v1 : Int32) (fm : Value) (h0 : Heap) (n0 : Nat) (v : Option Value) (h : Heap) (L : List Loc) : Prop := v = some (.int (-1)) ∧ Fr n0 L ∧ h = h0
theorem own_ix_12 (hw : own_HW a0 Z) {x u : Addr} {ku : ClassId} {w2 l0 m0 l1 m1 : Int32} {fm : Value} (v0 v1 : Int32) (Z0 : n0 ≤ h0.size) (S_x : own_Sr Z h0 x u ku 1 4 [(.int l0), (.int m0), (.int l1), (.int m1)]) (SS : own_ST Z h0 w2 fm) (z0 : nar .char ((((l0 &&& (255 : Int32)) <<< ((0 : Int32) &&& 31)) ||| ((m0 &&& (255 : Int32)) <<< ((8 : Int32) &&& 31))).toUInt32.toUInt16.toUInt32.toInt32) = v0) (z1 : nar .char ((((l1 &&& (255 : Int32)) <<< ((0 : Int32) &&& 31)) ||| ((m1 &&& (255 : Int32)) <<< ((8 : Int32) &&& 31))).toUInt32.toUInt16.toUInt32.toInt32) = v1) (q0 : ¬ v0 = 58) (q1 : ¬ v1 = 58) : own_M l Z h0 y_27 jdk_42_method_79_code 2 (some .int) (rm 6 0 0 87) #[(.ref x), (.int 58)] (own_Qix_12 Z x u ku w2 l0 m0 v0 l1 m1 v1 fm h0 n0) := by
  refine own_go #[vR x, vI 58] (plainFor_of_name own_pn0) (fun m => rfl) fun p e s m below meth c s₁ hx hby hz hZ hown hnm hrt X0 e0 => ?_
  obtain ⟨_, T10, L10, X10, ⟨rfl, Nq10, e10⟩, st10⟩ := own_cv 0 X0 hx hZ hown (ow hw 59 rfl) (ow hw 60 rfl) (ow hw 52 rfl) (ow hw 62 rfl) (ow hw 61 rfl) (ow hw 6 rfl) (ow hw 63 rfl) (own_ix2_12 hw v0 v1 Z0 S_x SS z0 z1 q0 q1) e0 S_x.1 (g := (mkF m 3 #[vR x, vI 58] [(.int 0), (.int 58), (.ref x)])) (rest := []) (lenOf own_pd8 rfl) (j42_79 hby 3 rfl) hz
  have Na11 := Fr.app (Fr.nil n0) Nq10
  refine ⟨_, _, _, _, some (.int (-1)), X10, (fun h => nomatch h), by decide, by decide, ?_, fun fs hr => ?_⟩
  · show own_Qix_12 Z x u ku w2 l0 m0 v0 l1 m1 v1 fm h0 n0 _ T10.heap _
    rw [e10]
    exact ⟨rfl, Na11, rfl⟩
  · refine sA X0.here hx (j42_79 hby 0 rfl) ?_
    refine sI X0.here hx (j42_79 hby 1 rfl) ?_
    refine sC X0.here hx (j42_79 hby 2 rfl) ?_
    refine st10 _ ?_
    exact retI X10 hx hrt (j42_79 hby 4 rfl) hr
def own_Qlca (Z : State) (u : Addr) (i : Int32) (ku : ClassId) (N : Int32) (us : List Value) (fm : Value) (bb r w2 : Int32) (h0 : Heap) (n0 : Nat) (v : Option Value) (h : Heap) (L : List Loc) : Prop := v = some (.int r) ∧ Fr n0 L ∧ h = h0
theorem own_lca (hw : own_HW a0 Z) {u : Addr} {ku : ClassId} {N : Int32} {us : List Value} {fm : Value} {w2 : Int32} (i bb r : Int32) (Z0 : n0 ≤ h0.size) (A_u : Arv Z h0 u ku .byte N us (.int 0)) (SS : own_ST Z h0 w2 fm) (h1 : ¬ i < 0) (h2 : i < N) (hg : us.getD i.toNatClampNeg (.int 0) = (.int bb)) (hres : nar .char ((bb &&& (255 : Int32)).toUInt32.toUInt16.toUInt32.toInt32) = r) : own_M l Z h0 y_28 jdk_43_method_2_code 2 (some .char) (rm 2 0 0 27) #[(.ref u), (.int i)] (own_Qlca Z u i ku N us fm bb r w2 h0 n0) := by
  refine own_go #[vR u, vI i] (plainFor_of_name own_pn2) (fun m => rfl) fun p e s m below meth c s₁ hx hby hz hZ hown hnm hrt X0 e0 => ?_
  obtain ⟨cl10, Ar10, q10, S10, M10, H10, G10⟩ := id A_u
  obtain ⟨_, T11, L11, X11, ⟨rfl, Nq11, e11⟩, st11⟩ := own_cs 0 X0 hx hZ hown (ow hw 226 rfl) (ow hw 227 rfl) (ow hw 6 rfl) (ow hw 228 rfl) (own_sci hw i N Z0 SS h1 h2) e0 (g := (mkF m 3 #[vR u, vI i] [(.int N), (.int i)])) (rest := []) (lenOf own_pd3 rfl) (j43_2 hby 3 rfl) hz
  have Na12 := Fr.app (Fr.nil n0) Nq11
  obtain ⟨cl13, Ar13, q13, S13, M13, H13, G13⟩ := id A_u
  have hin13 : ¬ (i < 0 ∨ cl13.slots.size ≤ (i).toNatClampNeg) := inb_of S13 ⟨h1, h2⟩
  refine ⟨_, _, _, _, some (.int (nar .char ((bb &&& (255 : Int32)).toUInt32.toUInt16.toUInt32.toInt32))), X11, (fun h => nomatch h), by decide, by decide, ?_, fun fs hr => ?_⟩
  · show own_Qlca Z u i ku N us fm bb r w2 h0 n0 _ T11.heap _
    rw [e11]
    exact ⟨(congrArg (fun z => some (Value.int z)) hres), Na12, rfl⟩
  · refine sI X0.here hx (j43_2 hby 0 rfl) ?_
    refine sA X0.here hx (j43_2 hby 1 rfl) ?_
    refine X0.arraylength hx (by rw [e0]; exact Ar10.1) (State.isArrayOf_alike hZ.alike Ar10.2.1) (g := (mkF m 2 #[vR u, vI i] [(.ref u), (.int i)])) rfl rfl (j43_2 hby 2 rfl) _ ?_
    rw [len_of S10 M10]
    refine st11 _ ?_
    refine sA X11.here hx (j43_2 hby 4 rfl) ?_
    refine sI X11.here hx (j43_2 hby 5 rfl) ?_
    refine X11.baloadBytes hx (j := i) (v := (.int bb)) (by rw [e11]; exact Ar13.1) (State.isArrayOf_alike hZ.alike Ar13.2.1) Ar13.2.2 hin13 (Has.at H13 hin13 hg) (g := (mkF m 8 #[vR u, vI i] [(.int i), (.ref u)])) rfl rfl (j43_2 hby 6 rfl) _ ?_
    refine XS.sipush X11.here hx rfl (j43_2 hby 7 rfl) ?_
    refine XS.iand X11.here hx rfl (j43_2 hby 8 rfl) rfl ?_
    refine XS.i2c X11.here hx rfl (j43_2 hby 9 rfl) rfl ?_
    exact retN X11 hx (t := .char) hrt (by simp) (j43_2 hby 10 rfl) hr
def own_QchL (Z : State) (x : Addr) (i : Int32) (u : Addr) (ku : ClassId) (N : Int32) (us : List Value) (w2 : Int32) (fm : Value) (bb r : Int32) (h0 : Heap) (n0 : Nat) (v : Option Value) (h : Heap) (L : List Loc) : Prop := v = some (.int r) ∧ Fr n0 L ∧ h = h0
theorem own_chL (hw : own_HW a0 Z) {x u : Addr} {ku : ClassId} {N : Int32} {us : List Value} {w2 : Int32} {fm : Value} (i bb r : Int32) (Z0 : n0 ≤ h0.size) (S_x : own_Sr Z h0 x u ku 0 N us) (SS : own_ST Z h0 w2 fm) (h1 : ¬ i < 0) (h2 : i < N) (hg : us.getD i.toNatClampNeg (.int 0) = (.int bb)) (hres : nar .char ((bb &&& (255 : Int32)).toUInt32.toUInt16.toUInt32.toInt32) = r) (hrr : nar .char r = r) : own_M l Z h0 y_29 jdk_42_method_56_code 2 (some .char) (rm 4 0 0 53) #[(.ref x), (.int i)] (own_QchL Z x i u ku N us w2 fm bb r h0 n0) := by
  refine own_go #[vR x, vI i] (plainFor_of_name own_pn0) (fun m => rfl) fun p e s m below meth c s₁ hx hby hz hZ hown hnm hrt X0 e0 => ?_
  obtain ⟨_, T10, L10, X10, ⟨rfl, Nq10, e10⟩, st10⟩ := own_cv 0 X0 hx hZ hown (ow hw 64 rfl) (ow hw 65 rfl) (ow hw 52 rfl) (ow hw 67 rfl) (ow hw 66 rfl) (ow hw 6 rfl) (ow hw 68 rfl) (own_isl0 hw  Z0 S_x.2.2.1 SS) e0 S_x.1 (g := (mkF m 1 #[vR x, vI i] [(.ref x)])) (rest := []) (lenOf own_pd12 rfl) (j42_56 hby 1 rfl) hz
  have Na11 := Fr.app (Fr.nil n0) Nq10
  obtain ⟨T12, X12, e12, st12⟩ := getF X10 hx hZ hown (host := "") (Or.inl (ow hw 32 rfl)) Via.refl e10 S_x.2.1 (g := (mkF m 8 #[vR x, vI i] [(.ref x)])) rfl rfl (j42_56 hby 4 rfl)
  obtain ⟨_, T13, L13, X13, ⟨rfl, Nq13, e13⟩, st13⟩ := own_cs 0 X12 hx hZ hown (ow hw 223 rfl) (ow hw 224 rfl) (ow hw 81 rfl) (ow hw 225 rfl) (own_lca hw i bb r Z0 S_x.2.2.2 SS h1 h2 hg hres) e12 (g := (mkF m 12 #[vR x, vI i] [(.int i), (.ref u)])) (rest := []) (lenOf own_pd10 rfl) (j42_56 hby 6 rfl) hz
  have Na14 := Fr.app Na11 Nq13
  refine ⟨_, _, _, _, some (.int (nar .char r)), X13, (fun h => nomatch h), by decide, by decide, ?_, fun fs hr => ?_⟩
  · show own_QchL Z x i u ku N us w2 fm bb r h0 n0 _ T13.heap _
    rw [e13]
    exact ⟨(congrArg (fun z => some (Value.int z)) hrr), Na14, rfl⟩
  · refine sA X0.here hx (j42_56 hby 0 rfl) ?_
    refine st10 _ ?_
    refine XS.ifNo X10.here hx rfl (j42_56 hby 2 rfl) rfl ((if0 _ _).trans (feq (by decide)).1) ?_
    refine sA X10.here hx (j42_56 hby 3 rfl) ?_
    refine st12 _ ?_
    refine sI X12.here hx (j42_56 hby 5 rfl) ?_
    refine st13 _ ?_
    exact retN X13 hx (t := .char) hrt (by simp) (j42_56 hby 7 rfl) hr
def own_Quca (Z : State) (u : Addr) (i : Int32) (ku : ClassId) (N : Int32) (us : List Value) (j j1 lo hi r n : Int32) (fm : Value) (w2 : Int32) (h0 : Heap) (n0 : Nat) (v : Option Value) (h : Heap) (L : List Loc) : Prop := v = some (.int r) ∧ Fr n0 L ∧ h = h0
theorem own_uca (hw : own_HW a0 Z) {u : Addr} {ku : ClassId} {N : Int32} {us : List Value} {fm : Value} {w2 : Int32} (i j j1 lo hi r n : Int32) (Z0 : n0 ≤ h0.size) (A_u : Arv Z h0 u ku .byte N us (.int 0)) (SS : own_ST Z h0 w2 fm) (hN : (N >>> ((1 : Int32) &&& 31)) = n) (h1 : ¬ i < 0) (h2 : i < n) (hj : (i <<< ((1 : Int32) &&& 31)) = j) (hj1 : (j + (1 : Int32)) = j1) (bj : ¬ j < 0 ∧ j < N) (bj1 : ¬ j1 < 0 ∧ j1 < N) (gj : us.getD j.toNatClampNeg (.int 0) = (.int lo)) (gj1 : us.getD j1.toNatClampNeg (.int 0) = (.int hi)) (hres : nar .char ((((lo &&& (255 : Int32)) <<< ((0 : Int32) &&& 31)) ||| ((hi &&& (255 : Int32)) <<< ((8 : Int32) &&& 31))).toUInt32.toUInt16.toUInt32.toInt32) = r) (hrr : nar .char r = r) : own_M l Z h0 y_30 jdk_52_method_83_code 2 (some .char) (rm 3 0 0 40) #[(.ref u), (.int i)] (own_Quca Z u i ku N us j j1 lo hi r n fm w2 h0 n0) := by
  refine own_go #[vR u, vI i] (plainFor_of_name own_pn4) (fun m => rfl) fun p e s m below meth c s₁ hx hby hz hZ hown hnm hrt X0 e0 => ?_
  obtain ⟨_, T10, L10, X10, ⟨rfl, Nq10, e10⟩, st10⟩ := own_cs 0 X0 hx hZ hown (ow hw 301 rfl) (ow hw 302 rfl) (ow hw 21 rfl) (ow hw 303 rfl) (own_uci hw i n Z0 A_u SS hN h1 h2) e0 (g := (mkF m 2 #[vR u, vI i] [(.ref u), (.int i)])) (rest := []) (lenOf own_pd14 rfl) (j52_83 hby 2 rfl) hz
  have Na11 := Fr.app (Fr.nil n0) Nq10
  obtain ⟨_, T12, L12, X12, ⟨rfl, Nq12, e12⟩, st12⟩ := own_cs 0 X10 hx hZ hown (ow hw 250 rfl) (ow hw 251 rfl) (ow hw 21 rfl) (ow hw 252 rfl) (own_gc hw i j j1 lo hi r Z0 A_u SS hj hj1 bj bj1 gj gj1 hres) e10 (g := (mkF m 7 #[vR u, vI i] [(.int i), (.ref u)])) (rest := []) (lenOf own_pd10 rfl) (j52_83 hby 5 rfl) hz
  have Na13 := Fr.app Na11 Nq12
  refine ⟨_, _, _, _, some (.int (nar .char r)), X12, (fun h => nomatch h), by decide, by decide, ?_, fun fs hr => ?_⟩
  · show own_Quca Z u i ku N us j j1 lo hi r n fm w2 h0 n0 _ T12.heap _
    rw [e12]
    exact ⟨(congrArg (fun z => some (Value.int z)) hrr), Na13, rfl⟩
  · refine sI X0.here hx (j52_83 hby 0 rfl) ?_
    refine sA X0.here hx (j52_83 hby 1 rfl) ?_
    refine st10 _ ?_
    refine sA X10.here hx (j52_83 hby 3 rfl) ?_
    refine sI X10.here hx (j52_83 hby 4 rfl) ?_
    refine st12 _ ?_
    exact retN X12 hx (t := .char) hrt (by simp) (j52_83 hby 6 rfl) hr
def own_QchU (Z : State) (x : Addr) (i : Int32) (u : Addr) (w2 : Int32) (ku : ClassId) (N : Int32) (us : List Value) (j j1 lo hi r n : Int32) (fm : Value) (h0 : Heap) (n0 : Nat) (v : Option Value) (h : Heap) (L : List Loc) : Prop := v = some (.int r) ∧ Fr n0 L ∧ h = h0
theorem own_chU (hw : own_HW a0 Z) {x u : Addr} {w2 : Int32} {ku : ClassId} {N : Int32} {us : List Value} {fm : Value} (i j j1 lo hi r n : Int32) (Z0 : n0 ≤ h0.size) (S_x : own_Sr Z h0 x u ku 1 N us) (SS : own_ST Z h0 w2 fm) (hN : (N >>> ((1 : Int32) &&& 31)) = n) (h1 : ¬ i < 0) (h2 : i < n) (hj : (i <<< ((1 : Int32) &&& 31)) = j) (hj1 : (j + (1 : Int32)) = j1) (bj : ¬ j < 0 ∧ j < N) (bj1 : ¬ j1 < 0 ∧ j1 < N) (gj : us.getD j.toNatClampNeg (.int 0) = (.int lo)) (gj1 : us.getD j1.toNatClampNeg (.int 0) = (.int hi)) (hres : nar .char ((((lo &&& (255 : Int32)) <<< ((0 : Int32) &&& 31)) ||| ((hi &&& (255 : Int32)) <<< ((8 : Int32) &&& 31))).toUInt32.toUInt16.toUInt32.toInt32) = r) (hrr : nar .char r = r) : own_M l Z h0 y_29 jdk_42_method_56_code 2 (some .char) (rm 4 0 0 53) #[(.ref x), (.int i)] (own_QchU Z x i u w2 ku N us j j1 lo hi r n fm h0 n0) := by
  refine own_go #[vR x, vI i] (plainFor_of_name own_pn0) (fun m => rfl) fun p e s m below meth c s₁ hx hby hz hZ hown hnm hrt X0 e0 => ?_
  obtain ⟨_, T10, L10, X10, ⟨rfl, Nq10, e10⟩, st10⟩ := own_cv 0 X0 hx hZ hown (ow hw 64 rfl) (ow hw 65 rfl) (ow hw 52 rfl) (ow hw 67 rfl) (ow hw 66 rfl) (ow hw 6 rfl) (ow hw 68 rfl) (own_isl1 hw  Z0 S_x.2.2.1 SS) e0 S_x.1 (g := (mkF m 1 #[vR x, vI i] [(.ref x)])) (rest := []) (lenOf own_pd12 rfl) (j42_56 hby 1 rfl) hz
  have Na11 := Fr.app (Fr.nil n0) Nq10
  obtain ⟨T12, X12, e12, st12⟩ := getF X10 hx hZ hown (host := "") (Or.inl (ow hw 32 rfl)) Via.refl e10 S_x.2.1 (g := (mkF m 17 #[vR x, vI i] [(.ref x)])) rfl rfl (j42_56 hby 9 rfl)
  obtain ⟨_, T13, L13, X13, ⟨rfl, Nq13, e13⟩, st13⟩ := own_cs 0 X12 hx hZ hown (ow hw 308 rfl) (ow hw 309 rfl) (ow hw 21 rfl) (ow hw 310 rfl) (own_uca hw i j j1 lo hi r n Z0 S_x.2.2.2 SS hN h1 h2 hj hj1 bj bj1 gj gj1 hres hrr) e12 (g := (mkF m 21 #[vR x, vI i] [(.int i), (.ref u)])) (rest := []) (lenOf own_pd10 rfl) (j42_56 hby 11 rfl) hz
  have Na14 := Fr.app Na11 Nq13
  refine ⟨_, _, _, _, some (.int (nar .char r)), X13, (fun h => nomatch h), by decide, by decide, ?_, fun fs hr => ?_⟩
  · show own_QchU Z x i u w2 ku N us j j1 lo hi r n fm h0 n0 _ T13.heap _
    rw [e13]
    exact ⟨(congrArg (fun z => some (Value.int z)) hrr), Na14, rfl⟩
  · refine sA X0.here hx (j42_56 hby 0 rfl) ?_
    refine st10 _ ?_
    refine XS.ifYes X10.here hx rfl (pc0 := 4) (pc' := 16) rfl (j42_56 hby 2 rfl) rfl ((if0 _ _).trans (teq rfl).1) (by decide) (by decide) ?_
    refine sA X10.here hx (j42_56 hby 8 rfl) ?_
    refine st12 _ ?_
    refine sI X12.here hx (j42_56 hby 10 rfl) ?_
    refine st13 _ ?_
    exact retN X13 hx (t := .char) hrt (by simp) (j42_56 hby 12 rfl) hr
theorem own_pn5 : plainName "java/lang/AbstractStringBuilder" = true := by first | (simp [plainName, overriddenIn]; done) | decide +kernel
def own_Qabi (Z : State) (sb : Addr) (w2 : Int32) (fm : Value) (h0 : Heap) (n0 : Nat) (v : Option Value) (h : Heap) (L : List Loc) : Prop := ∃ (t : Addr) (kt : ClassId), v = none ∧ Fr n0 L ∧ Keep h0 h [sb] ∧ own_Bd Z h sb t kt 0 0 16 [z0, z0, z0, z0, z0, z0, z0, z0, z0, z0, z0, z0, z0, z0, z0, z0] ∧ h0.size ≤ t
theorem own_abi (hw : own_HW a0 Z) {sb : Addr} {w2 : Int32} {fm : Value}  (Z0 : n0 ≤ h0.size) (E_sb : Exa Z h0 sb "java/lang/StringBuilder") (F_sb_value : Fld Z h0 sb "java/lang/AbstractStringBuilder" "value" "[B" .null) (F_sb_coder : Fld Z h0 sb "java/lang/AbstractStringBuilder" "coder" "B" (.int 0)) (F_sb_count : Fld Z h0 sb "java/lang/AbstractStringBuilder" "count" "I" (.int 0)) (F_sb_maybeLatin1 : Fld Z h0 sb "java/lang/AbstractStringBuilder" "maybeLatin1" "Z" (.int 0)) (g_sb : n0 ≤ sb) (SS : own_ST Z h0 w2 fm) : own_M l Z h0 y_31 jdk_68_method_2_code 2 none (rm 1 1 16 12) #[(.ref sb), (.int 16)] (own_Qabi Z sb w2 fm h0 n0) := by
  refine own_go #[vR sb, vI 16] (plainFor_of_name own_pn5) (fun m => rfl) fun p e s m below meth c s₁ hx hby hz hZ hown hnm hrt X0 e0 => ?_
  have P5 := SS.2.1
  obtain ⟨T10, X10, e10, st10⟩ := initO X0 hx hZ hown (ow hw 117 rfl) (ow hw 16 rfl) (ow hw 17 rfl) e0 (g := (mkF m 1 #[vR sb, vI 16] [(.ref sb)])) rfl hz rfl (j68_2 hby 1 rfl) (by decide) (W := 0) (Nat.le_of_eq rfl) (by decide)
  obtain ⟨T11, X11, e11, st11⟩ := getS2 X10 hx hZ hown (host := "") (Or.inl (ow hw 118 rfl)) Via.refl e10 SS.1 (g := (mkF m 4 #[vR sb, vI 16] [])) rfl (j68_2 hby 2 rfl)
  obtain ⟨T12, h12, k12, X12, e12, E12, A12, st12⟩ := newP X11 hx hZ (ow hw 23 rfl) e11 (g := (mkF m 12 #[vR sb, vI 16] [(.int 16), (.ref sb)])) rfl (j68_2 hby 6 rfl) rfl (by decide) (cap := 16) (by decide) (by decide) (by decide) (by decide)
  obtain ⟨b12, g12⟩ : ∃ z, z = h0.size := ⟨_, rfl⟩
  rw [← g12] at A12 st12
  have V12 : Arv Z h12 b12 k12 .byte (16 : Int32) [z0, z0, z0, z0, z0, z0, z0, z0, z0, z0, z0, z0, z0, z0, z0, z0] (.int 0) := (Arv.new A12 (by decide)).pad (pad_rep [] (.int 0) 16)
  obtain ⟨T13, h13, X13, e13, W13, st13⟩ := putF X12 hx hZ hown (host := "") (Or.inl (ow hw 119 rfl)) Via.refl e12 (F_sb_value.ext E12) (E_sb.ext E12) (Or.inl (ow hw 120 rfl)) (ow hw 106 rfl) (ty := (.array .byte)) (by decide) rfl rfl (g := (mkF m 14 #[vR sb, vI 16] [(.ref b12), (.ref sb)])) rfl rfl (j68_2 hby 7 rfl)
  have Ew13 := (E_sb.ext E12).wr W13
  have Fw13 := (F_sb_value.ext E12).same W13
  have Fo14 := (F_sb_coder.ext E12).other W13 (Or.inr (slot_ne (Or.inl (ow hw 122 rfl)) (Or.inl (ow hw 120 rfl)) (by decide) (t := .byte) (t' := (.array .byte)) (by decide) (by decide)))
  have Fo15 := (F_sb_count.ext E12).other W13 (Or.inr (slot_ne (Or.inl (ow hw 136 rfl)) (Or.inl (ow hw 120 rfl)) (by decide) (t := .int) (t' := (.array .byte)) (by decide) (by decide)))
  have Fo16 := (F_sb_maybeLatin1.ext E12).other W13 (Or.inr (slot_ne (Or.inl (ow hw 307 rfl)) (Or.inl (ow hw 120 rfl)) (by decide) (t := .boolean) (t' := (.array .byte)) (by decide) (by decide)))
  have N13 := Fr.snoc X13 (Fr.nil n0) g_sb
  obtain ⟨T17, h17, X17, e17, W17, st17⟩ := putFN X13 hx hZ hown (ow hw 121 rfl) Via.refl e13 Fo14 Ew13 (Or.inl (ow hw 122 rfl)) (ow hw 106 rfl) (ty := .byte) (v' := (.int 0)) (by decide) rfl rfl (g := (mkF m 19 #[vR sb, vI 16] [(.int 0), (.ref sb)])) rfl rfl (j68_2 hby 10 rfl)
  have Ew17 := Ew13.wr W17
  have Fo18 := Fw13.other W17 (Or.inr (slot_ne (Or.inl (ow hw 120 rfl)) (Or.inl (ow hw 122 rfl)) (by decide) (t := (.array .byte)) (t' := .byte) (by decide) (by decide)))
  have Fw17 := Fo14.same W17
  have Fo19 := Fo15.other W17 (Or.inr (slot_ne (Or.inl (ow hw 136 rfl)) (Or.inl (ow hw 122 rfl)) (by decide) (t := .int) (t' := .byte) (by decide) (by decide)))
  have Fo20 := Fo16.other W17 (Or.inr (slot_ne (Or.inl (ow hw 307 rfl)) (Or.inl (ow hw 122 rfl)) (by decide) (t := .boolean) (t' := .byte) (by decide) (by decide)))
  have N17 := Fr.snoc X17 N13 g_sb
  have Cf21 := V12.other W13 (Ne.symm (Nat.ne_of_lt (Nat.lt_of_lt_of_le (E_sb).lt (Nat.le_trans (Nat.le_refl _) (Nat.le_of_eq g12.symm)))))
  have Cf22 := Cf21.other W17 (Ne.symm (Nat.ne_of_lt (Nat.lt_of_lt_of_le (E_sb).lt (Nat.le_trans (Nat.le_refl _) (Nat.le_of_eq g12.symm)))))
  refine ⟨_, _, _, _, none, X17, (fun _ => rfl), by decide, by decide, ?_, fun fs hr => ?_⟩
  · show own_Qabi Z sb w2 fm h0 n0 _ T17.heap _
    rw [e17]
    exact ⟨b12, k12, rfl, N17, ((((Keep.refl h0 [sb]).ext E12).wr W13 (Or.inl (List.mem_of_getElem? (i := 0) rfl))).wr W17 (Or.inl (List.mem_of_getElem? (i := 0) rfl))), ⟨Ew17, Fo18, Fw17, Fo19, Fo20, Cf22⟩, (Nat.le_trans (Nat.le_refl _) (Nat.le_of_eq g12.symm))⟩
  · refine sA X0.here hx (j68_2 hby 0 rfl) ?_
    refine st10 _ ?_
    refine st11 _ ?_
    refine XS.ifNo X11.here hx rfl (j68_2 hby 3 rfl) rfl ((if0 _ _).trans (feq P5).1) ?_
    refine sA X11.here hx (j68_2 hby 4 rfl) ?_
    refine sI X11.here hx (j68_2 hby 5 rfl) ?_
    refine st12 _ ?_
    refine st13 _ ?_
    refine sA X13.here hx (j68_2 hby 8 rfl) ?_
    refine sC X13.here hx (j68_2 hby 9 rfl) ?_
    refine st17 _ ?_
    refine XS.goto X17.here hx rfl (pc0 := 22) (pc' := 38) rfl (j68_2 hby 11 rfl) (by decide) (by decide) ?_
    exact X17.returnOut hx hrt (j68_2 hby 12 rfl) hr
theorem own_pn6 : plainName "java/lang/StringBuilder" = true := by first | (simp [plainName, overriddenIn]; done) | decide +kernel
def own_Qsbi (Z : State) (sb : Addr) (w2 : Int32) (fm : Value) (h0 : Heap) (n0 : Nat) (v : Option Value) (h : Heap) (L : List Loc) : Prop := ∃ (t : Addr) (kt : ClassId), v = none ∧ Fr n0 L ∧ Keep h0 h [sb] ∧ own_Bd Z h sb t kt 0 0 16 [z0, z0, z0, z0, z0, z0, z0, z0, z0, z0, z0, z0, z0, z0, z0, z0] ∧ h0.size ≤ t
theorem own_sbi (hw : own_HW a0 Z) {sb : Addr} {w2 : Int32} {fm : Value}  (Z0 : n0 ≤ h0.size) (E_sb : Exa Z h0 sb "java/lang/StringBuilder") (F_sb_value : Fld Z h0 sb "java/lang/AbstractStringBuilder" "value" "[B" .null) (F_sb_coder : Fld Z h0 sb "java/lang/AbstractStringBuilder" "coder" "B" (.int 0)) (F_sb_count : Fld Z h0 sb "java/lang/AbstractStringBuilder" "count" "I" (.int 0)) (F_sb_maybeLatin1 : Fld Z h0 sb "java/lang/AbstractStringBuilder" "maybeLatin1" "Z" (.int 0)) (g_sb : n0 ≤ sb) (SS : own_ST Z h0 w2 fm) : own_M l Z h0 y_32 jdk_67_method_1_code 1 none (rm 2 1 16 25) #[(.ref sb)] (own_Qsbi Z sb w2 fm h0 n0) := by
  refine own_go #[vR sb] (plainFor_of_name own_pn6) (fun m => rfl) fun p e s m below meth c s₁ hx hby hz hZ hown hnm hrt X0 e0 => ?_
  obtain ⟨_, T10, L10, X10, ⟨t_10, kt_10, rfl, Nq10, K10, Po10_0, Po10_1⟩, st10⟩ := own_cp 0 X0 hx hZ hown (ow hw 111 rfl) (ow hw 112 rfl) (ow hw 115 rfl) (ow hw 116 rfl) (own_abi hw  Z0 E_sb F_sb_value F_sb_coder F_sb_count F_sb_maybeLatin1 g_sb SS) e0 (g := (mkF m 3 #[vR sb] [(.int 16), (.ref sb)])) (rest := []) (lenOf own_pd15 rfl) (j67_1 hby 2 rfl) hz
  have Na11 := Fr.app (Fr.nil n0) Nq10
  refine ⟨_, _, _, _, none, X10, (fun _ => rfl), by decide, by decide, ?_, fun fs hr => ?_⟩
  · show own_Qsbi Z sb w2 fm h0 n0 _ T10.heap _
    exact ⟨t_10, kt_10, rfl, Na11, ((Keep.refl h0 [sb]).trans K10 ((allS (Or.inl (List.mem_of_getElem? (i := 0) rfl)) all0))), Po10_0, Po10_1⟩
  · refine sA X0.here hx (j67_1 hby 0 rfl) ?_
    refine XS.bipush X0.here hx rfl (j67_1 hby 1 rfl) ?_
    refine st10 _ ?_
    exact X10.returnOut hx hrt (j67_1 hby 3 rfl) hr
def own_Qens (Z : State) (sb : Addr) (mc : Int32) (t : Addr) (kt : ClassId) (cd N : Int32) (vs : List Value) (cap : Int32) (h0 : Heap) (n0 : Nat) (v : Option Value) (h : Heap) (L : List Loc) : Prop := v = none ∧ Fr n0 L ∧ h = h0
theorem own_ens (hw : own_HW a0 Z) {sb t : Addr} {kt : ClassId} {cd N : Int32} {vs : List Value} (mc cap : Int32) (Z0 : n0 ≤ h0.size) (F_sb_value : Fld Z h0 sb "java/lang/AbstractStringBuilder" "value" "[B" (.ref t)) (F_sb_coder : Fld Z h0 sb "java/lang/AbstractStringBuilder" "coder" "B" (.int cd)) (A_t : Arv Z h0 t kt .byte N vs (.int 0)) (hcap : (N >>> (cd &&& 31)) = cap) (hle : ¬ (0 : Int32) < (mc - cap)) : own_M l Z h0 y_33 jdk_68_method_9_code 3 none (rm 0 0 0 0) #[(.ref sb), (.int mc)] (own_Qens Z sb mc t kt cd N vs cap h0 n0) := by
  refine own_go #[vR sb, vI mc, vU] (plainFor_of_name own_pn5) (fun m => rfl) fun p e s m below meth c s₁ hx hby hz hZ hown hnm hrt X0 e0 => ?_
  obtain ⟨T10, X10, e10, st10⟩ := getF X0 hx hZ hown (host := "") (Or.inl (ow hw 119 rfl)) Via.refl e0 F_sb_value (g := (mkF m 1 #[vR sb, vI mc, vU] [(.ref sb)])) rfl rfl (j68_9 hby 1 rfl)
  obtain ⟨cl11, Ar11, q11, S11, M11, H11, G11⟩ := id A_t
  obtain ⟨T12, X12, e12, st12⟩ := getF X10 hx hZ hown (host := "") (Or.inl (ow hw 121 rfl)) Via.refl e10 F_sb_coder (g := (mkF m 6 #[vR sb, vI mc, vU] [(.ref sb), (.int N)])) rfl rfl (j68_9 hby 4 rfl)
  refine ⟨_, _, _, _, none, X12, (fun _ => rfl), by decide, by decide, ?_, fun fs hr => ?_⟩
  · show own_Qens Z sb mc t kt cd N vs cap h0 n0 _ T12.heap _
    rw [e12]
    exact ⟨rfl, (Fr.nil n0), rfl⟩
  · refine sA X0.here hx (j68_9 hby 0 rfl) ?_
    refine st10 _ ?_
    refine X10.arraylength hx (by rw [e10]; exact Ar11.1) (State.isArrayOf_alike hZ.alike Ar11.2.1) (g := (mkF m 4 #[vR sb, vI mc, vU] [(.ref t)])) rfl rfl (j68_9 hby 2 rfl) _ ?_
    rw [len_of S11 M11]
    refine sA X10.here hx (j68_9 hby 3 rfl) ?_
    refine st12 _ ?_
    refine XS.ishr X12.here hx rfl (j68_9 hby 5 rfl) rfl ?_
    show Steps p.tables e below (T12.setTop (mkF m 10 #[vR sb, vI mc, vU] [(.int (N >>> (cd &&& 31)))])) _
    rw [hcap]
    refine XS.istoreN X12.here hx rfl (j68_9 hby 6 rfl) rfl (l' := #[vR sb, vI mc, vI cap]) rfl ?_
    refine sI X12.here hx (j68_9 hby 7 rfl) ?_
    refine sI X12.here hx (j68_9 hby 8 rfl) ?_
    refine XS.isub X12.here hx rfl (j68_9 hby 9 rfl) rfl ?_
    refine XS.ifYes X12.here hx rfl (pc0 := 14) (pc' := 38) rfl (j68_9 hby 10 rfl) rfl ((if0 _ _).trans (flt hle).2.2.2) (by decide) (by decide) ?_
    exact X12.returnOut hx hrt (j68_9 hby 11 rfl) hr
def own_Qaisl0 (Z : State) (sb : Addr) (w2 : Int32) (fm : Value) (h0 : Heap) (n0 : Nat) (v : Option Value) (h : Heap) (L : List Loc) : Prop := v = some (.int 1) ∧ Fr n0 L ∧ h = h0
theorem own_aisl0 (hw : own_HW a0 Z) {sb : Addr} {w2 : Int32} {fm : Value}  (Z0 : n0 ≤ h0.size) (F_sb_coder : Fld Z h0 sb "java/lang/AbstractStringBuilder" "coder" "B" (.int 0)) (SS : own_ST Z h0 w2 fm) : own_M l Z h0 y_34 jdk_68_method_68_code 1 (some .boolean) (rm 0 0 0 0) #[(.ref sb)] (own_Qaisl0 Z sb w2 fm h0 n0) := by
  refine own_go #[vR sb] (plainFor_of_name own_pn5) (fun m => rfl) fun p e s m below meth c s₁ hx hby hz hZ hown hnm hrt X0 e0 => ?_
  have P5 := SS.2.1
  obtain ⟨T10, X10, e10, st10⟩ := getS2 X0 hx hZ hown (host := "") (Or.inl (ow hw 118 rfl)) Via.refl e0 SS.1 (g := (mkF m 0 #[vR sb] [])) rfl (j68_68 hby 0 rfl)
  obtain ⟨T11, X11, e11, st11⟩ := getF X10 hx hZ hown (host := "") (Or.inl (ow hw 121 rfl)) Via.refl e10 F_sb_coder (g := (mkF m 7 #[vR sb] [(.ref sb)])) rfl rfl (j68_68 hby 3 rfl)
  refine ⟨_, _, _, _, some (.int 1), X11, (fun h => nomatch h), by decide, by decide, ?_, fun fs hr => ?_⟩
  · show own_Qaisl0 Z sb w2 fm h0 n0 _ T11.heap _
    rw [e11]
    exact ⟨rfl, (Fr.nil n0), rfl⟩
  · refine st10 _ ?_
    refine XS.ifNo X10.here hx rfl (j68_68 hby 1 rfl) rfl ((if0 _ _).trans (feq P5).1) ?_
    refine sA X10.here hx (j68_68 hby 2 rfl) ?_
    refine st11 _ ?_
    refine XS.ifNo X11.here hx rfl (j68_68 hby 4 rfl) rfl ((if0 _ _).trans (teq rfl).2) ?_
    refine sC X11.here hx (j68_68 hby 5 rfl) ?_
    refine XS.goto X11.here hx rfl (pc0 := 14) (pc' := 18) rfl (j68_68 hby 6 rfl) (by decide) (by decide) ?_
    exact retN X11 hx (t := .boolean) hrt (by simp) (j68_68 hby 7 rfl) hr
def own_Qaisl1 (Z : State) (sb : Addr) (w2 : Int32) (fm : Value) (h0 : Heap) (n0 : Nat) (v : Option Value) (h : Heap) (L : List Loc) : Prop := v = some (.int 0) ∧ Fr n0 L ∧ h = h0
theorem own_aisl1 (hw : own_HW a0 Z) {sb : Addr} {w2 : Int32} {fm : Value}  (Z0 : n0 ≤ h0.size) (F_sb_coder : Fld Z h0 sb "java/lang/AbstractStringBuilder" "coder" "B" (.int 1)) (SS : own_ST Z h0 w2 fm) : own_M l Z h0 y_34 jdk_68_method_68_code 1 (some .boolean) (rm 0 0 0 0) #[(.ref sb)] (own_Qaisl1 Z sb w2 fm h0 n0) := by
  refine own_go #[vR sb] (plainFor_of_name own_pn5) (fun m => rfl) fun p e s m below meth c s₁ hx hby hz hZ hown hnm hrt X0 e0 => ?_
  have P5 := SS.2.1
  obtain ⟨T10, X10, e10, st10⟩ := getS2 X0 hx hZ hown (host := "") (Or.inl (ow hw 118 rfl)) Via.refl e0 SS.1 (g := (mkF m 0 #[vR sb] [])) rfl (j68_68 hby 0 rfl)
  obtain ⟨T11, X11, e11, st11⟩ := getF X10 hx hZ hown (host := "") (Or.inl (ow hw 121 rfl)) Via.refl e10 F_sb_coder (g := (mkF m 7 #[vR sb] [(.ref sb)])) rfl rfl (j68_68 hby 3 rfl)
  refine ⟨_, _, _, _, some (.int 0), X11, (fun h => nomatch h), by decide, by decide, ?_, fun fs hr => ?_⟩
  · show own_Qaisl1 Z sb w2 fm h0 n0 _ T11.heap _
    rw [e11]
    exact ⟨rfl, (Fr.nil n0), rfl⟩
  · refine st10 _ ?_
    refine XS.ifNo X10.here hx rfl (j68_68 hby 1 rfl) rfl ((if0 _ _).trans (feq P5).1) ?_
    refine sA X10.here hx (j68_68 hby 2 rfl) ?_
    refine st11 _ ?_
    refine XS.ifYes X11.here hx rfl (pc0 := 10) (pc' := 17) rfl (j68_68 hby 4 rfl) rfl ((if0 _ _).trans (feq (by decide)).2) (by decide) (by decide) ?_
    refine sC X11.here hx (j68_68 hby 8 rfl) ?_
    exact retN X11 hx (t := .boolean) hrt (by simp) (j68_68 hby 7 rfl) hr
def own_Qnbl (Z : State) (n r : Int32) (h0 : Heap) (n0 : Nat) (v : Option Value) (h : Heap) (L : List Loc) : Prop := v = some (.int r) ∧ Fr n0 L ∧ h = h0
theorem own_nbl (hw : own_HW a0 Z) (n r : Int32) (Z0 : n0 ≤ h0.size) (h1 : ¬ n < 0) (h2 : n < (1073741823 : Int32)) (hres : (n <<< ((1 : Int32) &&& 31)) = r) : own_M l Z h0 y_35 jdk_52_method_3_code 1 (some .int) (rm 0 0 0 0) #[(.int n)] (own_Qnbl Z n r h0 n0) := by
  refine own_go #[vI n] (plainFor_of_name own_pn4) (fun m => rfl) fun p e s m below meth c s₁ hx hby hz hZ hown hnm hrt X0 e0 => ?_
  refine ⟨_, _, _, _, some (.int r), X0, (fun h => nomatch h), by decide, by decide, ?_, fun fs hr => ?_⟩
  · show own_Qnbl Z n r h0 n0 _ s₁.heap _
    rw [e0]
    exact ⟨rfl, (Fr.nil n0), rfl⟩
  · refine sI X0.here hx (j52_3 hby 0 rfl) ?_
    refine XS.ifYes X0.here hx rfl (pc0 := 1) (pc' := 12) rfl (j52_3 hby 1 rfl) rfl ((if0 _ _).trans (flt h1).2.1) (by decide) (by decide) ?_
    refine sI X0.here hx (j52_3 hby 2 rfl) ?_
    refine X0.ldcInt hx hown (mvT hZ (ow hw 243 rfl)) (g := (mkF m 13 #[vI n] [(.int n)])) rfl (j52_3 hby 3 rfl) _ ?_
    refine XS.icmpYes X0.here hx rfl (pc0 := 15) (pc' := 55) rfl (j52_3 hby 4 rfl) rfl (tlt h2).1 (by decide) (by decide) ?_
    refine sI X0.here hx (j52_3 hby 5 rfl) ?_
    refine sC X0.here hx (j52_3 hby 6 rfl) ?_
    refine XS.ishl X0.here hx rfl (j52_3 hby 7 rfl) rfl ?_
    show Steps p.tables e below (s₁.setTop (mkF m 58 #[vI n] [(.int (n <<< ((1 : Int32) &&& 31)))])) _
    rw [hres]
    exact retI X0 hx hrt (j52_3 hby 8 rfl) hr
def own_Qnbf1 (Z : State)  (h0 : Heap) (n0 : Nat) (v : Option Value) (h : Heap) (L : List Loc) : Prop := ∃ (t : Addr) (kt : ClassId), v = some (.ref t) ∧ Fr n0 L ∧ Ext h0 h ∧ Arv Z h t kt .byte (2 : Int32) [(.int 0), (.int 0)] (.int 0) ∧ h0.size ≤ t
theorem own_nbf1 (hw : own_HW a0 Z)  (Z0 : n0 ≤ h0.size)  : own_M l Z h0 y_36 jdk_52_method_2_code 1 (some (.array .byte)) (rm 1 1 2 12) #[(.int 1)] (own_Qnbf1 Z  h0 n0) := by
  refine own_go #[vI 1] (plainFor_of_name own_pn4) (fun m => rfl) fun p e s m below meth c s₁ hx hby hz hZ hown hnm hrt X0 e0 => ?_
  obtain ⟨_, T10, L10, X10, ⟨rfl, Nq10, e10⟩, st10⟩ := own_cs 0 X0 hx hZ hown (ow hw 240 rfl) (ow hw 241 rfl) (ow hw 21 rfl) (ow hw 242 rfl) (own_nbl hw (1 : Int32) (2 : Int32) Z0 (by decide) (by decide) (by decide)) e0 (g := (mkF m 1 #[vI 1] [(.int 1)])) (rest := []) (lenOf own_pd16 rfl) (j52_2 hby 1 rfl) hz
  have Na11 := Fr.app (Fr.nil n0) Nq10
  obtain ⟨T12, h12, k12, X12, e12, E12, A12, st12⟩ := newP X10 hx hZ (ow hw 23 rfl) e10 (g := (mkF m 4 #[vI 1] [(.int 2)])) rfl (j52_2 hby 2 rfl) rfl (by decide) (cap := 2) (by decide) (by decide) (by decide) (by decide)
  obtain ⟨b12, g12⟩ : ∃ z, z = h0.size := ⟨_, rfl⟩
  rw [← g12] at A12 st12
  have V12 : Arv Z h12 b12 k12 .byte (2 : Int32) [(.int 0), (.int 0)] (.int 0) := (Arv.new A12 (by decide)).pad (pad_rep [] (.int 0) 2)
  refine ⟨_, _, _, _, some (.ref b12), X12, (fun h => nomatch h), by decide, by decide, ?_, fun fs hr => ?_⟩
  · show own_Qnbf1 Z  h0 n0 _ T12.heap _
    rw [e12]
    exact ⟨b12, k12, rfl, Na11, E12, V12, (Nat.le_trans (Nat.le_refl _) (Nat.le_of_eq g12.symm))⟩
  · refine sI X0.here hx (j52_2 hby 0 rfl) ?_
    refine st10 _ ?_
    refine st12 _ ?_
    exact retR X12 hx hrt rfl rfl rfl (j52_2 hby 3 rfl) hr
def own_Qnbf2 (Z : State)  (h0 : Heap) (n0 : Nat) (v : Option Value) (h : Heap) (L : List Loc) : Prop := ∃ (t : Addr) (kt : ClassId), v = some (.ref t) ∧ Fr n0 L ∧ Ext h0 h ∧ Arv Z h t kt .byte (4 : Int32) [z0, z0, z0, z0] (.int 0) ∧ h0.size ≤ t
theorem own_nbf2 (hw : own_HW a0 Z)  (Z0 : n0 ≤ h0.size)  : own_M l Z h0 y_36 jdk_52_method_2_code 1 (some (.array .byte)) (rm 1 1 4 12) #[(.int 2)] (own_Qnbf2 Z  h0 n0) := by
  refine own_go #[vI 2] (plainFor_of_name own_pn4) (fun m => rfl) fun p e s m below meth c s₁ hx hby hz hZ hown hnm hrt X0 e0 => ?_
  obtain ⟨_, T10, L10, X10, ⟨rfl, Nq10, e10⟩, st10⟩ := own_cs 0 X0 hx hZ hown (ow hw 240 rfl) (ow hw 241 rfl) (ow hw 21 rfl) (ow hw 242 rfl) (own_nbl hw (2 : Int32) (4 : Int32) Z0 (by decide) (by decide) (by decide)) e0 (g := (mkF m 1 #[vI 2] [(.int 2)])) (rest := []) (lenOf own_pd16 rfl) (j52_2 hby 1 rfl) hz
  have Na11 := Fr.app (Fr.nil n0) Nq10
  obtain ⟨T12, h12, k12, X12, e12, E12, A12, st12⟩ := newP X10 hx hZ (ow hw 23 rfl) e10 (g := (mkF m 4 #[vI 2] [(.int 4)])) rfl (j52_2 hby 2 rfl) rfl (by decide) (cap := 4) (by decide) (by decide) (by decide) (by decide)
  obtain ⟨b12, g12⟩ : ∃ z, z = h0.size := ⟨_, rfl⟩
  rw [← g12] at A12 st12
  have V12 : Arv Z h12 b12 k12 .byte (4 : Int32) [z0, z0, z0, z0] (.int 0) := (Arv.new A12 (by decide)).pad (pad_rep [] (.int 0) 4)
  refine ⟨_, _, _, _, some (.ref b12), X12, (fun h => nomatch h), by decide, by decide, ?_, fun fs hr => ?_⟩
  · show own_Qnbf2 Z  h0 n0 _ T12.heap _
    rw [e12]
    exact ⟨b12, k12, rfl, Na11, E12, V12, (Nat.le_trans (Nat.le_refl _) (Nat.le_of_eq g12.symm))⟩
  · refine sI X0.here hx (j52_2 hby 0 rfl) ?_
    refine st10 _ ?_
    refine st12 _ ?_
    exact retR X12 hx hrt rfl rfl rfl (j52_2 hby 3 rfl) hr
def own_Qnbf16 (Z : State)  (h0 : Heap) (n0 : Nat) (v : Option Value) (h : Heap) (L : List Loc) : Prop := ∃ (t : Addr) (kt : ClassId), v = some (.ref t) ∧ Fr n0 L ∧ Ext h0 h ∧ Arv Z h t kt .byte (32 : Int32) [z0, z0, z0, z0, z0, z0, z0, z0, z0, z0, z0, z0, z0, z0, z0, z0, z0, z0, z0, z0, z0, z0, z0, z0, z0, z0, z0, z0, z0, z0, z0, z0] (.int 0) ∧ h0.size ≤ t
theorem own_nbf16 (hw : own_HW a0 Z)  (Z0 : n0 ≤ h0.size)  : own_M l Z h0 y_36 jdk_52_method_2_code 1 (some (.array .byte)) (rm 1 1 32 12) #[(.int 16)] (own_Qnbf16 Z  h0 n0) := by
  refine own_go #[vI 16] (plainFor_of_name own_pn4) (fun m => rfl) fun p e s m below meth c s₁ hx hby hz hZ hown hnm hrt X0 e0 => ?_
  obtain ⟨_, T10, L10, X10, ⟨rfl, Nq10, e10⟩, st10⟩ := own_cs 0 X0 hx hZ hown (ow hw 240 rfl) (ow hw 241 rfl) (ow hw 21 rfl) (ow hw 242 rfl) (own_nbl hw (16 : Int32) (32 : Int32) Z0 (by decide) (by decide) (by decide)) e0 (g := (mkF m 1 #[vI 16] [(.int 16)])) (rest := []) (lenOf own_pd16 rfl) (j52_2 hby 1 rfl) hz
  have Na11 := Fr.app (Fr.nil n0) Nq10
  obtain ⟨T12, h12, k12, X12, e12, E12, A12, st12⟩ := newP X10 hx hZ (ow hw 23 rfl) e10 (g := (mkF m 4 #[vI 16] [(.int 32)])) rfl (j52_2 hby 2 rfl) rfl (by decide) (cap := 32) (by decide) (by decide) (by decide) (by decide)
  obtain ⟨b12, g12⟩ : ∃ z, z = h0.size := ⟨_, rfl⟩
  rw [← g12] at A12 st12
  have V12 : Arv Z h12 b12 k12 .byte (32 : Int32) [z0, z0, z0, z0, z0, z0, z0, z0, z0, z0, z0, z0, z0, z0, z0, z0, z0, z0, z0, z0, z0, z0, z0, z0, z0, z0, z0, z0, z0, z0, z0, z0] (.int 0) := (Arv.new A12 (by decide)).pad (pad_rep [] (.int 0) 32)
  refine ⟨_, _, _, _, some (.ref b12), X12, (fun h => nomatch h), by decide, by decide, ?_, fun fs hr => ?_⟩
  · show own_Qnbf16 Z  h0 n0 _ T12.heap _
    rw [e12]
    exact ⟨b12, k12, rfl, Na11, E12, V12, (Nat.le_trans (Nat.le_refl _) (Nat.le_of_eq g12.symm))⟩
  · refine sI X0.here hx (j52_2 hby 0 rfl) ?_
    refine st10 _ ?_
    refine st12 _ ?_
    exact retR X12 hx hrt rfl rfl rfl (j52_2 hby 3 rfl) hr
def own_Qui05 (Z : State) (u t : Addr) (ku kt : ClassId) (fm : Value) (w2 : Int32) (h0 : Heap) (n0 : Nat) (v : Option Value) (h : Heap) (L : List Loc) : Prop := v = none ∧ Fr n0 L ∧ Keep h0 h [t] ∧ Arv Z h t kt .byte (32 : Int32) [(oLoL 104), (oHoH 104), (oLoL 97), (oHoH 97), (oLoL 115), (oHoH 115), (oLoL 112), (oHoH 112), (oLoL 58), (oHoH 58), z0, z0, z0, z0, z0, z0, z0, z0, z0, z0, z0, z0, z0, z0, z0, z0, z0, z0, z0, z0, z0, z0] (.int 0)
theorem own_ui05 (hw : own_HW a0 Z) {u t : Addr} {ku kt : ClassId} {fm : Value} {w2 : Int32}  (Z0 : n0 ≤ h0.size) (A_u : Arv Z h0 u ku .byte (16 : Int32) [(.int 104), (.int 97), (.int 115), (.int 112), (.int 58), z0, z0, z0, z0, z0, z0, z0, z0, z0, z0, z0] (.int 0)) (A_t : Arv Z h0 t kt .byte (32 : Int32) [z0, z0, z0, z0, z0, z0, z0, z0, z0, z0, z0, z0, z0, z0, z0, z0, z0, z0, z0, z0, z0, z0, z0, z0, z0, z0, z0, z0, z0, z0, z0, z0] (.int 0)) (g_t : n0 ≤ t) (n_u_t : u ≠ t) (SS : own_ST Z h0 w2 fm) : own_M l Z h0 y_37 jdk_52_method_86_code 6 none (rm 3 0 0 43) #[(.ref u), (.int 0), (.ref t), (.int 0), (.int 5)] (own_Qui05 Z u t ku kt fm w2 h0 n0) := by
  refine own_go #[vR u, vI 0, vR t, vI 0, vI 5, vU] (plainFor_of_name own_pn4) (fun m => rfl) fun p e s m below meth c s₁ hx hby hz hZ hown hnm hrt X0 e0 => ?_
  obtain ⟨_, T10, L10, X10, ⟨rfl, Nq10, e10⟩, st10⟩ := own_cs 0 X0 hx hZ hown (ow hw 289 rfl) (ow hw 290 rfl) (ow hw 21 rfl) (ow hw 291 rfl) (own_ufs hw (0 : Int32) (5 : Int32) (16 : Int32) Z0 A_t SS (by decide) (by decide) (by decide)) e0 (g := (mkF m 4 #[vR u, vI 0, vR t, vI 0, vI 5, vU] [(.ref t), (.int 5), (.int 0)])) (rest := []) (lenOf own_pd11 rfl) (j52_86 hby 3 rfl) hz
  have Na11 := Fr.app (Fr.nil n0) Nq10
  obtain ⟨cl12, Ar12, q12, S12, M12, H12, G12⟩ := id A_u
  have hin12 : ¬ ((0 : Int32) < 0 ∨ cl12.slots.size ≤ ((0 : Int32)).toNatClampNeg) := inb_of S12 ⟨by decide, by decide⟩
  obtain ⟨_, T13, L13, X13, ⟨rfl, Nq13, K13, Po13_0⟩, st13⟩ := own_cs 0 X10 hx hZ hown (ow hw 244 rfl) (ow hw 245 rfl) (ow hw 21 rfl) (ow hw 246 rfl) (own_pc hw (0 : Int32) ((104 : Int32) &&& (255 : Int32)) [(oLoL 104), (oHoH 104), z0, z0, z0, z0, z0, z0, z0, z0, z0, z0, z0, z0, z0, z0, z0, z0, z0, z0, z0, z0, z0, z0, z0, z0, z0, z0, z0, z0, z0, z0] (0 : Int32) (1 : Int32) 0 1 Z0 A_t g_t SS (by decide) (by decide) (by decide) (by decide) rfl rfl (Nat.le_of_ble_eq_true rfl) (Nat.le_of_ble_eq_true rfl) rfl) e10 (g := (mkF m 32 #[vR u, vI 1, vR t, vI 1, vI 5, vI 0] [(.int ((104 : Int32) &&& (255 : Int32))), (.int 0), (.ref t)])) (rest := []) (lenOf own_pd17 rfl) (j52_86 hby 18 rfl) hz
  have Na14 := Fr.app Na11 Nq13
  have Cf15 := A_u.keep K13 (ninS n_u_t nin0)
  obtain ⟨cl16, Ar16, q16, S16, M16, H16, G16⟩ := id Cf15
  have hin16 : ¬ ((1 : Int32) < 0 ∨ cl16.slots.size ≤ ((1 : Int32)).toNatClampNeg) := inb_of S16 ⟨by decide, by decide⟩
  have Cf17 := own_stK SS K13 ((allS (A_t).nostat all0))
  obtain ⟨_, T18, L18, X18, ⟨rfl, Nq18, K18, Po18_0⟩, st18⟩ := own_cs 0 X13 hx hZ hown (ow hw 244 rfl) (ow hw 245 rfl) (ow hw 21 rfl) (ow hw 246 rfl) (own_pc hw (1 : Int32) ((97 : Int32) &&& (255 : Int32)) [(oLoL 104), (oHoH 104), (oLoL 97), (oHoH 97), z0, z0, z0, z0, z0, z0, z0, z0, z0, z0, z0, z0, z0, z0, z0, z0, z0, z0, z0, z0, z0, z0, z0, z0, z0, z0, z0, z0] (2 : Int32) (3 : Int32) 2 3 (Nat.le_trans Z0 K13.1) Po13_0 g_t Cf17 (by decide) (by decide) (by decide) (by decide) rfl rfl (Nat.le_of_ble_eq_true rfl) (Nat.le_of_ble_eq_true rfl) rfl) rfl (g := (mkF m 32 #[vR u, vI 2, vR t, vI 2, vI 5, vI 1] [(.int ((97 : Int32) &&& (255 : Int32))), (.int 1), (.ref t)])) (rest := []) (lenOf own_pd17 rfl) (j52_86 hby 18 rfl) hz
  have Na19 := Fr.app Na14 Nq18
  have Cf20 := Cf15.keep K18 (ninS n_u_t nin0)
  obtain ⟨cl21, Ar21, q21, S21, M21, H21, G21⟩ := id Cf20
  have hin21 : ¬ ((2 : Int32) < 0 ∨ cl21.slots.size ≤ ((2 : Int32)).toNatClampNeg) := inb_of S21 ⟨by decide, by decide⟩
  have Cf22 := own_stK Cf17 K18 ((allS (Po13_0).nostat all0))
  have Gr23 : h0.size ≤ T18.heap.size := Nat.le_trans K13.1 K18.1
  obtain ⟨_, T24, L24, X24, ⟨rfl, Nq24, K24, Po24_0⟩, st24⟩ := own_cs 0 X18 hx hZ hown (ow hw 244 rfl) (ow hw 245 rfl) (ow hw 21 rfl) (ow hw 246 rfl) (own_pc hw (2 : Int32) ((115 : Int32) &&& (255 : Int32)) [(oLoL 104), (oHoH 104), (oLoL 97), (oHoH 97), (oLoL 115), (oHoH 115), z0, z0, z0, z0, z0, z0, z0, z0, z0, z0, z0, z0, z0, z0, z0, z0, z0, z0, z0, z0, z0, z0, z0, z0, z0, z0] (4 : Int32) (5 : Int32) 4 5 (Nat.le_trans Z0 Gr23) Po18_0 g_t Cf22 (by decide) (by decide) (by decide) (by decide) rfl rfl (Nat.le_of_ble_eq_true rfl) (Nat.le_of_ble_eq_true rfl) rfl) rfl (g := (mkF m 32 #[vR u, vI 3, vR t, vI 3, vI 5, vI 2] [(.int ((115 : Int32) &&& (255 : Int32))), (.int 2), (.ref t)])) (rest := []) (lenOf own_pd17 rfl) (j52_86 hby 18 rfl) hz
  have Na25 := Fr.app Na19 Nq24
  have Cf26 := Cf20.keep K24 (ninS n_u_t nin0)
  obtain ⟨cl27, Ar27, q27, S27, M27, H27, G27⟩ := id Cf26
  have hin27 : ¬ ((3 : Int32) < 0 ∨ cl27.slots.size ≤ ((3 : Int32)).toNatClampNeg) := inb_of S27 ⟨by decide, by decide⟩
  have Cf28 := own_stK Cf22 K24 ((allS (Po18_0).nostat all0))
  have Gr29 : h0.size ≤ T24.heap.size := Nat.le_trans Gr23 K24.1
  obtain ⟨_, T30, L30, X30, ⟨rfl, Nq30, K30, Po30_0⟩, st30⟩ := own_cs 0 X24 hx hZ hown (ow hw 244 rfl) (ow hw 245 rfl) (ow hw 21 rfl) (ow hw 246 rfl) (own_pc hw (3 : Int32) ((112 : Int32) &&& (255 : Int32)) [(oLoL 104), (oHoH 104), (oLoL 97), (oHoH 97), (oLoL 115), (oHoH 115), (oLoL 112), (oHoH 112), z0, z0, z0, z0, z0, z0, z0, z0, z0, z0, z0, z0, z0, z0, z0, z0, z0, z0, z0, z0, z0, z0, z0, z0] (6 : Int32) (7 : Int32) 6 7 (Nat.le_trans Z0 Gr29) Po24_0 g_t Cf28 (by decide) (by decide) (by decide) (by decide) rfl rfl (Nat.le_of_ble_eq_true rfl) (Nat.le_of_ble_eq_true rfl) rfl) rfl (g := (mkF m 32 #[vR u, vI 4, vR t, vI 4, vI 5, vI 3] [(.int ((112 : Int32) &&& (255 : Int32))), (.int 3), (.ref t)])) (rest := []) (lenOf own_pd17 rfl) (j52_86 hby 18 rfl) hz
  have Na31 := Fr.app Na25 Nq30
  have Cf32 := Cf26.keep K30 (ninS n_u_t nin0)
  obtain ⟨cl33, Ar33, q33, S33, M33, H33, G33⟩ := id Cf32
  have hin33 : ¬ ((4 : Int32) < 0 ∨ cl33.slots.size ≤ ((4 : Int32)).toNatClampNeg) := inb_of S33 ⟨by decide, by decide⟩
  have Cf34 := own_stK Cf28 K30 ((allS (Po24_0).nostat all0))
  have Gr35 : h0.size ≤ T30.heap.size := Nat.le_trans Gr29 K30.1
  obtain ⟨_, T36, L36, X36, ⟨rfl, Nq36, K36, Po36_0⟩, st36⟩ := own_cs 0 X30 hx hZ hown (ow hw 244 rfl) (ow hw 245 rfl) (ow hw 21 rfl) (ow hw 246 rfl) (own_pc hw (4 : Int32) ((58 : Int32) &&& (255 : Int32)) [(oLoL 104), (oHoH 104), (oLoL 97), (oHoH 97), (oLoL 115), (oHoH 115), (oLoL 112), (oHoH 112), (oLoL 58), (oHoH 58), z0, z0, z0, z0, z0, z0, z0, z0, z0, z0, z0, z0, z0, z0, z0, z0, z0, z0, z0, z0, z0, z0] (8 : Int32) (9 : Int32) 8 9 (Nat.le_trans Z0 Gr35) Po30_0 g_t Cf34 (by decide) (by decide) (by decide) (by decide) rfl rfl (Nat.le_of_ble_eq_true rfl) (Nat.le_of_ble_eq_true rfl) rfl) rfl (g := (mkF m 32 #[vR u, vI 5, vR t, vI 5, vI 5, vI 4] [(.int ((58 : Int32) &&& (255 : Int32))), (.int 4), (.ref t)])) (rest := []) (lenOf own_pd17 rfl) (j52_86 hby 18 rfl) hz
  have Na37 := Fr.app Na31 Nq36
  refine ⟨_, _, _, _, none, X36, (fun _ => rfl), by decide, by decide, ?_, fun fs hr => ?_⟩
  · show own_Qui05 Z u t ku kt fm w2 h0 n0 _ T36.heap _
    exact ⟨rfl, Na37, ((((((Keep.refl h0 [t]).trans K13 ((allS (Or.inl (List.mem_of_getElem? (i := 0) rfl)) all0))).trans K18 ((allS (Or.inl (List.mem_of_getElem? (i := 0) rfl)) all0))).trans K24 ((allS (Or.inl (List.mem_of_getElem? (i := 0) rfl)) all0))).trans K30 ((allS (Or.inl (List.mem_of_getElem? (i := 0) rfl)) all0))).trans K36 ((allS (Or.inl (List.mem_of_getElem? (i := 0) rfl)) all0))), Po36_0⟩
  · refine sI X0.here hx (j52_86 hby 0 rfl) ?_
    refine sJ X0.here hx (j52_86 hby 1 rfl) ?_
    refine sA X0.here hx (j52_86 hby 2 rfl) ?_
    refine st10 _ ?_
    refine sC X10.here hx (j52_86 hby 4 rfl) ?_
    refine XS.istore X10.here hx rfl (j52_86 hby 5 rfl) rfl (l' := #[vR u, vI 0, vR t, vI 0, vI 5, vI 0]) rfl ?_
    refine sJ X10.here hx (j52_86 hby 6 rfl) ?_
    refine sJ X10.here hx (j52_86 hby 7 rfl) ?_
    refine XS.icmpNo X10.here hx rfl (j52_86 hby 8 rfl) rfl (tlt (by decide)).2.1 ?_
    refine sA X10.here hx (j52_86 hby 9 rfl) ?_
    refine sI X10.here hx (j52_86 hby 10 rfl) ?_
    refine XS.iinc X10.here hx rfl (j52_86 hby 11 rfl) rfl (l' := #[vR u, vI 0, vR t, vI 1, vI 5, vI 0]) rfl ?_
    refine sA X10.here hx (j52_86 hby 12 rfl) ?_
    refine sI X10.here hx (j52_86 hby 13 rfl) ?_
    refine XS.iinc X10.here hx rfl (j52_86 hby 14 rfl) rfl (l' := #[vR u, vI 1, vR t, vI 1, vI 5, vI 0]) rfl ?_
    refine X10.baloadBytes hx (j := (0 : Int32)) (v := (.int 104)) (by rw [e10]; exact Ar12.1) (State.isArrayOf_alike hZ.alike Ar12.2.1) Ar12.2.2 hin12 (Has.at H12 hin12 rfl) (g := (mkF m 27 #[vR u, vI 1, vR t, vI 1, vI 5, vI 0] [(.int 0), (.ref u), (.int 0), (.ref t)])) rfl rfl (j52_86 hby 15 rfl) _ ?_
    refine XS.sipush X10.here hx rfl (j52_86 hby 16 rfl) ?_
    refine XS.iand X10.here hx rfl (j52_86 hby 17 rfl) rfl ?_
    refine st13 _ ?_
    refine XS.iinc X13.here hx rfl (j52_86 hby 19 rfl) rfl (l' := #[vR u, vI 1, vR t, vI 1, vI 5, vI 1]) rfl ?_
    refine XS.goto X13.here hx rfl (pc0 := 38) (pc' := 10) rfl (j52_86 hby 20 rfl) (by decide) (by decide) ?_
    refine sJ X13.here hx (j52_86 hby 6 rfl) ?_
    refine sJ X13.here hx (j52_86 hby 7 rfl) ?_
    refine XS.icmpNo X13.here hx rfl (j52_86 hby 8 rfl) rfl (tlt (by decide)).2.1 ?_
    refine sA X13.here hx (j52_86 hby 9 rfl) ?_
    refine sI X13.here hx (j52_86 hby 10 rfl) ?_
    refine XS.iinc X13.here hx rfl (j52_86 hby 11 rfl) rfl (l' := #[vR u, vI 1, vR t, vI 2, vI 5, vI 1]) rfl ?_
    refine sA X13.here hx (j52_86 hby 12 rfl) ?_
    refine sI X13.here hx (j52_86 hby 13 rfl) ?_
    refine XS.iinc X13.here hx rfl (j52_86 hby 14 rfl) rfl (l' := #[vR u, vI 2, vR t, vI 2, vI 5, vI 1]) rfl ?_
    refine X13.baloadBytes hx (j := (1 : Int32)) (v := (.int 97)) Ar16.1 (State.isArrayOf_alike hZ.alike Ar16.2.1) Ar16.2.2 hin16 (Has.at H16 hin16 rfl) (g := (mkF m 27 #[vR u, vI 2, vR t, vI 2, vI 5, vI 1] [(.int 1), (.ref u), (.int 1), (.ref t)])) rfl rfl (j52_86 hby 15 rfl) _ ?_
    refine XS.sipush X13.here hx rfl (j52_86 hby 16 rfl) ?_
    refine XS.iand X13.here hx rfl (j52_86 hby 17 rfl) rfl ?_
    refine st18 _ ?_
    refine XS.iinc X18.here hx rfl (j52_86 hby 19 rfl) rfl (l' := #[vR u, vI 2, vR t, vI 2, vI 5, vI 2]) rfl ?_
    refine XS.goto X18.here hx rfl (pc0 := 38) (pc' := 10) rfl (j52_86 hby 20 rfl) (by decide) (by decide) ?_
    refine sJ X18.here hx (j52_86 hby 6 rfl) ?_
    refine sJ X18.here hx (j52_86 hby 7 rfl) ?_
    refine XS.icmpNo X18.here hx rfl (j52_86 hby 8 rfl) rfl (tlt (by decide)).2.1 ?_
    refine sA X18.here hx (j52_86 hby 9 rfl) ?_
    refine sI X18.here hx (j52_86 hby 10 rfl) ?_
    refine XS.iinc X18.here hx rfl (j52_86 hby 11 rfl) rfl (l' := #[vR u, vI 2, vR t, vI 3, vI 5, vI 2]) rfl ?_
    refine sA X18.here hx (j52_86 hby 12 rfl) ?_
    refine sI X18.here hx (j52_86 hby 13 rfl) ?_
    refine XS.iinc X18.here hx rfl (j52_86 hby 14 rfl) rfl (l' := #[vR u, vI 3, vR t, vI 3, vI 5, vI 2]) rfl ?_
    refine X18.baloadBytes hx (j := (2 : Int32)) (v := (.int 115)) Ar21.1 (State.isArrayOf_alike hZ.alike Ar21.2.1) Ar21.2.2 hin21 (Has.at H21 hin21 rfl) (g := (mkF m 27 #[vR u, vI 3, vR t, vI 3, vI 5, vI 2] [(.int 2), (.ref u), (.int 2), (.ref t)])) rfl rfl (j52_86 hby 15 rfl) _ ?_
    refine XS.sipush X18.here hx rfl (j52_86 hby 16 rfl) ?_
    refine XS.iand X18.here hx rfl (j52_86 hby 17 rfl) rfl ?_
    refine st24 _ ?_
    refine XS.iinc X24.here hx rfl (j52_86 hby 19 rfl) rfl (l' := #[vR u, vI 3, vR t, vI 3, vI 5, vI 3]) rfl ?_
    refine XS.goto X24.here hx rfl (pc0 := 38) (pc' := 10) rfl (j52_86 hby 20 rfl) (by decide) (by decide) ?_
    refine sJ X24.here hx (j52_86 hby 6 rfl) ?_
    refine sJ X24.here hx (j52_86 hby 7 rfl) ?_
    refine XS.icmpNo X24.here hx rfl (j52_86 hby 8 rfl) rfl (tlt (by decide)).2.1 ?_
    refine sA X24.here hx (j52_86 hby 9 rfl) ?_
    refine sI X24.here hx (j52_86 hby 10 rfl) ?_
    refine XS.iinc X24.here hx rfl (j52_86 hby 11 rfl) rfl (l' := #[vR u, vI 3, vR t, vI 4, vI 5, vI 3]) rfl ?_
    refine sA X24.here hx (j52_86 hby 12 rfl) ?_
    refine sI X24.here hx (j52_86 hby 13 rfl) ?_
    refine XS.iinc X24.here hx rfl (j52_86 hby 14 rfl) rfl (l' := #[vR u, vI 4, vR t, vI 4, vI 5, vI 3]) rfl ?_
    refine X24.baloadBytes hx (j := (3 : Int32)) (v := (.int 112)) Ar27.1 (State.isArrayOf_alike hZ.alike Ar27.2.1) Ar27.2.2 hin27 (Has.at H27 hin27 rfl) (g := (mkF m 27 #[vR u, vI 4, vR t, vI 4, vI 5, vI 3] [(.int 3), (.ref u), (.int 3), (.ref t)])) rfl rfl (j52_86 hby 15 rfl) _ ?_
    refine XS.sipush X24.here hx rfl (j52_86 hby 16 rfl) ?_
    refine XS.iand X24.here hx rfl (j52_86 hby 17 rfl) rfl ?_
    refine st30 _ ?_
    refine XS.iinc X30.here hx rfl (j52_86 hby 19 rfl) rfl (l' := #[vR u, vI 4, vR t, vI 4, vI 5, vI 4]) rfl ?_
    refine XS.goto X30.here hx rfl (pc0 := 38) (pc' := 10) rfl (j52_86 hby 20 rfl) (by decide) (by decide) ?_
    refine sJ X30.here hx (j52_86 hby 6 rfl) ?_
    refine sJ X30.here hx (j52_86 hby 7 rfl) ?_
    refine XS.icmpNo X30.here hx rfl (j52_86 hby 8 rfl) rfl (tlt (by decide)).2.1 ?_
    refine sA X30.here hx (j52_86 hby 9 rfl) ?_
    refine sI X30.here hx (j52_86 hby 10 rfl) ?_
    refine XS.iinc X30.here hx rfl (j52_86 hby 11 rfl) rfl (l' := #[vR u, vI 4, vR t, vI 5, vI 5, vI 4]) rfl ?_
    refine sA X30.here hx (j52_86 hby 12 rfl) ?_
    refine sI X30.here hx (j52_86 hby 13 rfl) ?_
    refine XS.iinc X30.here hx rfl (j52_86 hby 14 rfl) rfl (l' := #[vR u, vI 5, vR t, vI 5, vI 5, vI 4]) rfl ?_
    refine X30.baloadBytes hx (j := (4 : Int32)) (v := (.int 58)) Ar33.1 (State.isArrayOf_alike hZ.alike Ar33.2.1) Ar33.2.2 hin33 (Has.at H33 hin33 rfl) (g := (mkF m 27 #[vR u, vI 5, vR t, vI 5, vI 5, vI 4] [(.int 4), (.ref u), (.int 4), (.ref t)])) rfl rfl (j52_86 hby 15 rfl) _ ?_
    refine XS.sipush X30.here hx rfl (j52_86 hby 16 rfl) ?_
    refine XS.iand X30.here hx rfl (j52_86 hby 17 rfl) rfl ?_
    refine st36 _ ?_
    refine XS.iinc X36.here hx rfl (j52_86 hby 19 rfl) rfl (l' := #[vR u, vI 5, vR t, vI 5, vI 5, vI 5]) rfl ?_
    refine XS.goto X36.here hx rfl (pc0 := 38) (pc' := 10) rfl (j52_86 hby 20 rfl) (by decide) (by decide) ?_
    refine sJ X36.here hx (j52_86 hby 6 rfl) ?_
    refine sJ X36.here hx (j52_86 hby 7 rfl) ?_
    refine XS.icmpYes X36.here hx rfl (pc0 := 14) (pc' := 41) rfl (j52_86 hby 8 rfl) rfl (flt (by decide)).2.1 (by decide) (by decide) ?_
    exact X36.returnOut hx hrt (j52_86 hby 21 rfl) hr
def own_Qli05 (Z : State) (u t : Addr) (ku kt : ClassId) (fm : Value) (w2 : Int32) (h0 : Heap) (n0 : Nat) (v : Option Value) (h : Heap) (L : List Loc) : Prop := v = none ∧ Fr n0 L ∧ Keep h0 h [t] ∧ Arv Z h t kt .byte (32 : Int32) [(oLoL 104), (oHoH 104), (oLoL 97), (oHoH 97), (oLoL 115), (oHoH 115), (oLoL 112), (oHoH 112), (oLoL 58), (oHoH 58), z0, z0, z0, z0, z0, z0, z0, z0, z0, z0, z0, z0, z0, z0, z0, z0, z0, z0, z0, z0, z0, z0] (.int 0)
theorem own_li05 (hw : own_HW a0 Z) {u t : Addr} {ku kt : ClassId} {fm : Value} {w2 : Int32}  (Z0 : n0 ≤ h0.size) (A_u : Arv Z h0 u ku .byte (16 : Int32) [(.int 104), (.int 97), (.int 115), (.int 112), (.int 58), z0, z0, z0, z0, z0, z0, z0, z0, z0, z0, z0] (.int 0)) (A_t : Arv Z h0 t kt .byte (32 : Int32) [z0, z0, z0, z0, z0, z0, z0, z0, z0, z0, z0, z0, z0, z0, z0, z0, z0, z0, z0, z0, z0, z0, z0, z0, z0, z0, z0, z0, z0, z0, z0, z0] (.int 0)) (g_t : n0 ≤ t) (n_u_t : u ≠ t) (SS : own_ST Z h0 w2 fm) : own_M l Z h0 y_38 jdk_43_method_50_code 5 none (rm 4 0 0 60) #[(.ref u), (.int 0), (.ref t), (.int 0), (.int 5)] (own_Qli05 Z u t ku kt fm w2 h0 n0) := by
  refine own_go #[vR u, vI 0, vR t, vI 0, vI 5] (plainFor_of_name own_pn2) (fun m => rfl) fun p e s m below meth c s₁ hx hby hz hZ hown hnm hrt X0 e0 => ?_
  obtain ⟨_, T10, L10, X10, ⟨rfl, Nq10, K10, Po10_0⟩, st10⟩ := own_cs 0 X0 hx hZ hown (ow hw 286 rfl) (ow hw 287 rfl) (ow hw 21 rfl) (ow hw 288 rfl) (own_ui05 hw  Z0 A_u A_t g_t n_u_t SS) e0 (g := (mkF m 6 #[vR u, vI 0, vR t, vI 0, vI 5] [(.int 5), (.int 0), (.ref t), (.int 0), (.ref u)])) (rest := []) (lenOf own_pd18 rfl) (j43_50 hby 5 rfl) hz
  have Na11 := Fr.app (Fr.nil n0) Nq10
  refine ⟨_, _, _, _, none, X10, (fun _ => rfl), by decide, by decide, ?_, fun fs hr => ?_⟩
  · show own_Qli05 Z u t ku kt fm w2 h0 n0 _ T10.heap _
    exact ⟨rfl, Na11, ((Keep.refl h0 [t]).trans K10 ((allS (Or.inl (List.mem_of_getElem? (i := 0) rfl)) all0))), Po10_0⟩
  · refine sA X0.here hx (j43_50 hby 0 rfl) ?_
    refine sI X0.here hx (j43_50 hby 1 rfl) ?_
    refine sA X0.here hx (j43_50 hby 2 rfl) ?_
    refine sI X0.here hx (j43_50 hby 3 rfl) ?_
    refine sJ X0.here hx (j43_50 hby 4 rfl) ?_
    refine st10 _ ?_
    exact X10.returnOut hx hrt (j43_50 hby 6 rfl) hr
def own_Qui71 (Z : State) (u t : Addr) (ku kt : ClassId) (fm : Value) (vs : List Value) (v0 w2 : Int32) (h0 : Heap) (n0 : Nat) (v : Option Value) (h : Heap) (L : List Loc) : Prop := v = none ∧ Fr n0 L ∧ Keep h0 h [t] ∧ Arv Z h t kt .byte (32 : Int32) ((vs.set 14 (oLoL v0)).set 15 (oHoH v0)) (.int 0)
theorem own_ui71 (hw : own_HW a0 Z) {u t : Addr} {ku kt : ClassId} {fm : Value} {vs : List Value} {v0 w2 : Int32}  (Z0 : n0 ≤ h0.size) (A_u : Arv Z h0 u ku .byte (1 : Int32) [(.int v0)] (.int 0)) (A_t : Arv Z h0 t kt .byte (32 : Int32) vs (.int 0)) (g_t : n0 ≤ t) (n_u_t : u ≠ t) (SS : own_ST Z h0 w2 fm) (lvs : vs.length = 32) : own_M l Z h0 y_37 jdk_52_method_86_code 6 none (rm 3 0 0 43) #[(.ref u), (.int 0), (.ref t), (.int 7), (.int 1)] (own_Qui71 Z u t ku kt fm vs v0 w2 h0 n0) := by
  refine own_go #[vR u, vI 0, vR t, vI 7, vI 1, vU] (plainFor_of_name own_pn4) (fun m => rfl) fun p e s m below meth c s₁ hx hby hz hZ hown hnm hrt X0 e0 => ?_
  obtain ⟨_, T10, L10, X10, ⟨rfl, Nq10, e10⟩, st10⟩ := own_cs 0 X0 hx hZ hown (ow hw 289 rfl) (ow hw 290 rfl) (ow hw 21 rfl) (ow hw 291 rfl) (own_ufs hw (7 : Int32) (1 : Int32) (16 : Int32) Z0 A_t SS (by decide) (by decide) (by decide)) e0 (g := (mkF m 4 #[vR u, vI 0, vR t, vI 7, vI 1, vU] [(.ref t), (.int 1), (.int 7)])) (rest := []) (lenOf own_pd11 rfl) (j52_86 hby 3 rfl) hz
  have Na11 := Fr.app (Fr.nil n0) Nq10
  obtain ⟨cl12, Ar12, q12, S12, M12, H12, G12⟩ := id A_u
  have hin12 : ¬ ((0 : Int32) < 0 ∨ cl12.slots.size ≤ ((0 : Int32)).toNatClampNeg) := inb_of S12 ⟨by decide, by decide⟩
  obtain ⟨_, T13, L13, X13, ⟨rfl, Nq13, K13, Po13_0⟩, st13⟩ := own_cs 0 X10 hx hZ hown (ow hw 244 rfl) (ow hw 245 rfl) (ow hw 21 rfl) (ow hw 246 rfl) (own_pc hw (7 : Int32) (v0 &&& (255 : Int32)) ((vs.set 14 (oLoL v0)).set 15 (oHoH v0)) (14 : Int32) (15 : Int32) 14 15 Z0 A_t g_t SS (by decide) (by decide) (by decide) (by decide) rfl rfl (by first | (rw [lvs]; decide) | (simp only [List.length_set]; rw [lvs]; decide)) (by first | (rw [lvs]; decide) | (simp only [List.length_set]; rw [lvs]; decide)) rfl) e10 (g := (mkF m 32 #[vR u, vI 1, vR t, vI 8, vI 1, vI 0] [(.int (v0 &&& (255 : Int32))), (.int 7), (.ref t)])) (rest := []) (lenOf own_pd17 rfl) (j52_86 hby 18 rfl) hz
  have Na14 := Fr.app Na11 Nq13
  refine ⟨_, _, _, _, none, X13, (fun _ => rfl), by decide, by decide, ?_, fun fs hr => ?_⟩
  · show own_Qui71 Z u t ku kt fm vs v0 w2 h0 n0 _ T13.heap _
    exact ⟨rfl, Na14, ((Keep.refl h0 [t]).trans K13 ((allS (Or.inl (List.mem_of_getElem? (i := 0) rfl)) all0))), Po13_0⟩
  · refine sI X0.here hx (j52_86 hby 0 rfl) ?_
    refine sJ X0.here hx (j52_86 hby 1 rfl) ?_
    refine sA X0.here hx (j52_86 hby 2 rfl) ?_
    refine st10 _ ?_
    refine sC X10.here hx (j52_86 hby 4 rfl) ?_
    refine XS.istore X10.here hx rfl (j52_86 hby 5 rfl) rfl (l' := #[vR u, vI 0, vR t, vI 7, vI 1, vI 0]) rfl ?_
    refine sJ X10.here hx (j52_86 hby 6 rfl) ?_
    refine sJ X10.here hx (j52_86 hby 7 rfl) ?_
    refine XS.icmpNo X10.here hx rfl (j52_86 hby 8 rfl) rfl (tlt (by decide)).2.1 ?_
    refine sA X10.here hx (j52_86 hby 9 rfl) ?_
    refine sI X10.here hx (j52_86 hby 10 rfl) ?_
    refine XS.iinc X10.here hx rfl (j52_86 hby 11 rfl) rfl (l' := #[vR u, vI 0, vR t, vI 8, vI 1, vI 0]) rfl ?_
    refine sA X10.here hx (j52_86 hby 12 rfl) ?_
    refine sI X10.here hx (j52_86 hby 13 rfl) ?_
    refine XS.iinc X10.here hx rfl (j52_86 hby 14 rfl) rfl (l' := #[vR u, vI 1, vR t, vI 8, vI 1, vI 0]) rfl ?_
    refine X10.baloadBytes hx (j := (0 : Int32)) (v := (.int v0)) (by rw [e10]; exact Ar12.1) (State.isArrayOf_alike hZ.alike Ar12.2.1) Ar12.2.2 hin12 (Has.at H12 hin12 rfl) (g := (mkF m 27 #[vR u, vI 1, vR t, vI 8, vI 1, vI 0] [(.int 0), (.ref u), (.int 7), (.ref t)])) rfl rfl (j52_86 hby 15 rfl) _ ?_
    refine XS.sipush X10.here hx rfl (j52_86 hby 16 rfl) ?_
    refine XS.iand X10.here hx rfl (j52_86 hby 17 rfl) rfl ?_
    refine st13 _ ?_
    refine XS.iinc X13.here hx rfl (j52_86 hby 19 rfl) rfl (l' := #[vR u, vI 1, vR t, vI 8, vI 1, vI 1]) rfl ?_
    refine XS.goto X13.here hx rfl (pc0 := 38) (pc' := 10) rfl (j52_86 hby 20 rfl) (by decide) (by decide) ?_
    refine sJ X13.here hx (j52_86 hby 6 rfl) ?_
    refine sJ X13.here hx (j52_86 hby 7 rfl) ?_
    refine XS.icmpYes X13.here hx rfl (pc0 := 14) (pc' := 41) rfl (j52_86 hby 8 rfl) rfl (flt (by decide)).2.1 (by decide) (by decide) ?_
    exact X13.returnOut hx hrt (j52_86 hby 21 rfl) hr
def own_Qli71 (Z : State) (u t : Addr) (ku kt : ClassId) (fm : Value) (vs : List Value) (v0 w2 : Int32) (h0 : Heap) (n0 : Nat) (v : Option Value) (h : Heap) (L : List Loc) : Prop := v = none ∧ Fr n0 L ∧ Keep h0 h [t] ∧ Arv Z h t kt .byte (32 : Int32) ((vs.set 14 (oLoL v0)).set 15 (oHoH v0)) (.int 0)
theorem own_li71 (hw : own_HW a0 Z) {u t : Addr} {ku kt : ClassId} {fm : Value} {vs : List Value} {v0 w2 : Int32}  (Z0 : n0 ≤ h0.size) (A_u : Arv Z h0 u ku .byte (1 : Int32) [(.int v0)] (.int 0)) (A_t : Arv Z h0 t kt .byte (32 : Int32) vs (.int 0)) (g_t : n0 ≤ t) (n_u_t : u ≠ t) (SS : own_ST Z h0 w2 fm) (lvs : vs.length = 32) : own_M l Z h0 y_38 jdk_43_method_50_code 5 none (rm 4 0 0 60) #[(.ref u), (.int 0), (.ref t), (.int 7), (.int 1)] (own_Qli71 Z u t ku kt fm vs v0 w2 h0 n0) := by
  refine own_go #[vR u, vI 0, vR t, vI 7, vI 1] (plainFor_of_name own_pn2) (fun m => rfl) fun p e s m below meth c s₁ hx hby hz hZ hown hnm hrt X0 e0 => ?_
  obtain ⟨_, T10, L10, X10, ⟨rfl, Nq10, K10, Po10_0⟩, st10⟩ := own_cs 0 X0 hx hZ hown (ow hw 286 rfl) (ow hw 287 rfl) (ow hw 21 rfl) (ow hw 288 rfl) (own_ui71 hw  Z0 A_u A_t g_t n_u_t SS lvs) e0 (g := (mkF m 6 #[vR u, vI 0, vR t, vI 7, vI 1] [(.int 1), (.int 7), (.ref t), (.int 0), (.ref u)])) (rest := []) (lenOf own_pd18 rfl) (j43_50 hby 5 rfl) hz
  have Na11 := Fr.app (Fr.nil n0) Nq10
  refine ⟨_, _, _, _, none, X10, (fun _ => rfl), by decide, by decide, ?_, fun fs hr => ?_⟩
  · show own_Qli71 Z u t ku kt fm vs v0 w2 h0 n0 _ T10.heap _
    exact ⟨rfl, Na11, ((Keep.refl h0 [t]).trans K10 ((allS (Or.inl (List.mem_of_getElem? (i := 0) rfl)) all0))), Po10_0⟩
  · refine sA X0.here hx (j43_50 hby 0 rfl) ?_
    refine sI X0.here hx (j43_50 hby 1 rfl) ?_
    refine sA X0.here hx (j43_50 hby 2 rfl) ?_
    refine sI X0.here hx (j43_50 hby 3 rfl) ?_
    refine sJ X0.here hx (j43_50 hby 4 rfl) ?_
    refine st10 _ ?_
    exact X10.returnOut hx hrt (j43_50 hby 6 rfl) hr
def own_Qui72 (Z : State) (u t : Addr) (ku kt : ClassId) (fm : Value) (vs : List Value) (v0 v1 w2 : Int32) (h0 : Heap) (n0 : Nat) (v : Option Value) (h : Heap) (L : List Loc) : Prop := v = none ∧ Fr n0 L ∧ Keep h0 h [t] ∧ Arv Z h t kt .byte (32 : Int32) ((((vs.set 14 (oLoL v0)).set 15 (oHoH v0)).set 16 (oLoL v1)).set 17 (oHoH v1)) (.int 0)
theorem own_ui72 (hw : own_HW a0 Z) {u t : Addr} {ku kt : ClassId} {fm : Value} {vs : List Value} {v0 v1 w2 : Int32}  (Z0 : n0 ≤ h0.size) (A_u : Arv Z h0 u ku .byte (2 : Int32) [(.int v0), (.int v1)] (.int 0)) (A_t : Arv Z h0 t kt .byte (32 : Int32) vs (.int 0)) (g_t : n0 ≤ t) (n_u_t : u ≠ t) (SS : own_ST Z h0 w2 fm) (lvs : vs.length = 32) : own_M l Z h0 y_37 jdk_52_method_86_code 6 none (rm 3 0 0 43) #[(.ref u), (.int 0), (.ref t), (.int 7), (.int 2)] (own_Qui72 Z u t ku kt fm vs v0 v1 w2 h0 n0) := by
  refine own_go #[vR u, vI 0, vR t, vI 7, vI 2, vU] (plainFor_of_name own_pn4) (fun m => rfl) fun p e s m below meth c s₁ hx hby hz hZ hown hnm hrt X0 e0 => ?_
  obtain ⟨_, T10, L10, X10, ⟨rfl, Nq10, e10⟩, st10⟩ := own_cs 0 X0 hx hZ hown (ow hw 289 rfl) (ow hw 290 rfl) (ow hw 21 rfl) (ow hw 291 rfl) (own_ufs hw (7 : Int32) (2 : Int32) (16 : Int32) Z0 A_t SS (by decide) (by decide) (by decide)) e0 (g := (mkF m 4 #[vR u, vI 0, vR t, vI 7, vI 2, vU] [(.ref t), (.int 2), (.int 7)])) (rest := []) (lenOf own_pd11 rfl) (j52_86 hby 3 rfl) hz
  have Na11 := Fr.app (Fr.nil n0) Nq10
  obtain ⟨cl12, Ar12, q12, S12, M12, H12, G12⟩ := id A_u
  have hin12 : ¬ ((0 : Int32) < 0 ∨ cl12.slots.size ≤ ((0 : Int32)).toNatClampNeg) := inb_of S12 ⟨by decide, by decide⟩
  obtain ⟨_, T13, L13, X13, ⟨rfl, Nq13, K13, Po13_0⟩, st13⟩ := own_cs 0 X10 hx hZ hown (ow hw 244 rfl) (ow hw 245 rfl) (ow hw 21 rfl) (ow hw 246 rfl) (own_pc hw (7 : Int32) (v0 &&& (255 : Int32)) ((vs.set 14 (oLoL v0)).set 15 (oHoH v0)) (14 : Int32) (15 : Int32) 14 15 Z0 A_t g_t SS (by decide) (by decide) (by decide) (by decide) rfl rfl (by first | (rw [lvs]; decide) | (simp only [List.length_set]; rw [lvs]; decide)) (by first | (rw [lvs]; decide) | (simp only [List.length_set]; rw [lvs]; decide)) rfl) e10 (g := (mkF m 32 #[vR u, vI 1, vR t, vI 8, vI 2, vI 0] [(.int (v0 &&& (255 : Int32))), (.int 7), (.ref t)])) (rest := []) (lenOf own_pd17 rfl) (j52_86 hby 18 rfl) hz
  have Na14 := Fr.app Na11 Nq13
  have Cf15 := A_u.keep K13 (ninS n_u_t nin0)
  obtain ⟨cl16, Ar16, q16, S16, M16, H16, G16⟩ := id Cf15
  have hin16 : ¬ ((1 : Int32) < 0 ∨ cl16.slots.size ≤ ((1 : Int32)).toNatClampNeg) := inb_of S16 ⟨by decide, by decide⟩
  have Cf17 := own_stK SS K13 ((allS (A_t).nostat all0))
  obtain ⟨_, T18, L18, X18, ⟨rfl, Nq18, K18, Po18_0⟩, st18⟩ := own_cs 0 X13 hx hZ hown (ow hw 244 rfl) (ow hw 245 rfl) (ow hw 21 rfl) (ow hw 246 rfl) (own_pc hw (8 : Int32) (v1 &&& (255 : Int32)) ((((vs.set 14 (oLoL v0)).set 15 (oHoH v0)).set 16 (oLoL v1)).set 17 (oHoH v1)) (16 : Int32) (17 : Int32) 16 17 (Nat.le_trans Z0 K13.1) Po13_0 g_t Cf17 (by decide) (by decide) (by decide) (by decide) rfl rfl (by first | (rw [lvs]; decide) | (simp only [List.length_set]; rw [lvs]; decide)) (by first | (rw [lvs]; decide) | (simp only [List.length_set]; rw [lvs]; decide)) rfl) rfl (g := (mkF m 32 #[vR u, vI 2, vR t, vI 9, vI 2, vI 1] [(.int (v1 &&& (255 : Int32))), (.int 8), (.ref t)])) (rest := []) (lenOf own_pd17 rfl) (j52_86 hby 18 rfl) hz
  have Na19 := Fr.app Na14 Nq18
  refine ⟨_, _, _, _, none, X18, (fun _ => rfl), by decide, by decide, ?_, fun fs hr => ?_⟩
  · show own_Qui72 Z u t ku kt fm vs v0 v1 w2 h0 n0 _ T18.heap _
    exact ⟨rfl, Na19, (((Keep.refl h0 [t]).trans K13 ((allS (Or.inl (List.mem_of_getElem? (i := 0) rfl)) all0))).trans K18 ((allS (Or.inl (List.mem_of_getElem? (i := 0) rfl)) all0))), Po18_0⟩
  · refine sI X0.here hx (j52_86 hby 0 rfl) ?_
    refine sJ X0.here hx (j52_86 hby 1 rfl) ?_
    refine sA X0.here hx (j52_86 hby 2 rfl) ?_
    refine st10 _ ?_
    refine sC X10.here hx (j52_86 hby 4 rfl) ?_
    refine XS.istore X10.here hx rfl (j52_86 hby 5 rfl) rfl (l' := #[vR u, vI 0, vR t, vI 7, vI 2, vI 0]) rfl ?_
    refine sJ X10.here hx (j52_86 hby 6 rfl) ?_
    refine sJ X10.here hx (j52_86 hby 7 rfl) ?_
    refine XS.icmpNo X10.here hx rfl (j52_86 hby 8 rfl) rfl (tlt (by decide)).2.1 ?_
    refine sA X10.here hx (j52_86 hby 9 rfl) ?_
    refine sI X10.here hx (j52_86 hby 10 rfl) ?_
    refine XS.iinc X10.here hx rfl (j52_86 hby 11 rfl) rfl (l' := #[vR u, vI 0, vR t, vI 8, vI 2, vI 0]) rfl ?_
    refine sA X10.here hx (j52_86 hby 12 rfl) ?_
    refine sI X10.here hx (j52_86 hby 13 rfl) ?_
    refine XS.iinc X10.here hx rfl (j52_86 hby 14 rfl) rfl (l' := #[vR u, vI 1, vR t, vI 8, vI 2, vI 0]) rfl ?_
    refine X10.baloadBytes hx (j := (0 : Int32)) (v := (.int v0)) (by rw [e10]; exact Ar12.1) (State.isArrayOf_alike hZ.alike Ar12.2.1) Ar12.2.2 hin12 (Has.at H12 hin12 rfl) (g := (mkF m 27 #[vR u, vI 1, vR t, vI 8, vI 2, vI 0] [(.int 0), (.ref u), (.int 7), (.ref t)])) rfl rfl (j52_86 hby 15 rfl) _ ?_
    refine XS.sipush X10.here hx rfl (j52_86 hby 16 rfl) ?_
    refine XS.iand X10.here hx rfl (j52_86 hby 17 rfl) rfl ?_
    refine st13 _ ?_
    refine XS.iinc X13.here hx rfl (j52_86 hby 19 rfl) rfl (l' := #[vR u, vI 1, vR t, vI 8, vI 2, vI 1]) rfl ?_
    refine XS.goto X13.here hx rfl (pc0 := 38) (pc' := 10) rfl (j52_86 hby 20 rfl) (by decide) (by decide) ?_
    refine sJ X13.here hx (j52_86 hby 6 rfl) ?_
    refine sJ X13.here hx (j52_86 hby 7 rfl) ?_
    refine XS.icmpNo X13.here hx rfl (j52_86 hby 8 rfl) rfl (tlt (by decide)).2.1 ?_
    refine sA X13.here hx (j52_86 hby 9 rfl) ?_
    refine sI X13.here hx (j52_86 hby 10 rfl) ?_
    refine XS.iinc X13.here hx rfl (j52_86 hby 11 rfl) rfl (l' := #[vR u, vI 1, vR t, vI 9, vI 2, vI 1]) rfl ?_
    refine sA X13.here hx (j52_86 hby 12 rfl) ?_
    refine sI X13.here hx (j52_86 hby 13 rfl) ?_
    refine XS.iinc X13.here hx rfl (j52_86 hby 14 rfl) rfl (l' := #[vR u, vI 2, vR t, vI 9, vI 2, vI 1]) rfl ?_
    refine X13.baloadBytes hx (j := (1 : Int32)) (v := (.int v1)) Ar16.1 (State.isArrayOf_alike hZ.alike Ar16.2.1) Ar16.2.2 hin16 (Has.at H16 hin16 rfl) (g := (mkF m 27 #[vR u, vI 2, vR t, vI 9, vI 2, vI 1] [(.int 1), (.ref u), (.int 8), (.ref t)])) rfl rfl (j52_86 hby 15 rfl) _ ?_
    refine XS.sipush X13.here hx rfl (j52_86 hby 16 rfl) ?_
    refine XS.iand X13.here hx rfl (j52_86 hby 17 rfl) rfl ?_
    refine st18 _ ?_
    refine XS.iinc X18.here hx rfl (j52_86 hby 19 rfl) rfl (l' := #[vR u, vI 2, vR t, vI 9, vI 2, vI 2]) rfl ?_
    refine XS.goto X18.here hx rfl (pc0 := 38) (pc' := 10) rfl (j52_86 hby 20 rfl) (by decide) (by decide) ?_
    refine sJ X18.here hx (j52_86 hby 6 rfl) ?_
    refine sJ X18.here hx (j52_86 hby 7 rfl) ?_
    refine XS.icmpYes X18.here hx rfl (pc0 := 14) (pc' := 41) rfl (j52_86 hby 8 rfl) rfl (flt (by decide)).2.1 (by decide) (by decide) ?_
    exact X18.returnOut hx hrt (j52_86 hby 21 rfl) hr
def own_Qli72 (Z : State) (u t : Addr) (ku kt : ClassId) (fm : Value) (vs : List Value) (v0 v1 w2 : Int32) (h0 : Heap) (n0 : Nat) (v : Option Value) (h : Heap) (L : List Loc) : Prop := v = none ∧ Fr n0 L ∧ Keep h0 h [t] ∧ Arv Z h t kt .byte (32 : Int32) ((((vs.set 14 (oLoL v0)).set 15 (oHoH v0)).set 16 (oLoL v1)).set 17 (oHoH v1)) (.int 0)
theorem own_li72 (hw : own_HW a0 Z) {u t : Addr} {ku kt : ClassId} {fm : Value} {vs : List Value} {v0 v1 w2 : Int32}  (Z0 : n0 ≤ h0.size) (A_u : Arv Z h0 u ku .byte (2 : Int32) [(.int v0), (.int v1)] (.int 0)) (A_t : Arv Z h0 t kt .byte (32 : Int32) vs (.int 0)) (g_t : n0 ≤ t) (n_u_t : u ≠ t) (SS : own_ST Z h0 w2 fm) (lvs : vs.length = 32) : own_M l Z h0 y_38 jdk_43_method_50_code 5 none (rm 4 0 0 60) #[(.ref u), (.int 0), (.ref t), (.int 7), (.int 2)] (own_Qli72 Z u t ku kt fm vs v0 v1 w2 h0 n0) := by
  refine own_go #[vR u, vI 0, vR t, vI 7, vI 2] (plainFor_of_name own_pn2) (fun m => rfl) fun p e s m below meth c s₁ hx hby hz hZ hown hnm hrt X0 e0 => ?_
  obtain ⟨_, T10, L10, X10, ⟨rfl, Nq10, K10, Po10_0⟩, st10⟩ := own_cs 0 X0 hx hZ hown (ow hw 286 rfl) (ow hw 287 rfl) (ow hw 21 rfl) (ow hw 288 rfl) (own_ui72 hw  Z0 A_u A_t g_t n_u_t SS lvs) e0 (g := (mkF m 6 #[vR u, vI 0, vR t, vI 7, vI 2] [(.int 2), (.int 7), (.ref t), (.int 0), (.ref u)])) (rest := []) (lenOf own_pd18 rfl) (j43_50 hby 5 rfl) hz
  have Na11 := Fr.app (Fr.nil n0) Nq10
  refine ⟨_, _, _, _, none, X10, (fun _ => rfl), by decide, by decide, ?_, fun fs hr => ?_⟩
  · show own_Qli72 Z u t ku kt fm vs v0 v1 w2 h0 n0 _ T10.heap _
    exact ⟨rfl, Na11, ((Keep.refl h0 [t]).trans K10 ((allS (Or.inl (List.mem_of_getElem? (i := 0) rfl)) all0))), Po10_0⟩
  · refine sA X0.here hx (j43_50 hby 0 rfl) ?_
    refine sI X0.here hx (j43_50 hby 1 rfl) ?_
    refine sA X0.here hx (j43_50 hby 2 rfl) ?_
    refine sI X0.here hx (j43_50 hby 3 rfl) ?_
    refine sJ X0.here hx (j43_50 hby 4 rfl) ?_
    refine st10 _ ?_
    exact X10.returnOut hx hrt (j43_50 hby 6 rfl) hr
def own_Qui81 (Z : State) (u t : Addr) (ku kt : ClassId) (fm : Value) (vs : List Value) (v0 w2 : Int32) (h0 : Heap) (n0 : Nat) (v : Option Value) (h : Heap) (L : List Loc) : Prop := v = none ∧ Fr n0 L ∧ Keep h0 h [t] ∧ Arv Z h t kt .byte (32 : Int32) ((vs.set 16 (oLoL v0)).set 17 (oHoH v0)) (.int 0)
theorem own_ui81 (hw : own_HW a0 Z) {u t : Addr} {ku kt : ClassId} {fm : Value} {vs : List Value} {v0 w2 : Int32}  (Z0 : n0 ≤ h0.size) (A_u : Arv Z h0 u ku .byte (1 : Int32) [(.int v0)] (.int 0)) (A_t : Arv Z h0 t kt .byte (32 : Int32) vs (.int 0)) (g_t : n0 ≤ t) (n_u_t : u ≠ t) (SS : own_ST Z h0 w2 fm) (lvs : vs.length = 32) : own_M l Z h0 y_37 jdk_52_method_86_code 6 none (rm 3 0 0 43) #[(.ref u), (.int 0), (.ref t), (.int 8), (.int 1)] (own_Qui81 Z u t ku kt fm vs v0 w2 h0 n0) := by
  refine own_go #[vR u, vI 0, vR t, vI 8, vI 1, vU] (plainFor_of_name own_pn4) (fun m => rfl) fun p e s m below meth c s₁ hx hby hz hZ hown hnm hrt X0 e0 => ?_
  obtain ⟨_, T10, L10, X10, ⟨rfl, Nq10, e10⟩, st10⟩ := own_cs 0 X0 hx hZ hown (ow hw 289 rfl) (ow hw 290 rfl) (ow hw 21 rfl) (ow hw 291 rfl) (own_ufs hw (8 : Int32) (1 : Int32) (16 : Int32) Z0 A_t SS (by decide) (by decide) (by decide)) e0 (g := (mkF m 4 #[vR u, vI 0, vR t, vI 8, vI 1, vU] [(.ref t), (.int 1), (.int 8)])) (rest := []) (lenOf own_pd11 rfl) (j52_86 hby 3 rfl) hz
  have Na11 := Fr.app (Fr.nil n0) Nq10
  obtain ⟨cl12, Ar12, q12, S12, M12, H12, G12⟩ := id A_u
  have hin12 : ¬ ((0 : Int32) < 0 ∨ cl12.slots.size ≤ ((0 : Int32)).toNatClampNeg) := inb_of S12 ⟨by decide, by decide⟩
  obtain ⟨_, T13, L13, X13, ⟨rfl, Nq13, K13, Po13_0⟩, st13⟩ := own_cs 0 X10 hx hZ hown (ow hw 244 rfl) (ow hw 245 rfl) (ow hw 21 rfl) (ow hw 246 rfl) (own_pc hw (8 : Int32) (v0 &&& (255 : Int32)) ((vs.set 16 (oLoL v0)).set 17 (oHoH v0)) (16 : Int32) (17 : Int32) 16 17 Z0 A_t g_t SS (by decide) (by decide) (by decide) (by decide) rfl rfl (by first | (rw [lvs]; decide) | (simp only [List.length_set]; rw [lvs]; decide)) (by first | (rw [lvs]; decide) | (simp only [List.length_set]; rw [lvs]; decide)) rfl) e10 (g := (mkF m 32 #[vR u, vI 1, vR t, vI 9, vI 1, vI 0] [(.int (v0 &&& (255 : Int32))), (.int 8), (.ref t)])) (rest := []) (lenOf own_pd17 rfl) (j52_86 hby 18 rfl) hz
  have Na14 := Fr.app Na11 Nq13
  refine ⟨_, _, _, _, none, X13, (fun _ => rfl), by decide, by decide, ?_, fun fs hr => ?_⟩
  · show own_Qui81 Z u t ku kt fm vs v0 w2 h0 n0 _ T13.heap _
    exact ⟨rfl, Na14, ((Keep.refl h0 [t]).trans K13 ((allS (Or.inl (List.mem_of_getElem? (i := 0) rfl)) all0))), Po13_0⟩
  · refine sI X0.here hx (j52_86 hby 0 rfl) ?_
    refine sJ X0.here hx (j52_86 hby 1 rfl) ?_
    refine sA X0.here hx (j52_86 hby 2 rfl) ?_
    refine st10 _ ?_
    refine sC X10.here hx (j52_86 hby 4 rfl) ?_
    refine XS.istore X10.here hx rfl (j52_86 hby 5 rfl) rfl (l' := #[vR u, vI 0, vR t, vI 8, vI 1, vI 0]) rfl ?_
    refine sJ X10.here hx (j52_86 hby 6 rfl) ?_
    refine sJ X10.here hx (j52_86 hby 7 rfl) ?_
    refine XS.icmpNo X10.here hx rfl (j52_86 hby 8 rfl) rfl (tlt (by decide)).2.1 ?_
    refine sA X10.here hx (j52_86 hby 9 rfl) ?_
    refine sI X10.here hx (j52_86 hby 10 rfl) ?_
    refine XS.iinc X10.here hx rfl (j52_86 hby 11 rfl) rfl (l' := #[vR u, vI 0, vR t, vI 9, vI 1, vI 0]) rfl ?_
    refine sA X10.here hx (j52_86 hby 12 rfl) ?_
    refine sI X10.here hx (j52_86 hby 13 rfl) ?_
    refine XS.iinc X10.here hx rfl (j52_86 hby 14 rfl) rfl (l' := #[vR u, vI 1, vR t, vI 9, vI 1, vI 0]) rfl ?_
    refine X10.baloadBytes hx (j := (0 : Int32)) (v := (.int v0)) (by rw [e10]; exact Ar12.1) (State.isArrayOf_alike hZ.alike Ar12.2.1) Ar12.2.2 hin12 (Has.at H12 hin12 rfl) (g := (mkF m 27 #[vR u, vI 1, vR t, vI 9, vI 1, vI 0] [(.int 0), (.ref u), (.int 8), (.ref t)])) rfl rfl (j52_86 hby 15 rfl) _ ?_
    refine XS.sipush X10.here hx rfl (j52_86 hby 16 rfl) ?_
    refine XS.iand X10.here hx rfl (j52_86 hby 17 rfl) rfl ?_
    refine st13 _ ?_
    refine XS.iinc X13.here hx rfl (j52_86 hby 19 rfl) rfl (l' := #[vR u, vI 1, vR t, vI 9, vI 1, vI 1]) rfl ?_
    refine XS.goto X13.here hx rfl (pc0 := 38) (pc' := 10) rfl (j52_86 hby 20 rfl) (by decide) (by decide) ?_
    refine sJ X13.here hx (j52_86 hby 6 rfl) ?_
    refine sJ X13.here hx (j52_86 hby 7 rfl) ?_
    refine XS.icmpYes X13.here hx rfl (pc0 := 14) (pc' := 41) rfl (j52_86 hby 8 rfl) rfl (flt (by decide)).2.1 (by decide) (by decide) ?_
    exact X13.returnOut hx hrt (j52_86 hby 21 rfl) hr
def own_Qli81 (Z : State) (u t : Addr) (ku kt : ClassId) (fm : Value) (vs : List Value) (v0 w2 : Int32) (h0 : Heap) (n0 : Nat) (v : Option Value) (h : Heap) (L : List Loc) : Prop := v = none ∧ Fr n0 L ∧ Keep h0 h [t] ∧ Arv Z h t kt .byte (32 : Int32) ((vs.set 16 (oLoL v0)).set 17 (oHoH v0)) (.int 0)
theorem own_li81 (hw : own_HW a0 Z) {u t : Addr} {ku kt : ClassId} {fm : Value} {vs : List Value} {v0 w2 : Int32}  (Z0 : n0 ≤ h0.size) (A_u : Arv Z h0 u ku .byte (1 : Int32) [(.int v0)] (.int 0)) (A_t : Arv Z h0 t kt .byte (32 : Int32) vs (.int 0)) (g_t : n0 ≤ t) (n_u_t : u ≠ t) (SS : own_ST Z h0 w2 fm) (lvs : vs.length = 32) : own_M l Z h0 y_38 jdk_43_method_50_code 5 none (rm 4 0 0 60) #[(.ref u), (.int 0), (.ref t), (.int 8), (.int 1)] (own_Qli81 Z u t ku kt fm vs v0 w2 h0 n0) := by
  refine own_go #[vR u, vI 0, vR t, vI 8, vI 1] (plainFor_of_name own_pn2) (fun m => rfl) fun p e s m below meth c s₁ hx hby hz hZ hown hnm hrt X0 e0 => ?_
  obtain ⟨_, T10, L10, X10, ⟨rfl, Nq10, K10, Po10_0⟩, st10⟩ := own_cs 0 X0 hx hZ hown (ow hw 286 rfl) (ow hw 287 rfl) (ow hw 21 rfl) (ow hw 288 rfl) (own_ui81 hw  Z0 A_u A_t g_t n_u_t SS lvs) e0 (g := (mkF m 6 #[vR u, vI 0, vR t, vI 8, vI 1] [(.int 1), (.int 8), (.ref t), (.int 0), (.ref u)])) (rest := []) (lenOf own_pd18 rfl) (j43_50 hby 5 rfl) hz
  have Na11 := Fr.app (Fr.nil n0) Nq10
  refine ⟨_, _, _, _, none, X10, (fun _ => rfl), by decide, by decide, ?_, fun fs hr => ?_⟩
  · show own_Qli81 Z u t ku kt fm vs v0 w2 h0 n0 _ T10.heap _
    exact ⟨rfl, Na11, ((Keep.refl h0 [t]).trans K10 ((allS (Or.inl (List.mem_of_getElem? (i := 0) rfl)) all0))), Po10_0⟩
  · refine sA X0.here hx (j43_50 hby 0 rfl) ?_
    refine sI X0.here hx (j43_50 hby 1 rfl) ?_
    refine sA X0.here hx (j43_50 hby 2 rfl) ?_
    refine sI X0.here hx (j43_50 hby 3 rfl) ?_
    refine sJ X0.here hx (j43_50 hby 4 rfl) ?_
    refine st10 _ ?_
    exact X10.returnOut hx hrt (j43_50 hby 6 rfl) hr
def own_Qui82 (Z : State) (u t : Addr) (ku kt : ClassId) (fm : Value) (vs : List Value) (v0 v1 w2 : Int32) (h0 : Heap) (n0 : Nat) (v : Option Value) (h : Heap) (L : List Loc) : Prop := v = none ∧ Fr n0 L ∧ Keep h0 h [t] ∧ Arv Z h t kt .byte (32 : Int32) ((((vs.set 16 (oLoL v0)).set 17 (oHoH v0)).set 18 (oLoL v1)).set 19 (oHoH v1)) (.int 0)
theorem own_ui82 (hw : own_HW a0 Z) {u t : Addr} {ku kt : ClassId} {fm : Value} {vs : List Value} {v0 v1 w2 : Int32}  (Z0 : n0 ≤ h0.size) (A_u : Arv Z h0 u ku .byte (2 : Int32) [(.int v0), (.int v1)] (.int 0)) (A_t : Arv Z h0 t kt .byte (32 : Int32) vs (.int 0)) (g_t : n0 ≤ t) (n_u_t : u ≠ t) (SS : own_ST Z h0 w2 fm) (lvs : vs.length = 32) : own_M l Z h0 y_37 jdk_52_method_86_code 6 none (rm 3 0 0 43) #[(.ref u), (.int 0), (.ref t), (.int 8), (.int 2)] (own_Qui82 Z u t ku kt fm vs v0 v1 w2 h0 n0) := by
  refine own_go #[vR u, vI 0, vR t, vI 8, vI 2, vU] (plainFor_of_name own_pn4) (fun m => rfl) fun p e s m below meth c s₁ hx hby hz hZ hown hnm hrt X0 e0 => ?_
  obtain ⟨_, T10, L10, X10, ⟨rfl, Nq10, e10⟩, st10⟩ := own_cs 0 X0 hx hZ hown (ow hw 289 rfl) (ow hw 290 rfl) (ow hw 21 rfl) (ow hw 291 rfl) (own_ufs hw (8 : Int32) (2 : Int32) (16 : Int32) Z0 A_t SS (by decide) (by decide) (by decide)) e0 (g := (mkF m 4 #[vR u, vI 0, vR t, vI 8, vI 2, vU] [(.ref t), (.int 2), (.int 8)])) (rest := []) (lenOf own_pd11 rfl) (j52_86 hby 3 rfl) hz
  have Na11 := Fr.app (Fr.nil n0) Nq10
  obtain ⟨cl12, Ar12, q12, S12, M12, H12, G12⟩ := id A_u
  have hin12 : ¬ ((0 : Int32) < 0 ∨ cl12.slots.size ≤ ((0 : Int32)).toNatClampNeg) := inb_of S12 ⟨by decide, by decide⟩
  obtain ⟨_, T13, L13, X13, ⟨rfl, Nq13, K13, Po13_0⟩, st13⟩ := own_cs 0 X10 hx hZ hown (ow hw 244 rfl) (ow hw 245 rfl) (ow hw 21 rfl) (ow hw 246 rfl) (own_pc hw (8 : Int32) (v0 &&& (255 : Int32)) ((vs.set 16 (oLoL v0)).set 17 (oHoH v0)) (16 : Int32) (17 : Int32) 16 17 Z0 A_t g_t SS (by decide) (by decide) (by decide) (by decide) rfl rfl (by first | (rw [lvs]; decide) | (simp only [List.length_set]; rw [lvs]; decide)) (by first | (rw [lvs]; decide) | (simp only [List.length_set]; rw [lvs]; decide)) rfl) e10 (g := (mkF m 32 #[vR u, vI 1, vR t, vI 9, vI 2, vI 0] [(.int (v0 &&& (255 : Int32))), (.int 8), (.ref t)])) (rest := []) (lenOf own_pd17 rfl) (j52_86 hby 18 rfl) hz
  have Na14 := Fr.app Na11 Nq13
  have Cf15 := A_u.keep K13 (ninS n_u_t nin0)
  obtain ⟨cl16, Ar16, q16, S16, M16, H16, G16⟩ := id Cf15
  have hin16 : ¬ ((1 : Int32) < 0 ∨ cl16.slots.size ≤ ((1 : Int32)).toNatClampNeg) := inb_of S16 ⟨by decide, by decide⟩
  have Cf17 := own_stK SS K13 ((allS (A_t).nostat all0))
  obtain ⟨_, T18, L18, X18, ⟨rfl, Nq18, K18, Po18_0⟩, st18⟩ := own_cs 0 X13 hx hZ hown (ow hw 244 rfl) (ow hw 245 rfl) (ow hw 21 rfl) (ow hw 246 rfl) (own_pc hw (9 : Int32) (v1 &&& (255 : Int32)) ((((vs.set 16 (oLoL v0)).set 17 (oHoH v0)).set 18 (oLoL v1)).set 19 (oHoH v1)) (18 : Int32) (19 : Int32) 18 19 (Nat.le_trans Z0 K13.1) Po13_0 g_t Cf17 (by decide) (by decide) (by decide) (by decide) rfl rfl (by first | (rw [lvs]; decide) | (simp only [List.length_set]; rw [lvs]; decide)) (by first | (rw [lvs]; decide) | (simp only [List.length_set]; rw [lvs]; decide)) rfl) rfl (g := (mkF m 32 #[vR u, vI 2, vR t, vI 10, vI 2, vI 1] [(.int (v1 &&& (255 : Int32))), (.int 9), (.ref t)])) (rest := []) (lenOf own_pd17 rfl) (j52_86 hby 18 rfl) hz
  have Na19 := Fr.app Na14 Nq18
  refine ⟨_, _, _, _, none, X18, (fun _ => rfl), by decide, by decide, ?_, fun fs hr => ?_⟩
  · show own_Qui82 Z u t ku kt fm vs v0 v1 w2 h0 n0 _ T18.heap _
    exact ⟨rfl, Na19, (((Keep.refl h0 [t]).trans K13 ((allS (Or.inl (List.mem_of_getElem? (i := 0) rfl)) all0))).trans K18 ((allS (Or.inl (List.mem_of_getElem? (i := 0) rfl)) all0))), Po18_0⟩
  · refine sI X0.here hx (j52_86 hby 0 rfl) ?_
    refine sJ X0.here hx (j52_86 hby 1 rfl) ?_
    refine sA X0.here hx (j52_86 hby 2 rfl) ?_
    refine st10 _ ?_
    refine sC X10.here hx (j52_86 hby 4 rfl) ?_
    refine XS.istore X10.here hx rfl (j52_86 hby 5 rfl) rfl (l' := #[vR u, vI 0, vR t, vI 8, vI 2, vI 0]) rfl ?_
    refine sJ X10.here hx (j52_86 hby 6 rfl) ?_
    refine sJ X10.here hx (j52_86 hby 7 rfl) ?_
    refine XS.icmpNo X10.here hx rfl (j52_86 hby 8 rfl) rfl (tlt (by decide)).2.1 ?_
    refine sA X10.here hx (j52_86 hby 9 rfl) ?_
    refine sI X10.here hx (j52_86 hby 10 rfl) ?_
    refine XS.iinc X10.here hx rfl (j52_86 hby 11 rfl) rfl (l' := #[vR u, vI 0, vR t, vI 9, vI 2, vI 0]) rfl ?_
    refine sA X10.here hx (j52_86 hby 12 rfl) ?_
    refine sI X10.here hx (j52_86 hby 13 rfl) ?_
    refine XS.iinc X10.here hx rfl (j52_86 hby 14 rfl) rfl (l' := #[vR u, vI 1, vR t, vI 9, vI 2, vI 0]) rfl ?_
    refine X10.baloadBytes hx (j := (0 : Int32)) (v := (.int v0)) (by rw [e10]; exact Ar12.1) (State.isArrayOf_alike hZ.alike Ar12.2.1) Ar12.2.2 hin12 (Has.at H12 hin12 rfl) (g := (mkF m 27 #[vR u, vI 1, vR t, vI 9, vI 2, vI 0] [(.int 0), (.ref u), (.int 8), (.ref t)])) rfl rfl (j52_86 hby 15 rfl) _ ?_
    refine XS.sipush X10.here hx rfl (j52_86 hby 16 rfl) ?_
    refine XS.iand X10.here hx rfl (j52_86 hby 17 rfl) rfl ?_
    refine st13 _ ?_
    refine XS.iinc X13.here hx rfl (j52_86 hby 19 rfl) rfl (l' := #[vR u, vI 1, vR t, vI 9, vI 2, vI 1]) rfl ?_
    refine XS.goto X13.here hx rfl (pc0 := 38) (pc' := 10) rfl (j52_86 hby 20 rfl) (by decide) (by decide) ?_
    refine sJ X13.here hx (j52_86 hby 6 rfl) ?_
    refine sJ X13.here hx (j52_86 hby 7 rfl) ?_
    refine XS.icmpNo X13.here hx rfl (j52_86 hby 8 rfl) rfl (tlt (by decide)).2.1 ?_
    refine sA X13.here hx (j52_86 hby 9 rfl) ?_
    refine sI X13.here hx (j52_86 hby 10 rfl) ?_
    refine XS.iinc X13.here hx rfl (j52_86 hby 11 rfl) rfl (l' := #[vR u, vI 1, vR t, vI 10, vI 2, vI 1]) rfl ?_
    refine sA X13.here hx (j52_86 hby 12 rfl) ?_
    refine sI X13.here hx (j52_86 hby 13 rfl) ?_
    refine XS.iinc X13.here hx rfl (j52_86 hby 14 rfl) rfl (l' := #[vR u, vI 2, vR t, vI 10, vI 2, vI 1]) rfl ?_
    refine X13.baloadBytes hx (j := (1 : Int32)) (v := (.int v1)) Ar16.1 (State.isArrayOf_alike hZ.alike Ar16.2.1) Ar16.2.2 hin16 (Has.at H16 hin16 rfl) (g := (mkF m 27 #[vR u, vI 2, vR t, vI 10, vI 2, vI 1] [(.int 1), (.ref u), (.int 9), (.ref t)])) rfl rfl (j52_86 hby 15 rfl) _ ?_
    refine XS.sipush X13.here hx rfl (j52_86 hby 16 rfl) ?_
    refine XS.iand X13.here hx rfl (j52_86 hby 17 rfl) rfl ?_
    refine st18 _ ?_
    refine XS.iinc X18.here hx rfl (j52_86 hby 19 rfl) rfl (l' := #[vR u, vI 2, vR t, vI 10, vI 2, vI 2]) rfl ?_
    refine XS.goto X18.here hx rfl (pc0 := 38) (pc' := 10) rfl (j52_86 hby 20 rfl) (by decide) (by decide) ?_
    refine sJ X18.here hx (j52_86 hby 6 rfl) ?_
    refine sJ X18.here hx (j52_86 hby 7 rfl) ?_
    refine XS.icmpYes X18.here hx rfl (pc0 := 14) (pc' := 41) rfl (j52_86 hby 8 rfl) rfl (flt (by decide)).2.1 (by decide) (by decide) ?_
    exact X18.returnOut hx hrt (j52_86 hby 21 rfl) hr
def own_Qli82 (Z : State) (u t : Addr) (ku kt : ClassId) (fm : Value) (vs : List Value) (v0 v1 w2 : Int32) (h0 : Heap) (n0 : Nat) (v : Option Value) (h : Heap) (L : List Loc) : Prop := v = none ∧ Fr n0 L ∧ Keep h0 h [t] ∧ Arv Z h t kt .byte (32 : Int32) ((((vs.set 16 (oLoL v0)).set 17 (oHoH v0)).set 18 (oLoL v1)).set 19 (oHoH v1)) (.int 0)
theorem own_li82 (hw : own_HW a0 Z) {u t : Addr} {ku kt : ClassId} {fm : Value} {vs : List Value} {v0 v1 w2 : Int32}  (Z0 : n0 ≤ h0.size) (A_u : Arv Z h0 u ku .byte (2 : Int32) [(.int v0), (.int v1)] (.int 0)) (A_t : Arv Z h0 t kt .byte (32 : Int32) vs (.int 0)) (g_t : n0 ≤ t) (n_u_t : u ≠ t) (SS : own_ST Z h0 w2 fm) (lvs : vs.length = 32) : own_M l Z h0 y_38 jdk_43_method_50_code 5 none (rm 4 0 0 60) #[(.ref u), (.int 0), (.ref t), (.int 8), (.int 2)] (own_Qli82 Z u t ku kt fm vs v0 v1 w2 h0 n0) := by
  refine own_go #[vR u, vI 0, vR t, vI 8, vI 2] (plainFor_of_name own_pn2) (fun m => rfl) fun p e s m below meth c s₁ hx hby hz hZ hown hnm hrt X0 e0 => ?_
  obtain ⟨_, T10, L10, X10, ⟨rfl, Nq10, K10, Po10_0⟩, st10⟩ := own_cs 0 X0 hx hZ hown (ow hw 286 rfl) (ow hw 287 rfl) (ow hw 21 rfl) (ow hw 288 rfl) (own_ui82 hw  Z0 A_u A_t g_t n_u_t SS lvs) e0 (g := (mkF m 6 #[vR u, vI 0, vR t, vI 8, vI 2] [(.int 2), (.int 8), (.ref t), (.int 0), (.ref u)])) (rest := []) (lenOf own_pd18 rfl) (j43_50 hby 5 rfl) hz
  have Na11 := Fr.app (Fr.nil n0) Nq10
  refine ⟨_, _, _, _, none, X10, (fun _ => rfl), by decide, by decide, ?_, fun fs hr => ?_⟩
  · show own_Qli82 Z u t ku kt fm vs v0 v1 w2 h0 n0 _ T10.heap _
    exact ⟨rfl, Na11, ((Keep.refl h0 [t]).trans K10 ((allS (Or.inl (List.mem_of_getElem? (i := 0) rfl)) all0))), Po10_0⟩
  · refine sA X0.here hx (j43_50 hby 0 rfl) ?_
    refine sI X0.here hx (j43_50 hby 1 rfl) ?_
    refine sA X0.here hx (j43_50 hby 2 rfl) ?_
    refine sI X0.here hx (j43_50 hby 3 rfl) ?_
    refine sJ X0.here hx (j43_50 hby 4 rfl) ?_
    refine st10 _ ?_
    exact X10.returnOut hx hrt (j43_50 hby 6 rfl) hr
def own_QinfL (Z : State) (sb t : Addr) (kt : ClassId) (w2 : Int32) (fm : Value) (h0 : Heap) (n0 : Nat) (v : Option Value) (h : Heap) (L : List Loc) : Prop := ∃ (t2 : Addr) (kt2 : ClassId), v = none ∧ Fr n0 L ∧ Keep h0 h [sb] ∧ own_Bd Z h sb t2 kt2 1 5 32 [(oLoL 104), (oHoH 104), (oLoL 97), (oHoH 97), (oLoL 115), (oHoH 115), (oLoL 112), (oHoH 112), (oLoL 58), (oHoH 58), z0, z0, z0, z0, z0, z0, z0, z0, z0, z0, z0, z0, z0, z0, z0, z0, z0, z0, z0, z0, z0, z0] ∧ h0.size ≤ t2
theorem own_infL (hw : own_HW a0 Z) {sb t : Addr} {kt : ClassId} {w2 : Int32} {fm : Value}  (Z0 : n0 ≤ h0.size) (B_sb : own_Bd Z h0 sb t kt 0 5 16 [(.int 104), (.int 97), (.int 115), (.int 112), (.int 58), z0, z0, z0, z0, z0, z0, z0, z0, z0, z0, z0]) (g_sb : n0 ≤ sb) (SS : own_ST Z h0 w2 fm) : own_M l Z h0 y_39 jdk_68_method_11_code 2 none (rm 5 1 32 76) #[(.ref sb)] (own_QinfL Z sb t kt w2 fm h0 n0) := by
  refine own_go #[vR sb, vU] (plainFor_of_name own_pn5) (fun m => rfl) fun p e s m below meth c s₁ hx hby hz hZ hown hnm hrt X0 e0 => ?_
  obtain ⟨_, T10, L10, X10, ⟨rfl, Nq10, e10⟩, st10⟩ := own_cv 0 X0 hx hZ hown (ow hw 171 rfl) (ow hw 172 rfl) (ow hw 140 rfl) (ow hw 174 rfl) (ow hw 173 rfl) (ow hw 115 rfl) (ow hw 175 rfl) (own_aisl0 hw  Z0 B_sb.2.2.1 SS) e0 B_sb.1 (g := (mkF m 1 #[vR sb, vU] [(.ref sb)])) (rest := []) (lenOf own_pd12 rfl) (j68_11 hby 1 rfl) hz
  have Na11 := Fr.app (Fr.nil n0) Nq10
  obtain ⟨T12, X12, e12, st12⟩ := getF X10 hx hZ hown (host := "") (Or.inl (ow hw 119 rfl)) Via.refl e10 B_sb.2.1 (g := (mkF m 9 #[vR sb, vU] [(.ref sb)])) rfl rfl (j68_11 hby 4 rfl)
  obtain ⟨cl13, Ar13, q13, S13, M13, H13, G13⟩ := id B_sb.2.2.2.2.2
  obtain ⟨_, T14, L14, X14, ⟨t_14, kt_14, rfl, Nq14, E14, Po14_0, Po14_1⟩, st14⟩ := own_cs 0 X12 hx hZ hown (ow hw 282 rfl) (ow hw 238 rfl) (ow hw 21 rfl) (ow hw 239 rfl) (own_nbf16 hw  Z0 ) e12 (g := (mkF m 13 #[vR sb, vU] [(.int 16)])) (rest := []) (lenOf own_pd19 rfl) (j68_11 hby 6 rfl) hz
  have Na15 := Fr.app Na11 Nq14
  obtain ⟨T16, X16, e16, st16⟩ := getF X14 hx hZ hown (host := "") (Or.inl (ow hw 119 rfl)) Via.refl rfl (B_sb.2.1.ext E14) (g := (mkF m 18 #[vR sb, vR t_14] [(.ref sb)])) rfl rfl (j68_11 hby 9 rfl)
  obtain ⟨T17, X17, e17, st17⟩ := getF X16 hx hZ hown (host := "") (Or.inl (ow hw 135 rfl)) Via.refl e16 (B_sb.2.2.2.1.ext E14) (g := (mkF m 25 #[vR sb, vR t_14] [(.ref sb), (.int 0), (.ref t_14), (.int 0), (.ref t)])) rfl rfl (j68_11 hby 14 rfl)
  obtain ⟨_, T18, L18, X18, ⟨rfl, Nq18, K18, Po18_0⟩, st18⟩ := own_cs 0 X17 hx hZ hown (ow hw 283 rfl) (ow hw 284 rfl) (ow hw 81 rfl) (ow hw 285 rfl) (own_li05 hw  (Nat.le_trans Z0 E14.1) (B_sb.2.2.2.2.2.ext E14) Po14_0 (Nat.le_trans Z0 Po14_1) (Nat.ne_of_lt (Nat.lt_of_lt_of_le (B_sb.2.2.2.2.2).lt Po14_1)) (SS.ext E14)) e17 (g := (mkF m 28 #[vR sb, vR t_14] [(.int 5), (.int 0), (.ref t_14), (.int 0), (.ref t)])) (rest := []) (lenOf own_pd18 rfl) (j68_11 hby 15 rfl) hz
  have Na19 := Fr.app Na15 Nq18
  have Xt20 : Ext h0 T18.heap := (own_xk E14 K18 ((allS Po14_1 all0)))
  obtain ⟨T21, h21, X21, e21, W21, st21⟩ := putF X18 hx hZ hown (host := "") (Or.inl (ow hw 119 rfl)) Via.refl rfl (B_sb.2.1.ext Xt20) (B_sb.1.ext Xt20) (Or.inl (ow hw 120 rfl)) (ow hw 106 rfl) (ty := (.array .byte)) (by decide) rfl rfl (g := (mkF m 33 #[vR sb, vR t_14] [(.ref t_14), (.ref sb)])) rfl rfl (j68_11 hby 18 rfl)
  have Ew21 := (B_sb.1.ext Xt20).wr W21
  have Fw21 := (B_sb.2.1.ext Xt20).same W21
  have Fo22 := (B_sb.2.2.1.ext Xt20).other W21 (Or.inr (slot_ne (Or.inl (ow hw 122 rfl)) (Or.inl (ow hw 120 rfl)) (by decide) (t := .byte) (t' := (.array .byte)) (by decide) (by decide)))
  have Fo23 := (B_sb.2.2.2.1.ext Xt20).other W21 (Or.inr (slot_ne (Or.inl (ow hw 136 rfl)) (Or.inl (ow hw 120 rfl)) (by decide) (t := .int) (t' := (.array .byte)) (by decide) (by decide)))
  have Fo24 := (B_sb.2.2.2.2.1.ext Xt20).other W21 (Or.inr (slot_ne (Or.inl (ow hw 307 rfl)) (Or.inl (ow hw 120 rfl)) (by decide) (t := .boolean) (t' := (.array .byte)) (by decide) (by decide)))
  have N21 := Fr.snoc X21 Na19 g_sb
  obtain ⟨T25, h25, X25, e25, W25, st25⟩ := putFN X21 hx hZ hown (ow hw 121 rfl) Via.refl e21 Fo22 Ew21 (Or.inl (ow hw 122 rfl)) (ow hw 106 rfl) (ty := .byte) (v' := (.int 1)) (by decide) rfl rfl (g := (mkF m 38 #[vR sb, vR t_14] [(.int 1), (.ref sb)])) rfl rfl (j68_11 hby 21 rfl)
  have Ew25 := Ew21.wr W25
  have Fo26 := Fw21.other W25 (Or.inr (slot_ne (Or.inl (ow hw 120 rfl)) (Or.inl (ow hw 122 rfl)) (by decide) (t := (.array .byte)) (t' := .byte) (by decide) (by decide)))
  have Fw25 := Fo22.same W25
  have Fo27 := Fo23.other W25 (Or.inr (slot_ne (Or.inl (ow hw 136 rfl)) (Or.inl (ow hw 122 rfl)) (by decide) (t := .int) (t' := .byte) (by decide) (by decide)))
  have Fo28 := Fo24.other W25 (Or.inr (slot_ne (Or.inl (ow hw 307 rfl)) (Or.inl (ow hw 122 rfl)) (by decide) (t := .boolean) (t' := .byte) (by decide) (by decide)))
  have N25 := Fr.snoc X25 N21 g_sb
  have Cf29 := Po18_0.other W21 (Ne.symm (Nat.ne_of_lt (Nat.lt_of_lt_of_le (B_sb.1).lt Po14_1)))
  have Cf30 := Cf29.other W25 (Ne.symm (Nat.ne_of_lt (Nat.lt_of_lt_of_le (B_sb.1).lt Po14_1)))
  refine ⟨_, _, _, _, none, X25, (fun _ => rfl), by decide, by decide, ?_, fun fs hr => ?_⟩
  · show own_QinfL Z sb t kt w2 fm h0 n0 _ T25.heap _
    rw [e25]
    exact ⟨t_14, kt_14, rfl, N25, (((((Keep.refl h0 [sb]).ext E14).trans K18 ((allS (Or.inr Po14_1) all0))).wr W21 (Or.inl (List.mem_of_getElem? (i := 0) rfl))).wr W25 (Or.inl (List.mem_of_getElem? (i := 0) rfl))), ⟨Ew25, Fo26, Fw25, Fo27, Fo28, Cf30⟩, Po14_1⟩
  · refine sA X0.here hx (j68_11 hby 0 rfl) ?_
    refine st10 _ ?_
    refine XS.ifYes X10.here hx rfl (pc0 := 4) (pc' := 8) rfl (j68_11 hby 2 rfl) rfl ((if0 _ _).trans (feq (by decide)).2) (by decide) (by decide) ?_
    refine sA X10.here hx (j68_11 hby 3 rfl) ?_
    refine st12 _ ?_
    refine X12.arraylength hx (by rw [e12]; exact Ar13.1) (State.isArrayOf_alike hZ.alike Ar13.2.1) (g := (mkF m 12 #[vR sb, vU] [(.ref t)])) rfl rfl (j68_11 hby 5 rfl) _ ?_
    rw [len_of S13 M13]
    refine st14 _ ?_
    refine XS.astoreN X14.here hx rfl (j68_11 hby 7 rfl) rfl rfl (l' := #[vR sb, vR t_14]) rfl ?_
    refine sA X14.here hx (j68_11 hby 8 rfl) ?_
    refine st16 _ ?_
    refine sC X16.here hx (j68_11 hby 10 rfl) ?_
    refine sA X16.here hx (j68_11 hby 11 rfl) ?_
    refine sC X16.here hx (j68_11 hby 12 rfl) ?_
    refine sA X16.here hx (j68_11 hby 13 rfl) ?_
    refine st17 _ ?_
    refine st18 _ ?_
    refine sA X18.here hx (j68_11 hby 16 rfl) ?_
    refine sA X18.here hx (j68_11 hby 17 rfl) ?_
    refine st21 _ ?_
    refine sA X21.here hx (j68_11 hby 19 rfl) ?_
    refine sC X21.here hx (j68_11 hby 20 rfl) ?_
    refine st25 _ ?_
    exact X25.returnOut hx hrt (j68_11 hby 22 rfl) hr
def own_QinfU (Z : State) (sb : Addr) (w2 : Int32) (fm : Value) (h0 : Heap) (n0 : Nat) (v : Option Value) (h : Heap) (L : List Loc) : Prop := v = none ∧ Fr n0 L ∧ h = h0
theorem own_infU (hw : own_HW a0 Z) {sb : Addr} {w2 : Int32} {fm : Value}  (Z0 : n0 ≤ h0.size) (E_sb : Exa Z h0 sb "java/lang/StringBuilder") (F_sb_coder : Fld Z h0 sb "java/lang/AbstractStringBuilder" "coder" "B" (.int 1)) (SS : own_ST Z h0 w2 fm) : own_M l Z h0 y_39 jdk_68_method_11_code 2 none (rm 1 0 0 12) #[(.ref sb)] (own_QinfU Z sb w2 fm h0 n0) := by
  refine own_go #[vR sb, vU] (plainFor_of_name own_pn5) (fun m => rfl) fun p e s m below meth c s₁ hx hby hz hZ hown hnm hrt X0 e0 => ?_
  obtain ⟨_, T10, L10, X10, ⟨rfl, Nq10, e10⟩, st10⟩ := own_cv 0 X0 hx hZ hown (ow hw 171 rfl) (ow hw 172 rfl) (ow hw 140 rfl) (ow hw 174 rfl) (ow hw 173 rfl) (ow hw 115 rfl) (ow hw 175 rfl) (own_aisl1 hw  Z0 F_sb_coder SS) e0 E_sb (g := (mkF m 1 #[vR sb, vU] [(.ref sb)])) (rest := []) (lenOf own_pd12 rfl) (j68_11 hby 1 rfl) hz
  have Na11 := Fr.app (Fr.nil n0) Nq10
  refine ⟨_, _, _, _, none, X10, (fun _ => rfl), by decide, by decide, ?_, fun fs hr => ?_⟩
  · show own_QinfU Z sb w2 fm h0 n0 _ T10.heap _
    rw [e10]
    exact ⟨rfl, Na11, rfl⟩
  · refine sA X0.here hx (j68_11 hby 0 rfl) ?_
    refine st10 _ ?_
    refine XS.ifNo X10.here hx rfl (j68_11 hby 2 rfl) rfl ((if0 _ _).trans (teq rfl).2) ?_
    exact X10.returnOut hx hrt (j68_11 hby 23 rfl) hr
def own_Qifn00 (Z : State) (sb x : Addr) (w2 : Int32) (fm : Value) (h0 : Heap) (n0 : Nat) (v : Option Value) (h : Heap) (L : List Loc) : Prop := v = none ∧ Fr n0 L ∧ h = h0
theorem own_ifn00 (hw : own_HW a0 Z) {sb x : Addr} {w2 : Int32} {fm : Value}  (Z0 : n0 ≤ h0.size) (F_sb_coder : Fld Z h0 sb "java/lang/AbstractStringBuilder" "coder" "B" (.int 0)) (E_x : Exa Z h0 x "java/lang/String") (F_x_coder : Fld Z h0 x "java/lang/String" "coder" "B" (.int 0)) (SS : own_ST Z h0 w2 fm) : own_M l Z h0 y_40 jdk_68_method_71_code 2 none (rm 1 0 0 13) #[(.ref sb), (.ref x)] (own_Qifn00 Z sb x w2 fm h0 n0) := by
  refine own_go #[vR sb, vR x] (plainFor_of_name own_pn5) (fun m => rfl) fun p e s m below meth c s₁ hx hby hz hZ hown hnm hrt X0 e0 => ?_
  have P5 := SS.2.1
  obtain ⟨T10, X10, e10, st10⟩ := getS2 X0 hx hZ hown (host := "") (Or.inl (ow hw 118 rfl)) Via.refl e0 SS.1 (g := (mkF m 0 #[vR sb, vR x] [])) rfl (j68_71 hby 0 rfl)
  obtain ⟨T11, X11, e11, st11⟩ := getF X10 hx hZ hown (host := "") (Or.inl (ow hw 121 rfl)) Via.refl e10 F_sb_coder (g := (mkF m 7 #[vR sb, vR x] [(.ref sb)])) rfl rfl (j68_71 hby 3 rfl)
  obtain ⟨_, T12, L12, X12, ⟨rfl, Nq12, e12⟩, st12⟩ := own_cv 1 X11 hx hZ hown (ow hw 152 rfl) (ow hw 75 rfl) (ow hw 52 rfl) (ow hw 77 rfl) (ow hw 76 rfl) (ow hw 6 rfl) (ow hw 78 rfl) (own_cod0 hw  Z0 F_x_coder SS) e11 E_x (g := (mkF m 11 #[vR sb, vR x] [(.ref x), (.int 0)])) (rest := [(.int 0)]) (lenOf own_pd0 rfl) (j68_71 hby 5 rfl) hz
  have Na13 := Fr.app (Fr.nil n0) Nq12
  refine ⟨_, _, _, _, none, X12, (fun _ => rfl), by decide, by decide, ?_, fun fs hr => ?_⟩
  · show own_Qifn00 Z sb x w2 fm h0 n0 _ T12.heap _
    rw [e12]
    exact ⟨rfl, Na13, rfl⟩
  · refine st10 _ ?_
    refine XS.ifNo X10.here hx rfl (j68_71 hby 1 rfl) rfl ((if0 _ _).trans (feq P5).1) ?_
    refine sA X10.here hx (j68_71 hby 2 rfl) ?_
    refine st11 _ ?_
    refine sA X11.here hx (j68_71 hby 4 rfl) ?_
    refine st12 _ ?_
    refine XS.icmpYes X12.here hx rfl (pc0 := 14) (pc' := 21) rfl (j68_71 hby 6 rfl) rfl (teq rfl).1 (by decide) (by decide) ?_
    exact X12.returnOut hx hrt (j68_71 hby 7 rfl) hr
def own_Qifn01 (Z : State) (sb t : Addr) (kt : ClassId) (x : Addr) (w2 : Int32) (fm : Value) (h0 : Heap) (n0 : Nat) (v : Option Value) (h : Heap) (L : List Loc) : Prop := ∃ (t2 : Addr) (kt2 : ClassId), v = none ∧ Fr n0 L ∧ Keep h0 h [sb] ∧ own_Bd Z h sb t2 kt2 1 5 32 [(oLoL 104), (oHoH 104), (oLoL 97), (oHoH 97), (oLoL 115), (oHoH 115), (oLoL 112), (oHoH 112), (oLoL 58), (oHoH 58), z0, z0, z0, z0, z0, z0, z0, z0, z0, z0, z0, z0, z0, z0, z0, z0, z0, z0, z0, z0, z0, z0] ∧ h0.size ≤ t2
theorem own_ifn01 (hw : own_HW a0 Z) {sb t : Addr} {kt : ClassId} {x : Addr} {w2 : Int32} {fm : Value}  (Z0 : n0 ≤ h0.size) (B_sb : own_Bd Z h0 sb t kt 0 5 16 [(.int 104), (.int 97), (.int 115), (.int 112), (.int 58), z0, z0, z0, z0, z0, z0, z0, z0, z0, z0, z0]) (g_sb : n0 ≤ sb) (E_x : Exa Z h0 x "java/lang/String") (F_x_coder : Fld Z h0 x "java/lang/String" "coder" "B" (.int 1)) (SS : own_ST Z h0 w2 fm) : own_M l Z h0 y_40 jdk_68_method_71_code 2 none (rm 6 1 32 89) #[(.ref sb), (.ref x)] (own_Qifn01 Z sb t kt x w2 fm h0 n0) := by
  refine own_go #[vR sb, vR x] (plainFor_of_name own_pn5) (fun m => rfl) fun p e s m below meth c s₁ hx hby hz hZ hown hnm hrt X0 e0 => ?_
  have P5 := SS.2.1
  obtain ⟨T10, X10, e10, st10⟩ := getS2 X0 hx hZ hown (host := "") (Or.inl (ow hw 118 rfl)) Via.refl e0 SS.1 (g := (mkF m 0 #[vR sb, vR x] [])) rfl (j68_71 hby 0 rfl)
  obtain ⟨T11, X11, e11, st11⟩ := getF X10 hx hZ hown (host := "") (Or.inl (ow hw 121 rfl)) Via.refl e10 B_sb.2.2.1 (g := (mkF m 7 #[vR sb, vR x] [(.ref sb)])) rfl rfl (j68_71 hby 3 rfl)
  obtain ⟨_, T12, L12, X12, ⟨rfl, Nq12, e12⟩, st12⟩ := own_cv 1 X11 hx hZ hown (ow hw 152 rfl) (ow hw 75 rfl) (ow hw 52 rfl) (ow hw 77 rfl) (ow hw 76 rfl) (ow hw 6 rfl) (ow hw 78 rfl) (own_cod1 hw  Z0 F_x_coder SS) e11 E_x (g := (mkF m 11 #[vR sb, vR x] [(.ref x), (.int 0)])) (rest := [(.int 0)]) (lenOf own_pd0 rfl) (j68_71 hby 5 rfl) hz
  have Na13 := Fr.app (Fr.nil n0) Nq12
  obtain ⟨_, T14, L14, X14, ⟨t2_14, kt2_14, rfl, Nq14, K14, Po14_0, Po14_1⟩, st14⟩ := own_cv 0 X12 hx hZ hown (ow hw 277 rfl) (own_decl (ow hw 278 rfl) (ow hw 281 rfl)) (ow hw 140 rfl) (ow hw 280 rfl) (ow hw 278 rfl) (ow hw 115 rfl) (ow hw 281 rfl) (own_infL hw  Z0 B_sb g_sb SS) e12 B_sb.1 (g := (mkF m 18 #[vR sb, vR x] [(.ref sb)])) (rest := []) (lenOf own_pd20 rfl) (j68_71 hby 9 rfl) hz
  have Na15 := Fr.app Na13 Nq14
  refine ⟨_, _, _, _, none, X14, (fun _ => rfl), by decide, by decide, ?_, fun fs hr => ?_⟩
  · show own_Qifn01 Z sb t kt x w2 fm h0 n0 _ T14.heap _
    exact ⟨t2_14, kt2_14, rfl, Na15, ((Keep.refl h0 [sb]).trans K14 ((allS (Or.inl (List.mem_of_getElem? (i := 0) rfl)) all0))), Po14_0, Po14_1⟩
  · refine st10 _ ?_
    refine XS.ifNo X10.here hx rfl (j68_71 hby 1 rfl) rfl ((if0 _ _).trans (feq P5).1) ?_
    refine sA X10.here hx (j68_71 hby 2 rfl) ?_
    refine st11 _ ?_
    refine sA X11.here hx (j68_71 hby 4 rfl) ?_
    refine st12 _ ?_
    refine XS.icmpNo X12.here hx rfl (j68_71 hby 6 rfl) rfl (feq (by decide)).1 ?_
    refine sA X12.here hx (j68_71 hby 8 rfl) ?_
    refine st14 _ ?_
    exact X14.returnOut hx hrt (j68_71 hby 7 rfl) hr
def own_Qifn10 (Z : State) (sb x : Addr) (w2 : Int32) (fm : Value) (h0 : Heap) (n0 : Nat) (v : Option Value) (h : Heap) (L : List Loc) : Prop := v = none ∧ Fr n0 L ∧ h = h0
theorem own_ifn10 (hw : own_HW a0 Z) {sb x : Addr} {w2 : Int32} {fm : Value}  (Z0 : n0 ≤ h0.size) (E_sb : Exa Z h0 sb "java/lang/StringBuilder") (F_sb_coder : Fld Z h0 sb "java/lang/AbstractStringBuilder" "coder" "B" (.int 1)) (E_x : Exa Z h0 x "java/lang/String") (F_x_coder : Fld Z h0 x "java/lang/String" "coder" "B" (.int 0)) (SS : own_ST Z h0 w2 fm) : own_M l Z h0 y_40 jdk_68_method_71_code 2 none (rm 2 0 0 25) #[(.ref sb), (.ref x)] (own_Qifn10 Z sb x w2 fm h0 n0) := by
  refine own_go #[vR sb, vR x] (plainFor_of_name own_pn5) (fun m => rfl) fun p e s m below meth c s₁ hx hby hz hZ hown hnm hrt X0 e0 => ?_
  have P5 := SS.2.1
  obtain ⟨T10, X10, e10, st10⟩ := getS2 X0 hx hZ hown (host := "") (Or.inl (ow hw 118 rfl)) Via.refl e0 SS.1 (g := (mkF m 0 #[vR sb, vR x] [])) rfl (j68_71 hby 0 rfl)
  obtain ⟨T11, X11, e11, st11⟩ := getF X10 hx hZ hown (host := "") (Or.inl (ow hw 121 rfl)) Via.refl e10 F_sb_coder (g := (mkF m 7 #[vR sb, vR x] [(.ref sb)])) rfl rfl (j68_71 hby 3 rfl)
  obtain ⟨_, T12, L12, X12, ⟨rfl, Nq12, e12⟩, st12⟩ := own_cv 1 X11 hx hZ hown (ow hw 152 rfl) (ow hw 75 rfl) (ow hw 52 rfl) (ow hw 77 rfl) (ow hw 76 rfl) (ow hw 6 rfl) (ow hw 78 rfl) (own_cod0 hw  Z0 F_x_coder SS) e11 E_x (g := (mkF m 11 #[vR sb, vR x] [(.ref x), (.int 1)])) (rest := [(.int 1)]) (lenOf own_pd0 rfl) (j68_71 hby 5 rfl) hz
  have Na13 := Fr.app (Fr.nil n0) Nq12
  obtain ⟨_, T14, L14, X14, ⟨rfl, Nq14, e14⟩, st14⟩ := own_cv 0 X12 hx hZ hown (ow hw 277 rfl) (own_decl (ow hw 278 rfl) (ow hw 281 rfl)) (ow hw 140 rfl) (ow hw 280 rfl) (ow hw 278 rfl) (ow hw 115 rfl) (ow hw 281 rfl) (own_infU hw  Z0 E_sb F_sb_coder SS) e12 E_sb (g := (mkF m 18 #[vR sb, vR x] [(.ref sb)])) (rest := []) (lenOf own_pd20 rfl) (j68_71 hby 9 rfl) hz
  have Na15 := Fr.app Na13 Nq14
  refine ⟨_, _, _, _, none, X14, (fun _ => rfl), by decide, by decide, ?_, fun fs hr => ?_⟩
  · show own_Qifn10 Z sb x w2 fm h0 n0 _ T14.heap _
    rw [e14]
    exact ⟨rfl, Na15, rfl⟩
  · refine st10 _ ?_
    refine XS.ifNo X10.here hx rfl (j68_71 hby 1 rfl) rfl ((if0 _ _).trans (feq P5).1) ?_
    refine sA X10.here hx (j68_71 hby 2 rfl) ?_
    refine st11 _ ?_
    refine sA X11.here hx (j68_71 hby 4 rfl) ?_
    refine st12 _ ?_
    refine XS.icmpNo X12.here hx rfl (j68_71 hby 6 rfl) rfl (feq (by decide)).1 ?_
    refine sA X12.here hx (j68_71 hby 8 rfl) ?_
    refine st14 _ ?_
    exact X14.returnOut hx hrt (j68_71 hby 7 rfl) hr
def own_Qgb0 (Z : State) (x u : Addr) (ku : ClassId) (Nu : Int32) (us : List Value) (t : Addr) (kt : ClassId) (N : Int32) (vs : List Value) (ix w2 dp : Int32) (dn un : Nat) (vsz : List Value) (fm : Value) (h0 : Heap) (n0 : Nat) (v : Option Value) (h : Heap) (L : List Loc) : Prop := v = none ∧ Fr n0 L ∧ Keep h0 h [t] ∧ Arv Z h t kt .byte N vsz (.int 0)
theorem own_gb0 (hw : own_HW a0 Z) {x u : Addr} {ku : ClassId} {Nu : Int32} {us : List Value} {t : Addr} {kt : ClassId} {N : Int32} {vs : List Value} {w2 : Int32} {fm : Value} (ix dp : Int32) (dn un : Nat) (vsz : List Value) (Z0 : n0 ≤ h0.size) (S_x : own_Sr Z h0 x u ku 0 Nu us) (A_t : Arv Z h0 t kt .byte N vs (.int 0)) (g_t : n0 ≤ t) (SS : own_ST Z h0 w2 fm) (hdp : (ix <<< ((0 : Int32) &&& 31)) = dp) (b1 : ¬ dp < 0) (b2 : ¬ Nu < 0) (b3 : dp.toNatClampNeg + Nu.toNatClampNeg ≤ N.toNatClampNeg) (hus : us = (List.range Nu.toNatClampNeg).map fun i => us.getD ((0 : Int32).toNatClampNeg + i) (.int 0)) (hl : dp.toNatClampNeg + Nu.toNatClampNeg ≤ vs.length) (hdn : dp.toNatClampNeg = dn) (hun : Nu.toNatClampNeg = un) (hv : vs.take dn ++ us ++ vs.drop (dn + un) = vsz) : own_M l Z h0 y_41 jdk_42_method_147_code 4 none (rm 1 0 0 18) #[(.ref x), (.ref t), (.int ix), (.int 0)] (own_Qgb0 Z x u ku Nu us t kt N vs ix w2 dp dn un vsz fm h0 n0) := by
  refine own_go #[vR x, vR t, vI ix, vI 0] (plainFor_of_name own_pn0) (fun m => rfl) fun p e s m below meth c s₁ hx hby hz hZ hown hnm hrt X0 e0 => ?_
  obtain ⟨_, T10, L10, X10, ⟨rfl, Nq10, e10⟩, st10⟩ := own_cv 0 X0 hx hZ hown (ow hw 74 rfl) (ow hw 75 rfl) (ow hw 52 rfl) (ow hw 77 rfl) (ow hw 76 rfl) (ow hw 6 rfl) (ow hw 78 rfl) (own_cod0 hw  Z0 S_x.2.2.1 SS) e0 S_x.1 (g := (mkF m 1 #[vR x, vR t, vI ix, vI 0] [(.ref x)])) (rest := []) (lenOf own_pd0 rfl) (j42_147 hby 1 rfl) hz
  have Na11 := Fr.app (Fr.nil n0) Nq10
  obtain ⟨T12, X12, e12, st12⟩ := getF X10 hx hZ hown (host := "") (Or.inl (ow hw 32 rfl)) Via.refl e10 S_x.2.1 (g := (mkF m 9 #[vR x, vR t, vI ix, vI 0] [(.ref x)])) rfl rfl (j42_147 hby 5 rfl)
  obtain ⟨T13, X13, e13, st13⟩ := getF X12 hx hZ hown (host := "") (Or.inl (ow hw 32 rfl)) Via.refl e12 S_x.2.1 (g := (mkF m 18 #[vR x, vR t, vI ix, vI 0] [(.ref x), (.int dp), (.ref t), (.int 0), (.ref u)])) rfl rfl (j42_147 hby 12 rfl)
  obtain ⟨cl14, Ar14, q14, S14, M14, H14, G14⟩ := id S_x.2.2.2
  obtain ⟨T15, h15, L15, X15, e15, N15, K15, A15, st15⟩ := cpA X13 hx hZ hown (ow hw 158 rfl) (ow hw 161 rfl) (ow hw 159 rfl) (ow hw 160 rfl) e13 (us := us) S_x.2.2.2 A_t (Or.inl ⟨rfl, rfl⟩) (by decide) b1 b2 (Nat.le_of_eq (Nat.zero_add _)) b3 hus hl Na11 g_t (g := (mkF m 22 #[vR x, vR t, vI ix, vI 0] [(.int Nu), (.int dp), (.ref t), (.int 0), (.ref u)])) rfl hz rfl (j42_147 hby 14 rfl) (by decide) (W := 0) (Nat.le_of_eq rfl) (by decide)
  have V15 : Arv Z h15 t kt .byte N vsz (.int 0) := by have q := A15; rw [hdn, hun, hv] at q; exact q
  refine ⟨_, _, _, _, none, X15, (fun _ => rfl), by decide, by decide, ?_, fun fs hr => ?_⟩
  · show own_Qgb0 Z x u ku Nu us t kt N vs ix w2 dp dn un vsz fm h0 n0 _ T15.heap _
    rw [e15]
    exact ⟨rfl, N15, ((Keep.refl h0 [t]).trans K15 ((allS (Or.inl (List.mem_of_getElem? (i := 0) rfl)) all0))), V15⟩
  · refine sA X0.here hx (j42_147 hby 0 rfl) ?_
    refine st10 _ ?_
    refine sI X10.here hx (j42_147 hby 2 rfl) ?_
    refine XS.icmpNo X10.here hx rfl (j42_147 hby 3 rfl) rfl (teq rfl).2 ?_
    refine sA X10.here hx (j42_147 hby 4 rfl) ?_
    refine st12 _ ?_
    refine sC X12.here hx (j42_147 hby 6 rfl) ?_
    refine sA X12.here hx (j42_147 hby 7 rfl) ?_
    refine sI X12.here hx (j42_147 hby 8 rfl) ?_
    refine sI X12.here hx (j42_147 hby 9 rfl) ?_
    refine XS.ishl X12.here hx rfl (j42_147 hby 10 rfl) rfl ?_
    show Steps p.tables e below (T12.setTop (mkF m 17 #[vR x, vR t, vI ix, vI 0] [(.int (ix <<< ((0 : Int32) &&& 31))), (.ref t), (.int 0), (.ref u)])) _
    rw [hdp]
    refine sA X12.here hx (j42_147 hby 11 rfl) ?_
    refine st13 _ ?_
    refine X13.arraylength hx (by rw [e13]; exact Ar14.1) (State.isArrayOf_alike hZ.alike Ar14.2.1) (g := (mkF m 21 #[vR x, vR t, vI ix, vI 0] [(.ref u), (.int dp), (.ref t), (.int 0), (.ref u)])) rfl rfl (j42_147 hby 13 rfl) _ ?_
    rw [len_of S14 M14]
    refine st15 _ ?_
    refine XS.goto X15.here hx rfl (pc0 := 25) (pc' := 43) rfl (j42_147 hby 15 rfl) (by decide) (by decide) ?_
    exact X15.returnOut hx hrt (j42_147 hby 16 rfl) hr
def own_Qgb1 (Z : State) (x u : Addr) (ku : ClassId) (Nu : Int32) (us : List Value) (t : Addr) (kt : ClassId) (N : Int32) (vs : List Value) (ix w2 dp : Int32) (dn un : Nat) (vsz : List Value) (fm : Value) (h0 : Heap) (n0 : Nat) (v : Option Value) (h : Heap) (L : List Loc) : Prop := v = none ∧ Fr n0 L ∧ Keep h0 h [t] ∧ Arv Z h t kt .byte N vsz (.int 0)
theorem own_gb1 (hw : own_HW a0 Z) {x u : Addr} {ku : ClassId} {Nu : Int32} {us : List Value} {t : Addr} {kt : ClassId} {N : Int32} {vs : List Value} {w2 : Int32} {fm : Value} (ix dp : Int32) (dn un : Nat) (vsz : List Value) (Z0 : n0 ≤ h0.size) (S_x : own_Sr Z h0 x u ku 1 Nu us) (A_t : Arv Z h0 t kt .byte N vs (.int 0)) (g_t : n0 ≤ t) (SS : own_ST Z h0 w2 fm) (hdp : (ix <<< ((1 : Int32) &&& 31)) = dp) (b1 : ¬ dp < 0) (b2 : ¬ Nu < 0) (b3 : dp.toNatClampNeg + Nu.toNatClampNeg ≤ N.toNatClampNeg) (hus : us = (List.range Nu.toNatClampNeg).map fun i => us.getD ((0 : Int32).toNatClampNeg + i) (.int 0)) (hl : dp.toNatClampNeg + Nu.toNatClampNeg ≤ vs.length) (hdn : dp.toNatClampNeg = dn) (hun : Nu.toNatClampNeg = un) (hv : vs.take dn ++ us ++ vs.drop (dn + un) = vsz) : own_M l Z h0 y_41 jdk_42_method_147_code 4 none (rm 1 0 0 18) #[(.ref x), (.ref t), (.int ix), (.int 1)] (own_Qgb1 Z x u ku Nu us t kt N vs ix w2 dp dn un vsz fm h0 n0) := by
  refine own_go #[vR x, vR t, vI ix, vI 1] (plainFor_of_name own_pn0) (fun m => rfl) fun p e s m below meth c s₁ hx hby hz hZ hown hnm hrt X0 e0 => ?_
  obtain ⟨_, T10, L10, X10, ⟨rfl, Nq10, e10⟩, st10⟩ := own_cv 0 X0 hx hZ hown (ow hw 74 rfl) (ow hw 75 rfl) (ow hw 52 rfl) (ow hw 77 rfl) (ow hw 76 rfl) (ow hw 6 rfl) (ow hw 78 rfl) (own_cod1 hw  Z0 S_x.2.2.1 SS) e0 S_x.1 (g := (mkF m 1 #[vR x, vR t, vI ix, vI 1] [(.ref x)])) (rest := []) (lenOf own_pd0 rfl) (j42_147 hby 1 rfl) hz
  have Na11 := Fr.app (Fr.nil n0) Nq10
  obtain ⟨T12, X12, e12, st12⟩ := getF X10 hx hZ hown (host := "") (Or.inl (ow hw 32 rfl)) Via.refl e10 S_x.2.1 (g := (mkF m 9 #[vR x, vR t, vI ix, vI 1] [(.ref x)])) rfl rfl (j42_147 hby 5 rfl)
  obtain ⟨T13, X13, e13, st13⟩ := getF X12 hx hZ hown (host := "") (Or.inl (ow hw 32 rfl)) Via.refl e12 S_x.2.1 (g := (mkF m 18 #[vR x, vR t, vI ix, vI 1] [(.ref x), (.int dp), (.ref t), (.int 0), (.ref u)])) rfl rfl (j42_147 hby 12 rfl)
  obtain ⟨cl14, Ar14, q14, S14, M14, H14, G14⟩ := id S_x.2.2.2
  obtain ⟨T15, h15, L15, X15, e15, N15, K15, A15, st15⟩ := cpA X13 hx hZ hown (ow hw 158 rfl) (ow hw 161 rfl) (ow hw 159 rfl) (ow hw 160 rfl) e13 (us := us) S_x.2.2.2 A_t (Or.inl ⟨rfl, rfl⟩) (by decide) b1 b2 (Nat.le_of_eq (Nat.zero_add _)) b3 hus hl Na11 g_t (g := (mkF m 22 #[vR x, vR t, vI ix, vI 1] [(.int Nu), (.int dp), (.ref t), (.int 0), (.ref u)])) rfl hz rfl (j42_147 hby 14 rfl) (by decide) (W := 0) (Nat.le_of_eq rfl) (by decide)
  have V15 : Arv Z h15 t kt .byte N vsz (.int 0) := by have q := A15; rw [hdn, hun, hv] at q; exact q
  refine ⟨_, _, _, _, none, X15, (fun _ => rfl), by decide, by decide, ?_, fun fs hr => ?_⟩
  · show own_Qgb1 Z x u ku Nu us t kt N vs ix w2 dp dn un vsz fm h0 n0 _ T15.heap _
    rw [e15]
    exact ⟨rfl, N15, ((Keep.refl h0 [t]).trans K15 ((allS (Or.inl (List.mem_of_getElem? (i := 0) rfl)) all0))), V15⟩
  · refine sA X0.here hx (j42_147 hby 0 rfl) ?_
    refine st10 _ ?_
    refine sI X10.here hx (j42_147 hby 2 rfl) ?_
    refine XS.icmpNo X10.here hx rfl (j42_147 hby 3 rfl) rfl (teq rfl).2 ?_
    refine sA X10.here hx (j42_147 hby 4 rfl) ?_
    refine st12 _ ?_
    refine sC X12.here hx (j42_147 hby 6 rfl) ?_
    refine sA X12.here hx (j42_147 hby 7 rfl) ?_
    refine sI X12.here hx (j42_147 hby 8 rfl) ?_
    refine sI X12.here hx (j42_147 hby 9 rfl) ?_
    refine XS.ishl X12.here hx rfl (j42_147 hby 10 rfl) rfl ?_
    show Steps p.tables e below (T12.setTop (mkF m 17 #[vR x, vR t, vI ix, vI 1] [(.int (ix <<< ((1 : Int32) &&& 31))), (.ref t), (.int 0), (.ref u)])) _
    rw [hdp]
    refine sA X12.here hx (j42_147 hby 11 rfl) ?_
    refine st13 _ ?_
    refine X13.arraylength hx (by rw [e13]; exact Ar14.1) (State.isArrayOf_alike hZ.alike Ar14.2.1) (g := (mkF m 21 #[vR x, vR t, vI ix, vI 1] [(.ref u), (.int dp), (.ref t), (.int 0), (.ref u)])) rfl rfl (j42_147 hby 13 rfl) _ ?_
    rw [len_of S14 M14]
    refine st15 _ ?_
    refine XS.goto X15.here hx rfl (pc0 := 25) (pc' := 43) rfl (j42_147 hby 15 rfl) (by decide) (by decide) ?_
    exact X15.returnOut hx hrt (j42_147 hby 16 rfl) hr
def own_Qgbu71 (Z : State) (x u : Addr) (ku : ClassId) (t : Addr) (kt : ClassId) (w2 : Int32) (fm : Value) (vs : List Value) (v0 : Int32) (h0 : Heap) (n0 : Nat) (v : Option Value) (h : Heap) (L : List Loc) : Prop := v = none ∧ Fr n0 L ∧ Keep h0 h [t] ∧ Arv Z h t kt .byte (32 : Int32) ((vs.set 14 (oLoL v0)).set 15 (oHoH v0)) (.int 0)
theorem own_gbu71 (hw : own_HW a0 Z) {x u : Addr} {ku : ClassId} {t : Addr} {kt : ClassId} {w2 : Int32} {fm : Value} {vs : List Value} {v0 : Int32}  (Z0 : n0 ≤ h0.size) (S_x : own_Sr Z h0 x u ku 0 1 [(.int v0)]) (A_t : Arv Z h0 t kt .byte (32 : Int32) vs (.int 0)) (g_t : n0 ≤ t) (n_u_t : u ≠ t) (SS : own_ST Z h0 w2 fm) (lvs : vs.length = 32) : own_M l Z h0 y_41 jdk_42_method_147_code 4 none (rm 5 0 0 76) #[(.ref x), (.ref t), (.int 7), (.int 1)] (own_Qgbu71 Z x u ku t kt w2 fm vs v0 h0 n0) := by
  refine own_go #[vR x, vR t, vI 7, vI 1] (plainFor_of_name own_pn0) (fun m => rfl) fun p e s m below meth c s₁ hx hby hz hZ hown hnm hrt X0 e0 => ?_
  obtain ⟨_, T10, L10, X10, ⟨rfl, Nq10, e10⟩, st10⟩ := own_cv 0 X0 hx hZ hown (ow hw 74 rfl) (ow hw 75 rfl) (ow hw 52 rfl) (ow hw 77 rfl) (ow hw 76 rfl) (ow hw 6 rfl) (ow hw 78 rfl) (own_cod0 hw  Z0 S_x.2.2.1 SS) e0 S_x.1 (g := (mkF m 1 #[vR x, vR t, vI 7, vI 1] [(.ref x)])) (rest := []) (lenOf own_pd0 rfl) (j42_147 hby 1 rfl) hz
  have Na11 := Fr.app (Fr.nil n0) Nq10
  obtain ⟨T12, X12, e12, st12⟩ := getF X10 hx hZ hown (host := "") (Or.inl (ow hw 32 rfl)) Via.refl e10 S_x.2.1 (g := (mkF m 29 #[vR x, vR t, vI 7, vI 1] [(.ref x)])) rfl rfl (j42_147 hby 18 rfl)
  obtain ⟨T13, X13, e13, st13⟩ := getF X12 hx hZ hown (host := "") (Or.inl (ow hw 32 rfl)) Via.refl e12 S_x.2.1 (g := (mkF m 36 #[vR x, vR t, vI 7, vI 1] [(.ref x), (.int 7), (.ref t), (.int 0), (.ref u)])) rfl rfl (j42_147 hby 23 rfl)
  obtain ⟨cl14, Ar14, q14, S14, M14, H14, G14⟩ := id S_x.2.2.2
  obtain ⟨_, T15, L15, X15, ⟨rfl, Nq15, K15, Po15_0⟩, st15⟩ := own_cs 0 X13 hx hZ hown (ow hw 305 rfl) (ow hw 284 rfl) (ow hw 81 rfl) (ow hw 285 rfl) (own_li71 hw  Z0 S_x.2.2.2 A_t g_t n_u_t SS lvs) e13 (g := (mkF m 40 #[vR x, vR t, vI 7, vI 1] [(.int 1), (.int 7), (.ref t), (.int 0), (.ref u)])) (rest := []) (lenOf own_pd18 rfl) (j42_147 hby 25 rfl) hz
  have Na16 := Fr.app Na11 Nq15
  refine ⟨_, _, _, _, none, X15, (fun _ => rfl), by decide, by decide, ?_, fun fs hr => ?_⟩
  · show own_Qgbu71 Z x u ku t kt w2 fm vs v0 h0 n0 _ T15.heap _
    exact ⟨rfl, Na16, ((Keep.refl h0 [t]).trans K15 ((allS (Or.inl (List.mem_of_getElem? (i := 0) rfl)) all0))), Po15_0⟩
  · refine sA X0.here hx (j42_147 hby 0 rfl) ?_
    refine st10 _ ?_
    refine sI X10.here hx (j42_147 hby 2 rfl) ?_
    refine XS.icmpYes X10.here hx rfl (pc0 := 5) (pc' := 28) rfl (j42_147 hby 3 rfl) rfl (feq (by decide)).2 (by decide) (by decide) ?_
    refine sA X10.here hx (j42_147 hby 17 rfl) ?_
    refine st12 _ ?_
    refine sC X12.here hx (j42_147 hby 19 rfl) ?_
    refine sA X12.here hx (j42_147 hby 20 rfl) ?_
    refine sI X12.here hx (j42_147 hby 21 rfl) ?_
    refine sA X12.here hx (j42_147 hby 22 rfl) ?_
    refine st13 _ ?_
    refine X13.arraylength hx (by rw [e13]; exact Ar14.1) (State.isArrayOf_alike hZ.alike Ar14.2.1) (g := (mkF m 39 #[vR x, vR t, vI 7, vI 1] [(.ref u), (.int 7), (.ref t), (.int 0), (.ref u)])) rfl rfl (j42_147 hby 24 rfl) _ ?_
    rw [len_of S14 M14]
    refine st15 _ ?_
    exact X15.returnOut hx hrt (j42_147 hby 16 rfl) hr
def own_Qgbu72 (Z : State) (x u : Addr) (ku : ClassId) (t : Addr) (kt : ClassId) (w2 : Int32) (fm : Value) (vs : List Value) (v0 v1 : Int32) (h0 : Heap) (n0 : Nat) (v : Option Value) (h : Heap) (L : List Loc) : Prop := v = none ∧ Fr n0 L ∧ Keep h0 h [t] ∧ Arv Z h t kt .byte (32 : Int32) ((((vs.set 14 (oLoL v0)).set 15 (oHoH v0)).set 16 (oLoL v1)).set 17 (oHoH v1)) (.int 0)
theorem own_gbu72 (hw : own_HW a0 Z) {x u : Addr} {ku : ClassId} {t : Addr} {kt : ClassId} {w2 : Int32} {fm : Value} {vs : List Value} {v0 v1 : Int32}  (Z0 : n0 ≤ h0.size) (S_x : own_Sr Z h0 x u ku 0 2 [(.int v0), (.int v1)]) (A_t : Arv Z h0 t kt .byte (32 : Int32) vs (.int 0)) (g_t : n0 ≤ t) (n_u_t : u ≠ t) (SS : own_ST Z h0 w2 fm) (lvs : vs.length = 32) : own_M l Z h0 y_41 jdk_42_method_147_code 4 none (rm 5 0 0 76) #[(.ref x), (.ref t), (.int 7), (.int 1)] (own_Qgbu72 Z x u ku t kt w2 fm vs v0 v1 h0 n0) := by
  refine own_go #[vR x, vR t, vI 7, vI 1] (plainFor_of_name own_pn0) (fun m => rfl) fun p e s m below meth c s₁ hx hby hz hZ hown hnm hrt X0 e0 => ?_
  obtain ⟨_, T10, L10, X10, ⟨rfl, Nq10, e10⟩, st10⟩ := own_cv 0 X0 hx hZ hown (ow hw 74 rfl) (ow hw 75 rfl) (ow hw 52 rfl) (ow hw 77 rfl) (ow hw 76 rfl) (ow hw 6 rfl) (ow hw 78 rfl) (own_cod0 hw  Z0 S_x.2.2.1 SS) e0 S_x.1 (g := (mkF m 1 #[vR x, vR t, vI 7, vI 1] [(.ref x)])) (rest := []) (lenOf own_pd0 rfl) (j42_147 hby 1 rfl) hz
  have Na11 := Fr.app (Fr.nil n0) Nq10
  obtain ⟨T12, X12, e12, st12⟩ := getF X10 hx hZ hown (host := "") (Or.inl (ow hw 32 rfl)) Via.refl e10 S_x.2.1 (g := (mkF m 29 #[vR x, vR t, vI 7, vI 1] [(.ref x)])) rfl rfl (j42_147 hby 18 rfl)
  obtain ⟨T13, X13, e13, st13⟩ := getF X12 hx hZ hown (host := "") (Or.inl (ow hw 32 rfl)) Via.refl e12 S_x.2.1 (g := (mkF m 36 #[vR x, vR t, vI 7, vI 1] [(.ref x), (.int 7), (.ref t), (.int 0), (.ref u)])) rfl rfl (j42_147 hby 23 rfl)
  obtain ⟨cl14, Ar14, q14, S14, M14, H14, G14⟩ := id S_x.2.2.2
  obtain ⟨_, T15, L15, X15, ⟨rfl, Nq15, K15, Po15_0⟩, st15⟩ := own_cs 0 X13 hx hZ hown (ow hw 305 rfl) (ow hw 284 rfl) (ow hw 81 rfl) (ow hw 285 rfl) (own_li72 hw  Z0 S_x.2.2.2 A_t g_t n_u_t SS lvs) e13 (g := (mkF m 40 #[vR x, vR t, vI 7, vI 1] [(.int 2), (.int 7), (.ref t), (.int 0), (.ref u)])) (rest := []) (lenOf own_pd18 rfl) (j42_147 hby 25 rfl) hz
  have Na16 := Fr.app Na11 Nq15
  refine ⟨_, _, _, _, none, X15, (fun _ => rfl), by decide, by decide, ?_, fun fs hr => ?_⟩
  · show own_Qgbu72 Z x u ku t kt w2 fm vs v0 v1 h0 n0 _ T15.heap _
    exact ⟨rfl, Na16, ((Keep.refl h0 [t]).trans K15 ((allS (Or.inl (List.mem_of_getElem? (i := 0) rfl)) all0))), Po15_0⟩
  · refine sA X0.here hx (j42_147 hby 0 rfl) ?_
    refine st10 _ ?_
    refine sI X10.here hx (j42_147 hby 2 rfl) ?_
    refine XS.icmpYes X10.here hx rfl (pc0 := 5) (pc' := 28) rfl (j42_147 hby 3 rfl) rfl (feq (by decide)).2 (by decide) (by decide) ?_
    refine sA X10.here hx (j42_147 hby 17 rfl) ?_
    refine st12 _ ?_
    refine sC X12.here hx (j42_147 hby 19 rfl) ?_
    refine sA X12.here hx (j42_147 hby 20 rfl) ?_
    refine sI X12.here hx (j42_147 hby 21 rfl) ?_
    refine sA X12.here hx (j42_147 hby 22 rfl) ?_
    refine st13 _ ?_
    refine X13.arraylength hx (by rw [e13]; exact Ar14.1) (State.isArrayOf_alike hZ.alike Ar14.2.1) (g := (mkF m 39 #[vR x, vR t, vI 7, vI 1] [(.ref u), (.int 7), (.ref t), (.int 0), (.ref u)])) rfl rfl (j42_147 hby 24 rfl) _ ?_
    rw [len_of S14 M14]
    refine st15 _ ?_
    exact X15.returnOut hx hrt (j42_147 hby 16 rfl) hr
def own_Qgbu81 (Z : State) (x u : Addr) (ku : ClassId) (t : Addr) (kt : ClassId) (w2 : Int32) (fm : Value) (vs : List Value) (v0 : Int32) (h0 : Heap) (n0 : Nat) (v : Option Value) (h : Heap) (L : List Loc) : Prop := v = none ∧ Fr n0 L ∧ Keep h0 h [t] ∧ Arv Z h t kt .byte (32 : Int32) ((vs.set 16 (oLoL v0)).set 17 (oHoH v0)) (.int 0)
theorem own_gbu81 (hw : own_HW a0 Z) {x u : Addr} {ku : ClassId} {t : Addr} {kt : ClassId} {w2 : Int32} {fm : Value} {vs : List Value} {v0 : Int32}  (Z0 : n0 ≤ h0.size) (S_x : own_Sr Z h0 x u ku 0 1 [(.int v0)]) (A_t : Arv Z h0 t kt .byte (32 : Int32) vs (.int 0)) (g_t : n0 ≤ t) (n_u_t : u ≠ t) (SS : own_ST Z h0 w2 fm) (lvs : vs.length = 32) : own_M l Z h0 y_41 jdk_42_method_147_code 4 none (rm 5 0 0 76) #[(.ref x), (.ref t), (.int 8), (.int 1)] (own_Qgbu81 Z x u ku t kt w2 fm vs v0 h0 n0) := by
  refine own_go #[vR x, vR t, vI 8, vI 1] (plainFor_of_name own_pn0) (fun m => rfl) fun p e s m below meth c s₁ hx hby hz hZ hown hnm hrt X0 e0 => ?_
  obtain ⟨_, T10, L10, X10, ⟨rfl, Nq10, e10⟩, st10⟩ := own_cv 0 X0 hx hZ hown (ow hw 74 rfl) (ow hw 75 rfl) (ow hw 52 rfl) (ow hw 77 rfl) (ow hw 76 rfl) (ow hw 6 rfl) (ow hw 78 rfl) (own_cod0 hw  Z0 S_x.2.2.1 SS) e0 S_x.1 (g := (mkF m 1 #[vR x, vR t, vI 8, vI 1] [(.ref x)])) (rest := []) (lenOf own_pd0 rfl) (j42_147 hby 1 rfl) hz
  have Na11 := Fr.app (Fr.nil n0) Nq10
  obtain ⟨T12, X12, e12, st12⟩ := getF X10 hx hZ hown (host := "") (Or.inl (ow hw 32 rfl)) Via.refl e10 S_x.2.1 (g := (mkF m 29 #[vR x, vR t, vI 8, vI 1] [(.ref x)])) rfl rfl (j42_147 hby 18 rfl)
  obtain ⟨T13, X13, e13, st13⟩ := getF X12 hx hZ hown (host := "") (Or.inl (ow hw 32 rfl)) Via.refl e12 S_x.2.1 (g := (mkF m 36 #[vR x, vR t, vI 8, vI 1] [(.ref x), (.int 8), (.ref t), (.int 0), (.ref u)])) rfl rfl (j42_147 hby 23 rfl)
  obtain ⟨cl14, Ar14, q14, S14, M14, H14, G14⟩ := id S_x.2.2.2
  obtain ⟨_, T15, L15, X15, ⟨rfl, Nq15, K15, Po15_0⟩, st15⟩ := own_cs 0 X13 hx hZ hown (ow hw 305 rfl) (ow hw 284 rfl) (ow hw 81 rfl) (ow hw 285 rfl) (own_li81 hw  Z0 S_x.2.2.2 A_t g_t n_u_t SS lvs) e13 (g := (mkF m 40 #[vR x, vR t, vI 8, vI 1] [(.int 1), (.int 8), (.ref t), (.int 0), (.ref u)])) (rest := []) (lenOf own_pd18 rfl) (j42_147 hby 25 rfl) hz
  have Na16 := Fr.app Na11 Nq15
  refine ⟨_, _, _, _, none, X15, (fun _ => rfl), by decide, by decide, ?_, fun fs hr => ?_⟩
  · show own_Qgbu81 Z x u ku t kt w2 fm vs v0 h0 n0 _ T15.heap _
    exact ⟨rfl, Na16, ((Keep.refl h0 [t]).trans K15 ((allS (Or.inl (List.mem_of_getElem? (i := 0) rfl)) all0))), Po15_0⟩
  · refine sA X0.here hx (j42_147 hby 0 rfl) ?_
    refine st10 _ ?_
    refine sI X10.here hx (j42_147 hby 2 rfl) ?_
    refine XS.icmpYes X10.here hx rfl (pc0 := 5) (pc' := 28) rfl (j42_147 hby 3 rfl) rfl (feq (by decide)).2 (by decide) (by decide) ?_
    refine sA X10.here hx (j42_147 hby 17 rfl) ?_
    refine st12 _ ?_
    refine sC X12.here hx (j42_147 hby 19 rfl) ?_
    refine sA X12.here hx (j42_147 hby 20 rfl) ?_
    refine sI X12.here hx (j42_147 hby 21 rfl) ?_
    refine sA X12.here hx (j42_147 hby 22 rfl) ?_
    refine st13 _ ?_
    refine X13.arraylength hx (by rw [e13]; exact Ar14.1) (State.isArrayOf_alike hZ.alike Ar14.2.1) (g := (mkF m 39 #[vR x, vR t, vI 8, vI 1] [(.ref u), (.int 8), (.ref t), (.int 0), (.ref u)])) rfl rfl (j42_147 hby 24 rfl) _ ?_
    rw [len_of S14 M14]
    refine st15 _ ?_
    exact X15.returnOut hx hrt (j42_147 hby 16 rfl) hr
def own_Qgbu82 (Z : State) (x u : Addr) (ku : ClassId) (t : Addr) (kt : ClassId) (w2 : Int32) (fm : Value) (vs : List Value) (v0 v1 : Int32) (h0 : Heap) (n0 : Nat) (v : Option Value) (h : Heap) (L : List Loc) : Prop := v = none ∧ Fr n0 L ∧ Keep h0 h [t] ∧ Arv Z h t kt .byte (32 : Int32) ((((vs.set 16 (oLoL v0)).set 17 (oHoH v0)).set 18 (oLoL v1)).set 19 (oHoH v1)) (.int 0)
theorem own_gbu82 (hw : own_HW a0 Z) {x u : Addr} {ku : ClassId} {t : Addr} {kt : ClassId} {w2 : Int32} {fm : Value} {vs : List Value} {v0 v1 : Int32}  (Z0 : n0 ≤ h0.size) (S_x : own_Sr Z h0 x u ku 0 2 [(.int v0), (.int v1)]) (A_t : Arv Z h0 t kt .byte (32 : Int32) vs (.int 0)) (g_t : n0 ≤ t) (n_u_t : u ≠ t) (SS : own_ST Z h0 w2 fm) (lvs : vs.length = 32) : own_M l Z h0 y_41 jdk_42_method_147_code 4 none (rm 5 0 0 76) #[(.ref x), (.ref t), (.int 8), (.int 1)] (own_Qgbu82 Z x u ku t kt w2 fm vs v0 v1 h0 n0) := by
  refine own_go #[vR x, vR t, vI 8, vI 1] (plainFor_of_name own_pn0) (fun m => rfl) fun p e s m below meth c s₁ hx hby hz hZ hown hnm hrt X0 e0 => ?_
  obtain ⟨_, T10, L10, X10, ⟨rfl, Nq10, e10⟩, st10⟩ := own_cv 0 X0 hx hZ hown (ow hw 74 rfl) (ow hw 75 rfl) (ow hw 52 rfl) (ow hw 77 rfl) (ow hw 76 rfl) (ow hw 6 rfl) (ow hw 78 rfl) (own_cod0 hw  Z0 S_x.2.2.1 SS) e0 S_x.1 (g := (mkF m 1 #[vR x, vR t, vI 8, vI 1] [(.ref x)])) (rest := []) (lenOf own_pd0 rfl) (j42_147 hby 1 rfl) hz
  have Na11 := Fr.app (Fr.nil n0) Nq10
  obtain ⟨T12, X12, e12, st12⟩ := getF X10 hx hZ hown (host := "") (Or.inl (ow hw 32 rfl)) Via.refl e10 S_x.2.1 (g := (mkF m 29 #[vR x, vR t, vI 8, vI 1] [(.ref x)])) rfl rfl (j42_147 hby 18 rfl)
  obtain ⟨T13, X13, e13, st13⟩ := getF X12 hx hZ hown (host := "") (Or.inl (ow hw 32 rfl)) Via.refl e12 S_x.2.1 (g := (mkF m 36 #[vR x, vR t, vI 8, vI 1] [(.ref x), (.int 8), (.ref t), (.int 0), (.ref u)])) rfl rfl (j42_147 hby 23 rfl)
  obtain ⟨cl14, Ar14, q14, S14, M14, H14, G14⟩ := id S_x.2.2.2
  obtain ⟨_, T15, L15, X15, ⟨rfl, Nq15, K15, Po15_0⟩, st15⟩ := own_cs 0 X13 hx hZ hown (ow hw 305 rfl) (ow hw 284 rfl) (ow hw 81 rfl) (ow hw 285 rfl) (own_li82 hw  Z0 S_x.2.2.2 A_t g_t n_u_t SS lvs) e13 (g := (mkF m 40 #[vR x, vR t, vI 8, vI 1] [(.int 2), (.int 8), (.ref t), (.int 0), (.ref u)])) (rest := []) (lenOf own_pd18 rfl) (j42_147 hby 25 rfl) hz
  have Na16 := Fr.app Na11 Nq15
  refine ⟨_, _, _, _, none, X15, (fun _ => rfl), by decide, by decide, ?_, fun fs hr => ?_⟩
  · show own_Qgbu82 Z x u ku t kt w2 fm vs v0 v1 h0 n0 _ T15.heap _
    exact ⟨rfl, Na16, ((Keep.refl h0 [t]).trans K15 ((allS (Or.inl (List.mem_of_getElem? (i := 0) rfl)) all0))), Po15_0⟩
  · refine sA X0.here hx (j42_147 hby 0 rfl) ?_
    refine st10 _ ?_
    refine sI X10.here hx (j42_147 hby 2 rfl) ?_
    refine XS.icmpYes X10.here hx rfl (pc0 := 5) (pc' := 28) rfl (j42_147 hby 3 rfl) rfl (feq (by decide)).2 (by decide) (by decide) ?_
    refine sA X10.here hx (j42_147 hby 17 rfl) ?_
    refine st12 _ ?_
    refine sC X12.here hx (j42_147 hby 19 rfl) ?_
    refine sA X12.here hx (j42_147 hby 20 rfl) ?_
    refine sI X12.here hx (j42_147 hby 21 rfl) ?_
    refine sA X12.here hx (j42_147 hby 22 rfl) ?_
    refine st13 _ ?_
    refine X13.arraylength hx (by rw [e13]; exact Ar14.1) (State.isArrayOf_alike hZ.alike Ar14.2.1) (g := (mkF m 39 #[vR x, vR t, vI 8, vI 1] [(.ref u), (.int 8), (.ref t), (.int 0), (.ref u)])) rfl rfl (j42_147 hby 24 rfl) _ ?_
    rw [len_of S14 M14]
    refine st15 _ ?_
    exact X15.returnOut hx hrt (j42_147 hby 16 rfl) hr
def own_Qpsa0 (Z : State) (sb t : Addr) (kt : ClassId) (N : Int32) (vs : List Value) (ix : Int32) (x u : Addr) (ku : ClassId) (Nu : Int32) (us : List Value) (w2 dp : Int32) (dn un : Nat) (vsz : List Value) (fm : Value) (h0 : Heap) (n0 : Nat) (v : Option Value) (h : Heap) (L : List Loc) : Prop := v = none ∧ Fr n0 L ∧ Keep h0 h [t] ∧ Arv Z h t kt .byte N vsz (.int 0)
theorem own_psa0 (hw : own_HW a0 Z) {sb t : Addr} {kt : ClassId} {N : Int32} {vs : List Value} {x u : Addr} {ku : ClassId} {Nu : Int32} {us : List Value} {w2 : Int32} {fm : Value} (ix dp : Int32) (dn un : Nat) (vsz : List Value) (Z0 : n0 ≤ h0.size) (E_sb : Exa Z h0 sb "java/lang/StringBuilder") (F_sb_value : Fld Z h0 sb "java/lang/AbstractStringBuilder" "value" "[B" (.ref t)) (F_sb_coder : Fld Z h0 sb "java/lang/AbstractStringBuilder" "coder" "B" (.int 0)) (S_x : own_Sr Z h0 x u ku 0 Nu us) (A_t : Arv Z h0 t kt .byte N vs (.int 0)) (g_t : n0 ≤ t) (SS : own_ST Z h0 w2 fm) (hdp : (ix <<< ((0 : Int32) &&& 31)) = dp) (b1 : ¬ dp < 0) (b2 : ¬ Nu < 0) (b3 : dp.toNatClampNeg + Nu.toNatClampNeg ≤ N.toNatClampNeg) (hus : us = (List.range Nu.toNatClampNeg).map fun i => us.getD ((0 : Int32).toNatClampNeg + i) (.int 0)) (hl : dp.toNatClampNeg + Nu.toNatClampNeg ≤ vs.length) (hdn : dp.toNatClampNeg = dn) (hun : Nu.toNatClampNeg = un) (hv : vs.take dn ++ us ++ vs.drop (dn + un) = vsz) : own_M l Z h0 y_42 jdk_68_method_73_code 3 none (rm 2 0 0 33) #[(.ref sb), (.int ix), (.ref x)] (own_Qpsa0 Z sb t kt N vs ix x u ku Nu us w2 dp dn un vsz fm h0 n0) := by
  refine own_go #[vR sb, vI ix, vR x] (plainFor_of_name own_pn5) (fun m => rfl) fun p e s m below meth c s₁ hx hby hz hZ hown hnm hrt X0 e0 => ?_
  obtain ⟨_, T10, L10, X10, ⟨rfl, Nq10, e10⟩, st10⟩ := own_cv 0 X0 hx hZ hown (ow hw 147 rfl) (own_decl (ow hw 148 rfl) (ow hw 151 rfl)) (ow hw 140 rfl) (ow hw 150 rfl) (ow hw 148 rfl) (ow hw 115 rfl) (ow hw 151 rfl) (own_ifn00 hw  Z0 F_sb_coder S_x.1 S_x.2.2.1 SS) e0 E_sb (g := (mkF m 2 #[vR sb, vI ix, vR x] [(.ref x), (.ref sb)])) (rest := []) (lenOf own_pd21 rfl) (j68_73 hby 2 rfl) hz
  have Na11 := Fr.app (Fr.nil n0) Nq10
  obtain ⟨T12, X12, e12, st12⟩ := getF X10 hx hZ hown (host := "") (Or.inl (ow hw 119 rfl)) Via.refl e10 F_sb_value (g := (mkF m 7 #[vR sb, vI ix, vR x] [(.ref sb), (.ref x)])) rfl rfl (j68_73 hby 5 rfl)
  obtain ⟨T13, X13, e13, st13⟩ := getF X12 hx hZ hown (host := "") (Or.inl (ow hw 121 rfl)) Via.refl e12 F_sb_coder (g := (mkF m 12 #[vR sb, vI ix, vR x] [(.ref sb), (.int ix), (.ref t), (.ref x)])) rfl rfl (j68_73 hby 8 rfl)
  obtain ⟨_, T14, L14, X14, ⟨rfl, Nq14, K14, Po14_0⟩, st14⟩ := own_cv 0 X13 hx hZ hown (ow hw 153 rfl) (ow hw 154 rfl) (ow hw 52 rfl) (ow hw 156 rfl) (ow hw 155 rfl) (ow hw 6 rfl) (ow hw 157 rfl) (own_gb0 hw ix dp dn un vsz Z0 S_x A_t g_t SS hdp b1 b2 b3 hus hl hdn hun hv) e13 S_x.1 (g := (mkF m 15 #[vR sb, vI ix, vR x] [(.int 0), (.int ix), (.ref t), (.ref x)])) (rest := []) (lenOf own_pd22 rfl) (j68_73 hby 9 rfl) hz
  have Na15 := Fr.app Na11 Nq14
  refine ⟨_, _, _, _, none, X14, (fun _ => rfl), by decide, by decide, ?_, fun fs hr => ?_⟩
  · show own_Qpsa0 Z sb t kt N vs ix x u ku Nu us w2 dp dn un vsz fm h0 n0 _ T14.heap _
    exact ⟨rfl, Na15, ((Keep.refl h0 [t]).trans K14 ((allS (Or.inl (List.mem_of_getElem? (i := 0) rfl)) all0))), Po14_0⟩
  · refine sA X0.here hx (j68_73 hby 0 rfl) ?_
    refine sA X0.here hx (j68_73 hby 1 rfl) ?_
    refine st10 _ ?_
    refine sA X10.here hx (j68_73 hby 3 rfl) ?_
    refine sA X10.here hx (j68_73 hby 4 rfl) ?_
    refine st12 _ ?_
    refine sI X12.here hx (j68_73 hby 6 rfl) ?_
    refine sA X12.here hx (j68_73 hby 7 rfl) ?_
    refine st13 _ ?_
    refine st14 _ ?_
    exact X14.returnOut hx hrt (j68_73 hby 10 rfl) hr
def own_QpsaLU1 (Z : State) (sb t : Addr) (kt : ClassId) (x u : Addr) (ku : ClassId) (l0 m0 w2 : Int32) (fm : Value) (h0 : Heap) (n0 : Nat) (v : Option Value) (h : Heap) (L : List Loc) : Prop := ∃ (t2 : Addr) (kt2 : ClassId), v = none ∧ Fr n0 L ∧ Keep h0 h [sb] ∧ own_Bd Z h sb t2 kt2 1 5 32 [(oLoL 104), (oHoH 104), (oLoL 97), (oHoH 97), (oLoL 115), (oHoH 115), (oLoL 112), (oHoH 112), (oLoL 58), (oHoH 58), (.int l0), (.int m0), z0, z0, z0, z0, z0, z0, z0, z0, z0, z0, z0, z0, z0, z0, z0, z0, z0, z0, z0, z0] ∧ h0.size ≤ t2
theorem own_psaLU1 (hw : own_HW a0 Z) {sb t : Addr} {kt : ClassId} {x u : Addr} {ku : ClassId} {l0 m0 w2 : Int32} {fm : Value}  (Z0 : n0 ≤ h0.size) (B_sb : own_Bd Z h0 sb t kt 0 5 16 [(.int 104), (.int 97), (.int 115), (.int 112), (.int 58), z0, z0, z0, z0, z0, z0, z0, z0, z0, z0, z0]) (S_x : own_Sr Z h0 x u ku 1 2 [(.int l0), (.int m0)]) (g_sb : n0 ≤ sb) (n_x_sb : x ≠ sb) (n_u_sb : u ≠ sb) (SS : own_ST Z h0 w2 fm) : own_M l Z h0 y_42 jdk_68_method_73_code 3 none (rm 7 1 32 102) #[(.ref sb), (.int 5), (.ref x)] (own_QpsaLU1 Z sb t kt x u ku l0 m0 w2 fm h0 n0) := by
  refine own_go #[vR sb, vI 5, vR x] (plainFor_of_name own_pn5) (fun m => rfl) fun p e s m below meth c s₁ hx hby hz hZ hown hnm hrt X0 e0 => ?_
  obtain ⟨_, T10, L10, X10, ⟨t2_10, kt2_10, rfl, Nq10, K10, Po10_0, Po10_1⟩, st10⟩ := own_cv 0 X0 hx hZ hown (ow hw 147 rfl) (own_decl (ow hw 148 rfl) (ow hw 151 rfl)) (ow hw 140 rfl) (ow hw 150 rfl) (ow hw 148 rfl) (ow hw 115 rfl) (ow hw 151 rfl) (own_ifn01 hw  Z0 B_sb g_sb S_x.1 S_x.2.2.1 SS) e0 B_sb.1 (g := (mkF m 2 #[vR sb, vI 5, vR x] [(.ref x), (.ref sb)])) (rest := []) (lenOf own_pd21 rfl) (j68_73 hby 2 rfl) hz
  have Na11 := Fr.app (Fr.nil n0) Nq10
  obtain ⟨T12, X12, e12, st12⟩ := getF X10 hx hZ hown (host := "") (Or.inl (ow hw 119 rfl)) Via.refl rfl Po10_0.2.1 (g := (mkF m 7 #[vR sb, vI 5, vR x] [(.ref sb), (.ref x)])) rfl rfl (j68_73 hby 5 rfl)
  obtain ⟨T13, X13, e13, st13⟩ := getF X12 hx hZ hown (host := "") (Or.inl (ow hw 121 rfl)) Via.refl e12 Po10_0.2.2.1 (g := (mkF m 12 #[vR sb, vI 5, vR x] [(.ref sb), (.int 5), (.ref t2_10), (.ref x)])) rfl rfl (j68_73 hby 8 rfl)
  have Cf14 := S_x.1.keep K10
  have Cf15 := S_x.2.1.keep K10 (ninS n_x_sb nin0)
  have Cf16 := S_x.2.2.1.keep K10 (ninS n_x_sb nin0)
  have Cf17 := S_x.2.2.2.keep K10 (ninS n_u_sb nin0)
  have Cf18 := own_stK SS K10 ((allS (B_sb.1).nostat all0))
  obtain ⟨_, T19, L19, X19, ⟨rfl, Nq19, K19, Po19_0⟩, st19⟩ := own_cv 0 X13 hx hZ hown (ow hw 153 rfl) (ow hw 154 rfl) (ow hw 52 rfl) (ow hw 156 rfl) (ow hw 155 rfl) (ow hw 6 rfl) (ow hw 157 rfl) (own_gb1 hw (5 : Int32) (10 : Int32) 10 2 [(oLoL 104), (oHoH 104), (oLoL 97), (oHoH 97), (oLoL 115), (oHoH 115), (oLoL 112), (oHoH 112), (oLoL 58), (oHoH 58), (.int l0), (.int m0), z0, z0, z0, z0, z0, z0, z0, z0, z0, z0, z0, z0, z0, z0, z0, z0, z0, z0, z0, z0] (Nat.le_trans Z0 K10.1) ⟨Cf14, Cf15, Cf16, Cf17⟩ Po10_0.2.2.2.2.2 (Nat.le_trans Z0 Po10_1) Cf18 (by decide) (by decide) (by decide) (by decide) rfl (Nat.le_of_ble_eq_true rfl) rfl rfl rfl) e13 Cf14 (g := (mkF m 15 #[vR sb, vI 5, vR x] [(.int 1), (.int 5), (.ref t2_10), (.ref x)])) (rest := []) (lenOf own_pd22 rfl) (j68_73 hby 9 rfl) hz
  have Na20 := Fr.app Na11 Nq19
  have Cf21 := Po10_0.1.keep K19
  have Cf22 := Po10_0.2.1.keep K19 (ninS (Nat.ne_of_lt (Nat.lt_of_lt_of_le (B_sb.1).lt Po10_1)) nin0)
  have Cf23 := Po10_0.2.2.1.keep K19 (ninS (Nat.ne_of_lt (Nat.lt_of_lt_of_le (B_sb.1).lt Po10_1)) nin0)
  have Cf24 := Po10_0.2.2.2.1.keep K19 (ninS (Nat.ne_of_lt (Nat.lt_of_lt_of_le (B_sb.1).lt Po10_1)) nin0)
  have Cf25 := Po10_0.2.2.2.2.1.keep K19 (ninS (Nat.ne_of_lt (Nat.lt_of_lt_of_le (B_sb.1).lt Po10_1)) nin0)
  refine ⟨_, _, _, _, none, X19, (fun _ => rfl), by decide, by decide, ?_, fun fs hr => ?_⟩
  · show own_QpsaLU1 Z sb t kt x u ku l0 m0 w2 fm h0 n0 _ T19.heap _
    exact ⟨t2_10, kt2_10, rfl, Na20, (((Keep.refl h0 [sb]).trans K10 ((allS (Or.inl (List.mem_of_getElem? (i := 0) rfl)) all0))).trans K19 ((allS (Or.inr Po10_1) all0))), ⟨Cf21, Cf22, Cf23, Cf24, Cf25, Po19_0⟩, Po10_1⟩
  · refine sA X0.here hx (j68_73 hby 0 rfl) ?_
    refine sA X0.here hx (j68_73 hby 1 rfl) ?_
    refine st10 _ ?_
    refine sA X10.here hx (j68_73 hby 3 rfl) ?_
    refine sA X10.here hx (j68_73 hby 4 rfl) ?_
    refine st12 _ ?_
    refine sI X12.here hx (j68_73 hby 6 rfl) ?_
    refine sA X12.here hx (j68_73 hby 7 rfl) ?_
    refine st13 _ ?_
    refine st19 _ ?_
    exact X19.returnOut hx hrt (j68_73 hby 10 rfl) hr
def own_QpsaLU2 (Z : State) (sb t : Addr) (kt : ClassId) (x u : Addr) (ku : ClassId) (l0 m0 l1 m1 w2 : Int32) (fm : Value) (h0 : Heap) (n0 : Nat) (v : Option Value) (h : Heap) (L : List Loc) : Prop := ∃ (t2 : Addr) (kt2 : ClassId), v = none ∧ Fr n0 L ∧ Keep h0 h [sb] ∧ own_Bd Z h sb t2 kt2 1 5 32 [(oLoL 104), (oHoH 104), (oLoL 97), (oHoH 97), (oLoL 115), (oHoH 115), (oLoL 112), (oHoH 112), (oLoL 58), (oHoH 58), (.int l0), (.int m0), (.int l1), (.int m1), z0, z0, z0, z0, z0, z0, z0, z0, z0, z0, z0, z0, z0, z0, z0, z0, z0, z0] ∧ h0.size ≤ t2
theorem own_psaLU2 (hw : own_HW a0 Z) {sb t : Addr} {kt : ClassId} {x u : Addr} {ku : ClassId} {l0 m0 l1 m1 w2 : Int32} {fm : Value}  (Z0 : n0 ≤ h0.size) (B_sb : own_Bd Z h0 sb t kt 0 5 16 [(.int 104), (.int 97), (.int 115), (.int 112), (.int 58), z0, z0, z0, z0, z0, z0, z0, z0, z0, z0, z0]) (S_x : own_Sr Z h0 x u ku 1 4 [(.int l0), (.int m0), (.int l1), (.int m1)]) (g_sb : n0 ≤ sb) (n_x_sb : x ≠ sb) (n_u_sb : u ≠ sb) (SS : own_ST Z h0 w2 fm) : own_M l Z h0 y_42 jdk_68_method_73_code 3 none (rm 7 1 32 102) #[(.ref sb), (.int 5), (.ref x)] (own_QpsaLU2 Z sb t kt x u ku l0 m0 l1 m1 w2 fm h0 n0) := by
  refine own_go #[vR sb, vI 5, vR x] (plainFor_of_name own_pn5) (fun m => rfl) fun p e s m below meth c s₁ hx hby hz hZ hown hnm hrt X0 e0 => ?_
  obtain ⟨_, T10, L10, X10, ⟨t2_10, kt2_10, rfl, Nq10, K10, Po10_0, Po10_1⟩, st10⟩ := own_cv 0 X0 hx hZ hown (ow hw 147 rfl) (own_decl (ow hw 148 rfl) (ow hw 151 rfl)) (ow hw 140 rfl) (ow hw 150 rfl) (ow hw 148 rfl) (ow hw 115 rfl) (ow hw 151 rfl) (own_ifn01 hw  Z0 B_sb g_sb S_x.1 S_x.2.2.1 SS) e0 B_sb.1 (g := (mkF m 2 #[vR sb, vI 5, vR x] [(.ref x), (.ref sb)])) (rest := []) (lenOf own_pd21 rfl) (j68_73 hby 2 rfl) hz
  have Na11 := Fr.app (Fr.nil n0) Nq10
  obtain ⟨T12, X12, e12, st12⟩ := getF X10 hx hZ hown (host := "") (Or.inl (ow hw 119 rfl)) Via.refl rfl Po10_0.2.1 (g := (mkF m 7 #[vR sb, vI 5, vR x] [(.ref sb), (.ref x)])) rfl rfl (j68_73 hby 5 rfl)
  obtain ⟨T13, X13, e13, st13⟩ := getF X12 hx hZ hown (host := "") (Or.inl (ow hw 121 rfl)) Via.refl e12 Po10_0.2.2.1 (g := (mkF m 12 #[vR sb, vI 5, vR x] [(.ref sb), (.int 5), (.ref t2_10), (.ref x)])) rfl rfl (j68_73 hby 8 rfl)
  have Cf14 := S_x.1.keep K10
  have Cf15 := S_x.2.1.keep K10 (ninS n_x_sb nin0)
  have Cf16 := S_x.2.2.1.keep K10 (ninS n_x_sb nin0)
  have Cf17 := S_x.2.2.2.keep K10 (ninS n_u_sb nin0)
  have Cf18 := own_stK SS K10 ((allS (B_sb.1).nostat all0))
  obtain ⟨_, T19, L19, X19, ⟨rfl, Nq19, K19, Po19_0⟩, st19⟩ := own_cv 0 X13 hx hZ hown (ow hw 153 rfl) (ow hw 154 rfl) (ow hw 52 rfl) (ow hw 156 rfl) (ow hw 155 rfl) (ow hw 6 rfl) (ow hw 157 rfl) (own_gb1 hw (5 : Int32) (10 : Int32) 10 4 [(oLoL 104), (oHoH 104), (oLoL 97), (oHoH 97), (oLoL 115), (oHoH 115), (oLoL 112), (oHoH 112), (oLoL 58), (oHoH 58), (.int l0), (.int m0), (.int l1), (.int m1), z0, z0, z0, z0, z0, z0, z0, z0, z0, z0, z0, z0, z0, z0, z0, z0, z0, z0] (Nat.le_trans Z0 K10.1) ⟨Cf14, Cf15, Cf16, Cf17⟩ Po10_0.2.2.2.2.2 (Nat.le_trans Z0 Po10_1) Cf18 (by decide) (by decide) (by decide) (by decide) rfl (Nat.le_of_ble_eq_true rfl) rfl rfl rfl) e13 Cf14 (g := (mkF m 15 #[vR sb, vI 5, vR x] [(.int 1), (.int 5), (.ref t2_10), (.ref x)])) (rest := []) (lenOf own_pd22 rfl) (j68_73 hby 9 rfl) hz
  have Na20 := Fr.app Na11 Nq19
  have Cf21 := Po10_0.1.keep K19
  have Cf22 := Po10_0.2.1.keep K19 (ninS (Nat.ne_of_lt (Nat.lt_of_lt_of_le (B_sb.1).lt Po10_1)) nin0)
  have Cf23 := Po10_0.2.2.1.keep K19 (ninS (Nat.ne_of_lt (Nat.lt_of_lt_of_le (B_sb.1).lt Po10_1)) nin0)
  have Cf24 := Po10_0.2.2.2.1.keep K19 (ninS (Nat.ne_of_lt (Nat.lt_of_lt_of_le (B_sb.1).lt Po10_1)) nin0)
  have Cf25 := Po10_0.2.2.2.2.1.keep K19 (ninS (Nat.ne_of_lt (Nat.lt_of_lt_of_le (B_sb.1).lt Po10_1)) nin0)
  refine ⟨_, _, _, _, none, X19, (fun _ => rfl), by decide, by decide, ?_, fun fs hr => ?_⟩
  · show own_QpsaLU2 Z sb t kt x u ku l0 m0 l1 m1 w2 fm h0 n0 _ T19.heap _
    exact ⟨t2_10, kt2_10, rfl, Na20, (((Keep.refl h0 [sb]).trans K10 ((allS (Or.inl (List.mem_of_getElem? (i := 0) rfl)) all0))).trans K19 ((allS (Or.inr Po10_1) all0))), ⟨Cf21, Cf22, Cf23, Cf24, Cf25, Po19_0⟩, Po10_1⟩
  · refine sA X0.here hx (j68_73 hby 0 rfl) ?_
    refine sA X0.here hx (j68_73 hby 1 rfl) ?_
    refine st10 _ ?_
    refine sA X10.here hx (j68_73 hby 3 rfl) ?_
    refine sA X10.here hx (j68_73 hby 4 rfl) ?_
    refine st12 _ ?_
    refine sI X12.here hx (j68_73 hby 6 rfl) ?_
    refine sA X12.here hx (j68_73 hby 7 rfl) ?_
    refine st13 _ ?_
    refine st19 _ ?_
    exact X19.returnOut hx hrt (j68_73 hby 10 rfl) hr
def own_QpsaUL71 (Z : State) (sb t : Addr) (kt : ClassId) (x u : Addr) (ku : ClassId) (w2 : Int32) (fm : Value) (vs : List Value) (v0 : Int32) (h0 : Heap) (n0 : Nat) (v : Option Value) (h : Heap) (L : List Loc) : Prop := v = none ∧ Fr n0 L ∧ Keep h0 h [t] ∧ Arv Z h t kt .byte (32 : Int32) ((vs.set 14 (oLoL v0)).set 15 (oHoH v0)) (.int 0)
theorem own_psaUL71 (hw : own_HW a0 Z) {sb t : Addr} {kt : ClassId} {x u : Addr} {ku : ClassId} {w2 : Int32} {fm : Value} {vs : List Value} {v0 : Int32}  (Z0 : n0 ≤ h0.size) (E_sb : Exa Z h0 sb "java/lang/StringBuilder") (F_sb_value : Fld Z h0 sb "java/lang/AbstractStringBuilder" "value" "[B" (.ref t)) (F_sb_coder : Fld Z h0 sb "java/lang/AbstractStringBuilder" "coder" "B" (.int 1)) (S_x : own_Sr Z h0 x u ku 0 1 [(.int v0)]) (A_t : Arv Z h0 t kt .byte (32 : Int32) vs (.int 0)) (g_t : n0 ≤ t) (n_u_t : u ≠ t) (SS : own_ST Z h0 w2 fm) (lvs : vs.length = 32) : own_M l Z h0 y_42 jdk_68_method_73_code 3 none (rm 6 0 0 91) #[(.ref sb), (.int 7), (.ref x)] (own_QpsaUL71 Z sb t kt x u ku w2 fm vs v0 h0 n0) := by
  refine own_go #[vR sb, vI 7, vR x] (plainFor_of_name own_pn5) (fun m => rfl) fun p e s m below meth c s₁ hx hby hz hZ hown hnm hrt X0 e0 => ?_
  obtain ⟨_, T10, L10, X10, ⟨rfl, Nq10, e10⟩, st10⟩ := own_cv 0 X0 hx hZ hown (ow hw 147 rfl) (own_decl (ow hw 148 rfl) (ow hw 151 rfl)) (ow hw 140 rfl) (ow hw 150 rfl) (ow hw 148 rfl) (ow hw 115 rfl) (ow hw 151 rfl) (own_ifn10 hw  Z0 E_sb F_sb_coder S_x.1 S_x.2.2.1 SS) e0 E_sb (g := (mkF m 2 #[vR sb, vI 7, vR x] [(.ref x), (.ref sb)])) (rest := []) (lenOf own_pd21 rfl) (j68_73 hby 2 rfl) hz
  have Na11 := Fr.app (Fr.nil n0) Nq10
  obtain ⟨T12, X12, e12, st12⟩ := getF X10 hx hZ hown (host := "") (Or.inl (ow hw 119 rfl)) Via.refl e10 F_sb_value (g := (mkF m 7 #[vR sb, vI 7, vR x] [(.ref sb), (.ref x)])) rfl rfl (j68_73 hby 5 rfl)
  obtain ⟨T13, X13, e13, st13⟩ := getF X12 hx hZ hown (host := "") (Or.inl (ow hw 121 rfl)) Via.refl e12 F_sb_coder (g := (mkF m 12 #[vR sb, vI 7, vR x] [(.ref sb), (.int 7), (.ref t), (.ref x)])) rfl rfl (j68_73 hby 8 rfl)
  obtain ⟨_, T14, L14, X14, ⟨rfl, Nq14, K14, Po14_0⟩, st14⟩ := own_cv 0 X13 hx hZ hown (ow hw 153 rfl) (ow hw 154 rfl) (ow hw 52 rfl) (ow hw 156 rfl) (ow hw 155 rfl) (ow hw 6 rfl) (ow hw 157 rfl) (own_gbu71 hw  Z0 S_x A_t g_t n_u_t SS lvs) e13 S_x.1 (g := (mkF m 15 #[vR sb, vI 7, vR x] [(.int 1), (.int 7), (.ref t), (.ref x)])) (rest := []) (lenOf own_pd22 rfl) (j68_73 hby 9 rfl) hz
  have Na15 := Fr.app Na11 Nq14
  refine ⟨_, _, _, _, none, X14, (fun _ => rfl), by decide, by decide, ?_, fun fs hr => ?_⟩
  · show own_QpsaUL71 Z sb t kt x u ku w2 fm vs v0 h0 n0 _ T14.heap _
    exact ⟨rfl, Na15, ((Keep.refl h0 [t]).trans K14 ((allS (Or.inl (List.mem_of_getElem? (i := 0) rfl)) all0))), Po14_0⟩
  · refine sA X0.here hx (j68_73 hby 0 rfl) ?_
    refine sA X0.here hx (j68_73 hby 1 rfl) ?_
    refine st10 _ ?_
    refine sA X10.here hx (j68_73 hby 3 rfl) ?_
    refine sA X10.here hx (j68_73 hby 4 rfl) ?_
    refine st12 _ ?_
    refine sI X12.here hx (j68_73 hby 6 rfl) ?_
    refine sA X12.here hx (j68_73 hby 7 rfl) ?_
    refine st13 _ ?_
    refine st14 _ ?_
    exact X14.returnOut hx hrt (j68_73 hby 10 rfl) hr
def own_QpsaUL72 (Z : State) (sb t : Addr) (kt : ClassId) (x u : Addr) (ku : ClassId) (w2 : Int32) (fm : Value) (vs : List Value) (v0 v1 : Int32) (h0 : Heap) (n0 : Nat) (v : Option Value) (h : Heap) (L : List Loc) : Prop := v = none ∧ Fr n0 L ∧ Keep h0 h [t] ∧ Arv Z h t kt .byte (32 : Int32) ((((vs.set 14 (oLoL v0)).set 15 (oHoH v0)).set 16 (oLoL v1)).set 17 (oHoH v1)) (.int 0)
theorem own_psaUL72 (hw : own_HW a0 Z) {sb t : Addr} {kt : ClassId} {x u : Addr} {ku : ClassId} {w2 : Int32} {fm : Value} {vs : List Value} {v0 v1 : Int32}  (Z0 : n0 ≤ h0.size) (E_sb : Exa Z h0 sb "java/lang/StringBuilder") (F_sb_value : Fld Z h0 sb "java/lang/AbstractStringBuilder" "value" "[B" (.ref t)) (F_sb_coder : Fld Z h0 sb "java/lang/AbstractStringBuilder" "coder" "B" (.int 1)) (S_x : own_Sr Z h0 x u ku 0 2 [(.int v0), (.int v1)]) (A_t : Arv Z h0 t kt .byte (32 : Int32) vs (.int 0)) (g_t : n0 ≤ t) (n_u_t : u ≠ t) (SS : own_ST Z h0 w2 fm) (lvs : vs.length = 32) : own_M l Z h0 y_42 jdk_68_method_73_code 3 none (rm 6 0 0 91) #[(.ref sb), (.int 7), (.ref x)] (own_QpsaUL72 Z sb t kt x u ku w2 fm vs v0 v1 h0 n0) := by
  refine own_go #[vR sb, vI 7, vR x] (plainFor_of_name own_pn5) (fun m => rfl) fun p e s m below meth c s₁ hx hby hz hZ hown hnm hrt X0 e0 => ?_
  obtain ⟨_, T10, L10, X10, ⟨rfl, Nq10, e10⟩, st10⟩ := own_cv 0 X0 hx hZ hown (ow hw 147 rfl) (own_decl (ow hw 148 rfl) (ow hw 151 rfl)) (ow hw 140 rfl) (ow hw 150 rfl) (ow hw 148 rfl) (ow hw 115 rfl) (ow hw 151 rfl) (own_ifn10 hw  Z0 E_sb F_sb_coder S_x.1 S_x.2.2.1 SS) e0 E_sb (g := (mkF m 2 #[vR sb, vI 7, vR x] [(.ref x), (.ref sb)])) (rest := []) (lenOf own_pd21 rfl) (j68_73 hby 2 rfl) hz
  have Na11 := Fr.app (Fr.nil n0) Nq10
  obtain ⟨T12, X12, e12, st12⟩ := getF X10 hx hZ hown (host := "") (Or.inl (ow hw 119 rfl)) Via.refl e10 F_sb_value (g := (mkF m 7 #[vR sb, vI 7, vR x] [(.ref sb), (.ref x)])) rfl rfl (j68_73 hby 5 rfl)
  obtain ⟨T13, X13, e13, st13⟩ := getF X12 hx hZ hown (host := "") (Or.inl (ow hw 121 rfl)) Via.refl e12 F_sb_coder (g := (mkF m 12 #[vR sb, vI 7, vR x] [(.ref sb), (.int 7), (.ref t), (.ref x)])) rfl rfl (j68_73 hby 8 rfl)
  obtain ⟨_, T14, L14, X14, ⟨rfl, Nq14, K14, Po14_0⟩, st14⟩ := own_cv 0 X13 hx hZ hown (ow hw 153 rfl) (ow hw 154 rfl) (ow hw 52 rfl) (ow hw 156 rfl) (ow hw 155 rfl) (ow hw 6 rfl) (ow hw 157 rfl) (own_gbu72 hw  Z0 S_x A_t g_t n_u_t SS lvs) e13 S_x.1 (g := (mkF m 15 #[vR sb, vI 7, vR x] [(.int 1), (.int 7), (.ref t), (.ref x)])) (rest := []) (lenOf own_pd22 rfl) (j68_73 hby 9 rfl) hz
  have Na15 := Fr.app Na11 Nq14
  refine ⟨_, _, _, _, none, X14, (fun _ => rfl), by decide, by decide, ?_, fun fs hr => ?_⟩
  · show own_QpsaUL72 Z sb t kt x u ku w2 fm vs v0 v1 h0 n0 _ T14.heap _
    exact ⟨rfl, Na15, ((Keep.refl h0 [t]).trans K14 ((allS (Or.inl (List.mem_of_getElem? (i := 0) rfl)) all0))), Po14_0⟩
  · refine sA X0.here hx (j68_73 hby 0 rfl) ?_
    refine sA X0.here hx (j68_73 hby 1 rfl) ?_
    refine st10 _ ?_
    refine sA X10.here hx (j68_73 hby 3 rfl) ?_
    refine sA X10.here hx (j68_73 hby 4 rfl) ?_
    refine st12 _ ?_
    refine sI X12.here hx (j68_73 hby 6 rfl) ?_
    refine sA X12.here hx (j68_73 hby 7 rfl) ?_
    refine st13 _ ?_
    refine st14 _ ?_
    exact X14.returnOut hx hrt (j68_73 hby 10 rfl) hr
def own_QpsaUL81 (Z : State) (sb t : Addr) (kt : ClassId) (x u : Addr) (ku : ClassId) (w2 : Int32) (fm : Value) (vs : List Value) (v0 : Int32) (h0 : Heap) (n0 : Nat) (v : Option Value) (h : Heap) (L : List Loc) : Prop := v = none ∧ Fr n0 L ∧ Keep h0 h [t] ∧ Arv Z h t kt .byte (32 : Int32) ((vs.set 16 (oLoL v0)).set 17 (oHoH v0)) (.int 0)
theorem own_psaUL81 (hw : own_HW a0 Z) {sb t : Addr} {kt : ClassId} {x u : Addr} {ku : ClassId} {w2 : Int32} {fm : Value} {vs : List Value} {v0 : Int32}  (Z0 : n0 ≤ h0.size) (E_sb : Exa Z h0 sb "java/lang/StringBuilder") (F_sb_value : Fld Z h0 sb "java/lang/AbstractStringBuilder" "value" "[B" (.ref t)) (F_sb_coder : Fld Z h0 sb "java/lang/AbstractStringBuilder" "coder" "B" (.int 1)) (S_x : own_Sr Z h0 x u ku 0 1 [(.int v0)]) (A_t : Arv Z h0 t kt .byte (32 : Int32) vs (.int 0)) (g_t : n0 ≤ t) (n_u_t : u ≠ t) (SS : own_ST Z h0 w2 fm) (lvs : vs.length = 32) : own_M l Z h0 y_42 jdk_68_method_73_code 3 none (rm 6 0 0 91) #[(.ref sb), (.int 8), (.ref x)] (own_QpsaUL81 Z sb t kt x u ku w2 fm vs v0 h0 n0) := by
  refine own_go #[vR sb, vI 8, vR x] (plainFor_of_name own_pn5) (fun m => rfl) fun p e s m below meth c s₁ hx hby hz hZ hown hnm hrt X0 e0 => ?_
  obtain ⟨_, T10, L10, X10, ⟨rfl, Nq10, e10⟩, st10⟩ := own_cv 0 X0 hx hZ hown (ow hw 147 rfl) (own_decl (ow hw 148 rfl) (ow hw 151 rfl)) (ow hw 140 rfl) (ow hw 150 rfl) (ow hw 148 rfl) (ow hw 115 rfl) (ow hw 151 rfl) (own_ifn10 hw  Z0 E_sb F_sb_coder S_x.1 S_x.2.2.1 SS) e0 E_sb (g := (mkF m 2 #[vR sb, vI 8, vR x] [(.ref x), (.ref sb)])) (rest := []) (lenOf own_pd21 rfl) (j68_73 hby 2 rfl) hz
  have Na11 := Fr.app (Fr.nil n0) Nq10
  obtain ⟨T12, X12, e12, st12⟩ := getF X10 hx hZ hown (host := "") (Or.inl (ow hw 119 rfl)) Via.refl e10 F_sb_value (g := (mkF m 7 #[vR sb, vI 8, vR x] [(.ref sb), (.ref x)])) rfl rfl (j68_73 hby 5 rfl)
  obtain ⟨T13, X13, e13, st13⟩ := getF X12 hx hZ hown (host := "") (Or.inl (ow hw 121 rfl)) Via.refl e12 F_sb_coder (g := (mkF m 12 #[vR sb, vI 8, vR x] [(.ref sb), (.int 8), (.ref t), (.ref x)])) rfl rfl (j68_73 hby 8 rfl)
  obtain ⟨_, T14, L14, X14, ⟨rfl, Nq14, K14, Po14_0⟩, st14⟩ := own_cv 0 X13 hx hZ hown (ow hw 153 rfl) (ow hw 154 rfl) (ow hw 52 rfl) (ow hw 156 rfl) (ow hw 155 rfl) (ow hw 6 rfl) (ow hw 157 rfl) (own_gbu81 hw  Z0 S_x A_t g_t n_u_t SS lvs) e13 S_x.1 (g := (mkF m 15 #[vR sb, vI 8, vR x] [(.int 1), (.int 8), (.ref t), (.ref x)])) (rest := []) (lenOf own_pd22 rfl) (j68_73 hby 9 rfl) hz
  have Na15 := Fr.app Na11 Nq14
  refine ⟨_, _, _, _, none, X14, (fun _ => rfl), by decide, by decide, ?_, fun fs hr => ?_⟩
  · show own_QpsaUL81 Z sb t kt x u ku w2 fm vs v0 h0 n0 _ T14.heap _
    exact ⟨rfl, Na15, ((Keep.refl h0 [t]).trans K14 ((allS (Or.inl (List.mem_of_getElem? (i := 0) rfl)) all0))), Po14_0⟩
  · refine sA X0.here hx (j68_73 hby 0 rfl) ?_
    refine sA X0.here hx (j68_73 hby 1 rfl) ?_
    refine st10 _ ?_
    refine sA X10.here hx (j68_73 hby 3 rfl) ?_
    refine sA X10.here hx (j68_73 hby 4 rfl) ?_
    refine st12 _ ?_
    refine sI X12.here hx (j68_73 hby 6 rfl) ?_
    refine sA X12.here hx (j68_73 hby 7 rfl) ?_
    refine st13 _ ?_
    refine st14 _ ?_
    exact X14.returnOut hx hrt (j68_73 hby 10 rfl) hr
def own_QpsaUL82 (Z : State) (sb t : Addr) (kt : ClassId) (x u : Addr) (ku : ClassId) (w2 : Int32) (fm : Value) (vs : List Value) (v0 v1 : Int32) (h0 : Heap) (n0 : Nat) (v : Option Value) (h : Heap) (L : List Loc) : Prop := v = none ∧ Fr n0 L ∧ Keep h0 h [t] ∧ Arv Z h t kt .byte (32 : Int32) ((((vs.set 16 (oLoL v0)).set 17 (oHoH v0)).set 18 (oLoL v1)).set 19 (oHoH v1)) (.int 0)
theorem own_psaUL82 (hw : own_HW a0 Z) {sb t : Addr} {kt : ClassId} {x u : Addr} {ku : ClassId} {w2 : Int32} {fm : Value} {vs : List Value} {v0 v1 : Int32}  (Z0 : n0 ≤ h0.size) (E_sb : Exa Z h0 sb "java/lang/StringBuilder") (F_sb_value : Fld Z h0 sb "java/lang/AbstractStringBuilder" "value" "[B" (.ref t)) (F_sb_coder : Fld Z h0 sb "java/lang/AbstractStringBuilder" "coder" "B" (.int 1)) (S_x : own_Sr Z h0 x u ku 0 2 [(.int v0), (.int v1)]) (A_t : Arv Z h0 t kt .byte (32 : Int32) vs (.int 0)) (g_t : n0 ≤ t) (n_u_t : u ≠ t) (SS : own_ST Z h0 w2 fm) (lvs : vs.length = 32) : own_M l Z h0 y_42 jdk_68_method_73_code 3 none (rm 6 0 0 91) #[(.ref sb), (.int 8), (.ref x)] (own_QpsaUL82 Z sb t kt x u ku w2 fm vs v0 v1 h0 n0) := by
  refine own_go #[vR sb, vI 8, vR x] (plainFor_of_name own_pn5) (fun m => rfl) fun p e s m below meth c s₁ hx hby hz hZ hown hnm hrt X0 e0 => ?_
  obtain ⟨_, T10, L10, X10, ⟨rfl, Nq10, e10⟩, st10⟩ := own_cv 0 X0 hx hZ hown (ow hw 147 rfl) (own_decl (ow hw 148 rfl) (ow hw 151 rfl)) (ow hw 140 rfl) (ow hw 150 rfl) (ow hw 148 rfl) (ow hw 115 rfl) (ow hw 151 rfl) (own_ifn10 hw  Z0 E_sb F_sb_coder S_x.1 S_x.2.2.1 SS) e0 E_sb (g := (mkF m 2 #[vR sb, vI 8, vR x] [(.ref x), (.ref sb)])) (rest := []) (lenOf own_pd21 rfl) (j68_73 hby 2 rfl) hz
  have Na11 := Fr.app (Fr.nil n0) Nq10
  obtain ⟨T12, X12, e12, st12⟩ := getF X10 hx hZ hown (host := "") (Or.inl (ow hw 119 rfl)) Via.refl e10 F_sb_value (g := (mkF m 7 #[vR sb, vI 8, vR x] [(.ref sb), (.ref x)])) rfl rfl (j68_73 hby 5 rfl)
  obtain ⟨T13, X13, e13, st13⟩ := getF X12 hx hZ hown (host := "") (Or.inl (ow hw 121 rfl)) Via.refl e12 F_sb_coder (g := (mkF m 12 #[vR sb, vI 8, vR x] [(.ref sb), (.int 8), (.ref t), (.ref x)])) rfl rfl (j68_73 hby 8 rfl)
  obtain ⟨_, T14, L14, X14, ⟨rfl, Nq14, K14, Po14_0⟩, st14⟩ := own_cv 0 X13 hx hZ hown (ow hw 153 rfl) (ow hw 154 rfl) (ow hw 52 rfl) (ow hw 156 rfl) (ow hw 155 rfl) (ow hw 6 rfl) (ow hw 157 rfl) (own_gbu82 hw  Z0 S_x A_t g_t n_u_t SS lvs) e13 S_x.1 (g := (mkF m 15 #[vR sb, vI 8, vR x] [(.int 1), (.int 8), (.ref t), (.ref x)])) (rest := []) (lenOf own_pd22 rfl) (j68_73 hby 9 rfl) hz
  have Na15 := Fr.app Na11 Nq14
  refine ⟨_, _, _, _, none, X14, (fun _ => rfl), by decide, by decide, ?_, fun fs hr => ?_⟩
  · show own_QpsaUL82 Z sb t kt x u ku w2 fm vs v0 v1 h0 n0 _ T14.heap _
    exact ⟨rfl, Na15, ((Keep.refl h0 [t]).trans K14 ((allS (Or.inl (List.mem_of_getElem? (i := 0) rfl)) all0))), Po14_0⟩
  · refine sA X0.here hx (j68_73 hby 0 rfl) ?_
    refine sA X0.here hx (j68_73 hby 1 rfl) ?_
    refine st10 _ ?_
    refine sA X10.here hx (j68_73 hby 3 rfl) ?_
    refine sA X10.here hx (j68_73 hby 4 rfl) ?_
    refine st12 _ ?_
    refine sI X12.here hx (j68_73 hby 6 rfl) ?_
    refine sA X12.here hx (j68_73 hby 7 rfl) ?_
    refine st13 _ ?_
    refine st14 _ ?_
    exact X14.returnOut hx hrt (j68_73 hby 10 rfl) hr
def own_Qaa0 (Z : State) (sb t : Addr) (kt : ClassId) (N : Int32) (vs : List Value) (cnt : Int32) (x u : Addr) (ku : ClassId) (Nu : Int32) (us : List Value) (w2 ln cz cap dp : Int32) (dn un : Nat) (vsz : List Value) (fm : Value) (h0 : Heap) (n0 : Nat) (v : Option Value) (h : Heap) (L : List Loc) : Prop := v = some (.ref sb) ∧ Fr n0 L ∧ Keep h0 h [sb, t] ∧ own_Bd Z h sb t kt 0 cz N vsz
theorem own_aa0 (hw : own_HW a0 Z) {sb t : Addr} {kt : ClassId} {N : Int32} {vs : List Value} {cnt : Int32} {x u : Addr} {ku : ClassId} {Nu : Int32} {us : List Value} {w2 : Int32} {fm : Value} (ln cz cap dp : Int32) (dn un : Nat) (vsz : List Value) (Z0 : n0 ≤ h0.size) (B_sb : own_Bd Z h0 sb t kt 0 cnt N vs) (S_x : own_Sr Z h0 x u ku 0 Nu us) (g_sb : n0 ≤ sb) (g_t : n0 ≤ t) (n_sb_t : sb ≠ t) (SS : own_ST Z h0 w2 fm) (hln : (Nu >>> ((0 : Int32) &&& 31)) = ln) (hcz : (cnt + ln) = cz) (hcap : (N >>> ((0 : Int32) &&& 31)) = cap) (hle : ¬ (0 : Int32) < (cz - cap)) (hdp : (cnt <<< ((0 : Int32) &&& 31)) = dp) (b1 : ¬ dp < 0) (b2 : ¬ Nu < 0) (b3 : dp.toNatClampNeg + Nu.toNatClampNeg ≤ N.toNatClampNeg) (hus : us = (List.range Nu.toNatClampNeg).map fun i => us.getD ((0 : Int32).toNatClampNeg + i) (.int 0)) (hl : dp.toNatClampNeg + Nu.toNatClampNeg ≤ vs.length) (hdn : dp.toNatClampNeg = dn) (hun : Nu.toNatClampNeg = un) (hv : vs.take dn ++ us ++ vs.drop (dn + un) = vsz) : own_M l Z h0 y_43 jdk_68_method_22_code 3 (some (.object "java/lang/AbstractStringBuilder")) (rm 3 0 0 47) #[(.ref sb), (.ref x)] (own_Qaa0 Z sb t kt N vs cnt x u ku Nu us w2 ln cz cap dp dn un vsz fm h0 n0) := by
  refine own_go #[vR sb, vR x, vU] (plainFor_of_name own_pn5) (fun m => rfl) fun p e s m below meth c s₁ hx hby hz hZ hown hnm hrt X0 e0 => ?_
  obtain ⟨_, T10, L10, X10, ⟨rfl, Nq10, e10⟩, st10⟩ := own_cv 0 X0 hx hZ hown (ow hw 134 rfl) (ow hw 70 rfl) (ow hw 52 rfl) (ow hw 72 rfl) (ow hw 71 rfl) (ow hw 6 rfl) (ow hw 73 rfl) (own_len0 hw ln Z0 S_x SS hln) e0 S_x.1 (g := (mkF m 10 #[vR sb, vR x, vU] [(.ref x)])) (rest := []) (lenOf own_pd13 rfl) (j68_22 hby 3 rfl) hz
  have Na11 := Fr.app (Fr.nil n0) Nq10
  obtain ⟨T12, X12, e12, st12⟩ := getF X10 hx hZ hown (host := "") (Or.inl (ow hw 135 rfl)) Via.refl e10 B_sb.2.2.2.1 (g := (mkF m 16 #[vR sb, vR x, vI ln] [(.ref sb), (.ref sb)])) rfl rfl (j68_22 hby 7 rfl)
  obtain ⟨_, T13, L13, X13, ⟨rfl, Nq13, e13⟩, st13⟩ := own_cv 0 X12 hx hZ hown (ow hw 137 rfl) (own_decl (ow hw 138 rfl) (ow hw 141 rfl)) (ow hw 140 rfl) (ow hw 140 rfl) (ow hw 138 rfl) (ow hw 115 rfl) (ow hw 141 rfl) (own_ens hw cz cap Z0 B_sb.2.1 B_sb.2.2.1 B_sb.2.2.2.2.2 hcap hle) e12 B_sb.1 (g := (mkF m 21 #[vR sb, vR x, vI ln] [(.int cz), (.ref sb)])) (rest := []) (lenOf own_pd15 rfl) (j68_22 hby 10 rfl) hz
  have Na14 := Fr.app Na11 Nq13
  obtain ⟨T15, X15, e15, st15⟩ := getF X13 hx hZ hown (host := "") (Or.inl (ow hw 135 rfl)) Via.refl e13 B_sb.2.2.2.1 (g := (mkF m 26 #[vR sb, vR x, vI ln] [(.ref sb), (.ref sb)])) rfl rfl (j68_22 hby 13 rfl)
  obtain ⟨_, T16, L16, X16, ⟨rfl, Nq16, K16, Po16_0⟩, st16⟩ := own_cv 0 X15 hx hZ hown (ow hw 142 rfl) (own_decl (ow hw 143 rfl) (ow hw 146 rfl)) (ow hw 140 rfl) (ow hw 145 rfl) (ow hw 143 rfl) (ow hw 115 rfl) (ow hw 146 rfl) (own_psa0 hw cnt dp dn un vsz Z0 B_sb.1 B_sb.2.1 B_sb.2.2.1 S_x B_sb.2.2.2.2.2 g_t SS hdp b1 b2 b3 hus hl hdn hun hv) e15 B_sb.1 (g := (mkF m 30 #[vR sb, vR x, vI ln] [(.ref x), (.int cnt), (.ref sb)])) (rest := []) (lenOf own_pd23 rfl) (j68_22 hby 15 rfl) hz
  have Na17 := Fr.app Na14 Nq16
  have Cf18 := B_sb.2.2.2.1.keep K16 (ninS n_sb_t nin0)
  obtain ⟨T19, X19, e19, st19⟩ := getF X16 hx hZ hown (host := "") (Or.inl (ow hw 135 rfl)) Via.refl rfl Cf18 (g := (mkF m 35 #[vR sb, vR x, vI ln] [(.ref sb), (.ref sb)])) rfl rfl (j68_22 hby 18 rfl)
  have Cf20 := B_sb.1.keep K16
  have Cf21 := B_sb.2.1.keep K16 (ninS n_sb_t nin0)
  have Cf22 := B_sb.2.2.1.keep K16 (ninS n_sb_t nin0)
  have Cf23 := B_sb.2.2.2.2.1.keep K16 (ninS n_sb_t nin0)
  obtain ⟨T24, h24, X24, e24, W24, st24⟩ := putF X19 hx hZ hown (host := "") (Or.inl (ow hw 135 rfl)) Via.refl e19 Cf18 Cf20 (Or.inl (ow hw 136 rfl)) (ow hw 106 rfl) (ty := .int) (by decide) rfl rfl (g := (mkF m 40 #[vR sb, vR x, vI ln] [(.int cz), (.ref sb)])) rfl rfl (j68_22 hby 21 rfl)
  have Ew24 := Cf20.wr W24
  have Fo25 := Cf21.other W24 (Or.inr (slot_ne (Or.inl (ow hw 120 rfl)) (Or.inl (ow hw 136 rfl)) (by decide) (t := (.array .byte)) (t' := .int) (by decide) (by decide)))
  have Fo26 := Cf22.other W24 (Or.inr (slot_ne (Or.inl (ow hw 122 rfl)) (Or.inl (ow hw 136 rfl)) (by decide) (t := .byte) (t' := .int) (by decide) (by decide)))
  have Fw24 := Cf18.same W24
  have Fo27 := Cf23.other W24 (Or.inr (slot_ne (Or.inl (ow hw 307 rfl)) (Or.inl (ow hw 136 rfl)) (by decide) (t := .boolean) (t' := .int) (by decide) (by decide)))
  have N24 := Fr.snoc X24 Na17 g_sb
  have Cf28 := Po16_0.other W24 (Ne.symm n_sb_t)
  refine ⟨_, _, _, _, some (.ref sb), X24, (fun h => nomatch h), by decide, by decide, ?_, fun fs hr => ?_⟩
  · show own_Qaa0 Z sb t kt N vs cnt x u ku Nu us w2 ln cz cap dp dn un vsz fm h0 n0 _ T24.heap _
    rw [e24]
    exact ⟨rfl, N24, (((Keep.refl h0 [sb, t]).trans K16 ((allS (Or.inl (List.mem_of_getElem? (i := 1) rfl)) all0))).wr W24 (Or.inl (List.mem_of_getElem? (i := 0) rfl))), ⟨Ew24, Fo25, Fo26, Fw24, Fo27, Cf28⟩⟩
  · refine sA X0.here hx (j68_22 hby 0 rfl) ?_
    refine XS.ifnonnullYes X0.here hx rfl (pc0 := 1) (pc' := 9) rfl (j68_22 hby 1 rfl) rfl (by decide) (by decide) ?_
    refine sA X0.here hx (j68_22 hby 2 rfl) ?_
    refine st10 _ ?_
    refine XS.istoreN X10.here hx rfl (j68_22 hby 4 rfl) rfl (l' := #[vR sb, vR x, vI ln]) rfl ?_
    refine sA X10.here hx (j68_22 hby 5 rfl) ?_
    refine sA X10.here hx (j68_22 hby 6 rfl) ?_
    refine st12 _ ?_
    refine sI X12.here hx (j68_22 hby 8 rfl) ?_
    refine XS.iadd X12.here hx rfl (j68_22 hby 9 rfl) rfl ?_
    show Steps p.tables e below (T12.setTop (mkF m 21 #[vR sb, vR x, vI ln] [(.int (cnt + ln)), (.ref sb)])) _
    rw [hcz]
    refine st13 _ ?_
    refine sA X13.here hx (j68_22 hby 11 rfl) ?_
    refine sA X13.here hx (j68_22 hby 12 rfl) ?_
    refine st15 _ ?_
    refine sA X15.here hx (j68_22 hby 14 rfl) ?_
    refine st16 _ ?_
    refine sA X16.here hx (j68_22 hby 16 rfl) ?_
    refine XS.dup X16.here hx rfl (j68_22 hby 17 rfl) rfl rfl ?_
    refine st19 _ ?_
    refine sI X19.here hx (j68_22 hby 19 rfl) ?_
    refine XS.iadd X19.here hx rfl (j68_22 hby 20 rfl) rfl ?_
    show Steps p.tables e below (T19.setTop (mkF m 40 #[vR sb, vR x, vI ln] [(.int (cnt + ln)), (.ref sb)])) _
    rw [hcz]
    refine st24 _ ?_
    refine sA X24.here hx (j68_22 hby 22 rfl) ?_
    exact retR X24 hx hrt rfl rfl rfl (j68_22 hby 23 rfl) hr
def own_Qap0 (Z : State) (sb t : Addr) (kt : ClassId) (N : Int32) (vs : List Value) (cnt : Int32) (x u : Addr) (ku : ClassId) (Nu : Int32) (us : List Value) (w2 ln cz cap dp : Int32) (dn un : Nat) (vsz : List Value) (fm : Value) (h0 : Heap) (n0 : Nat) (v : Option Value) (h : Heap) (L : List Loc) : Prop := v = some (.ref sb) ∧ Fr n0 L ∧ Keep h0 h [sb, t] ∧ own_Bd Z h sb t kt 0 cz N vsz
theorem own_ap0 (hw : own_HW a0 Z) {sb t : Addr} {kt : ClassId} {N : Int32} {vs : List Value} {cnt : Int32} {x u : Addr} {ku : ClassId} {Nu : Int32} {us : List Value} {w2 : Int32} {fm : Value} (ln cz cap dp : Int32) (dn un : Nat) (vsz : List Value) (Z0 : n0 ≤ h0.size) (B_sb : own_Bd Z h0 sb t kt 0 cnt N vs) (S_x : own_Sr Z h0 x u ku 0 Nu us) (g_sb : n0 ≤ sb) (g_t : n0 ≤ t) (n_sb_t : sb ≠ t) (SS : own_ST Z h0 w2 fm) (hln : (Nu >>> ((0 : Int32) &&& 31)) = ln) (hcz : (cnt + ln) = cz) (hcap : (N >>> ((0 : Int32) &&& 31)) = cap) (hle : ¬ (0 : Int32) < (cz - cap)) (hdp : (cnt <<< ((0 : Int32) &&& 31)) = dp) (b1 : ¬ dp < 0) (b2 : ¬ Nu < 0) (b3 : dp.toNatClampNeg + Nu.toNatClampNeg ≤ N.toNatClampNeg) (hus : us = (List.range Nu.toNatClampNeg).map fun i => us.getD ((0 : Int32).toNatClampNeg + i) (.int 0)) (hl : dp.toNatClampNeg + Nu.toNatClampNeg ≤ vs.length) (hdn : dp.toNatClampNeg = dn) (hun : Nu.toNatClampNeg = un) (hv : vs.take dn ++ us ++ vs.drop (dn + un) = vsz) : own_M l Z h0 y_44 jdk_67_method_7_code 2 (some (.object "java/lang/StringBuilder")) (rm 4 0 0 61) #[(.ref sb), (.ref x)] (own_Qap0 Z sb t kt N vs cnt x u ku Nu us w2 ln cz cap dp dn un vsz fm h0 n0) := by
  refine own_go #[vR sb, vR x] (plainFor_of_name own_pn6) (fun m => rfl) fun p e s m below meth c s₁ hx hby hz hZ hown hnm hrt X0 e0 => ?_
  obtain ⟨_, T10, L10, X10, ⟨rfl, Nq10, K10, Po10_0⟩, st10⟩ := own_cu 0 X0 hx hZ hown (ow hw 129 rfl) (ow hw 130 rfl) (ow hw 115 rfl) (ow hw 133 rfl) (ow hw 131 rfl) (ow hw 140 rfl) (own_aa0 hw ln cz cap dp dn un vsz Z0 B_sb S_x g_sb g_t n_sb_t SS hln hcz hcap hle hdp b1 b2 b3 hus hl hdn hun hv) e0 B_sb.1 (g := (mkF m 2 #[vR sb, vR x] [(.ref x), (.ref sb)])) (rest := []) (lenOf own_pd24 rfl) (j67_7 hby 2 rfl) hz
  have Na11 := Fr.app (Fr.nil n0) Nq10
  refine ⟨_, _, _, _, some (.ref sb), X10, (fun h => nomatch h), by decide, by decide, ?_, fun fs hr => ?_⟩
  · show own_Qap0 Z sb t kt N vs cnt x u ku Nu us w2 ln cz cap dp dn un vsz fm h0 n0 _ T10.heap _
    exact ⟨rfl, Na11, ((Keep.refl h0 [sb, t]).trans K10 ((allS (Or.inl (List.mem_of_getElem? (i := 0) rfl)) (allS (Or.inl (List.mem_of_getElem? (i := 1) rfl)) all0)))), Po10_0⟩
  · refine sA X0.here hx (j67_7 hby 0 rfl) ?_
    refine sA X0.here hx (j67_7 hby 1 rfl) ?_
    refine st10 _ ?_
    refine XS.pop X10.here hx rfl (j67_7 hby 3 rfl) rfl rfl ?_
    refine sA X10.here hx (j67_7 hby 4 rfl) ?_
    exact retR X10 hx hrt rfl rfl rfl (j67_7 hby 5 rfl) hr
def own_QaaLU1 (Z : State) (sb t : Addr) (kt : ClassId) (x u : Addr) (ku : ClassId) (l0 m0 w2 : Int32) (fm : Value) (h0 : Heap) (n0 : Nat) (v : Option Value) (h : Heap) (L : List Loc) : Prop := ∃ (t2 : Addr) (kt2 : ClassId), v = some (.ref sb) ∧ Fr n0 L ∧ Keep h0 h [sb] ∧ own_Bd Z h sb t2 kt2 1 6 32 [(oLoL 104), (oHoH 104), (oLoL 97), (oHoH 97), (oLoL 115), (oHoH 115), (oLoL 112), (oHoH 112), (oLoL 58), (oHoH 58), (.int l0), (.int m0), z0, z0, z0, z0, z0, z0, z0, z0, z0, z0, z0, z0, z0, z0, z0, z0, z0, z0, z0, z0] ∧ h0.size ≤ t2
theorem own_aaLU1 (hw : own_HW a0 Z) {sb t : Addr} {kt : ClassId} {x u : Addr} {ku : ClassId} {l0 m0 w2 : Int32} {fm : Value}  (Z0 : n0 ≤ h0.size) (B_sb : own_Bd Z h0 sb t kt 0 5 16 [(.int 104), (.int 97), (.int 115), (.int 112), (.int 58), z0, z0, z0, z0, z0, z0, z0, z0, z0, z0, z0]) (S_x : own_Sr Z h0 x u ku 1 2 [(.int l0), (.int m0)]) (g_sb : n0 ≤ sb) (n_x_sb : x ≠ sb) (n_u_sb : u ≠ sb) (SS : own_ST Z h0 w2 fm) : own_M l Z h0 y_43 jdk_68_method_22_code 3 (some (.object "java/lang/AbstractStringBuilder")) (rm 8 1 32 116) #[(.ref sb), (.ref x)] (own_QaaLU1 Z sb t kt x u ku l0 m0 w2 fm h0 n0) := by
  refine own_go #[vR sb, vR x, vU] (plainFor_of_name own_pn5) (fun m => rfl) fun p e s m below meth c s₁ hx hby hz hZ hown hnm hrt X0 e0 => ?_
  obtain ⟨_, T10, L10, X10, ⟨rfl, Nq10, e10⟩, st10⟩ := own_cv 0 X0 hx hZ hown (ow hw 134 rfl) (ow hw 70 rfl) (ow hw 52 rfl) (ow hw 72 rfl) (ow hw 71 rfl) (ow hw 6 rfl) (ow hw 73 rfl) (own_len1 hw (1 : Int32) Z0 S_x SS (by decide)) e0 S_x.1 (g := (mkF m 10 #[vR sb, vR x, vU] [(.ref x)])) (rest := []) (lenOf own_pd13 rfl) (j68_22 hby 3 rfl) hz
  have Na11 := Fr.app (Fr.nil n0) Nq10
  obtain ⟨T12, X12, e12, st12⟩ := getF X10 hx hZ hown (host := "") (Or.inl (ow hw 135 rfl)) Via.refl e10 B_sb.2.2.2.1 (g := (mkF m 16 #[vR sb, vR x, vI 1] [(.ref sb), (.ref sb)])) rfl rfl (j68_22 hby 7 rfl)
  obtain ⟨_, T13, L13, X13, ⟨rfl, Nq13, e13⟩, st13⟩ := own_cv 0 X12 hx hZ hown (ow hw 137 rfl) (own_decl (ow hw 138 rfl) (ow hw 141 rfl)) (ow hw 140 rfl) (ow hw 140 rfl) (ow hw 138 rfl) (ow hw 115 rfl) (ow hw 141 rfl) (own_ens hw (6 : Int32) (16 : Int32) Z0 B_sb.2.1 B_sb.2.2.1 B_sb.2.2.2.2.2 (by decide) (by decide)) e12 B_sb.1 (g := (mkF m 21 #[vR sb, vR x, vI 1] [(.int 6), (.ref sb)])) (rest := []) (lenOf own_pd15 rfl) (j68_22 hby 10 rfl) hz
  have Na14 := Fr.app Na11 Nq13
  obtain ⟨T15, X15, e15, st15⟩ := getF X13 hx hZ hown (host := "") (Or.inl (ow hw 135 rfl)) Via.refl e13 B_sb.2.2.2.1 (g := (mkF m 26 #[vR sb, vR x, vI 1] [(.ref sb), (.ref sb)])) rfl rfl (j68_22 hby 13 rfl)
  obtain ⟨_, T16, L16, X16, ⟨t2_16, kt2_16, rfl, Nq16, K16, Po16_0, Po16_1⟩, st16⟩ := own_cv 0 X15 hx hZ hown (ow hw 142 rfl) (own_decl (ow hw 143 rfl) (ow hw 146 rfl)) (ow hw 140 rfl) (ow hw 145 rfl) (ow hw 143 rfl) (ow hw 115 rfl) (ow hw 146 rfl) (own_psaLU1 hw  Z0 B_sb S_x g_sb n_x_sb n_u_sb SS) e15 B_sb.1 (g := (mkF m 30 #[vR sb, vR x, vI 1] [(.ref x), (.int 5), (.ref sb)])) (rest := []) (lenOf own_pd23 rfl) (j68_22 hby 15 rfl) hz
  have Na17 := Fr.app Na14 Nq16
  obtain ⟨T18, X18, e18, st18⟩ := getF X16 hx hZ hown (host := "") (Or.inl (ow hw 135 rfl)) Via.refl rfl Po16_0.2.2.2.1 (g := (mkF m 35 #[vR sb, vR x, vI 1] [(.ref sb), (.ref sb)])) rfl rfl (j68_22 hby 18 rfl)
  obtain ⟨T19, h19, X19, e19, W19, st19⟩ := putF X18 hx hZ hown (host := "") (Or.inl (ow hw 135 rfl)) Via.refl e18 Po16_0.2.2.2.1 Po16_0.1 (Or.inl (ow hw 136 rfl)) (ow hw 106 rfl) (ty := .int) (by decide) rfl rfl (g := (mkF m 40 #[vR sb, vR x, vI 1] [(.int 6), (.ref sb)])) rfl rfl (j68_22 hby 21 rfl)
  have Ew19 := Po16_0.1.wr W19
  have Fo20 := Po16_0.2.1.other W19 (Or.inr (slot_ne (Or.inl (ow hw 120 rfl)) (Or.inl (ow hw 136 rfl)) (by decide) (t := (.array .byte)) (t' := .int) (by decide) (by decide)))
  have Fo21 := Po16_0.2.2.1.other W19 (Or.inr (slot_ne (Or.inl (ow hw 122 rfl)) (Or.inl (ow hw 136 rfl)) (by decide) (t := .byte) (t' := .int) (by decide) (by decide)))
  have Fw19 := Po16_0.2.2.2.1.same W19
  have Fo22 := Po16_0.2.2.2.2.1.other W19 (Or.inr (slot_ne (Or.inl (ow hw 307 rfl)) (Or.inl (ow hw 136 rfl)) (by decide) (t := .boolean) (t' := .int) (by decide) (by decide)))
  have N19 := Fr.snoc X19 Na17 g_sb
  have Cf23 := Po16_0.2.2.2.2.2.other W19 (Ne.symm (Nat.ne_of_lt (Nat.lt_of_lt_of_le (B_sb.1).lt Po16_1)))
  refine ⟨_, _, _, _, some (.ref sb), X19, (fun h => nomatch h), by decide, by decide, ?_, fun fs hr => ?_⟩
  · show own_QaaLU1 Z sb t kt x u ku l0 m0 w2 fm h0 n0 _ T19.heap _
    rw [e19]
    exact ⟨t2_16, kt2_16, rfl, N19, (((Keep.refl h0 [sb]).trans K16 ((allS (Or.inl (List.mem_of_getElem? (i := 0) rfl)) all0))).wr W19 (Or.inl (List.mem_of_getElem? (i := 0) rfl))), ⟨Ew19, Fo20, Fo21, Fw19, Fo22, Cf23⟩, Po16_1⟩
  · refine sA X0.here hx (j68_22 hby 0 rfl) ?_
    refine XS.ifnonnullYes X0.here hx rfl (pc0 := 1) (pc' := 9) rfl (j68_22 hby 1 rfl) rfl (by decide) (by decide) ?_
    refine sA X0.here hx (j68_22 hby 2 rfl) ?_
    refine st10 _ ?_
    refine XS.istoreN X10.here hx rfl (j68_22 hby 4 rfl) rfl (l' := #[vR sb, vR x, vI 1]) rfl ?_
    refine sA X10.here hx (j68_22 hby 5 rfl) ?_
    refine sA X10.here hx (j68_22 hby 6 rfl) ?_
    refine st12 _ ?_
    refine sI X12.here hx (j68_22 hby 8 rfl) ?_
    refine XS.iadd X12.here hx rfl (j68_22 hby 9 rfl) rfl ?_
    refine st13 _ ?_
    refine sA X13.here hx (j68_22 hby 11 rfl) ?_
    refine sA X13.here hx (j68_22 hby 12 rfl) ?_
    refine st15 _ ?_
    refine sA X15.here hx (j68_22 hby 14 rfl) ?_
    refine st16 _ ?_
    refine sA X16.here hx (j68_22 hby 16 rfl) ?_
    refine XS.dup X16.here hx rfl (j68_22 hby 17 rfl) rfl rfl ?_
    refine st18 _ ?_
    refine sI X18.here hx (j68_22 hby 19 rfl) ?_
    refine XS.iadd X18.here hx rfl (j68_22 hby 20 rfl) rfl ?_
    refine st19 _ ?_
    refine sA X19.here hx (j68_22 hby 22 rfl) ?_
    exact retR X19 hx hrt rfl rfl rfl (j68_22 hby 23 rfl) hr
def own_QapLU1 (Z : State) (sb t : Addr) (kt : ClassId) (x u : Addr) (ku : ClassId) (l0 m0 w2 : Int32) (fm : Value) (h0 : Heap) (n0 : Nat) (v : Option Value) (h : Heap) (L : List Loc) : Prop := ∃ (t2 : Addr) (kt2 : ClassId), v = some (.ref sb) ∧ Fr n0 L ∧ Keep h0 h [sb] ∧ own_Bd Z h sb t2 kt2 1 6 32 [(oLoL 104), (oHoH 104), (oLoL 97), (oHoH 97), (oLoL 115), (oHoH 115), (oLoL 112), (oHoH 112), (oLoL 58), (oHoH 58), (.int l0), (.int m0), z0, z0, z0, z0, z0, z0, z0, z0, z0, z0, z0, z0, z0, z0, z0, z0, z0, z0, z0, z0] ∧ h0.size ≤ t2
theorem own_apLU1 (hw : own_HW a0 Z) {sb t : Addr} {kt : ClassId} {x u : Addr} {ku : ClassId} {l0 m0 w2 : Int32} {fm : Value}  (Z0 : n0 ≤ h0.size) (B_sb : own_Bd Z h0 sb t kt 0 5 16 [(.int 104), (.int 97), (.int 115), (.int 112), (.int 58), z0, z0, z0, z0, z0, z0, z0, z0, z0, z0, z0]) (S_x : own_Sr Z h0 x u ku 1 2 [(.int l0), (.int m0)]) (g_sb : n0 ≤ sb) (n_x_sb : x ≠ sb) (n_u_sb : u ≠ sb) (SS : own_ST Z h0 w2 fm) : own_M l Z h0 y_44 jdk_67_method_7_code 2 (some (.object "java/lang/StringBuilder")) (rm 9 1 32 130) #[(.ref sb), (.ref x)] (own_QapLU1 Z sb t kt x u ku l0 m0 w2 fm h0 n0) := by
  refine own_go #[vR sb, vR x] (plainFor_of_name own_pn6) (fun m => rfl) fun p e s m below meth c s₁ hx hby hz hZ hown hnm hrt X0 e0 => ?_
  obtain ⟨_, T10, L10, X10, ⟨t2_10, kt2_10, rfl, Nq10, K10, Po10_0, Po10_1⟩, st10⟩ := own_cu 0 X0 hx hZ hown (ow hw 129 rfl) (ow hw 130 rfl) (ow hw 115 rfl) (ow hw 133 rfl) (ow hw 131 rfl) (ow hw 140 rfl) (own_aaLU1 hw  Z0 B_sb S_x g_sb n_x_sb n_u_sb SS) e0 B_sb.1 (g := (mkF m 2 #[vR sb, vR x] [(.ref x), (.ref sb)])) (rest := []) (lenOf own_pd24 rfl) (j67_7 hby 2 rfl) hz
  have Na11 := Fr.app (Fr.nil n0) Nq10
  refine ⟨_, _, _, _, some (.ref sb), X10, (fun h => nomatch h), by decide, by decide, ?_, fun fs hr => ?_⟩
  · show own_QapLU1 Z sb t kt x u ku l0 m0 w2 fm h0 n0 _ T10.heap _
    exact ⟨t2_10, kt2_10, rfl, Na11, ((Keep.refl h0 [sb]).trans K10 ((allS (Or.inl (List.mem_of_getElem? (i := 0) rfl)) all0))), Po10_0, Po10_1⟩
  · refine sA X0.here hx (j67_7 hby 0 rfl) ?_
    refine sA X0.here hx (j67_7 hby 1 rfl) ?_
    refine st10 _ ?_
    refine XS.pop X10.here hx rfl (j67_7 hby 3 rfl) rfl rfl ?_
    refine sA X10.here hx (j67_7 hby 4 rfl) ?_
    exact retR X10 hx hrt rfl rfl rfl (j67_7 hby 5 rfl) hr
def own_QaaLU2 (Z : State) (sb t : Addr) (kt : ClassId) (x u : Addr) (ku : ClassId) (l0 m0 l1 m1 w2 : Int32) (fm : Value) (h0 : Heap) (n0 : Nat) (v : Option Value) (h : Heap) (L : List Loc) : Prop := ∃ (t2 : Addr) (kt2 : ClassId), v = some (.ref sb) ∧ Fr n0 L ∧ Keep h0 h [sb] ∧ own_Bd Z h sb t2 kt2 1 7 32 [(oLoL 104), (oHoH 104), (oLoL 97), (oHoH 97), (oLoL 115), (oHoH 115), (oLoL 112), (oHoH 112), (oLoL 58), (oHoH 58), (.int l0), (.int m0), (.int l1), (.int m1), z0, z0, z0, z0, z0, z0, z0, z0, z0, z0, z0, z0, z0, z0, z0, z0, z0, z0] ∧ h0.size ≤ t2
theorem own_aaLU2 (hw : own_HW a0 Z) {sb t : Addr} {kt : ClassId} {x u : Addr} {ku : ClassId} {l0 m0 l1 m1 w2 : Int32} {fm : Value}  (Z0 : n0 ≤ h0.size) (B_sb : own_Bd Z h0 sb t kt 0 5 16 [(.int 104), (.int 97), (.int 115), (.int 112), (.int 58), z0, z0, z0, z0, z0, z0, z0, z0, z0, z0, z0]) (S_x : own_Sr Z h0 x u ku 1 4 [(.int l0), (.int m0), (.int l1), (.int m1)]) (g_sb : n0 ≤ sb) (n_x_sb : x ≠ sb) (n_u_sb : u ≠ sb) (SS : own_ST Z h0 w2 fm) : own_M l Z h0 y_43 jdk_68_method_22_code 3 (some (.object "java/lang/AbstractStringBuilder")) (rm 8 1 32 116) #[(.ref sb), (.ref x)] (own_QaaLU2 Z sb t kt x u ku l0 m0 l1 m1 w2 fm h0 n0) := by
  refine own_go #[vR sb, vR x, vU] (plainFor_of_name own_pn5) (fun m => rfl) fun p e s m below meth c s₁ hx hby hz hZ hown hnm hrt X0 e0 => ?_
  obtain ⟨_, T10, L10, X10, ⟨rfl, Nq10, e10⟩, st10⟩ := own_cv 0 X0 hx hZ hown (ow hw 134 rfl) (ow hw 70 rfl) (ow hw 52 rfl) (ow hw 72 rfl) (ow hw 71 rfl) (ow hw 6 rfl) (ow hw 73 rfl) (own_len1 hw (2 : Int32) Z0 S_x SS (by decide)) e0 S_x.1 (g := (mkF m 10 #[vR sb, vR x, vU] [(.ref x)])) (rest := []) (lenOf own_pd13 rfl) (j68_22 hby 3 rfl) hz
  have Na11 := Fr.app (Fr.nil n0) Nq10
  obtain ⟨T12, X12, e12, st12⟩ := getF X10 hx hZ hown (host := "") (Or.inl (ow hw 135 rfl)) Via.refl e10 B_sb.2.2.2.1 (g := (mkF m 16 #[vR sb, vR x, vI 2] [(.ref sb), (.ref sb)])) rfl rfl (j68_22 hby 7 rfl)
  obtain ⟨_, T13, L13, X13, ⟨rfl, Nq13, e13⟩, st13⟩ := own_cv 0 X12 hx hZ hown (ow hw 137 rfl) (own_decl (ow hw 138 rfl) (ow hw 141 rfl)) (ow hw 140 rfl) (ow hw 140 rfl) (ow hw 138 rfl) (ow hw 115 rfl) (ow hw 141 rfl) (own_ens hw (7 : Int32) (16 : Int32) Z0 B_sb.2.1 B_sb.2.2.1 B_sb.2.2.2.2.2 (by decide) (by decide)) e12 B_sb.1 (g := (mkF m 21 #[vR sb, vR x, vI 2] [(.int 7), (.ref sb)])) (rest := []) (lenOf own_pd15 rfl) (j68_22 hby 10 rfl) hz
  have Na14 := Fr.app Na11 Nq13
  obtain ⟨T15, X15, e15, st15⟩ := getF X13 hx hZ hown (host := "") (Or.inl (ow hw 135 rfl)) Via.refl e13 B_sb.2.2.2.1 (g := (mkF m 26 #[vR sb, vR x, vI 2] [(.ref sb), (.ref sb)])) rfl rfl (j68_22 hby 13 rfl)
  obtain ⟨_, T16, L16, X16, ⟨t2_16, kt2_16, rfl, Nq16, K16, Po16_0, Po16_1⟩, st16⟩ := own_cv 0 X15 hx hZ hown (ow hw 142 rfl) (own_decl (ow hw 143 rfl) (ow hw 146 rfl)) (ow hw 140 rfl) (ow hw 145 rfl) (ow hw 143 rfl) (ow hw 115 rfl) (ow hw 146 rfl) (own_psaLU2 hw  Z0 B_sb S_x g_sb n_x_sb n_u_sb SS) e15 B_sb.1 (g := (mkF m 30 #[vR sb, vR x, vI 2] [(.ref x), (.int 5), (.ref sb)])) (rest := []) (lenOf own_pd23 rfl) (j68_22 hby 15 rfl) hz
  have Na17 := Fr.app Na14 Nq16
  obtain ⟨T18, X18, e18, st18⟩ := getF X16 hx hZ hown (host := "") (Or.inl (ow hw 135 rfl)) Via.refl rfl Po16_0.2.2.2.1 (g := (mkF m 35 #[vR sb, vR x, vI 2] [(.ref sb), (.ref sb)])) rfl rfl (j68_22 hby 18 rfl)
  obtain ⟨T19, h19, X19, e19, W19, st19⟩ := putF X18 hx hZ hown (host := "") (Or.inl (ow hw 135 rfl)) Via.refl e18 Po16_0.2.2.2.1 Po16_0.1 (Or.inl (ow hw 136 rfl)) (ow hw 106 rfl) (ty := .int) (by decide) rfl rfl (g := (mkF m 40 #[vR sb, vR x, vI 2] [(.int 7), (.ref sb)])) rfl rfl (j68_22 hby 21 rfl)
  have Ew19 := Po16_0.1.wr W19
  have Fo20 := Po16_0.2.1.other W19 (Or.inr (slot_ne (Or.inl (ow hw 120 rfl)) (Or.inl (ow hw 136 rfl)) (by decide) (t := (.array .byte)) (t' := .int) (by decide) (by decide)))
  have Fo21 := Po16_0.2.2.1.other W19 (Or.inr (slot_ne (Or.inl (ow hw 122 rfl)) (Or.inl (ow hw 136 rfl)) (by decide) (t := .byte) (t' := .int) (by decide) (by decide)))
  have Fw19 := Po16_0.2.2.2.1.same W19
  have Fo22 := Po16_0.2.2.2.2.1.other W19 (Or.inr (slot_ne (Or.inl (ow hw 307 rfl)) (Or.inl (ow hw 136 rfl)) (by decide) (t := .boolean) (t' := .int) (by decide) (by decide)))
  have N19 := Fr.snoc X19 Na17 g_sb
  have Cf23 := Po16_0.2.2.2.2.2.other W19 (Ne.symm (Nat.ne_of_lt (Nat.lt_of_lt_of_le (B_sb.1).lt Po16_1)))
  refine ⟨_, _, _, _, some (.ref sb), X19, (fun h => nomatch h), by decide, by decide, ?_, fun fs hr => ?_⟩
  · show own_QaaLU2 Z sb t kt x u ku l0 m0 l1 m1 w2 fm h0 n0 _ T19.heap _
    rw [e19]
    exact ⟨t2_16, kt2_16, rfl, N19, (((Keep.refl h0 [sb]).trans K16 ((allS (Or.inl (List.mem_of_getElem? (i := 0) rfl)) all0))).wr W19 (Or.inl (List.mem_of_getElem? (i := 0) rfl))), ⟨Ew19, Fo20, Fo21, Fw19, Fo22, Cf23⟩, Po16_1⟩
  · refine sA X0.here hx (j68_22 hby 0 rfl) ?_
    refine XS.ifnonnullYes X0.here hx rfl (pc0 := 1) (pc' := 9) rfl (j68_22 hby 1 rfl) rfl (by decide) (by decide) ?_
    refine sA X0.here hx (j68_22 hby 2 rfl) ?_
    refine st10 _ ?_
    refine XS.istoreN X10.here hx rfl (j68_22 hby 4 rfl) rfl (l' := #[vR sb, vR x, vI 2]) rfl ?_
    refine sA X10.here hx (j68_22 hby 5 rfl) ?_
    refine sA X10.here hx (j68_22 hby 6 rfl) ?_
    refine st12 _ ?_
    refine sI X12.here hx (j68_22 hby 8 rfl) ?_
    refine XS.iadd X12.here hx rfl (j68_22 hby 9 rfl) rfl ?_
    refine st13 _ ?_
    refine sA X13.here hx (j68_22 hby 11 rfl) ?_
    refine sA X13.here hx (j68_22 hby 12 rfl) ?_
    refine st15 _ ?_
    refine sA X15.here hx (j68_22 hby 14 rfl) ?_
    refine st16 _ ?_
    refine sA X16.here hx (j68_22 hby 16 rfl) ?_
    refine XS.dup X16.here hx rfl (j68_22 hby 17 rfl) rfl rfl ?_
    refine st18 _ ?_
    refine sI X18.here hx (j68_22 hby 19 rfl) ?_
    refine XS.iadd X18.here hx rfl (j68_22 hby 20 rfl) rfl ?_
    refine st19 _ ?_
    refine sA X19.here hx (j68_22 hby 22 rfl) ?_
    exact retR X19 hx hrt rfl rfl rfl (j68_22 hby 23 rfl) hr
def own_QapLU2 (Z : State) (sb t : Addr) (kt : ClassId) (x u : Addr) (ku : ClassId) (l0 m0 l1 m1 w2 : Int32) (fm : Value) (h0 : Heap) (n0 : Nat) (v : Option Value) (h : Heap) (L : List Loc) : Prop := ∃ (t2 : Addr) (kt2 : ClassId), v = some (.ref sb) ∧ Fr n0 L ∧ Keep h0 h [sb] ∧ own_Bd Z h sb t2 kt2 1 7 32 [(oLoL 104), (oHoH 104), (oLoL 97), (oHoH 97), (oLoL 115), (oHoH 115), (oLoL 112), (oHoH 112), (oLoL 58), (oHoH 58), (.int l0), (.int m0), (.int l1), (.int m1), z0, z0, z0, z0, z0, z0, z0, z0, z0, z0, z0, z0, z0, z0, z0, z0, z0, z0] ∧ h0.size ≤ t2
theorem own_apLU2 (hw : own_HW a0 Z) {sb t : Addr} {kt : ClassId} {x u : Addr} {ku : ClassId} {l0 m0 l1 m1 w2 : Int32} {fm : Value}  (Z0 : n0 ≤ h0.size) (B_sb : own_Bd Z h0 sb t kt 0 5 16 [(.int 104), (.int 97), (.int 115), (.int 112), (.int 58), z0, z0, z0, z0, z0, z0, z0, z0, z0, z0, z0]) (S_x : own_Sr Z h0 x u ku 1 4 [(.int l0), (.int m0), (.int l1), (.int m1)]) (g_sb : n0 ≤ sb) (n_x_sb : x ≠ sb) (n_u_sb : u ≠ sb) (SS : own_ST Z h0 w2 fm) : own_M l Z h0 y_44 jdk_67_method_7_code 2 (some (.object "java/lang/StringBuilder")) (rm 9 1 32 130) #[(.ref sb), (.ref x)] (own_QapLU2 Z sb t kt x u ku l0 m0 l1 m1 w2 fm h0 n0) := by
  refine own_go #[vR sb, vR x] (plainFor_of_name own_pn6) (fun m => rfl) fun p e s m below meth c s₁ hx hby hz hZ hown hnm hrt X0 e0 => ?_
  obtain ⟨_, T10, L10, X10, ⟨t2_10, kt2_10, rfl, Nq10, K10, Po10_0, Po10_1⟩, st10⟩ := own_cu 0 X0 hx hZ hown (ow hw 129 rfl) (ow hw 130 rfl) (ow hw 115 rfl) (ow hw 133 rfl) (ow hw 131 rfl) (ow hw 140 rfl) (own_aaLU2 hw  Z0 B_sb S_x g_sb n_x_sb n_u_sb SS) e0 B_sb.1 (g := (mkF m 2 #[vR sb, vR x] [(.ref x), (.ref sb)])) (rest := []) (lenOf own_pd24 rfl) (j67_7 hby 2 rfl) hz
  have Na11 := Fr.app (Fr.nil n0) Nq10
  refine ⟨_, _, _, _, some (.ref sb), X10, (fun h => nomatch h), by decide, by decide, ?_, fun fs hr => ?_⟩
  · show own_QapLU2 Z sb t kt x u ku l0 m0 l1 m1 w2 fm h0 n0 _ T10.heap _
    exact ⟨t2_10, kt2_10, rfl, Na11, ((Keep.refl h0 [sb]).trans K10 ((allS (Or.inl (List.mem_of_getElem? (i := 0) rfl)) all0))), Po10_0, Po10_1⟩
  · refine sA X0.here hx (j67_7 hby 0 rfl) ?_
    refine sA X0.here hx (j67_7 hby 1 rfl) ?_
    refine st10 _ ?_
    refine XS.pop X10.here hx rfl (j67_7 hby 3 rfl) rfl rfl ?_
    refine sA X10.here hx (j67_7 hby 4 rfl) ?_
    exact retR X10 hx hrt rfl rfl rfl (j67_7 hby 5 rfl) hr
def own_QaaUL71 (Z : State) (sb t : Addr) (kt : ClassId) (x u : Addr) (ku : ClassId) (w2 : Int32) (fm : Value) (vs : List Value) (v0 : Int32) (h0 : Heap) (n0 : Nat) (v : Option Value) (h : Heap) (L : List Loc) : Prop := v = some (.ref sb) ∧ Fr n0 L ∧ Keep h0 h [sb, t] ∧ own_Bd Z h sb t kt 1 8 32 ((vs.set 14 (oLoL v0)).set 15 (oHoH v0))
theorem own_aaUL71 (hw : own_HW a0 Z) {sb t : Addr} {kt : ClassId} {x u : Addr} {ku : ClassId} {w2 : Int32} {fm : Value} {vs : List Value} {v0 : Int32}  (Z0 : n0 ≤ h0.size) (B_sb : own_Bd Z h0 sb t kt 1 7 32 vs) (S_x : own_Sr Z h0 x u ku 0 1 [(.int v0)]) (g_sb : n0 ≤ sb) (g_t : n0 ≤ t) (n_sb_t : sb ≠ t) (n_u_t : u ≠ t) (SS : own_ST Z h0 w2 fm) (lvs : vs.length = 32) : own_M l Z h0 y_43 jdk_68_method_22_code 3 (some (.object "java/lang/AbstractStringBuilder")) (rm 7 0 0 105) #[(.ref sb), (.ref x)] (own_QaaUL71 Z sb t kt x u ku w2 fm vs v0 h0 n0) := by
  refine own_go #[vR sb, vR x, vU] (plainFor_of_name own_pn5) (fun m => rfl) fun p e s m below meth c s₁ hx hby hz hZ hown hnm hrt X0 e0 => ?_
  obtain ⟨_, T10, L10, X10, ⟨rfl, Nq10, e10⟩, st10⟩ := own_cv 0 X0 hx hZ hown (ow hw 134 rfl) (ow hw 70 rfl) (ow hw 52 rfl) (ow hw 72 rfl) (ow hw 71 rfl) (ow hw 6 rfl) (ow hw 73 rfl) (own_len0 hw (1 : Int32) Z0 S_x SS (by decide)) e0 S_x.1 (g := (mkF m 10 #[vR sb, vR x, vU] [(.ref x)])) (rest := []) (lenOf own_pd13 rfl) (j68_22 hby 3 rfl) hz
  have Na11 := Fr.app (Fr.nil n0) Nq10
  obtain ⟨T12, X12, e12, st12⟩ := getF X10 hx hZ hown (host := "") (Or.inl (ow hw 135 rfl)) Via.refl e10 B_sb.2.2.2.1 (g := (mkF m 16 #[vR sb, vR x, vI 1] [(.ref sb), (.ref sb)])) rfl rfl (j68_22 hby 7 rfl)
  obtain ⟨_, T13, L13, X13, ⟨rfl, Nq13, e13⟩, st13⟩ := own_cv 0 X12 hx hZ hown (ow hw 137 rfl) (own_decl (ow hw 138 rfl) (ow hw 141 rfl)) (ow hw 140 rfl) (ow hw 140 rfl) (ow hw 138 rfl) (ow hw 115 rfl) (ow hw 141 rfl) (own_ens hw (8 : Int32) (16 : Int32) Z0 B_sb.2.1 B_sb.2.2.1 B_sb.2.2.2.2.2 (by decide) (by decide)) e12 B_sb.1 (g := (mkF m 21 #[vR sb, vR x, vI 1] [(.int 8), (.ref sb)])) (rest := []) (lenOf own_pd15 rfl) (j68_22 hby 10 rfl) hz
  have Na14 := Fr.app Na11 Nq13
  obtain ⟨T15, X15, e15, st15⟩ := getF X13 hx hZ hown (host := "") (Or.inl (ow hw 135 rfl)) Via.refl e13 B_sb.2.2.2.1 (g := (mkF m 26 #[vR sb, vR x, vI 1] [(.ref sb), (.ref sb)])) rfl rfl (j68_22 hby 13 rfl)
  obtain ⟨_, T16, L16, X16, ⟨rfl, Nq16, K16, Po16_0⟩, st16⟩ := own_cv 0 X15 hx hZ hown (ow hw 142 rfl) (own_decl (ow hw 143 rfl) (ow hw 146 rfl)) (ow hw 140 rfl) (ow hw 145 rfl) (ow hw 143 rfl) (ow hw 115 rfl) (ow hw 146 rfl) (own_psaUL71 hw  Z0 B_sb.1 B_sb.2.1 B_sb.2.2.1 S_x B_sb.2.2.2.2.2 g_t n_u_t SS lvs) e15 B_sb.1 (g := (mkF m 30 #[vR sb, vR x, vI 1] [(.ref x), (.int 7), (.ref sb)])) (rest := []) (lenOf own_pd23 rfl) (j68_22 hby 15 rfl) hz
  have Na17 := Fr.app Na14 Nq16
  have Cf18 := B_sb.2.2.2.1.keep K16 (ninS n_sb_t nin0)
  obtain ⟨T19, X19, e19, st19⟩ := getF X16 hx hZ hown (host := "") (Or.inl (ow hw 135 rfl)) Via.refl rfl Cf18 (g := (mkF m 35 #[vR sb, vR x, vI 1] [(.ref sb), (.ref sb)])) rfl rfl (j68_22 hby 18 rfl)
  have Cf20 := B_sb.1.keep K16
  have Cf21 := B_sb.2.1.keep K16 (ninS n_sb_t nin0)
  have Cf22 := B_sb.2.2.1.keep K16 (ninS n_sb_t nin0)
  have Cf23 := B_sb.2.2.2.2.1.keep K16 (ninS n_sb_t nin0)
  obtain ⟨T24, h24, X24, e24, W24, st24⟩ := putF X19 hx hZ hown (host := "") (Or.inl (ow hw 135 rfl)) Via.refl e19 Cf18 Cf20 (Or.inl (ow hw 136 rfl)) (ow hw 106 rfl) (ty := .int) (by decide) rfl rfl (g := (mkF m 40 #[vR sb, vR x, vI 1] [(.int 8), (.ref sb)])) rfl rfl (j68_22 hby 21 rfl)
  have Ew24 := Cf20.wr W24
  have Fo25 := Cf21.other W24 (Or.inr (slot_ne (Or.inl (ow hw 120 rfl)) (Or.inl (ow hw 136 rfl)) (by decide) (t := (.array .byte)) (t' := .int) (by decide) (by decide)))
  have Fo26 := Cf22.other W24 (Or.inr (slot_ne (Or.inl (ow hw 122 rfl)) (Or.inl (ow hw 136 rfl)) (by decide) (t := .byte) (t' := .int) (by decide) (by decide)))
  have Fw24 := Cf18.same W24
  have Fo27 := Cf23.other W24 (Or.inr (slot_ne (Or.inl (ow hw 307 rfl)) (Or.inl (ow hw 136 rfl)) (by decide) (t := .boolean) (t' := .int) (by decide) (by decide)))
  have N24 := Fr.snoc X24 Na17 g_sb
  have Cf28 := Po16_0.other W24 (Ne.symm n_sb_t)
  refine ⟨_, _, _, _, some (.ref sb), X24, (fun h => nomatch h), by decide, by decide, ?_, fun fs hr => ?_⟩
  · show own_QaaUL71 Z sb t kt x u ku w2 fm vs v0 h0 n0 _ T24.heap _
    rw [e24]
    exact ⟨rfl, N24, (((Keep.refl h0 [sb, t]).trans K16 ((allS (Or.inl (List.mem_of_getElem? (i := 1) rfl)) all0))).wr W24 (Or.inl (List.mem_of_getElem? (i := 0) rfl))), ⟨Ew24, Fo25, Fo26, Fw24, Fo27, Cf28⟩⟩
  · refine sA X0.here hx (j68_22 hby 0 rfl) ?_
    refine XS.ifnonnullYes X0.here hx rfl (pc0 := 1) (pc' := 9) rfl (j68_22 hby 1 rfl) rfl (by decide) (by decide) ?_
    refine sA X0.here hx (j68_22 hby 2 rfl) ?_
    refine st10 _ ?_
    refine XS.istoreN X10.here hx rfl (j68_22 hby 4 rfl) rfl (l' := #[vR sb, vR x, vI 1]) rfl ?_
    refine sA X10.here hx (j68_22 hby 5 rfl) ?_
    refine sA X10.here hx (j68_22 hby 6 rfl) ?_
    refine st12 _ ?_
    refine sI X12.here hx (j68_22 hby 8 rfl) ?_
    refine XS.iadd X12.here hx rfl (j68_22 hby 9 rfl) rfl ?_
    refine st13 _ ?_
    refine sA X13.here hx (j68_22 hby 11 rfl) ?_
    refine sA X13.here hx (j68_22 hby 12 rfl) ?_
    refine st15 _ ?_
    refine sA X15.here hx (j68_22 hby 14 rfl) ?_
    refine st16 _ ?_
    refine sA X16.here hx (j68_22 hby 16 rfl) ?_
    refine XS.dup X16.here hx rfl (j68_22 hby 17 rfl) rfl rfl ?_
    refine st19 _ ?_
    refine sI X19.here hx (j68_22 hby 19 rfl) ?_
    refine XS.iadd X19.here hx rfl (j68_22 hby 20 rfl) rfl ?_
    refine st24 _ ?_
    refine sA X24.here hx (j68_22 hby 22 rfl) ?_
    exact retR X24 hx hrt rfl rfl rfl (j68_22 hby 23 rfl) hr
def own_QapUL71 (Z : State) (sb t : Addr) (kt : ClassId) (x u : Addr) (ku : ClassId) (w2 : Int32) (fm : Value) (vs : List Value) (v0 : Int32) (h0 : Heap) (n0 : Nat) (v : Option Value) (h : Heap) (L : List Loc) : Prop := v = some (.ref sb) ∧ Fr n0 L ∧ Keep h0 h [sb, t] ∧ own_Bd Z h sb t kt 1 8 32 ((vs.set 14 (oLoL v0)).set 15 (oHoH v0))
theorem own_apUL71 (hw : own_HW a0 Z) {sb t : Addr} {kt : ClassId} {x u : Addr} {ku : ClassId} {w2 : Int32} {fm : Value} {vs : List Value} {v0 : Int32}  (Z0 : n0 ≤ h0.size) (B_sb : own_Bd Z h0 sb t kt 1 7 32 vs) (S_x : own_Sr Z h0 x u ku 0 1 [(.int v0)]) (g_sb : n0 ≤ sb) (g_t : n0 ≤ t) (n_sb_t : sb ≠ t) (n_u_t : u ≠ t) (SS : own_ST Z h0 w2 fm) (lvs : vs.length = 32) : own_M l Z h0 y_44 jdk_67_method_7_code 2 (some (.object "java/lang/StringBuilder")) (rm 8 0 0 119) #[(.ref sb), (.ref x)] (own_QapUL71 Z sb t kt x u ku w2 fm vs v0 h0 n0) := by
  refine own_go #[vR sb, vR x] (plainFor_of_name own_pn6) (fun m => rfl) fun p e s m below meth c s₁ hx hby hz hZ hown hnm hrt X0 e0 => ?_
  obtain ⟨_, T10, L10, X10, ⟨rfl, Nq10, K10, Po10_0⟩, st10⟩ := own_cu 0 X0 hx hZ hown (ow hw 129 rfl) (ow hw 130 rfl) (ow hw 115 rfl) (ow hw 133 rfl) (ow hw 131 rfl) (ow hw 140 rfl) (own_aaUL71 hw  Z0 B_sb S_x g_sb g_t n_sb_t n_u_t SS lvs) e0 B_sb.1 (g := (mkF m 2 #[vR sb, vR x] [(.ref x), (.ref sb)])) (rest := []) (lenOf own_pd24 rfl) (j67_7 hby 2 rfl) hz
  have Na11 := Fr.app (Fr.nil n0) Nq10
  refine ⟨_, _, _, _, some (.ref sb), X10, (fun h => nomatch h), by decide, by decide, ?_, fun fs hr => ?_⟩
  · show own_QapUL71 Z sb t kt x u ku w2 fm vs v0 h0 n0 _ T10.heap _
    exact ⟨rfl, Na11, ((Keep.refl h0 [sb, t]).trans K10 ((allS (Or.inl (List.mem_of_getElem? (i := 0) rfl)) (allS (Or.inl (List.mem_of_getElem? (i := 1) rfl)) all0)))), Po10_0⟩
  · refine sA X0.here hx (j67_7 hby 0 rfl) ?_
    refine sA X0.here hx (j67_7 hby 1 rfl) ?_
    refine st10 _ ?_
    refine XS.pop X10.here hx rfl (j67_7 hby 3 rfl) rfl rfl ?_
    refine sA X10.here hx (j67_7 hby 4 rfl) ?_
    exact retR X10 hx hrt rfl rfl rfl (j67_7 hby 5 rfl) hr
def own_QaaUL72 (Z : State) (sb t : Addr) (kt : ClassId) (x u : Addr) (ku : ClassId) (w2 : Int32) (fm : Value) (vs : List Value) (v0 v1 : Int32) (h0 : Heap) (n0 : Nat) (v : Option Value) (h : Heap) (L : List Loc) : Prop := v = some (.ref sb) ∧ Fr n0 L ∧ Keep h0 h [sb, t] ∧ own_Bd Z h sb t kt 1 9 32 ((((vs.set 14 (oLoL v0)).set 15 (oHoH v0)).set 16 (oLoL v1)).set 17 (oHoH v1))
theorem own_aaUL72 (hw : own_HW a0 Z) {sb t : Addr} {kt : ClassId} {x u : Addr} {ku : ClassId} {w2 : Int32} {fm : Value} {vs : List Value} {v0 v1 : Int32}  (Z0 : n0 ≤ h0.size) (B_sb : own_Bd Z h0 sb t kt 1 7 32 vs) (S_x : own_Sr Z h0 x u ku 0 2 [(.int v0), (.int v1)]) (g_sb : n0 ≤ sb) (g_t : n0 ≤ t) (n_sb_t : sb ≠ t) (n_u_t : u ≠ t) (SS : own_ST Z h0 w2 fm) (lvs : vs.length = 32) : own_M l Z h0 y_43 jdk_68_method_22_code 3 (some (.object "java/lang/AbstractStringBuilder")) (rm 7 0 0 105) #[(.ref sb), (.ref x)] (own_QaaUL72 Z sb t kt x u ku w2 fm vs v0 v1 h0 n0) := by
  refine own_go #[vR sb, vR x, vU] (plainFor_of_name own_pn5) (fun m => rfl) fun p e s m below meth c s₁ hx hby hz hZ hown hnm hrt X0 e0 => ?_
  obtain ⟨_, T10, L10, X10, ⟨rfl, Nq10, e10⟩, st10⟩ := own_cv 0 X0 hx hZ hown (ow hw 134 rfl) (ow hw 70 rfl) (ow hw 52 rfl) (ow hw 72 rfl) (ow hw 71 rfl) (ow hw 6 rfl) (ow hw 73 rfl) (own_len0 hw (2 : Int32) Z0 S_x SS (by decide)) e0 S_x.1 (g := (mkF m 10 #[vR sb, vR x, vU] [(.ref x)])) (rest := []) (lenOf own_pd13 rfl) (j68_22 hby 3 rfl) hz
  have Na11 := Fr.app (Fr.nil n0) Nq10
  obtain ⟨T12, X12, e12, st12⟩ := getF X10 hx hZ hown (host := "") (Or.inl (ow hw 135 rfl)) Via.refl e10 B_sb.2.2.2.1 (g := (mkF m 16 #[vR sb, vR x, vI 2] [(.ref sb), (.ref sb)])) rfl rfl (j68_22 hby 7 rfl)
  obtain ⟨_, T13, L13, X13, ⟨rfl, Nq13, e13⟩, st13⟩ := own_cv 0 X12 hx hZ hown (ow hw 137 rfl) (own_decl (ow hw 138 rfl) (ow hw 141 rfl)) (ow hw 140 rfl) (ow hw 140 rfl) (ow hw 138 rfl) (ow hw 115 rfl) (ow hw 141 rfl) (own_ens hw (9 : Int32) (16 : Int32) Z0 B_sb.2.1 B_sb.2.2.1 B_sb.2.2.2.2.2 (by decide) (by decide)) e12 B_sb.1 (g := (mkF m 21 #[vR sb, vR x, vI 2] [(.int 9), (.ref sb)])) (rest := []) (lenOf own_pd15 rfl) (j68_22 hby 10 rfl) hz
  have Na14 := Fr.app Na11 Nq13
  obtain ⟨T15, X15, e15, st15⟩ := getF X13 hx hZ hown (host := "") (Or.inl (ow hw 135 rfl)) Via.refl e13 B_sb.2.2.2.1 (g := (mkF m 26 #[vR sb, vR x, vI 2] [(.ref sb), (.ref sb)])) rfl rfl (j68_22 hby 13 rfl)
  obtain ⟨_, T16, L16, X16, ⟨rfl, Nq16, K16, Po16_0⟩, st16⟩ := own_cv 0 X15 hx hZ hown (ow hw 142 rfl) (own_decl (ow hw 143 rfl) (ow hw 146 rfl)) (ow hw 140 rfl) (ow hw 145 rfl) (ow hw 143 rfl) (ow hw 115 rfl) (ow hw 146 rfl) (own_psaUL72 hw  Z0 B_sb.1 B_sb.2.1 B_sb.2.2.1 S_x B_sb.2.2.2.2.2 g_t n_u_t SS lvs) e15 B_sb.1 (g := (mkF m 30 #[vR sb, vR x, vI 2] [(.ref x), (.int 7), (.ref sb)])) (rest := []) (lenOf own_pd23 rfl) (j68_22 hby 15 rfl) hz
  have Na17 := Fr.app Na14 Nq16
  have Cf18 := B_sb.2.2.2.1.keep K16 (ninS n_sb_t nin0)
  obtain ⟨T19, X19, e19, st19⟩ := getF X16 hx hZ hown (host := "") (Or.inl (ow hw 135 rfl)) Via.refl rfl Cf18 (g := (mkF m 35 #[vR sb, vR x, vI 2] [(.ref sb), (.ref sb)])) rfl rfl (j68_22 hby 18 rfl)
  have Cf20 := B_sb.1.keep K16
  have Cf21 := B_sb.2.1.keep K16 (ninS n_sb_t nin0)
  have Cf22 := B_sb.2.2.1.keep K16 (ninS n_sb_t nin0)
  have Cf23 := B_sb.2.2.2.2.1.keep K16 (ninS n_sb_t nin0)
  obtain ⟨T24, h24, X24, e24, W24, st24⟩ := putF X19 hx hZ hown (host := "") (Or.inl (ow hw 135 rfl)) Via.refl e19 Cf18 Cf20 (Or.inl (ow hw 136 rfl)) (ow hw 106 rfl) (ty := .int) (by decide) rfl rfl (g := (mkF m 40 #[vR sb, vR x, vI 2] [(.int 9), (.ref sb)])) rfl rfl (j68_22 hby 21 rfl)
  have Ew24 := Cf20.wr W24
  have Fo25 := Cf21.other W24 (Or.inr (slot_ne (Or.inl (ow hw 120 rfl)) (Or.inl (ow hw 136 rfl)) (by decide) (t := (.array .byte)) (t' := .int) (by decide) (by decide)))
  have Fo26 := Cf22.other W24 (Or.inr (slot_ne (Or.inl (ow hw 122 rfl)) (Or.inl (ow hw 136 rfl)) (by decide) (t := .byte) (t' := .int) (by decide) (by decide)))
  have Fw24 := Cf18.same W24
  have Fo27 := Cf23.other W24 (Or.inr (slot_ne (Or.inl (ow hw 307 rfl)) (Or.inl (ow hw 136 rfl)) (by decide) (t := .boolean) (t' := .int) (by decide) (by decide)))
  have N24 := Fr.snoc X24 Na17 g_sb
  have Cf28 := Po16_0.other W24 (Ne.symm n_sb_t)
  refine ⟨_, _, _, _, some (.ref sb), X24, (fun h => nomatch h), by decide, by decide, ?_, fun fs hr => ?_⟩
  · show own_QaaUL72 Z sb t kt x u ku w2 fm vs v0 v1 h0 n0 _ T24.heap _
    rw [e24]
    exact ⟨rfl, N24, (((Keep.refl h0 [sb, t]).trans K16 ((allS (Or.inl (List.mem_of_getElem? (i := 1) rfl)) all0))).wr W24 (Or.inl (List.mem_of_getElem? (i := 0) rfl))), ⟨Ew24, Fo25, Fo26, Fw24, Fo27, Cf28⟩⟩
  · refine sA X0.here hx (j68_22 hby 0 rfl) ?_
    refine XS.ifnonnullYes X0.here hx rfl (pc0 := 1) (pc' := 9) rfl (j68_22 hby 1 rfl) rfl (by decide) (by decide) ?_
    refine sA X0.here hx (j68_22 hby 2 rfl) ?_
    refine st10 _ ?_
    refine XS.istoreN X10.here hx rfl (j68_22 hby 4 rfl) rfl (l' := #[vR sb, vR x, vI 2]) rfl ?_
    refine sA X10.here hx (j68_22 hby 5 rfl) ?_
    refine sA X10.here hx (j68_22 hby 6 rfl) ?_
    refine st12 _ ?_
    refine sI X12.here hx (j68_22 hby 8 rfl) ?_
    refine XS.iadd X12.here hx rfl (j68_22 hby 9 rfl) rfl ?_
    refine st13 _ ?_
    refine sA X13.here hx (j68_22 hby 11 rfl) ?_
    refine sA X13.here hx (j68_22 hby 12 rfl) ?_
    refine st15 _ ?_
    refine sA X15.here hx (j68_22 hby 14 rfl) ?_
    refine st16 _ ?_
    refine sA X16.here hx (j68_22 hby 16 rfl) ?_
    refine XS.dup X16.here hx rfl (j68_22 hby 17 rfl) rfl rfl ?_
    refine st19 _ ?_
    refine sI X19.here hx (j68_22 hby 19 rfl) ?_
    refine XS.iadd X19.here hx rfl (j68_22 hby 20 rfl) rfl ?_
    refine st24 _ ?_
    refine sA X24.here hx (j68_22 hby 22 rfl) ?_
    exact retR X24 hx hrt rfl rfl rfl (j68_22 hby 23 rfl) hr
def own_QapUL72 (Z : State) (sb t : Addr) (kt : ClassId) (x u : Addr) (ku : ClassId) (w2 : Int32) (fm : Value) (vs : List Value) (v0 v1 : Int32) (h0 : Heap) (n0 : Nat) (v : Option Value) (h : Heap) (L : List Loc) : Prop := v = some (.ref sb) ∧ Fr n0 L ∧ Keep h0 h [sb, t] ∧ own_Bd Z h sb t kt 1 9 32 ((((vs.set 14 (oLoL v0)).set 15 (oHoH v0)).set 16 (oLoL v1)).set 17 (oHoH v1))
theorem own_apUL72 (hw : own_HW a0 Z) {sb t : Addr} {kt : ClassId} {x u : Addr} {ku : ClassId} {w2 : Int32} {fm : Value} {vs : List Value} {v0 v1 : Int32}  (Z0 : n0 ≤ h0.size) (B_sb : own_Bd Z h0 sb t kt 1 7 32 vs) (S_x : own_Sr Z h0 x u ku 0 2 [(.int v0), (.int v1)]) (g_sb : n0 ≤ sb) (g_t : n0 ≤ t) (n_sb_t : sb ≠ t) (n_u_t : u ≠ t) (SS : own_ST Z h0 w2 fm) (lvs : vs.length = 32) : own_M l Z h0 y_44 jdk_67_method_7_code 2 (some (.object "java/lang/StringBuilder")) (rm 8 0 0 119) #[(.ref sb), (.ref x)] (own_QapUL72 Z sb t kt x u ku w2 fm vs v0 v1 h0 n0) := by
  refine own_go #[vR sb, vR x] (plainFor_of_name own_pn6) (fun m => rfl) fun p e s m below meth c s₁ hx hby hz hZ hown hnm hrt X0 e0 => ?_
  obtain ⟨_, T10, L10, X10, ⟨rfl, Nq10, K10, Po10_0⟩, st10⟩ := own_cu 0 X0 hx hZ hown (ow hw 129 rfl) (ow hw 130 rfl) (ow hw 115 rfl) (ow hw 133 rfl) (ow hw 131 rfl) (ow hw 140 rfl) (own_aaUL72 hw  Z0 B_sb S_x g_sb g_t n_sb_t n_u_t SS lvs) e0 B_sb.1 (g := (mkF m 2 #[vR sb, vR x] [(.ref x), (.ref sb)])) (rest := []) (lenOf own_pd24 rfl) (j67_7 hby 2 rfl) hz
  have Na11 := Fr.app (Fr.nil n0) Nq10
  refine ⟨_, _, _, _, some (.ref sb), X10, (fun h => nomatch h), by decide, by decide, ?_, fun fs hr => ?_⟩
  · show own_QapUL72 Z sb t kt x u ku w2 fm vs v0 v1 h0 n0 _ T10.heap _
    exact ⟨rfl, Na11, ((Keep.refl h0 [sb, t]).trans K10 ((allS (Or.inl (List.mem_of_getElem? (i := 0) rfl)) (allS (Or.inl (List.mem_of_getElem? (i := 1) rfl)) all0)))), Po10_0⟩
  · refine sA X0.here hx (j67_7 hby 0 rfl) ?_
    refine sA X0.here hx (j67_7 hby 1 rfl) ?_
    refine st10 _ ?_
    refine XS.pop X10.here hx rfl (j67_7 hby 3 rfl) rfl rfl ?_
    refine sA X10.here hx (j67_7 hby 4 rfl) ?_
    exact retR X10 hx hrt rfl rfl rfl (j67_7 hby 5 rfl) hr
def own_QaaUL81 (Z : State) (sb t : Addr) (kt : ClassId) (x u : Addr) (ku : ClassId) (w2 : Int32) (fm : Value) (vs : List Value) (v0 : Int32) (h0 : Heap) (n0 : Nat) (v : Option Value) (h : Heap) (L : List Loc) : Prop := v = some (.ref sb) ∧ Fr n0 L ∧ Keep h0 h [sb, t] ∧ own_Bd Z h sb t kt 1 9 32 ((vs.set 16 (oLoL v0)).set 17 (oHoH v0))
theorem own_aaUL81 (hw : own_HW a0 Z) {sb t : Addr} {kt : ClassId} {x u : Addr} {ku : ClassId} {w2 : Int32} {fm : Value} {vs : List Value} {v0 : Int32}  (Z0 : n0 ≤ h0.size) (B_sb : own_Bd Z h0 sb t kt 1 8 32 vs) (S_x : own_Sr Z h0 x u ku 0 1 [(.int v0)]) (g_sb : n0 ≤ sb) (g_t : n0 ≤ t) (n_sb_t : sb ≠ t) (n_u_t : u ≠ t) (SS : own_ST Z h0 w2 fm) (lvs : vs.length = 32) : own_M l Z h0 y_43 jdk_68_method_22_code 3 (some (.object "java/lang/AbstractStringBuilder")) (rm 7 0 0 105) #[(.ref sb), (.ref x)] (own_QaaUL81 Z sb t kt x u ku w2 fm vs v0 h0 n0) := by
  refine own_go #[vR sb, vR x, vU] (plainFor_of_name own_pn5) (fun m => rfl) fun p e s m below meth c s₁ hx hby hz hZ hown hnm hrt X0 e0 => ?_
  obtain ⟨_, T10, L10, X10, ⟨rfl, Nq10, e10⟩, st10⟩ := own_cv 0 X0 hx hZ hown (ow hw 134 rfl) (ow hw 70 rfl) (ow hw 52 rfl) (ow hw 72 rfl) (ow hw 71 rfl) (ow hw 6 rfl) (ow hw 73 rfl) (own_len0 hw (1 : Int32) Z0 S_x SS (by decide)) e0 S_x.1 (g := (mkF m 10 #[vR sb, vR x, vU] [(.ref x)])) (rest := []) (lenOf own_pd13 rfl) (j68_22 hby 3 rfl) hz
  have Na11 := Fr.app (Fr.nil n0) Nq10
  obtain ⟨T12, X12, e12, st12⟩ := getF X10 hx hZ hown (host := "") (Or.inl (ow hw 135 rfl)) Via.refl e10 B_sb.2.2.2.1 (g := (mkF m 16 #[vR sb, vR x, vI 1] [(.ref sb), (.ref sb)])) rfl rfl (j68_22 hby 7 rfl)
  obtain ⟨_, T13, L13, X13, ⟨rfl, Nq13, e13⟩, st13⟩ := own_cv 0 X12 hx hZ hown (ow hw 137 rfl) (own_decl (ow hw 138 rfl) (ow hw 141 rfl)) (ow hw 140 rfl) (ow hw 140 rfl) (ow hw 138 rfl) (ow hw 115 rfl) (ow hw 141 rfl) (own_ens hw (9 : Int32) (16 : Int32) Z0 B_sb.2.1 B_sb.2.2.1 B_sb.2.2.2.2.2 (by decide) (by decide)) e12 B_sb.1 (g := (mkF m 21 #[vR sb, vR x, vI 1] [(.int 9), (.ref sb)])) (rest := []) (lenOf own_pd15 rfl) (j68_22 hby 10 rfl) hz
  have Na14 := Fr.app Na11 Nq13
  obtain ⟨T15, X15, e15, st15⟩ := getF X13 hx hZ hown (host := "") (Or.inl (ow hw 135 rfl)) Via.refl e13 B_sb.2.2.2.1 (g := (mkF m 26 #[vR sb, vR x, vI 1] [(.ref sb), (.ref sb)])) rfl rfl (j68_22 hby 13 rfl)
  obtain ⟨_, T16, L16, X16, ⟨rfl, Nq16, K16, Po16_0⟩, st16⟩ := own_cv 0 X15 hx hZ hown (ow hw 142 rfl) (own_decl (ow hw 143 rfl) (ow hw 146 rfl)) (ow hw 140 rfl) (ow hw 145 rfl) (ow hw 143 rfl) (ow hw 115 rfl) (ow hw 146 rfl) (own_psaUL81 hw  Z0 B_sb.1 B_sb.2.1 B_sb.2.2.1 S_x B_sb.2.2.2.2.2 g_t n_u_t SS lvs) e15 B_sb.1 (g := (mkF m 30 #[vR sb, vR x, vI 1] [(.ref x), (.int 8), (.ref sb)])) (rest := []) (lenOf own_pd23 rfl) (j68_22 hby 15 rfl) hz
  have Na17 := Fr.app Na14 Nq16
  have Cf18 := B_sb.2.2.2.1.keep K16 (ninS n_sb_t nin0)
  obtain ⟨T19, X19, e19, st19⟩ := getF X16 hx hZ hown (host := "") (Or.inl (ow hw 135 rfl)) Via.refl rfl Cf18 (g := (mkF m 35 #[vR sb, vR x, vI 1] [(.ref sb), (.ref sb)])) rfl rfl (j68_22 hby 18 rfl)
  have Cf20 := B_sb.1.keep K16
  have Cf21 := B_sb.2.1.keep K16 (ninS n_sb_t nin0)
  have Cf22 := B_sb.2.2.1.keep K16 (ninS n_sb_t nin0)
  have Cf23 := B_sb.2.2.2.2.1.keep K16 (ninS n_sb_t nin0)
  obtain ⟨T24, h24, X24, e24, W24, st24⟩ := putF X19 hx hZ hown (host := "") (Or.inl (ow hw 135 rfl)) Via.refl e19 Cf18 Cf20 (Or.inl (ow hw 136 rfl)) (ow hw 106 rfl) (ty := .int) (by decide) rfl rfl (g := (mkF m 40 #[vR sb, vR x, vI 1] [(.int 9), (.ref sb)])) rfl rfl (j68_22 hby 21 rfl)
  have Ew24 := Cf20.wr W24
  have Fo25 := Cf21.other W24 (Or.inr (slot_ne (Or.inl (ow hw 120 rfl)) (Or.inl (ow hw 136 rfl)) (by decide) (t := (.array .byte)) (t' := .int) (by decide) (by decide)))
  have Fo26 := Cf22.other W24 (Or.inr (slot_ne (Or.inl (ow hw 122 rfl)) (Or.inl (ow hw 136 rfl)) (by decide) (t := .byte) (t' := .int) (by decide) (by decide)))
  have Fw24 := Cf18.same W24
  have Fo27 := Cf23.other W24 (Or.inr (slot_ne (Or.inl (ow hw 307 rfl)) (Or.inl (ow hw 136 rfl)) (by decide) (t := .boolean) (t' := .int) (by decide) (by decide)))
  have N24 := Fr.snoc X24 Na17 g_sb
  have Cf28 := Po16_0.other W24 (Ne.symm n_sb_t)
  refine ⟨_, _, _, _, some (.ref sb), X24, (fun h => nomatch h), by decide, by decide, ?_, fun fs hr => ?_⟩
  · show own_QaaUL81 Z sb t kt x u ku w2 fm vs v0 h0 n0 _ T24.heap _
    rw [e24]
    exact ⟨rfl, N24, (((Keep.refl h0 [sb, t]).trans K16 ((allS (Or.inl (List.mem_of_getElem? (i := 1) rfl)) all0))).wr W24 (Or.inl (List.mem_of_getElem? (i := 0) rfl))), ⟨Ew24, Fo25, Fo26, Fw24, Fo27, Cf28⟩⟩
  · refine sA X0.here hx (j68_22 hby 0 rfl) ?_
    refine XS.ifnonnullYes X0.here hx rfl (pc0 := 1) (pc' := 9) rfl (j68_22 hby 1 rfl) rfl (by decide) (by decide) ?_
    refine sA X0.here hx (j68_22 hby 2 rfl) ?_
    refine st10 _ ?_
    refine XS.istoreN X10.here hx rfl (j68_22 hby 4 rfl) rfl (l' := #[vR sb, vR x, vI 1]) rfl ?_
    refine sA X10.here hx (j68_22 hby 5 rfl) ?_
    refine sA X10.here hx (j68_22 hby 6 rfl) ?_
    refine st12 _ ?_
    refine sI X12.here hx (j68_22 hby 8 rfl) ?_
    refine XS.iadd X12.here hx rfl (j68_22 hby 9 rfl) rfl ?_
    refine st13 _ ?_
    refine sA X13.here hx (j68_22 hby 11 rfl) ?_
    refine sA X13.here hx (j68_22 hby 12 rfl) ?_
    refine st15 _ ?_
    refine sA X15.here hx (j68_22 hby 14 rfl) ?_
    refine st16 _ ?_
    refine sA X16.here hx (j68_22 hby 16 rfl) ?_
    refine XS.dup X16.here hx rfl (j68_22 hby 17 rfl) rfl rfl ?_
    refine st19 _ ?_
    refine sI X19.here hx (j68_22 hby 19 rfl) ?_
    refine XS.iadd X19.here hx rfl (j68_22 hby 20 rfl) rfl ?_
    refine st24 _ ?_
    refine sA X24.here hx (j68_22 hby 22 rfl) ?_
    exact retR X24 hx hrt rfl rfl rfl (j68_22 hby 23 rfl) hr
def own_QapUL81 (Z : State) (sb t : Addr) (kt : ClassId) (x u : Addr) (ku : ClassId) (w2 : Int32) (fm : Value) (vs : List Value) (v0 : Int32) (h0 : Heap) (n0 : Nat) (v : Option Value) (h : Heap) (L : List Loc) : Prop := v = some (.ref sb) ∧ Fr n0 L ∧ Keep h0 h [sb, t] ∧ own_Bd Z h sb t kt 1 9 32 ((vs.set 16 (oLoL v0)).set 17 (oHoH v0))
theorem own_apUL81 (hw : own_HW a0 Z) {sb t : Addr} {kt : ClassId} {x u : Addr} {ku : ClassId} {w2 : Int32} {fm : Value} {vs : List Value} {v0 : Int32}  (Z0 : n0 ≤ h0.size) (B_sb : own_Bd Z h0 sb t kt 1 8 32 vs) (S_x : own_Sr Z h0 x u ku 0 1 [(.int v0)]) (g_sb : n0 ≤ sb) (g_t : n0 ≤ t) (n_sb_t : sb ≠ t) (n_u_t : u ≠ t) (SS : own_ST Z h0 w2 fm) (lvs : vs.length = 32) : own_M l Z h0 y_44 jdk_67_method_7_code 2 (some (.object "java/lang/StringBuilder")) (rm 8 0 0 119) #[(.ref sb), (.ref x)] (own_QapUL81 Z sb t kt x u ku w2 fm vs v0 h0 n0) := by
  refine own_go #[vR sb, vR x] (plainFor_of_name own_pn6) (fun m => rfl) fun p e s m below meth c s₁ hx hby hz hZ hown hnm hrt X0 e0 => ?_
  obtain ⟨_, T10, L10, X10, ⟨rfl, Nq10, K10, Po10_0⟩, st10⟩ := own_cu 0 X0 hx hZ hown (ow hw 129 rfl) (ow hw 130 rfl) (ow hw 115 rfl) (ow hw 133 rfl) (ow hw 131 rfl) (ow hw 140 rfl) (own_aaUL81 hw  Z0 B_sb S_x g_sb g_t n_sb_t n_u_t SS lvs) e0 B_sb.1 (g := (mkF m 2 #[vR sb, vR x] [(.ref x), (.ref sb)])) (rest := []) (lenOf own_pd24 rfl) (j67_7 hby 2 rfl) hz
  have Na11 := Fr.app (Fr.nil n0) Nq10
  refine ⟨_, _, _, _, some (.ref sb), X10, (fun h => nomatch h), by decide, by decide, ?_, fun fs hr => ?_⟩
  · show own_QapUL81 Z sb t kt x u ku w2 fm vs v0 h0 n0 _ T10.heap _
    exact ⟨rfl, Na11, ((Keep.refl h0 [sb, t]).trans K10 ((allS (Or.inl (List.mem_of_getElem? (i := 0) rfl)) (allS (Or.inl (List.mem_of_getElem? (i := 1) rfl)) all0)))), Po10_0⟩
  · refine sA X0.here hx (j67_7 hby 0 rfl) ?_
    refine sA X0.here hx (j67_7 hby 1 rfl) ?_
    refine st10 _ ?_
    refine XS.pop X10.here hx rfl (j67_7 hby 3 rfl) rfl rfl ?_
    refine sA X10.here hx (j67_7 hby 4 rfl) ?_
    exact retR X10 hx hrt rfl rfl rfl (j67_7 hby 5 rfl) hr
def own_QaaUL82 (Z : State) (sb t : Addr) (kt : ClassId) (x u : Addr) (ku : ClassId) (w2 : Int32) (fm : Value) (vs : List Value) (v0 v1 : Int32) (h0 : Heap) (n0 : Nat) (v : Option Value) (h : Heap) (L : List Loc) : Prop := v = some (.ref sb) ∧ Fr n0 L ∧ Keep h0 h [sb, t] ∧ own_Bd Z h sb t kt 1 10 32 ((((vs.set 16 (oLoL v0)).set 17 (oHoH v0)).set 18 (oLoL v1)).set 19 (oHoH v1))
theorem own_aaUL82 (hw : own_HW a0 Z) {sb t : Addr} {kt : ClassId} {x u : Addr} {ku : ClassId} {w2 : Int32} {fm : Value} {vs : List Value} {v0 v1 : Int32}  (Z0 : n0 ≤ h0.size) (B_sb : own_Bd Z h0 sb t kt 1 8 32 vs) (S_x : own_Sr Z h0 x u ku 0 2 [(.int v0), (.int v1)]) (g_sb : n0 ≤ sb) (g_t : n0 ≤ t) (n_sb_t : sb ≠ t) (n_u_t : u ≠ t) (SS : own_ST Z h0 w2 fm) (lvs : vs.length = 32) : own_M l Z h0 y_43 jdk_68_method_22_code 3 (some (.object "java/lang/AbstractStringBuilder")) (rm 7 0 0 105) #[(.ref sb), (.ref x)] (own_QaaUL82 Z sb t kt x u ku w2 fm vs v0 v1 h0 n0) := by
  refine own_go #[vR sb, vR x, vU] (plainFor_of_name own_pn5) (fun m => rfl) fun p e s m below meth c s₁ hx hby hz hZ hown hnm hrt X0 e0 => ?_
  obtain ⟨_, T10, L10, X10, ⟨rfl, Nq10, e10⟩, st10⟩ := own_cv 0 X0 hx hZ hown (ow hw 134 rfl) (ow hw 70 rfl) (ow hw 52 rfl) (ow hw 72 rfl) (ow hw 71 rfl) (ow hw 6 rfl) (ow hw 73 rfl) (own_len0 hw (2 : Int32) Z0 S_x SS (by decide)) e0 S_x.1 (g := (mkF m 10 #[vR sb, vR x, vU] [(.ref x)])) (rest := []) (lenOf own_pd13 rfl) (j68_22 hby 3 rfl) hz
  have Na11 := Fr.app (Fr.nil n0) Nq10
  obtain ⟨T12, X12, e12, st12⟩ := getF X10 hx hZ hown (host := "") (Or.inl (ow hw 135 rfl)) Via.refl e10 B_sb.2.2.2.1 (g := (mkF m 16 #[vR sb, vR x, vI 2] [(.ref sb), (.ref sb)])) rfl rfl (j68_22 hby 7 rfl)
  obtain ⟨_, T13, L13, X13, ⟨rfl, Nq13, e13⟩, st13⟩ := own_cv 0 X12 hx hZ hown (ow hw 137 rfl) (own_decl (ow hw 138 rfl) (ow hw 141 rfl)) (ow hw 140 rfl) (ow hw 140 rfl) (ow hw 138 rfl) (ow hw 115 rfl) (ow hw 141 rfl) (own_ens hw (10 : Int32) (16 : Int32) Z0 B_sb.2.1 B_sb.2.2.1 B_sb.2.2.2.2.2 (by decide) (by decide)) e12 B_sb.1 (g := (mkF m 21 #[vR sb, vR x, vI 2] [(.int 10), (.ref sb)])) (rest := []) (lenOf own_pd15 rfl) (j68_22 hby 10 rfl) hz
  have Na14 := Fr.app Na11 Nq13
  obtain ⟨T15, X15, e15, st15⟩ := getF X13 hx hZ hown (host := "") (Or.inl (ow hw 135 rfl)) Via.refl e13 B_sb.2.2.2.1 (g := (mkF m 26 #[vR sb, vR x, vI 2] [(.ref sb), (.ref sb)])) rfl rfl (j68_22 hby 13 rfl)
  obtain ⟨_, T16, L16, X16, ⟨rfl, Nq16, K16, Po16_0⟩, st16⟩ := own_cv 0 X15 hx hZ hown (ow hw 142 rfl) (own_decl (ow hw 143 rfl) (ow hw 146 rfl)) (ow hw 140 rfl) (ow hw 145 rfl) (ow hw 143 rfl) (ow hw 115 rfl) (ow hw 146 rfl) (own_psaUL82 hw  Z0 B_sb.1 B_sb.2.1 B_sb.2.2.1 S_x B_sb.2.2.2.2.2 g_t n_u_t SS lvs) e15 B_sb.1 (g := (mkF m 30 #[vR sb, vR x, vI 2] [(.ref x), (.int 8), (.ref sb)])) (rest := []) (lenOf own_pd23 rfl) (j68_22 hby 15 rfl) hz
  have Na17 := Fr.app Na14 Nq16
  have Cf18 := B_sb.2.2.2.1.keep K16 (ninS n_sb_t nin0)
  obtain ⟨T19, X19, e19, st19⟩ := getF X16 hx hZ hown (host := "") (Or.inl (ow hw 135 rfl)) Via.refl rfl Cf18 (g := (mkF m 35 #[vR sb, vR x, vI 2] [(.ref sb), (.ref sb)])) rfl rfl (j68_22 hby 18 rfl)
  have Cf20 := B_sb.1.keep K16
  have Cf21 := B_sb.2.1.keep K16 (ninS n_sb_t nin0)
  have Cf22 := B_sb.2.2.1.keep K16 (ninS n_sb_t nin0)
  have Cf23 := B_sb.2.2.2.2.1.keep K16 (ninS n_sb_t nin0)
  obtain ⟨T24, h24, X24, e24, W24, st24⟩ := putF X19 hx hZ hown (host := "") (Or.inl (ow hw 135 rfl)) Via.refl e19 Cf18 Cf20 (Or.inl (ow hw 136 rfl)) (ow hw 106 rfl) (ty := .int) (by decide) rfl rfl (g := (mkF m 40 #[vR sb, vR x, vI 2] [(.int 10), (.ref sb)])) rfl rfl (j68_22 hby 21 rfl)
  have Ew24 := Cf20.wr W24
  have Fo25 := Cf21.other W24 (Or.inr (slot_ne (Or.inl (ow hw 120 rfl)) (Or.inl (ow hw 136 rfl)) (by decide) (t := (.array .byte)) (t' := .int) (by decide) (by decide)))
  have Fo26 := Cf22.other W24 (Or.inr (slot_ne (Or.inl (ow hw 122 rfl)) (Or.inl (ow hw 136 rfl)) (by decide) (t := .byte) (t' := .int) (by decide) (by decide)))
  have Fw24 := Cf18.same W24
  have Fo27 := Cf23.other W24 (Or.inr (slot_ne (Or.inl (ow hw 307 rfl)) (Or.inl (ow hw 136 rfl)) (by decide) (t := .boolean) (t' := .int) (by decide) (by decide)))
  have N24 := Fr.snoc X24 Na17 g_sb
  have Cf28 := Po16_0.other W24 (Ne.symm n_sb_t)
  refine ⟨_, _, _, _, some (.ref sb), X24, (fun h => nomatch h), by decide, by decide, ?_, fun fs hr => ?_⟩
  · show own_QaaUL82 Z sb t kt x u ku w2 fm vs v0 v1 h0 n0 _ T24.heap _
    rw [e24]
    exact ⟨rfl, N24, (((Keep.refl h0 [sb, t]).trans K16 ((allS (Or.inl (List.mem_of_getElem? (i := 1) rfl)) all0))).wr W24 (Or.inl (List.mem_of_getElem? (i := 0) rfl))), ⟨Ew24, Fo25, Fo26, Fw24, Fo27, Cf28⟩⟩
  · refine sA X0.here hx (j68_22 hby 0 rfl) ?_
    refine XS.ifnonnullYes X0.here hx rfl (pc0 := 1) (pc' := 9) rfl (j68_22 hby 1 rfl) rfl (by decide) (by decide) ?_
    refine sA X0.here hx (j68_22 hby 2 rfl) ?_
    refine st10 _ ?_
    refine XS.istoreN X10.here hx rfl (j68_22 hby 4 rfl) rfl (l' := #[vR sb, vR x, vI 2]) rfl ?_
    refine sA X10.here hx (j68_22 hby 5 rfl) ?_
    refine sA X10.here hx (j68_22 hby 6 rfl) ?_
    refine st12 _ ?_
    refine sI X12.here hx (j68_22 hby 8 rfl) ?_
    refine XS.iadd X12.here hx rfl (j68_22 hby 9 rfl) rfl ?_
    refine st13 _ ?_
    refine sA X13.here hx (j68_22 hby 11 rfl) ?_
    refine sA X13.here hx (j68_22 hby 12 rfl) ?_
    refine st15 _ ?_
    refine sA X15.here hx (j68_22 hby 14 rfl) ?_
    refine st16 _ ?_
    refine sA X16.here hx (j68_22 hby 16 rfl) ?_
    refine XS.dup X16.here hx rfl (j68_22 hby 17 rfl) rfl rfl ?_
    refine st19 _ ?_
    refine sI X19.here hx (j68_22 hby 19 rfl) ?_
    refine XS.iadd X19.here hx rfl (j68_22 hby 20 rfl) rfl ?_
    refine st24 _ ?_
    refine sA X24.here hx (j68_22 hby 22 rfl) ?_
    exact retR X24 hx hrt rfl rfl rfl (j68_22 hby 23 rfl) hr
def own_QapUL82 (Z : State) (sb t : Addr) (kt : ClassId) (x u : Addr) (ku : ClassId) (w2 : Int32) (fm : Value) (vs : List Value) (v0 v1 : Int32) (h0 : Heap) (n0 : Nat) (v : Option Value) (h : Heap) (L : List Loc) : Prop := v = some (.ref sb) ∧ Fr n0 L ∧ Keep h0 h [sb, t] ∧ own_Bd Z h sb t kt 1 10 32 ((((vs.set 16 (oLoL v0)).set 17 (oHoH v0)).set 18 (oLoL v1)).set 19 (oHoH v1))
theorem own_apUL82 (hw : own_HW a0 Z) {sb t : Addr} {kt : ClassId} {x u : Addr} {ku : ClassId} {w2 : Int32} {fm : Value} {vs : List Value} {v0 v1 : Int32}  (Z0 : n0 ≤ h0.size) (B_sb : own_Bd Z h0 sb t kt 1 8 32 vs) (S_x : own_Sr Z h0 x u ku 0 2 [(.int v0), (.int v1)]) (g_sb : n0 ≤ sb) (g_t : n0 ≤ t) (n_sb_t : sb ≠ t) (n_u_t : u ≠ t) (SS : own_ST Z h0 w2 fm) (lvs : vs.length = 32) : own_M l Z h0 y_44 jdk_67_method_7_code 2 (some (.object "java/lang/StringBuilder")) (rm 8 0 0 119) #[(.ref sb), (.ref x)] (own_QapUL82 Z sb t kt x u ku w2 fm vs v0 v1 h0 n0) := by
  refine own_go #[vR sb, vR x] (plainFor_of_name own_pn6) (fun m => rfl) fun p e s m below meth c s₁ hx hby hz hZ hown hnm hrt X0 e0 => ?_
  obtain ⟨_, T10, L10, X10, ⟨rfl, Nq10, K10, Po10_0⟩, st10⟩ := own_cu 0 X0 hx hZ hown (ow hw 129 rfl) (ow hw 130 rfl) (ow hw 115 rfl) (ow hw 133 rfl) (ow hw 131 rfl) (ow hw 140 rfl) (own_aaUL82 hw  Z0 B_sb S_x g_sb g_t n_sb_t n_u_t SS lvs) e0 B_sb.1 (g := (mkF m 2 #[vR sb, vR x] [(.ref x), (.ref sb)])) (rest := []) (lenOf own_pd24 rfl) (j67_7 hby 2 rfl) hz
  have Na11 := Fr.app (Fr.nil n0) Nq10
  refine ⟨_, _, _, _, some (.ref sb), X10, (fun h => nomatch h), by decide, by decide, ?_, fun fs hr => ?_⟩
  · show own_QapUL82 Z sb t kt x u ku w2 fm vs v0 v1 h0 n0 _ T10.heap _
    exact ⟨rfl, Na11, ((Keep.refl h0 [sb, t]).trans K10 ((allS (Or.inl (List.mem_of_getElem? (i := 0) rfl)) (allS (Or.inl (List.mem_of_getElem? (i := 1) rfl)) all0)))), Po10_0⟩
  · refine sA X0.here hx (j67_7 hby 0 rfl) ?_
    refine sA X0.here hx (j67_7 hby 1 rfl) ?_
    refine st10 _ ?_
    refine XS.pop X10.here hx rfl (j67_7 hby 3 rfl) rfl rfl ?_
    refine sA X10.here hx (j67_7 hby 4 rfl) ?_
    exact retR X10 hx hrt rfl rfl rfl (j67_7 hby 5 rfl) hr
def own_Qac06 (Z : State) (sb t : Addr) (kt : ClassId) (w2 : Int32) (vs : List Value) (fm : Value) (h0 : Heap) (n0 : Nat) (v : Option Value) (h : Heap) (L : List Loc) : Prop := v = some (.ref sb) ∧ Fr n0 L ∧ Keep h0 h [sb, t] ∧ own_Bd Z h sb t kt 0 7 16 (vs.set 6 (.int (nar .byte (58 : Int32))))
theorem own_ac06 (hw : own_HW a0 Z) {sb t : Addr} {kt : ClassId} {w2 : Int32} {vs : List Value} {fm : Value}  (Z0 : n0 ≤ h0.size) (B_sb : own_Bd Z h0 sb t kt 0 6 16 vs) (g_sb : n0 ≤ sb) (g_t : n0 ≤ t) (n_sb_t : sb ≠ t) (SS : own_ST Z h0 w2 fm) (lvs : vs.length = 16) : own_M l Z h0 y_45 jdk_68_method_31_code 2 (some (.object "java/lang/AbstractStringBuilder")) (rm 1 0 0 14) #[(.ref sb), (.int 58)] (own_Qac06 Z sb t kt w2 vs fm h0 n0) := by
  refine own_go #[vR sb, vI 58] (plainFor_of_name own_pn5) (fun m => rfl) fun p e s m below meth c s₁ hx hby hz hZ hown hnm hrt X0 e0 => ?_
  obtain ⟨T10, X10, e10, st10⟩ := getF X0 hx hZ hown (host := "") (Or.inl (ow hw 135 rfl)) Via.refl e0 B_sb.2.2.2.1 (g := (mkF m 2 #[vR sb, vI 58] [(.ref sb), (.ref sb)])) rfl rfl (j68_31 hby 2 rfl)
  obtain ⟨_, T11, L11, X11, ⟨rfl, Nq11, e11⟩, st11⟩ := own_cv 0 X10 hx hZ hown (ow hw 137 rfl) (own_decl (ow hw 138 rfl) (ow hw 141 rfl)) (ow hw 140 rfl) (ow hw 140 rfl) (ow hw 138 rfl) (ow hw 115 rfl) (ow hw 141 rfl) (own_ens hw (7 : Int32) (16 : Int32) Z0 B_sb.2.1 B_sb.2.2.1 B_sb.2.2.2.2.2 (by decide) (by decide)) e10 B_sb.1 (g := (mkF m 7 #[vR sb, vI 58] [(.int 7), (.ref sb)])) (rest := []) (lenOf own_pd15 rfl) (j68_31 hby 5 rfl) hz
  have Na12 := Fr.app (Fr.nil n0) Nq11
  obtain ⟨_, T13, L13, X13, ⟨rfl, Nq13, e13⟩, st13⟩ := own_cv 0 X11 hx hZ hown (ow hw 171 rfl) (ow hw 172 rfl) (ow hw 140 rfl) (ow hw 174 rfl) (ow hw 173 rfl) (ow hw 115 rfl) (ow hw 175 rfl) (own_aisl0 hw  Z0 B_sb.2.2.1 SS) e11 B_sb.1 (g := (mkF m 11 #[vR sb, vI 58] [(.ref sb)])) (rest := []) (lenOf own_pd12 rfl) (j68_31 hby 7 rfl) hz
  have Na14 := Fr.app Na12 Nq13
  obtain ⟨_, T15, L15, X15, ⟨rfl, Nq15, e15⟩, st15⟩ := own_cs 0 X13 hx hZ hown (ow hw 176 rfl) (ow hw 177 rfl) (ow hw 81 rfl) (ow hw 178 rfl) (own_ceC hw  Z0 ) e13 (g := (mkF m 18 #[vR sb, vI 58] [(.int 58)])) (rest := []) (lenOf own_pd25 rfl) (j68_31 hby 10 rfl) hz
  have Na16 := Fr.app Na14 Nq15
  obtain ⟨T17, X17, e17, st17⟩ := getF X15 hx hZ hown (host := "") (Or.inl (ow hw 119 rfl)) Via.refl e15 B_sb.2.1 (g := (mkF m 25 #[vR sb, vI 58] [(.ref sb)])) rfl rfl (j68_31 hby 13 rfl)
  obtain ⟨T18, X18, e18, st18⟩ := getF X17 hx hZ hown (host := "") (Or.inl (ow hw 135 rfl)) Via.refl e17 B_sb.2.2.2.1 (g := (mkF m 30 #[vR sb, vI 58] [(.ref sb), (.ref sb), (.ref t)])) rfl rfl (j68_31 hby 16 rfl)
  obtain ⟨T19, h19, X19, e19, W19, st19⟩ := putF X18 hx hZ hown (host := "") (Or.inl (ow hw 135 rfl)) Via.refl e18 B_sb.2.2.2.1 B_sb.1 (Or.inl (ow hw 136 rfl)) (ow hw 106 rfl) (ty := .int) (by decide) rfl rfl (g := (mkF m 36 #[vR sb, vI 58] [(.int 7), (.ref sb), (.int 6), (.ref t)])) rfl rfl (j68_31 hby 20 rfl)
  have Ew19 := B_sb.1.wr W19
  have Fo20 := B_sb.2.1.other W19 (Or.inr (slot_ne (Or.inl (ow hw 120 rfl)) (Or.inl (ow hw 136 rfl)) (by decide) (t := (.array .byte)) (t' := .int) (by decide) (by decide)))
  have Fo21 := B_sb.2.2.1.other W19 (Or.inr (slot_ne (Or.inl (ow hw 122 rfl)) (Or.inl (ow hw 136 rfl)) (by decide) (t := .byte) (t' := .int) (by decide) (by decide)))
  have Fw19 := B_sb.2.2.2.1.same W19
  have Fo22 := B_sb.2.2.2.2.1.other W19 (Or.inr (slot_ne (Or.inl (ow hw 307 rfl)) (Or.inl (ow hw 136 rfl)) (by decide) (t := .boolean) (t' := .int) (by decide) (by decide)))
  have N19 := Fr.snoc X19 Na16 g_sb
  have Cf23 := B_sb.2.2.2.2.2.other W19 (Ne.symm n_sb_t)
  obtain ⟨cl24, Ar24, q24, S24, M24, H24, G24⟩ := id Cf23
  obtain ⟨T25, h25, X25, e25, W25, st25⟩ := stB X19 hx hZ e19 Ar24 (j := (6 : Int32)) (inb_of S24 (by decide)) (g := (mkF m 41 #[vR sb, vI 58] [(.int 58), (.int 6), (.ref t)])) rfl rfl (j68_31 hby 23 rfl)
  have V25 : Arv Z h25 t kt .byte (16 : Int32) (vs.set 6 (.int (nar .byte (58 : Int32)))) (.int 0) := Arv.set Ar24 q24 S24 M24 H24 G24 (fits_nar_byte _) W25 6 rfl (by rw [lvs]; decide)
  have N25 := Fr.snoc X25 N19 g_t
  have Cf26 := Ew19.wr W25
  have Cf27 := Fo20.other W25 (Or.inl n_sb_t)
  have Cf28 := Fo21.other W25 (Or.inl n_sb_t)
  have Cf29 := Fw19.other W25 (Or.inl n_sb_t)
  have Cf30 := Fo22.other W25 (Or.inl n_sb_t)
  refine ⟨_, _, _, _, some (.ref sb), X25, (fun h => nomatch h), by decide, by decide, ?_, fun fs hr => ?_⟩
  · show own_Qac06 Z sb t kt w2 vs fm h0 n0 _ T25.heap _
    rw [e25]
    exact ⟨rfl, N25, (((Keep.refl h0 [sb, t]).wr W19 (Or.inl (List.mem_of_getElem? (i := 0) rfl))).wr W25 (Or.inl (List.mem_of_getElem? (i := 1) rfl))), ⟨Cf26, Cf27, Cf28, Cf29, Cf30, V25⟩⟩
  · refine sA X0.here hx (j68_31 hby 0 rfl) ?_
    refine sA X0.here hx (j68_31 hby 1 rfl) ?_
    refine st10 _ ?_
    refine sC X10.here hx (j68_31 hby 3 rfl) ?_
    refine XS.iadd X10.here hx rfl (j68_31 hby 4 rfl) rfl ?_
    refine st11 _ ?_
    refine sA X11.here hx (j68_31 hby 6 rfl) ?_
    refine st13 _ ?_
    refine XS.ifNo X13.here hx rfl (j68_31 hby 8 rfl) rfl ((if0 _ _).trans (feq (by decide)).1) ?_
    refine sI X13.here hx (j68_31 hby 9 rfl) ?_
    refine st15 _ ?_
    refine XS.ifNo X15.here hx rfl (j68_31 hby 11 rfl) rfl ((if0 _ _).trans (feq (by decide)).1) ?_
    refine sA X15.here hx (j68_31 hby 12 rfl) ?_
    refine st17 _ ?_
    refine sA X17.here hx (j68_31 hby 14 rfl) ?_
    refine XS.dup X17.here hx rfl (j68_31 hby 15 rfl) rfl rfl ?_
    refine st18 _ ?_
    refine XS.dupX1 X18.here hx rfl (j68_31 hby 17 rfl) rfl rfl rfl ?_
    refine sC X18.here hx (j68_31 hby 18 rfl) ?_
    refine XS.iadd X18.here hx rfl (j68_31 hby 19 rfl) rfl ?_
    refine st19 _ ?_
    refine sI X19.here hx (j68_31 hby 21 rfl) ?_
    refine XS.i2b X19.here hx rfl (j68_31 hby 22 rfl) rfl ?_
    show Steps p.tables e below (T19.setTop (mkF m 41 #[vR sb, vI 58] [(.int ((58 : Int32).toInt8.toInt32)), (.int 6), (.ref t)])) _
    rw [(by decide : ((58 : Int32).toInt8.toInt32) = (58 : Int32))]
    refine st25 _ ?_
    refine XS.goto X25.here hx rfl (pc0 := 42) (pc' := 75) rfl (j68_31 hby 24 rfl) (by decide) (by decide) ?_
    refine sA X25.here hx (j68_31 hby 25 rfl) ?_
    exact retR X25 hx hrt rfl rfl rfl (j68_31 hby 26 rfl) hr
def own_Qsc06 (Z : State) (sb t : Addr) (kt : ClassId) (w2 : Int32) (vs : List Value) (fm : Value) (h0 : Heap) (n0 : Nat) (v : Option Value) (h : Heap) (L : List Loc) : Prop := v = some (.ref sb) ∧ Fr n0 L ∧ Keep h0 h [sb, t] ∧ own_Bd Z h sb t kt 0 7 16 (vs.set 6 (.int (nar .byte (58 : Int32))))
theorem own_sc06 (hw : own_HW a0 Z) {sb t : Addr} {kt : ClassId} {w2 : Int32} {vs : List Value} {fm : Value}  (Z0 : n0 ≤ h0.size) (B_sb : own_Bd Z h0 sb t kt 0 6 16 vs) (g_sb : n0 ≤ sb) (g_t : n0 ≤ t) (n_sb_t : sb ≠ t) (SS : own_ST Z h0 w2 fm) (lvs : vs.length = 16) : own_M l Z h0 y_46 jdk_67_method_14_code 2 (some (.object "java/lang/StringBuilder")) (rm 2 0 0 27) #[(.ref sb), (.int 58)] (own_Qsc06 Z sb t kt w2 vs fm h0 n0) := by
  refine own_go #[vR sb, vI 58] (plainFor_of_name own_pn6) (fun m => rfl) fun p e s m below meth c s₁ hx hby hz hZ hown hnm hrt X0 e0 => ?_
  obtain ⟨_, T10, L10, X10, ⟨rfl, Nq10, K10, Po10_0⟩, st10⟩ := own_cu 0 X0 hx hZ hown (ow hw 167 rfl) (ow hw 168 rfl) (ow hw 115 rfl) (ow hw 170 rfl) (ow hw 131 rfl) (ow hw 140 rfl) (own_ac06 hw  Z0 B_sb g_sb g_t n_sb_t SS lvs) e0 B_sb.1 (g := (mkF m 2 #[vR sb, vI 58] [(.int 58), (.ref sb)])) (rest := []) (lenOf own_pd26 rfl) (j67_14 hby 2 rfl) hz
  have Na11 := Fr.app (Fr.nil n0) Nq10
  refine ⟨_, _, _, _, some (.ref sb), X10, (fun h => nomatch h), by decide, by decide, ?_, fun fs hr => ?_⟩
  · show own_Qsc06 Z sb t kt w2 vs fm h0 n0 _ T10.heap _
    exact ⟨rfl, Na11, ((Keep.refl h0 [sb, t]).trans K10 ((allS (Or.inl (List.mem_of_getElem? (i := 0) rfl)) (allS (Or.inl (List.mem_of_getElem? (i := 1) rfl)) all0)))), Po10_0⟩
  · refine sA X0.here hx (j67_14 hby 0 rfl) ?_
    refine sI X0.here hx (j67_14 hby 1 rfl) ?_
    refine st10 _ ?_
    refine XS.pop X10.here hx rfl (j67_14 hby 3 rfl) rfl rfl ?_
    refine sA X10.here hx (j67_14 hby 4 rfl) ?_
    exact retR X10 hx hrt rfl rfl rfl (j67_14 hby 5 rfl) hr
def own_Qpcs6 (Z : State) (t : Addr) (kt : ClassId) (fm : Value) (vs : List Value) (w2 : Int32) (h0 : Heap) (n0 : Nat) (v : Option Value) (h : Heap) (L : List Loc) : Prop := v = none ∧ Fr n0 L ∧ Keep h0 h [t] ∧ Arv Z h t kt .byte (32 : Int32) ((vs.set 12 (oL (58 : Int32))).set 13 (oH (58 : Int32))) (.int 0)
theorem own_pcs6 (hw : own_HW a0 Z) {t : Addr} {kt : ClassId} {fm : Value} {vs : List Value} {w2 : Int32}  (Z0 : n0 ≤ h0.size) (A_t : Arv Z h0 t kt .byte (32 : Int32) vs (.int 0)) (g_t : n0 ≤ t) (SS : own_ST Z h0 w2 fm) (lvs : vs.length = 32) : own_M l Z h0 y_47 jdk_52_method_71_code 3 none (rm 3 0 0 40) #[(.ref t), (.int 6), (.int 58)] (own_Qpcs6 Z t kt fm vs w2 h0 n0) := by
  refine own_go #[vR t, vI 6, vI 58] (plainFor_of_name own_pn4) (fun m => rfl) fun p e s m below meth c s₁ hx hby hz hZ hown hnm hrt X0 e0 => ?_
  obtain ⟨_, T10, L10, X10, ⟨rfl, Nq10, e10⟩, st10⟩ := own_cs 0 X0 hx hZ hown (ow hw 301 rfl) (ow hw 302 rfl) (ow hw 21 rfl) (ow hw 303 rfl) (own_uci hw (6 : Int32) (16 : Int32) Z0 A_t SS (by decide) (by decide) (by decide)) e0 (g := (mkF m 2 #[vR t, vI 6, vI 58] [(.ref t), (.int 6)])) (rest := []) (lenOf own_pd14 rfl) (j52_71 hby 2 rfl) hz
  have Na11 := Fr.app (Fr.nil n0) Nq10
  obtain ⟨_, T12, L12, X12, ⟨rfl, Nq12, K12, Po12_0⟩, st12⟩ := own_cs 0 X10 hx hZ hown (ow hw 244 rfl) (ow hw 245 rfl) (ow hw 21 rfl) (ow hw 246 rfl) (own_pc hw (6 : Int32) (58 : Int32) ((vs.set 12 (oL (58 : Int32))).set 13 (oH (58 : Int32))) (12 : Int32) (13 : Int32) 12 13 Z0 A_t g_t SS (by decide) (by decide) (by decide) (by decide) rfl rfl (by first | (rw [lvs]; decide) | (simp only [List.length_set]; rw [lvs]; decide)) (by first | (rw [lvs]; decide) | (simp only [List.length_set]; rw [lvs]; decide)) rfl) e10 (g := (mkF m 8 #[vR t, vI 6, vI 58] [(.int 58), (.int 6), (.ref t)])) (rest := []) (lenOf own_pd17 rfl) (j52_71 hby 6 rfl) hz
  have Na13 := Fr.app Na11 Nq12
  refine ⟨_, _, _, _, none, X12, (fun _ => rfl), by decide, by decide, ?_, fun fs hr => ?_⟩
  · show own_Qpcs6 Z t kt fm vs w2 h0 n0 _ T12.heap _
    exact ⟨rfl, Na13, ((Keep.refl h0 [t]).trans K12 ((allS (Or.inl (List.mem_of_getElem? (i := 0) rfl)) all0))), Po12_0⟩
  · refine sI X0.here hx (j52_71 hby 0 rfl) ?_
    refine sA X0.here hx (j52_71 hby 1 rfl) ?_
    refine st10 _ ?_
    refine sA X10.here hx (j52_71 hby 3 rfl) ?_
    refine sI X10.here hx (j52_71 hby 4 rfl) ?_
    refine sI X10.here hx (j52_71 hby 5 rfl) ?_
    refine st12 _ ?_
    exact X12.returnOut hx hrt (j52_71 hby 7 rfl) hr
def own_Qac16 (Z : State) (sb t : Addr) (kt : ClassId) (w2 : Int32) (fm : Value) (vs : List Value) (h0 : Heap) (n0 : Nat) (v : Option Value) (h : Heap) (L : List Loc) : Prop := v = some (.ref sb) ∧ Fr n0 L ∧ Keep h0 h [sb, t] ∧ own_Bd Z h sb t kt 1 7 32 ((vs.set 12 (oL (58 : Int32))).set 13 (oH (58 : Int32)))
theorem own_ac16 (hw : own_HW a0 Z) {sb t : Addr} {kt : ClassId} {w2 : Int32} {fm : Value} {vs : List Value}  (Z0 : n0 ≤ h0.size) (B_sb : own_Bd Z h0 sb t kt 1 6 32 vs) (g_sb : n0 ≤ sb) (g_t : n0 ≤ t) (n_sb_t : sb ≠ t) (SS : own_ST Z h0 w2 fm) (lvs : vs.length = 32) : own_M l Z h0 y_45 jdk_68_method_31_code 2 (some (.object "java/lang/AbstractStringBuilder")) (rm 4 0 0 54) #[(.ref sb), (.int 58)] (own_Qac16 Z sb t kt w2 fm vs h0 n0) := by
  refine own_go #[vR sb, vI 58] (plainFor_of_name own_pn5) (fun m => rfl) fun p e s m below meth c s₁ hx hby hz hZ hown hnm hrt X0 e0 => ?_
  obtain ⟨T10, X10, e10, st10⟩ := getF X0 hx hZ hown (host := "") (Or.inl (ow hw 135 rfl)) Via.refl e0 B_sb.2.2.2.1 (g := (mkF m 2 #[vR sb, vI 58] [(.ref sb), (.ref sb)])) rfl rfl (j68_31 hby 2 rfl)
  obtain ⟨_, T11, L11, X11, ⟨rfl, Nq11, e11⟩, st11⟩ := own_cv 0 X10 hx hZ hown (ow hw 137 rfl) (own_decl (ow hw 138 rfl) (ow hw 141 rfl)) (ow hw 140 rfl) (ow hw 140 rfl) (ow hw 138 rfl) (ow hw 115 rfl) (ow hw 141 rfl) (own_ens hw (7 : Int32) (16 : Int32) Z0 B_sb.2.1 B_sb.2.2.1 B_sb.2.2.2.2.2 (by decide) (by decide)) e10 B_sb.1 (g := (mkF m 7 #[vR sb, vI 58] [(.int 7), (.ref sb)])) (rest := []) (lenOf own_pd15 rfl) (j68_31 hby 5 rfl) hz
  have Na12 := Fr.app (Fr.nil n0) Nq11
  obtain ⟨_, T13, L13, X13, ⟨rfl, Nq13, e13⟩, st13⟩ := own_cv 0 X11 hx hZ hown (ow hw 171 rfl) (ow hw 172 rfl) (ow hw 140 rfl) (ow hw 174 rfl) (ow hw 173 rfl) (ow hw 115 rfl) (ow hw 175 rfl) (own_aisl1 hw  Z0 B_sb.2.2.1 SS) e11 B_sb.1 (g := (mkF m 11 #[vR sb, vI 58] [(.ref sb)])) (rest := []) (lenOf own_pd12 rfl) (j68_31 hby 7 rfl) hz
  have Na14 := Fr.app Na12 Nq13
  obtain ⟨_, T15, L15, X15, ⟨rfl, Nq15, e15⟩, st15⟩ := own_cv 0 X13 hx hZ hown (ow hw 171 rfl) (ow hw 172 rfl) (ow hw 140 rfl) (ow hw 174 rfl) (ow hw 173 rfl) (ow hw 115 rfl) (ow hw 175 rfl) (own_aisl1 hw  Z0 B_sb.2.2.1 SS) e13 B_sb.1 (g := (mkF m 46 #[vR sb, vI 58] [(.ref sb)])) (rest := []) (lenOf own_pd12 rfl) (j68_31 hby 28 rfl) hz
  have Na16 := Fr.app Na14 Nq15
  obtain ⟨T17, X17, e17, st17⟩ := getF X15 hx hZ hown (host := "") (Or.inl (ow hw 119 rfl)) Via.refl e15 B_sb.2.1 (g := (mkF m 57 #[vR sb, vI 58] [(.ref sb)])) rfl rfl (j68_31 hby 31 rfl)
  obtain ⟨T18, X18, e18, st18⟩ := getF X17 hx hZ hown (host := "") (Or.inl (ow hw 135 rfl)) Via.refl e17 B_sb.2.2.2.1 (g := (mkF m 62 #[vR sb, vI 58] [(.ref sb), (.ref sb), (.ref t)])) rfl rfl (j68_31 hby 34 rfl)
  obtain ⟨T19, h19, X19, e19, W19, st19⟩ := putF X18 hx hZ hown (host := "") (Or.inl (ow hw 135 rfl)) Via.refl e18 B_sb.2.2.2.1 B_sb.1 (Or.inl (ow hw 136 rfl)) (ow hw 106 rfl) (ty := .int) (by decide) rfl rfl (g := (mkF m 68 #[vR sb, vI 58] [(.int 7), (.ref sb), (.int 6), (.ref t)])) rfl rfl (j68_31 hby 38 rfl)
  have Ew19 := B_sb.1.wr W19
  have Fo20 := B_sb.2.1.other W19 (Or.inr (slot_ne (Or.inl (ow hw 120 rfl)) (Or.inl (ow hw 136 rfl)) (by decide) (t := (.array .byte)) (t' := .int) (by decide) (by decide)))
  have Fo21 := B_sb.2.2.1.other W19 (Or.inr (slot_ne (Or.inl (ow hw 122 rfl)) (Or.inl (ow hw 136 rfl)) (by decide) (t := .byte) (t' := .int) (by decide) (by decide)))
  have Fw19 := B_sb.2.2.2.1.same W19
  have Fo22 := B_sb.2.2.2.2.1.other W19 (Or.inr (slot_ne (Or.inl (ow hw 307 rfl)) (Or.inl (ow hw 136 rfl)) (by decide) (t := .boolean) (t' := .int) (by decide) (by decide)))
  have N19 := Fr.snoc X19 Na16 g_sb
  have Cf23 := B_sb.2.2.2.2.2.other W19 (Ne.symm n_sb_t)
  have Cf24 := SS.wr W19
  obtain ⟨_, T25, L25, X25, ⟨rfl, Nq25, K25, Po25_0⟩, st25⟩ := own_cs 0 X19 hx hZ hown (ow hw 298 rfl) (ow hw 299 rfl) (ow hw 21 rfl) (ow hw 300 rfl) (own_pcs6 hw  (Nat.le_trans Z0 (Keep.of_wr W19).1) Cf23 g_t Cf24 lvs) e19 (g := (mkF m 72 #[vR sb, vI 58] [(.int 58), (.int 6), (.ref t)])) (rest := []) (lenOf own_pd17 rfl) (j68_31 hby 40 rfl) hz
  have Na26 := Fr.app N19 Nq25
  have Cf27 := Ew19.keep K25
  have Cf28 := Fo20.keep K25 (ninS n_sb_t nin0)
  have Cf29 := Fo21.keep K25 (ninS n_sb_t nin0)
  have Cf30 := Fw19.keep K25 (ninS n_sb_t nin0)
  have Cf31 := Fo22.keep K25 (ninS n_sb_t nin0)
  refine ⟨_, _, _, _, some (.ref sb), X25, (fun h => nomatch h), by decide, by decide, ?_, fun fs hr => ?_⟩
  · show own_Qac16 Z sb t kt w2 fm vs h0 n0 _ T25.heap _
    exact ⟨rfl, Na26, (((Keep.refl h0 [sb, t]).wr W19 (Or.inl (List.mem_of_getElem? (i := 0) rfl))).trans K25 ((allS (Or.inl (List.mem_of_getElem? (i := 1) rfl)) all0))), ⟨Cf27, Cf28, Cf29, Cf30, Cf31, Po25_0⟩⟩
  · refine sA X0.here hx (j68_31 hby 0 rfl) ?_
    refine sA X0.here hx (j68_31 hby 1 rfl) ?_
    refine st10 _ ?_
    refine sC X10.here hx (j68_31 hby 3 rfl) ?_
    refine XS.iadd X10.here hx rfl (j68_31 hby 4 rfl) rfl ?_
    refine st11 _ ?_
    refine sA X11.here hx (j68_31 hby 6 rfl) ?_
    refine st13 _ ?_
    refine XS.ifYes X13.here hx rfl (pc0 := 14) (pc' := 45) rfl (j68_31 hby 8 rfl) rfl ((if0 _ _).trans (teq rfl).1) (by decide) (by decide) ?_
    refine sA X13.here hx (j68_31 hby 27 rfl) ?_
    refine st15 _ ?_
    refine XS.ifYes X15.here hx rfl (pc0 := 49) (pc' := 56) rfl (j68_31 hby 29 rfl) rfl ((if0 _ _).trans (teq rfl).1) (by decide) (by decide) ?_
    refine sA X15.here hx (j68_31 hby 30 rfl) ?_
    refine st17 _ ?_
    refine sA X17.here hx (j68_31 hby 32 rfl) ?_
    refine XS.dup X17.here hx rfl (j68_31 hby 33 rfl) rfl rfl ?_
    refine st18 _ ?_
    refine XS.dupX1 X18.here hx rfl (j68_31 hby 35 rfl) rfl rfl rfl ?_
    refine sC X18.here hx (j68_31 hby 36 rfl) ?_
    refine XS.iadd X18.here hx rfl (j68_31 hby 37 rfl) rfl ?_
    refine st19 _ ?_
    refine sI X19.here hx (j68_31 hby 39 rfl) ?_
    refine st25 _ ?_
    refine sA X25.here hx (j68_31 hby 25 rfl) ?_
    exact retR X25 hx hrt rfl rfl rfl (j68_31 hby 26 rfl) hr
def own_Qsc16 (Z : State) (sb t : Addr) (kt : ClassId) (w2 : Int32) (fm : Value) (vs : List Value) (h0 : Heap) (n0 : Nat) (v : Option Value) (h : Heap) (L : List Loc) : Prop := v = some (.ref sb) ∧ Fr n0 L ∧ Keep h0 h [sb, t] ∧ own_Bd Z h sb t kt 1 7 32 ((vs.set 12 (oL (58 : Int32))).set 13 (oH (58 : Int32)))
theorem own_sc16 (hw : own_HW a0 Z) {sb t : Addr} {kt : ClassId} {w2 : Int32} {fm : Value} {vs : List Value}  (Z0 : n0 ≤ h0.size) (B_sb : own_Bd Z h0 sb t kt 1 6 32 vs) (g_sb : n0 ≤ sb) (g_t : n0 ≤ t) (n_sb_t : sb ≠ t) (SS : own_ST Z h0 w2 fm) (lvs : vs.length = 32) : own_M l Z h0 y_46 jdk_67_method_14_code 2 (some (.object "java/lang/StringBuilder")) (rm 5 0 0 67) #[(.ref sb), (.int 58)] (own_Qsc16 Z sb t kt w2 fm vs h0 n0) := by
  refine own_go #[vR sb, vI 58] (plainFor_of_name own_pn6) (fun m => rfl) fun p e s m below meth c s₁ hx hby hz hZ hown hnm hrt X0 e0 => ?_
  obtain ⟨_, T10, L10, X10, ⟨rfl, Nq10, K10, Po10_0⟩, st10⟩ := own_cu 0 X0 hx hZ hown (ow hw 167 rfl) (ow hw 168 rfl) (ow hw 115 rfl) (ow hw 170 rfl) (ow hw 131 rfl) (ow hw 140 rfl) (own_ac16 hw  Z0 B_sb g_sb g_t n_sb_t SS lvs) e0 B_sb.1 (g := (mkF m 2 #[vR sb, vI 58] [(.int 58), (.ref sb)])) (rest := []) (lenOf own_pd26 rfl) (j67_14 hby 2 rfl) hz
  have Na11 := Fr.app (Fr.nil n0) Nq10
  refine ⟨_, _, _, _, some (.ref sb), X10, (fun h => nomatch h), by decide, by decide, ?_, fun fs hr => ?_⟩
  · show own_Qsc16 Z sb t kt w2 fm vs h0 n0 _ T10.heap _
    exact ⟨rfl, Na11, ((Keep.refl h0 [sb, t]).trans K10 ((allS (Or.inl (List.mem_of_getElem? (i := 0) rfl)) (allS (Or.inl (List.mem_of_getElem? (i := 1) rfl)) all0)))), Po10_0⟩
  · refine sA X0.here hx (j67_14 hby 0 rfl) ?_
    refine sI X0.here hx (j67_14 hby 1 rfl) ?_
    refine st10 _ ?_
    refine XS.pop X10.here hx rfl (j67_14 hby 3 rfl) rfl rfl ?_
    refine sA X10.here hx (j67_14 hby 4 rfl) ?_
    exact retR X10 hx hrt rfl rfl rfl (j67_14 hby 5 rfl) hr
def own_Qac07 (Z : State) (sb t : Addr) (kt : ClassId) (w2 : Int32) (vs : List Value) (fm : Value) (h0 : Heap) (n0 : Nat) (v : Option Value) (h : Heap) (L : List Loc) : Prop := v = some (.ref sb) ∧ Fr n0 L ∧ Keep h0 h [sb, t] ∧ own_Bd Z h sb t kt 0 8 16 (vs.set 7 (.int (nar .byte (58 : Int32))))
theorem own_ac07 (hw : own_HW a0 Z) {sb t : Addr} {kt : ClassId} {w2 : Int32} {vs : List Value} {fm : Value}  (Z0 : n0 ≤ h0.size) (B_sb : own_Bd Z h0 sb t kt 0 7 16 vs) (g_sb : n0 ≤ sb) (g_t : n0 ≤ t) (n_sb_t : sb ≠ t) (SS : own_ST Z h0 w2 fm) (lvs : vs.length = 16) : own_M l Z h0 y_45 jdk_68_method_31_code 2 (some (.object "java/lang/AbstractStringBuilder")) (rm 1 0 0 14) #[(.ref sb), (.int 58)] (own_Qac07 Z sb t kt w2 vs fm h0 n0) := by
  refine own_go #[vR sb, vI 58] (plainFor_of_name own_pn5) (fun m => rfl) fun p e s m below meth c s₁ hx hby hz hZ hown hnm hrt X0 e0 => ?_
  obtain ⟨T10, X10, e10, st10⟩ := getF X0 hx hZ hown (host := "") (Or.inl (ow hw 135 rfl)) Via.refl e0 B_sb.2.2.2.1 (g := (mkF m 2 #[vR sb, vI 58] [(.ref sb), (.ref sb)])) rfl rfl (j68_31 hby 2 rfl)
  obtain ⟨_, T11, L11, X11, ⟨rfl, Nq11, e11⟩, st11⟩ := own_cv 0 X10 hx hZ hown (ow hw 137 rfl) (own_decl (ow hw 138 rfl) (ow hw 141 rfl)) (ow hw 140 rfl) (ow hw 140 rfl) (ow hw 138 rfl) (ow hw 115 rfl) (ow hw 141 rfl) (own_ens hw (8 : Int32) (16 : Int32) Z0 B_sb.2.1 B_sb.2.2.1 B_sb.2.2.2.2.2 (by decide) (by decide)) e10 B_sb.1 (g := (mkF m 7 #[vR sb, vI 58] [(.int 8), (.ref sb)])) (rest := []) (lenOf own_pd15 rfl) (j68_31 hby 5 rfl) hz
  have Na12 := Fr.app (Fr.nil n0) Nq11
  obtain ⟨_, T13, L13, X13, ⟨rfl, Nq13, e13⟩, st13⟩ := own_cv 0 X11 hx hZ hown (ow hw 171 rfl) (ow hw 172 rfl) (ow hw 140 rfl) (ow hw 174 rfl) (ow hw 173 rfl) (ow hw 115 rfl) (ow hw 175 rfl) (own_aisl0 hw  Z0 B_sb.2.2.1 SS) e11 B_sb.1 (g := (mkF m 11 #[vR sb, vI 58] [(.ref sb)])) (rest := []) (lenOf own_pd12 rfl) (j68_31 hby 7 rfl) hz
  have Na14 := Fr.app Na12 Nq13
  obtain ⟨_, T15, L15, X15, ⟨rfl, Nq15, e15⟩, st15⟩ := own_cs 0 X13 hx hZ hown (ow hw 176 rfl) (ow hw 177 rfl) (ow hw 81 rfl) (ow hw 178 rfl) (own_ceC hw  Z0 ) e13 (g := (mkF m 18 #[vR sb, vI 58] [(.int 58)])) (rest := []) (lenOf own_pd25 rfl) (j68_31 hby 10 rfl) hz
  have Na16 := Fr.app Na14 Nq15
  obtain ⟨T17, X17, e17, st17⟩ := getF X15 hx hZ hown (host := "") (Or.inl (ow hw 119 rfl)) Via.refl e15 B_sb.2.1 (g := (mkF m 25 #[vR sb, vI 58] [(.ref sb)])) rfl rfl (j68_31 hby 13 rfl)
  obtain ⟨T18, X18, e18, st18⟩ := getF X17 hx hZ hown (host := "") (Or.inl (ow hw 135 rfl)) Via.refl e17 B_sb.2.2.2.1 (g := (mkF m 30 #[vR sb, vI 58] [(.ref sb), (.ref sb), (.ref t)])) rfl rfl (j68_31 hby 16 rfl)
  obtain ⟨T19, h19, X19, e19, W19, st19⟩ := putF X18 hx hZ hown (host := "") (Or.inl (ow hw 135 rfl)) Via.refl e18 B_sb.2.2.2.1 B_sb.1 (Or.inl (ow hw 136 rfl)) (ow hw 106 rfl) (ty := .int) (by decide) rfl rfl (g := (mkF m 36 #[vR sb, vI 58] [(.int 8), (.ref sb), (.int 7), (.ref t)])) rfl rfl (j68_31 hby 20 rfl)
  have Ew19 := B_sb.1.wr W19
  have Fo20 := B_sb.2.1.other W19 (Or.inr (slot_ne (Or.inl (ow hw 120 rfl)) (Or.inl (ow hw 136 rfl)) (by decide) (t := (.array .byte)) (t' := .int) (by decide) (by decide)))
  have Fo21 := B_sb.2.2.1.other W19 (Or.inr (slot_ne (Or.inl (ow hw 122 rfl)) (Or.inl (ow hw 136 rfl)) (by decide) (t := .byte) (t' := .int) (by decide) (by decide)))
  have Fw19 := B_sb.2.2.2.1.same W19
  have Fo22 := B_sb.2.2.2.2.1.other W19 (Or.inr (slot_ne (Or.inl (ow hw 307 rfl)) (Or.inl (ow hw 136 rfl)) (by decide) (t := .boolean) (t' := .int) (by decide) (by decide)))
  have N19 := Fr.snoc X19 Na16 g_sb
  have Cf23 := B_sb.2.2.2.2.2.other W19 (Ne.symm n_sb_t)
  obtain ⟨cl24, Ar24, q24, S24, M24, H24, G24⟩ := id Cf23
  obtain ⟨T25, h25, X25, e25, W25, st25⟩ := stB X19 hx hZ e19 Ar24 (j := (7 : Int32)) (inb_of S24 (by decide)) (g := (mkF m 41 #[vR sb, vI 58] [(.int 58), (.int 7), (.ref t)])) rfl rfl (j68_31 hby 23 rfl)
  have V25 : Arv Z h25 t kt .byte (16 : Int32) (vs.set 7 (.int (nar .byte (58 : Int32)))) (.int 0) := Arv.set Ar24 q24 S24 M24 H24 G24 (fits_nar_byte _) W25 7 rfl (by rw [lvs]; decide)
  have N25 := Fr.snoc X25 N19 g_t
  have Cf26 := Ew19.wr W25
  have Cf27 := Fo20.other W25 (Or.inl n_sb_t)
  have Cf28 := Fo21.other W25 (Or.inl n_sb_t)
  have Cf29 := Fw19.other W25 (Or.inl n_sb_t)
  have Cf30 := Fo22.other W25 (Or.inl n_sb_t)
  refine ⟨_, _, _, _, some (.ref sb), X25, (fun h => nomatch h), by decide, by decide, ?_, fun fs hr => ?_⟩
  · show own_Qac07 Z sb t kt w2 vs fm h0 n0 _ T25.heap _
    rw [e25]
    exact ⟨rfl, N25, (((Keep.refl h0 [sb, t]).wr W19 (Or.inl (List.mem_of_getElem? (i := 0) rfl))).wr W25 (Or.inl (List.mem_of_getElem? (i := 1) rfl))), ⟨Cf26, Cf27, Cf28, Cf29, Cf30, V25⟩⟩
  · refine sA X0.here hx (j68_31 hby 0 rfl) ?_
    refine sA X0.here hx (j68_31 hby 1 rfl) ?_
    refine st10 _ ?_
    refine sC X10.here hx (j68_31 hby 3 rfl) ?_
    refine XS.iadd X10.here hx rfl (j68_31 hby 4 rfl) rfl ?_
    refine st11 _ ?_
    refine sA X11.here hx (j68_31 hby 6 rfl) ?_
    refine st13 _ ?_
    refine XS.ifNo X13.here hx rfl (j68_31 hby 8 rfl) rfl ((if0 _ _).trans (feq (by decide)).1) ?_
    refine sI X13.here hx (j68_31 hby 9 rfl) ?_
    refine st15 _ ?_
    refine XS.ifNo X15.here hx rfl (j68_31 hby 11 rfl) rfl ((if0 _ _).trans (feq (by decide)).1) ?_
    refine sA X15.here hx (j68_31 hby 12 rfl) ?_
    refine st17 _ ?_
    refine sA X17.here hx (j68_31 hby 14 rfl) ?_
    refine XS.dup X17.here hx rfl (j68_31 hby 15 rfl) rfl rfl ?_
    refine st18 _ ?_
    refine XS.dupX1 X18.here hx rfl (j68_31 hby 17 rfl) rfl rfl rfl ?_
    refine sC X18.here hx (j68_31 hby 18 rfl) ?_
    refine XS.iadd X18.here hx rfl (j68_31 hby 19 rfl) rfl ?_
    refine st19 _ ?_
    refine sI X19.here hx (j68_31 hby 21 rfl) ?_
    refine XS.i2b X19.here hx rfl (j68_31 hby 22 rfl) rfl ?_
    show Steps p.tables e below (T19.setTop (mkF m 41 #[vR sb, vI 58] [(.int ((58 : Int32).toInt8.toInt32)), (.int 7), (.ref t)])) _
    rw [(by decide : ((58 : Int32).toInt8.toInt32) = (58 : Int32))]
    refine st25 _ ?_
    refine XS.goto X25.here hx rfl (pc0 := 42) (pc' := 75) rfl (j68_31 hby 24 rfl) (by decide) (by decide) ?_
    refine sA X25.here hx (j68_31 hby 25 rfl) ?_
    exact retR X25 hx hrt rfl rfl rfl (j68_31 hby 26 rfl) hr
def own_Qsc07 (Z : State) (sb t : Addr) (kt : ClassId) (w2 : Int32) (vs : List Value) (fm : Value) (h0 : Heap) (n0 : Nat) (v : Option Value) (h : Heap) (L : List Loc) : Prop := v = some (.ref sb) ∧ Fr n0 L ∧ Keep h0 h [sb, t] ∧ own_Bd Z h sb t kt 0 8 16 (vs.set 7 (.int (nar .byte (58 : Int32))))
theorem own_sc07 (hw : own_HW a0 Z) {sb t : Addr} {kt : ClassId} {w2 : Int32} {vs : List Value} {fm : Value}  (Z0 : n0 ≤ h0.size) (B_sb : own_Bd Z h0 sb t kt 0 7 16 vs) (g_sb : n0 ≤ sb) (g_t : n0 ≤ t) (n_sb_t : sb ≠ t) (SS : own_ST Z h0 w2 fm) (lvs : vs.length = 16) : own_M l Z h0 y_46 jdk_67_method_14_code 2 (some (.object "java/lang/StringBuilder")) (rm 2 0 0 27) #[(.ref sb), (.int 58)] (own_Qsc07 Z sb t kt w2 vs fm h0 n0) := by
  refine own_go #[vR sb, vI 58] (plainFor_of_name own_pn6) (fun m => rfl) fun p e s m below meth c s₁ hx hby hz hZ hown hnm hrt X0 e0 => ?_
  obtain ⟨_, T10, L10, X10, ⟨rfl, Nq10, K10, Po10_0⟩, st10⟩ := own_cu 0 X0 hx hZ hown (ow hw 167 rfl) (ow hw 168 rfl) (ow hw 115 rfl) (ow hw 170 rfl) (ow hw 131 rfl) (ow hw 140 rfl) (own_ac07 hw  Z0 B_sb g_sb g_t n_sb_t SS lvs) e0 B_sb.1 (g := (mkF m 2 #[vR sb, vI 58] [(.int 58), (.ref sb)])) (rest := []) (lenOf own_pd26 rfl) (j67_14 hby 2 rfl) hz
  have Na11 := Fr.app (Fr.nil n0) Nq10
  refine ⟨_, _, _, _, some (.ref sb), X10, (fun h => nomatch h), by decide, by decide, ?_, fun fs hr => ?_⟩
  · show own_Qsc07 Z sb t kt w2 vs fm h0 n0 _ T10.heap _
    exact ⟨rfl, Na11, ((Keep.refl h0 [sb, t]).trans K10 ((allS (Or.inl (List.mem_of_getElem? (i := 0) rfl)) (allS (Or.inl (List.mem_of_getElem? (i := 1) rfl)) all0)))), Po10_0⟩
  · refine sA X0.here hx (j67_14 hby 0 rfl) ?_
    refine sI X0.here hx (j67_14 hby 1 rfl) ?_
    refine st10 _ ?_
    refine XS.pop X10.here hx rfl (j67_14 hby 3 rfl) rfl rfl ?_
    refine sA X10.here hx (j67_14 hby 4 rfl) ?_
    exact retR X10 hx hrt rfl rfl rfl (j67_14 hby 5 rfl) hr
def own_Qpcs7 (Z : State) (t : Addr) (kt : ClassId) (fm : Value) (vs : List Value) (w2 : Int32) (h0 : Heap) (n0 : Nat) (v : Option Value) (h : Heap) (L : List Loc) : Prop := v = none ∧ Fr n0 L ∧ Keep h0 h [t] ∧ Arv Z h t kt .byte (32 : Int32) ((vs.set 14 (oL (58 : Int32))).set 15 (oH (58 : Int32))) (.int 0)
theorem own_pcs7 (hw : own_HW a0 Z) {t : Addr} {kt : ClassId} {fm : Value} {vs : List Value} {w2 : Int32}  (Z0 : n0 ≤ h0.size) (A_t : Arv Z h0 t kt .byte (32 : Int32) vs (.int 0)) (g_t : n0 ≤ t) (SS : own_ST Z h0 w2 fm) (lvs : vs.length = 32) : own_M l Z h0 y_47 jdk_52_method_71_code 3 none (rm 3 0 0 40) #[(.ref t), (.int 7), (.int 58)] (own_Qpcs7 Z t kt fm vs w2 h0 n0) := by
  refine own_go #[vR t, vI 7, vI 58] (plainFor_of_name own_pn4) (fun m => rfl) fun p e s m below meth c s₁ hx hby hz hZ hown hnm hrt X0 e0 => ?_
  obtain ⟨_, T10, L10, X10, ⟨rfl, Nq10, e10⟩, st10⟩ := own_cs 0 X0 hx hZ hown (ow hw 301 rfl) (ow hw 302 rfl) (ow hw 21 rfl) (ow hw 303 rfl) (own_uci hw (7 : Int32) (16 : Int32) Z0 A_t SS (by decide) (by decide) (by decide)) e0 (g := (mkF m 2 #[vR t, vI 7, vI 58] [(.ref t), (.int 7)])) (rest := []) (lenOf own_pd14 rfl) (j52_71 hby 2 rfl) hz
  have Na11 := Fr.app (Fr.nil n0) Nq10
  obtain ⟨_, T12, L12, X12, ⟨rfl, Nq12, K12, Po12_0⟩, st12⟩ := own_cs 0 X10 hx hZ hown (ow hw 244 rfl) (ow hw 245 rfl) (ow hw 21 rfl) (ow hw 246 rfl) (own_pc hw (7 : Int32) (58 : Int32) ((vs.set 14 (oL (58 : Int32))).set 15 (oH (58 : Int32))) (14 : Int32) (15 : Int32) 14 15 Z0 A_t g_t SS (by decide) (by decide) (by decide) (by decide) rfl rfl (by first | (rw [lvs]; decide) | (simp only [List.length_set]; rw [lvs]; decide)) (by first | (rw [lvs]; decide) | (simp only [List.length_set]; rw [lvs]; decide)) rfl) e10 (g := (mkF m 8 #[vR t, vI 7, vI 58] [(.int 58), (.int 7), (.ref t)])) (rest := []) (lenOf own_pd17 rfl) (j52_71 hby 6 rfl) hz
  have Na13 := Fr.app Na11 Nq12
  refine ⟨_, _, _, _, none, X12, (fun _ => rfl), by decide, by decide, ?_, fun fs hr => ?_⟩
  · show own_Qpcs7 Z t kt fm vs w2 h0 n0 _ T12.heap _
    exact ⟨rfl, Na13, ((Keep.refl h0 [t]).trans K12 ((allS (Or.inl (List.mem_of_getElem? (i := 0) rfl)) all0))), Po12_0⟩
  · refine sI X0.here hx (j52_71 hby 0 rfl) ?_
    refine sA X0.here hx (j52_71 hby 1 rfl) ?_
    refine st10 _ ?_
    refine sA X10.here hx (j52_71 hby 3 rfl) ?_
    refine sI X10.here hx (j52_71 hby 4 rfl) ?_
    refine sI X10.here hx (j52_71 hby 5 rfl) ?_
    refine st12 _ ?_
    exact X12.returnOut hx hrt (j52_71 hby 7 rfl) hr
def own_Qac17 (Z : State) (sb t : Addr) (kt : ClassId) (w2 : Int32) (fm : Value) (vs : List Value) (h0 : Heap) (n0 : Nat) (v : Option Value) (h : Heap) (L : List Loc) : Prop := v = some (.ref sb) ∧ Fr n0 L ∧ Keep h0 h [sb, t] ∧ own_Bd Z h sb t kt 1 8 32 ((vs.set 14 (oL (58 : Int32))).set 15 (oH (58 : Int32)))
theorem own_ac17 (hw : own_HW a0 Z) {sb t : Addr} {kt : ClassId} {w2 : Int32} {fm : Value} {vs : List Value}  (Z0 : n0 ≤ h0.size) (B_sb : own_Bd Z h0 sb t kt 1 7 32 vs) (g_sb : n0 ≤ sb) (g_t : n0 ≤ t) (n_sb_t : sb ≠ t) (SS : own_ST Z h0 w2 fm) (lvs : vs.length = 32) : own_M l Z h0 y_45 jdk_68_method_31_code 2 (some (.object "java/lang/AbstractStringBuilder")) (rm 4 0 0 54) #[(.ref sb), (.int 58)] (own_Qac17 Z sb t kt w2 fm vs h0 n0) := by
  refine own_go #[vR sb, vI 58] (plainFor_of_name own_pn5) (fun m => rfl) fun p e s m below meth c s₁ hx hby hz hZ hown hnm hrt X0 e0 => ?_
  obtain ⟨T10, X10, e10, st10⟩ := getF X0 hx hZ hown (host := "") (Or.inl (ow hw 135 rfl)) Via.refl e0 B_sb.2.2.2.1 (g := (mkF m 2 #[vR sb, vI 58] [(.ref sb), (.ref sb)])) rfl rfl (j68_31 hby 2 rfl)
  obtain ⟨_, T11, L11, X11, ⟨rfl, Nq11, e11⟩, st11⟩ := own_cv 0 X10 hx hZ hown (ow hw 137 rfl) (own_decl (ow hw 138 rfl) (ow hw 141 rfl)) (ow hw 140 rfl) (ow hw 140 rfl) (ow hw 138 rfl) (ow hw 115 rfl) (ow hw 141 rfl) (own_ens hw (8 : Int32) (16 : Int32) Z0 B_sb.2.1 B_sb.2.2.1 B_sb.2.2.2.2.2 (by decide) (by decide)) e10 B_sb.1 (g := (mkF m 7 #[vR sb, vI 58] [(.int 8), (.ref sb)])) (rest := []) (lenOf own_pd15 rfl) (j68_31 hby 5 rfl) hz
  have Na12 := Fr.app (Fr.nil n0) Nq11
  obtain ⟨_, T13, L13, X13, ⟨rfl, Nq13, e13⟩, st13⟩ := own_cv 0 X11 hx hZ hown (ow hw 171 rfl) (ow hw 172 rfl) (ow hw 140 rfl) (ow hw 174 rfl) (ow hw 173 rfl) (ow hw 115 rfl) (ow hw 175 rfl) (own_aisl1 hw  Z0 B_sb.2.2.1 SS) e11 B_sb.1 (g := (mkF m 11 #[vR sb, vI 58] [(.ref sb)])) (rest := []) (lenOf own_pd12 rfl) (j68_31 hby 7 rfl) hz
  have Na14 := Fr.app Na12 Nq13
  obtain ⟨_, T15, L15, X15, ⟨rfl, Nq15, e15⟩, st15⟩ := own_cv 0 X13 hx hZ hown (ow hw 171 rfl) (ow hw 172 rfl) (ow hw 140 rfl) (ow hw 174 rfl) (ow hw 173 rfl) (ow hw 115 rfl) (ow hw 175 rfl) (own_aisl1 hw  Z0 B_sb.2.2.1 SS) e13 B_sb.1 (g := (mkF m 46 #[vR sb, vI 58] [(.ref sb)])) (rest := []) (lenOf own_pd12 rfl) (j68_31 hby 28 rfl) hz
  have Na16 := Fr.app Na14 Nq15
  obtain ⟨T17, X17, e17, st17⟩ := getF X15 hx hZ hown (host := "") (Or.inl (ow hw 119 rfl)) Via.refl e15 B_sb.2.1 (g := (mkF m 57 #[vR sb, vI 58] [(.ref sb)])) rfl rfl (j68_31 hby 31 rfl)
  obtain ⟨T18, X18, e18, st18⟩ := getF X17 hx hZ hown (host := "") (Or.inl (ow hw 135 rfl)) Via.refl e17 B_sb.2.2.2.1 (g := (mkF m 62 #[vR sb, vI 58] [(.ref sb), (.ref sb), (.ref t)])) rfl rfl (j68_31 hby 34 rfl)
  obtain ⟨T19, h19, X19, e19, W19, st19⟩ := putF X18 hx hZ hown (host := "") (Or.inl (ow hw 135 rfl)) Via.refl e18 B_sb.2.2.2.1 B_sb.1 (Or.inl (ow hw 136 rfl)) (ow hw 106 rfl) (ty := .int) (by decide) rfl rfl (g := (mkF m 68 #[vR sb, vI 58] [(.int 8), (.ref sb), (.int 7), (.ref t)])) rfl rfl (j68_31 hby 38 rfl)
  have Ew19 := B_sb.1.wr W19
  have Fo20 := B_sb.2.1.other W19 (Or.inr (slot_ne (Or.inl (ow hw 120 rfl)) (Or.inl (ow hw 136 rfl)) (by decide) (t := (.array .byte)) (t' := .int) (by decide) (by decide)))
  have Fo21 := B_sb.2.2.1.other W19 (Or.inr (slot_ne (Or.inl (ow hw 122 rfl)) (Or.inl (ow hw 136 rfl)) (by decide) (t := .byte) (t' := .int) (by decide) (by decide)))
  have Fw19 := B_sb.2.2.2.1.same W19
  have Fo22 := B_sb.2.2.2.2.1.other W19 (Or.inr (slot_ne (Or.inl (ow hw 307 rfl)) (Or.inl (ow hw 136 rfl)) (by decide) (t := .boolean) (t' := .int) (by decide) (by decide)))
  have N19 := Fr.snoc X19 Na16 g_sb
  have Cf23 := B_sb.2.2.2.2.2.other W19 (Ne.symm n_sb_t)
  have Cf24 := SS.wr W19
  obtain ⟨_, T25, L25, X25, ⟨rfl, Nq25, K25, Po25_0⟩, st25⟩ := own_cs 0 X19 hx hZ hown (ow hw 298 rfl) (ow hw 299 rfl) (ow hw 21 rfl) (ow hw 300 rfl) (own_pcs7 hw  (Nat.le_trans Z0 (Keep.of_wr W19).1) Cf23 g_t Cf24 lvs) e19 (g := (mkF m 72 #[vR sb, vI 58] [(.int 58), (.int 7), (.ref t)])) (rest := []) (lenOf own_pd17 rfl) (j68_31 hby 40 rfl) hz
  have Na26 := Fr.app N19 Nq25
  have Cf27 := Ew19.keep K25
  have Cf28 := Fo20.keep K25 (ninS n_sb_t nin0)
  have Cf29 := Fo21.keep K25 (ninS n_sb_t nin0)
  have Cf30 := Fw19.keep K25 (ninS n_sb_t nin0)
  have Cf31 := Fo22.keep K25 (ninS n_sb_t nin0)
  refine ⟨_, _, _, _, some (.ref sb), X25, (fun h => nomatch h), by decide, by decide, ?_, fun fs hr => ?_⟩
  · show own_Qac17 Z sb t kt w2 fm vs h0 n0 _ T25.heap _
    exact ⟨rfl, Na26, (((Keep.refl h0 [sb, t]).wr W19 (Or.inl (List.mem_of_getElem? (i := 0) rfl))).trans K25 ((allS (Or.inl (List.mem_of_getElem? (i := 1) rfl)) all0))), ⟨Cf27, Cf28, Cf29, Cf30, Cf31, Po25_0⟩⟩
  · refine sA X0.here hx (j68_31 hby 0 rfl) ?_
    refine sA X0.here hx (j68_31 hby 1 rfl) ?_
    refine st10 _ ?_
    refine sC X10.here hx (j68_31 hby 3 rfl) ?_
    refine XS.iadd X10.here hx rfl (j68_31 hby 4 rfl) rfl ?_
    refine st11 _ ?_
    refine sA X11.here hx (j68_31 hby 6 rfl) ?_
    refine st13 _ ?_
    refine XS.ifYes X13.here hx rfl (pc0 := 14) (pc' := 45) rfl (j68_31 hby 8 rfl) rfl ((if0 _ _).trans (teq rfl).1) (by decide) (by decide) ?_
    refine sA X13.here hx (j68_31 hby 27 rfl) ?_
    refine st15 _ ?_
    refine XS.ifYes X15.here hx rfl (pc0 := 49) (pc' := 56) rfl (j68_31 hby 29 rfl) rfl ((if0 _ _).trans (teq rfl).1) (by decide) (by decide) ?_
    refine sA X15.here hx (j68_31 hby 30 rfl) ?_
    refine st17 _ ?_
    refine sA X17.here hx (j68_31 hby 32 rfl) ?_
    refine XS.dup X17.here hx rfl (j68_31 hby 33 rfl) rfl rfl ?_
    refine st18 _ ?_
    refine XS.dupX1 X18.here hx rfl (j68_31 hby 35 rfl) rfl rfl rfl ?_
    refine sC X18.here hx (j68_31 hby 36 rfl) ?_
    refine XS.iadd X18.here hx rfl (j68_31 hby 37 rfl) rfl ?_
    refine st19 _ ?_
    refine sI X19.here hx (j68_31 hby 39 rfl) ?_
    refine st25 _ ?_
    refine sA X25.here hx (j68_31 hby 25 rfl) ?_
    exact retR X25 hx hrt rfl rfl rfl (j68_31 hby 26 rfl) hr
def own_Qsc17 (Z : State) (sb t : Addr) (kt : ClassId) (w2 : Int32) (fm : Value) (vs : List Value) (h0 : Heap) (n0 : Nat) (v : Option Value) (h : Heap) (L : List Loc) : Prop := v = some (.ref sb) ∧ Fr n0 L ∧ Keep h0 h [sb, t] ∧ own_Bd Z h sb t kt 1 8 32 ((vs.set 14 (oL (58 : Int32))).set 15 (oH (58 : Int32)))
theorem own_sc17 (hw : own_HW a0 Z) {sb t : Addr} {kt : ClassId} {w2 : Int32} {fm : Value} {vs : List Value}  (Z0 : n0 ≤ h0.size) (B_sb : own_Bd Z h0 sb t kt 1 7 32 vs) (g_sb : n0 ≤ sb) (g_t : n0 ≤ t) (n_sb_t : sb ≠ t) (SS : own_ST Z h0 w2 fm) (lvs : vs.length = 32) : own_M l Z h0 y_46 jdk_67_method_14_code 2 (some (.object "java/lang/StringBuilder")) (rm 5 0 0 67) #[(.ref sb), (.int 58)] (own_Qsc17 Z sb t kt w2 fm vs h0 n0) := by
  refine own_go #[vR sb, vI 58] (plainFor_of_name own_pn6) (fun m => rfl) fun p e s m below meth c s₁ hx hby hz hZ hown hnm hrt X0 e0 => ?_
  obtain ⟨_, T10, L10, X10, ⟨rfl, Nq10, K10, Po10_0⟩, st10⟩ := own_cu 0 X0 hx hZ hown (ow hw 167 rfl) (ow hw 168 rfl) (ow hw 115 rfl) (ow hw 170 rfl) (ow hw 131 rfl) (ow hw 140 rfl) (own_ac17 hw  Z0 B_sb g_sb g_t n_sb_t SS lvs) e0 B_sb.1 (g := (mkF m 2 #[vR sb, vI 58] [(.int 58), (.ref sb)])) (rest := []) (lenOf own_pd26 rfl) (j67_14 hby 2 rfl) hz
  have Na11 := Fr.app (Fr.nil n0) Nq10
  refine ⟨_, _, _, _, some (.ref sb), X10, (fun h => nomatch h), by decide, by decide, ?_, fun fs hr => ?_⟩
  · show own_Qsc17 Z sb t kt w2 fm vs h0 n0 _ T10.heap _
    exact ⟨rfl, Na11, ((Keep.refl h0 [sb, t]).trans K10 ((allS (Or.inl (List.mem_of_getElem? (i := 0) rfl)) (allS (Or.inl (List.mem_of_getElem? (i := 1) rfl)) all0)))), Po10_0⟩
  · refine sA X0.here hx (j67_14 hby 0 rfl) ?_
    refine sI X0.here hx (j67_14 hby 1 rfl) ?_
    refine st10 _ ?_
    refine XS.pop X10.here hx rfl (j67_14 hby 3 rfl) rfl rfl ?_
    refine sA X10.here hx (j67_14 hby 4 rfl) ?_
    exact retR X10 hx hrt rfl rfl rfl (j67_14 hby 5 rfl) hr
def own_Qgv (Z : State) (sb t : Addr) (h0 : Heap) (n0 : Nat) (v : Option Value) (h : Heap) (L : List Loc) : Prop := v = some (.ref t) ∧ Fr n0 L ∧ h = h0
theorem own_gv (hw : own_HW a0 Z) {sb t : Addr}  (Z0 : n0 ≤ h0.size) (F_sb_value : Fld Z h0 sb "java/lang/AbstractStringBuilder" "value" "[B" (.ref t)) : own_M l Z h0 y_48 jdk_68_method_64_code 1 (some (.array .byte)) (rm 0 0 0 0) #[(.ref sb)] (own_Qgv Z sb t h0 n0) := by
  refine own_go #[vR sb] (plainFor_of_name own_pn5) (fun m => rfl) fun p e s m below meth c s₁ hx hby hz hZ hown hnm hrt X0 e0 => ?_
  obtain ⟨T10, X10, e10, st10⟩ := getF X0 hx hZ hown (host := "") (Or.inl (ow hw 119 rfl)) Via.refl e0 F_sb_value (g := (mkF m 1 #[vR sb] [(.ref sb)])) rfl rfl (j68_64 hby 1 rfl)
  refine ⟨_, _, _, _, some (.ref t), X10, (fun h => nomatch h), by decide, by decide, ?_, fun fs hr => ?_⟩
  · show own_Qgv Z sb t h0 n0 _ T10.heap _
    rw [e10]
    exact ⟨rfl, (Fr.nil n0), rfl⟩
  · refine sA X0.here hx (j68_64 hby 0 rfl) ?_
    refine st10 _ ?_
    exact retR X10 hx hrt rfl rfl rfl (j68_64 hby 2 rfl) hr
def own_Qabl (Z : State) (sb : Addr) (cnt : Int32) (h0 : Heap) (n0 : Nat) (v : Option Value) (h : Heap) (L : List Loc) : Prop := v = some (.int cnt) ∧ Fr n0 L ∧ h = h0
theorem own_abl (hw : own_HW a0 Z) {sb : Addr} {cnt : Int32}  (Z0 : n0 ≤ h0.size) (E_sb : Exa Z h0 sb "java/lang/StringBuilder") (F_sb_count : Fld Z h0 sb "java/lang/AbstractStringBuilder" "count" "I" (.int cnt)) : own_M l Z h0 y_49 jdk_68_method_6_code 1 (some .int) (rm 0 0 0 0) #[(.ref sb)] (own_Qabl Z sb cnt h0 n0) := by
  refine own_go #[vR sb] (plainFor_of_name own_pn5) (fun m => rfl) fun p e s m below meth c s₁ hx hby hz hZ hown hnm hrt X0 e0 => ?_
  obtain ⟨T10, X10, e10, st10⟩ := getF X0 hx hZ hown (host := "") (Or.inl (ow hw 135 rfl)) Via.refl e0 F_sb_count (g := (mkF m 1 #[vR sb] [(.ref sb)])) rfl rfl (j68_6 hby 1 rfl)
  refine ⟨_, _, _, _, some (.int cnt), X10, (fun h => nomatch h), by decide, by decide, ?_, fun fs hr => ?_⟩
  · show own_Qabl Z sb cnt h0 n0 _ T10.heap _
    rw [e10]
    exact ⟨rfl, (Fr.nil n0), rfl⟩
  · refine sA X0.here hx (j68_6 hby 0 rfl) ?_
    refine st10 _ ?_
    exact retI X10 hx hrt (j68_6 hby 2 rfl) hr
def own_Qsbl (Z : State) (sb : Addr) (cnt : Int32) (h0 : Heap) (n0 : Nat) (v : Option Value) (h : Heap) (L : List Loc) : Prop := v = some (.int cnt) ∧ Fr n0 L ∧ h = h0
theorem own_sbl (hw : own_HW a0 Z) {sb : Addr} {cnt : Int32}  (Z0 : n0 ≤ h0.size) (E_sb : Exa Z h0 sb "java/lang/StringBuilder") (F_sb_count : Fld Z h0 sb "java/lang/AbstractStringBuilder" "count" "I" (.int cnt)) : own_M l Z h0 y_50 jdk_67_method_93_code 1 (some .int) (rm 1 0 0 12) #[(.ref sb)] (own_Qsbl Z sb cnt h0 n0) := by
  refine own_go #[vR sb] (plainFor_of_name own_pn6) (fun m => rfl) fun p e s m below meth c s₁ hx hby hz hZ hown hnm hrt X0 e0 => ?_
  obtain ⟨_, T10, L10, X10, ⟨rfl, Nq10, e10⟩, st10⟩ := own_cu 0 X0 hx hZ hown (ow hw 202 rfl) (ow hw 198 rfl) (ow hw 115 rfl) (ow hw 203 rfl) (ow hw 131 rfl) (ow hw 140 rfl) (own_abl hw  Z0 E_sb F_sb_count) e0 E_sb (g := (mkF m 1 #[vR sb] [(.ref sb)])) (rest := []) (lenOf own_pd13 rfl) (j67_93 hby 1 rfl) hz
  have Na11 := Fr.app (Fr.nil n0) Nq10
  refine ⟨_, _, _, _, some (.int cnt), X10, (fun h => nomatch h), by decide, by decide, ?_, fun fs hr => ?_⟩
  · show own_Qsbl Z sb cnt h0 n0 _ T10.heap _
    rw [e10]
    exact ⟨rfl, Na11, rfl⟩
  · refine sA X0.here hx (j67_93 hby 0 rfl) ?_
    refine st10 _ ?_
    exact retI X10 hx hrt (j67_93 hby 2 rfl) hr
theorem own_pn7 : plainName "java/util/Arrays" = true := by first | (simp [plainName, overriddenIn]; done) | decide +kernel
def own_Qckl (Z : State) (p1 p2 : Int32) (h0 : Heap) (n0 : Nat) (v : Option Value) (h : Heap) (L : List Loc) : Prop := v = none ∧ Fr n0 L ∧ h = h0
theorem own_ckl (hw : own_HW a0 Z) (p1 p2 : Int32) (Z0 : n0 ≤ h0.size) (hq : ¬ p2 < p1) : own_M l Z h0 y_51 jdk_65_method_131_code 2 none (rm 0 0 0 0) #[(.int p1), (.int p2)] (own_Qckl Z p1 p2 h0 n0) := by
  refine own_go #[vI p1, vI p2] (plainFor_of_name own_pn7) (fun m => rfl) fun p e s m below meth c s₁ hx hby hz hZ hown hnm hrt X0 e0 => ?_
  refine ⟨_, _, _, _, none, X0, (fun _ => rfl), by decide, by decide, ?_, fun fs hr => ?_⟩
  · show own_Qckl Z p1 p2 h0 n0 _ s₁.heap _
    rw [e0]
    exact ⟨rfl, (Fr.nil n0), rfl⟩
  · refine sI X0.here hx (j65_131 hby 0 rfl) ?_
    refine sI X0.here hx (j65_131 hby 1 rfl) ?_
    refine XS.icmpYes X0.here hx rfl (pc0 := 2) (pc' := 37) rfl (j65_131 hby 2 rfl) rfl (flt hq).2.1 (by decide) (by decide) ?_
    exact X0.returnOut hx hrt (j65_131 hby 3 rfl) hr
theorem own_cpl {nn : Int32} {un : Nat} {us : List Value} {d : Value} (hun : nn.toNatClampNeg = un) : (List.replicate un d).take (0 : Int32).toNatClampNeg ++ us ++ (List.replicate un d).drop ((0 : Int32).toNatClampNeg + nn.toNatClampNeg) = us := by
  rw [hun]
  show ([] ++ us ++ (List.replicate un d).drop (0 + un)) = us
  simp
def own_Qcrb0 (Z : State) (t : Addr) (kt : ClassId) (vs us : List Value) (nn : Int32) (un : Nat) (h0 : Heap) (n0 : Nat) (v : Option Value) (h : Heap) (L : List Loc) : Prop := ∃ (u : Addr) (ku : ClassId), v = some (.ref u) ∧ Fr n0 L ∧ Ext h0 h ∧ Arv Z h u ku .byte nn us (.int 0) ∧ h0.size ≤ u
theorem own_crb0 (hw : own_HW a0 Z) {t : Addr} {kt : ClassId} {vs : List Value} (us : List Value) (nn : Int32) (un : Nat) (Z0 : n0 ≤ h0.size) (A_t : Arv Z h0 t kt .byte (16 : Int32) vs (.int 0)) (hus : us = (List.range nn.toNatClampNeg).map fun i => vs.getD ((0 : Int32).toNatClampNeg + i) (.int 0)) (hun : nn.toNatClampNeg = un) (hn0 : ¬ nn < 0) (n1 : nn < (16 : Int32)) (n2 : nn.toNatClampNeg ≤ 20) (n3 : ¬ nn = (16 : Int32)) (n4 : (0 : Int32).toNatClampNeg + nn.toNatClampNeg ≤ (16 : Int32).toNatClampNeg) (n5 : (nn - (0 : Int32)) = nn) : own_M l Z h0 y_52 jdk_65_method_133_code 5 (some (.array .byte)) (rm 1 1 20 18) #[(.ref t), (.int 0), (.int nn)] (own_Qcrb0 Z t kt vs us nn un h0 n0) := by
  refine own_go #[vR t, vI 0, vI nn, vU, vU] (plainFor_of_name own_pn7) (fun m => rfl) fun p e s m below meth c s₁ hx hby hz hZ hown hnm hrt X0 e0 => ?_
  obtain ⟨_, T10, L10, X10, ⟨rfl, Nq10, e10⟩, st10⟩ := own_cs 0 X0 hx hZ hown (ow hw 212 rfl) (ow hw 213 rfl) (ow hw 207 rfl) (ow hw 214 rfl) (own_ckl hw (0 : Int32) nn Z0 hn0) e0 (g := (mkF m 2 #[vR t, vI 0, vI nn, vU, vU] [(.int nn), (.int 0)])) (rest := []) (lenOf own_pd3 rfl) (j65_133 hby 2 rfl) hz
  have Na11 := Fr.app (Fr.nil n0) Nq10
  obtain ⟨T12, h12, k12, X12, e12, E12, A12, st12⟩ := newP X10 hx hZ (ow hw 23 rfl) e10 (g := (mkF m 10 #[vR t, vI 0, vI nn, vI nn, vU] [(.int nn)])) rfl (j65_133 hby 8 rfl) rfl hn0 (cap := 20) n2 (by decide) (by decide) (by decide)
  obtain ⟨b12, g12⟩ : ∃ z, z = h0.size := ⟨_, rfl⟩
  rw [← g12] at A12 st12
  have V12 : Arv Z h12 b12 k12 .byte nn (List.replicate un (.int 0)) (.int 0) := (Arv.new A12 hn0).pad (pad_rep [] (.int 0) un)
  obtain ⟨cl13, Ar13, q13, S13, M13, H13, G13⟩ := id (A_t.ext E12)
  obtain ⟨_, T14, L14, X14, ⟨rfl, Nq14, e14⟩, st14⟩ := own_cs 4 X12 hx hZ hown (ow hw 215 rfl) (ow hw 91 rfl) (ow hw 88 rfl) (ow hw 92 rfl) (own_mnB hw (16 : Int32) nn (Nat.le_trans Z0 E12.1) n1) e12 (g := (mkF m 24 #[vR t, vI 0, vI nn, vI nn, vR b12] [(.int nn), (.int 16), (.int 0), (.ref b12), (.int 0), (.ref t)])) (rest := [(.int 0), (.ref b12), (.int 0), (.ref t)]) (lenOf own_pd8 rfl) (j65_133 hby 19 rfl) hz
  have Na15 := Fr.app Na11 Nq14
  obtain ⟨T16, h16, L16, X16, e16, N16, K16, A16, st16⟩ := cpA X14 hx hZ hown (ow hw 216 rfl) (ow hw 161 rfl) (ow hw 159 rfl) (ow hw 160 rfl) e14 (us := us) (A_t.ext E12) V12 (Or.inl ⟨rfl, rfl⟩) (by decide) (by decide) hn0 n4 (Nat.le_of_eq (Nat.zero_add _)) hus (by rw [List.length_replicate, hun]; exact Nat.le_of_eq (Nat.zero_add _)) Na15 (Nat.le_trans Z0 (Nat.le_of_eq g12.symm)) (g := (mkF m 27 #[vR t, vI 0, vI nn, vI nn, vR b12] [(.int nn), (.int 0), (.ref b12), (.int 0), (.ref t)])) rfl hz rfl (j65_133 hby 20 rfl) (by decide) (W := 0) (Nat.le_of_eq rfl) (by decide)
  have V16 : Arv Z h16 b12 k12 .byte nn us (.int 0) := by have q := A16; rw [own_cpl hun] at q; exact q
  have Xt17 : Ext h0 h16 := (own_xk E12 K16 ((allS (Nat.le_trans (own_xr h0).1 (Nat.le_of_eq g12.symm)) all0)))
  refine ⟨_, _, _, _, some (.ref b12), X16, (fun h => nomatch h), by decide, by decide, ?_, fun fs hr => ?_⟩
  · show own_Qcrb0 Z t kt vs us nn un h0 n0 _ T16.heap _
    rw [e16]
    exact ⟨b12, k12, rfl, N16, Xt17, V16, (Nat.le_trans (Nat.le_refl _) (Nat.le_of_eq g12.symm))⟩
  · refine sI X0.here hx (j65_133 hby 0 rfl) ?_
    refine sI X0.here hx (j65_133 hby 1 rfl) ?_
    refine st10 _ ?_
    refine sI X10.here hx (j65_133 hby 3 rfl) ?_
    refine sI X10.here hx (j65_133 hby 4 rfl) ?_
    refine XS.isub X10.here hx rfl (j65_133 hby 5 rfl) rfl ?_
    show Steps p.tables e below (T10.setTop (mkF m 8 #[vR t, vI 0, vI nn, vU, vU] [(.int (nn - (0 : Int32)))])) _
    rw [n5]
    refine XS.istoreN X10.here hx rfl (j65_133 hby 6 rfl) rfl (l' := #[vR t, vI 0, vI nn, vI nn, vU]) rfl ?_
    refine sI X10.here hx (j65_133 hby 7 rfl) ?_
    refine st12 _ ?_
    refine XS.astore X12.here hx rfl (j65_133 hby 9 rfl) rfl rfl (l' := #[vR t, vI 0, vI nn, vI nn, vR b12]) rfl ?_
    refine sA X12.here hx (j65_133 hby 10 rfl) ?_
    refine sI X12.here hx (j65_133 hby 11 rfl) ?_
    refine sB X12.here hx (j65_133 hby 12 rfl) ?_
    refine sC X12.here hx (j65_133 hby 13 rfl) ?_
    refine sA X12.here hx (j65_133 hby 14 rfl) ?_
    refine X12.arraylength hx (by rw [e12]; exact Ar13.1) (State.isArrayOf_alike hZ.alike Ar13.2.1) (g := (mkF m 20 #[vR t, vI 0, vI nn, vI nn, vR b12] [(.ref t), (.int 0), (.ref b12), (.int 0), (.ref t)])) rfl rfl (j65_133 hby 15 rfl) _ ?_
    rw [len_of S13 M13]
    refine sI X12.here hx (j65_133 hby 16 rfl) ?_
    refine XS.isub X12.here hx rfl (j65_133 hby 17 rfl) rfl ?_
    refine sI X12.here hx (j65_133 hby 18 rfl) ?_
    refine st14 _ ?_
    refine st16 _ ?_
    refine sB X16.here hx (j65_133 hby 21 rfl) ?_
    exact retR X16 hx hrt rfl rfl rfl (j65_133 hby 22 rfl) hr
def own_Qcor0 (Z : State) (t : Addr) (kt : ClassId) (vs us : List Value) (nn : Int32) (un : Nat) (h0 : Heap) (n0 : Nat) (v : Option Value) (h : Heap) (L : List Loc) : Prop := ∃ (u : Addr) (ku : ClassId), v = some (.ref u) ∧ Fr n0 L ∧ Ext h0 h ∧ Arv Z h u ku .byte nn us (.int 0) ∧ h0.size ≤ u
theorem own_cor0 (hw : own_HW a0 Z) {t : Addr} {kt : ClassId} {vs : List Value} (us : List Value) (nn : Int32) (un : Nat) (Z0 : n0 ≤ h0.size) (A_t : Arv Z h0 t kt .byte (16 : Int32) vs (.int 0)) (hus : us = (List.range nn.toNatClampNeg).map fun i => vs.getD ((0 : Int32).toNatClampNeg + i) (.int 0)) (hun : nn.toNatClampNeg = un) (hn0 : ¬ nn < 0) (n1 : nn < (16 : Int32)) (n2 : nn.toNatClampNeg ≤ 20) (n3 : ¬ nn = (16 : Int32)) (n4 : (0 : Int32).toNatClampNeg + nn.toNatClampNeg ≤ (16 : Int32).toNatClampNeg) (n5 : (nn - (0 : Int32)) = nn) : own_M l Z h0 y_53 jdk_65_method_132_code 3 (some (.array .byte)) (rm 2 1 20 34) #[(.ref t), (.int 0), (.int nn)] (own_Qcor0 Z t kt vs us nn un h0 n0) := by
  refine own_go #[vR t, vI 0, vI nn] (plainFor_of_name own_pn7) (fun m => rfl) fun p e s m below meth c s₁ hx hby hz hZ hown hnm hrt X0 e0 => ?_
  obtain ⟨cl10, Ar10, q10, S10, M10, H10, G10⟩ := id A_t
  obtain ⟨_, T11, L11, X11, ⟨u_11, ku_11, rfl, Nq11, E11, Po11_0, Po11_1⟩, st11⟩ := own_cs 0 X0 hx hZ hown (ow hw 209 rfl) (ow hw 210 rfl) (ow hw 207 rfl) (ow hw 211 rfl) (own_crb0 hw us nn un Z0 A_t hus hun hn0 n1 n2 n3 n4 n5) e0 (g := (mkF m 13 #[vR t, vI 0, vI nn] [(.int nn), (.int 0), (.ref t)])) (rest := []) (lenOf own_pd27 rfl) (j65_132 hby 9 rfl) hz
  have Na12 := Fr.app (Fr.nil n0) Nq11
  refine ⟨_, _, _, _, some (.ref u_11), X11, (fun h => nomatch h), by decide, by decide, ?_, fun fs hr => ?_⟩
  · show own_Qcor0 Z t kt vs us nn un h0 n0 _ T11.heap _
    exact ⟨u_11, ku_11, rfl, Na12, E11, Po11_0, Po11_1⟩
  · refine sI X0.here hx (j65_132 hby 0 rfl) ?_
    refine XS.ifNo X0.here hx rfl (j65_132 hby 1 rfl) rfl ((if0 _ _).trans (teq rfl).2) ?_
    refine sI X0.here hx (j65_132 hby 2 rfl) ?_
    refine sA X0.here hx (j65_132 hby 3 rfl) ?_
    refine X0.arraylength hx (by rw [e0]; exact Ar10.1) (State.isArrayOf_alike hZ.alike Ar10.2.1) (g := (mkF m 6 #[vR t, vI 0, vI nn] [(.ref t), (.int nn)])) rfl rfl (j65_132 hby 4 rfl) _ ?_
    rw [len_of S10 M10]
    refine XS.icmpNo X0.here hx rfl (j65_132 hby 5 rfl) rfl (feq n3).1 ?_
    refine sA X0.here hx (j65_132 hby 6 rfl) ?_
    refine sI X0.here hx (j65_132 hby 7 rfl) ?_
    refine sI X0.here hx (j65_132 hby 8 rfl) ?_
    refine st11 _ ?_
    exact retR X11 hx hrt rfl rfl rfl (j65_132 hby 10 rfl) hr
def own_Qsv0 (Z : State) (x sb t : Addr) (kt : ClassId) (w2 : Int32) (vs us : List Value) (nn : Int32) (un : Nat) (fm : Value) (h0 : Heap) (n0 : Nat) (v : Option Value) (h : Heap) (L : List Loc) : Prop := ∃ (u : Addr) (ku : ClassId), v = none ∧ Fr n0 L ∧ Keep h0 h [x] ∧ own_Sr Z h x u ku 0 nn us ∧ h0.size ≤ u
theorem own_sv0 (hw : own_HW a0 Z) {x sb t : Addr} {kt : ClassId} {w2 : Int32} {vs : List Value} {nn : Int32} {fm : Value} (us : List Value) (un : Nat) (Z0 : n0 ≤ h0.size) (E_x : Exa Z h0 x "java/lang/String") (F_x_value : Fld Z h0 x "java/lang/String" "value" "[B" .null) (F_x_coder : Fld Z h0 x "java/lang/String" "coder" "B" (.int 0)) (g_x : n0 ≤ x) (n_sb_x : sb ≠ x) (n_t_x : t ≠ x) (B_sb : own_Bd Z h0 sb t kt 0 nn 16 vs) (SS : own_ST Z h0 w2 fm) (hus : us = (List.range nn.toNatClampNeg).map fun i => vs.getD ((0 : Int32).toNatClampNeg + i) (.int 0)) (hun : nn.toNatClampNeg = un) (hn0 : ¬ nn < 0) (n1 : nn < (16 : Int32)) (n2 : nn.toNatClampNeg ≤ 20) (n3 : ¬ nn = (16 : Int32)) (n4 : (0 : Int32).toNatClampNeg + nn.toNatClampNeg ≤ (16 : Int32).toNatClampNeg) (n5 : (nn - (0 : Int32)) = nn) : own_M l Z h0 y_54 jdk_42_method_150_code 5 none (rm 3 1 20 49) #[(.ref x), (.ref sb), .null] (own_Qsv0 Z x sb t kt w2 vs us nn un fm h0 n0) := by
  refine own_go #[vR x, vR sb, .val .null, vU, vU] (plainFor_of_name own_pn0) (fun m => rfl) fun p e s m below meth c s₁ hx hby hz hZ hown hnm hrt X0 e0 => ?_
  obtain ⟨T10, X10, e10, st10⟩ := initO X0 hx hZ hown (ow hw 15 rfl) (ow hw 16 rfl) (ow hw 17 rfl) e0 (g := (mkF m 1 #[vR x, vR sb, .val .null, vU, vU] [(.ref x)])) rfl hz rfl (j42_150 hby 1 rfl) (by decide) (W := 0) (Nat.le_of_eq rfl) (by decide)
  obtain ⟨_, T11, L11, X11, ⟨rfl, Nq11, e11⟩, st11⟩ := own_cv 0 X10 hx hZ hown (ow hw 191 rfl) (ow hw 192 rfl) (ow hw 140 rfl) (ow hw 194 rfl) (ow hw 193 rfl) (ow hw 115 rfl) (ow hw 195 rfl) (own_gv hw  Z0 B_sb.2.1) e10 B_sb.1 (g := (mkF m 5 #[vR x, vR sb, .val .null, vU, vU] [(.ref sb)])) (rest := []) (lenOf own_pd28 rfl) (j42_150 hby 3 rfl) hz
  have Na12 := Fr.app (Fr.nil n0) Nq11
  obtain ⟨_, T13, L13, X13, ⟨rfl, Nq13, e13⟩, st13⟩ := own_cv 0 X11 hx hZ hown (ow hw 196 rfl) (ow hw 197 rfl) (ow hw 140 rfl) (ow hw 199 rfl) (ow hw 200 rfl) (ow hw 107 rfl) (ow hw 201 rfl) (own_sbl hw  Z0 B_sb.1 B_sb.2.2.2.1) e11 B_sb.1 (g := (mkF m 10 #[vR x, vR sb, .val .null, vR t, vU] [(.ref sb)])) (rest := []) (lenOf own_pd13 rfl) (j42_150 hby 6 rfl) hz
  have Na14 := Fr.app Na12 Nq13
  obtain ⟨_, T15, L15, X15, ⟨rfl, Nq15, e15⟩, st15⟩ := own_cv 0 X13 hx hZ hown (ow hw 204 rfl) (ow hw 172 rfl) (ow hw 140 rfl) (ow hw 174 rfl) (ow hw 173 rfl) (ow hw 115 rfl) (ow hw 175 rfl) (own_aisl0 hw  Z0 B_sb.2.2.1 SS) e13 B_sb.1 (g := (mkF m 16 #[vR x, vR sb, .val .null, vR t, vI nn] [(.ref sb)])) (rest := []) (lenOf own_pd12 rfl) (j42_150 hby 9 rfl) hz
  have Na16 := Fr.app Na14 Nq15
  obtain ⟨T17, h17, X17, e17, W17, st17⟩ := putFN X15 hx hZ hown (ow hw 30 rfl) Via.refl e15 F_x_coder E_x (Or.inr ⟨(ow hw 31 rfl), rfl, hnm⟩) (ow hw 5 rfl) (ty := .byte) (v' := (.int 0)) (by decide) rfl rfl (g := (mkF m 24 #[vR x, vR sb, .val .null, vR t, vI nn] [(.int 0), (.ref x)])) rfl rfl (j42_150 hby 13 rfl)
  have Ew17 := E_x.wr W17
  have Fo18 := F_x_value.other W17 (Or.inr (slot_ne (Or.inr (ow hw 33 rfl)) (Or.inr (ow hw 31 rfl)) (by decide) (t := (.array .byte)) (t' := .byte) (by decide) (by decide)))
  have Fw17 := F_x_coder.same W17
  have N17 := Fr.snoc X17 Na16 g_x
  have Cf19 := B_sb.2.2.2.2.2.other W17 n_t_x
  obtain ⟨_, T20, L20, X20, ⟨u_20, ku_20, rfl, Nq20, E20, Po20_0, Po20_1⟩, st20⟩ := own_cs 1 X17 hx hZ hown (ow hw 205 rfl) (ow hw 206 rfl) (ow hw 207 rfl) (ow hw 208 rfl) (own_cor0 hw us nn un (Nat.le_trans Z0 (Keep.of_wr W17).1) Cf19 hus hun hn0 n1 n2 n3 n4 n5) e17 (g := (mkF m 32 #[vR x, vR sb, .val .null, vR t, vI nn] [(.int nn), (.int 0), (.ref t), (.ref x)])) (rest := [(.ref x)]) (lenOf own_pd27 rfl) (j42_150 hby 18 rfl) hz
  have Na21 := Fr.app N17 Nq20
  obtain ⟨T22, h22, X22, e22, W22, st22⟩ := putF X20 hx hZ hown (host := "") (Or.inl (ow hw 32 rfl)) Via.refl rfl (Fo18.ext E20) (Ew17.ext E20) (Or.inr ⟨(ow hw 33 rfl), rfl, hnm⟩) (ow hw 5 rfl) (ty := (.array .byte)) (by decide) rfl rfl (g := (mkF m 35 #[vR x, vR sb, .val .null, vR t, vI nn] [(.ref u_20), (.ref x)])) rfl rfl (j42_150 hby 19 rfl)
  have Ew22 := (Ew17.ext E20).wr W22
  have Fw22 := (Fo18.ext E20).same W22
  have Fo23 := (Fw17.ext E20).other W22 (Or.inr (slot_ne (Or.inr (ow hw 31 rfl)) (Or.inr (ow hw 33 rfl)) (by decide) (t := .byte) (t' := (.array .byte)) (by decide) (by decide)))
  have N22 := Fr.snoc X22 Na21 g_x
  have Cf24 := Po20_0.other W22 (Ne.symm (Nat.ne_of_lt (Nat.lt_of_lt_of_le (E_x).lt (Nat.le_trans (Keep.of_wr W17).1 Po20_1))))
  refine ⟨_, _, _, _, none, X22, (fun _ => rfl), by decide, by decide, ?_, fun fs hr => ?_⟩
  · show own_Qsv0 Z x sb t kt w2 vs us nn un fm h0 n0 _ T22.heap _
    rw [e22]
    exact ⟨u_20, ku_20, rfl, N22, ((((Keep.refl h0 [x]).wr W17 (Or.inl (List.mem_of_getElem? (i := 0) rfl))).ext E20).wr W22 (Or.inl (List.mem_of_getElem? (i := 0) rfl))), ⟨Ew22, Fw22, Fo23, Cf24⟩, (Nat.le_trans (Keep.of_wr W17).1 Po20_1)⟩
  · refine sA X0.here hx (j42_150 hby 0 rfl) ?_
    refine st10 _ ?_
    refine sA X10.here hx (j42_150 hby 2 rfl) ?_
    refine st11 _ ?_
    refine XS.astoreN X11.here hx rfl (j42_150 hby 4 rfl) rfl rfl (l' := #[vR x, vR sb, .val .null, vR t, vU]) rfl ?_
    refine sA X11.here hx (j42_150 hby 5 rfl) ?_
    refine st13 _ ?_
    refine XS.istore X13.here hx rfl (j42_150 hby 7 rfl) rfl (l' := #[vR x, vR sb, .val .null, vR t, vI nn]) rfl ?_
    refine sA X13.here hx (j42_150 hby 8 rfl) ?_
    refine st15 _ ?_
    refine XS.ifNo X15.here hx rfl (j42_150 hby 10 rfl) rfl ((if0 _ _).trans (feq (by decide)).1) ?_
    refine sA X15.here hx (j42_150 hby 11 rfl) ?_
    refine sC X15.here hx (j42_150 hby 12 rfl) ?_
    refine st17 _ ?_
    refine sA X17.here hx (j42_150 hby 14 rfl) ?_
    refine sA X17.here hx (j42_150 hby 15 rfl) ?_
    refine sC X17.here hx (j42_150 hby 16 rfl) ?_
    refine sJ X17.here hx (j42_150 hby 17 rfl) ?_
    refine st20 _ ?_
    refine st22 _ ?_
    refine XS.goto X22.here hx rfl (pc0 := 38) (pc' := 97) rfl (j42_150 hby 20 rfl) (by decide) (by decide) ?_
    exact X22.returnOut hx hrt (j42_150 hby 21 rfl) hr
def own_Qs10 (Z : State) (x sb t : Addr) (kt : ClassId) (w2 : Int32) (vs us : List Value) (nn : Int32) (un : Nat) (fm : Value) (h0 : Heap) (n0 : Nat) (v : Option Value) (h : Heap) (L : List Loc) : Prop := ∃ (u : Addr) (ku : ClassId), v = none ∧ Fr n0 L ∧ Keep h0 h [x] ∧ own_Sr Z h x u ku 0 nn us ∧ h0.size ≤ u
theorem own_s10 (hw : own_HW a0 Z) {x sb t : Addr} {kt : ClassId} {w2 : Int32} {vs : List Value} {nn : Int32} {fm : Value} (us : List Value) (un : Nat) (Z0 : n0 ≤ h0.size) (E_x : Exa Z h0 x "java/lang/String") (F_x_value : Fld Z h0 x "java/lang/String" "value" "[B" .null) (F_x_coder : Fld Z h0 x "java/lang/String" "coder" "B" (.int 0)) (g_x : n0 ≤ x) (n_sb_x : sb ≠ x) (n_t_x : t ≠ x) (B_sb : own_Bd Z h0 sb t kt 0 nn 16 vs) (SS : own_ST Z h0 w2 fm) (hus : us = (List.range nn.toNatClampNeg).map fun i => vs.getD ((0 : Int32).toNatClampNeg + i) (.int 0)) (hun : nn.toNatClampNeg = un) (hn0 : ¬ nn < 0) (n1 : nn < (16 : Int32)) (n2 : nn.toNatClampNeg ≤ 20) (n3 : ¬ nn = (16 : Int32)) (n4 : (0 : Int32).toNatClampNeg + nn.toNatClampNeg ≤ (16 : Int32).toNatClampNeg) (n5 : (nn - (0 : Int32)) = nn) : own_M l Z h0 y_55 jdk_42_method_53_code 2 none (rm 4 1 20 65) #[(.ref x), (.ref sb)] (own_Qs10 Z x sb t kt w2 vs us nn un fm h0 n0) := by
  refine own_go #[vR x, vR sb] (plainFor_of_name own_pn0) (fun m => rfl) fun p e s m below meth c s₁ hx hby hz hZ hown hnm hrt X0 e0 => ?_
  obtain ⟨_, T10, L10, X10, ⟨u_10, ku_10, rfl, Nq10, K10, Po10_0, Po10_1⟩, st10⟩ := own_cp 0 X0 hx hZ hown (ow hw 188 rfl) (ow hw 189 rfl) (ow hw 6 rfl) (ow hw 190 rfl) (own_sv0 hw us un Z0 E_x F_x_value F_x_coder g_x n_sb_x n_t_x B_sb SS hus hun hn0 n1 n2 n3 n4 n5) e0 (g := (mkF m 3 #[vR x, vR sb] [.null, (.ref sb), (.ref x)])) (rest := []) (lenOf own_pd29 rfl) (j42_53 hby 3 rfl) hz
  have Na11 := Fr.app (Fr.nil n0) Nq10
  refine ⟨_, _, _, _, none, X10, (fun _ => rfl), by decide, by decide, ?_, fun fs hr => ?_⟩
  · show own_Qs10 Z x sb t kt w2 vs us nn un fm h0 n0 _ T10.heap _
    exact ⟨u_10, ku_10, rfl, Na11, ((Keep.refl h0 [x]).trans K10 ((allS (Or.inl (List.mem_of_getElem? (i := 0) rfl)) all0))), Po10_0, Po10_1⟩
  · refine sA X0.here hx (j42_53 hby 0 rfl) ?_
    refine sA X0.here hx (j42_53 hby 1 rfl) ?_
    refine XS.aconstNull X0.here hx rfl (j42_53 hby 2 rfl) ?_
    refine st10 _ ?_
    exact X10.returnOut hx hrt (j42_53 hby 4 rfl) hr
def own_Qts0 (Z : State) (sb t : Addr) (kt : ClassId) (w2 : Int32) (vs us : List Value) (nn : Int32) (un : Nat) (fm : Value) (h0 : Heap) (n0 : Nat) (v : Option Value) (h : Heap) (L : List Loc) : Prop := ∃ (x : Addr) (u : Addr) (ku : ClassId), v = some (.ref x) ∧ Fr n0 L ∧ Ext h0 h ∧ own_Sr Z h x u ku 0 nn us
theorem own_ts0 (hw : own_HW a0 Z) {sb t : Addr} {kt : ClassId} {w2 : Int32} {vs : List Value} {nn : Int32} {fm : Value} (us : List Value) (un : Nat) (Z0 : n0 ≤ h0.size) (B_sb : own_Bd Z h0 sb t kt 0 nn 16 vs) (SS : own_ST Z h0 w2 fm) (hus : us = (List.range nn.toNatClampNeg).map fun i => vs.getD ((0 : Int32).toNatClampNeg + i) (.int 0)) (hun : nn.toNatClampNeg = un) (hn0 : ¬ nn < 0) (n1 : nn < (16 : Int32)) (n2 : nn.toNatClampNeg ≤ 20) (n3 : ¬ nn = (16 : Int32)) (n4 : (0 : Int32).toNatClampNeg + nn.toNatClampNeg ≤ (16 : Int32).toNatClampNeg) (n5 : (nn - (0 : Int32)) = nn) : own_M l Z h0 y_56 jdk_67_method_42_code 1 (some (.object "java/lang/String")) (rm 5 2 24 79) #[(.ref sb)] (own_Qts0 Z sb t kt w2 vs us nn un fm h0 n0) := by
  refine own_go #[vR sb] (plainFor_of_name own_pn6) (fun m => rfl) fun p e s m below meth c s₁ hx hby hz hZ hown hnm hrt X0 e0 => ?_
  obtain ⟨T10, h10, X10, e10, E10, A10, D10, -, st10⟩ := newO X0 hx hZ hown (ow hw 184 rfl) (ow hw 5 rfl) (ow hw 6 rfl) e0 (g := (mkF m 0 #[vR sb] [])) rfl (j67_42 hby 0 rfl) (by decide) (by decide)
  obtain ⟨b10, g10⟩ : ∃ z, z = h0.size := ⟨_, rfl⟩
  rw [← g10] at A10 D10 st10
  have Fcoder_10 : Fld Z h10 b10 "java/lang/String" "coder" "B" (.int 0) := D10 (Or.inr (ow hw 31 rfl)) (ty := .byte) (by decide)
  have Fvalue_10 : Fld Z h10 b10 "java/lang/String" "value" "[B" .null := D10 (Or.inr (ow hw 33 rfl)) (ty := (.array .byte)) (by decide)
  obtain ⟨_, T11, L11, X11, ⟨u_11, ku_11, rfl, Nq11, K11, Po11_0, Po11_1⟩, st11⟩ := own_cp 1 X10 hx hZ hown (ow hw 185 rfl) (ow hw 186 rfl) (ow hw 6 rfl) (ow hw 187 rfl) (own_s10 hw us un (Nat.le_trans Z0 E10.1) A10 Fvalue_10 Fcoder_10 (Nat.le_trans Z0 (Nat.le_of_eq g10.symm)) (Nat.ne_of_lt (Nat.lt_of_lt_of_le (B_sb.1).lt (Nat.le_trans (Nat.le_refl _) (Nat.le_of_eq g10.symm)))) (Nat.ne_of_lt (Nat.lt_of_lt_of_le (B_sb.2.2.2.2.2).lt (Nat.le_trans (Nat.le_refl _) (Nat.le_of_eq g10.symm)))) (B_sb.ext E10) (SS.ext E10) hus hun hn0 n1 n2 n3 n4 n5) e10 (g := (mkF m 5 #[vR sb] [(.ref sb), (.ref b10), (.ref b10)])) (rest := [(.ref b10)]) (lenOf own_pd30 rfl) (j67_42 hby 3 rfl) hz
  have Na12 := Fr.app (Fr.nil n0) Nq11
  have Xt13 : Ext h0 T11.heap := (own_xk E10 K11 ((allS (Nat.le_trans (own_xr h0).1 (Nat.le_of_eq g10.symm)) all0)))
  refine ⟨_, _, _, _, some (.ref b10), X11, (fun h => nomatch h), by decide, by decide, ?_, fun fs hr => ?_⟩
  · show own_Qts0 Z sb t kt w2 vs us nn un fm h0 n0 _ T11.heap _
    exact ⟨b10, u_11, ku_11, rfl, Na12, Xt13, Po11_0⟩
  · refine st10 _ ?_
    refine XS.dup X10.here hx rfl (j67_42 hby 1 rfl) rfl rfl ?_
    refine sA X10.here hx (j67_42 hby 2 rfl) ?_
    refine st11 _ ?_
    exact retR X11 hx hrt rfl rfl rfl (j67_42 hby 4 rfl) hr
def own_Qcrb1 (Z : State) (t : Addr) (kt : ClassId) (vs us : List Value) (nn : Int32) (un : Nat) (h0 : Heap) (n0 : Nat) (v : Option Value) (h : Heap) (L : List Loc) : Prop := ∃ (u : Addr) (ku : ClassId), v = some (.ref u) ∧ Fr n0 L ∧ Ext h0 h ∧ Arv Z h u ku .byte nn us (.int 0) ∧ h0.size ≤ u
theorem own_crb1 (hw : own_HW a0 Z) {t : Addr} {kt : ClassId} {vs : List Value} (us : List Value) (nn : Int32) (un : Nat) (Z0 : n0 ≤ h0.size) (A_t : Arv Z h0 t kt .byte (32 : Int32) vs (.int 0)) (hus : us = (List.range nn.toNatClampNeg).map fun i => vs.getD ((0 : Int32).toNatClampNeg + i) (.int 0)) (hun : nn.toNatClampNeg = un) (hn0 : ¬ nn < 0) (n1 : nn < (32 : Int32)) (n2 : nn.toNatClampNeg ≤ 20) (n3 : ¬ nn = (32 : Int32)) (n4 : (0 : Int32).toNatClampNeg + nn.toNatClampNeg ≤ (32 : Int32).toNatClampNeg) (n5 : (nn - (0 : Int32)) = nn) : own_M l Z h0 y_52 jdk_65_method_133_code 5 (some (.array .byte)) (rm 1 1 20 18) #[(.ref t), (.int 0), (.int nn)] (own_Qcrb1 Z t kt vs us nn un h0 n0) := by
  refine own_go #[vR t, vI 0, vI nn, vU, vU] (plainFor_of_name own_pn7) (fun m => rfl) fun p e s m below meth c s₁ hx hby hz hZ hown hnm hrt X0 e0 => ?_
  obtain ⟨_, T10, L10, X10, ⟨rfl, Nq10, e10⟩, st10⟩ := own_cs 0 X0 hx hZ hown (ow hw 212 rfl) (ow hw 213 rfl) (ow hw 207 rfl) (ow hw 214 rfl) (own_ckl hw (0 : Int32) nn Z0 hn0) e0 (g := (mkF m 2 #[vR t, vI 0, vI nn, vU, vU] [(.int nn), (.int 0)])) (rest := []) (lenOf own_pd3 rfl) (j65_133 hby 2 rfl) hz
  have Na11 := Fr.app (Fr.nil n0) Nq10
  obtain ⟨T12, h12, k12, X12, e12, E12, A12, st12⟩ := newP X10 hx hZ (ow hw 23 rfl) e10 (g := (mkF m 10 #[vR t, vI 0, vI nn, vI nn, vU] [(.int nn)])) rfl (j65_133 hby 8 rfl) rfl hn0 (cap := 20) n2 (by decide) (by decide) (by decide)
  obtain ⟨b12, g12⟩ : ∃ z, z = h0.size := ⟨_, rfl⟩
  rw [← g12] at A12 st12
  have V12 : Arv Z h12 b12 k12 .byte nn (List.replicate un (.int 0)) (.int 0) := (Arv.new A12 hn0).pad (pad_rep [] (.int 0) un)
  obtain ⟨cl13, Ar13, q13, S13, M13, H13, G13⟩ := id (A_t.ext E12)
  obtain ⟨_, T14, L14, X14, ⟨rfl, Nq14, e14⟩, st14⟩ := own_cs 4 X12 hx hZ hown (ow hw 215 rfl) (ow hw 91 rfl) (ow hw 88 rfl) (ow hw 92 rfl) (own_mnB hw (32 : Int32) nn (Nat.le_trans Z0 E12.1) n1) e12 (g := (mkF m 24 #[vR t, vI 0, vI nn, vI nn, vR b12] [(.int nn), (.int 32), (.int 0), (.ref b12), (.int 0), (.ref t)])) (rest := [(.int 0), (.ref b12), (.int 0), (.ref t)]) (lenOf own_pd8 rfl) (j65_133 hby 19 rfl) hz
  have Na15 := Fr.app Na11 Nq14
  obtain ⟨T16, h16, L16, X16, e16, N16, K16, A16, st16⟩ := cpA X14 hx hZ hown (ow hw 216 rfl) (ow hw 161 rfl) (ow hw 159 rfl) (ow hw 160 rfl) e14 (us := us) (A_t.ext E12) V12 (Or.inl ⟨rfl, rfl⟩) (by decide) (by decide) hn0 n4 (Nat.le_of_eq (Nat.zero_add _)) hus (by rw [List.length_replicate, hun]; exact Nat.le_of_eq (Nat.zero_add _)) Na15 (Nat.le_trans Z0 (Nat.le_of_eq g12.symm)) (g := (mkF m 27 #[vR t, vI 0, vI nn, vI nn, vR b12] [(.int nn), (.int 0), (.ref b12), (.int 0), (.ref t)])) rfl hz rfl (j65_133 hby 20 rfl) (by decide) (W := 0) (Nat.le_of_eq rfl) (by decide)
  have V16 : Arv Z h16 b12 k12 .byte nn us (.int 0) := by have q := A16; rw [own_cpl hun] at q; exact q
  have Xt17 : Ext h0 h16 := (own_xk E12 K16 ((allS (Nat.le_trans (own_xr h0).1 (Nat.le_of_eq g12.symm)) all0)))
  refine ⟨_, _, _, _, some (.ref b12), X16, (fun h => nomatch h), by decide, by decide, ?_, fun fs hr => ?_⟩
  · show own_Qcrb1 Z t kt vs us nn un h0 n0 _ T16.heap _
    rw [e16]
    exact ⟨b12, k12, rfl, N16, Xt17, V16, (Nat.le_trans (Nat.le_refl _) (Nat.le_of_eq g12.symm))⟩
  · refine sI X0.here hx (j65_133 hby 0 rfl) ?_
    refine sI X0.here hx (j65_133 hby 1 rfl) ?_
    refine st10 _ ?_
    refine sI X10.here hx (j65_133 hby 3 rfl) ?_
    refine sI X10.here hx (j65_133 hby 4 rfl) ?_
    refine XS.isub X10.here hx rfl (j65_133 hby 5 rfl) rfl ?_
    show Steps p.tables e below (T10.setTop (mkF m 8 #[vR t, vI 0, vI nn, vU, vU] [(.int (nn - (0 : Int32)))])) _
    rw [n5]
    refine XS.istoreN X10.here hx rfl (j65_133 hby 6 rfl) rfl (l' := #[vR t, vI 0, vI nn, vI nn, vU]) rfl ?_
    refine sI X10.here hx (j65_133 hby 7 rfl) ?_
    refine st12 _ ?_
    refine XS.astore X12.here hx rfl (j65_133 hby 9 rfl) rfl rfl (l' := #[vR t, vI 0, vI nn, vI nn, vR b12]) rfl ?_
    refine sA X12.here hx (j65_133 hby 10 rfl) ?_
    refine sI X12.here hx (j65_133 hby 11 rfl) ?_
    refine sB X12.here hx (j65_133 hby 12 rfl) ?_
    refine sC X12.here hx (j65_133 hby 13 rfl) ?_
    refine sA X12.here hx (j65_133 hby 14 rfl) ?_
    refine X12.arraylength hx (by rw [e12]; exact Ar13.1) (State.isArrayOf_alike hZ.alike Ar13.2.1) (g := (mkF m 20 #[vR t, vI 0, vI nn, vI nn, vR b12] [(.ref t), (.int 0), (.ref b12), (.int 0), (.ref t)])) rfl rfl (j65_133 hby 15 rfl) _ ?_
    rw [len_of S13 M13]
    refine sI X12.here hx (j65_133 hby 16 rfl) ?_
    refine XS.isub X12.here hx rfl (j65_133 hby 17 rfl) rfl ?_
    refine sI X12.here hx (j65_133 hby 18 rfl) ?_
    refine st14 _ ?_
    refine st16 _ ?_
    refine sB X16.here hx (j65_133 hby 21 rfl) ?_
    exact retR X16 hx hrt rfl rfl rfl (j65_133 hby 22 rfl) hr
def own_Qcor1 (Z : State) (t : Addr) (kt : ClassId) (vs us : List Value) (nn : Int32) (un : Nat) (h0 : Heap) (n0 : Nat) (v : Option Value) (h : Heap) (L : List Loc) : Prop := ∃ (u : Addr) (ku : ClassId), v = some (.ref u) ∧ Fr n0 L ∧ Ext h0 h ∧ Arv Z h u ku .byte nn us (.int 0) ∧ h0.size ≤ u
theorem own_cor1 (hw : own_HW a0 Z) {t : Addr} {kt : ClassId} {vs : List Value} (us : List Value) (nn : Int32) (un : Nat) (Z0 : n0 ≤ h0.size) (A_t : Arv Z h0 t kt .byte (32 : Int32) vs (.int 0)) (hus : us = (List.range nn.toNatClampNeg).map fun i => vs.getD ((0 : Int32).toNatClampNeg + i) (.int 0)) (hun : nn.toNatClampNeg = un) (hn0 : ¬ nn < 0) (n1 : nn < (32 : Int32)) (n2 : nn.toNatClampNeg ≤ 20) (n3 : ¬ nn = (32 : Int32)) (n4 : (0 : Int32).toNatClampNeg + nn.toNatClampNeg ≤ (32 : Int32).toNatClampNeg) (n5 : (nn - (0 : Int32)) = nn) : own_M l Z h0 y_53 jdk_65_method_132_code 3 (some (.array .byte)) (rm 2 1 20 34) #[(.ref t), (.int 0), (.int nn)] (own_Qcor1 Z t kt vs us nn un h0 n0) := by
  refine own_go #[vR t, vI 0, vI nn] (plainFor_of_name own_pn7) (fun m => rfl) fun p e s m below meth c s₁ hx hby hz hZ hown hnm hrt X0 e0 => ?_
  obtain ⟨cl10, Ar10, q10, S10, M10, H10, G10⟩ := id A_t
  obtain ⟨_, T11, L11, X11, ⟨u_11, ku_11, rfl, Nq11, E11, Po11_0, Po11_1⟩, st11⟩ := own_cs 0 X0 hx hZ hown (ow hw 209 rfl) (ow hw 210 rfl) (ow hw 207 rfl) (ow hw 211 rfl) (own_crb1 hw us nn un Z0 A_t hus hun hn0 n1 n2 n3 n4 n5) e0 (g := (mkF m 13 #[vR t, vI 0, vI nn] [(.int nn), (.int 0), (.ref t)])) (rest := []) (lenOf own_pd27 rfl) (j65_132 hby 9 rfl) hz
  have Na12 := Fr.app (Fr.nil n0) Nq11
  refine ⟨_, _, _, _, some (.ref u_11), X11, (fun h => nomatch h), by decide, by decide, ?_, fun fs hr => ?_⟩
  · show own_Qcor1 Z t kt vs us nn un h0 n0 _ T11.heap _
    exact ⟨u_11, ku_11, rfl, Na12, E11, Po11_0, Po11_1⟩
  · refine sI X0.here hx (j65_132 hby 0 rfl) ?_
    refine XS.ifNo X0.here hx rfl (j65_132 hby 1 rfl) rfl ((if0 _ _).trans (teq rfl).2) ?_
    refine sI X0.here hx (j65_132 hby 2 rfl) ?_
    refine sA X0.here hx (j65_132 hby 3 rfl) ?_
    refine X0.arraylength hx (by rw [e0]; exact Ar10.1) (State.isArrayOf_alike hZ.alike Ar10.2.1) (g := (mkF m 6 #[vR t, vI 0, vI nn] [(.ref t), (.int nn)])) rfl rfl (j65_132 hby 4 rfl) _ ?_
    rw [len_of S10 M10]
    refine XS.icmpNo X0.here hx rfl (j65_132 hby 5 rfl) rfl (feq n3).1 ?_
    refine sA X0.here hx (j65_132 hby 6 rfl) ?_
    refine sI X0.here hx (j65_132 hby 7 rfl) ?_
    refine sI X0.here hx (j65_132 hby 8 rfl) ?_
    refine st11 _ ?_
    exact retR X11 hx hrt rfl rfl rfl (j65_132 hby 10 rfl) hr
def own_Qsv1 (Z : State) (x sb t : Addr) (kt : ClassId) (w2 : Int32) (vs us : List Value) (nn : Int32) (un : Nat) (cnt : Int32) (fm : Value) (h0 : Heap) (n0 : Nat) (v : Option Value) (h : Heap) (L : List Loc) : Prop := ∃ (u : Addr) (ku : ClassId), v = none ∧ Fr n0 L ∧ Keep h0 h [x] ∧ own_Sr Z h x u ku 1 nn us ∧ h0.size ≤ u
theorem own_sv1 (hw : own_HW a0 Z) {x sb t : Addr} {kt : ClassId} {w2 : Int32} {vs : List Value} {cnt : Int32} {fm : Value} (us : List Value) (nn : Int32) (un : Nat) (Z0 : n0 ≤ h0.size) (E_x : Exa Z h0 x "java/lang/String") (F_x_value : Fld Z h0 x "java/lang/String" "value" "[B" .null) (F_x_coder : Fld Z h0 x "java/lang/String" "coder" "B" (.int 0)) (g_x : n0 ≤ x) (n_sb_x : sb ≠ x) (n_t_x : t ≠ x) (B_sb : own_Bd Z h0 sb t kt 1 cnt 32 vs) (SS : own_ST Z h0 w2 fm) (hus : us = (List.range nn.toNatClampNeg).map fun i => vs.getD ((0 : Int32).toNatClampNeg + i) (.int 0)) (hun : nn.toNatClampNeg = un) (hn0 : ¬ nn < 0) (n1 : nn < (32 : Int32)) (n2 : nn.toNatClampNeg ≤ 20) (n3 : ¬ nn = (32 : Int32)) (n4 : (0 : Int32).toNatClampNeg + nn.toNatClampNeg ≤ (32 : Int32).toNatClampNeg) (n5 : (nn - (0 : Int32)) = nn) (hsh : (cnt <<< ((1 : Int32) &&& 31)) = nn) : own_M l Z h0 y_54 jdk_42_method_150_code 5 none (rm 3 1 20 49) #[(.ref x), (.ref sb), .null] (own_Qsv1 Z x sb t kt w2 vs us nn un cnt fm h0 n0) := by
  refine own_go #[vR x, vR sb, .val .null, vU, vU] (plainFor_of_name own_pn0) (fun m => rfl) fun p e s m below meth c s₁ hx hby hz hZ hown hnm hrt X0 e0 => ?_
  have P5 := SS.2.1
  obtain ⟨T10, X10, e10, st10⟩ := initO X0 hx hZ hown (ow hw 15 rfl) (ow hw 16 rfl) (ow hw 17 rfl) e0 (g := (mkF m 1 #[vR x, vR sb, .val .null, vU, vU] [(.ref x)])) rfl hz rfl (j42_150 hby 1 rfl) (by decide) (W := 0) (Nat.le_of_eq rfl) (by decide)
  obtain ⟨_, T11, L11, X11, ⟨rfl, Nq11, e11⟩, st11⟩ := own_cv 0 X10 hx hZ hown (ow hw 191 rfl) (ow hw 192 rfl) (ow hw 140 rfl) (ow hw 194 rfl) (ow hw 193 rfl) (ow hw 115 rfl) (ow hw 195 rfl) (own_gv hw  Z0 B_sb.2.1) e10 B_sb.1 (g := (mkF m 5 #[vR x, vR sb, .val .null, vU, vU] [(.ref sb)])) (rest := []) (lenOf own_pd28 rfl) (j42_150 hby 3 rfl) hz
  have Na12 := Fr.app (Fr.nil n0) Nq11
  obtain ⟨_, T13, L13, X13, ⟨rfl, Nq13, e13⟩, st13⟩ := own_cv 0 X11 hx hZ hown (ow hw 196 rfl) (ow hw 197 rfl) (ow hw 140 rfl) (ow hw 199 rfl) (ow hw 200 rfl) (ow hw 107 rfl) (ow hw 201 rfl) (own_sbl hw  Z0 B_sb.1 B_sb.2.2.2.1) e11 B_sb.1 (g := (mkF m 10 #[vR x, vR sb, .val .null, vR t, vU] [(.ref sb)])) (rest := []) (lenOf own_pd13 rfl) (j42_150 hby 6 rfl) hz
  have Na14 := Fr.app Na12 Nq13
  obtain ⟨_, T15, L15, X15, ⟨rfl, Nq15, e15⟩, st15⟩ := own_cv 0 X13 hx hZ hown (ow hw 204 rfl) (ow hw 172 rfl) (ow hw 140 rfl) (ow hw 174 rfl) (ow hw 173 rfl) (ow hw 115 rfl) (ow hw 175 rfl) (own_aisl1 hw  Z0 B_sb.2.2.1 SS) e13 B_sb.1 (g := (mkF m 16 #[vR x, vR sb, .val .null, vR t, vI cnt] [(.ref sb)])) (rest := []) (lenOf own_pd12 rfl) (j42_150 hby 9 rfl) hz
  have Na16 := Fr.app Na14 Nq15
  obtain ⟨T17, X17, e17, st17⟩ := getS2 X15 hx hZ hown (host := "") (Or.inl (ow hw 18 rfl)) Via.refl e15 SS.1 (g := (mkF m 41 #[vR x, vR sb, .val .null, vR t, vI cnt] [])) rfl (j42_150 hby 22 rfl)
  obtain ⟨T18, X18, e18, st18⟩ := getF X17 hx hZ hown (host := "") (Or.inl (ow hw 306 rfl)) Via.refl e17 B_sb.2.2.2.2.1 (g := (mkF m 48 #[vR x, vR sb, .val .null, vR t, vI cnt] [(.ref sb)])) rfl rfl (j42_150 hby 25 rfl)
  obtain ⟨T19, h19, X19, e19, W19, st19⟩ := putFN X18 hx hZ hown (ow hw 30 rfl) Via.refl e18 F_x_coder E_x (Or.inr ⟨(ow hw 31 rfl), rfl, hnm⟩) (ow hw 5 rfl) (ty := .byte) (v' := (.int 1)) (by decide) rfl rfl (g := (mkF m 81 #[vR x, vR sb, .val .null, vR t, vI cnt] [(.int 1), (.ref x)])) rfl rfl (j42_150 hby 29 rfl)
  have Ew19 := E_x.wr W19
  have Fo20 := F_x_value.other W19 (Or.inr (slot_ne (Or.inr (ow hw 33 rfl)) (Or.inr (ow hw 31 rfl)) (by decide) (t := (.array .byte)) (t' := .byte) (by decide) (by decide)))
  have Fw19 := F_x_coder.same W19
  have N19 := Fr.snoc X19 Na16 g_x
  have Cf21 := B_sb.2.2.2.2.2.other W19 n_t_x
  obtain ⟨_, T22, L22, X22, ⟨u_22, ku_22, rfl, Nq22, E22, Po22_0, Po22_1⟩, st22⟩ := own_cs 1 X19 hx hZ hown (ow hw 205 rfl) (ow hw 206 rfl) (ow hw 207 rfl) (ow hw 208 rfl) (own_cor1 hw us nn un (Nat.le_trans Z0 (Keep.of_wr W19).1) Cf21 hus hun hn0 n1 n2 n3 n4 n5) e19 (g := (mkF m 91 #[vR x, vR sb, .val .null, vR t, vI cnt] [(.int nn), (.int 0), (.ref t), (.ref x)])) (rest := [(.ref x)]) (lenOf own_pd27 rfl) (j42_150 hby 36 rfl) hz
  have Na23 := Fr.app N19 Nq22
  obtain ⟨T24, h24, X24, e24, W24, st24⟩ := putF X22 hx hZ hown (host := "") (Or.inl (ow hw 32 rfl)) Via.refl rfl (Fo20.ext E22) (Ew19.ext E22) (Or.inr ⟨(ow hw 33 rfl), rfl, hnm⟩) (ow hw 5 rfl) (ty := (.array .byte)) (by decide) rfl rfl (g := (mkF m 94 #[vR x, vR sb, .val .null, vR t, vI cnt] [(.ref u_22), (.ref x)])) rfl rfl (j42_150 hby 37 rfl)
  have Ew24 := (Ew19.ext E22).wr W24
  have Fw24 := (Fo20.ext E22).same W24
  have Fo25 := (Fw19.ext E22).other W24 (Or.inr (slot_ne (Or.inr (ow hw 31 rfl)) (Or.inr (ow hw 33 rfl)) (by decide) (t := .byte) (t' := (.array .byte)) (by decide) (by decide)))
  have N24 := Fr.snoc X24 Na23 g_x
  have Cf26 := Po22_0.other W24 (Ne.symm (Nat.ne_of_lt (Nat.lt_of_lt_of_le (E_x).lt (Nat.le_trans (Keep.of_wr W19).1 Po22_1))))
  refine ⟨_, _, _, _, none, X24, (fun _ => rfl), by decide, by decide, ?_, fun fs hr => ?_⟩
  · show own_Qsv1 Z x sb t kt w2 vs us nn un cnt fm h0 n0 _ T24.heap _
    rw [e24]
    exact ⟨u_22, ku_22, rfl, N24, ((((Keep.refl h0 [x]).wr W19 (Or.inl (List.mem_of_getElem? (i := 0) rfl))).ext E22).wr W24 (Or.inl (List.mem_of_getElem? (i := 0) rfl))), ⟨Ew24, Fw24, Fo25, Cf26⟩, (Nat.le_trans (Keep.of_wr W19).1 Po22_1)⟩
  · refine sA X0.here hx (j42_150 hby 0 rfl) ?_
    refine st10 _ ?_
    refine sA X10.here hx (j42_150 hby 2 rfl) ?_
    refine st11 _ ?_
    refine XS.astoreN X11.here hx rfl (j42_150 hby 4 rfl) rfl rfl (l' := #[vR x, vR sb, .val .null, vR t, vU]) rfl ?_
    refine sA X11.here hx (j42_150 hby 5 rfl) ?_
    refine st13 _ ?_
    refine XS.istore X13.here hx rfl (j42_150 hby 7 rfl) rfl (l' := #[vR x, vR sb, .val .null, vR t, vI cnt]) rfl ?_
    refine sA X13.here hx (j42_150 hby 8 rfl) ?_
    refine st15 _ ?_
    refine XS.ifYes X15.here hx rfl (pc0 := 19) (pc' := 41) rfl (j42_150 hby 10 rfl) rfl ((if0 _ _).trans (teq rfl).1) (by decide) (by decide) ?_
    refine st17 _ ?_
    refine XS.ifNo X17.here hx rfl (j42_150 hby 23 rfl) rfl ((if0 _ _).trans (feq P5).1) ?_
    refine sA X17.here hx (j42_150 hby 24 rfl) ?_
    refine st18 _ ?_
    refine XS.ifYes X18.here hx rfl (pc0 := 51) (pc' := 79) rfl (j42_150 hby 26 rfl) rfl ((if0 _ _).trans (teq rfl).1) (by decide) (by decide) ?_
    refine sA X18.here hx (j42_150 hby 27 rfl) ?_
    refine sC X18.here hx (j42_150 hby 28 rfl) ?_
    refine st19 _ ?_
    refine sA X19.here hx (j42_150 hby 30 rfl) ?_
    refine sA X19.here hx (j42_150 hby 31 rfl) ?_
    refine sC X19.here hx (j42_150 hby 32 rfl) ?_
    refine sJ X19.here hx (j42_150 hby 33 rfl) ?_
    refine sC X19.here hx (j42_150 hby 34 rfl) ?_
    refine XS.ishl X19.here hx rfl (j42_150 hby 35 rfl) rfl ?_
    show Steps p.tables e below (T19.setTop (mkF m 91 #[vR x, vR sb, .val .null, vR t, vI cnt] [(.int (cnt <<< ((1 : Int32) &&& 31))), (.int 0), (.ref t), (.ref x)])) _
    rw [hsh]
    refine st22 _ ?_
    refine st24 _ ?_
    exact X24.returnOut hx hrt (j42_150 hby 21 rfl) hr
def own_Qs11 (Z : State) (x sb t : Addr) (kt : ClassId) (w2 : Int32) (vs us : List Value) (nn : Int32) (un : Nat) (cnt : Int32) (fm : Value) (h0 : Heap) (n0 : Nat) (v : Option Value) (h : Heap) (L : List Loc) : Prop := ∃ (u : Addr) (ku : ClassId), v = none ∧ Fr n0 L ∧ Keep h0 h [x] ∧ own_Sr Z h x u ku 1 nn us ∧ h0.size ≤ u
theorem own_s11 (hw : own_HW a0 Z) {x sb t : Addr} {kt : ClassId} {w2 : Int32} {vs : List Value} {cnt : Int32} {fm : Value} (us : List Value) (nn : Int32) (un : Nat) (Z0 : n0 ≤ h0.size) (E_x : Exa Z h0 x "java/lang/String") (F_x_value : Fld Z h0 x "java/lang/String" "value" "[B" .null) (F_x_coder : Fld Z h0 x "java/lang/String" "coder" "B" (.int 0)) (g_x : n0 ≤ x) (n_sb_x : sb ≠ x) (n_t_x : t ≠ x) (B_sb : own_Bd Z h0 sb t kt 1 cnt 32 vs) (SS : own_ST Z h0 w2 fm) (hus : us = (List.range nn.toNatClampNeg).map fun i => vs.getD ((0 : Int32).toNatClampNeg + i) (.int 0)) (hun : nn.toNatClampNeg = un) (hn0 : ¬ nn < 0) (n1 : nn < (32 : Int32)) (n2 : nn.toNatClampNeg ≤ 20) (n3 : ¬ nn = (32 : Int32)) (n4 : (0 : Int32).toNatClampNeg + nn.toNatClampNeg ≤ (32 : Int32).toNatClampNeg) (n5 : (nn - (0 : Int32)) = nn) (hsh : (cnt <<< ((1 : Int32) &&& 31)) = nn) : own_M l Z h0 y_55 jdk_42_method_53_code 2 none (rm 4 1 20 65) #[(.ref x), (.ref sb)] (own_Qs11 Z x sb t kt w2 vs us nn un cnt fm h0 n0) := by
  refine own_go #[vR x, vR sb] (plainFor_of_name own_pn0) (fun m => rfl) fun p e s m below meth c s₁ hx hby hz hZ hown hnm hrt X0 e0 => ?_
  obtain ⟨_, T10, L10, X10, ⟨u_10, ku_10, rfl, Nq10, K10, Po10_0, Po10_1⟩, st10⟩ := own_cp 0 X0 hx hZ hown (ow hw 188 rfl) (ow hw 189 rfl) (ow hw 6 rfl) (ow hw 190 rfl) (own_sv1 hw us nn un Z0 E_x F_x_value F_x_coder g_x n_sb_x n_t_x B_sb SS hus hun hn0 n1 n2 n3 n4 n5 hsh) e0 (g := (mkF m 3 #[vR x, vR sb] [.null, (.ref sb), (.ref x)])) (rest := []) (lenOf own_pd29 rfl) (j42_53 hby 3 rfl) hz
  have Na11 := Fr.app (Fr.nil n0) Nq10
  refine ⟨_, _, _, _, none, X10, (fun _ => rfl), by decide, by decide, ?_, fun fs hr => ?_⟩
  · show own_Qs11 Z x sb t kt w2 vs us nn un cnt fm h0 n0 _ T10.heap _
    exact ⟨u_10, ku_10, rfl, Na11, ((Keep.refl h0 [x]).trans K10 ((allS (Or.inl (List.mem_of_getElem? (i := 0) rfl)) all0))), Po10_0, Po10_1⟩
  · refine sA X0.here hx (j42_53 hby 0 rfl) ?_
    refine sA X0.here hx (j42_53 hby 1 rfl) ?_
    refine XS.aconstNull X0.here hx rfl (j42_53 hby 2 rfl) ?_
    refine st10 _ ?_
    exact X10.returnOut hx hrt (j42_53 hby 4 rfl) hr
def own_Qts1 (Z : State) (sb t : Addr) (kt : ClassId) (w2 : Int32) (vs us : List Value) (nn : Int32) (un : Nat) (cnt : Int32) (fm : Value) (h0 : Heap) (n0 : Nat) (v : Option Value) (h : Heap) (L : List Loc) : Prop := ∃ (x : Addr) (u : Addr) (ku : ClassId), v = some (.ref x) ∧ Fr n0 L ∧ Ext h0 h ∧ own_Sr Z h x u ku 1 nn us
theorem own_ts1 (hw : own_HW a0 Z) {sb t : Addr} {kt : ClassId} {w2 : Int32} {vs : List Value} {cnt : Int32} {fm : Value} (us : List Value) (nn : Int32) (un : Nat) (Z0 : n0 ≤ h0.size) (B_sb : own_Bd Z h0 sb t kt 1 cnt 32 vs) (SS : own_ST Z h0 w2 fm) (hus : us = (List.range nn.toNatClampNeg).map fun i => vs.getD ((0 : Int32).toNatClampNeg + i) (.int 0)) (hun : nn.toNatClampNeg = un) (hn0 : ¬ nn < 0) (n1 : nn < (32 : Int32)) (n2 : nn.toNatClampNeg ≤ 20) (n3 : ¬ nn = (32 : Int32)) (n4 : (0 : Int32).toNatClampNeg + nn.toNatClampNeg ≤ (32 : Int32).toNatClampNeg) (n5 : (nn - (0 : Int32)) = nn) (hsh : (cnt <<< ((1 : Int32) &&& 31)) = nn) : own_M l Z h0 y_56 jdk_67_method_42_code 1 (some (.object "java/lang/String")) (rm 5 2 24 79) #[(.ref sb)] (own_Qts1 Z sb t kt w2 vs us nn un cnt fm h0 n0) := by
  refine own_go #[vR sb] (plainFor_of_name own_pn6) (fun m => rfl) fun p e s m below meth c s₁ hx hby hz hZ hown hnm hrt X0 e0 => ?_
  obtain ⟨T10, h10, X10, e10, E10, A10, D10, -, st10⟩ := newO X0 hx hZ hown (ow hw 184 rfl) (ow hw 5 rfl) (ow hw 6 rfl) e0 (g := (mkF m 0 #[vR sb] [])) rfl (j67_42 hby 0 rfl) (by decide) (by decide)
  obtain ⟨b10, g10⟩ : ∃ z, z = h0.size := ⟨_, rfl⟩
  rw [← g10] at A10 D10 st10
  have Fcoder_10 : Fld Z h10 b10 "java/lang/String" "coder" "B" (.int 0) := D10 (Or.inr (ow hw 31 rfl)) (ty := .byte) (by decide)
  have Fvalue_10 : Fld Z h10 b10 "java/lang/String" "value" "[B" .null := D10 (Or.inr (ow hw 33 rfl)) (ty := (.array .byte)) (by decide)
  obtain ⟨_, T11, L11, X11, ⟨u_11, ku_11, rfl, Nq11, K11, Po11_0, Po11_1⟩, st11⟩ := own_cp 1 X10 hx hZ hown (ow hw 185 rfl) (ow hw 186 rfl) (ow hw 6 rfl) (ow hw 187 rfl) (own_s11 hw us nn un (Nat.le_trans Z0 E10.1) A10 Fvalue_10 Fcoder_10 (Nat.le_trans Z0 (Nat.le_of_eq g10.symm)) (Nat.ne_of_lt (Nat.lt_of_lt_of_le (B_sb.1).lt (Nat.le_trans (Nat.le_refl _) (Nat.le_of_eq g10.symm)))) (Nat.ne_of_lt (Nat.lt_of_lt_of_le (B_sb.2.2.2.2.2).lt (Nat.le_trans (Nat.le_refl _) (Nat.le_of_eq g10.symm)))) (B_sb.ext E10) (SS.ext E10) hus hun hn0 n1 n2 n3 n4 n5 hsh) e10 (g := (mkF m 5 #[vR sb] [(.ref sb), (.ref b10), (.ref b10)])) (rest := [(.ref b10)]) (lenOf own_pd30 rfl) (j67_42 hby 3 rfl) hz
  have Na12 := Fr.app (Fr.nil n0) Nq11
  have Xt13 : Ext h0 T11.heap := (own_xk E10 K11 ((allS (Nat.le_trans (own_xr h0).1 (Nat.le_of_eq g10.symm)) all0)))
  refine ⟨_, _, _, _, some (.ref b10), X11, (fun h => nomatch h), by decide, by decide, ?_, fun fs hr => ?_⟩
  · show own_Qts1 Z sb t kt w2 vs us nn un cnt fm h0 n0 _ T11.heap _
    exact ⟨b10, u_11, ku_11, rfl, Na12, Xt13, Po11_0⟩
  · refine st10 _ ?_
    refine XS.dup X10.here hx rfl (j67_42 hby 1 rfl) rfl rfl ?_
    refine sA X10.here hx (j67_42 hby 2 rfl) ?_
    refine st11 _ ?_
    exact retR X11 hx hrt rfl rfl rfl (j67_42 hby 4 rfl) hr
def own_Qtob1 (Z : State) (bc : Addr) (kC : ClassId) (dC : Value) (c0 w2 : Int32) (fm : Value) (h0 : Heap) (n0 : Nat) (v : Option Value) (h : Heap) (L : List Loc) : Prop := ∃ (t : Addr) (kt : ClassId), v = some (.ref t) ∧ Fr n0 L ∧ Ext h0 h ∧ Arv Z h t kt .byte (2 : Int32) [(oL c0), (oH c0)] (.int 0) ∧ h0.size ≤ t
theorem own_tob1 (hw : own_HW a0 Z) {bc : Addr} {kC : ClassId} {dC : Value} {c0 w2 : Int32} {fm : Value}  (Z0 : n0 ≤ h0.size) (A_bc : Arv Z h0 bc kC .char (1 : Int32) [(.int c0)] dC) (SS : own_ST Z h0 w2 fm) : own_M l Z h0 y_57 jdk_52_method_14_code 5 (some (.array .byte)) (rm 2 1 2 24) #[(.ref bc), (.int 0), (.int 1)] (own_Qtob1 Z bc kC dC c0 w2 fm h0 n0) := by
  refine own_go #[vR bc, vI 0, vI 1, vU, vU] (plainFor_of_name own_pn4) (fun m => rfl) fun p e s m below meth c s₁ hx hby hz hZ hown hnm hrt X0 e0 => ?_
  obtain ⟨_, T10, L10, X10, ⟨t_10, kt_10, rfl, Nq10, E10, Po10_0, Po10_1⟩, st10⟩ := own_cs 0 X0 hx hZ hown (ow hw 237 rfl) (ow hw 238 rfl) (ow hw 21 rfl) (ow hw 239 rfl) (own_nbf1 hw  Z0 ) e0 (g := (mkF m 1 #[vR bc, vI 0, vI 1, vU, vU] [(.int 1)])) (rest := []) (lenOf own_pd19 rfl) (j52_14 hby 1 rfl) hz
  have Na11 := Fr.app (Fr.nil n0) Nq10
  obtain ⟨cl12, Ar12, q12, S12, M12, H12, G12⟩ := id (A_bc.ext E10)
  have hin12 : ¬ ((0 : Int32) < 0 ∨ cl12.slots.size ≤ ((0 : Int32)).toNatClampNeg) := inb_of S12 ⟨by decide, by decide⟩
  obtain ⟨_, T13, L13, X13, ⟨rfl, Nq13, K13, Po13_0⟩, st13⟩ := own_cs 0 X10 hx hZ hown (ow hw 244 rfl) (ow hw 245 rfl) (ow hw 21 rfl) (ow hw 246 rfl) (own_pc hw (0 : Int32) c0 [(oL c0), (oH c0)] (0 : Int32) (1 : Int32) 0 1 (Nat.le_trans Z0 E10.1) Po10_0 (Nat.le_trans Z0 Po10_1) (SS.ext E10) (by decide) (by decide) (by decide) (by decide) rfl rfl (Nat.le_of_ble_eq_true rfl) (Nat.le_of_ble_eq_true rfl) rfl) rfl (g := (mkF m 20 #[vR bc, vI 0, vI 1, vR t_10, vI 0] [(.int c0), (.int 0), (.ref t_10)])) (rest := []) (lenOf own_pd17 rfl) (j52_14 hby 13 rfl) hz
  have Na14 := Fr.app Na11 Nq13
  have Xt15 : Ext h0 T13.heap := (own_xk E10 K13 ((allS Po10_1 all0)))
  refine ⟨_, _, _, _, some (.ref t_10), X13, (fun h => nomatch h), by decide, by decide, ?_, fun fs hr => ?_⟩
  · show own_Qtob1 Z bc kC dC c0 w2 fm h0 n0 _ T13.heap _
    exact ⟨t_10, kt_10, rfl, Na14, Xt15, Po13_0, Po10_1⟩
  · refine sI X0.here hx (j52_14 hby 0 rfl) ?_
    refine st10 _ ?_
    refine XS.astoreN X10.here hx rfl (j52_14 hby 2 rfl) rfl rfl (l' := #[vR bc, vI 0, vI 1, vR t_10, vU]) rfl ?_
    refine sC X10.here hx (j52_14 hby 3 rfl) ?_
    refine XS.istore X10.here hx rfl (j52_14 hby 4 rfl) rfl (l' := #[vR bc, vI 0, vI 1, vR t_10, vI 0]) rfl ?_
    refine sJ X10.here hx (j52_14 hby 5 rfl) ?_
    refine sI X10.here hx (j52_14 hby 6 rfl) ?_
    refine XS.icmpNo X10.here hx rfl (j52_14 hby 7 rfl) rfl (tlt (by decide)).2.1 ?_
    refine sA X10.here hx (j52_14 hby 8 rfl) ?_
    refine sJ X10.here hx (j52_14 hby 9 rfl) ?_
    refine sA X10.here hx (j52_14 hby 10 rfl) ?_
    refine sI X10.here hx (j52_14 hby 11 rfl) ?_
    refine X10.caload hx (j := (0 : Int32)) (v := (.int c0)) Ar12.1 (State.isArrayOf_alike hZ.alike Ar12.2.1) Ar12.2.2 hin12 (Has.at H12 hin12 rfl) (g := (mkF m 19 #[vR bc, vI 0, vI 1, vR t_10, vI 0] [(.int 0), (.ref bc), (.int 0), (.ref t_10)])) rfl rfl (j52_14 hby 12 rfl) _ ?_
    refine st13 _ ?_
    refine XS.iinc X13.here hx rfl (j52_14 hby 14 rfl) rfl (l' := #[vR bc, vI 1, vI 1, vR t_10, vI 0]) rfl ?_
    refine XS.iinc X13.here hx rfl (j52_14 hby 15 rfl) rfl (l' := #[vR bc, vI 1, vI 1, vR t_10, vI 1]) rfl ?_
    refine XS.goto X13.here hx rfl (pc0 := 29) (pc' := 8) rfl (j52_14 hby 16 rfl) (by decide) (by decide) ?_
    refine sJ X13.here hx (j52_14 hby 5 rfl) ?_
    refine sI X13.here hx (j52_14 hby 6 rfl) ?_
    refine XS.icmpYes X13.here hx rfl (pc0 := 11) (pc' := 32) rfl (j52_14 hby 7 rfl) rfl (flt (by decide)).2.1 (by decide) (by decide) ?_
    refine sA X13.here hx (j52_14 hby 17 rfl) ?_
    exact retR X13 hx hrt rfl rfl rfl (j52_14 hby 18 rfl) hr
def own_Qcfa1 (Z : State) (t : Addr) (kt : ClassId) (vs : List Value) (h0 : Heap) (n0 : Nat) (v : Option Value) (h : Heap) (L : List Loc) : Prop := v = some (.int 1) ∧ Fr n0 L ∧ h = h0
theorem own_cfa1 (hw : own_HW a0 Z) {t : Addr} {kt : ClassId} {vs : List Value}  (Z0 : n0 ≤ h0.size) (A_t : Arv Z h0 t kt .byte (2 : Int32) vs (.int 0)) : own_M l Z h0 y_58 jdk_52_method_15_code 2 (some .byte) (rm 0 0 0 0) #[(.ref t), (.int 1)] (own_Qcfa1 Z t kt vs h0 n0) := by
  refine own_go #[vR t, vI 1] (plainFor_of_name own_pn4) (fun m => rfl) fun p e s m below meth c s₁ hx hby hz hZ hown hnm hrt X0 e0 => ?_
  obtain ⟨cl10, Ar10, q10, S10, M10, H10, G10⟩ := id A_t
  refine ⟨_, _, _, _, some (.int 1), X0, (fun h => nomatch h), by decide, by decide, ?_, fun fs hr => ?_⟩
  · show own_Qcfa1 Z t kt vs h0 n0 _ s₁.heap _
    rw [e0]
    exact ⟨rfl, (Fr.nil n0), rfl⟩
  · refine sI X0.here hx (j52_15 hby 0 rfl) ?_
    refine sA X0.here hx (j52_15 hby 1 rfl) ?_
    refine X0.arraylength hx (by rw [e0]; exact Ar10.1) (State.isArrayOf_alike hZ.alike Ar10.2.1) (g := (mkF m 2 #[vR t, vI 1] [(.ref t), (.int 1)])) rfl rfl (j52_15 hby 2 rfl) _ ?_
    rw [len_of S10 M10]
    refine XS.isub X0.here hx rfl (j52_15 hby 3 rfl) rfl ?_
    refine XS.bipush X0.here hx rfl (j52_15 hby 4 rfl) ?_
    refine XS.iushr X0.here hx rfl (j52_15 hby 5 rfl) rfl ?_
    refine XS.i2b X0.here hx rfl (j52_15 hby 6 rfl) rfl ?_
    show Steps p.tables e below (s₁.setTop (mkF m 8 #[vR t, vI 1] [(.int ((((-1 : Int32).toUInt32 >>> ((31 : Int32) &&& 31).toUInt32).toInt32).toInt8.toInt32))])) _
    rw [(by decide : ((((-1 : Int32).toUInt32 >>> ((31 : Int32) &&& 31).toUInt32).toInt32).toInt8.toInt32) = (1 : Int32))]
    exact retN X0 hx (t := .byte) hrt (by simp) (j52_15 hby 7 rfl) hr
def own_Qtob2 (Z : State) (bc : Addr) (kC : ClassId) (dC : Value) (c0 c1 w2 : Int32) (fm : Value) (h0 : Heap) (n0 : Nat) (v : Option Value) (h : Heap) (L : List Loc) : Prop := ∃ (t : Addr) (kt : ClassId), v = some (.ref t) ∧ Fr n0 L ∧ Ext h0 h ∧ Arv Z h t kt .byte (4 : Int32) [(oL c0), (oH c0), (oL c1), (oH c1)] (.int 0) ∧ h0.size ≤ t
theorem own_tob2 (hw : own_HW a0 Z) {bc : Addr} {kC : ClassId} {dC : Value} {c0 c1 w2 : Int32} {fm : Value}  (Z0 : n0 ≤ h0.size) (A_bc : Arv Z h0 bc kC .char (2 : Int32) [(.int c0), (.int c1)] dC) (SS : own_ST Z h0 w2 fm) : own_M l Z h0 y_57 jdk_52_method_14_code 5 (some (.array .byte)) (rm 2 1 4 24) #[(.ref bc), (.int 0), (.int 2)] (own_Qtob2 Z bc kC dC c0 c1 w2 fm h0 n0) := by
  refine own_go #[vR bc, vI 0, vI 2, vU, vU] (plainFor_of_name own_pn4) (fun m => rfl) fun p e s m below meth c s₁ hx hby hz hZ hown hnm hrt X0 e0 => ?_
  obtain ⟨_, T10, L10, X10, ⟨t_10, kt_10, rfl, Nq10, E10, Po10_0, Po10_1⟩, st10⟩ := own_cs 0 X0 hx hZ hown (ow hw 237 rfl) (ow hw 238 rfl) (ow hw 21 rfl) (ow hw 239 rfl) (own_nbf2 hw  Z0 ) e0 (g := (mkF m 1 #[vR bc, vI 0, vI 2, vU, vU] [(.int 2)])) (rest := []) (lenOf own_pd19 rfl) (j52_14 hby 1 rfl) hz
  have Na11 := Fr.app (Fr.nil n0) Nq10
  obtain ⟨cl12, Ar12, q12, S12, M12, H12, G12⟩ := id (A_bc.ext E10)
  have hin12 : ¬ ((0 : Int32) < 0 ∨ cl12.slots.size ≤ ((0 : Int32)).toNatClampNeg) := inb_of S12 ⟨by decide, by decide⟩
  obtain ⟨_, T13, L13, X13, ⟨rfl, Nq13, K13, Po13_0⟩, st13⟩ := own_cs 0 X10 hx hZ hown (ow hw 244 rfl) (ow hw 245 rfl) (ow hw 21 rfl) (ow hw 246 rfl) (own_pc hw (0 : Int32) c0 [(oL c0), (oH c0), (.int 0), (.int 0)] (0 : Int32) (1 : Int32) 0 1 (Nat.le_trans Z0 E10.1) Po10_0 (Nat.le_trans Z0 Po10_1) (SS.ext E10) (by decide) (by decide) (by decide) (by decide) rfl rfl (Nat.le_of_ble_eq_true rfl) (Nat.le_of_ble_eq_true rfl) rfl) rfl (g := (mkF m 20 #[vR bc, vI 0, vI 2, vR t_10, vI 0] [(.int c0), (.int 0), (.ref t_10)])) (rest := []) (lenOf own_pd17 rfl) (j52_14 hby 13 rfl) hz
  have Na14 := Fr.app Na11 Nq13
  have Xt15 : Ext h0 T13.heap := (own_xk E10 K13 ((allS Po10_1 all0)))
  obtain ⟨cl16, Ar16, q16, S16, M16, H16, G16⟩ := id (A_bc.ext Xt15)
  have hin16 : ¬ ((1 : Int32) < 0 ∨ cl16.slots.size ≤ ((1 : Int32)).toNatClampNeg) := inb_of S16 ⟨by decide, by decide⟩
  have Gr17 : h0.size ≤ T13.heap.size := Nat.le_trans E10.1 K13.1
  obtain ⟨_, T18, L18, X18, ⟨rfl, Nq18, K18, Po18_0⟩, st18⟩ := own_cs 0 X13 hx hZ hown (ow hw 244 rfl) (ow hw 245 rfl) (ow hw 21 rfl) (ow hw 246 rfl) (own_pc hw (1 : Int32) c1 [(oL c0), (oH c0), (oL c1), (oH c1)] (2 : Int32) (3 : Int32) 2 3 (Nat.le_trans Z0 Gr17) Po13_0 (Nat.le_trans Z0 Po10_1) (SS.ext Xt15) (by decide) (by decide) (by decide) (by decide) rfl rfl (Nat.le_of_ble_eq_true rfl) (Nat.le_of_ble_eq_true rfl) rfl) rfl (g := (mkF m 20 #[vR bc, vI 1, vI 2, vR t_10, vI 1] [(.int c1), (.int 1), (.ref t_10)])) (rest := []) (lenOf own_pd17 rfl) (j52_14 hby 13 rfl) hz
  have Na19 := Fr.app Na14 Nq18
  have Xt20 : Ext h0 T18.heap := (own_xk Xt15 K18 ((allS Po10_1 all0)))
  refine ⟨_, _, _, _, some (.ref t_10), X18, (fun h => nomatch h), by decide, by decide, ?_, fun fs hr => ?_⟩
  · show own_Qtob2 Z bc kC dC c0 c1 w2 fm h0 n0 _ T18.heap _
    exact ⟨t_10, kt_10, rfl, Na19, Xt20, Po18_0, Po10_1⟩
  · refine sI X0.here hx (j52_14 hby 0 rfl) ?_
    refine st10 _ ?_
    refine XS.astoreN X10.here hx rfl (j52_14 hby 2 rfl) rfl rfl (l' := #[vR bc, vI 0, vI 2, vR t_10, vU]) rfl ?_
    refine sC X10.here hx (j52_14 hby 3 rfl) ?_
    refine XS.istore X10.here hx rfl (j52_14 hby 4 rfl) rfl (l' := #[vR bc, vI 0, vI 2, vR t_10, vI 0]) rfl ?_
    refine sJ X10.here hx (j52_14 hby 5 rfl) ?_
    refine sI X10.here hx (j52_14 hby 6 rfl) ?_
    refine XS.icmpNo X10.here hx rfl (j52_14 hby 7 rfl) rfl (tlt (by decide)).2.1 ?_
    refine sA X10.here hx (j52_14 hby 8 rfl) ?_
    refine sJ X10.here hx (j52_14 hby 9 rfl) ?_
    refine sA X10.here hx (j52_14 hby 10 rfl) ?_
    refine sI X10.here hx (j52_14 hby 11 rfl) ?_
    refine X10.caload hx (j := (0 : Int32)) (v := (.int c0)) Ar12.1 (State.isArrayOf_alike hZ.alike Ar12.2.1) Ar12.2.2 hin12 (Has.at H12 hin12 rfl) (g := (mkF m 19 #[vR bc, vI 0, vI 2, vR t_10, vI 0] [(.int 0), (.ref bc), (.int 0), (.ref t_10)])) rfl rfl (j52_14 hby 12 rfl) _ ?_
    refine st13 _ ?_
    refine XS.iinc X13.here hx rfl (j52_14 hby 14 rfl) rfl (l' := #[vR bc, vI 1, vI 2, vR t_10, vI 0]) rfl ?_
    refine XS.iinc X13.here hx rfl (j52_14 hby 15 rfl) rfl (l' := #[vR bc, vI 1, vI 2, vR t_10, vI 1]) rfl ?_
    refine XS.goto X13.here hx rfl (pc0 := 29) (pc' := 8) rfl (j52_14 hby 16 rfl) (by decide) (by decide) ?_
    refine sJ X13.here hx (j52_14 hby 5 rfl) ?_
    refine sI X13.here hx (j52_14 hby 6 rfl) ?_
    refine XS.icmpNo X13.here hx rfl (j52_14 hby 7 rfl) rfl (tlt (by decide)).2.1 ?_
    refine sA X13.here hx (j52_14 hby 8 rfl) ?_
    refine sJ X13.here hx (j52_14 hby 9 rfl) ?_
    refine sA X13.here hx (j52_14 hby 10 rfl) ?_
    refine sI X13.here hx (j52_14 hby 11 rfl) ?_
    refine X13.caload hx (j := (1 : Int32)) (v := (.int c1)) Ar16.1 (State.isArrayOf_alike hZ.alike Ar16.2.1) Ar16.2.2 hin16 (Has.at H16 hin16 rfl) (g := (mkF m 19 #[vR bc, vI 1, vI 2, vR t_10, vI 1] [(.int 1), (.ref bc), (.int 1), (.ref t_10)])) rfl rfl (j52_14 hby 12 rfl) _ ?_
    refine st18 _ ?_
    refine XS.iinc X18.here hx rfl (j52_14 hby 14 rfl) rfl (l' := #[vR bc, vI 2, vI 2, vR t_10, vI 1]) rfl ?_
    refine XS.iinc X18.here hx rfl (j52_14 hby 15 rfl) rfl (l' := #[vR bc, vI 2, vI 2, vR t_10, vI 2]) rfl ?_
    refine XS.goto X18.here hx rfl (pc0 := 29) (pc' := 8) rfl (j52_14 hby 16 rfl) (by decide) (by decide) ?_
    refine sJ X18.here hx (j52_14 hby 5 rfl) ?_
    refine sI X18.here hx (j52_14 hby 6 rfl) ?_
    refine XS.icmpYes X18.here hx rfl (pc0 := 11) (pc' := 32) rfl (j52_14 hby 7 rfl) rfl (flt (by decide)).2.1 (by decide) (by decide) ?_
    refine sA X18.here hx (j52_14 hby 17 rfl) ?_
    exact retR X18 hx hrt rfl rfl rfl (j52_14 hby 18 rfl) hr
def own_Qcfa2 (Z : State) (t : Addr) (kt : ClassId) (vs : List Value) (h0 : Heap) (n0 : Nat) (v : Option Value) (h : Heap) (L : List Loc) : Prop := v = some (.int 1) ∧ Fr n0 L ∧ h = h0
theorem own_cfa2 (hw : own_HW a0 Z) {t : Addr} {kt : ClassId} {vs : List Value}  (Z0 : n0 ≤ h0.size) (A_t : Arv Z h0 t kt .byte (4 : Int32) vs (.int 0)) : own_M l Z h0 y_58 jdk_52_method_15_code 2 (some .byte) (rm 0 0 0 0) #[(.ref t), (.int 2)] (own_Qcfa2 Z t kt vs h0 n0) := by
  refine own_go #[vR t, vI 2] (plainFor_of_name own_pn4) (fun m => rfl) fun p e s m below meth c s₁ hx hby hz hZ hown hnm hrt X0 e0 => ?_
  obtain ⟨cl10, Ar10, q10, S10, M10, H10, G10⟩ := id A_t
  refine ⟨_, _, _, _, some (.int 1), X0, (fun h => nomatch h), by decide, by decide, ?_, fun fs hr => ?_⟩
  · show own_Qcfa2 Z t kt vs h0 n0 _ s₁.heap _
    rw [e0]
    exact ⟨rfl, (Fr.nil n0), rfl⟩
  · refine sI X0.here hx (j52_15 hby 0 rfl) ?_
    refine sA X0.here hx (j52_15 hby 1 rfl) ?_
    refine X0.arraylength hx (by rw [e0]; exact Ar10.1) (State.isArrayOf_alike hZ.alike Ar10.2.1) (g := (mkF m 2 #[vR t, vI 2] [(.ref t), (.int 2)])) rfl rfl (j52_15 hby 2 rfl) _ ?_
    rw [len_of S10 M10]
    refine XS.isub X0.here hx rfl (j52_15 hby 3 rfl) rfl ?_
    refine XS.bipush X0.here hx rfl (j52_15 hby 4 rfl) ?_
    refine XS.iushr X0.here hx rfl (j52_15 hby 5 rfl) rfl ?_
    refine XS.i2b X0.here hx rfl (j52_15 hby 6 rfl) rfl ?_
    show Steps p.tables e below (s₁.setTop (mkF m 8 #[vR t, vI 2] [(.int ((((-2 : Int32).toUInt32 >>> ((31 : Int32) &&& 31).toUInt32).toInt32).toInt8.toInt32))])) _
    rw [(by decide : ((((-2 : Int32).toUInt32 >>> ((31 : Int32) &&& 31).toUInt32).toInt32).toInt8.toInt32) = (1 : Int32))]
    exact retN X0 hx (t := .byte) hrt (by simp) (j52_15 hby 7 rfl) hr
def own_QcA1 (Z : State) (bc : Addr) (kC : ClassId) (dC : Value) (c0 : Int32) (t : Addr) (kt : ClassId) (h0 : Heap) (n0 : Nat) (v : Option Value) (h : Heap) (L : List Loc) : Prop := v = some (.int 0) ∧ Fr n0 L ∧ Keep h0 h [t]
theorem own_cA1 (hw : own_HW a0 Z) {bc : Addr} {kC : ClassId} {dC : Value} {c0 : Int32} {t : Addr} {kt : ClassId}  (Z0 : n0 ≤ h0.size) (A_bc : Arv Z h0 bc kC .char (1 : Int32) [(.int c0)] dC) (A_t : Arv Z h0 t kt .byte (1 : Int32) [(.int 0)] (.int 0)) (g_t : n0 ≤ t) (n_bc_t : bc ≠ t) (ca0 : (255 : Int32) < c0) : own_M l Z h0 y_59 jdk_52_method_21_code 7 (some .int) (rm 0 0 0 0) #[(.ref bc), (.int 0), (.ref t), (.int 0), (.int 1)] (own_QcA1 Z bc kC dC c0 t kt h0 n0) := by
  refine own_go #[vR bc, vI 0, vR t, vI 0, vI 1, vU, vU] (plainFor_of_name own_pn4) (fun m => rfl) fun p e s m below meth c s₁ hx hby hz hZ hown hnm hrt X0 e0 => ?_
  obtain ⟨cl10, Ar10, q10, S10, M10, H10, G10⟩ := id A_bc
  have hin10 : ¬ ((0 : Int32) < 0 ∨ cl10.slots.size ≤ ((0 : Int32)).toNatClampNeg) := inb_of S10 ⟨by decide, by decide⟩
  refine ⟨_, _, _, _, some (.int 0), X0, (fun h => nomatch h), by decide, by decide, ?_, fun fs hr => ?_⟩
  · show own_QcA1 Z bc kC dC c0 t kt h0 n0 _ s₁.heap _
    rw [e0]
    exact ⟨rfl, (Fr.nil n0), (Keep.refl h0 [t])⟩
  · refine sC X0.here hx (j52_21 hby 0 rfl) ?_
    refine XS.istore X0.here hx rfl (j52_21 hby 1 rfl) rfl (l' := #[vR bc, vI 0, vR t, vI 0, vI 1, vI 0, vU]) rfl ?_
    refine sJ X0.here hx (j52_21 hby 2 rfl) ?_
    refine sJ X0.here hx (j52_21 hby 3 rfl) ?_
    refine XS.icmpNo X0.here hx rfl (j52_21 hby 4 rfl) rfl (tlt (by decide)).2.1 ?_
    refine sA X0.here hx (j52_21 hby 5 rfl) ?_
    refine sI X0.here hx (j52_21 hby 6 rfl) ?_
    refine X0.caload hx (j := (0 : Int32)) (v := (.int c0)) (by rw [e0]; exact Ar10.1) (State.isArrayOf_alike hZ.alike Ar10.2.1) Ar10.2.2 hin10 (Has.at H10 hin10 rfl) (g := (mkF m 12 #[vR bc, vI 0, vR t, vI 0, vI 1, vI 0, vU] [(.int 0), (.ref bc)])) rfl rfl (j52_21 hby 7 rfl) _ ?_
    refine XS.istore X0.here hx rfl (j52_21 hby 8 rfl) rfl (l' := #[vR bc, vI 0, vR t, vI 0, vI 1, vI 0, vI c0]) rfl ?_
    refine sJ X0.here hx (j52_21 hby 9 rfl) ?_
    refine XS.sipush X0.here hx rfl (j52_21 hby 10 rfl) ?_
    refine XS.icmpNo X0.here hx rfl (j52_21 hby 11 rfl) rfl (tlt ca0).2.2.2 ?_
    refine sJ X0.here hx (j52_21 hby 12 rfl) ?_
    exact retI X0 hx hrt (j52_21 hby 13 rfl) hr
def own_QcB1 (Z : State) (bc : Addr) (kC : ClassId) (dC : Value) (c0 w2 : Int32) (fm : Value) (h0 : Heap) (n0 : Nat) (v : Option Value) (h : Heap) (L : List Loc) : Prop := ∃ (t : Addr) (kt : ClassId), v = some (.ref t) ∧ Fr n0 L ∧ Ext h0 h ∧ Arv Z h t kt .byte (2 : Int32) [(oL c0), (oH c0)] (.int 0) ∧ h0.size ≤ t
theorem own_cB1 (hw : own_HW a0 Z) {bc : Addr} {kC : ClassId} {dC : Value} {c0 w2 : Int32} {fm : Value}  (Z0 : n0 ≤ h0.size) (A_bc : Arv Z h0 bc kC .char (1 : Int32) [(.int c0)] dC) (SS : own_ST Z h0 w2 fm) (ca0 : (255 : Int32) < c0) (zz : nar .char (((((own_lo c0) &&& (255 : Int32)) <<< ((0 : Int32) &&& 31)) ||| (((own_hi c0) &&& (255 : Int32)) <<< ((8 : Int32) &&& 31))).toUInt32.toUInt16.toUInt32.toInt32) = c0) : own_M l Z h0 y_60 jdk_52_method_16_code 6 (some (.array .byte)) (rm 3 2 3 40) #[(.ref bc), (.int 0), (.int 1)] (own_QcB1 Z bc kC dC c0 w2 fm h0 n0) := by
  refine own_go #[vR bc, vI 0, vI 1, vU, vU, vU] (plainFor_of_name own_pn4) (fun m => rfl) fun p e s m below meth c s₁ hx hby hz hZ hown hnm hrt X0 e0 => ?_
  obtain ⟨T10, h10, k10, X10, e10, E10, A10, st10⟩ := newP X0 hx hZ (ow hw 23 rfl) e0 (g := (mkF m 1 #[vR bc, vI 0, vI 1, vU, vU, vU] [(.int 1)])) rfl (j52_16 hby 1 rfl) rfl (by decide) (cap := 1) (by decide) (by decide) (by decide) (by decide)
  obtain ⟨b10, g10⟩ : ∃ z, z = h0.size := ⟨_, rfl⟩
  rw [← g10] at A10 st10
  have V10 : Arv Z h10 b10 k10 .byte (1 : Int32) [(.int 0)] (.int 0) := (Arv.new A10 (by decide)).pad (pad_rep [] (.int 0) 1)
  obtain ⟨_, T11, L11, X11, ⟨rfl, Nq11, K11⟩, st11⟩ := own_cs 0 X10 hx hZ hown (ow hw 24 rfl) (ow hw 25 rfl) (ow hw 21 rfl) (ow hw 26 rfl) (own_cA1 hw  (Nat.le_trans Z0 E10.1) (A_bc.ext E10) V10 (Nat.le_trans Z0 (Nat.le_of_eq g10.symm)) (Nat.ne_of_lt (Nat.lt_of_lt_of_le (A_bc).lt (Nat.le_trans (Nat.le_refl _) (Nat.le_of_eq g10.symm)))) ca0) e10 (g := (mkF m 9 #[vR bc, vI 0, vI 1, vR b10, vU, vU] [(.int 1), (.int 0), (.ref b10), (.int 0), (.ref bc)])) (rest := []) (lenOf own_pd31 rfl) (j52_16 hby 8 rfl) hz
  have Na12 := Fr.app (Fr.nil n0) Nq11
  have Xt13 : Ext h0 T11.heap := (own_xk E10 K11 ((allS (Nat.le_trans (own_xr h0).1 (Nat.le_of_eq g10.symm)) all0)))
  have Gr14 : h0.size ≤ T11.heap.size := Nat.le_trans E10.1 K11.1
  obtain ⟨_, T15, L15, X15, ⟨t_15, kt_15, rfl, Nq15, E15, Po15_0, Po15_1⟩, st15⟩ := own_cs 0 X11 hx hZ hown (ow hw 234 rfl) (ow hw 235 rfl) (ow hw 21 rfl) (ow hw 236 rfl) (own_tob1 hw  (Nat.le_trans Z0 Gr14) (A_bc.ext Xt13) (SS.ext Xt13)) rfl (g := (mkF m 23 #[vR bc, vI 0, vI 1, vR b10, vI 0, vU] [(.int 1), (.int 0), (.ref bc)])) (rest := []) (lenOf own_pd32 rfl) (j52_16 hby 16 rfl) hz
  have Na16 := Fr.app Na12 Nq15
  have Xt17 : Ext h0 T15.heap := (own_xt Xt13 E15)
  have Gr18 : h0.size ≤ T15.heap.size := Nat.le_trans Gr14 E15.1
  obtain ⟨_, T19, L19, X19, ⟨rfl, Nq19, e19⟩, st19⟩ := own_cs 0 X15 hx hZ hown (ow hw 250 rfl) (ow hw 251 rfl) (ow hw 21 rfl) (ow hw 252 rfl) (own_gc hw (0 : Int32) (0 : Int32) (1 : Int32) (own_lo c0) (own_hi c0) c0 (Nat.le_trans Z0 Gr18) Po15_0 (SS.ext Xt17) (by decide) (by decide) (by decide) (by decide) rfl rfl zz) rfl (g := (mkF m 32 #[vR bc, vI 0, vI 1, vR b10, vI 0, vR t_15] [(.int 0), (.ref t_15)])) (rest := []) (lenOf own_pd10 rfl) (j52_16 hby 20 rfl) hz
  have Na20 := Fr.app Na16 Nq19
  refine ⟨_, _, _, _, some (.ref t_15), X19, (fun h => nomatch h), by decide, by decide, ?_, fun fs hr => ?_⟩
  · show own_QcB1 Z bc kC dC c0 w2 fm h0 n0 _ T19.heap _
    rw [e19]
    exact ⟨t_15, kt_15, rfl, Na20, Xt17, Po15_0, (Nat.le_trans Gr14 Po15_1)⟩
  · refine sI X0.here hx (j52_16 hby 0 rfl) ?_
    refine st10 _ ?_
    refine XS.astoreN X10.here hx rfl (j52_16 hby 2 rfl) rfl rfl (l' := #[vR bc, vI 0, vI 1, vR b10, vU, vU]) rfl ?_
    refine sA X10.here hx (j52_16 hby 3 rfl) ?_
    refine sI X10.here hx (j52_16 hby 4 rfl) ?_
    refine sA X10.here hx (j52_16 hby 5 rfl) ?_
    refine sC X10.here hx (j52_16 hby 6 rfl) ?_
    refine sI X10.here hx (j52_16 hby 7 rfl) ?_
    refine st11 _ ?_
    refine XS.istore X11.here hx rfl (j52_16 hby 9 rfl) rfl (l' := #[vR bc, vI 0, vI 1, vR b10, vI 0, vU]) rfl ?_
    refine sJ X11.here hx (j52_16 hby 10 rfl) ?_
    refine sI X11.here hx (j52_16 hby 11 rfl) ?_
    refine XS.icmpNo X11.here hx rfl (j52_16 hby 12 rfl) rfl (feq (by decide)).1 ?_
    refine sA X11.here hx (j52_16 hby 13 rfl) ?_
    refine sI X11.here hx (j52_16 hby 14 rfl) ?_
    refine sI X11.here hx (j52_16 hby 15 rfl) ?_
    refine st15 _ ?_
    refine XS.astore X15.here hx rfl (j52_16 hby 17 rfl) rfl rfl (l' := #[vR bc, vI 0, vI 1, vR b10, vI 0, vR t_15]) rfl ?_
    refine sB X15.here hx (j52_16 hby 18 rfl) ?_
    refine sJ X15.here hx (j52_16 hby 19 rfl) ?_
    refine st19 _ ?_
    refine XS.sipush X19.here hx rfl (j52_16 hby 21 rfl) ?_
    refine XS.icmpYes X19.here hx rfl (pc0 := 38) (pc' := 54) rfl (j52_16 hby 22 rfl) rfl (tlt ca0).2.2.1 (by decide) (by decide) ?_
    refine sB X19.here hx (j52_16 hby 23 rfl) ?_
    exact retR X19 hx hrt rfl rfl rfl (j52_16 hby 24 rfl) hr
def own_QcC1 (Z : State) (x : Addr) (w2 : Int32) (bc : Addr) (kC : ClassId) (dC : Value) (c0 : Int32) (fm : Value) (h0 : Heap) (n0 : Nat) (v : Option Value) (h : Heap) (L : List Loc) : Prop := ∃ (t : Addr) (kt : ClassId), v = none ∧ Fr n0 L ∧ Keep h0 h [x] ∧ own_Sr Z h x t kt 1 2 [(oL c0), (oH c0)] ∧ h0.size ≤ t
theorem own_cC1 (hw : own_HW a0 Z) {x : Addr} {w2 : Int32} {bc : Addr} {kC : ClassId} {dC : Value} {c0 : Int32} {fm : Value}  (Z0 : n0 ≤ h0.size) (E_x : Exa Z h0 x "java/lang/String") (F_x_value : Fld Z h0 x "java/lang/String" "value" "[B" .null) (F_x_coder : Fld Z h0 x "java/lang/String" "coder" "B" (.int 0)) (g_x : n0 ≤ x) (A_bc : Arv Z h0 bc kC .char (1 : Int32) [(.int c0)] dC) (SS : own_ST Z h0 w2 fm) (ca0 : (255 : Int32) < c0) (zz : nar .char (((((own_lo c0) &&& (255 : Int32)) <<< ((0 : Int32) &&& 31)) ||| (((own_hi c0) &&& (255 : Int32)) <<< ((8 : Int32) &&& 31))).toUInt32.toUInt16.toUInt32.toInt32) = c0) : own_M l Z h0 y_61 jdk_42_method_149_code 6 none (rm 4 2 3 57) #[(.ref x), (.ref bc), (.int 0), (.int 1), .null] (own_QcC1 Z x w2 bc kC dC c0 fm h0 n0) := by
  refine own_go #[vR x, vR bc, vI 0, vI 1, .val .null, vU] (plainFor_of_name own_pn0) (fun m => rfl) fun p e s m below meth c s₁ hx hby hz hZ hown hnm hrt X0 e0 => ?_
  have P5 := SS.2.1
  obtain ⟨T10, X10, e10, st10⟩ := initO X0 hx hZ hown (ow hw 15 rfl) (ow hw 16 rfl) (ow hw 17 rfl) e0 (g := (mkF m 1 #[vR x, vR bc, vI 0, vI 1, .val .null, vU] [(.ref x)])) rfl hz rfl (j42_149 hby 1 rfl) (by decide) (W := 0) (Nat.le_of_eq rfl) (by decide)
  obtain ⟨T11, X11, e11, st11⟩ := getS2 X10 hx hZ hown (host := "") (Or.inl (ow hw 18 rfl)) Via.refl e10 SS.1 (g := (mkF m 27 #[vR x, vR bc, vI 0, vI 1, .val .null, vU] [])) rfl (j42_149 hby 4 rfl)
  obtain ⟨_, T12, L12, X12, ⟨t_12, kt_12, rfl, Nq12, E12, Po12_0, Po12_1⟩, st12⟩ := own_cs 0 X11 hx hZ hown (ow hw 19 rfl) (ow hw 20 rfl) (ow hw 21 rfl) (ow hw 22 rfl) (own_cB1 hw  Z0 A_bc SS ca0 zz) e11 (g := (mkF m 36 #[vR x, vR bc, vI 0, vI 1, .val .null, vU] [(.int 1), (.int 0), (.ref bc)])) (rest := []) (lenOf own_pd32 rfl) (j42_149 hby 9 rfl) hz
  have Na13 := Fr.app (Fr.nil n0) Nq12
  obtain ⟨_, T14, L14, X14, ⟨rfl, Nq14, e14⟩, st14⟩ := own_cs 1 X12 hx hZ hown (ow hw 27 rfl) (ow hw 28 rfl) (ow hw 21 rfl) (ow hw 29 rfl) (own_cfa1 hw  (Nat.le_trans Z0 E12.1) Po12_0) rfl (g := (mkF m 45 #[vR x, vR bc, vI 0, vI 1, .val .null, vR t_12] [(.int 1), (.ref t_12), (.ref x)])) (rest := [(.ref x)]) (lenOf own_pd33 rfl) (j42_149 hby 14 rfl) hz
  have Na15 := Fr.app Na13 Nq14
  obtain ⟨T16, h16, X16, e16, W16, st16⟩ := putFN X14 hx hZ hown (ow hw 30 rfl) Via.refl e14 (F_x_coder.ext E12) (E_x.ext E12) (Or.inr ⟨(ow hw 31 rfl), rfl, hnm⟩) (ow hw 5 rfl) (ty := .byte) (v' := (.int 1)) (by decide) rfl rfl (g := (mkF m 48 #[vR x, vR bc, vI 0, vI 1, .val .null, vR t_12] [(.int 1), (.ref x)])) rfl rfl (j42_149 hby 15 rfl)
  have Ew16 := (E_x.ext E12).wr W16
  have Fo17 := (F_x_value.ext E12).other W16 (Or.inr (slot_ne (Or.inr (ow hw 33 rfl)) (Or.inr (ow hw 31 rfl)) (by decide) (t := (.array .byte)) (t' := .byte) (by decide) (by decide)))
  have Fw16 := (F_x_coder.ext E12).same W16
  have N16 := Fr.snoc X16 Na15 g_x
  obtain ⟨T18, h18, X18, e18, W18, st18⟩ := putF X16 hx hZ hown (host := "") (Or.inl (ow hw 32 rfl)) Via.refl e16 Fo17 Ew16 (Or.inr ⟨(ow hw 33 rfl), rfl, hnm⟩) (ow hw 5 rfl) (ty := (.array .byte)) (by decide) rfl rfl (g := (mkF m 54 #[vR x, vR bc, vI 0, vI 1, .val .null, vR t_12] [(.ref t_12), (.ref x)])) rfl rfl (j42_149 hby 18 rfl)
  have Ew18 := Ew16.wr W18
  have Fw18 := Fo17.same W18
  have Fo19 := Fw16.other W18 (Or.inr (slot_ne (Or.inr (ow hw 31 rfl)) (Or.inr (ow hw 33 rfl)) (by decide) (t := .byte) (t' := (.array .byte)) (by decide) (by decide)))
  have N18 := Fr.snoc X18 N16 g_x
  have Cf20 := Po12_0.other W16 (Ne.symm (Nat.ne_of_lt (Nat.lt_of_lt_of_le (E_x).lt Po12_1)))
  have Cf21 := Cf20.other W18 (Ne.symm (Nat.ne_of_lt (Nat.lt_of_lt_of_le (E_x).lt Po12_1)))
  refine ⟨_, _, _, _, none, X18, (fun _ => rfl), by decide, by decide, ?_, fun fs hr => ?_⟩
  · show own_QcC1 Z x w2 bc kC dC c0 fm h0 n0 _ T18.heap _
    rw [e18]
    exact ⟨t_12, kt_12, rfl, N18, ((((Keep.refl h0 [x]).ext E12).wr W16 (Or.inl (List.mem_of_getElem? (i := 0) rfl))).wr W18 (Or.inl (List.mem_of_getElem? (i := 0) rfl))), ⟨Ew18, Fw18, Fo19, Cf21⟩, Po12_1⟩
  · refine sA X0.here hx (j42_149 hby 0 rfl) ?_
    refine st10 _ ?_
    refine sI X10.here hx (j42_149 hby 2 rfl) ?_
    refine XS.ifYes X10.here hx rfl (pc0 := 5) (pc' := 27) rfl (j42_149 hby 3 rfl) rfl ((if0 _ _).trans (feq (by decide)).2) (by decide) (by decide) ?_
    refine st11 _ ?_
    refine XS.ifNo X11.here hx rfl (j42_149 hby 5 rfl) rfl ((if0 _ _).trans (feq P5).1) ?_
    refine sA X11.here hx (j42_149 hby 6 rfl) ?_
    refine sI X11.here hx (j42_149 hby 7 rfl) ?_
    refine sI X11.here hx (j42_149 hby 8 rfl) ?_
    refine st12 _ ?_
    refine XS.astore X12.here hx rfl (j42_149 hby 10 rfl) rfl rfl (l' := #[vR x, vR bc, vI 0, vI 1, .val .null, vR t_12]) rfl ?_
    refine sA X12.here hx (j42_149 hby 11 rfl) ?_
    refine sB X12.here hx (j42_149 hby 12 rfl) ?_
    refine sI X12.here hx (j42_149 hby 13 rfl) ?_
    refine st14 _ ?_
    refine st16 _ ?_
    refine sA X16.here hx (j42_149 hby 16 rfl) ?_
    refine sB X16.here hx (j42_149 hby 17 rfl) ?_
    refine st18 _ ?_
    exact X18.returnOut hx hrt (j42_149 hby 19 rfl) hr
def own_QnU1 (Z : State) (x : Addr) (w2 : Int32) (bc : Addr) (kC : ClassId) (dC : Value) (c0 : Int32) (fm : Value) (h0 : Heap) (n0 : Nat) (v : Option Value) (h : Heap) (L : List Loc) : Prop := ∃ (t : Addr) (kt : ClassId), v = none ∧ Fr n0 L ∧ Keep h0 h [x] ∧ own_Sr Z h x t kt 1 2 [(oL c0), (oH c0)] ∧ h0.size ≤ t
theorem own_nU1 (hw : own_HW a0 Z) {x : Addr} {w2 : Int32} {bc : Addr} {kC : ClassId} {dC : Value} {c0 : Int32} {fm : Value}  (Z0 : n0 ≤ h0.size) (E_x : Exa Z h0 x "java/lang/String") (F_x_value : Fld Z h0 x "java/lang/String" "value" "[B" .null) (F_x_coder : Fld Z h0 x "java/lang/String" "coder" "B" (.int 0)) (g_x : n0 ≤ x) (A_bc : Arv Z h0 bc kC .char (1 : Int32) [(.int c0)] dC) (SS : own_ST Z h0 w2 fm) (ca0 : (255 : Int32) < c0) (zz : nar .char (((((own_lo c0) &&& (255 : Int32)) <<< ((0 : Int32) &&& 31)) ||| (((own_hi c0) &&& (255 : Int32)) <<< ((8 : Int32) &&& 31))).toUInt32.toUInt16.toUInt32.toInt32) = c0) : own_M l Z h0 y_62 jdk_42_method_3_code 2 none (rm 5 2 3 74) #[(.ref x), (.ref bc)] (own_QnU1 Z x w2 bc kC dC c0 fm h0 n0) := by
  refine own_go #[vR x, vR bc] (plainFor_of_name own_pn0) (fun m => rfl) fun p e s m below meth c s₁ hx hby hz hZ hown hnm hrt X0 e0 => ?_
  obtain ⟨cl10, Ar10, q10, S10, M10, H10, G10⟩ := id A_bc
  obtain ⟨_, T11, L11, X11, ⟨t_11, kt_11, rfl, Nq11, K11, Po11_0, Po11_1⟩, st11⟩ := own_cp 0 X0 hx hZ hown (ow hw 11 rfl) (ow hw 12 rfl) (ow hw 6 rfl) (ow hw 14 rfl) (own_cC1 hw  Z0 E_x F_x_value F_x_coder g_x A_bc SS ca0 zz) e0 (g := (mkF m 6 #[vR x, vR bc] [.null, (.int 1), (.int 0), (.ref bc), (.ref x)])) (rest := []) (lenOf own_pd34 rfl) (j42_3 hby 6 rfl) hz
  have Na12 := Fr.app (Fr.nil n0) Nq11
  refine ⟨_, _, _, _, none, X11, (fun _ => rfl), by decide, by decide, ?_, fun fs hr => ?_⟩
  · show own_QnU1 Z x w2 bc kC dC c0 fm h0 n0 _ T11.heap _
    exact ⟨t_11, kt_11, rfl, Na12, ((Keep.refl h0 [x]).trans K11 ((allS (Or.inl (List.mem_of_getElem? (i := 0) rfl)) all0))), Po11_0, Po11_1⟩
  · refine sA X0.here hx (j42_3 hby 0 rfl) ?_
    refine sA X0.here hx (j42_3 hby 1 rfl) ?_
    refine sC X0.here hx (j42_3 hby 2 rfl) ?_
    refine sA X0.here hx (j42_3 hby 3 rfl) ?_
    refine X0.arraylength hx (by rw [e0]; exact Ar10.1) (State.isArrayOf_alike hZ.alike Ar10.2.1) (g := (mkF m 4 #[vR x, vR bc] [(.ref bc), (.int 0), (.ref bc), (.ref x)])) rfl rfl (j42_3 hby 4 rfl) _ ?_
    rw [len_of S10 M10]
    refine XS.aconstNull X0.here hx rfl (j42_3 hby 5 rfl) ?_
    refine st11 _ ?_
    exact X11.returnOut hx hrt (j42_3 hby 7 rfl) hr
def own_QcA2a (Z : State) (bc : Addr) (kC : ClassId) (dC : Value) (c0 c1 : Int32) (t : Addr) (kt : ClassId) (h0 : Heap) (n0 : Nat) (v : Option Value) (h : Heap) (L : List Loc) : Prop := v = some (.int 0) ∧ Fr n0 L ∧ Keep h0 h [t]
theorem own_cA2a (hw : own_HW a0 Z) {bc : Addr} {kC : ClassId} {dC : Value} {c0 c1 : Int32} {t : Addr} {kt : ClassId}  (Z0 : n0 ≤ h0.size) (A_bc : Arv Z h0 bc kC .char (2 : Int32) [(.int c0), (.int c1)] dC) (A_t : Arv Z h0 t kt .byte (2 : Int32) [(.int 0), (.int 0)] (.int 0)) (g_t : n0 ≤ t) (n_bc_t : bc ≠ t) (ca0 : (255 : Int32) < c0) : own_M l Z h0 y_59 jdk_52_method_21_code 7 (some .int) (rm 0 0 0 0) #[(.ref bc), (.int 0), (.ref t), (.int 0), (.int 2)] (own_QcA2a Z bc kC dC c0 c1 t kt h0 n0) := by
  refine own_go #[vR bc, vI 0, vR t, vI 0, vI 2, vU, vU] (plainFor_of_name own_pn4) (fun m => rfl) fun p e s m below meth c s₁ hx hby hz hZ hown hnm hrt X0 e0 => ?_
  obtain ⟨cl10, Ar10, q10, S10, M10, H10, G10⟩ := id A_bc
  have hin10 : ¬ ((0 : Int32) < 0 ∨ cl10.slots.size ≤ ((0 : Int32)).toNatClampNeg) := inb_of S10 ⟨by decide, by decide⟩
  refine ⟨_, _, _, _, some (.int 0), X0, (fun h => nomatch h), by decide, by decide, ?_, fun fs hr => ?_⟩
  · show own_QcA2a Z bc kC dC c0 c1 t kt h0 n0 _ s₁.heap _
    rw [e0]
    exact ⟨rfl, (Fr.nil n0), (Keep.refl h0 [t])⟩
  · refine sC X0.here hx (j52_21 hby 0 rfl) ?_
    refine XS.istore X0.here hx rfl (j52_21 hby 1 rfl) rfl (l' := #[vR bc, vI 0, vR t, vI 0, vI 2, vI 0, vU]) rfl ?_
    refine sJ X0.here hx (j52_21 hby 2 rfl) ?_
    refine sJ X0.here hx (j52_21 hby 3 rfl) ?_
    refine XS.icmpNo X0.here hx rfl (j52_21 hby 4 rfl) rfl (tlt (by decide)).2.1 ?_
    refine sA X0.here hx (j52_21 hby 5 rfl) ?_
    refine sI X0.here hx (j52_21 hby 6 rfl) ?_
    refine X0.caload hx (j := (0 : Int32)) (v := (.int c0)) (by rw [e0]; exact Ar10.1) (State.isArrayOf_alike hZ.alike Ar10.2.1) Ar10.2.2 hin10 (Has.at H10 hin10 rfl) (g := (mkF m 12 #[vR bc, vI 0, vR t, vI 0, vI 2, vI 0, vU] [(.int 0), (.ref bc)])) rfl rfl (j52_21 hby 7 rfl) _ ?_
    refine XS.istore X0.here hx rfl (j52_21 hby 8 rfl) rfl (l' := #[vR bc, vI 0, vR t, vI 0, vI 2, vI 0, vI c0]) rfl ?_
    refine sJ X0.here hx (j52_21 hby 9 rfl) ?_
    refine XS.sipush X0.here hx rfl (j52_21 hby 10 rfl) ?_
    refine XS.icmpNo X0.here hx rfl (j52_21 hby 11 rfl) rfl (tlt ca0).2.2.2 ?_
    refine sJ X0.here hx (j52_21 hby 12 rfl) ?_
    exact retI X0 hx hrt (j52_21 hby 13 rfl) hr
def own_QcB2a (Z : State) (bc : Addr) (kC : ClassId) (dC : Value) (c0 c1 w2 : Int32) (fm : Value) (h0 : Heap) (n0 : Nat) (v : Option Value) (h : Heap) (L : List Loc) : Prop := ∃ (t : Addr) (kt : ClassId), v = some (.ref t) ∧ Fr n0 L ∧ Ext h0 h ∧ Arv Z h t kt .byte (4 : Int32) [(oL c0), (oH c0), (oL c1), (oH c1)] (.int 0) ∧ h0.size ≤ t
theorem own_cB2a (hw : own_HW a0 Z) {bc : Addr} {kC : ClassId} {dC : Value} {c0 c1 w2 : Int32} {fm : Value}  (Z0 : n0 ≤ h0.size) (A_bc : Arv Z h0 bc kC .char (2 : Int32) [(.int c0), (.int c1)] dC) (SS : own_ST Z h0 w2 fm) (ca0 : (255 : Int32) < c0) (zz : nar .char (((((own_lo c0) &&& (255 : Int32)) <<< ((0 : Int32) &&& 31)) ||| (((own_hi c0) &&& (255 : Int32)) <<< ((8 : Int32) &&& 31))).toUInt32.toUInt16.toUInt32.toInt32) = c0) : own_M l Z h0 y_60 jdk_52_method_16_code 6 (some (.array .byte)) (rm 3 2 6 40) #[(.ref bc), (.int 0), (.int 2)] (own_QcB2a Z bc kC dC c0 c1 w2 fm h0 n0) := by
  refine own_go #[vR bc, vI 0, vI 2, vU, vU, vU] (plainFor_of_name own_pn4) (fun m => rfl) fun p e s m below meth c s₁ hx hby hz hZ hown hnm hrt X0 e0 => ?_
  obtain ⟨T10, h10, k10, X10, e10, E10, A10, st10⟩ := newP X0 hx hZ (ow hw 23 rfl) e0 (g := (mkF m 1 #[vR bc, vI 0, vI 2, vU, vU, vU] [(.int 2)])) rfl (j52_16 hby 1 rfl) rfl (by decide) (cap := 2) (by decide) (by decide) (by decide) (by decide)
  obtain ⟨b10, g10⟩ : ∃ z, z = h0.size := ⟨_, rfl⟩
  rw [← g10] at A10 st10
  have V10 : Arv Z h10 b10 k10 .byte (2 : Int32) [(.int 0), (.int 0)] (.int 0) := (Arv.new A10 (by decide)).pad (pad_rep [] (.int 0) 2)
  obtain ⟨_, T11, L11, X11, ⟨rfl, Nq11, K11⟩, st11⟩ := own_cs 0 X10 hx hZ hown (ow hw 24 rfl) (ow hw 25 rfl) (ow hw 21 rfl) (ow hw 26 rfl) (own_cA2a hw  (Nat.le_trans Z0 E10.1) (A_bc.ext E10) V10 (Nat.le_trans Z0 (Nat.le_of_eq g10.symm)) (Nat.ne_of_lt (Nat.lt_of_lt_of_le (A_bc).lt (Nat.le_trans (Nat.le_refl _) (Nat.le_of_eq g10.symm)))) ca0) e10 (g := (mkF m 9 #[vR bc, vI 0, vI 2, vR b10, vU, vU] [(.int 2), (.int 0), (.ref b10), (.int 0), (.ref bc)])) (rest := []) (lenOf own_pd31 rfl) (j52_16 hby 8 rfl) hz
  have Na12 := Fr.app (Fr.nil n0) Nq11
  have Xt13 : Ext h0 T11.heap := (own_xk E10 K11 ((allS (Nat.le_trans (own_xr h0).1 (Nat.le_of_eq g10.symm)) all0)))
  have Gr14 : h0.size ≤ T11.heap.size := Nat.le_trans E10.1 K11.1
  obtain ⟨_, T15, L15, X15, ⟨t_15, kt_15, rfl, Nq15, E15, Po15_0, Po15_1⟩, st15⟩ := own_cs 0 X11 hx hZ hown (ow hw 234 rfl) (ow hw 235 rfl) (ow hw 21 rfl) (ow hw 236 rfl) (own_tob2 hw  (Nat.le_trans Z0 Gr14) (A_bc.ext Xt13) (SS.ext Xt13)) rfl (g := (mkF m 23 #[vR bc, vI 0, vI 2, vR b10, vI 0, vU] [(.int 2), (.int 0), (.ref bc)])) (rest := []) (lenOf own_pd32 rfl) (j52_16 hby 16 rfl) hz
  have Na16 := Fr.app Na12 Nq15
  have Xt17 : Ext h0 T15.heap := (own_xt Xt13 E15)
  have Gr18 : h0.size ≤ T15.heap.size := Nat.le_trans Gr14 E15.1
  obtain ⟨_, T19, L19, X19, ⟨rfl, Nq19, e19⟩, st19⟩ := own_cs 0 X15 hx hZ hown (ow hw 250 rfl) (ow hw 251 rfl) (ow hw 21 rfl) (ow hw 252 rfl) (own_gc hw (0 : Int32) (0 : Int32) (1 : Int32) (own_lo c0) (own_hi c0) c0 (Nat.le_trans Z0 Gr18) Po15_0 (SS.ext Xt17) (by decide) (by decide) (by decide) (by decide) rfl rfl zz) rfl (g := (mkF m 32 #[vR bc, vI 0, vI 2, vR b10, vI 0, vR t_15] [(.int 0), (.ref t_15)])) (rest := []) (lenOf own_pd10 rfl) (j52_16 hby 20 rfl) hz
  have Na20 := Fr.app Na16 Nq19
  refine ⟨_, _, _, _, some (.ref t_15), X19, (fun h => nomatch h), by decide, by decide, ?_, fun fs hr => ?_⟩
  · show own_QcB2a Z bc kC dC c0 c1 w2 fm h0 n0 _ T19.heap _
    rw [e19]
    exact ⟨t_15, kt_15, rfl, Na20, Xt17, Po15_0, (Nat.le_trans Gr14 Po15_1)⟩
  · refine sI X0.here hx (j52_16 hby 0 rfl) ?_
    refine st10 _ ?_
    refine XS.astoreN X10.here hx rfl (j52_16 hby 2 rfl) rfl rfl (l' := #[vR bc, vI 0, vI 2, vR b10, vU, vU]) rfl ?_
    refine sA X10.here hx (j52_16 hby 3 rfl) ?_
    refine sI X10.here hx (j52_16 hby 4 rfl) ?_
    refine sA X10.here hx (j52_16 hby 5 rfl) ?_
    refine sC X10.here hx (j52_16 hby 6 rfl) ?_
    refine sI X10.here hx (j52_16 hby 7 rfl) ?_
    refine st11 _ ?_
    refine XS.istore X11.here hx rfl (j52_16 hby 9 rfl) rfl (l' := #[vR bc, vI 0, vI 2, vR b10, vI 0, vU]) rfl ?_
    refine sJ X11.here hx (j52_16 hby 10 rfl) ?_
    refine sI X11.here hx (j52_16 hby 11 rfl) ?_
    refine XS.icmpNo X11.here hx rfl (j52_16 hby 12 rfl) rfl (feq (by decide)).1 ?_
    refine sA X11.here hx (j52_16 hby 13 rfl) ?_
    refine sI X11.here hx (j52_16 hby 14 rfl) ?_
    refine sI X11.here hx (j52_16 hby 15 rfl) ?_
    refine st15 _ ?_
    refine XS.astore X15.here hx rfl (j52_16 hby 17 rfl) rfl rfl (l' := #[vR bc, vI 0, vI 2, vR b10, vI 0, vR t_15]) rfl ?_
    refine sB X15.here hx (j52_16 hby 18 rfl) ?_
    refine sJ X15.here hx (j52_16 hby 19 rfl) ?_
    refine st19 _ ?_
    refine XS.sipush X19.here hx rfl (j52_16 hby 21 rfl) ?_
    refine XS.icmpYes X19.here hx rfl (pc0 := 38) (pc' := 54) rfl (j52_16 hby 22 rfl) rfl (tlt ca0).2.2.1 (by decide) (by decide) ?_
    refine sB X19.here hx (j52_16 hby 23 rfl) ?_
    exact retR X19 hx hrt rfl rfl rfl (j52_16 hby 24 rfl) hr
def own_QcC2a (Z : State) (x : Addr) (w2 : Int32) (bc : Addr) (kC : ClassId) (dC : Value) (c0 c1 : Int32) (fm : Value) (h0 : Heap) (n0 : Nat) (v : Option Value) (h : Heap) (L : List Loc) : Prop := ∃ (t : Addr) (kt : ClassId), v = none ∧ Fr n0 L ∧ Keep h0 h [x] ∧ own_Sr Z h x t kt 1 4 [(oL c0), (oH c0), (oL c1), (oH c1)] ∧ h0.size ≤ t
theorem own_cC2a (hw : own_HW a0 Z) {x : Addr} {w2 : Int32} {bc : Addr} {kC : ClassId} {dC : Value} {c0 c1 : Int32} {fm : Value}  (Z0 : n0 ≤ h0.size) (E_x : Exa Z h0 x "java/lang/String") (F_x_value : Fld Z h0 x "java/lang/String" "value" "[B" .null) (F_x_coder : Fld Z h0 x "java/lang/String" "coder" "B" (.int 0)) (g_x : n0 ≤ x) (A_bc : Arv Z h0 bc kC .char (2 : Int32) [(.int c0), (.int c1)] dC) (SS : own_ST Z h0 w2 fm) (ca0 : (255 : Int32) < c0) (zz : nar .char (((((own_lo c0) &&& (255 : Int32)) <<< ((0 : Int32) &&& 31)) ||| (((own_hi c0) &&& (255 : Int32)) <<< ((8 : Int32) &&& 31))).toUInt32.toUInt16.toUInt32.toInt32) = c0) : own_M l Z h0 y_61 jdk_42_method_149_code 6 none (rm 4 2 6 57) #[(.ref x), (.ref bc), (.int 0), (.int 2), .null] (own_QcC2a Z x w2 bc kC dC c0 c1 fm h0 n0) := by
  refine own_go #[vR x, vR bc, vI 0, vI 2, .val .null, vU] (plainFor_of_name own_pn0) (fun m => rfl) fun p e s m below meth c s₁ hx hby hz hZ hown hnm hrt X0 e0 => ?_
  have P5 := SS.2.1
  obtain ⟨T10, X10, e10, st10⟩ := initO X0 hx hZ hown (ow hw 15 rfl) (ow hw 16 rfl) (ow hw 17 rfl) e0 (g := (mkF m 1 #[vR x, vR bc, vI 0, vI 2, .val .null, vU] [(.ref x)])) rfl hz rfl (j42_149 hby 1 rfl) (by decide) (W := 0) (Nat.le_of_eq rfl) (by decide)
  obtain ⟨T11, X11, e11, st11⟩ := getS2 X10 hx hZ hown (host := "") (Or.inl (ow hw 18 rfl)) Via.refl e10 SS.1 (g := (mkF m 27 #[vR x, vR bc, vI 0, vI 2, .val .null, vU] [])) rfl (j42_149 hby 4 rfl)
  obtain ⟨_, T12, L12, X12, ⟨t_12, kt_12, rfl, Nq12, E12, Po12_0, Po12_1⟩, st12⟩ := own_cs 0 X11 hx hZ hown (ow hw 19 rfl) (ow hw 20 rfl) (ow hw 21 rfl) (ow hw 22 rfl) (own_cB2a hw  Z0 A_bc SS ca0 zz) e11 (g := (mkF m 36 #[vR x, vR bc, vI 0, vI 2, .val .null, vU] [(.int 2), (.int 0), (.ref bc)])) (rest := []) (lenOf own_pd32 rfl) (j42_149 hby 9 rfl) hz
  have Na13 := Fr.app (Fr.nil n0) Nq12
  obtain ⟨_, T14, L14, X14, ⟨rfl, Nq14, e14⟩, st14⟩ := own_cs 1 X12 hx hZ hown (ow hw 27 rfl) (ow hw 28 rfl) (ow hw 21 rfl) (ow hw 29 rfl) (own_cfa2 hw  (Nat.le_trans Z0 E12.1) Po12_0) rfl (g := (mkF m 45 #[vR x, vR bc, vI 0, vI 2, .val .null, vR t_12] [(.int 2), (.ref t_12), (.ref x)])) (rest := [(.ref x)]) (lenOf own_pd33 rfl) (j42_149 hby 14 rfl) hz
  have Na15 := Fr.app Na13 Nq14
  obtain ⟨T16, h16, X16, e16, W16, st16⟩ := putFN X14 hx hZ hown (ow hw 30 rfl) Via.refl e14 (F_x_coder.ext E12) (E_x.ext E12) (Or.inr ⟨(ow hw 31 rfl), rfl, hnm⟩) (ow hw 5 rfl) (ty := .byte) (v' := (.int 1)) (by decide) rfl rfl (g := (mkF m 48 #[vR x, vR bc, vI 0, vI 2, .val .null, vR t_12] [(.int 1), (.ref x)])) rfl rfl (j42_149 hby 15 rfl)
  have Ew16 := (E_x.ext E12).wr W16
  have Fo17 := (F_x_value.ext E12).other W16 (Or.inr (slot_ne (Or.inr (ow hw 33 rfl)) (Or.inr (ow hw 31 rfl)) (by decide) (t := (.array .byte)) (t' := .byte) (by decide) (by decide)))
  have Fw16 := (F_x_coder.ext E12).same W16
  have N16 := Fr.snoc X16 Na15 g_x
  obtain ⟨T18, h18, X18, e18, W18, st18⟩ := putF X16 hx hZ hown (host := "") (Or.inl (ow hw 32 rfl)) Via.refl e16 Fo17 Ew16 (Or.inr ⟨(ow hw 33 rfl), rfl, hnm⟩) (ow hw 5 rfl) (ty := (.array .byte)) (by decide) rfl rfl (g := (mkF m 54 #[vR x, vR bc, vI 0, vI 2, .val .null, vR t_12] [(.ref t_12), (.ref x)])) rfl rfl (j42_149 hby 18 rfl)
  have Ew18 := Ew16.wr W18
  have Fw18 := Fo17.same W18
  have Fo19 := Fw16.other W18 (Or.inr (slot_ne (Or.inr (ow hw 31 rfl)) (Or.inr (ow hw 33 rfl)) (by decide) (t := .byte) (t' := (.array .byte)) (by decide) (by decide)))
  have N18 := Fr.snoc X18 N16 g_x
  have Cf20 := Po12_0.other W16 (Ne.symm (Nat.ne_of_lt (Nat.lt_of_lt_of_le (E_x).lt Po12_1)))
  have Cf21 := Cf20.other W18 (Ne.symm (Nat.ne_of_lt (Nat.lt_of_lt_of_le (E_x).lt Po12_1)))
  refine ⟨_, _, _, _, none, X18, (fun _ => rfl), by decide, by decide, ?_, fun fs hr => ?_⟩
  · show own_QcC2a Z x w2 bc kC dC c0 c1 fm h0 n0 _ T18.heap _
    rw [e18]
    exact ⟨t_12, kt_12, rfl, N18, ((((Keep.refl h0 [x]).ext E12).wr W16 (Or.inl (List.mem_of_getElem? (i := 0) rfl))).wr W18 (Or.inl (List.mem_of_getElem? (i := 0) rfl))), ⟨Ew18, Fw18, Fo19, Cf21⟩, Po12_1⟩
  · refine sA X0.here hx (j42_149 hby 0 rfl) ?_
    refine st10 _ ?_
    refine sI X10.here hx (j42_149 hby 2 rfl) ?_
    refine XS.ifYes X10.here hx rfl (pc0 := 5) (pc' := 27) rfl (j42_149 hby 3 rfl) rfl ((if0 _ _).trans (feq (by decide)).2) (by decide) (by decide) ?_
    refine st11 _ ?_
    refine XS.ifNo X11.here hx rfl (j42_149 hby 5 rfl) rfl ((if0 _ _).trans (feq P5).1) ?_
    refine sA X11.here hx (j42_149 hby 6 rfl) ?_
    refine sI X11.here hx (j42_149 hby 7 rfl) ?_
    refine sI X11.here hx (j42_149 hby 8 rfl) ?_
    refine st12 _ ?_
    refine XS.astore X12.here hx rfl (j42_149 hby 10 rfl) rfl rfl (l' := #[vR x, vR bc, vI 0, vI 2, .val .null, vR t_12]) rfl ?_
    refine sA X12.here hx (j42_149 hby 11 rfl) ?_
    refine sB X12.here hx (j42_149 hby 12 rfl) ?_
    refine sI X12.here hx (j42_149 hby 13 rfl) ?_
    refine st14 _ ?_
    refine st16 _ ?_
    refine sA X16.here hx (j42_149 hby 16 rfl) ?_
    refine sB X16.here hx (j42_149 hby 17 rfl) ?_
    refine st18 _ ?_
    exact X18.returnOut hx hrt (j42_149 hby 19 rfl) hr
def own_QnU2a (Z : State) (x : Addr) (w2 : Int32) (bc : Addr) (kC : ClassId) (dC : Value) (c0 c1 : Int32) (fm : Value) (h0 : Heap) (n0 : Nat) (v : Option Value) (h : Heap) (L : List Loc) : Prop := ∃ (t : Addr) (kt : ClassId), v = none ∧ Fr n0 L ∧ Keep h0 h [x] ∧ own_Sr Z h x t kt 1 4 [(oL c0), (oH c0), (oL c1), (oH c1)] ∧ h0.size ≤ t
theorem own_nU2a (hw : own_HW a0 Z) {x : Addr} {w2 : Int32} {bc : Addr} {kC : ClassId} {dC : Value} {c0 c1 : Int32} {fm : Value}  (Z0 : n0 ≤ h0.size) (E_x : Exa Z h0 x "java/lang/String") (F_x_value : Fld Z h0 x "java/lang/String" "value" "[B" .null) (F_x_coder : Fld Z h0 x "java/lang/String" "coder" "B" (.int 0)) (g_x : n0 ≤ x) (A_bc : Arv Z h0 bc kC .char (2 : Int32) [(.int c0), (.int c1)] dC) (SS : own_ST Z h0 w2 fm) (ca0 : (255 : Int32) < c0) (zz : nar .char (((((own_lo c0) &&& (255 : Int32)) <<< ((0 : Int32) &&& 31)) ||| (((own_hi c0) &&& (255 : Int32)) <<< ((8 : Int32) &&& 31))).toUInt32.toUInt16.toUInt32.toInt32) = c0) : own_M l Z h0 y_62 jdk_42_method_3_code 2 none (rm 5 2 6 74) #[(.ref x), (.ref bc)] (own_QnU2a Z x w2 bc kC dC c0 c1 fm h0 n0) := by
  refine own_go #[vR x, vR bc] (plainFor_of_name own_pn0) (fun m => rfl) fun p e s m below meth c s₁ hx hby hz hZ hown hnm hrt X0 e0 => ?_
  obtain ⟨cl10, Ar10, q10, S10, M10, H10, G10⟩ := id A_bc
  obtain ⟨_, T11, L11, X11, ⟨t_11, kt_11, rfl, Nq11, K11, Po11_0, Po11_1⟩, st11⟩ := own_cp 0 X0 hx hZ hown (ow hw 11 rfl) (ow hw 12 rfl) (ow hw 6 rfl) (ow hw 14 rfl) (own_cC2a hw  Z0 E_x F_x_value F_x_coder g_x A_bc SS ca0 zz) e0 (g := (mkF m 6 #[vR x, vR bc] [.null, (.int 2), (.int 0), (.ref bc), (.ref x)])) (rest := []) (lenOf own_pd34 rfl) (j42_3 hby 6 rfl) hz
  have Na12 := Fr.app (Fr.nil n0) Nq11
  refine ⟨_, _, _, _, none, X11, (fun _ => rfl), by decide, by decide, ?_, fun fs hr => ?_⟩
  · show own_QnU2a Z x w2 bc kC dC c0 c1 fm h0 n0 _ T11.heap _
    exact ⟨t_11, kt_11, rfl, Na12, ((Keep.refl h0 [x]).trans K11 ((allS (Or.inl (List.mem_of_getElem? (i := 0) rfl)) all0))), Po11_0, Po11_1⟩
  · refine sA X0.here hx (j42_3 hby 0 rfl) ?_
    refine sA X0.here hx (j42_3 hby 1 rfl) ?_
    refine sC X0.here hx (j42_3 hby 2 rfl) ?_
    refine sA X0.here hx (j42_3 hby 3 rfl) ?_
    refine X0.arraylength hx (by rw [e0]; exact Ar10.1) (State.isArrayOf_alike hZ.alike Ar10.2.1) (g := (mkF m 4 #[vR x, vR bc] [(.ref bc), (.int 0), (.ref bc), (.ref x)])) rfl rfl (j42_3 hby 4 rfl) _ ?_
    rw [len_of S10 M10]
    refine XS.aconstNull X0.here hx rfl (j42_3 hby 5 rfl) ?_
    refine st11 _ ?_
    exact X11.returnOut hx hrt (j42_3 hby 7 rfl) hr
def own_QcA2b (Z : State) (bc : Addr) (kC : ClassId) (dC : Value) (c0 c1 : Int32) (t : Addr) (kt : ClassId) (h0 : Heap) (n0 : Nat) (v : Option Value) (h : Heap) (L : List Loc) : Prop := v = some (.int 1) ∧ Fr n0 L ∧ Keep h0 h [t]
theorem own_cA2b (hw : own_HW a0 Z) {bc : Addr} {kC : ClassId} {dC : Value} {c0 c1 : Int32} {t : Addr} {kt : ClassId}  (Z0 : n0 ≤ h0.size) (A_bc : Arv Z h0 bc kC .char (2 : Int32) [(.int c0), (.int c1)] dC) (A_t : Arv Z h0 t kt .byte (2 : Int32) [(.int 0), (.int 0)] (.int 0)) (g_t : n0 ≤ t) (n_bc_t : bc ≠ t) (ca0 : ¬ (255 : Int32) < c0) (ca1 : (255 : Int32) < c1) : own_M l Z h0 y_59 jdk_52_method_21_code 7 (some .int) (rm 0 0 0 0) #[(.ref bc), (.int 0), (.ref t), (.int 0), (.int 2)] (own_QcA2b Z bc kC dC c0 c1 t kt h0 n0) := by
  refine own_go #[vR bc, vI 0, vR t, vI 0, vI 2, vU, vU] (plainFor_of_name own_pn4) (fun m => rfl) fun p e s m below meth c s₁ hx hby hz hZ hown hnm hrt X0 e0 => ?_
  obtain ⟨cl10, Ar10, q10, S10, M10, H10, G10⟩ := id A_bc
  have hin10 : ¬ ((0 : Int32) < 0 ∨ cl10.slots.size ≤ ((0 : Int32)).toNatClampNeg) := inb_of S10 ⟨by decide, by decide⟩
  obtain ⟨cl11, Ar11, q11, S11, M11, H11, G11⟩ := id A_t
  obtain ⟨T12, h12, X12, e12, W12, st12⟩ := stB X0 hx hZ e0 Ar11 (j := (0 : Int32)) (inb_of S11 ⟨by decide, by decide⟩) (g := (mkF m 31 #[vR bc, vI 0, vR t, vI 0, vI 2, vI 0, vI c0] [(.int (c0.toInt8.toInt32)), (.int 0), (.ref t)])) rfl rfl (j52_21 hby 18 rfl)
  have V12 : Arv Z h12 t kt .byte (2 : Int32) [(.int (nar .byte (c0.toInt8.toInt32))), (.int 0)] (.int 0) := Arv.set Ar11 q11 S11 M11 H11 G11 (fits_nar_byte _) W12 0 rfl (Nat.le_of_ble_eq_true rfl)
  have N12 := Fr.snoc X12 (Fr.nil n0) g_t
  have Cf13 := A_bc.other W12 n_bc_t
  obtain ⟨cl14, Ar14, q14, S14, M14, H14, G14⟩ := id Cf13
  have hin14 : ¬ ((1 : Int32) < 0 ∨ cl14.slots.size ≤ ((1 : Int32)).toNatClampNeg) := inb_of S14 ⟨by decide, by decide⟩
  refine ⟨_, _, _, _, some (.int 1), X12, (fun h => nomatch h), by decide, by decide, ?_, fun fs hr => ?_⟩
  · show own_QcA2b Z bc kC dC c0 c1 t kt h0 n0 _ T12.heap _
    rw [e12]
    exact ⟨rfl, N12, ((Keep.refl h0 [t]).wr W12 (Or.inl (List.mem_of_getElem? (i := 0) rfl)))⟩
  · refine sC X0.here hx (j52_21 hby 0 rfl) ?_
    refine XS.istore X0.here hx rfl (j52_21 hby 1 rfl) rfl (l' := #[vR bc, vI 0, vR t, vI 0, vI 2, vI 0, vU]) rfl ?_
    refine sJ X0.here hx (j52_21 hby 2 rfl) ?_
    refine sJ X0.here hx (j52_21 hby 3 rfl) ?_
    refine XS.icmpNo X0.here hx rfl (j52_21 hby 4 rfl) rfl (tlt (by decide)).2.1 ?_
    refine sA X0.here hx (j52_21 hby 5 rfl) ?_
    refine sI X0.here hx (j52_21 hby 6 rfl) ?_
    refine X0.caload hx (j := (0 : Int32)) (v := (.int c0)) (by rw [e0]; exact Ar10.1) (State.isArrayOf_alike hZ.alike Ar10.2.1) Ar10.2.2 hin10 (Has.at H10 hin10 rfl) (g := (mkF m 12 #[vR bc, vI 0, vR t, vI 0, vI 2, vI 0, vU] [(.int 0), (.ref bc)])) rfl rfl (j52_21 hby 7 rfl) _ ?_
    refine XS.istore X0.here hx rfl (j52_21 hby 8 rfl) rfl (l' := #[vR bc, vI 0, vR t, vI 0, vI 2, vI 0, vI c0]) rfl ?_
    refine sJ X0.here hx (j52_21 hby 9 rfl) ?_
    refine XS.sipush X0.here hx rfl (j52_21 hby 10 rfl) ?_
    refine XS.icmpYes X0.here hx rfl (pc0 := 20) (pc' := 26) rfl (j52_21 hby 11 rfl) rfl (flt ca0).2.2.2 (by decide) (by decide) ?_
    refine sA X0.here hx (j52_21 hby 14 rfl) ?_
    refine sI X0.here hx (j52_21 hby 15 rfl) ?_
    refine sJ X0.here hx (j52_21 hby 16 rfl) ?_
    refine XS.i2b X0.here hx rfl (j52_21 hby 17 rfl) rfl ?_
    refine st12 _ ?_
    refine XS.iinc X12.here hx rfl (j52_21 hby 19 rfl) rfl (l' := #[vR bc, vI 1, vR t, vI 0, vI 2, vI 0, vI c0]) rfl ?_
    refine XS.iinc X12.here hx rfl (j52_21 hby 20 rfl) rfl (l' := #[vR bc, vI 1, vR t, vI 1, vI 2, vI 0, vI c0]) rfl ?_
    refine XS.iinc X12.here hx rfl (j52_21 hby 21 rfl) rfl (l' := #[vR bc, vI 1, vR t, vI 1, vI 2, vI 1, vI c0]) rfl ?_
    refine XS.goto X12.here hx rfl (pc0 := 41) (pc' := 3) rfl (j52_21 hby 22 rfl) (by decide) (by decide) ?_
    refine sJ X12.here hx (j52_21 hby 2 rfl) ?_
    refine sJ X12.here hx (j52_21 hby 3 rfl) ?_
    refine XS.icmpNo X12.here hx rfl (j52_21 hby 4 rfl) rfl (tlt (by decide)).2.1 ?_
    refine sA X12.here hx (j52_21 hby 5 rfl) ?_
    refine sI X12.here hx (j52_21 hby 6 rfl) ?_
    refine X12.caload hx (j := (1 : Int32)) (v := (.int c1)) (by rw [e12]; exact Ar14.1) (State.isArrayOf_alike hZ.alike Ar14.2.1) Ar14.2.2 hin14 (Has.at H14 hin14 rfl) (g := (mkF m 12 #[vR bc, vI 1, vR t, vI 1, vI 2, vI 1, vI c0] [(.int 1), (.ref bc)])) rfl rfl (j52_21 hby 7 rfl) _ ?_
    refine XS.istore X12.here hx rfl (j52_21 hby 8 rfl) rfl (l' := #[vR bc, vI 1, vR t, vI 1, vI 2, vI 1, vI c1]) rfl ?_
    refine sJ X12.here hx (j52_21 hby 9 rfl) ?_
    refine XS.sipush X12.here hx rfl (j52_21 hby 10 rfl) ?_
    refine XS.icmpNo X12.here hx rfl (j52_21 hby 11 rfl) rfl (tlt ca1).2.2.2 ?_
    refine sJ X12.here hx (j52_21 hby 12 rfl) ?_
    exact retI X12 hx hrt (j52_21 hby 13 rfl) hr
def own_QcB2b (Z : State) (bc : Addr) (kC : ClassId) (dC : Value) (c0 c1 w2 : Int32) (fm : Value) (h0 : Heap) (n0 : Nat) (v : Option Value) (h : Heap) (L : List Loc) : Prop := ∃ (t : Addr) (kt : ClassId), v = some (.ref t) ∧ Fr n0 L ∧ Ext h0 h ∧ Arv Z h t kt .byte (4 : Int32) [(oL c0), (oH c0), (oL c1), (oH c1)] (.int 0) ∧ h0.size ≤ t
theorem own_cB2b (hw : own_HW a0 Z) {bc : Addr} {kC : ClassId} {dC : Value} {c0 c1 w2 : Int32} {fm : Value}  (Z0 : n0 ≤ h0.size) (A_bc : Arv Z h0 bc kC .char (2 : Int32) [(.int c0), (.int c1)] dC) (SS : own_ST Z h0 w2 fm) (ca0 : ¬ (255 : Int32) < c0) (ca1 : (255 : Int32) < c1) (zz : nar .char (((((own_lo c1) &&& (255 : Int32)) <<< ((0 : Int32) &&& 31)) ||| (((own_hi c1) &&& (255 : Int32)) <<< ((8 : Int32) &&& 31))).toUInt32.toUInt16.toUInt32.toInt32) = c1) : own_M l Z h0 y_60 jdk_52_method_16_code 6 (some (.array .byte)) (rm 3 2 6 40) #[(.ref bc), (.int 0), (.int 2)] (own_QcB2b Z bc kC dC c0 c1 w2 fm h0 n0) := by
  refine own_go #[vR bc, vI 0, vI 2, vU, vU, vU] (plainFor_of_name own_pn4) (fun m => rfl) fun p e s m below meth c s₁ hx hby hz hZ hown hnm hrt X0 e0 => ?_
  obtain ⟨T10, h10, k10, X10, e10, E10, A10, st10⟩ := newP X0 hx hZ (ow hw 23 rfl) e0 (g := (mkF m 1 #[vR bc, vI 0, vI 2, vU, vU, vU] [(.int 2)])) rfl (j52_16 hby 1 rfl) rfl (by decide) (cap := 2) (by decide) (by decide) (by decide) (by decide)
  obtain ⟨b10, g10⟩ : ∃ z, z = h0.size := ⟨_, rfl⟩
  rw [← g10] at A10 st10
  have V10 : Arv Z h10 b10 k10 .byte (2 : Int32) [(.int 0), (.int 0)] (.int 0) := (Arv.new A10 (by decide)).pad (pad_rep [] (.int 0) 2)
  obtain ⟨_, T11, L11, X11, ⟨rfl, Nq11, K11⟩, st11⟩ := own_cs 0 X10 hx hZ hown (ow hw 24 rfl) (ow hw 25 rfl) (ow hw 21 rfl) (ow hw 26 rfl) (own_cA2b hw  (Nat.le_trans Z0 E10.1) (A_bc.ext E10) V10 (Nat.le_trans Z0 (Nat.le_of_eq g10.symm)) (Nat.ne_of_lt (Nat.lt_of_lt_of_le (A_bc).lt (Nat.le_trans (Nat.le_refl _) (Nat.le_of_eq g10.symm)))) ca0 ca1) e10 (g := (mkF m 9 #[vR bc, vI 0, vI 2, vR b10, vU, vU] [(.int 2), (.int 0), (.ref b10), (.int 0), (.ref bc)])) (rest := []) (lenOf own_pd31 rfl) (j52_16 hby 8 rfl) hz
  have Na12 := Fr.app (Fr.nil n0) Nq11
  have Xt13 : Ext h0 T11.heap := (own_xk E10 K11 ((allS (Nat.le_trans (own_xr h0).1 (Nat.le_of_eq g10.symm)) all0)))
  have Gr14 : h0.size ≤ T11.heap.size := Nat.le_trans E10.1 K11.1
  obtain ⟨_, T15, L15, X15, ⟨t_15, kt_15, rfl, Nq15, E15, Po15_0, Po15_1⟩, st15⟩ := own_cs 0 X11 hx hZ hown (ow hw 234 rfl) (ow hw 235 rfl) (ow hw 21 rfl) (ow hw 236 rfl) (own_tob2 hw  (Nat.le_trans Z0 Gr14) (A_bc.ext Xt13) (SS.ext Xt13)) rfl (g := (mkF m 23 #[vR bc, vI 0, vI 2, vR b10, vI 1, vU] [(.int 2), (.int 0), (.ref bc)])) (rest := []) (lenOf own_pd32 rfl) (j52_16 hby 16 rfl) hz
  have Na16 := Fr.app Na12 Nq15
  have Xt17 : Ext h0 T15.heap := (own_xt Xt13 E15)
  have Gr18 : h0.size ≤ T15.heap.size := Nat.le_trans Gr14 E15.1
  obtain ⟨_, T19, L19, X19, ⟨rfl, Nq19, e19⟩, st19⟩ := own_cs 0 X15 hx hZ hown (ow hw 250 rfl) (ow hw 251 rfl) (ow hw 21 rfl) (ow hw 252 rfl) (own_gc hw (1 : Int32) (2 : Int32) (3 : Int32) (own_lo c1) (own_hi c1) c1 (Nat.le_trans Z0 Gr18) Po15_0 (SS.ext Xt17) (by decide) (by decide) (by decide) (by decide) rfl rfl zz) rfl (g := (mkF m 32 #[vR bc, vI 0, vI 2, vR b10, vI 1, vR t_15] [(.int 1), (.ref t_15)])) (rest := []) (lenOf own_pd10 rfl) (j52_16 hby 20 rfl) hz
  have Na20 := Fr.app Na16 Nq19
  refine ⟨_, _, _, _, some (.ref t_15), X19, (fun h => nomatch h), by decide, by decide, ?_, fun fs hr => ?_⟩
  · show own_QcB2b Z bc kC dC c0 c1 w2 fm h0 n0 _ T19.heap _
    rw [e19]
    exact ⟨t_15, kt_15, rfl, Na20, Xt17, Po15_0, (Nat.le_trans Gr14 Po15_1)⟩
  · refine sI X0.here hx (j52_16 hby 0 rfl) ?_
    refine st10 _ ?_
    refine XS.astoreN X10.here hx rfl (j52_16 hby 2 rfl) rfl rfl (l' := #[vR bc, vI 0, vI 2, vR b10, vU, vU]) rfl ?_
    refine sA X10.here hx (j52_16 hby 3 rfl) ?_
    refine sI X10.here hx (j52_16 hby 4 rfl) ?_
    refine sA X10.here hx (j52_16 hby 5 rfl) ?_
    refine sC X10.here hx (j52_16 hby 6 rfl) ?_
    refine sI X10.here hx (j52_16 hby 7 rfl) ?_
    refine st11 _ ?_
    refine XS.istore X11.here hx rfl (j52_16 hby 9 rfl) rfl (l' := #[vR bc, vI 0, vI 2, vR b10, vI 1, vU]) rfl ?_
    refine sJ X11.here hx (j52_16 hby 10 rfl) ?_
    refine sI X11.here hx (j52_16 hby 11 rfl) ?_
    refine XS.icmpNo X11.here hx rfl (j52_16 hby 12 rfl) rfl (feq (by decide)).1 ?_
    refine sA X11.here hx (j52_16 hby 13 rfl) ?_
    refine sI X11.here hx (j52_16 hby 14 rfl) ?_
    refine sI X11.here hx (j52_16 hby 15 rfl) ?_
    refine st15 _ ?_
    refine XS.astore X15.here hx rfl (j52_16 hby 17 rfl) rfl rfl (l' := #[vR bc, vI 0, vI 2, vR b10, vI 1, vR t_15]) rfl ?_
    refine sB X15.here hx (j52_16 hby 18 rfl) ?_
    refine sJ X15.here hx (j52_16 hby 19 rfl) ?_
    refine st19 _ ?_
    refine XS.sipush X19.here hx rfl (j52_16 hby 21 rfl) ?_
    refine XS.icmpYes X19.here hx rfl (pc0 := 38) (pc' := 54) rfl (j52_16 hby 22 rfl) rfl (tlt ca1).2.2.1 (by decide) (by decide) ?_
    refine sB X19.here hx (j52_16 hby 23 rfl) ?_
    exact retR X19 hx hrt rfl rfl rfl (j52_16 hby 24 rfl) hr
def own_QcC2b (Z : State) (x : Addr) (w2 : Int32) (bc : Addr) (kC : ClassId) (dC : Value) (c0 c1 : Int32) (fm : Value) (h0 : Heap) (n0 : Nat) (v : Option Value) (h : Heap) (L : List Loc) : Prop := ∃ (t : Addr) (kt : ClassId), v = none ∧ Fr n0 L ∧ Keep h0 h [x] ∧ own_Sr Z h x t kt 1 4 [(oL c0), (oH c0), (oL c1), (oH c1)] ∧ h0.size ≤ t
theorem own_cC2b (hw : own_HW a0 Z) {x : Addr} {w2 : Int32} {bc : Addr} {kC : ClassId} {dC : Value} {c0 c1 : Int32} {fm : Value}  (Z0 : n0 ≤ h0.size) (E_x : Exa Z h0 x "java/lang/String") (F_x_value : Fld Z h0 x "java/lang/String" "value" "[B" .null) (F_x_coder : Fld Z h0 x "java/lang/String" "coder" "B" (.int 0)) (g_x : n0 ≤ x) (A_bc : Arv Z h0 bc kC .char (2 : Int32) [(.int c0), (.int c1)] dC) (SS : own_ST Z h0 w2 fm) (ca0 : ¬ (255 : Int32) < c0) (ca1 : (255 : Int32) < c1) (zz : nar .char (((((own_lo c1) &&& (255 : Int32)) <<< ((0 : Int32) &&& 31)) ||| (((own_hi c1) &&& (255 : Int32)) <<< ((8 : Int32) &&& 31))).toUInt32.toUInt16.toUInt32.toInt32) = c1) : own_M l Z h0 y_61 jdk_42_method_149_code 6 none (rm 4 2 6 57) #[(.ref x), (.ref bc), (.int 0), (.int 2), .null] (own_QcC2b Z x w2 bc kC dC c0 c1 fm h0 n0) := by
  refine own_go #[vR x, vR bc, vI 0, vI 2, .val .null, vU] (plainFor_of_name own_pn0) (fun m => rfl) fun p e s m below meth c s₁ hx hby hz hZ hown hnm hrt X0 e0 => ?_
  have P5 := SS.2.1
  obtain ⟨T10, X10, e10, st10⟩ := initO X0 hx hZ hown (ow hw 15 rfl) (ow hw 16 rfl) (ow hw 17 rfl) e0 (g := (mkF m 1 #[vR x, vR bc, vI 0, vI 2, .val .null, vU] [(.ref x)])) rfl hz rfl (j42_149 hby 1 rfl) (by decide) (W := 0) (Nat.le_of_eq rfl) (by decide)
  obtain ⟨T11, X11, e11, st11⟩ := getS2 X10 hx hZ hown (host := "") (Or.inl (ow hw 18 rfl)) Via.refl e10 SS.1 (g := (mkF m 27 #[vR x, vR bc, vI 0, vI 2, .val .null, vU] [])) rfl (j42_149 hby 4 rfl)
  obtain ⟨_, T12, L12, X12, ⟨t_12, kt_12, rfl, Nq12, E12, Po12_0, Po12_1⟩, st12⟩ := own_cs 0 X11 hx hZ hown (ow hw 19 rfl) (ow hw 20 rfl) (ow hw 21 rfl) (ow hw 22 rfl) (own_cB2b hw  Z0 A_bc SS ca0 ca1 zz) e11 (g := (mkF m 36 #[vR x, vR bc, vI 0, vI 2, .val .null, vU] [(.int 2), (.int 0), (.ref bc)])) (rest := []) (lenOf own_pd32 rfl) (j42_149 hby 9 rfl) hz
  have Na13 := Fr.app (Fr.nil n0) Nq12
  obtain ⟨_, T14, L14, X14, ⟨rfl, Nq14, e14⟩, st14⟩ := own_cs 1 X12 hx hZ hown (ow hw 27 rfl) (ow hw 28 rfl) (ow hw 21 rfl) (ow hw 29 rfl) (own_cfa2 hw  (Nat.le_trans Z0 E12.1) Po12_0) rfl (g := (mkF m 45 #[vR x, vR bc, vI 0, vI 2, .val .null, vR t_12] [(.int 2), (.ref t_12), (.ref x)])) (rest := [(.ref x)]) (lenOf own_pd33 rfl) (j42_149 hby 14 rfl) hz
  have Na15 := Fr.app Na13 Nq14
  obtain ⟨T16, h16, X16, e16, W16, st16⟩ := putFN X14 hx hZ hown (ow hw 30 rfl) Via.refl e14 (F_x_coder.ext E12) (E_x.ext E12) (Or.inr ⟨(ow hw 31 rfl), rfl, hnm⟩) (ow hw 5 rfl) (ty := .byte) (v' := (.int 1)) (by decide) rfl rfl (g := (mkF m 48 #[vR x, vR bc, vI 0, vI 2, .val .null, vR t_12] [(.int 1), (.ref x)])) rfl rfl (j42_149 hby 15 rfl)
  have Ew16 := (E_x.ext E12).wr W16
  have Fo17 := (F_x_value.ext E12).other W16 (Or.inr (slot_ne (Or.inr (ow hw 33 rfl)) (Or.inr (ow hw 31 rfl)) (by decide) (t := (.array .byte)) (t' := .byte) (by decide) (by decide)))
  have Fw16 := (F_x_coder.ext E12).same W16
  have N16 := Fr.snoc X16 Na15 g_x
  obtain ⟨T18, h18, X18, e18, W18, st18⟩ := putF X16 hx hZ hown (host := "") (Or.inl (ow hw 32 rfl)) Via.refl e16 Fo17 Ew16 (Or.inr ⟨(ow hw 33 rfl), rfl, hnm⟩) (ow hw 5 rfl) (ty := (.array .byte)) (by decide) rfl rfl (g := (mkF m 54 #[vR x, vR bc, vI 0, vI 2, .val .null, vR t_12] [(.ref t_12), (.ref x)])) rfl rfl (j42_149 hby 18 rfl)
  have Ew18 := Ew16.wr W18
  have Fw18 := Fo17.same W18
  have Fo19 := Fw16.other W18 (Or.inr (slot_ne (Or.inr (ow hw 31 rfl)) (Or.inr (ow hw 33 rfl)) (by decide) (t := .byte) (t' := (.array .byte)) (by decide) (by decide)))
  have N18 := Fr.snoc X18 N16 g_x
  have Cf20 := Po12_0.other W16 (Ne.symm (Nat.ne_of_lt (Nat.lt_of_lt_of_le (E_x).lt Po12_1)))
  have Cf21 := Cf20.other W18 (Ne.symm (Nat.ne_of_lt (Nat.lt_of_lt_of_le (E_x).lt Po12_1)))
  refine ⟨_, _, _, _, none, X18, (fun _ => rfl), by decide, by decide, ?_, fun fs hr => ?_⟩
  · show own_QcC2b Z x w2 bc kC dC c0 c1 fm h0 n0 _ T18.heap _
    rw [e18]
    exact ⟨t_12, kt_12, rfl, N18, ((((Keep.refl h0 [x]).ext E12).wr W16 (Or.inl (List.mem_of_getElem? (i := 0) rfl))).wr W18 (Or.inl (List.mem_of_getElem? (i := 0) rfl))), ⟨Ew18, Fw18, Fo19, Cf21⟩, Po12_1⟩
  · refine sA X0.here hx (j42_149 hby 0 rfl) ?_
    refine st10 _ ?_
    refine sI X10.here hx (j42_149 hby 2 rfl) ?_
    refine XS.ifYes X10.here hx rfl (pc0 := 5) (pc' := 27) rfl (j42_149 hby 3 rfl) rfl ((if0 _ _).trans (feq (by decide)).2) (by decide) (by decide) ?_
    refine st11 _ ?_
    refine XS.ifNo X11.here hx rfl (j42_149 hby 5 rfl) rfl ((if0 _ _).trans (feq P5).1) ?_
    refine sA X11.here hx (j42_149 hby 6 rfl) ?_
    refine sI X11.here hx (j42_149 hby 7 rfl) ?_
    refine sI X11.here hx (j42_149 hby 8 rfl) ?_
    refine st12 _ ?_
    refine XS.astore X12.here hx rfl (j42_149 hby 10 rfl) rfl rfl (l' := #[vR x, vR bc, vI 0, vI 2, .val .null, vR t_12]) rfl ?_
    refine sA X12.here hx (j42_149 hby 11 rfl) ?_
    refine sB X12.here hx (j42_149 hby 12 rfl) ?_
    refine sI X12.here hx (j42_149 hby 13 rfl) ?_
    refine st14 _ ?_
    refine st16 _ ?_
    refine sA X16.here hx (j42_149 hby 16 rfl) ?_
    refine sB X16.here hx (j42_149 hby 17 rfl) ?_
    refine st18 _ ?_
    exact X18.returnOut hx hrt (j42_149 hby 19 rfl) hr
def own_QnU2b (Z : State) (x : Addr) (w2 : Int32) (bc : Addr) (kC : ClassId) (dC : Value) (c0 c1 : Int32) (fm : Value) (h0 : Heap) (n0 : Nat) (v : Option Value) (h : Heap) (L : List Loc) : Prop := ∃ (t : Addr) (kt : ClassId), v = none ∧ Fr n0 L ∧ Keep h0 h [x] ∧ own_Sr Z h x t kt 1 4 [(oL c0), (oH c0), (oL c1), (oH c1)] ∧ h0.size ≤ t
theorem own_nU2b (hw : own_HW a0 Z) {x : Addr} {w2 : Int32} {bc : Addr} {kC : ClassId} {dC : Value} {c0 c1 : Int32} {fm : Value}  (Z0 : n0 ≤ h0.size) (E_x : Exa Z h0 x "java/lang/String") (F_x_value : Fld Z h0 x "java/lang/String" "value" "[B" .null) (F_x_coder : Fld Z h0 x "java/lang/String" "coder" "B" (.int 0)) (g_x : n0 ≤ x) (A_bc : Arv Z h0 bc kC .char (2 : Int32) [(.int c0), (.int c1)] dC) (SS : own_ST Z h0 w2 fm) (ca0 : ¬ (255 : Int32) < c0) (ca1 : (255 : Int32) < c1) (zz : nar .char (((((own_lo c1) &&& (255 : Int32)) <<< ((0 : Int32) &&& 31)) ||| (((own_hi c1) &&& (255 : Int32)) <<< ((8 : Int32) &&& 31))).toUInt32.toUInt16.toUInt32.toInt32) = c1) : own_M l Z h0 y_62 jdk_42_method_3_code 2 none (rm 5 2 6 74) #[(.ref x), (.ref bc)] (own_QnU2b Z x w2 bc kC dC c0 c1 fm h0 n0) := by
  refine own_go #[vR x, vR bc] (plainFor_of_name own_pn0) (fun m => rfl) fun p e s m below meth c s₁ hx hby hz hZ hown hnm hrt X0 e0 => ?_
  obtain ⟨cl10, Ar10, q10, S10, M10, H10, G10⟩ := id A_bc
  obtain ⟨_, T11, L11, X11, ⟨t_11, kt_11, rfl, Nq11, K11, Po11_0, Po11_1⟩, st11⟩ := own_cp 0 X0 hx hZ hown (ow hw 11 rfl) (ow hw 12 rfl) (ow hw 6 rfl) (ow hw 14 rfl) (own_cC2b hw  Z0 E_x F_x_value F_x_coder g_x A_bc SS ca0 ca1 zz) e0 (g := (mkF m 6 #[vR x, vR bc] [.null, (.int 2), (.int 0), (.ref bc), (.ref x)])) (rest := []) (lenOf own_pd34 rfl) (j42_3 hby 6 rfl) hz
  have Na12 := Fr.app (Fr.nil n0) Nq11
  refine ⟨_, _, _, _, none, X11, (fun _ => rfl), by decide, by decide, ?_, fun fs hr => ?_⟩
  · show own_QnU2b Z x w2 bc kC dC c0 c1 fm h0 n0 _ T11.heap _
    exact ⟨t_11, kt_11, rfl, Na12, ((Keep.refl h0 [x]).trans K11 ((allS (Or.inl (List.mem_of_getElem? (i := 0) rfl)) all0))), Po11_0, Po11_1⟩
  · refine sA X0.here hx (j42_3 hby 0 rfl) ?_
    refine sA X0.here hx (j42_3 hby 1 rfl) ?_
    refine sC X0.here hx (j42_3 hby 2 rfl) ?_
    refine sA X0.here hx (j42_3 hby 3 rfl) ?_
    refine X0.arraylength hx (by rw [e0]; exact Ar10.1) (State.isArrayOf_alike hZ.alike Ar10.2.1) (g := (mkF m 4 #[vR x, vR bc] [(.ref bc), (.int 0), (.ref bc), (.ref x)])) rfl rfl (j42_3 hby 4 rfl) _ ?_
    rw [len_of S10 M10]
    refine XS.aconstNull X0.here hx rfl (j42_3 hby 5 rfl) ?_
    refine st11 _ ?_
    exact X11.returnOut hx hrt (j42_3 hby 7 rfl) hr
def own_b (c : Int32) : Int32 := nar .byte (c.toInt8.toInt32)
def own_QcAL1 (Z : State) (bc : Addr) (kC : ClassId) (dC : Value) (c0 : Int32) (t : Addr) (kt : ClassId) (h0 : Heap) (n0 : Nat) (v : Option Value) (h : Heap) (L : List Loc) : Prop := v = some (.int 1) ∧ Fr n0 L ∧ Keep h0 h [t] ∧ Arv Z h t kt .byte (1 : Int32) [(.int (own_b c0))] (.int 0)
theorem own_cAL1 (hw : own_HW a0 Z) {bc : Addr} {kC : ClassId} {dC : Value} {c0 : Int32} {t : Addr} {kt : ClassId}  (Z0 : n0 ≤ h0.size) (A_bc : Arv Z h0 bc kC .char (1 : Int32) [(.int c0)] dC) (A_t : Arv Z h0 t kt .byte (1 : Int32) [(.int 0)] (.int 0)) (g_t : n0 ≤ t) (n_bc_t : bc ≠ t) (ca0 : ¬ (255 : Int32) < c0) : own_M l Z h0 y_59 jdk_52_method_21_code 7 (some .int) (rm 0 0 0 0) #[(.ref bc), (.int 0), (.ref t), (.int 0), (.int 1)] (own_QcAL1 Z bc kC dC c0 t kt h0 n0) := by
  refine own_go #[vR bc, vI 0, vR t, vI 0, vI 1, vU, vU] (plainFor_of_name own_pn4) (fun m => rfl) fun p e s m below meth c s₁ hx hby hz hZ hown hnm hrt X0 e0 => ?_
  obtain ⟨cl10, Ar10, q10, S10, M10, H10, G10⟩ := id A_bc
  have hin10 : ¬ ((0 : Int32) < 0 ∨ cl10.slots.size ≤ ((0 : Int32)).toNatClampNeg) := inb_of S10 ⟨by decide, by decide⟩
  obtain ⟨cl11, Ar11, q11, S11, M11, H11, G11⟩ := id A_t
  obtain ⟨T12, h12, X12, e12, W12, st12⟩ := stB X0 hx hZ e0 Ar11 (j := (0 : Int32)) (inb_of S11 ⟨by decide, by decide⟩) (g := (mkF m 31 #[vR bc, vI 0, vR t, vI 0, vI 1, vI 0, vI c0] [(.int (c0.toInt8.toInt32)), (.int 0), (.ref t)])) rfl rfl (j52_21 hby 18 rfl)
  have V12 : Arv Z h12 t kt .byte (1 : Int32) [(.int (nar .byte (c0.toInt8.toInt32)))] (.int 0) := Arv.set Ar11 q11 S11 M11 H11 G11 (fits_nar_byte _) W12 0 rfl (Nat.le_of_ble_eq_true rfl)
  have N12 := Fr.snoc X12 (Fr.nil n0) g_t
  refine ⟨_, _, _, _, some (.int 1), X12, (fun h => nomatch h), by decide, by decide, ?_, fun fs hr => ?_⟩
  · show own_QcAL1 Z bc kC dC c0 t kt h0 n0 _ T12.heap _
    rw [e12]
    exact ⟨rfl, N12, ((Keep.refl h0 [t]).wr W12 (Or.inl (List.mem_of_getElem? (i := 0) rfl))), V12⟩
  · refine sC X0.here hx (j52_21 hby 0 rfl) ?_
    refine XS.istore X0.here hx rfl (j52_21 hby 1 rfl) rfl (l' := #[vR bc, vI 0, vR t, vI 0, vI 1, vI 0, vU]) rfl ?_
    refine sJ X0.here hx (j52_21 hby 2 rfl) ?_
    refine sJ X0.here hx (j52_21 hby 3 rfl) ?_
    refine XS.icmpNo X0.here hx rfl (j52_21 hby 4 rfl) rfl (tlt (by decide)).2.1 ?_
    refine sA X0.here hx (j52_21 hby 5 rfl) ?_
    refine sI X0.here hx (j52_21 hby 6 rfl) ?_
    refine X0.caload hx (j := (0 : Int32)) (v := (.int c0)) (by rw [e0]; exact Ar10.1) (State.isArrayOf_alike hZ.alike Ar10.2.1) Ar10.2.2 hin10 (Has.at H10 hin10 rfl) (g := (mkF m 12 #[vR bc, vI 0, vR t, vI 0, vI 1, vI 0, vU] [(.int 0), (.ref bc)])) rfl rfl (j52_21 hby 7 rfl) _ ?_
    refine XS.istore X0.here hx rfl (j52_21 hby 8 rfl) rfl (l' := #[vR bc, vI 0, vR t, vI 0, vI 1, vI 0, vI c0]) rfl ?_
    refine sJ X0.here hx (j52_21 hby 9 rfl) ?_
    refine XS.sipush X0.here hx rfl (j52_21 hby 10 rfl) ?_
    refine XS.icmpYes X0.here hx rfl (pc0 := 20) (pc' := 26) rfl (j52_21 hby 11 rfl) rfl (flt ca0).2.2.2 (by decide) (by decide) ?_
    refine sA X0.here hx (j52_21 hby 14 rfl) ?_
    refine sI X0.here hx (j52_21 hby 15 rfl) ?_
    refine sJ X0.here hx (j52_21 hby 16 rfl) ?_
    refine XS.i2b X0.here hx rfl (j52_21 hby 17 rfl) rfl ?_
    refine st12 _ ?_
    refine XS.iinc X12.here hx rfl (j52_21 hby 19 rfl) rfl (l' := #[vR bc, vI 1, vR t, vI 0, vI 1, vI 0, vI c0]) rfl ?_
    refine XS.iinc X12.here hx rfl (j52_21 hby 20 rfl) rfl (l' := #[vR bc, vI 1, vR t, vI 1, vI 1, vI 0, vI c0]) rfl ?_
    refine XS.iinc X12.here hx rfl (j52_21 hby 21 rfl) rfl (l' := #[vR bc, vI 1, vR t, vI 1, vI 1, vI 1, vI c0]) rfl ?_
    refine XS.goto X12.here hx rfl (pc0 := 41) (pc' := 3) rfl (j52_21 hby 22 rfl) (by decide) (by decide) ?_
    refine sJ X12.here hx (j52_21 hby 2 rfl) ?_
    refine sJ X12.here hx (j52_21 hby 3 rfl) ?_
    refine XS.icmpYes X12.here hx rfl (pc0 := 7) (pc' := 44) rfl (j52_21 hby 4 rfl) rfl (flt (by decide)).2.1 (by decide) (by decide) ?_
    refine sJ X12.here hx (j52_21 hby 23 rfl) ?_
    exact retI X12 hx hrt (j52_21 hby 24 rfl) hr
def own_QcBL1 (Z : State) (bc : Addr) (kC : ClassId) (dC : Value) (c0 : Int32) (h0 : Heap) (n0 : Nat) (v : Option Value) (h : Heap) (L : List Loc) : Prop := ∃ (t : Addr) (kt : ClassId), v = some (.ref t) ∧ Fr n0 L ∧ Ext h0 h ∧ Arv Z h t kt .byte (1 : Int32) [(.int (own_b c0))] (.int 0) ∧ h0.size ≤ t
theorem own_cBL1 (hw : own_HW a0 Z) {bc : Addr} {kC : ClassId} {dC : Value} {c0 : Int32}  (Z0 : n0 ≤ h0.size) (A_bc : Arv Z h0 bc kC .char (1 : Int32) [(.int c0)] dC) (ca0 : ¬ (255 : Int32) < c0) : own_M l Z h0 y_60 jdk_52_method_16_code 6 (some (.array .byte)) (rm 1 1 1 18) #[(.ref bc), (.int 0), (.int 1)] (own_QcBL1 Z bc kC dC c0 h0 n0) := by
  refine own_go #[vR bc, vI 0, vI 1, vU, vU, vU] (plainFor_of_name own_pn4) (fun m => rfl) fun p e s m below meth c s₁ hx hby hz hZ hown hnm hrt X0 e0 => ?_
  obtain ⟨T10, h10, k10, X10, e10, E10, A10, st10⟩ := newP X0 hx hZ (ow hw 23 rfl) e0 (g := (mkF m 1 #[vR bc, vI 0, vI 1, vU, vU, vU] [(.int 1)])) rfl (j52_16 hby 1 rfl) rfl (by decide) (cap := 1) (by decide) (by decide) (by decide) (by decide)
  obtain ⟨b10, g10⟩ : ∃ z, z = h0.size := ⟨_, rfl⟩
  rw [← g10] at A10 st10
  have V10 : Arv Z h10 b10 k10 .byte (1 : Int32) [(.int 0)] (.int 0) := (Arv.new A10 (by decide)).pad (pad_rep [] (.int 0) 1)
  obtain ⟨_, T11, L11, X11, ⟨rfl, Nq11, K11, Po11_0⟩, st11⟩ := own_cs 0 X10 hx hZ hown (ow hw 24 rfl) (ow hw 25 rfl) (ow hw 21 rfl) (ow hw 26 rfl) (own_cAL1 hw  (Nat.le_trans Z0 E10.1) (A_bc.ext E10) V10 (Nat.le_trans Z0 (Nat.le_of_eq g10.symm)) (Nat.ne_of_lt (Nat.lt_of_lt_of_le (A_bc).lt (Nat.le_trans (Nat.le_refl _) (Nat.le_of_eq g10.symm)))) ca0) e10 (g := (mkF m 9 #[vR bc, vI 0, vI 1, vR b10, vU, vU] [(.int 1), (.int 0), (.ref b10), (.int 0), (.ref bc)])) (rest := []) (lenOf own_pd31 rfl) (j52_16 hby 8 rfl) hz
  have Na12 := Fr.app (Fr.nil n0) Nq11
  have Xt13 : Ext h0 T11.heap := (own_xk E10 K11 ((allS (Nat.le_trans (own_xr h0).1 (Nat.le_of_eq g10.symm)) all0)))
  refine ⟨_, _, _, _, some (.ref b10), X11, (fun h => nomatch h), by decide, by decide, ?_, fun fs hr => ?_⟩
  · show own_QcBL1 Z bc kC dC c0 h0 n0 _ T11.heap _
    exact ⟨b10, k10, rfl, Na12, Xt13, Po11_0, (Nat.le_trans (Nat.le_refl _) (Nat.le_of_eq g10.symm))⟩
  · refine sI X0.here hx (j52_16 hby 0 rfl) ?_
    refine st10 _ ?_
    refine XS.astoreN X10.here hx rfl (j52_16 hby 2 rfl) rfl rfl (l' := #[vR bc, vI 0, vI 1, vR b10, vU, vU]) rfl ?_
    refine sA X10.here hx (j52_16 hby 3 rfl) ?_
    refine sI X10.here hx (j52_16 hby 4 rfl) ?_
    refine sA X10.here hx (j52_16 hby 5 rfl) ?_
    refine sC X10.here hx (j52_16 hby 6 rfl) ?_
    refine sI X10.here hx (j52_16 hby 7 rfl) ?_
    refine st11 _ ?_
    refine XS.istore X11.here hx rfl (j52_16 hby 9 rfl) rfl (l' := #[vR bc, vI 0, vI 1, vR b10, vI 1, vU]) rfl ?_
    refine sJ X11.here hx (j52_16 hby 10 rfl) ?_
    refine sI X11.here hx (j52_16 hby 11 rfl) ?_
    refine XS.icmpYes X11.here hx rfl (pc0 := 17) (pc' := 57) rfl (j52_16 hby 12 rfl) rfl (teq rfl).1 (by decide) (by decide) ?_
    refine sA X11.here hx (j52_16 hby 25 rfl) ?_
    exact retR X11 hx hrt rfl rfl rfl (j52_16 hby 26 rfl) hr
def own_Qcfl1 (Z : State) (t : Addr) (kt : ClassId) (vs : List Value) (h0 : Heap) (n0 : Nat) (v : Option Value) (h : Heap) (L : List Loc) : Prop := v = some (.int 0) ∧ Fr n0 L ∧ h = h0
theorem own_cfl1 (hw : own_HW a0 Z) {t : Addr} {kt : ClassId} {vs : List Value}  (Z0 : n0 ≤ h0.size) (A_t : Arv Z h0 t kt .byte (1 : Int32) vs (.int 0)) : own_M l Z h0 y_58 jdk_52_method_15_code 2 (some .byte) (rm 0 0 0 0) #[(.ref t), (.int 1)] (own_Qcfl1 Z t kt vs h0 n0) := by
  refine own_go #[vR t, vI 1] (plainFor_of_name own_pn4) (fun m => rfl) fun p e s m below meth c s₁ hx hby hz hZ hown hnm hrt X0 e0 => ?_
  obtain ⟨cl10, Ar10, q10, S10, M10, H10, G10⟩ := id A_t
  refine ⟨_, _, _, _, some (.int 0), X0, (fun h => nomatch h), by decide, by decide, ?_, fun fs hr => ?_⟩
  · show own_Qcfl1 Z t kt vs h0 n0 _ s₁.heap _
    rw [e0]
    exact ⟨rfl, (Fr.nil n0), rfl⟩
  · refine sI X0.here hx (j52_15 hby 0 rfl) ?_
    refine sA X0.here hx (j52_15 hby 1 rfl) ?_
    refine X0.arraylength hx (by rw [e0]; exact Ar10.1) (State.isArrayOf_alike hZ.alike Ar10.2.1) (g := (mkF m 2 #[vR t, vI 1] [(.ref t), (.int 1)])) rfl rfl (j52_15 hby 2 rfl) _ ?_
    rw [len_of S10 M10]
    refine XS.isub X0.here hx rfl (j52_15 hby 3 rfl) rfl ?_
    refine XS.bipush X0.here hx rfl (j52_15 hby 4 rfl) ?_
    refine XS.iushr X0.here hx rfl (j52_15 hby 5 rfl) rfl ?_
    refine XS.i2b X0.here hx rfl (j52_15 hby 6 rfl) rfl ?_
    show Steps p.tables e below (s₁.setTop (mkF m 8 #[vR t, vI 1] [(.int ((((0 : Int32).toUInt32 >>> ((31 : Int32) &&& 31).toUInt32).toInt32).toInt8.toInt32))])) _
    rw [(by decide : ((((0 : Int32).toUInt32 >>> ((31 : Int32) &&& 31).toUInt32).toInt32).toInt8.toInt32) = (0 : Int32))]
    exact retN X0 hx (t := .byte) hrt (by simp) (j52_15 hby 7 rfl) hr
def own_QcCL1 (Z : State) (x : Addr) (w2 : Int32) (bc : Addr) (kC : ClassId) (dC : Value) (c0 : Int32) (fm : Value) (h0 : Heap) (n0 : Nat) (v : Option Value) (h : Heap) (L : List Loc) : Prop := ∃ (t : Addr) (kt : ClassId), v = none ∧ Fr n0 L ∧ Keep h0 h [x] ∧ own_Sr Z h x t kt 0 1 [(.int (own_b c0))] ∧ h0.size ≤ t
theorem own_cCL1 (hw : own_HW a0 Z) {x : Addr} {w2 : Int32} {bc : Addr} {kC : ClassId} {dC : Value} {c0 : Int32} {fm : Value}  (Z0 : n0 ≤ h0.size) (E_x : Exa Z h0 x "java/lang/String") (F_x_value : Fld Z h0 x "java/lang/String" "value" "[B" .null) (F_x_coder : Fld Z h0 x "java/lang/String" "coder" "B" (.int 0)) (g_x : n0 ≤ x) (A_bc : Arv Z h0 bc kC .char (1 : Int32) [(.int c0)] dC) (SS : own_ST Z h0 w2 fm) (ca0 : ¬ (255 : Int32) < c0) : own_M l Z h0 y_61 jdk_42_method_149_code 6 none (rm 2 1 1 35) #[(.ref x), (.ref bc), (.int 0), (.int 1), .null] (own_QcCL1 Z x w2 bc kC dC c0 fm h0 n0) := by
  refine own_go #[vR x, vR bc, vI 0, vI 1, .val .null, vU] (plainFor_of_name own_pn0) (fun m => rfl) fun p e s m below meth c s₁ hx hby hz hZ hown hnm hrt X0 e0 => ?_
  have P5 := SS.2.1
  obtain ⟨T10, X10, e10, st10⟩ := initO X0 hx hZ hown (ow hw 15 rfl) (ow hw 16 rfl) (ow hw 17 rfl) e0 (g := (mkF m 1 #[vR x, vR bc, vI 0, vI 1, .val .null, vU] [(.ref x)])) rfl hz rfl (j42_149 hby 1 rfl) (by decide) (W := 0) (Nat.le_of_eq rfl) (by decide)
  obtain ⟨T11, X11, e11, st11⟩ := getS2 X10 hx hZ hown (host := "") (Or.inl (ow hw 18 rfl)) Via.refl e10 SS.1 (g := (mkF m 27 #[vR x, vR bc, vI 0, vI 1, .val .null, vU] [])) rfl (j42_149 hby 4 rfl)
  obtain ⟨_, T12, L12, X12, ⟨t_12, kt_12, rfl, Nq12, E12, Po12_0, Po12_1⟩, st12⟩ := own_cs 0 X11 hx hZ hown (ow hw 19 rfl) (ow hw 20 rfl) (ow hw 21 rfl) (ow hw 22 rfl) (own_cBL1 hw  Z0 A_bc ca0) e11 (g := (mkF m 36 #[vR x, vR bc, vI 0, vI 1, .val .null, vU] [(.int 1), (.int 0), (.ref bc)])) (rest := []) (lenOf own_pd32 rfl) (j42_149 hby 9 rfl) hz
  have Na13 := Fr.app (Fr.nil n0) Nq12
  obtain ⟨_, T14, L14, X14, ⟨rfl, Nq14, e14⟩, st14⟩ := own_cs 1 X12 hx hZ hown (ow hw 27 rfl) (ow hw 28 rfl) (ow hw 21 rfl) (ow hw 29 rfl) (own_cfl1 hw  (Nat.le_trans Z0 E12.1) Po12_0) rfl (g := (mkF m 45 #[vR x, vR bc, vI 0, vI 1, .val .null, vR t_12] [(.int 1), (.ref t_12), (.ref x)])) (rest := [(.ref x)]) (lenOf own_pd33 rfl) (j42_149 hby 14 rfl) hz
  have Na15 := Fr.app Na13 Nq14
  obtain ⟨T16, h16, X16, e16, W16, st16⟩ := putFN X14 hx hZ hown (ow hw 30 rfl) Via.refl e14 (F_x_coder.ext E12) (E_x.ext E12) (Or.inr ⟨(ow hw 31 rfl), rfl, hnm⟩) (ow hw 5 rfl) (ty := .byte) (v' := (.int 0)) (by decide) rfl rfl (g := (mkF m 48 #[vR x, vR bc, vI 0, vI 1, .val .null, vR t_12] [(.int 0), (.ref x)])) rfl rfl (j42_149 hby 15 rfl)
  have Ew16 := (E_x.ext E12).wr W16
  have Fo17 := (F_x_value.ext E12).other W16 (Or.inr (slot_ne (Or.inr (ow hw 33 rfl)) (Or.inr (ow hw 31 rfl)) (by decide) (t := (.array .byte)) (t' := .byte) (by decide) (by decide)))
  have Fw16 := (F_x_coder.ext E12).same W16
  have N16 := Fr.snoc X16 Na15 g_x
  obtain ⟨T18, h18, X18, e18, W18, st18⟩ := putF X16 hx hZ hown (host := "") (Or.inl (ow hw 32 rfl)) Via.refl e16 Fo17 Ew16 (Or.inr ⟨(ow hw 33 rfl), rfl, hnm⟩) (ow hw 5 rfl) (ty := (.array .byte)) (by decide) rfl rfl (g := (mkF m 54 #[vR x, vR bc, vI 0, vI 1, .val .null, vR t_12] [(.ref t_12), (.ref x)])) rfl rfl (j42_149 hby 18 rfl)
  have Ew18 := Ew16.wr W18
  have Fw18 := Fo17.same W18
  have Fo19 := Fw16.other W18 (Or.inr (slot_ne (Or.inr (ow hw 31 rfl)) (Or.inr (ow hw 33 rfl)) (by decide) (t := .byte) (t' := (.array .byte)) (by decide) (by decide)))
  have N18 := Fr.snoc X18 N16 g_x
  have Cf20 := Po12_0.other W16 (Ne.symm (Nat.ne_of_lt (Nat.lt_of_lt_of_le (E_x).lt Po12_1)))
  have Cf21 := Cf20.other W18 (Ne.symm (Nat.ne_of_lt (Nat.lt_of_lt_of_le (E_x).lt Po12_1)))
  refine ⟨_, _, _, _, none, X18, (fun _ => rfl), by decide, by decide, ?_, fun fs hr => ?_⟩
  · show own_QcCL1 Z x w2 bc kC dC c0 fm h0 n0 _ T18.heap _
    rw [e18]
    exact ⟨t_12, kt_12, rfl, N18, ((((Keep.refl h0 [x]).ext E12).wr W16 (Or.inl (List.mem_of_getElem? (i := 0) rfl))).wr W18 (Or.inl (List.mem_of_getElem? (i := 0) rfl))), ⟨Ew18, Fw18, Fo19, Cf21⟩, Po12_1⟩
  · refine sA X0.here hx (j42_149 hby 0 rfl) ?_
    refine st10 _ ?_
    refine sI X10.here hx (j42_149 hby 2 rfl) ?_
    refine XS.ifYes X10.here hx rfl (pc0 := 5) (pc' := 27) rfl (j42_149 hby 3 rfl) rfl ((if0 _ _).trans (feq (by decide)).2) (by decide) (by decide) ?_
    refine st11 _ ?_
    refine XS.ifNo X11.here hx rfl (j42_149 hby 5 rfl) rfl ((if0 _ _).trans (feq P5).1) ?_
    refine sA X11.here hx (j42_149 hby 6 rfl) ?_
    refine sI X11.here hx (j42_149 hby 7 rfl) ?_
    refine sI X11.here hx (j42_149 hby 8 rfl) ?_
    refine st12 _ ?_
    refine XS.astore X12.here hx rfl (j42_149 hby 10 rfl) rfl rfl (l' := #[vR x, vR bc, vI 0, vI 1, .val .null, vR t_12]) rfl ?_
    refine sA X12.here hx (j42_149 hby 11 rfl) ?_
    refine sB X12.here hx (j42_149 hby 12 rfl) ?_
    refine sI X12.here hx (j42_149 hby 13 rfl) ?_
    refine st14 _ ?_
    refine st16 _ ?_
    refine sA X16.here hx (j42_149 hby 16 rfl) ?_
    refine sB X16.here hx (j42_149 hby 17 rfl) ?_
    refine st18 _ ?_
    exact X18.returnOut hx hrt (j42_149 hby 19 rfl) hr
def own_QnL1 (Z : State) (x : Addr) (w2 : Int32) (bc : Addr) (kC : ClassId) (dC : Value) (c0 : Int32) (fm : Value) (h0 : Heap) (n0 : Nat) (v : Option Value) (h : Heap) (L : List Loc) : Prop := ∃ (t : Addr) (kt : ClassId), v = none ∧ Fr n0 L ∧ Keep h0 h [x] ∧ own_Sr Z h x t kt 0 1 [(.int (own_b c0))] ∧ h0.size ≤ t
theorem own_nL1 (hw : own_HW a0 Z) {x : Addr} {w2 : Int32} {bc : Addr} {kC : ClassId} {dC : Value} {c0 : Int32} {fm : Value}  (Z0 : n0 ≤ h0.size) (E_x : Exa Z h0 x "java/lang/String") (F_x_value : Fld Z h0 x "java/lang/String" "value" "[B" .null) (F_x_coder : Fld Z h0 x "java/lang/String" "coder" "B" (.int 0)) (g_x : n0 ≤ x) (A_bc : Arv Z h0 bc kC .char (1 : Int32) [(.int c0)] dC) (SS : own_ST Z h0 w2 fm) (ca0 : ¬ (255 : Int32) < c0) : own_M l Z h0 y_62 jdk_42_method_3_code 2 none (rm 5 2 3 74) #[(.ref x), (.ref bc)] (own_QnL1 Z x w2 bc kC dC c0 fm h0 n0) := by
  refine own_go #[vR x, vR bc] (plainFor_of_name own_pn0) (fun m => rfl) fun p e s m below meth c s₁ hx hby hz hZ hown hnm hrt X0 e0 => ?_
  obtain ⟨cl10, Ar10, q10, S10, M10, H10, G10⟩ := id A_bc
  obtain ⟨_, T11, L11, X11, ⟨t_11, kt_11, rfl, Nq11, K11, Po11_0, Po11_1⟩, st11⟩ := own_cp 0 X0 hx hZ hown (ow hw 11 rfl) (ow hw 12 rfl) (ow hw 6 rfl) (ow hw 14 rfl) (own_cCL1 hw  Z0 E_x F_x_value F_x_coder g_x A_bc SS ca0) e0 (g := (mkF m 6 #[vR x, vR bc] [.null, (.int 1), (.int 0), (.ref bc), (.ref x)])) (rest := []) (lenOf own_pd34 rfl) (j42_3 hby 6 rfl) hz
  have Na12 := Fr.app (Fr.nil n0) Nq11
  refine ⟨_, _, _, _, none, X11, (fun _ => rfl), by decide, by decide, ?_, fun fs hr => ?_⟩
  · show own_QnL1 Z x w2 bc kC dC c0 fm h0 n0 _ T11.heap _
    exact ⟨t_11, kt_11, rfl, Na12, ((Keep.refl h0 [x]).trans K11 ((allS (Or.inl (List.mem_of_getElem? (i := 0) rfl)) all0))), Po11_0, Po11_1⟩
  · refine sA X0.here hx (j42_3 hby 0 rfl) ?_
    refine sA X0.here hx (j42_3 hby 1 rfl) ?_
    refine sC X0.here hx (j42_3 hby 2 rfl) ?_
    refine sA X0.here hx (j42_3 hby 3 rfl) ?_
    refine X0.arraylength hx (by rw [e0]; exact Ar10.1) (State.isArrayOf_alike hZ.alike Ar10.2.1) (g := (mkF m 4 #[vR x, vR bc] [(.ref bc), (.int 0), (.ref bc), (.ref x)])) rfl rfl (j42_3 hby 4 rfl) _ ?_
    rw [len_of S10 M10]
    refine XS.aconstNull X0.here hx rfl (j42_3 hby 5 rfl) ?_
    refine st11 _ ?_
    exact X11.returnOut hx hrt (j42_3 hby 7 rfl) hr
def own_QcAL2 (Z : State) (bc : Addr) (kC : ClassId) (dC : Value) (c0 c1 : Int32) (t : Addr) (kt : ClassId) (h0 : Heap) (n0 : Nat) (v : Option Value) (h : Heap) (L : List Loc) : Prop := v = some (.int 2) ∧ Fr n0 L ∧ Keep h0 h [t] ∧ Arv Z h t kt .byte (2 : Int32) [(.int (own_b c0)), (.int (own_b c1))] (.int 0)
theorem own_cAL2 (hw : own_HW a0 Z) {bc : Addr} {kC : ClassId} {dC : Value} {c0 c1 : Int32} {t : Addr} {kt : ClassId}  (Z0 : n0 ≤ h0.size) (A_bc : Arv Z h0 bc kC .char (2 : Int32) [(.int c0), (.int c1)] dC) (A_t : Arv Z h0 t kt .byte (2 : Int32) [(.int 0), (.int 0)] (.int 0)) (g_t : n0 ≤ t) (n_bc_t : bc ≠ t) (ca0 : ¬ (255 : Int32) < c0) (ca1 : ¬ (255 : Int32) < c1) : own_M l Z h0 y_59 jdk_52_method_21_code 7 (some .int) (rm 0 0 0 0) #[(.ref bc), (.int 0), (.ref t), (.int 0), (.int 2)] (own_QcAL2 Z bc kC dC c0 c1 t kt h0 n0) := by
  refine own_go #[vR bc, vI 0, vR t, vI 0, vI 2, vU, vU] (plainFor_of_name own_pn4) (fun m => rfl) fun p e s m below meth c s₁ hx hby hz hZ hown hnm hrt X0 e0 => ?_
  obtain ⟨cl10, Ar10, q10, S10, M10, H10, G10⟩ := id A_bc
  have hin10 : ¬ ((0 : Int32) < 0 ∨ cl10.slots.size ≤ ((0 : Int32)).toNatClampNeg) := inb_of S10 ⟨by decide, by decide⟩
  obtain ⟨cl11, Ar11, q11, S11, M11, H11, G11⟩ := id A_t
  obtain ⟨T12, h12, X12, e12, W12, st12⟩ := stB X0 hx hZ e0 Ar11 (j := (0 : Int32)) (inb_of S11 ⟨by decide, by decide⟩) (g := (mkF m 31 #[vR bc, vI 0, vR t, vI 0, vI 2, vI 0, vI c0] [(.int (c0.toInt8.toInt32)), (.int 0), (.ref t)])) rfl rfl (j52_21 hby 18 rfl)
  have V12 : Arv Z h12 t kt .byte (2 : Int32) [(.int (nar .byte (c0.toInt8.toInt32))), (.int 0)] (.int 0) := Arv.set Ar11 q11 S11 M11 H11 G11 (fits_nar_byte _) W12 0 rfl (Nat.le_of_ble_eq_true rfl)
  have N12 := Fr.snoc X12 (Fr.nil n0) g_t
  have Cf13 := A_bc.other W12 n_bc_t
  obtain ⟨cl14, Ar14, q14, S14, M14, H14, G14⟩ := id Cf13
  have hin14 : ¬ ((1 : Int32) < 0 ∨ cl14.slots.size ≤ ((1 : Int32)).toNatClampNeg) := inb_of S14 ⟨by decide, by decide⟩
  obtain ⟨cl15, Ar15, q15, S15, M15, H15, G15⟩ := id V12
  obtain ⟨T16, h16, X16, e16, W16, st16⟩ := stB X12 hx hZ e12 Ar15 (j := (1 : Int32)) (inb_of S15 ⟨by decide, by decide⟩) (g := (mkF m 31 #[vR bc, vI 1, vR t, vI 1, vI 2, vI 1, vI c1] [(.int (c1.toInt8.toInt32)), (.int 1), (.ref t)])) rfl rfl (j52_21 hby 18 rfl)
  have V16 : Arv Z h16 t kt .byte (2 : Int32) [(.int (nar .byte (c0.toInt8.toInt32))), (.int (nar .byte (c1.toInt8.toInt32)))] (.int 0) := Arv.set Ar15 q15 S15 M15 H15 G15 (fits_nar_byte _) W16 1 rfl (Nat.le_of_ble_eq_true rfl)
  have N16 := Fr.snoc X16 N12 g_t
  refine ⟨_, _, _, _, some (.int 2), X16, (fun h => nomatch h), by decide, by decide, ?_, fun fs hr => ?_⟩
  · show own_QcAL2 Z bc kC dC c0 c1 t kt h0 n0 _ T16.heap _
    rw [e16]
    exact ⟨rfl, N16, (((Keep.refl h0 [t]).wr W12 (Or.inl (List.mem_of_getElem? (i := 0) rfl))).wr W16 (Or.inl (List.mem_of_getElem? (i := 0) rfl))), V16⟩
  · refine sC X0.here hx (j52_21 hby 0 rfl) ?_
    refine XS.istore X0.here hx rfl (j52_21 hby 1 rfl) rfl (l' := #[vR bc, vI 0, vR t, vI 0, vI 2, vI 0, vU]) rfl ?_
    refine sJ X0.here hx (j52_21 hby 2 rfl) ?_
    refine sJ X0.here hx (j52_21 hby 3 rfl) ?_
    refine XS.icmpNo X0.here hx rfl (j52_21 hby 4 rfl) rfl (tlt (by decide)).2.1 ?_
    refine sA X0.here hx (j52_21 hby 5 rfl) ?_
    refine sI X0.here hx (j52_21 hby 6 rfl) ?_
    refine X0.caload hx (j := (0 : Int32)) (v := (.int c0)) (by rw [e0]; exact Ar10.1) (State.isArrayOf_alike hZ.alike Ar10.2.1) Ar10.2.2 hin10 (Has.at H10 hin10 rfl) (g := (mkF m 12 #[vR bc, vI 0, vR t, vI 0, vI 2, vI 0, vU] [(.int 0), (.ref bc)])) rfl rfl (j52_21 hby 7 rfl) _ ?_
    refine XS.istore X0.here hx rfl (j52_21 hby 8 rfl) rfl (l' := #[vR bc, vI 0, vR t, vI 0, vI 2, vI 0, vI c0]) rfl ?_
    refine sJ X0.here hx (j52_21 hby 9 rfl) ?_
    refine XS.sipush X0.here hx rfl (j52_21 hby 10 rfl) ?_
    refine XS.icmpYes X0.here hx rfl (pc0 := 20) (pc' := 26) rfl (j52_21 hby 11 rfl) rfl (flt ca0).2.2.2 (by decide) (by decide) ?_
    refine sA X0.here hx (j52_21 hby 14 rfl) ?_
    refine sI X0.here hx (j52_21 hby 15 rfl) ?_
    refine sJ X0.here hx (j52_21 hby 16 rfl) ?_
    refine XS.i2b X0.here hx rfl (j52_21 hby 17 rfl) rfl ?_
    refine st12 _ ?_
    refine XS.iinc X12.here hx rfl (j52_21 hby 19 rfl) rfl (l' := #[vR bc, vI 1, vR t, vI 0, vI 2, vI 0, vI c0]) rfl ?_
    refine XS.iinc X12.here hx rfl (j52_21 hby 20 rfl) rfl (l' := #[vR bc, vI 1, vR t, vI 1, vI 2, vI 0, vI c0]) rfl ?_
    refine XS.iinc X12.here hx rfl (j52_21 hby 21 rfl) rfl (l' := #[vR bc, vI 1, vR t, vI 1, vI 2, vI 1, vI c0]) rfl ?_
    refine XS.goto X12.here hx rfl (pc0 := 41) (pc' := 3) rfl (j52_21 hby 22 rfl) (by decide) (by decide) ?_
    refine sJ X12.here hx (j52_21 hby 2 rfl) ?_
    refine sJ X12.here hx (j52_21 hby 3 rfl) ?_
    refine XS.icmpNo X12.here hx rfl (j52_21 hby 4 rfl) rfl (tlt (by decide)).2.1 ?_
    refine sA X12.here hx (j52_21 hby 5 rfl) ?_
    refine sI X12.here hx (j52_21 hby 6 rfl) ?_
    refine X12.caload hx (j := (1 : Int32)) (v := (.int c1)) (by rw [e12]; exact Ar14.1) (State.isArrayOf_alike hZ.alike Ar14.2.1) Ar14.2.2 hin14 (Has.at H14 hin14 rfl) (g := (mkF m 12 #[vR bc, vI 1, vR t, vI 1, vI 2, vI 1, vI c0] [(.int 1), (.ref bc)])) rfl rfl (j52_21 hby 7 rfl) _ ?_
    refine XS.istore X12.here hx rfl (j52_21 hby 8 rfl) rfl (l' := #[vR bc, vI 1, vR t, vI 1, vI 2, vI 1, vI c1]) rfl ?_
    refine sJ X12.here hx (j52_21 hby 9 rfl) ?_
    refine XS.sipush X12.here hx rfl (j52_21 hby 10 rfl) ?_
    refine XS.icmpYes X12.here hx rfl (pc0 := 20) (pc' := 26) rfl (j52_21 hby 11 rfl) rfl (flt ca1).2.2.2 (by decide) (by decide) ?_
    refine sA X12.here hx (j52_21 hby 14 rfl) ?_
    refine sI X12.here hx (j52_21 hby 15 rfl) ?_
    refine sJ X12.here hx (j52_21 hby 16 rfl) ?_
    refine XS.i2b X12.here hx rfl (j52_21 hby 17 rfl) rfl ?_
    refine st16 _ ?_
    refine XS.iinc X16.here hx rfl (j52_21 hby 19 rfl) rfl (l' := #[vR bc, vI 2, vR t, vI 1, vI 2, vI 1, vI c1]) rfl ?_
    refine XS.iinc X16.here hx rfl (j52_21 hby 20 rfl) rfl (l' := #[vR bc, vI 2, vR t, vI 2, vI 2, vI 1, vI c1]) rfl ?_
    refine XS.iinc X16.here hx rfl (j52_21 hby 21 rfl) rfl (l' := #[vR bc, vI 2, vR t, vI 2, vI 2, vI 2, vI c1]) rfl ?_
    refine XS.goto X16.here hx rfl (pc0 := 41) (pc' := 3) rfl (j52_21 hby 22 rfl) (by decide) (by decide) ?_
    refine sJ X16.here hx (j52_21 hby 2 rfl) ?_
    refine sJ X16.here hx (j52_21 hby 3 rfl) ?_
    refine XS.icmpYes X16.here hx rfl (pc0 := 7) (pc' := 44) rfl (j52_21 hby 4 rfl) rfl (flt (by decide)).2.1 (by decide) (by decide) ?_
    refine sJ X16.here hx (j52_21 hby 23 rfl) ?_
    exact retI X16 hx hrt (j52_21 hby 24 rfl) hr
def own_QcBL2 (Z : State) (bc : Addr) (kC : ClassId) (dC : Value) (c0 c1 : Int32) (h0 : Heap) (n0 : Nat) (v : Option Value) (h : Heap) (L : List Loc) : Prop := ∃ (t : Addr) (kt : ClassId), v = some (.ref t) ∧ Fr n0 L ∧ Ext h0 h ∧ Arv Z h t kt .byte (2 : Int32) [(.int (own_b c0)), (.int (own_b c1))] (.int 0) ∧ h0.size ≤ t
theorem own_cBL2 (hw : own_HW a0 Z) {bc : Addr} {kC : ClassId} {dC : Value} {c0 c1 : Int32}  (Z0 : n0 ≤ h0.size) (A_bc : Arv Z h0 bc kC .char (2 : Int32) [(.int c0), (.int c1)] dC) (ca0 : ¬ (255 : Int32) < c0) (ca1 : ¬ (255 : Int32) < c1) : own_M l Z h0 y_60 jdk_52_method_16_code 6 (some (.array .byte)) (rm 1 1 2 18) #[(.ref bc), (.int 0), (.int 2)] (own_QcBL2 Z bc kC dC c0 c1 h0 n0) := by
  refine own_go #[vR bc, vI 0, vI 2, vU, vU, vU] (plainFor_of_name own_pn4) (fun m => rfl) fun p e s m below meth c s₁ hx hby hz hZ hown hnm hrt X0 e0 => ?_
  obtain ⟨T10, h10, k10, X10, e10, E10, A10, st10⟩ := newP X0 hx hZ (ow hw 23 rfl) e0 (g := (mkF m 1 #[vR bc, vI 0, vI 2, vU, vU, vU] [(.int 2)])) rfl (j52_16 hby 1 rfl) rfl (by decide) (cap := 2) (by decide) (by decide) (by decide) (by decide)
  obtain ⟨b10, g10⟩ : ∃ z, z = h0.size := ⟨_, rfl⟩
  rw [← g10] at A10 st10
  have V10 : Arv Z h10 b10 k10 .byte (2 : Int32) [(.int 0), (.int 0)] (.int 0) := (Arv.new A10 (by decide)).pad (pad_rep [] (.int 0) 2)
  obtain ⟨_, T11, L11, X11, ⟨rfl, Nq11, K11, Po11_0⟩, st11⟩ := own_cs 0 X10 hx hZ hown (ow hw 24 rfl) (ow hw 25 rfl) (ow hw 21 rfl) (ow hw 26 rfl) (own_cAL2 hw  (Nat.le_trans Z0 E10.1) (A_bc.ext E10) V10 (Nat.le_trans Z0 (Nat.le_of_eq g10.symm)) (Nat.ne_of_lt (Nat.lt_of_lt_of_le (A_bc).lt (Nat.le_trans (Nat.le_refl _) (Nat.le_of_eq g10.symm)))) ca0 ca1) e10 (g := (mkF m 9 #[vR bc, vI 0, vI 2, vR b10, vU, vU] [(.int 2), (.int 0), (.ref b10), (.int 0), (.ref bc)])) (rest := []) (lenOf own_pd31 rfl) (j52_16 hby 8 rfl) hz
  have Na12 := Fr.app (Fr.nil n0) Nq11
  have Xt13 : Ext h0 T11.heap := (own_xk E10 K11 ((allS (Nat.le_trans (own_xr h0).1 (Nat.le_of_eq g10.symm)) all0)))
  refine ⟨_, _, _, _, some (.ref b10), X11, (fun h => nomatch h), by decide, by decide, ?_, fun fs hr => ?_⟩
  · show own_QcBL2 Z bc kC dC c0 c1 h0 n0 _ T11.heap _
    exact ⟨b10, k10, rfl, Na12, Xt13, Po11_0, (Nat.le_trans (Nat.le_refl _) (Nat.le_of_eq g10.symm))⟩
  · refine sI X0.here hx (j52_16 hby 0 rfl) ?_
    refine st10 _ ?_
    refine XS.astoreN X10.here hx rfl (j52_16 hby 2 rfl) rfl rfl (l' := #[vR bc, vI 0, vI 2, vR b10, vU, vU]) rfl ?_
    refine sA X10.here hx (j52_16 hby 3 rfl) ?_
    refine sI X10.here hx (j52_16 hby 4 rfl) ?_
    refine sA X10.here hx (j52_16 hby 5 rfl) ?_
    refine sC X10.here hx (j52_16 hby 6 rfl) ?_
    refine sI X10.here hx (j52_16 hby 7 rfl) ?_
    refine st11 _ ?_
    refine XS.istore X11.here hx rfl (j52_16 hby 9 rfl) rfl (l' := #[vR bc, vI 0, vI 2, vR b10, vI 2, vU]) rfl ?_
    refine sJ X11.here hx (j52_16 hby 10 rfl) ?_
    refine sI X11.here hx (j52_16 hby 11 rfl) ?_
    refine XS.icmpYes X11.here hx rfl (pc0 := 17) (pc' := 57) rfl (j52_16 hby 12 rfl) rfl (teq rfl).1 (by decide) (by decide) ?_
    refine sA X11.here hx (j52_16 hby 25 rfl) ?_
    exact retR X11 hx hrt rfl rfl rfl (j52_16 hby 26 rfl) hr
def own_Qcfl2 (Z : State) (t : Addr) (kt : ClassId) (vs : List Value) (h0 : Heap) (n0 : Nat) (v : Option Value) (h : Heap) (L : List Loc) : Prop := v = some (.int 0) ∧ Fr n0 L ∧ h = h0
theorem own_cfl2 (hw : own_HW a0 Z) {t : Addr} {kt : ClassId} {vs : List Value}  (Z0 : n0 ≤ h0.size) (A_t : Arv Z h0 t kt .byte (2 : Int32) vs (.int 0)) : own_M l Z h0 y_58 jdk_52_method_15_code 2 (some .byte) (rm 0 0 0 0) #[(.ref t), (.int 2)] (own_Qcfl2 Z t kt vs h0 n0) := by
  refine own_go #[vR t, vI 2] (plainFor_of_name own_pn4) (fun m => rfl) fun p e s m below meth c s₁ hx hby hz hZ hown hnm hrt X0 e0 => ?_
  obtain ⟨cl10, Ar10, q10, S10, M10, H10, G10⟩ := id A_t
  refine ⟨_, _, _, _, some (.int 0), X0, (fun h => nomatch h), by decide, by decide, ?_, fun fs hr => ?_⟩
  · show own_Qcfl2 Z t kt vs h0 n0 _ s₁.heap _
    rw [e0]
    exact ⟨rfl, (Fr.nil n0), rfl⟩
  · refine sI X0.here hx (j52_15 hby 0 rfl) ?_
    refine sA X0.here hx (j52_15 hby 1 rfl) ?_
    refine X0.arraylength hx (by rw [e0]; exact Ar10.1) (State.isArrayOf_alike hZ.alike Ar10.2.1) (g := (mkF m 2 #[vR t, vI 2] [(.ref t), (.int 2)])) rfl rfl (j52_15 hby 2 rfl) _ ?_
    rw [len_of S10 M10]
    refine XS.isub X0.here hx rfl (j52_15 hby 3 rfl) rfl ?_
    refine XS.bipush X0.here hx rfl (j52_15 hby 4 rfl) ?_
    refine XS.iushr X0.here hx rfl (j52_15 hby 5 rfl) rfl ?_
    refine XS.i2b X0.here hx rfl (j52_15 hby 6 rfl) rfl ?_
    show Steps p.tables e below (s₁.setTop (mkF m 8 #[vR t, vI 2] [(.int ((((0 : Int32).toUInt32 >>> ((31 : Int32) &&& 31).toUInt32).toInt32).toInt8.toInt32))])) _
    rw [(by decide : ((((0 : Int32).toUInt32 >>> ((31 : Int32) &&& 31).toUInt32).toInt32).toInt8.toInt32) = (0 : Int32))]
    exact retN X0 hx (t := .byte) hrt (by simp) (j52_15 hby 7 rfl) hr
def own_QcCL2 (Z : State) (x : Addr) (w2 : Int32) (bc : Addr) (kC : ClassId) (dC : Value) (c0 c1 : Int32) (fm : Value) (h0 : Heap) (n0 : Nat) (v : Option Value) (h : Heap) (L : List Loc) : Prop := ∃ (t : Addr) (kt : ClassId), v = none ∧ Fr n0 L ∧ Keep h0 h [x] ∧ own_Sr Z h x t kt 0 2 [(.int (own_b c0)), (.int (own_b c1))] ∧ h0.size ≤ t
theorem own_cCL2 (hw : own_HW a0 Z) {x : Addr} {w2 : Int32} {bc : Addr} {kC : ClassId} {dC : Value} {c0 c1 : Int32} {fm : Value}  (Z0 : n0 ≤ h0.size) (E_x : Exa Z h0 x "java/lang/String") (F_x_value : Fld Z h0 x "java/lang/String" "value" "[B" .null) (F_x_coder : Fld Z h0 x "java/lang/String" "coder" "B" (.int 0)) (g_x : n0 ≤ x) (A_bc : Arv Z h0 bc kC .char (2 : Int32) [(.int c0), (.int c1)] dC) (SS : own_ST Z h0 w2 fm) (ca0 : ¬ (255 : Int32) < c0) (ca1 : ¬ (255 : Int32) < c1) : own_M l Z h0 y_61 jdk_42_method_149_code 6 none (rm 2 1 2 35) #[(.ref x), (.ref bc), (.int 0), (.int 2), .null] (own_QcCL2 Z x w2 bc kC dC c0 c1 fm h0 n0) := by
  refine own_go #[vR x, vR bc, vI 0, vI 2, .val .null, vU] (plainFor_of_name own_pn0) (fun m => rfl) fun p e s m below meth c s₁ hx hby hz hZ hown hnm hrt X0 e0 => ?_
  have P5 := SS.2.1
  obtain ⟨T10, X10, e10, st10⟩ := initO X0 hx hZ hown (ow hw 15 rfl) (ow hw 16 rfl) (ow hw 17 rfl) e0 (g := (mkF m 1 #[vR x, vR bc, vI 0, vI 2, .val .null, vU] [(.ref x)])) rfl hz rfl (j42_149 hby 1 rfl) (by decide) (W := 0) (Nat.le_of_eq rfl) (by decide)
  obtain ⟨T11, X11, e11, st11⟩ := getS2 X10 hx hZ hown (host := "") (Or.inl (ow hw 18 rfl)) Via.refl e10 SS.1 (g := (mkF m 27 #[vR x, vR bc, vI 0, vI 2, .val .null, vU] [])) rfl (j42_149 hby 4 rfl)
  obtain ⟨_, T12, L12, X12, ⟨t_12, kt_12, rfl, Nq12, E12, Po12_0, Po12_1⟩, st12⟩ := own_cs 0 X11 hx hZ hown (ow hw 19 rfl) (ow hw 20 rfl) (ow hw 21 rfl) (ow hw 22 rfl) (own_cBL2 hw  Z0 A_bc ca0 ca1) e11 (g := (mkF m 36 #[vR x, vR bc, vI 0, vI 2, .val .null, vU] [(.int 2), (.int 0), (.ref bc)])) (rest := []) (lenOf own_pd32 rfl) (j42_149 hby 9 rfl) hz
  have Na13 := Fr.app (Fr.nil n0) Nq12
  obtain ⟨_, T14, L14, X14, ⟨rfl, Nq14, e14⟩, st14⟩ := own_cs 1 X12 hx hZ hown (ow hw 27 rfl) (ow hw 28 rfl) (ow hw 21 rfl) (ow hw 29 rfl) (own_cfl2 hw  (Nat.le_trans Z0 E12.1) Po12_0) rfl (g := (mkF m 45 #[vR x, vR bc, vI 0, vI 2, .val .null, vR t_12] [(.int 2), (.ref t_12), (.ref x)])) (rest := [(.ref x)]) (lenOf own_pd33 rfl) (j42_149 hby 14 rfl) hz
  have Na15 := Fr.app Na13 Nq14
  obtain ⟨T16, h16, X16, e16, W16, st16⟩ := putFN X14 hx hZ hown (ow hw 30 rfl) Via.refl e14 (F_x_coder.ext E12) (E_x.ext E12) (Or.inr ⟨(ow hw 31 rfl), rfl, hnm⟩) (ow hw 5 rfl) (ty := .byte) (v' := (.int 0)) (by decide) rfl rfl (g := (mkF m 48 #[vR x, vR bc, vI 0, vI 2, .val .null, vR t_12] [(.int 0), (.ref x)])) rfl rfl (j42_149 hby 15 rfl)
  have Ew16 := (E_x.ext E12).wr W16
  have Fo17 := (F_x_value.ext E12).other W16 (Or.inr (slot_ne (Or.inr (ow hw 33 rfl)) (Or.inr (ow hw 31 rfl)) (by decide) (t := (.array .byte)) (t' := .byte) (by decide) (by decide)))
  have Fw16 := (F_x_coder.ext E12).same W16
  have N16 := Fr.snoc X16 Na15 g_x
  obtain ⟨T18, h18, X18, e18, W18, st18⟩ := putF X16 hx hZ hown (host := "") (Or.inl (ow hw 32 rfl)) Via.refl e16 Fo17 Ew16 (Or.inr ⟨(ow hw 33 rfl), rfl, hnm⟩) (ow hw 5 rfl) (ty := (.array .byte)) (by decide) rfl rfl (g := (mkF m 54 #[vR x, vR bc, vI 0, vI 2, .val .null, vR t_12] [(.ref t_12), (.ref x)])) rfl rfl (j42_149 hby 18 rfl)
  have Ew18 := Ew16.wr W18
  have Fw18 := Fo17.same W18
  have Fo19 := Fw16.other W18 (Or.inr (slot_ne (Or.inr (ow hw 31 rfl)) (Or.inr (ow hw 33 rfl)) (by decide) (t := .byte) (t' := (.array .byte)) (by decide) (by decide)))
  have N18 := Fr.snoc X18 N16 g_x
  have Cf20 := Po12_0.other W16 (Ne.symm (Nat.ne_of_lt (Nat.lt_of_lt_of_le (E_x).lt Po12_1)))
  have Cf21 := Cf20.other W18 (Ne.symm (Nat.ne_of_lt (Nat.lt_of_lt_of_le (E_x).lt Po12_1)))
  refine ⟨_, _, _, _, none, X18, (fun _ => rfl), by decide, by decide, ?_, fun fs hr => ?_⟩
  · show own_QcCL2 Z x w2 bc kC dC c0 c1 fm h0 n0 _ T18.heap _
    rw [e18]
    exact ⟨t_12, kt_12, rfl, N18, ((((Keep.refl h0 [x]).ext E12).wr W16 (Or.inl (List.mem_of_getElem? (i := 0) rfl))).wr W18 (Or.inl (List.mem_of_getElem? (i := 0) rfl))), ⟨Ew18, Fw18, Fo19, Cf21⟩, Po12_1⟩
  · refine sA X0.here hx (j42_149 hby 0 rfl) ?_
    refine st10 _ ?_
    refine sI X10.here hx (j42_149 hby 2 rfl) ?_
    refine XS.ifYes X10.here hx rfl (pc0 := 5) (pc' := 27) rfl (j42_149 hby 3 rfl) rfl ((if0 _ _).trans (feq (by decide)).2) (by decide) (by decide) ?_
    refine st11 _ ?_
    refine XS.ifNo X11.here hx rfl (j42_149 hby 5 rfl) rfl ((if0 _ _).trans (feq P5).1) ?_
    refine sA X11.here hx (j42_149 hby 6 rfl) ?_
    refine sI X11.here hx (j42_149 hby 7 rfl) ?_
    refine sI X11.here hx (j42_149 hby 8 rfl) ?_
    refine st12 _ ?_
    refine XS.astore X12.here hx rfl (j42_149 hby 10 rfl) rfl rfl (l' := #[vR x, vR bc, vI 0, vI 2, .val .null, vR t_12]) rfl ?_
    refine sA X12.here hx (j42_149 hby 11 rfl) ?_
    refine sB X12.here hx (j42_149 hby 12 rfl) ?_
    refine sI X12.here hx (j42_149 hby 13 rfl) ?_
    refine st14 _ ?_
    refine st16 _ ?_
    refine sA X16.here hx (j42_149 hby 16 rfl) ?_
    refine sB X16.here hx (j42_149 hby 17 rfl) ?_
    refine st18 _ ?_
    exact X18.returnOut hx hrt (j42_149 hby 19 rfl) hr
def own_QnL2 (Z : State) (x : Addr) (w2 : Int32) (bc : Addr) (kC : ClassId) (dC : Value) (c0 c1 : Int32) (fm : Value) (h0 : Heap) (n0 : Nat) (v : Option Value) (h : Heap) (L : List Loc) : Prop := ∃ (t : Addr) (kt : ClassId), v = none ∧ Fr n0 L ∧ Keep h0 h [x] ∧ own_Sr Z h x t kt 0 2 [(.int (own_b c0)), (.int (own_b c1))] ∧ h0.size ≤ t
theorem own_nL2 (hw : own_HW a0 Z) {x : Addr} {w2 : Int32} {bc : Addr} {kC : ClassId} {dC : Value} {c0 c1 : Int32} {fm : Value}  (Z0 : n0 ≤ h0.size) (E_x : Exa Z h0 x "java/lang/String") (F_x_value : Fld Z h0 x "java/lang/String" "value" "[B" .null) (F_x_coder : Fld Z h0 x "java/lang/String" "coder" "B" (.int 0)) (g_x : n0 ≤ x) (A_bc : Arv Z h0 bc kC .char (2 : Int32) [(.int c0), (.int c1)] dC) (SS : own_ST Z h0 w2 fm) (ca0 : ¬ (255 : Int32) < c0) (ca1 : ¬ (255 : Int32) < c1) : own_M l Z h0 y_62 jdk_42_method_3_code 2 none (rm 5 2 6 74) #[(.ref x), (.ref bc)] (own_QnL2 Z x w2 bc kC dC c0 c1 fm h0 n0) := by
  refine own_go #[vR x, vR bc] (plainFor_of_name own_pn0) (fun m => rfl) fun p e s m below meth c s₁ hx hby hz hZ hown hnm hrt X0 e0 => ?_
  obtain ⟨cl10, Ar10, q10, S10, M10, H10, G10⟩ := id A_bc
  obtain ⟨_, T11, L11, X11, ⟨t_11, kt_11, rfl, Nq11, K11, Po11_0, Po11_1⟩, st11⟩ := own_cp 0 X0 hx hZ hown (ow hw 11 rfl) (ow hw 12 rfl) (ow hw 6 rfl) (ow hw 14 rfl) (own_cCL2 hw  Z0 E_x F_x_value F_x_coder g_x A_bc SS ca0 ca1) e0 (g := (mkF m 6 #[vR x, vR bc] [.null, (.int 2), (.int 0), (.ref bc), (.ref x)])) (rest := []) (lenOf own_pd34 rfl) (j42_3 hby 6 rfl) hz
  have Na12 := Fr.app (Fr.nil n0) Nq11
  refine ⟨_, _, _, _, none, X11, (fun _ => rfl), by decide, by decide, ?_, fun fs hr => ?_⟩
  · show own_QnL2 Z x w2 bc kC dC c0 c1 fm h0 n0 _ T11.heap _
    exact ⟨t_11, kt_11, rfl, Na12, ((Keep.refl h0 [x]).trans K11 ((allS (Or.inl (List.mem_of_getElem? (i := 0) rfl)) all0))), Po11_0, Po11_1⟩
  · refine sA X0.here hx (j42_3 hby 0 rfl) ?_
    refine sA X0.here hx (j42_3 hby 1 rfl) ?_
    refine sC X0.here hx (j42_3 hby 2 rfl) ?_
    refine sA X0.here hx (j42_3 hby 3 rfl) ?_
    refine X0.arraylength hx (by rw [e0]; exact Ar10.1) (State.isArrayOf_alike hZ.alike Ar10.2.1) (g := (mkF m 4 #[vR x, vR bc] [(.ref bc), (.int 0), (.ref bc), (.ref x)])) rfl rfl (j42_3 hby 4 rfl) _ ?_
    rw [len_of S10 M10]
    refine XS.aconstNull X0.here hx rfl (j42_3 hby 5 rfl) ?_
    refine st11 _ ?_
    exact X11.returnOut hx hrt (j42_3 hby 7 rfl) hr
theorem own_pn8 : plainName "com/example/libhasp/libhasp/RecordName" = true := by first | (simp [plainName, overriddenIn]; done) | decide +kernel
def own_Qrn11 (Z : State) (rn x xi u : Addr) (ku : ClassId) (w2 l0 m0 v0 : Int32) (fm : Value) (ui : Addr) (ki : ClassId) (Ni : Int32) (vi : List Value) (h0 : Heap) (n0 : Nat) (v : Option Value) (h : Heap) (L : List Loc) : Prop := v = none ∧ Fr n0 L ∧ Keep h0 h [rn] ∧ Exa Z h rn "com/example/libhasp/libhasp/RecordName" ∧ Fld Z h rn "com/example/libhasp/libhasp/RecordName" "type" "Ljava/lang/String;" (.ref x) ∧ Fld Z h rn "com/example/libhasp/libhasp/RecordName" "id" "Ljava/lang/String;" (.ref xi)
theorem own_rn11_ef (m : MethodId) (x0 : Addr) (x1 : Addr) (x2 : Addr) : entryFrame m #[(.ref x0), (.ref x1), (.ref x2)] 3 = mkF m 0 #[vR x0, vR x1, vR x2] [] := rfl
theorem own_rn11 (l : Launch) (Z : State) (a0 : Array Value) (hw : ∀ d ∈ tables_1, d.before a0 Z = true) (ws : List Jvm.Cond) (rn x xi u : Addr) (ku : ClassId) (w2 l0 m0 v0 : Int32) (fm : Value) (ui : Addr) (ki : ClassId) (Ni : Int32) (vi : List Value) (h0 : Heap) (n0 : Nat) (Z0 : n0 ≤ h0.size) (E_rn : Exa Z h0 rn "com/example/libhasp/libhasp/RecordName") (F_rn_type : Fld Z h0 rn "com/example/libhasp/libhasp/RecordName" "type" "Ljava/lang/String;" .null) (F_rn_id : Fld Z h0 rn "com/example/libhasp/libhasp/RecordName" "id" "Ljava/lang/String;" .null) (g_rn : n0 ≤ rn) (S_x : own_Sr Z h0 x u ku 1 2 [(.int l0), (.int m0)]) (E_xi : Exa Z h0 xi "java/lang/String") (F_xi_value : Fld Z h0 xi "java/lang/String" "value" "[B" (.ref ui)) (A_ui : Arv Z h0 ui ki .byte Ni vi (.int 0)) (hNi : ¬ Ni = 0) (SS : own_ST Z h0 w2 fm) (z0 : nar .char ((((l0 &&& (255 : Int32)) <<< ((0 : Int32) &&& 31)) ||| ((m0 &&& (255 : Int32)) <<< ((8 : Int32) &&& 31))).toUInt32.toUInt16.toUInt32.toInt32) = v0) (q0 : ¬ v0 = 58) :
    MetFree l y_63 (head1 (Jvm.Cond.code y_63 prog_4_method_1_code 3 none :: ws) ({ frames := 7, cells := 4, slots := 168, locals := 100 } : Room)) (fun a U => a = #[(.ref rn), (.ref x), (.ref xi)] ∧ Z.Warmed39 U.vm ∧ U.heap = h0 ∧ CHv Z own_EL U.vm h0) (fun _ _ _ _ _ => True) (fun _ U o U' => ∃ v L, o = .returned v ∧ own_Qrn11 Z rn x xi u ku w2 l0 m0 v0 fm ui ki Ni vi h0 n0 v U'.heap L ∧ CHr Z own_EL U.vm U.heap U'.vm U'.heap ∧ ReturnedEndW U o U' L ({ frames := 7, cells := 4, slots := 168, locals := 100 } : Room).cells ({ frames := 7, cells := 4, slots := 168, locals := 100 } : Room).slots) := by
  refine MetFree.of_bodySF (plainFor_of_name own_pn8) hisR ?_
  intro p e s m args below meth c s₁ Bd hml0 hP hK
  obtain ⟨rfl, hZ, hh, hCH⟩ := hP
  have hx := Bd.exec
  have hby := Bd.bytes
  have hml : c.maxLocals = 3 := hml0
  have hz := hml.symm
  have hown : s.vm.findClass "com/example/libhasp/libhasp/RecordName" = some m.cls := findClass_of_methodNamed Bd.named
  have hnm := (name_of_methodNamed Bd.named Bd.method).1
  have X0 : Stand p l e ({ frames := 7, cells := 4, slots := 168, locals := 100 } : Room) (s.setVm s.vm) m #[(.ref rn), (.ref x), (.ref xi)] below meth c s₁ [] 0 0 := Stand.of_body Bd
  have e0 : s₁.heap = h0 := by rw [← hh, Bd.state]; rfl
  have N0 := Fr.nil n0
  have hS0 : s.Since s.vm 0 := (State.WarmedH.refl s).since 0
  have CR0 : CHr Z own_EL s.vm h0 s.vm h0 := CHr.refl hCH
  have pre0 : ∀ tq, Steps p.tables e below (s₁.setTop (mkF m 0 #[vR rn, vR x, vR xi] [])) tq → Steps p.tables e below (s₁.setTop (entryFrame m #[(.ref rn), (.ref x), (.ref xi)] 3)) tq := fun tq k => castTop (own_rn11_ef m rn x xi) k
  have P5 := SS.2.1
  have rf := SS.2.2.2.1
  obtain ⟨T10, X10, e10, st10⟩ := initO X0 hx hZ hown (ow hw 40 rfl) (ow hw 16 rfl) (ow hw 17 rfl) e0 (g := (mkF m 1 #[vR rn, vR x, vR xi] [(.ref rn)])) rfl hz rfl (g4_1 hby 1 rfl) (by decide) (W := 0) (Nat.le_of_eq rfl) (by decide)
  obtain ⟨ca11, T11, h11, kq11, X11, e11, E11, hS11, hk11, hZ11, ho11, hC11, Li11, st11⟩ := ldcOH X10 hx hZ hown (ow hw 41 rfl) (own_sa hw) e10 hS0 (Nat.zero_le _) (own_ew hw) CR0.1 (g := (mkF m 5 #[vR rn, vR x, vR xi] [(.ref x)])) rfl (g4_1 hby 3 rfl) (n := 84) (by decide) (by decide) (by decide) (by decide)
  have CR12 : CHr Z own_EL s.vm h0 T11.vm h11 := CR0.trans hC11
  obtain ⟨_, T13, L13, X13, ⟨rfl, Nq13, e13⟩, st13⟩ := own_cs 0 X11 hx hZ11 ho11 (ow hw 44 rfl) (ow hw 45 rfl) (ow hw 46 rfl) (ow hw 47 rfl) (own_rnn hw x ca11 (Nat.le_trans Z0 E11.1) ) e11 (g := (mkF m 7 #[vR rn, vR x, vR xi] [(.ref ca11), (.ref x)])) (rest := []) (lenOf own_pd35 rfl) (g4_1 hby 4 rfl) hz
  have Na14 := Fr.app (Fr.nil n0) Nq13
  obtain ⟨ca15, T15, h15, kq15, X15, e15, E15, hS15, hk15, hZ15, ho15, hC15, Li15, st15⟩ := ldcOH X13 hx hZ11 ho11 (ow hw 48 rfl) (own_sa hw) e13 hS11 hk11 (own_ew hw) CR12.1 (g := (mkF m 12 #[vR rn, vR x, vR xi] [(.ref xi)])) rfl (g4_1 hby 7 rfl) (n := 76) (by decide) (by decide) (by decide) (by decide)
  have CR16 : CHr Z own_EL s.vm h0 T15.vm h15 := CR12.trans hC15
  have Gr17 : h0.size ≤ h15.size := Nat.le_trans E11.1 E15.1
  obtain ⟨_, T18, L18, X18, ⟨rfl, Nq18, e18⟩, st18⟩ := own_cs 0 X15 hx hZ15 ho15 (ow hw 44 rfl) (ow hw 45 rfl) (ow hw 46 rfl) (ow hw 47 rfl) (own_rnn hw xi ca15 (Nat.le_trans Z0 Gr17) ) e15 (g := (mkF m 14 #[vR rn, vR x, vR xi] [(.ref ca15), (.ref xi)])) (rest := []) (lenOf own_pd35 rfl) (g4_1 hby 8 rfl) hz
  have Na19 := Fr.app Na14 Nq18
  have Xt20 : Ext h0 h15 := (own_xt E11 E15)
  obtain ⟨_, T21, L21, X21, ⟨rfl, Nq21, e21⟩, st21⟩ := own_cv 0 X18 hx hZ15 ho15 (ow hw 49 rfl) (ow hw 50 rfl) (ow hw 52 rfl) (ow hw 52 rfl) (ow hw 51 rfl) (ow hw 6 rfl) (ow hw 53 rfl) (own_emp hw  (Nat.le_trans Z0 Gr17) (S_x.2.1.ext Xt20) (S_x.2.2.2.ext Xt20) (by decide)) e18 (S_x.1.ext Xt20) (g := (mkF m 19 #[vR rn, vR x, vR xi] [(.ref x)])) (rest := []) (lenOf own_pd12 rfl) (g4_1 hby 11 rfl) hz
  have Na22 := Fr.app Na19 Nq21
  obtain ⟨_, T23, L23, X23, ⟨rfl, Nq23, e23⟩, st23⟩ := own_cv 0 X21 hx hZ15 ho15 (ow hw 54 rfl) (ow hw 55 rfl) (ow hw 52 rfl) (ow hw 57 rfl) (ow hw 56 rfl) (ow hw 6 rfl) (ow hw 58 rfl) (own_ix_11 hw v0 (Nat.le_trans Z0 Gr17) (S_x.ext Xt20) (SS.ext Xt20) z0 q0) e21 (S_x.1.ext Xt20) (g := (mkF m 28 #[vR rn, vR x, vR xi] [(.int 58), (.ref x)])) (rest := []) (lenOf own_pd16 rfl) (g4_1 hby 15 rfl) hz
  have Na24 := Fr.app Na22 Nq23
  obtain ⟨_, T25, L25, X25, ⟨rfl, Nq25, e25⟩, st25⟩ := own_cv 0 X23 hx hZ15 ho15 (ow hw 49 rfl) (ow hw 50 rfl) (ow hw 52 rfl) (ow hw 52 rfl) (ow hw 51 rfl) (ow hw 6 rfl) (ow hw 53 rfl) (own_emp hw  (Nat.le_trans Z0 Gr17) (F_xi_value.ext Xt20) (A_ui.ext Xt20) hNi) e23 (E_xi.ext Xt20) (g := (mkF m 67 #[vR rn, vR x, vR xi] [(.ref xi)])) (rest := []) (lenOf own_pd12 rfl) (g4_1 hby 18 rfl) hz
  have Na26 := Fr.app Na24 Nq25
  obtain ⟨T27, h27, X27, e27, W27, st27⟩ := putF X25 hx hZ15 ho15 (host := "") (Or.inl (ow hw 96 rfl)) Via.refl e25 (F_rn_type.ext Xt20) (E_rn.ext Xt20) (Or.inr ⟨(ow hw 97 rfl), rfl, hnm⟩) (ow hw 35 rfl) (ty := (.object "java/lang/String")) (by decide) rfl rfl (g := (mkF m 85 #[vR rn, vR x, vR xi] [(.ref x), (.ref rn)])) rfl rfl (g4_1 hby 22 rfl)
  have Ew27 := (E_rn.ext Xt20).wr W27
  have Fw27 := (F_rn_type.ext Xt20).same W27
  have Fo28 := (F_rn_id.ext Xt20).other W27 (Or.inr (slot_ne (Or.inr (ow hw 99 rfl)) (Or.inr (ow hw 97 rfl)) (by decide) (t := (.object "java/lang/String")) (t' := (.object "java/lang/String")) (by decide) (by decide)))
  have N27 := Fr.snoc X27 Na26 g_rn
  have CR29 : CHr Z own_EL s.vm h0 T15.vm h27 := CR16.trans (CHr.wr W27 (Safe.exa (hZ15).alike (E_rn.ext Xt20) (by decide) (by decide)) CR16.1)
  obtain ⟨T30, h30, X30, e30, W30, st30⟩ := putF X27 hx hZ15 ho15 (host := "") (Or.inl (ow hw 98 rfl)) Via.refl e27 Fo28 Ew27 (Or.inr ⟨(ow hw 99 rfl), rfl, hnm⟩) (ow hw 35 rfl) (ty := (.object "java/lang/String")) (by decide) rfl rfl (g := (mkF m 90 #[vR rn, vR x, vR xi] [(.ref xi), (.ref rn)])) rfl rfl (g4_1 hby 25 rfl)
  have Ew30 := Ew27.wr W30
  have Fo31 := Fw27.other W30 (Or.inr (slot_ne (Or.inr (ow hw 97 rfl)) (Or.inr (ow hw 99 rfl)) (by decide) (t := (.object "java/lang/String")) (t' := (.object "java/lang/String")) (by decide) (by decide)))
  have Fw30 := Fo28.same W30
  have N30 := Fr.snoc X30 N27 g_rn
  have CR32 : CHr Z own_EL s.vm h0 T15.vm h30 := CR29.trans (CHr.wr W30 (Safe.exa (hZ15).alike Ew27 (by decide) (by decide)) CR29.1)
  have CRz : CHr Z own_EL s.vm h0 T30.vm h30 := CR32.trans (CHv.at X30 hZ15 (own_ew hw) CR32.1)
  have Gr33 : h15.size ≤ h30.size := Nat.le_trans (Keep.of_wr W27).1 (Keep.of_wr W30).1
  obtain ⟨fs, hr, hrun, hended, hRW⟩ := X30.leaveW hS15 (by rw [e30]; exact (Nat.le_trans hk15 Gr33)) (v := none) (fun _ => rfl)
  refine ⟨_, _, pre0 _ ?_, hrun, hended, _, _, rfl, ?_, ?_, own_rew hRW (by decide) (by decide)⟩
  · refine sA X0.here hx (g4_1 hby 0 rfl) ?_
    refine st10 _ ?_
    refine sA X10.here hx (g4_1 hby 2 rfl) ?_
    refine st11 _ ?_
    refine st13 _ ?_
    refine XS.pop X13.here hx rfl (g4_1 hby 5 rfl) rfl rfl ?_
    refine sA X13.here hx (g4_1 hby 6 rfl) ?_
    refine st15 _ ?_
    refine st18 _ ?_
    refine XS.pop X18.here hx rfl (g4_1 hby 9 rfl) rfl rfl ?_
    refine sA X18.here hx (g4_1 hby 10 rfl) ?_
    refine st21 _ ?_
    refine XS.ifNo X21.here hx rfl (g4_1 hby 12 rfl) rfl ((if0 _ _).trans (teq rfl).2) ?_
    refine sA X21.here hx (g4_1 hby 13 rfl) ?_
    refine XS.bipush X21.here hx rfl (g4_1 hby 14 rfl) ?_
    refine st23 _ ?_
    refine XS.ifYes X23.here hx rfl (pc0 := 31) (pc' := 66) rfl (g4_1 hby 16 rfl) rfl ((if0 _ _).trans (tlt (by decide)).1) (by decide) (by decide) ?_
    refine sA X23.here hx (g4_1 hby 17 rfl) ?_
    refine st25 _ ?_
    refine XS.ifYes X25.here hx rfl (pc0 := 70) (pc' := 83) rfl (g4_1 hby 19 rfl) rfl ((if0 _ _).trans (teq rfl).1) (by decide) (by decide) ?_
    refine sA X25.here hx (g4_1 hby 20 rfl) ?_
    refine sA X25.here hx (g4_1 hby 21 rfl) ?_
    refine st27 _ ?_
    refine sA X27.here hx (g4_1 hby 23 rfl) ?_
    refine sA X27.here hx (g4_1 hby 24 rfl) ?_
    refine st30 _ ?_
    exact X30.returnOut hx Bd.returns (g4_1 hby 26 rfl) hr
  · show own_Qrn11 Z rn x xi u ku w2 l0 m0 v0 fm ui ki Ni vi h0 n0 _ T30.heap _
    rw [e30]
    exact ⟨rfl, N30, (((((Keep.refl h0 [rn]).ext E11).ext E15).wr W27 (Or.inl (List.mem_of_getElem? (i := 0) rfl))).wr W30 (Or.inl (List.mem_of_getElem? (i := 0) rfl))), Ew30, Fo31, Fw30⟩
  · show CHr Z own_EL s.vm s.heap T30.vm T30.heap
    rw [hh, e30]; exact CRz
def own_Qrn12 (Z : State) (rn x xi u : Addr) (ku : ClassId) (w2 l0 m0 v0 l1 m1 v1 : Int32) (fm : Value) (ui : Addr) (ki : ClassId) (Ni : Int32) (vi : List Value) (h0 : Heap) (n0 : Nat) (v : Option Value) (h : Heap) (L : List Loc) : Prop := v = none ∧ Fr n0 L ∧ Keep h0 h [rn] ∧ Exa Z h rn "com/example/libhasp/libhasp/RecordName" ∧ Fld Z h rn "com/example/libhasp/libhasp/RecordName" "type" "Ljava/lang/String;" (.ref x) ∧ Fld Z h rn "com/example/libhasp/libhasp/RecordName" "id" "Ljava/lang/String;" (.ref xi)
theorem own_rn12_ef (m : MethodId) (x0 : Addr) (x1 : Addr) (x2 : Addr) : entryFrame m #[(.ref x0), (.ref x1), (.ref x2)] 3 = mkF m 0 #[vR x0, vR x1, vR x2] [] := rfl
theorem own_rn12 (l : Launch) (Z : State) (a0 : Array Value) (hw : ∀ d ∈ tables_1, d.before a0 Z = true) (ws : List Jvm.Cond) (rn x xi u : Addr) (ku : ClassId) (w2 l0 m0 v0 l1 m1 v1 : Int32) (fm : Value) (ui : Addr) (ki : ClassId) (Ni : Int32) (vi : List Value) (h0 : Heap) (n0 : Nat) (Z0 : n0 ≤ h0.size) (E_rn : Exa Z h0 rn "com/example/libhasp/libhasp/RecordName") (F_rn_type : Fld Z h0 rn "com/example/libhasp/libhasp/RecordName" "type" "Ljava/lang/String;" .null) (F_rn_id : Fld Z h0 rn "com/example/libhasp/libhasp/RecordName" "id" "Ljava/lang/String;" .null) (g_rn : n0 ≤ rn) (S_x : own_Sr Z h0 x u ku 1 4 [(.int l0), (.int m0), (.int l1), (.int m1)]) (E_xi : Exa Z h0 xi "java/lang/String") (F_xi_value : Fld Z h0 xi "java/lang/String" "value" "[B" (.ref ui)) (A_ui : Arv Z h0 ui ki .byte Ni vi (.int 0)) (hNi : ¬ Ni = 0) (SS : own_ST Z h0 w2 fm) (z0 : nar .char ((((l0 &&& (255 : Int32)) <<< ((0 : Int32) &&& 31)) ||| ((m0 &&& (255 : Int32)) <<< ((8 : Int32) &&& 31))).toUInt32.toUInt16.toUInt32.toInt32) = v0) (z1 : nar .char ((((l1 &&& (255 : Int32)) <<< ((0 : Int32) &&& 31)) ||| ((m1 &&& (255 : Int32)) <<< ((8 : Int32) &&& 31))).toUInt32.toUInt16.toUInt32.toInt32) = v1) (q0 : ¬ v0 = 58) (q1 : ¬ v1 = 58) :
    MetFree l y_63 (head1 (Jvm.Cond.code y_63 prog_4_method_1_code 3 none :: ws) ({ frames := 7, cells := 4, slots := 168, locals := 100 } : Room)) (fun a U => a = #[(.ref rn), (.ref x), (.ref xi)] ∧ Z.Warmed39 U.vm ∧ U.heap = h0 ∧ CHv Z own_EL U.vm h0) (fun _ _ _ _ _ => True) (fun _ U o U' => ∃ v L, o = .returned v ∧ own_Qrn12 Z rn x xi u ku w2 l0 m0 v0 l1 m1 v1 fm ui ki Ni vi h0 n0 v U'.heap L ∧ CHr Z own_EL U.vm U.heap U'.vm U'.heap ∧ ReturnedEndW U o U' L ({ frames := 7, cells := 4, slots := 168, locals := 100 } : Room).cells ({ frames := 7, cells := 4, slots := 168, locals := 100 } : Room).slots) := by
  refine MetFree.of_bodySF (plainFor_of_name own_pn8) hisR ?_
  intro p e s m args below meth c s₁ Bd hml0 hP hK
  obtain ⟨rfl, hZ, hh, hCH⟩ := hP
  have hx := Bd.exec
  have hby := Bd.bytes
  have hml : c.maxLocals = 3 := hml0
  have hz := hml.symm
  have hown : s.vm.findClass "com/example/libhasp/libhasp/RecordName" = some m.cls := findClass_of_methodNamed Bd.named
  have hnm := (name_of_methodNamed Bd.named Bd.method).1
  have X0 : Stand p l e ({ frames := 7, cells := 4, slots := 168, locals := 100 } : Room) (s.setVm s.vm) m #[(.ref rn), (.ref x), (.ref xi)] below meth c s₁ [] 0 0 := Stand.of_body Bd
  have e0 : s₁.heap = h0 := by rw [← hh, Bd.state]; rfl
  have N0 := Fr.nil n0
  have hS0 : s.Since s.vm 0 := (State.WarmedH.refl s).since 0
  have CR0 : CHr Z own_EL s.vm h0 s.vm h0 := CHr.refl hCH
  have pre0 : ∀ tq, Steps p.tables e below (s₁.setTop (mkF m 0 #[vR rn, vR x, vR xi] [])) tq → Steps p.tables e below (s₁.setTop (entryFrame m #[(.ref rn), (.ref x), (.ref xi)] 3)) tq := fun tq k => castTop (own_rn12_ef m rn x xi) k
  have P5 := SS.2.1
  have rf := SS.2.2.2.1
  obtain ⟨T10, X10, e10, st10⟩ := initO X0 hx hZ hown (ow hw 40 rfl) (ow hw 16 rfl) (ow hw 17 rfl) e0 (g := (mkF m 1 #[vR rn, vR x, vR xi] [(.ref rn)])) rfl hz rfl (g4_1 hby 1 rfl) (by decide) (W := 0) (Nat.le_of_eq rfl) (by decide)
  obtain ⟨ca11, T11, h11, kq11, X11, e11, E11, hS11, hk11, hZ11, ho11, hC11, Li11, st11⟩ := ldcOH X10 hx hZ hown (ow hw 41 rfl) (own_sa hw) e10 hS0 (Nat.zero_le _) (own_ew hw) CR0.1 (g := (mkF m 5 #[vR rn, vR x, vR xi] [(.ref x)])) rfl (g4_1 hby 3 rfl) (n := 84) (by decide) (by decide) (by decide) (by decide)
  have CR12 : CHr Z own_EL s.vm h0 T11.vm h11 := CR0.trans hC11
  obtain ⟨_, T13, L13, X13, ⟨rfl, Nq13, e13⟩, st13⟩ := own_cs 0 X11 hx hZ11 ho11 (ow hw 44 rfl) (ow hw 45 rfl) (ow hw 46 rfl) (ow hw 47 rfl) (own_rnn hw x ca11 (Nat.le_trans Z0 E11.1) ) e11 (g := (mkF m 7 #[vR rn, vR x, vR xi] [(.ref ca11), (.ref x)])) (rest := []) (lenOf own_pd35 rfl) (g4_1 hby 4 rfl) hz
  have Na14 := Fr.app (Fr.nil n0) Nq13
  obtain ⟨ca15, T15, h15, kq15, X15, e15, E15, hS15, hk15, hZ15, ho15, hC15, Li15, st15⟩ := ldcOH X13 hx hZ11 ho11 (ow hw 48 rfl) (own_sa hw) e13 hS11 hk11 (own_ew hw) CR12.1 (g := (mkF m 12 #[vR rn, vR x, vR xi] [(.ref xi)])) rfl (g4_1 hby 7 rfl) (n := 76) (by decide) (by decide) (by decide) (by decide)
  have CR16 : CHr Z own_EL s.vm h0 T15.vm h15 := CR12.trans hC15
  have Gr17 : h0.size ≤ h15.size := Nat.le_trans E11.1 E15.1
  obtain ⟨_, T18, L18, X18, ⟨rfl, Nq18, e18⟩, st18⟩ := own_cs 0 X15 hx hZ15 ho15 (ow hw 44 rfl) (ow hw 45 rfl) (ow hw 46 rfl) (ow hw 47 rfl) (own_rnn hw xi ca15 (Nat.le_trans Z0 Gr17) ) e15 (g := (mkF m 14 #[vR rn, vR x, vR xi] [(.ref ca15), (.ref xi)])) (rest := []) (lenOf own_pd35 rfl) (g4_1 hby 8 rfl) hz
  have Na19 := Fr.app Na14 Nq18
  have Xt20 : Ext h0 h15 := (own_xt E11 E15)
  obtain ⟨_, T21, L21, X21, ⟨rfl, Nq21, e21⟩, st21⟩ := own_cv 0 X18 hx hZ15 ho15 (ow hw 49 rfl) (ow hw 50 rfl) (ow hw 52 rfl) (ow hw 52 rfl) (ow hw 51 rfl) (ow hw 6 rfl) (ow hw 53 rfl) (own_emp hw  (Nat.le_trans Z0 Gr17) (S_x.2.1.ext Xt20) (S_x.2.2.2.ext Xt20) (by decide)) e18 (S_x.1.ext Xt20) (g := (mkF m 19 #[vR rn, vR x, vR xi] [(.ref x)])) (rest := []) (lenOf own_pd12 rfl) (g4_1 hby 11 rfl) hz
  have Na22 := Fr.app Na19 Nq21
  obtain ⟨_, T23, L23, X23, ⟨rfl, Nq23, e23⟩, st23⟩ := own_cv 0 X21 hx hZ15 ho15 (ow hw 54 rfl) (ow hw 55 rfl) (ow hw 52 rfl) (ow hw 57 rfl) (ow hw 56 rfl) (ow hw 6 rfl) (ow hw 58 rfl) (own_ix_12 hw v0 v1 (Nat.le_trans Z0 Gr17) (S_x.ext Xt20) (SS.ext Xt20) z0 z1 q0 q1) e21 (S_x.1.ext Xt20) (g := (mkF m 28 #[vR rn, vR x, vR xi] [(.int 58), (.ref x)])) (rest := []) (lenOf own_pd16 rfl) (g4_1 hby 15 rfl) hz
  have Na24 := Fr.app Na22 Nq23
  obtain ⟨_, T25, L25, X25, ⟨rfl, Nq25, e25⟩, st25⟩ := own_cv 0 X23 hx hZ15 ho15 (ow hw 49 rfl) (ow hw 50 rfl) (ow hw 52 rfl) (ow hw 52 rfl) (ow hw 51 rfl) (ow hw 6 rfl) (ow hw 53 rfl) (own_emp hw  (Nat.le_trans Z0 Gr17) (F_xi_value.ext Xt20) (A_ui.ext Xt20) hNi) e23 (E_xi.ext Xt20) (g := (mkF m 67 #[vR rn, vR x, vR xi] [(.ref xi)])) (rest := []) (lenOf own_pd12 rfl) (g4_1 hby 18 rfl) hz
  have Na26 := Fr.app Na24 Nq25
  obtain ⟨T27, h27, X27, e27, W27, st27⟩ := putF X25 hx hZ15 ho15 (host := "") (Or.inl (ow hw 96 rfl)) Via.refl e25 (F_rn_type.ext Xt20) (E_rn.ext Xt20) (Or.inr ⟨(ow hw 97 rfl), rfl, hnm⟩) (ow hw 35 rfl) (ty := (.object "java/lang/String")) (by decide) rfl rfl (g := (mkF m 85 #[vR rn, vR x, vR xi] [(.ref x), (.ref rn)])) rfl rfl (g4_1 hby 22 rfl)
  have Ew27 := (E_rn.ext Xt20).wr W27
  have Fw27 := (F_rn_type.ext Xt20).same W27
  have Fo28 := (F_rn_id.ext Xt20).other W27 (Or.inr (slot_ne (Or.inr (ow hw 99 rfl)) (Or.inr (ow hw 97 rfl)) (by decide) (t := (.object "java/lang/String")) (t' := (.object "java/lang/String")) (by decide) (by decide)))
  have N27 := Fr.snoc X27 Na26 g_rn
  have CR29 : CHr Z own_EL s.vm h0 T15.vm h27 := CR16.trans (CHr.wr W27 (Safe.exa (hZ15).alike (E_rn.ext Xt20) (by decide) (by decide)) CR16.1)
  obtain ⟨T30, h30, X30, e30, W30, st30⟩ := putF X27 hx hZ15 ho15 (host := "") (Or.inl (ow hw 98 rfl)) Via.refl e27 Fo28 Ew27 (Or.inr ⟨(ow hw 99 rfl), rfl, hnm⟩) (ow hw 35 rfl) (ty := (.object "java/lang/String")) (by decide) rfl rfl (g := (mkF m 90 #[vR rn, vR x, vR xi] [(.ref xi), (.ref rn)])) rfl rfl (g4_1 hby 25 rfl)
  have Ew30 := Ew27.wr W30
  have Fo31 := Fw27.other W30 (Or.inr (slot_ne (Or.inr (ow hw 97 rfl)) (Or.inr (ow hw 99 rfl)) (by decide) (t := (.object "java/lang/String")) (t' := (.object "java/lang/String")) (by decide) (by decide)))
  have Fw30 := Fo28.same W30
  have N30 := Fr.snoc X30 N27 g_rn
  have CR32 : CHr Z own_EL s.vm h0 T15.vm h30 := CR29.trans (CHr.wr W30 (Safe.exa (hZ15).alike Ew27 (by decide) (by decide)) CR29.1)
  have CRz : CHr Z own_EL s.vm h0 T30.vm h30 := CR32.trans (CHv.at X30 hZ15 (own_ew hw) CR32.1)
  have Gr33 : h15.size ≤ h30.size := Nat.le_trans (Keep.of_wr W27).1 (Keep.of_wr W30).1
  obtain ⟨fs, hr, hrun, hended, hRW⟩ := X30.leaveW hS15 (by rw [e30]; exact (Nat.le_trans hk15 Gr33)) (v := none) (fun _ => rfl)
  refine ⟨_, _, pre0 _ ?_, hrun, hended, _, _, rfl, ?_, ?_, own_rew hRW (by decide) (by decide)⟩
  · refine sA X0.here hx (g4_1 hby 0 rfl) ?_
    refine st10 _ ?_
    refine sA X10.here hx (g4_1 hby 2 rfl) ?_
    refine st11 _ ?_
    refine st13 _ ?_
    refine XS.pop X13.here hx rfl (g4_1 hby 5 rfl) rfl rfl ?_
    refine sA X13.here hx (g4_1 hby 6 rfl) ?_
    refine st15 _ ?_
    refine st18 _ ?_
    refine XS.pop X18.here hx rfl (g4_1 hby 9 rfl) rfl rfl ?_
    refine sA X18.here hx (g4_1 hby 10 rfl) ?_
    refine st21 _ ?_
    refine XS.ifNo X21.here hx rfl (g4_1 hby 12 rfl) rfl ((if0 _ _).trans (teq rfl).2) ?_
    refine sA X21.here hx (g4_1 hby 13 rfl) ?_
    refine XS.bipush X21.here hx rfl (g4_1 hby 14 rfl) ?_
    refine st23 _ ?_
    refine XS.ifYes X23.here hx rfl (pc0 := 31) (pc' := 66) rfl (g4_1 hby 16 rfl) rfl ((if0 _ _).trans (tlt (by decide)).1) (by decide) (by decide) ?_
    refine sA X23.here hx (g4_1 hby 17 rfl) ?_
    refine st25 _ ?_
    refine XS.ifYes X25.here hx rfl (pc0 := 70) (pc' := 83) rfl (g4_1 hby 19 rfl) rfl ((if0 _ _).trans (teq rfl).1) (by decide) (by decide) ?_
    refine sA X25.here hx (g4_1 hby 20 rfl) ?_
    refine sA X25.here hx (g4_1 hby 21 rfl) ?_
    refine st27 _ ?_
    refine sA X27.here hx (g4_1 hby 23 rfl) ?_
    refine sA X27.here hx (g4_1 hby 24 rfl) ?_
    refine st30 _ ?_
    exact X30.returnOut hx Bd.returns (g4_1 hby 26 rfl) hr
  · show own_Qrn12 Z rn x xi u ku w2 l0 m0 v0 l1 m1 v1 fm ui ki Ni vi h0 n0 _ T30.heap _
    rw [e30]
    exact ⟨rfl, N30, (((((Keep.refl h0 [rn]).ext E11).ext E15).wr W27 (Or.inl (List.mem_of_getElem? (i := 0) rfl))).wr W30 (Or.inl (List.mem_of_getElem? (i := 0) rfl))), Ew30, Fo31, Fw30⟩
  · show CHr Z own_EL s.vm s.heap T30.vm T30.heap
    rw [hh, e30]; exact CRz
def own_Qrn01 (Z : State) (rn x xi u : Addr) (ku : ClassId) (w2 v0 : Int32) (ui : Addr) (ki : ClassId) (Ni : Int32) (vi : List Value) (fm : Value) (h0 : Heap) (n0 : Nat) (v : Option Value) (h : Heap) (L : List Loc) : Prop := v = none ∧ Fr n0 L ∧ Keep h0 h [rn] ∧ Exa Z h rn "com/example/libhasp/libhasp/RecordName" ∧ Fld Z h rn "com/example/libhasp/libhasp/RecordName" "type" "Ljava/lang/String;" (.ref x) ∧ Fld Z h rn "com/example/libhasp/libhasp/RecordName" "id" "Ljava/lang/String;" (.ref xi)
theorem own_rn01_ef (m : MethodId) (x0 : Addr) (x1 : Addr) (x2 : Addr) : entryFrame m #[(.ref x0), (.ref x1), (.ref x2)] 3 = mkF m 0 #[vR x0, vR x1, vR x2] [] := rfl
theorem own_rn01 (l : Launch) (Z : State) (a0 : Array Value) (hw : ∀ d ∈ tables_1, d.before a0 Z = true) (ws : List Jvm.Cond) (rn x xi u : Addr) (ku : ClassId) (w2 v0 : Int32) (ui : Addr) (ki : ClassId) (Ni : Int32) (vi : List Value) (fm : Value) (h0 : Heap) (n0 : Nat) (Z0 : n0 ≤ h0.size) (E_rn : Exa Z h0 rn "com/example/libhasp/libhasp/RecordName") (F_rn_type : Fld Z h0 rn "com/example/libhasp/libhasp/RecordName" "type" "Ljava/lang/String;" .null) (F_rn_id : Fld Z h0 rn "com/example/libhasp/libhasp/RecordName" "id" "Ljava/lang/String;" .null) (g_rn : n0 ≤ rn) (S_x : own_Sr Z h0 x u ku 0 1 [(.int v0)]) (E_xi : Exa Z h0 xi "java/lang/String") (F_xi_value : Fld Z h0 xi "java/lang/String" "value" "[B" (.ref ui)) (A_ui : Arv Z h0 ui ki .byte Ni vi (.int 0)) (hNi : ¬ Ni = 0) (SS : own_ST Z h0 w2 fm) (q0 : ¬ v0 = 58) :
    MetFree l y_63 (head1 (Jvm.Cond.code y_63 prog_4_method_1_code 3 none :: ws) ({ frames := 7, cells := 4, slots := 168, locals := 100 } : Room)) (fun a U => a = #[(.ref rn), (.ref x), (.ref xi)] ∧ Z.Warmed39 U.vm ∧ U.heap = h0 ∧ CHv Z own_EL U.vm h0) (fun _ _ _ _ _ => True) (fun _ U o U' => ∃ v L, o = .returned v ∧ own_Qrn01 Z rn x xi u ku w2 v0 ui ki Ni vi fm h0 n0 v U'.heap L ∧ CHr Z own_EL U.vm U.heap U'.vm U'.heap ∧ ReturnedEndW U o U' L ({ frames := 7, cells := 4, slots := 168, locals := 100 } : Room).cells ({ frames := 7, cells := 4, slots := 168, locals := 100 } : Room).slots) := by
  refine MetFree.of_bodySF (plainFor_of_name own_pn8) hisR ?_
  intro p e s m args below meth c s₁ Bd hml0 hP hK
  obtain ⟨rfl, hZ, hh, hCH⟩ := hP
  have hx := Bd.exec
  have hby := Bd.bytes
  have hml : c.maxLocals = 3 := hml0
  have hz := hml.symm
  have hown : s.vm.findClass "com/example/libhasp/libhasp/RecordName" = some m.cls := findClass_of_methodNamed Bd.named
  have hnm := (name_of_methodNamed Bd.named Bd.method).1
  have X0 : Stand p l e ({ frames := 7, cells := 4, slots := 168, locals := 100 } : Room) (s.setVm s.vm) m #[(.ref rn), (.ref x), (.ref xi)] below meth c s₁ [] 0 0 := Stand.of_body Bd
  have e0 : s₁.heap = h0 := by rw [← hh, Bd.state]; rfl
  have N0 := Fr.nil n0
  have hS0 : s.Since s.vm 0 := (State.WarmedH.refl s).since 0
  have CR0 : CHr Z own_EL s.vm h0 s.vm h0 := CHr.refl hCH
  have pre0 : ∀ tq, Steps p.tables e below (s₁.setTop (mkF m 0 #[vR rn, vR x, vR xi] [])) tq → Steps p.tables e below (s₁.setTop (entryFrame m #[(.ref rn), (.ref x), (.ref xi)] 3)) tq := fun tq k => castTop (own_rn01_ef m rn x xi) k
  have P5 := SS.2.1
  have rf := SS.2.2.2.1
  obtain ⟨T10, X10, e10, st10⟩ := initO X0 hx hZ hown (ow hw 40 rfl) (ow hw 16 rfl) (ow hw 17 rfl) e0 (g := (mkF m 1 #[vR rn, vR x, vR xi] [(.ref rn)])) rfl hz rfl (g4_1 hby 1 rfl) (by decide) (W := 0) (Nat.le_of_eq rfl) (by decide)
  obtain ⟨ca11, T11, h11, kq11, X11, e11, E11, hS11, hk11, hZ11, ho11, hC11, Li11, st11⟩ := ldcOH X10 hx hZ hown (ow hw 41 rfl) (own_sa hw) e10 hS0 (Nat.zero_le _) (own_ew hw) CR0.1 (g := (mkF m 5 #[vR rn, vR x, vR xi] [(.ref x)])) rfl (g4_1 hby 3 rfl) (n := 84) (by decide) (by decide) (by decide) (by decide)
  have CR12 : CHr Z own_EL s.vm h0 T11.vm h11 := CR0.trans hC11
  obtain ⟨_, T13, L13, X13, ⟨rfl, Nq13, e13⟩, st13⟩ := own_cs 0 X11 hx hZ11 ho11 (ow hw 44 rfl) (ow hw 45 rfl) (ow hw 46 rfl) (ow hw 47 rfl) (own_rnn hw x ca11 (Nat.le_trans Z0 E11.1) ) e11 (g := (mkF m 7 #[vR rn, vR x, vR xi] [(.ref ca11), (.ref x)])) (rest := []) (lenOf own_pd35 rfl) (g4_1 hby 4 rfl) hz
  have Na14 := Fr.app (Fr.nil n0) Nq13
  obtain ⟨ca15, T15, h15, kq15, X15, e15, E15, hS15, hk15, hZ15, ho15, hC15, Li15, st15⟩ := ldcOH X13 hx hZ11 ho11 (ow hw 48 rfl) (own_sa hw) e13 hS11 hk11 (own_ew hw) CR12.1 (g := (mkF m 12 #[vR rn, vR x, vR xi] [(.ref xi)])) rfl (g4_1 hby 7 rfl) (n := 76) (by decide) (by decide) (by decide) (by decide)
  have CR16 : CHr Z own_EL s.vm h0 T15.vm h15 := CR12.trans hC15
  have Gr17 : h0.size ≤ h15.size := Nat.le_trans E11.1 E15.1
  obtain ⟨_, T18, L18, X18, ⟨rfl, Nq18, e18⟩, st18⟩ := own_cs 0 X15 hx hZ15 ho15 (ow hw 44 rfl) (ow hw 45 rfl) (ow hw 46 rfl) (ow hw 47 rfl) (own_rnn hw xi ca15 (Nat.le_trans Z0 Gr17) ) e15 (g := (mkF m 14 #[vR rn, vR x, vR xi] [(.ref ca15), (.ref xi)])) (rest := []) (lenOf own_pd35 rfl) (g4_1 hby 8 rfl) hz
  have Na19 := Fr.app Na14 Nq18
  have Xt20 : Ext h0 h15 := (own_xt E11 E15)
  obtain ⟨_, T21, L21, X21, ⟨rfl, Nq21, e21⟩, st21⟩ := own_cv 0 X18 hx hZ15 ho15 (ow hw 49 rfl) (ow hw 50 rfl) (ow hw 52 rfl) (ow hw 52 rfl) (ow hw 51 rfl) (ow hw 6 rfl) (ow hw 53 rfl) (own_emp hw  (Nat.le_trans Z0 Gr17) (S_x.2.1.ext Xt20) (S_x.2.2.2.ext Xt20) (by decide)) e18 (S_x.1.ext Xt20) (g := (mkF m 19 #[vR rn, vR x, vR xi] [(.ref x)])) (rest := []) (lenOf own_pd12 rfl) (g4_1 hby 11 rfl) hz
  have Na22 := Fr.app Na19 Nq21
  obtain ⟨_, T23, L23, X23, ⟨rfl, Nq23, e23⟩, st23⟩ := own_cv 0 X21 hx hZ15 ho15 (ow hw 54 rfl) (ow hw 55 rfl) (ow hw 52 rfl) (ow hw 57 rfl) (ow hw 56 rfl) (ow hw 6 rfl) (ow hw 58 rfl) (own_ix_01 hw  (Nat.le_trans Z0 Gr17) (S_x.ext Xt20) (SS.ext Xt20) q0) e21 (S_x.1.ext Xt20) (g := (mkF m 28 #[vR rn, vR x, vR xi] [(.int 58), (.ref x)])) (rest := []) (lenOf own_pd16 rfl) (g4_1 hby 15 rfl) hz
  have Na24 := Fr.app Na22 Nq23
  obtain ⟨_, T25, L25, X25, ⟨rfl, Nq25, e25⟩, st25⟩ := own_cv 0 X23 hx hZ15 ho15 (ow hw 49 rfl) (ow hw 50 rfl) (ow hw 52 rfl) (ow hw 52 rfl) (ow hw 51 rfl) (ow hw 6 rfl) (ow hw 53 rfl) (own_emp hw  (Nat.le_trans Z0 Gr17) (F_xi_value.ext Xt20) (A_ui.ext Xt20) hNi) e23 (E_xi.ext Xt20) (g := (mkF m 67 #[vR rn, vR x, vR xi] [(.ref xi)])) (rest := []) (lenOf own_pd12 rfl) (g4_1 hby 18 rfl) hz
  have Na26 := Fr.app Na24 Nq25
  obtain ⟨T27, h27, X27, e27, W27, st27⟩ := putF X25 hx hZ15 ho15 (host := "") (Or.inl (ow hw 96 rfl)) Via.refl e25 (F_rn_type.ext Xt20) (E_rn.ext Xt20) (Or.inr ⟨(ow hw 97 rfl), rfl, hnm⟩) (ow hw 35 rfl) (ty := (.object "java/lang/String")) (by decide) rfl rfl (g := (mkF m 85 #[vR rn, vR x, vR xi] [(.ref x), (.ref rn)])) rfl rfl (g4_1 hby 22 rfl)
  have Ew27 := (E_rn.ext Xt20).wr W27
  have Fw27 := (F_rn_type.ext Xt20).same W27
  have Fo28 := (F_rn_id.ext Xt20).other W27 (Or.inr (slot_ne (Or.inr (ow hw 99 rfl)) (Or.inr (ow hw 97 rfl)) (by decide) (t := (.object "java/lang/String")) (t' := (.object "java/lang/String")) (by decide) (by decide)))
  have N27 := Fr.snoc X27 Na26 g_rn
  have CR29 : CHr Z own_EL s.vm h0 T15.vm h27 := CR16.trans (CHr.wr W27 (Safe.exa (hZ15).alike (E_rn.ext Xt20) (by decide) (by decide)) CR16.1)
  obtain ⟨T30, h30, X30, e30, W30, st30⟩ := putF X27 hx hZ15 ho15 (host := "") (Or.inl (ow hw 98 rfl)) Via.refl e27 Fo28 Ew27 (Or.inr ⟨(ow hw 99 rfl), rfl, hnm⟩) (ow hw 35 rfl) (ty := (.object "java/lang/String")) (by decide) rfl rfl (g := (mkF m 90 #[vR rn, vR x, vR xi] [(.ref xi), (.ref rn)])) rfl rfl (g4_1 hby 25 rfl)
  have Ew30 := Ew27.wr W30
  have Fo31 := Fw27.other W30 (Or.inr (slot_ne (Or.inr (ow hw 97 rfl)) (Or.inr (ow hw 99 rfl)) (by decide) (t := (.object "java/lang/String")) (t' := (.object "java/lang/String")) (by decide) (by decide)))
  have Fw30 := Fo28.same W30
  have N30 := Fr.snoc X30 N27 g_rn
  have CR32 : CHr Z own_EL s.vm h0 T15.vm h30 := CR29.trans (CHr.wr W30 (Safe.exa (hZ15).alike Ew27 (by decide) (by decide)) CR29.1)
  have CRz : CHr Z own_EL s.vm h0 T30.vm h30 := CR32.trans (CHv.at X30 hZ15 (own_ew hw) CR32.1)
  have Gr33 : h15.size ≤ h30.size := Nat.le_trans (Keep.of_wr W27).1 (Keep.of_wr W30).1
  obtain ⟨fs, hr, hrun, hended, hRW⟩ := X30.leaveW hS15 (by rw [e30]; exact (Nat.le_trans hk15 Gr33)) (v := none) (fun _ => rfl)
  refine ⟨_, _, pre0 _ ?_, hrun, hended, _, _, rfl, ?_, ?_, own_rew hRW (by decide) (by decide)⟩
  · refine sA X0.here hx (g4_1 hby 0 rfl) ?_
    refine st10 _ ?_
    refine sA X10.here hx (g4_1 hby 2 rfl) ?_
    refine st11 _ ?_
    refine st13 _ ?_
    refine XS.pop X13.here hx rfl (g4_1 hby 5 rfl) rfl rfl ?_
    refine sA X13.here hx (g4_1 hby 6 rfl) ?_
    refine st15 _ ?_
    refine st18 _ ?_
    refine XS.pop X18.here hx rfl (g4_1 hby 9 rfl) rfl rfl ?_
    refine sA X18.here hx (g4_1 hby 10 rfl) ?_
    refine st21 _ ?_
    refine XS.ifNo X21.here hx rfl (g4_1 hby 12 rfl) rfl ((if0 _ _).trans (teq rfl).2) ?_
    refine sA X21.here hx (g4_1 hby 13 rfl) ?_
    refine XS.bipush X21.here hx rfl (g4_1 hby 14 rfl) ?_
    refine st23 _ ?_
    refine XS.ifYes X23.here hx rfl (pc0 := 31) (pc' := 66) rfl (g4_1 hby 16 rfl) rfl ((if0 _ _).trans (tlt (by decide)).1) (by decide) (by decide) ?_
    refine sA X23.here hx (g4_1 hby 17 rfl) ?_
    refine st25 _ ?_
    refine XS.ifYes X25.here hx rfl (pc0 := 70) (pc' := 83) rfl (g4_1 hby 19 rfl) rfl ((if0 _ _).trans (teq rfl).1) (by decide) (by decide) ?_
    refine sA X25.here hx (g4_1 hby 20 rfl) ?_
    refine sA X25.here hx (g4_1 hby 21 rfl) ?_
    refine st27 _ ?_
    refine sA X27.here hx (g4_1 hby 23 rfl) ?_
    refine sA X27.here hx (g4_1 hby 24 rfl) ?_
    refine st30 _ ?_
    exact X30.returnOut hx Bd.returns (g4_1 hby 26 rfl) hr
  · show own_Qrn01 Z rn x xi u ku w2 v0 ui ki Ni vi fm h0 n0 _ T30.heap _
    rw [e30]
    exact ⟨rfl, N30, (((((Keep.refl h0 [rn]).ext E11).ext E15).wr W27 (Or.inl (List.mem_of_getElem? (i := 0) rfl))).wr W30 (Or.inl (List.mem_of_getElem? (i := 0) rfl))), Ew30, Fo31, Fw30⟩
  · show CHr Z own_EL s.vm s.heap T30.vm T30.heap
    rw [hh, e30]; exact CRz
def own_Qrn02 (Z : State) (rn x xi u : Addr) (ku : ClassId) (w2 v0 v1 : Int32) (ui : Addr) (ki : ClassId) (Ni : Int32) (vi : List Value) (fm : Value) (h0 : Heap) (n0 : Nat) (v : Option Value) (h : Heap) (L : List Loc) : Prop := v = none ∧ Fr n0 L ∧ Keep h0 h [rn] ∧ Exa Z h rn "com/example/libhasp/libhasp/RecordName" ∧ Fld Z h rn "com/example/libhasp/libhasp/RecordName" "type" "Ljava/lang/String;" (.ref x) ∧ Fld Z h rn "com/example/libhasp/libhasp/RecordName" "id" "Ljava/lang/String;" (.ref xi)
theorem own_rn02_ef (m : MethodId) (x0 : Addr) (x1 : Addr) (x2 : Addr) : entryFrame m #[(.ref x0), (.ref x1), (.ref x2)] 3 = mkF m 0 #[vR x0, vR x1, vR x2] [] := rfl
theorem own_rn02 (l : Launch) (Z : State) (a0 : Array Value) (hw : ∀ d ∈ tables_1, d.before a0 Z = true) (ws : List Jvm.Cond) (rn x xi u : Addr) (ku : ClassId) (w2 v0 v1 : Int32) (ui : Addr) (ki : ClassId) (Ni : Int32) (vi : List Value) (fm : Value) (h0 : Heap) (n0 : Nat) (Z0 : n0 ≤ h0.size) (E_rn : Exa Z h0 rn "com/example/libhasp/libhasp/RecordName") (F_rn_type : Fld Z h0 rn "com/example/libhasp/libhasp/RecordName" "type" "Ljava/lang/String;" .null) (F_rn_id : Fld Z h0 rn "com/example/libhasp/libhasp/RecordName" "id" "Ljava/lang/String;" .null) (g_rn : n0 ≤ rn) (S_x : own_Sr Z h0 x u ku 0 2 [(.int v0), (.int v1)]) (E_xi : Exa Z h0 xi "java/lang/String") (F_xi_value : Fld Z h0 xi "java/lang/String" "value" "[B" (.ref ui)) (A_ui : Arv Z h0 ui ki .byte Ni vi (.int 0)) (hNi : ¬ Ni = 0) (SS : own_ST Z h0 w2 fm) (q0 : ¬ v0 = 58) (q1 : ¬ v1 = 58) :
    MetFree l y_63 (head1 (Jvm.Cond.code y_63 prog_4_method_1_code 3 none :: ws) ({ frames := 7, cells := 4, slots := 168, locals := 100 } : Room)) (fun a U => a = #[(.ref rn), (.ref x), (.ref xi)] ∧ Z.Warmed39 U.vm ∧ U.heap = h0 ∧ CHv Z own_EL U.vm h0) (fun _ _ _ _ _ => True) (fun _ U o U' => ∃ v L, o = .returned v ∧ own_Qrn02 Z rn x xi u ku w2 v0 v1 ui ki Ni vi fm h0 n0 v U'.heap L ∧ CHr Z own_EL U.vm U.heap U'.vm U'.heap ∧ ReturnedEndW U o U' L ({ frames := 7, cells := 4, slots := 168, locals := 100 } : Room).cells ({ frames := 7, cells := 4, slots := 168, locals := 100 } : Room).slots) := by
  refine MetFree.of_bodySF (plainFor_of_name own_pn8) hisR ?_
  intro p e s m args below meth c s₁ Bd hml0 hP hK
  obtain ⟨rfl, hZ, hh, hCH⟩ := hP
  have hx := Bd.exec
  have hby := Bd.bytes
  have hml : c.maxLocals = 3 := hml0
  have hz := hml.symm
  have hown : s.vm.findClass "com/example/libhasp/libhasp/RecordName" = some m.cls := findClass_of_methodNamed Bd.named
  have hnm := (name_of_methodNamed Bd.named Bd.method).1
  have X0 : Stand p l e ({ frames := 7, cells := 4, slots := 168, locals := 100 } : Room) (s.setVm s.vm) m #[(.ref rn), (.ref x), (.ref xi)] below meth c s₁ [] 0 0 := Stand.of_body Bd
  have e0 : s₁.heap = h0 := by rw [← hh, Bd.state]; rfl
  have N0 := Fr.nil n0
  have hS0 : s.Since s.vm 0 := (State.WarmedH.refl s).since 0
  have CR0 : CHr Z own_EL s.vm h0 s.vm h0 := CHr.refl hCH
  have pre0 : ∀ tq, Steps p.tables e below (s₁.setTop (mkF m 0 #[vR rn, vR x, vR xi] [])) tq → Steps p.tables e below (s₁.setTop (entryFrame m #[(.ref rn), (.ref x), (.ref xi)] 3)) tq := fun tq k => castTop (own_rn02_ef m rn x xi) k
  have P5 := SS.2.1
  have rf := SS.2.2.2.1
  obtain ⟨T10, X10, e10, st10⟩ := initO X0 hx hZ hown (ow hw 40 rfl) (ow hw 16 rfl) (ow hw 17 rfl) e0 (g := (mkF m 1 #[vR rn, vR x, vR xi] [(.ref rn)])) rfl hz rfl (g4_1 hby 1 rfl) (by decide) (W := 0) (Nat.le_of_eq rfl) (by decide)
  obtain ⟨ca11, T11, h11, kq11, X11, e11, E11, hS11, hk11, hZ11, ho11, hC11, Li11, st11⟩ := ldcOH X10 hx hZ hown (ow hw 41 rfl) (own_sa hw) e10 hS0 (Nat.zero_le _) (own_ew hw) CR0.1 (g := (mkF m 5 #[vR rn, vR x, vR xi] [(.ref x)])) rfl (g4_1 hby 3 rfl) (n := 84) (by decide) (by decide) (by decide) (by decide)
  have CR12 : CHr Z own_EL s.vm h0 T11.vm h11 := CR0.trans hC11
  obtain ⟨_, T13, L13, X13, ⟨rfl, Nq13, e13⟩, st13⟩ := own_cs 0 X11 hx hZ11 ho11 (ow hw 44 rfl) (ow hw 45 rfl) (ow hw 46 rfl) (ow hw 47 rfl) (own_rnn hw x ca11 (Nat.le_trans Z0 E11.1) ) e11 (g := (mkF m 7 #[vR rn, vR x, vR xi] [(.ref ca11), (.ref x)])) (rest := []) (lenOf own_pd35 rfl) (g4_1 hby 4 rfl) hz
  have Na14 := Fr.app (Fr.nil n0) Nq13
  obtain ⟨ca15, T15, h15, kq15, X15, e15, E15, hS15, hk15, hZ15, ho15, hC15, Li15, st15⟩ := ldcOH X13 hx hZ11 ho11 (ow hw 48 rfl) (own_sa hw) e13 hS11 hk11 (own_ew hw) CR12.1 (g := (mkF m 12 #[vR rn, vR x, vR xi] [(.ref xi)])) rfl (g4_1 hby 7 rfl) (n := 76) (by decide) (by decide) (by decide) (by decide)
  have CR16 : CHr Z own_EL s.vm h0 T15.vm h15 := CR12.trans hC15
  have Gr17 : h0.size ≤ h15.size := Nat.le_trans E11.1 E15.1
  obtain ⟨_, T18, L18, X18, ⟨rfl, Nq18, e18⟩, st18⟩ := own_cs 0 X15 hx hZ15 ho15 (ow hw 44 rfl) (ow hw 45 rfl) (ow hw 46 rfl) (ow hw 47 rfl) (own_rnn hw xi ca15 (Nat.le_trans Z0 Gr17) ) e15 (g := (mkF m 14 #[vR rn, vR x, vR xi] [(.ref ca15), (.ref xi)])) (rest := []) (lenOf own_pd35 rfl) (g4_1 hby 8 rfl) hz
  have Na19 := Fr.app Na14 Nq18
  have Xt20 : Ext h0 h15 := (own_xt E11 E15)
  obtain ⟨_, T21, L21, X21, ⟨rfl, Nq21, e21⟩, st21⟩ := own_cv 0 X18 hx hZ15 ho15 (ow hw 49 rfl) (ow hw 50 rfl) (ow hw 52 rfl) (ow hw 52 rfl) (ow hw 51 rfl) (ow hw 6 rfl) (ow hw 53 rfl) (own_emp hw  (Nat.le_trans Z0 Gr17) (S_x.2.1.ext Xt20) (S_x.2.2.2.ext Xt20) (by decide)) e18 (S_x.1.ext Xt20) (g := (mkF m 19 #[vR rn, vR x, vR xi] [(.ref x)])) (rest := []) (lenOf own_pd12 rfl) (g4_1 hby 11 rfl) hz
  have Na22 := Fr.app Na19 Nq21
  obtain ⟨_, T23, L23, X23, ⟨rfl, Nq23, e23⟩, st23⟩ := own_cv 0 X21 hx hZ15 ho15 (ow hw 54 rfl) (ow hw 55 rfl) (ow hw 52 rfl) (ow hw 57 rfl) (ow hw 56 rfl) (ow hw 6 rfl) (ow hw 58 rfl) (own_ix_02 hw  (Nat.le_trans Z0 Gr17) (S_x.ext Xt20) (SS.ext Xt20) q0 q1) e21 (S_x.1.ext Xt20) (g := (mkF m 28 #[vR rn, vR x, vR xi] [(.int 58), (.ref x)])) (rest := []) (lenOf own_pd16 rfl) (g4_1 hby 15 rfl) hz
  have Na24 := Fr.app Na22 Nq23
  obtain ⟨_, T25, L25, X25, ⟨rfl, Nq25, e25⟩, st25⟩ := own_cv 0 X23 hx hZ15 ho15 (ow hw 49 rfl) (ow hw 50 rfl) (ow hw 52 rfl) (ow hw 52 rfl) (ow hw 51 rfl) (ow hw 6 rfl) (ow hw 53 rfl) (own_emp hw  (Nat.le_trans Z0 Gr17) (F_xi_value.ext Xt20) (A_ui.ext Xt20) hNi) e23 (E_xi.ext Xt20) (g := (mkF m 67 #[vR rn, vR x, vR xi] [(.ref xi)])) (rest := []) (lenOf own_pd12 rfl) (g4_1 hby 18 rfl) hz
  have Na26 := Fr.app Na24 Nq25
  obtain ⟨T27, h27, X27, e27, W27, st27⟩ := putF X25 hx hZ15 ho15 (host := "") (Or.inl (ow hw 96 rfl)) Via.refl e25 (F_rn_type.ext Xt20) (E_rn.ext Xt20) (Or.inr ⟨(ow hw 97 rfl), rfl, hnm⟩) (ow hw 35 rfl) (ty := (.object "java/lang/String")) (by decide) rfl rfl (g := (mkF m 85 #[vR rn, vR x, vR xi] [(.ref x), (.ref rn)])) rfl rfl (g4_1 hby 22 rfl)
  have Ew27 := (E_rn.ext Xt20).wr W27
  have Fw27 := (F_rn_type.ext Xt20).same W27
  have Fo28 := (F_rn_id.ext Xt20).other W27 (Or.inr (slot_ne (Or.inr (ow hw 99 rfl)) (Or.inr (ow hw 97 rfl)) (by decide) (t := (.object "java/lang/String")) (t' := (.object "java/lang/String")) (by decide) (by decide)))
  have N27 := Fr.snoc X27 Na26 g_rn
  have CR29 : CHr Z own_EL s.vm h0 T15.vm h27 := CR16.trans (CHr.wr W27 (Safe.exa (hZ15).alike (E_rn.ext Xt20) (by decide) (by decide)) CR16.1)
  obtain ⟨T30, h30, X30, e30, W30, st30⟩ := putF X27 hx hZ15 ho15 (host := "") (Or.inl (ow hw 98 rfl)) Via.refl e27 Fo28 Ew27 (Or.inr ⟨(ow hw 99 rfl), rfl, hnm⟩) (ow hw 35 rfl) (ty := (.object "java/lang/String")) (by decide) rfl rfl (g := (mkF m 90 #[vR rn, vR x, vR xi] [(.ref xi), (.ref rn)])) rfl rfl (g4_1 hby 25 rfl)
  have Ew30 := Ew27.wr W30
  have Fo31 := Fw27.other W30 (Or.inr (slot_ne (Or.inr (ow hw 97 rfl)) (Or.inr (ow hw 99 rfl)) (by decide) (t := (.object "java/lang/String")) (t' := (.object "java/lang/String")) (by decide) (by decide)))
  have Fw30 := Fo28.same W30
  have N30 := Fr.snoc X30 N27 g_rn
  have CR32 : CHr Z own_EL s.vm h0 T15.vm h30 := CR29.trans (CHr.wr W30 (Safe.exa (hZ15).alike Ew27 (by decide) (by decide)) CR29.1)
  have CRz : CHr Z own_EL s.vm h0 T30.vm h30 := CR32.trans (CHv.at X30 hZ15 (own_ew hw) CR32.1)
  have Gr33 : h15.size ≤ h30.size := Nat.le_trans (Keep.of_wr W27).1 (Keep.of_wr W30).1
  obtain ⟨fs, hr, hrun, hended, hRW⟩ := X30.leaveW hS15 (by rw [e30]; exact (Nat.le_trans hk15 Gr33)) (v := none) (fun _ => rfl)
  refine ⟨_, _, pre0 _ ?_, hrun, hended, _, _, rfl, ?_, ?_, own_rew hRW (by decide) (by decide)⟩
  · refine sA X0.here hx (g4_1 hby 0 rfl) ?_
    refine st10 _ ?_
    refine sA X10.here hx (g4_1 hby 2 rfl) ?_
    refine st11 _ ?_
    refine st13 _ ?_
    refine XS.pop X13.here hx rfl (g4_1 hby 5 rfl) rfl rfl ?_
    refine sA X13.here hx (g4_1 hby 6 rfl) ?_
    refine st15 _ ?_
    refine st18 _ ?_
    refine XS.pop X18.here hx rfl (g4_1 hby 9 rfl) rfl rfl ?_
    refine sA X18.here hx (g4_1 hby 10 rfl) ?_
    refine st21 _ ?_
    refine XS.ifNo X21.here hx rfl (g4_1 hby 12 rfl) rfl ((if0 _ _).trans (teq rfl).2) ?_
    refine sA X21.here hx (g4_1 hby 13 rfl) ?_
    refine XS.bipush X21.here hx rfl (g4_1 hby 14 rfl) ?_
    refine st23 _ ?_
    refine XS.ifYes X23.here hx rfl (pc0 := 31) (pc' := 66) rfl (g4_1 hby 16 rfl) rfl ((if0 _ _).trans (tlt (by decide)).1) (by decide) (by decide) ?_
    refine sA X23.here hx (g4_1 hby 17 rfl) ?_
    refine st25 _ ?_
    refine XS.ifYes X25.here hx rfl (pc0 := 70) (pc' := 83) rfl (g4_1 hby 19 rfl) rfl ((if0 _ _).trans (teq rfl).1) (by decide) (by decide) ?_
    refine sA X25.here hx (g4_1 hby 20 rfl) ?_
    refine sA X25.here hx (g4_1 hby 21 rfl) ?_
    refine st27 _ ?_
    refine sA X27.here hx (g4_1 hby 23 rfl) ?_
    refine sA X27.here hx (g4_1 hby 24 rfl) ?_
    refine st30 _ ?_
    exact X30.returnOut hx Bd.returns (g4_1 hby 26 rfl) hr
  · show own_Qrn02 Z rn x xi u ku w2 v0 v1 ui ki Ni vi fm h0 n0 _ T30.heap _
    rw [e30]
    exact ⟨rfl, N30, (((((Keep.refl h0 [rn]).ext E11).ext E15).wr W27 (Or.inl (List.mem_of_getElem? (i := 0) rfl))).wr W30 (Or.inl (List.mem_of_getElem? (i := 0) rfl))), Ew30, Fo31, Fw30⟩
  · show CHr Z own_EL s.vm s.heap T30.vm T30.heap
    rw [hh, e30]; exact CRz
theorem own_hb : ((([(104 : Int32), (97 : Int32), (115 : Int32), (112 : Int32), (58 : Int32)] : List Int32).map (fun c => c.toInt8.toInt32)).map Value.int) = [(.int 104), (.int 97), (.int 115), (.int 112), (.int 58)] := by simp only [List.map, (by decide : ((104 : Int32).toInt8.toInt32) = (104 : Int32)), (by decide : ((97 : Int32).toInt8.toInt32) = (97 : Int32)), (by decide : ((115 : Int32).toInt8.toInt32) = (115 : Int32)), (by decide : ((112 : Int32).toInt8.toInt32) = (112 : Int32)), (by decide : ((58 : Int32).toInt8.toInt32) = (58 : Int32))]
def own_Qrk111 (Z : State) (rn x xi u : Addr) (ku : ClassId) (ui : Addr) (ki : ClassId) (w2 : Int32) (fm : Value) (l0 m0 ie0 : Int32) (h0 : Heap) (n0 : Nat) (v : Option Value) (h : Heap) (L : List Loc) : Prop := ∃ (y0 : Addr) (uy : Addr) (ky : ClassId), v = some (.ref y0) ∧ Fr n0 L ∧ Ext h0 h ∧ own_Sr Z h y0 uy ky 1 16 [(oLoL 104), (oHoH 104), (oLoL 97), (oHoH 97), (oLoL 115), (oHoH 115), (oLoL 112), (oHoH 112), (oLoL 58), (oHoH 58), (.int l0), (.int m0), (oL (58 : Int32)), (oH (58 : Int32)), (oLoL ie0), (oHoH ie0)]
theorem own_rk111_ef (m : MethodId) (x0 : Addr) : entryFrame m #[(.ref x0)] 1 = mkF m 0 #[vR x0] [] := rfl
theorem own_rk111 (l : Launch) (Z : State) (a0 : Array Value) (hw : ∀ d ∈ tables_1, d.before a0 Z = true) (ws : List Jvm.Cond) (rn x xi u : Addr) (ku : ClassId) (ui : Addr) (ki : ClassId) (w2 : Int32) (fm : Value) (l0 m0 ie0 : Int32) (h0 : Heap) (n0 : Nat) (Z0 : n0 ≤ h0.size) (E_rn : Exa Z h0 rn "com/example/libhasp/libhasp/RecordName") (F_rn_type : Fld Z h0 rn "com/example/libhasp/libhasp/RecordName" "type" "Ljava/lang/String;" (.ref x)) (F_rn_id : Fld Z h0 rn "com/example/libhasp/libhasp/RecordName" "id" "Ljava/lang/String;" (.ref xi)) (S_x : own_Sr Z h0 x u ku 1 2 [(.int l0), (.int m0)]) (S_xi : own_Sr Z h0 xi ui ki 0 1 [(.int ie0)]) (SS : own_ST Z h0 w2 fm) :
    MetFree l y_64 (head1 (Jvm.Cond.code y_64 prog_4_method_2_code 1 (some (.object "java/lang/String")) :: ws) ({ frames := 10, cells := 7, slots := 100, locals := 143 } : Room)) (fun a U => a = #[(.ref rn)] ∧ Z.Warmed39 U.vm ∧ U.heap = h0 ∧ CHv Z own_EL U.vm h0) (fun _ _ _ _ _ => True) (fun _ U o U' => ∃ v L, o = .returned v ∧ own_Qrk111 Z rn x xi u ku ui ki w2 fm l0 m0 ie0 h0 n0 v U'.heap L ∧ CHr Z own_EL U.vm U.heap U'.vm U'.heap ∧ ReturnedEndW U o U' L ({ frames := 10, cells := 7, slots := 100, locals := 143 } : Room).cells ({ frames := 10, cells := 7, slots := 100, locals := 143 } : Room).slots) := by
  refine MetFree.of_bodySF (plainFor_of_name own_pn8) hisR ?_
  intro p e s m args below meth c s₁ Bd hml0 hP hK
  obtain ⟨rfl, hZ, hh, hCH⟩ := hP
  have hx := Bd.exec
  have hby := Bd.bytes
  have hml : c.maxLocals = 1 := hml0
  have hz := hml.symm
  have hown : s.vm.findClass "com/example/libhasp/libhasp/RecordName" = some m.cls := findClass_of_methodNamed Bd.named
  have hnm := (name_of_methodNamed Bd.named Bd.method).1
  have X0 : Stand p l e ({ frames := 10, cells := 7, slots := 100, locals := 143 } : Room) (s.setVm s.vm) m #[(.ref rn)] below meth c s₁ [] 0 0 := Stand.of_body Bd
  have e0 : s₁.heap = h0 := by rw [← hh, Bd.state]; rfl
  have N0 := Fr.nil n0
  have hS0 : s.Since s.vm 0 := (State.WarmedH.refl s).since 0
  have CR0 : CHr Z own_EL s.vm h0 s.vm h0 := CHr.refl hCH
  have pre0 : ∀ tq, Steps p.tables e below (s₁.setTop (mkF m 0 #[vR rn] [])) tq → Steps p.tables e below (s₁.setTop (entryFrame m #[(.ref rn)] 1)) tq := fun tq k => castTop (own_rk111_ef m rn) k
  have P5 := SS.2.1
  have rf := SS.2.2.2.1
  obtain ⟨T10, h10, X10, e10, E10, A10, D10, -, st10⟩ := newO X0 hx hZ hown (ow hw 105 rfl) (ow hw 106 rfl) (ow hw 107 rfl) e0 (g := (mkF m 0 #[vR rn] [])) rfl (g4_2 hby 0 rfl) (by decide) (by decide)
  obtain ⟨b10, g10⟩ : ∃ z, z = h0.size := ⟨_, rfl⟩
  rw [← g10] at A10 D10 st10
  have Fvalue_10 : Fld Z h10 b10 "java/lang/AbstractStringBuilder" "value" "[B" .null := D10 (Or.inl (ow hw 120 rfl)) (ty := (.array .byte)) (by decide)
  have Fcoder_10 : Fld Z h10 b10 "java/lang/AbstractStringBuilder" "coder" "B" (.int 0) := D10 (Or.inl (ow hw 122 rfl)) (ty := .byte) (by decide)
  have Fcount_10 : Fld Z h10 b10 "java/lang/AbstractStringBuilder" "count" "I" (.int 0) := D10 (Or.inl (ow hw 136 rfl)) (ty := .int) (by decide)
  have FmaybeLatin1_10 : Fld Z h10 b10 "java/lang/AbstractStringBuilder" "maybeLatin1" "Z" (.int 0) := D10 (Or.inl (ow hw 307 rfl)) (ty := .boolean) (by decide)
  obtain ⟨_, T11, L11, X11, ⟨t_11, kt_11, rfl, Nq11, K11, Po11_0, Po11_1⟩, st11⟩ := own_cp 1 X10 hx hZ hown (ow hw 108 rfl) (ow hw 109 rfl) (ow hw 107 rfl) (ow hw 110 rfl) (own_sbi hw  (Nat.le_trans Z0 E10.1) A10 Fvalue_10 Fcoder_10 Fcount_10 FmaybeLatin1_10 (Nat.le_trans Z0 (Nat.le_of_eq g10.symm)) (SS.ext E10)) e10 (g := (mkF m 4 #[vR rn] [(.ref b10), (.ref b10)])) (rest := [(.ref b10)]) (lenOf own_pd20 rfl) (g4_2 hby 2 rfl) hz
  have Na12 := Fr.app (Fr.nil n0) Nq11
  have Xt14 : Ext h0 T11.heap := (own_xk E10 K11 ((allS (Nat.le_trans (own_xr h0).1 (Nat.le_of_eq g10.symm)) all0)))
  have CR13 : CHr Z own_EL s.vm h0 s.vm T11.heap := CR0.trans (CHr.ext Xt14 CR0.1)
  have Sf15 : Safe Z own_EL s.vm T11.heap t_11 := Safe.ext Xt14 CR0.1 (Safe.new (Nat.le_trans E10.1 Po11_1))
  obtain ⟨ca16, T16, h16, kq16, cb16, kb16, X16, e16, E16, hS16, hk16, hZ16, ho16, Ex16, Co16, Va16, Ar16, la16, lb16, hC16, Li16, sf16, st16⟩ := ldcCH X11 hx hZ hown (ow hw 123 rfl) (own_sa hw) rfl hS0 (Nat.zero_le _) (own_ew hw) (by decide) CR13.1 (vs := (([(104 : Int32), (97 : Int32), (115 : Int32), (112 : Int32), (58 : Int32)] : List Int32).map (fun c => c.toInt8.toInt32)).map Value.int) (z := (5 : Int32)) ⟨by decide, by decide +kernel⟩ (by decide) (by decide) (g := (mkF m 7 #[vR rn] [(.ref b10)])) rfl (g4_2 hby 3 rfl) (n := 20) (by decide) (by decide) (by decide) (by decide)
  have CR17 : CHr Z own_EL s.vm h0 T16.vm h16 := CR13.trans hC16
  have Sf18 := hC16.safe (Po11_0.2.2.2.2.2).lt Sf15
  have Vk16 : Arv Z h16 cb16 kb16 .byte (5 : Int32) [(.int 104), (.int 97), (.int 115), (.int 112), (.int 58)] (.int 0) := by have q := Ar16; rw [own_hb] at q; exact q
  have Xt19 : Ext h0 h16 := (own_xt Xt14 E16)
  have Gr21 : h0.size ≤ T11.heap.size := Nat.le_trans E10.1 K11.1
  have Gr20 : h0.size ≤ h16.size := Nat.le_trans Gr21 E16.1
  obtain ⟨_, T22, L22, X22, ⟨rfl, Nq22, K22, Po22_0⟩, st22⟩ := own_cv 0 X16 hx hZ16 ho16 (ow hw 124 rfl) (ow hw 125 rfl) (ow hw 127 rfl) (ow hw 127 rfl) (ow hw 126 rfl) (ow hw 107 rfl) (ow hw 128 rfl) (own_ap0 hw (5 : Int32) (5 : Int32) (16 : Int32) (0 : Int32) 0 5 [(.int 104), (.int 97), (.int 115), (.int 112), (.int 58), z0, z0, z0, z0, z0, z0, z0, z0, z0, z0, z0] (Nat.le_trans Z0 Gr20) (Po11_0.ext E16) ⟨Ex16, Va16, Co16, Vk16⟩ (Nat.le_trans Z0 (Nat.le_of_eq g10.symm)) (Nat.le_trans Z0 (Nat.le_trans E10.1 Po11_1)) (Nat.ne_of_lt (Nat.lt_of_lt_of_le (A10).lt Po11_1)) (SS.ext Xt19) (by decide) (by decide) (by decide) (by decide) (by decide) (by decide) (by decide) (by decide) rfl (Nat.le_of_ble_eq_true rfl) rfl rfl rfl) e16 (Po11_0.1.ext E16) (g := (mkF m 9 #[vR rn] [(.ref ca16), (.ref b10)])) (rest := []) (lenOf own_pd36 rfl) (g4_2 hby 4 rfl) hz
  have Na23 := Fr.app Na12 Nq22
  have CR24 : CHr Z own_EL s.vm h0 T16.vm T22.heap := CR17.trans (CHr.keep K22 (allS (Safe.exa (hZ16).alike (Po11_0.1.ext E16) (by decide) (by decide)) (allS Sf18 all0)) CR17.1)
  have Sf25 := Safe.keep K22 (allS (Safe.exa (hZ16).alike (Po11_0.1.ext E16) (by decide) (by decide)) (allS Sf18 all0)) CR17.1 Sf18
  have Vc26 : Arv Z T22.heap t_11 kt_11 .byte (16 : Int32) [(.int 104), (.int 97), (.int 115), (.int 112), (.int 58), z0, z0, z0, z0, z0, z0, z0, z0, z0, z0, z0] (.int 0) := Po22_0.2.2.2.2.2
  have Xt27 : Ext h0 T22.heap := (own_xk Xt19 K22 ((allS (Nat.le_trans (own_xr h0).1 (Nat.le_of_eq g10.symm)) (allS (Nat.le_trans E10.1 Po11_1) all0))))
  obtain ⟨T28, X28, e28, st28⟩ := getF X22 hx hZ16 ho16 (host := "") (Or.inl (ow hw 96 rfl)) Via.refl rfl (F_rn_type.ext Xt27) (g := (mkF m 13 #[vR rn] [(.ref rn), (.ref b10)])) rfl rfl (g4_2 hby 6 rfl)
  have Gr29 : h0.size ≤ T22.heap.size := Nat.le_trans Gr20 K22.1
  obtain ⟨_, T30, L30, X30, ⟨t2_30, kt2_30, rfl, Nq30, K30, Po30_0, Po30_1⟩, st30⟩ := own_cv 0 X28 hx hZ16 ho16 (ow hw 124 rfl) (ow hw 125 rfl) (ow hw 127 rfl) (ow hw 127 rfl) (ow hw 126 rfl) (ow hw 107 rfl) (ow hw 128 rfl) (own_apLU1 hw  (Nat.le_trans Z0 Gr29) ⟨Po22_0.1, Po22_0.2.1, Po22_0.2.2.1, Po22_0.2.2.2.1, Po22_0.2.2.2.2.1, Vc26⟩ (S_x.ext Xt27) (Nat.le_trans Z0 (Nat.le_of_eq g10.symm)) (Nat.ne_of_lt (Nat.lt_of_lt_of_le (S_x.1).lt (Nat.le_trans (Nat.le_refl _) (Nat.le_of_eq g10.symm)))) (Nat.ne_of_lt (Nat.lt_of_lt_of_le (S_x.2.2.2).lt (Nat.le_trans (Nat.le_refl _) (Nat.le_of_eq g10.symm)))) (SS.ext Xt27)) e28 Po22_0.1 (g := (mkF m 16 #[vR rn] [(.ref x), (.ref b10)])) (rest := []) (lenOf own_pd36 rfl) (g4_2 hby 7 rfl) hz
  have Na31 := Fr.app Na23 Nq30
  have CR32 : CHr Z own_EL s.vm h0 T16.vm T30.heap := CR24.trans (CHr.keep K30 (allS (Safe.exa (hZ16).alike Po22_0.1 (by decide) (by decide)) all0) CR24.1)
  have Sf33 : Safe Z own_EL T16.vm T30.heap t2_30 := Safe.keep K30 (allS (Safe.exa (hZ16).alike Po22_0.1 (by decide) (by decide)) all0) CR24.1 (Safe.new Po30_1)
  have Gr35 : h10.size ≤ h16.size := Nat.le_trans K11.1 E16.1
  have Gr34 : h10.size ≤ T22.heap.size := Nat.le_trans Gr35 K22.1
  have Xt36 : Ext h0 T30.heap := (own_xk Xt27 K30 ((allS (Nat.le_trans (own_xr h0).1 (Nat.le_of_eq g10.symm)) all0)))
  have Gr37 : h0.size ≤ T30.heap.size := Nat.le_trans Gr29 K30.1
  obtain ⟨_, T38, L38, X38, ⟨rfl, Nq38, K38, Po38_0⟩, st38⟩ := own_cv 0 X30 hx hZ16 ho16 (ow hw 162 rfl) (ow hw 163 rfl) (ow hw 127 rfl) (ow hw 165 rfl) (ow hw 164 rfl) (ow hw 107 rfl) (ow hw 166 rfl) (own_sc16 hw  (Nat.le_trans Z0 Gr37) Po30_0 (Nat.le_trans Z0 (Nat.le_of_eq g10.symm)) (Nat.le_trans Z0 (Nat.le_trans Gr29 Po30_1)) (Nat.ne_of_lt (Nat.lt_of_lt_of_le (A10).lt (Nat.le_trans Gr34 Po30_1))) (SS.ext Xt36) rfl) rfl Po30_0.1 (g := (mkF m 21 #[vR rn] [(.int 58), (.ref b10)])) (rest := []) (lenOf own_pd37 rfl) (g4_2 hby 9 rfl) hz
  have Na39 := Fr.app Na31 Nq38
  have CR40 : CHr Z own_EL s.vm h0 T16.vm T38.heap := CR32.trans (CHr.keep K38 (allS (Safe.exa (hZ16).alike Po30_0.1 (by decide) (by decide)) (allS Sf33 all0)) CR32.1)
  have Sf41 := Safe.keep K38 (allS (Safe.exa (hZ16).alike Po30_0.1 (by decide) (by decide)) (allS Sf33 all0)) CR32.1 Sf33
  have Vc42 : Arv Z T38.heap t2_30 kt2_30 .byte (32 : Int32) [(oLoL 104), (oHoH 104), (oLoL 97), (oHoH 97), (oLoL 115), (oHoH 115), (oLoL 112), (oHoH 112), (oLoL 58), (oHoH 58), (.int l0), (.int m0), (oL (58 : Int32)), (oH (58 : Int32)), z0, z0, z0, z0, z0, z0, z0, z0, z0, z0, z0, z0, z0, z0, z0, z0, z0, z0] (.int 0) := Po38_0.2.2.2.2.2
  have Xt43 : Ext h0 T38.heap := (own_xk Xt36 K38 ((allS (Nat.le_trans (own_xr h0).1 (Nat.le_of_eq g10.symm)) (allS (Nat.le_trans Gr29 Po30_1) all0))))
  obtain ⟨T44, X44, e44, st44⟩ := getF X38 hx hZ16 ho16 (host := "") (Or.inl (ow hw 98 rfl)) Via.refl rfl (F_rn_id.ext Xt43) (g := (mkF m 25 #[vR rn] [(.ref rn), (.ref b10)])) rfl rfl (g4_2 hby 11 rfl)
  have Gr45 : h0.size ≤ T38.heap.size := Nat.le_trans Gr37 K38.1
  obtain ⟨_, T46, L46, X46, ⟨rfl, Nq46, K46, Po46_0⟩, st46⟩ := own_cv 0 X44 hx hZ16 ho16 (ow hw 124 rfl) (ow hw 125 rfl) (ow hw 127 rfl) (ow hw 127 rfl) (ow hw 126 rfl) (ow hw 107 rfl) (ow hw 128 rfl) (own_apUL71 hw  (Nat.le_trans Z0 Gr45) ⟨Po38_0.1, Po38_0.2.1, Po38_0.2.2.1, Po38_0.2.2.2.1, Po38_0.2.2.2.2.1, Vc42⟩ (S_xi.ext Xt43) (Nat.le_trans Z0 (Nat.le_of_eq g10.symm)) (Nat.le_trans Z0 (Nat.le_trans Gr29 Po30_1)) (Nat.ne_of_lt (Nat.lt_of_lt_of_le (A10).lt (Nat.le_trans Gr34 Po30_1))) (Nat.ne_of_lt (Nat.lt_of_lt_of_le (S_xi.2.2.2).lt (Nat.le_trans Gr29 Po30_1))) (SS.ext Xt43) rfl) e44 Po38_0.1 (g := (mkF m 28 #[vR rn] [(.ref xi), (.ref b10)])) (rest := []) (lenOf own_pd36 rfl) (g4_2 hby 12 rfl) hz
  have Na47 := Fr.app Na39 Nq46
  have CR48 : CHr Z own_EL s.vm h0 T16.vm T46.heap := CR40.trans (CHr.keep K46 (allS (Safe.exa (hZ16).alike Po38_0.1 (by decide) (by decide)) (allS Sf41 all0)) CR40.1)
  have Sf49 := Safe.keep K46 (allS (Safe.exa (hZ16).alike Po38_0.1 (by decide) (by decide)) (allS Sf41 all0)) CR40.1 Sf41
  have Vc50 : Arv Z T46.heap t2_30 kt2_30 .byte (32 : Int32) [(oLoL 104), (oHoH 104), (oLoL 97), (oHoH 97), (oLoL 115), (oHoH 115), (oLoL 112), (oHoH 112), (oLoL 58), (oHoH 58), (.int l0), (.int m0), (oL (58 : Int32)), (oH (58 : Int32)), (oLoL ie0), (oHoH ie0), z0, z0, z0, z0, z0, z0, z0, z0, z0, z0, z0, z0, z0, z0, z0, z0] (.int 0) := Po46_0.2.2.2.2.2
  have Xt51 : Ext h0 T46.heap := (own_xk Xt43 K46 ((allS (Nat.le_trans (own_xr h0).1 (Nat.le_of_eq g10.symm)) (allS (Nat.le_trans Gr29 Po30_1) all0))))
  have Gr52 : h0.size ≤ T46.heap.size := Nat.le_trans Gr45 K46.1
  obtain ⟨_, T53, L53, X53, ⟨x_53, u_53, ku_53, rfl, Nq53, E53, Po53_0⟩, st53⟩ := own_cv 0 X46 hx hZ16 ho16 (ow hw 179 rfl) (ow hw 180 rfl) (ow hw 127 rfl) (ow hw 182 rfl) (ow hw 181 rfl) (ow hw 107 rfl) (ow hw 183 rfl) (own_ts1 hw [(oLoL 104), (oHoH 104), (oLoL 97), (oHoH 97), (oLoL 115), (oHoH 115), (oLoL 112), (oHoH 112), (oLoL 58), (oHoH 58), (.int l0), (.int m0), (oL (58 : Int32)), (oH (58 : Int32)), (oLoL ie0), (oHoH ie0)] (16 : Int32) 16 (Nat.le_trans Z0 Gr52) ⟨Po46_0.1, Po46_0.2.1, Po46_0.2.2.1, Po46_0.2.2.2.1, Po46_0.2.2.2.2.1, Vc50⟩ (SS.ext Xt51) rfl rfl (by decide) (by decide) (by decide) (by decide) (by decide) (by decide) (by decide)) rfl Po46_0.1 (g := (mkF m 31 #[vR rn] [(.ref b10)])) (rest := []) (lenOf own_pd38 rfl) (g4_2 hby 13 rfl) hz
  have Na54 := Fr.app Na47 Nq53
  have Xt55 : Ext h0 T53.heap := (own_xt Xt51 E53)
  have CR56 : CHr Z own_EL s.vm h0 T16.vm T53.heap := CR48.trans (CHr.ext E53 CR48.1)
  have CRz : CHr Z own_EL s.vm h0 T53.vm T53.heap := CR56.trans (CHv.at X53 hZ16 (own_ew hw) CR56.1)
  have Gr60 : h16.size ≤ T30.heap.size := Nat.le_trans K22.1 K30.1
  have Gr59 : h16.size ≤ T38.heap.size := Nat.le_trans Gr60 K38.1
  have Gr58 : h16.size ≤ T46.heap.size := Nat.le_trans Gr59 K46.1
  have Gr57 : h16.size ≤ T53.heap.size := Nat.le_trans Gr58 E53.1
  obtain ⟨fs, hr, hrun, hended, hRW⟩ := X53.leaveW hS16 ((Nat.le_trans hk16 Gr57)) (v := some (.ref x_53)) (fun h => by rw [Bd.returns] at h; cases h)
  refine ⟨_, _, pre0 _ ?_, hrun, hended, _, _, rfl, ?_, ?_, own_rew hRW (by decide) (by decide)⟩
  · refine st10 _ ?_
    refine XS.dup X10.here hx rfl (g4_2 hby 1 rfl) rfl rfl ?_
    refine st11 _ ?_
    refine st16 _ ?_
    refine st22 _ ?_
    refine sA X22.here hx (g4_2 hby 5 rfl) ?_
    refine st28 _ ?_
    refine st30 _ ?_
    refine XS.bipush X30.here hx rfl (g4_2 hby 8 rfl) ?_
    refine st38 _ ?_
    refine sA X38.here hx (g4_2 hby 10 rfl) ?_
    refine st44 _ ?_
    refine st46 _ ?_
    refine st53 _ ?_
    exact retR X53 hx Bd.returns rfl rfl rfl (g4_2 hby 14 rfl) hr
  · show own_Qrk111 Z rn x xi u ku ui ki w2 fm l0 m0 ie0 h0 n0 _ T53.heap _
    exact ⟨x_53, u_53, ku_53, rfl, Na54, Xt55, Po53_0⟩
  · show CHr Z own_EL s.vm s.heap T53.vm T53.heap
    rw [hh]; exact CRz
def own_Qrk112 (Z : State) (rn x xi u : Addr) (ku : ClassId) (ui : Addr) (ki : ClassId) (w2 : Int32) (fm : Value) (l0 m0 ie0 ie1 : Int32) (h0 : Heap) (n0 : Nat) (v : Option Value) (h : Heap) (L : List Loc) : Prop := ∃ (y0 : Addr) (uy : Addr) (ky : ClassId), v = some (.ref y0) ∧ Fr n0 L ∧ Ext h0 h ∧ own_Sr Z h y0 uy ky 1 18 [(oLoL 104), (oHoH 104), (oLoL 97), (oHoH 97), (oLoL 115), (oHoH 115), (oLoL 112), (oHoH 112), (oLoL 58), (oHoH 58), (.int l0), (.int m0), (oL (58 : Int32)), (oH (58 : Int32)), (oLoL ie0), (oHoH ie0), (oLoL ie1), (oHoH ie1)]
theorem own_rk112_ef (m : MethodId) (x0 : Addr) : entryFrame m #[(.ref x0)] 1 = mkF m 0 #[vR x0] [] := rfl
theorem own_rk112 (l : Launch) (Z : State) (a0 : Array Value) (hw : ∀ d ∈ tables_1, d.before a0 Z = true) (ws : List Jvm.Cond) (rn x xi u : Addr) (ku : ClassId) (ui : Addr) (ki : ClassId) (w2 : Int32) (fm : Value) (l0 m0 ie0 ie1 : Int32) (h0 : Heap) (n0 : Nat) (Z0 : n0 ≤ h0.size) (E_rn : Exa Z h0 rn "com/example/libhasp/libhasp/RecordName") (F_rn_type : Fld Z h0 rn "com/example/libhasp/libhasp/RecordName" "type" "Ljava/lang/String;" (.ref x)) (F_rn_id : Fld Z h0 rn "com/example/libhasp/libhasp/RecordName" "id" "Ljava/lang/String;" (.ref xi)) (S_x : own_Sr Z h0 x u ku 1 2 [(.int l0), (.int m0)]) (S_xi : own_Sr Z h0 xi ui ki 0 2 [(.int ie0), (.int ie1)]) (SS : own_ST Z h0 w2 fm) :
    MetFree l y_64 (head1 (Jvm.Cond.code y_64 prog_4_method_2_code 1 (some (.object "java/lang/String")) :: ws) ({ frames := 10, cells := 7, slots := 100, locals := 143 } : Room)) (fun a U => a = #[(.ref rn)] ∧ Z.Warmed39 U.vm ∧ U.heap = h0 ∧ CHv Z own_EL U.vm h0) (fun _ _ _ _ _ => True) (fun _ U o U' => ∃ v L, o = .returned v ∧ own_Qrk112 Z rn x xi u ku ui ki w2 fm l0 m0 ie0 ie1 h0 n0 v U'.heap L ∧ CHr Z own_EL U.vm U.heap U'.vm U'.heap ∧ ReturnedEndW U o U' L ({ frames := 10, cells := 7, slots := 100, locals := 143 } : Room).cells ({ frames := 10, cells := 7, slots := 100, locals := 143 } : Room).slots) := by
  refine MetFree.of_bodySF (plainFor_of_name own_pn8) hisR ?_
  intro p e s m args below meth c s₁ Bd hml0 hP hK
  obtain ⟨rfl, hZ, hh, hCH⟩ := hP
  have hx := Bd.exec
  have hby := Bd.bytes
  have hml : c.maxLocals = 1 := hml0
  have hz := hml.symm
  have hown : s.vm.findClass "com/example/libhasp/libhasp/RecordName" = some m.cls := findClass_of_methodNamed Bd.named
  have hnm := (name_of_methodNamed Bd.named Bd.method).1
  have X0 : Stand p l e ({ frames := 10, cells := 7, slots := 100, locals := 143 } : Room) (s.setVm s.vm) m #[(.ref rn)] below meth c s₁ [] 0 0 := Stand.of_body Bd
  have e0 : s₁.heap = h0 := by rw [← hh, Bd.state]; rfl
  have N0 := Fr.nil n0
  have hS0 : s.Since s.vm 0 := (State.WarmedH.refl s).since 0
  have CR0 : CHr Z own_EL s.vm h0 s.vm h0 := CHr.refl hCH
  have pre0 : ∀ tq, Steps p.tables e below (s₁.setTop (mkF m 0 #[vR rn] [])) tq → Steps p.tables e below (s₁.setTop (entryFrame m #[(.ref rn)] 1)) tq := fun tq k => castTop (own_rk112_ef m rn) k
  have P5 := SS.2.1
  have rf := SS.2.2.2.1
  obtain ⟨T10, h10, X10, e10, E10, A10, D10, -, st10⟩ := newO X0 hx hZ hown (ow hw 105 rfl) (ow hw 106 rfl) (ow hw 107 rfl) e0 (g := (mkF m 0 #[vR rn] [])) rfl (g4_2 hby 0 rfl) (by decide) (by decide)
  obtain ⟨b10, g10⟩ : ∃ z, z = h0.size := ⟨_, rfl⟩
  rw [← g10] at A10 D10 st10
  have Fvalue_10 : Fld Z h10 b10 "java/lang/AbstractStringBuilder" "value" "[B" .null := D10 (Or.inl (ow hw 120 rfl)) (ty := (.array .byte)) (by decide)
  have Fcoder_10 : Fld Z h10 b10 "java/lang/AbstractStringBuilder" "coder" "B" (.int 0) := D10 (Or.inl (ow hw 122 rfl)) (ty := .byte) (by decide)
  have Fcount_10 : Fld Z h10 b10 "java/lang/AbstractStringBuilder" "count" "I" (.int 0) := D10 (Or.inl (ow hw 136 rfl)) (ty := .int) (by decide)
  have FmaybeLatin1_10 : Fld Z h10 b10 "java/lang/AbstractStringBuilder" "maybeLatin1" "Z" (.int 0) := D10 (Or.inl (ow hw 307 rfl)) (ty := .boolean) (by decide)
  obtain ⟨_, T11, L11, X11, ⟨t_11, kt_11, rfl, Nq11, K11, Po11_0, Po11_1⟩, st11⟩ := own_cp 1 X10 hx hZ hown (ow hw 108 rfl) (ow hw 109 rfl) (ow hw 107 rfl) (ow hw 110 rfl) (own_sbi hw  (Nat.le_trans Z0 E10.1) A10 Fvalue_10 Fcoder_10 Fcount_10 FmaybeLatin1_10 (Nat.le_trans Z0 (Nat.le_of_eq g10.symm)) (SS.ext E10)) e10 (g := (mkF m 4 #[vR rn] [(.ref b10), (.ref b10)])) (rest := [(.ref b10)]) (lenOf own_pd20 rfl) (g4_2 hby 2 rfl) hz
  have Na12 := Fr.app (Fr.nil n0) Nq11
  have Xt14 : Ext h0 T11.heap := (own_xk E10 K11 ((allS (Nat.le_trans (own_xr h0).1 (Nat.le_of_eq g10.symm)) all0)))
  have CR13 : CHr Z own_EL s.vm h0 s.vm T11.heap := CR0.trans (CHr.ext Xt14 CR0.1)
  have Sf15 : Safe Z own_EL s.vm T11.heap t_11 := Safe.ext Xt14 CR0.1 (Safe.new (Nat.le_trans E10.1 Po11_1))
  obtain ⟨ca16, T16, h16, kq16, cb16, kb16, X16, e16, E16, hS16, hk16, hZ16, ho16, Ex16, Co16, Va16, Ar16, la16, lb16, hC16, Li16, sf16, st16⟩ := ldcCH X11 hx hZ hown (ow hw 123 rfl) (own_sa hw) rfl hS0 (Nat.zero_le _) (own_ew hw) (by decide) CR13.1 (vs := (([(104 : Int32), (97 : Int32), (115 : Int32), (112 : Int32), (58 : Int32)] : List Int32).map (fun c => c.toInt8.toInt32)).map Value.int) (z := (5 : Int32)) ⟨by decide, by decide +kernel⟩ (by decide) (by decide) (g := (mkF m 7 #[vR rn] [(.ref b10)])) rfl (g4_2 hby 3 rfl) (n := 20) (by decide) (by decide) (by decide) (by decide)
  have CR17 : CHr Z own_EL s.vm h0 T16.vm h16 := CR13.trans hC16
  have Sf18 := hC16.safe (Po11_0.2.2.2.2.2).lt Sf15
  have Vk16 : Arv Z h16 cb16 kb16 .byte (5 : Int32) [(.int 104), (.int 97), (.int 115), (.int 112), (.int 58)] (.int 0) := by have q := Ar16; rw [own_hb] at q; exact q
  have Xt19 : Ext h0 h16 := (own_xt Xt14 E16)
  have Gr21 : h0.size ≤ T11.heap.size := Nat.le_trans E10.1 K11.1
  have Gr20 : h0.size ≤ h16.size := Nat.le_trans Gr21 E16.1
  obtain ⟨_, T22, L22, X22, ⟨rfl, Nq22, K22, Po22_0⟩, st22⟩ := own_cv 0 X16 hx hZ16 ho16 (ow hw 124 rfl) (ow hw 125 rfl) (ow hw 127 rfl) (ow hw 127 rfl) (ow hw 126 rfl) (ow hw 107 rfl) (ow hw 128 rfl) (own_ap0 hw (5 : Int32) (5 : Int32) (16 : Int32) (0 : Int32) 0 5 [(.int 104), (.int 97), (.int 115), (.int 112), (.int 58), z0, z0, z0, z0, z0, z0, z0, z0, z0, z0, z0] (Nat.le_trans Z0 Gr20) (Po11_0.ext E16) ⟨Ex16, Va16, Co16, Vk16⟩ (Nat.le_trans Z0 (Nat.le_of_eq g10.symm)) (Nat.le_trans Z0 (Nat.le_trans E10.1 Po11_1)) (Nat.ne_of_lt (Nat.lt_of_lt_of_le (A10).lt Po11_1)) (SS.ext Xt19) (by decide) (by decide) (by decide) (by decide) (by decide) (by decide) (by decide) (by decide) rfl (Nat.le_of_ble_eq_true rfl) rfl rfl rfl) e16 (Po11_0.1.ext E16) (g := (mkF m 9 #[vR rn] [(.ref ca16), (.ref b10)])) (rest := []) (lenOf own_pd36 rfl) (g4_2 hby 4 rfl) hz
  have Na23 := Fr.app Na12 Nq22
  have CR24 : CHr Z own_EL s.vm h0 T16.vm T22.heap := CR17.trans (CHr.keep K22 (allS (Safe.exa (hZ16).alike (Po11_0.1.ext E16) (by decide) (by decide)) (allS Sf18 all0)) CR17.1)
  have Sf25 := Safe.keep K22 (allS (Safe.exa (hZ16).alike (Po11_0.1.ext E16) (by decide) (by decide)) (allS Sf18 all0)) CR17.1 Sf18
  have Vc26 : Arv Z T22.heap t_11 kt_11 .byte (16 : Int32) [(.int 104), (.int 97), (.int 115), (.int 112), (.int 58), z0, z0, z0, z0, z0, z0, z0, z0, z0, z0, z0] (.int 0) := Po22_0.2.2.2.2.2
  have Xt27 : Ext h0 T22.heap := (own_xk Xt19 K22 ((allS (Nat.le_trans (own_xr h0).1 (Nat.le_of_eq g10.symm)) (allS (Nat.le_trans E10.1 Po11_1) all0))))
  obtain ⟨T28, X28, e28, st28⟩ := getF X22 hx hZ16 ho16 (host := "") (Or.inl (ow hw 96 rfl)) Via.refl rfl (F_rn_type.ext Xt27) (g := (mkF m 13 #[vR rn] [(.ref rn), (.ref b10)])) rfl rfl (g4_2 hby 6 rfl)
  have Gr29 : h0.size ≤ T22.heap.size := Nat.le_trans Gr20 K22.1
  obtain ⟨_, T30, L30, X30, ⟨t2_30, kt2_30, rfl, Nq30, K30, Po30_0, Po30_1⟩, st30⟩ := own_cv 0 X28 hx hZ16 ho16 (ow hw 124 rfl) (ow hw 125 rfl) (ow hw 127 rfl) (ow hw 127 rfl) (ow hw 126 rfl) (ow hw 107 rfl) (ow hw 128 rfl) (own_apLU1 hw  (Nat.le_trans Z0 Gr29) ⟨Po22_0.1, Po22_0.2.1, Po22_0.2.2.1, Po22_0.2.2.2.1, Po22_0.2.2.2.2.1, Vc26⟩ (S_x.ext Xt27) (Nat.le_trans Z0 (Nat.le_of_eq g10.symm)) (Nat.ne_of_lt (Nat.lt_of_lt_of_le (S_x.1).lt (Nat.le_trans (Nat.le_refl _) (Nat.le_of_eq g10.symm)))) (Nat.ne_of_lt (Nat.lt_of_lt_of_le (S_x.2.2.2).lt (Nat.le_trans (Nat.le_refl _) (Nat.le_of_eq g10.symm)))) (SS.ext Xt27)) e28 Po22_0.1 (g := (mkF m 16 #[vR rn] [(.ref x), (.ref b10)])) (rest := []) (lenOf own_pd36 rfl) (g4_2 hby 7 rfl) hz
  have Na31 := Fr.app Na23 Nq30
  have CR32 : CHr Z own_EL s.vm h0 T16.vm T30.heap := CR24.trans (CHr.keep K30 (allS (Safe.exa (hZ16).alike Po22_0.1 (by decide) (by decide)) all0) CR24.1)
  have Sf33 : Safe Z own_EL T16.vm T30.heap t2_30 := Safe.keep K30 (allS (Safe.exa (hZ16).alike Po22_0.1 (by decide) (by decide)) all0) CR24.1 (Safe.new Po30_1)
  have Gr35 : h10.size ≤ h16.size := Nat.le_trans K11.1 E16.1
  have Gr34 : h10.size ≤ T22.heap.size := Nat.le_trans Gr35 K22.1
  have Xt36 : Ext h0 T30.heap := (own_xk Xt27 K30 ((allS (Nat.le_trans (own_xr h0).1 (Nat.le_of_eq g10.symm)) all0)))
  have Gr37 : h0.size ≤ T30.heap.size := Nat.le_trans Gr29 K30.1
  obtain ⟨_, T38, L38, X38, ⟨rfl, Nq38, K38, Po38_0⟩, st38⟩ := own_cv 0 X30 hx hZ16 ho16 (ow hw 162 rfl) (ow hw 163 rfl) (ow hw 127 rfl) (ow hw 165 rfl) (ow hw 164 rfl) (ow hw 107 rfl) (ow hw 166 rfl) (own_sc16 hw  (Nat.le_trans Z0 Gr37) Po30_0 (Nat.le_trans Z0 (Nat.le_of_eq g10.symm)) (Nat.le_trans Z0 (Nat.le_trans Gr29 Po30_1)) (Nat.ne_of_lt (Nat.lt_of_lt_of_le (A10).lt (Nat.le_trans Gr34 Po30_1))) (SS.ext Xt36) rfl) rfl Po30_0.1 (g := (mkF m 21 #[vR rn] [(.int 58), (.ref b10)])) (rest := []) (lenOf own_pd37 rfl) (g4_2 hby 9 rfl) hz
  have Na39 := Fr.app Na31 Nq38
  have CR40 : CHr Z own_EL s.vm h0 T16.vm T38.heap := CR32.trans (CHr.keep K38 (allS (Safe.exa (hZ16).alike Po30_0.1 (by decide) (by decide)) (allS Sf33 all0)) CR32.1)
  have Sf41 := Safe.keep K38 (allS (Safe.exa (hZ16).alike Po30_0.1 (by decide) (by decide)) (allS Sf33 all0)) CR32.1 Sf33
  have Vc42 : Arv Z T38.heap t2_30 kt2_30 .byte (32 : Int32) [(oLoL 104), (oHoH 104), (oLoL 97), (oHoH 97), (oLoL 115), (oHoH 115), (oLoL 112), (oHoH 112), (oLoL 58), (oHoH 58), (.int l0), (.int m0), (oL (58 : Int32)), (oH (58 : Int32)), z0, z0, z0, z0, z0, z0, z0, z0, z0, z0, z0, z0, z0, z0, z0, z0, z0, z0] (.int 0) := Po38_0.2.2.2.2.2
  have Xt43 : Ext h0 T38.heap := (own_xk Xt36 K38 ((allS (Nat.le_trans (own_xr h0).1 (Nat.le_of_eq g10.symm)) (allS (Nat.le_trans Gr29 Po30_1) all0))))
  obtain ⟨T44, X44, e44, st44⟩ := getF X38 hx hZ16 ho16 (host := "") (Or.inl (ow hw 98 rfl)) Via.refl rfl (F_rn_id.ext Xt43) (g := (mkF m 25 #[vR rn] [(.ref rn), (.ref b10)])) rfl rfl (g4_2 hby 11 rfl)
  have Gr45 : h0.size ≤ T38.heap.size := Nat.le_trans Gr37 K38.1
  obtain ⟨_, T46, L46, X46, ⟨rfl, Nq46, K46, Po46_0⟩, st46⟩ := own_cv 0 X44 hx hZ16 ho16 (ow hw 124 rfl) (ow hw 125 rfl) (ow hw 127 rfl) (ow hw 127 rfl) (ow hw 126 rfl) (ow hw 107 rfl) (ow hw 128 rfl) (own_apUL72 hw  (Nat.le_trans Z0 Gr45) ⟨Po38_0.1, Po38_0.2.1, Po38_0.2.2.1, Po38_0.2.2.2.1, Po38_0.2.2.2.2.1, Vc42⟩ (S_xi.ext Xt43) (Nat.le_trans Z0 (Nat.le_of_eq g10.symm)) (Nat.le_trans Z0 (Nat.le_trans Gr29 Po30_1)) (Nat.ne_of_lt (Nat.lt_of_lt_of_le (A10).lt (Nat.le_trans Gr34 Po30_1))) (Nat.ne_of_lt (Nat.lt_of_lt_of_le (S_xi.2.2.2).lt (Nat.le_trans Gr29 Po30_1))) (SS.ext Xt43) rfl) e44 Po38_0.1 (g := (mkF m 28 #[vR rn] [(.ref xi), (.ref b10)])) (rest := []) (lenOf own_pd36 rfl) (g4_2 hby 12 rfl) hz
  have Na47 := Fr.app Na39 Nq46
  have CR48 : CHr Z own_EL s.vm h0 T16.vm T46.heap := CR40.trans (CHr.keep K46 (allS (Safe.exa (hZ16).alike Po38_0.1 (by decide) (by decide)) (allS Sf41 all0)) CR40.1)
  have Sf49 := Safe.keep K46 (allS (Safe.exa (hZ16).alike Po38_0.1 (by decide) (by decide)) (allS Sf41 all0)) CR40.1 Sf41
  have Vc50 : Arv Z T46.heap t2_30 kt2_30 .byte (32 : Int32) [(oLoL 104), (oHoH 104), (oLoL 97), (oHoH 97), (oLoL 115), (oHoH 115), (oLoL 112), (oHoH 112), (oLoL 58), (oHoH 58), (.int l0), (.int m0), (oL (58 : Int32)), (oH (58 : Int32)), (oLoL ie0), (oHoH ie0), (oLoL ie1), (oHoH ie1), z0, z0, z0, z0, z0, z0, z0, z0, z0, z0, z0, z0, z0, z0] (.int 0) := Po46_0.2.2.2.2.2
  have Xt51 : Ext h0 T46.heap := (own_xk Xt43 K46 ((allS (Nat.le_trans (own_xr h0).1 (Nat.le_of_eq g10.symm)) (allS (Nat.le_trans Gr29 Po30_1) all0))))
  have Gr52 : h0.size ≤ T46.heap.size := Nat.le_trans Gr45 K46.1
  obtain ⟨_, T53, L53, X53, ⟨x_53, u_53, ku_53, rfl, Nq53, E53, Po53_0⟩, st53⟩ := own_cv 0 X46 hx hZ16 ho16 (ow hw 179 rfl) (ow hw 180 rfl) (ow hw 127 rfl) (ow hw 182 rfl) (ow hw 181 rfl) (ow hw 107 rfl) (ow hw 183 rfl) (own_ts1 hw [(oLoL 104), (oHoH 104), (oLoL 97), (oHoH 97), (oLoL 115), (oHoH 115), (oLoL 112), (oHoH 112), (oLoL 58), (oHoH 58), (.int l0), (.int m0), (oL (58 : Int32)), (oH (58 : Int32)), (oLoL ie0), (oHoH ie0), (oLoL ie1), (oHoH ie1)] (18 : Int32) 18 (Nat.le_trans Z0 Gr52) ⟨Po46_0.1, Po46_0.2.1, Po46_0.2.2.1, Po46_0.2.2.2.1, Po46_0.2.2.2.2.1, Vc50⟩ (SS.ext Xt51) rfl rfl (by decide) (by decide) (by decide) (by decide) (by decide) (by decide) (by decide)) rfl Po46_0.1 (g := (mkF m 31 #[vR rn] [(.ref b10)])) (rest := []) (lenOf own_pd38 rfl) (g4_2 hby 13 rfl) hz
  have Na54 := Fr.app Na47 Nq53
  have Xt55 : Ext h0 T53.heap := (own_xt Xt51 E53)
  have CR56 : CHr Z own_EL s.vm h0 T16.vm T53.heap := CR48.trans (CHr.ext E53 CR48.1)
  have CRz : CHr Z own_EL s.vm h0 T53.vm T53.heap := CR56.trans (CHv.at X53 hZ16 (own_ew hw) CR56.1)
  have Gr60 : h16.size ≤ T30.heap.size := Nat.le_trans K22.1 K30.1
  have Gr59 : h16.size ≤ T38.heap.size := Nat.le_trans Gr60 K38.1
  have Gr58 : h16.size ≤ T46.heap.size := Nat.le_trans Gr59 K46.1
  have Gr57 : h16.size ≤ T53.heap.size := Nat.le_trans Gr58 E53.1
  obtain ⟨fs, hr, hrun, hended, hRW⟩ := X53.leaveW hS16 ((Nat.le_trans hk16 Gr57)) (v := some (.ref x_53)) (fun h => by rw [Bd.returns] at h; cases h)
  refine ⟨_, _, pre0 _ ?_, hrun, hended, _, _, rfl, ?_, ?_, own_rew hRW (by decide) (by decide)⟩
  · refine st10 _ ?_
    refine XS.dup X10.here hx rfl (g4_2 hby 1 rfl) rfl rfl ?_
    refine st11 _ ?_
    refine st16 _ ?_
    refine st22 _ ?_
    refine sA X22.here hx (g4_2 hby 5 rfl) ?_
    refine st28 _ ?_
    refine st30 _ ?_
    refine XS.bipush X30.here hx rfl (g4_2 hby 8 rfl) ?_
    refine st38 _ ?_
    refine sA X38.here hx (g4_2 hby 10 rfl) ?_
    refine st44 _ ?_
    refine st46 _ ?_
    refine st53 _ ?_
    exact retR X53 hx Bd.returns rfl rfl rfl (g4_2 hby 14 rfl) hr
  · show own_Qrk112 Z rn x xi u ku ui ki w2 fm l0 m0 ie0 ie1 h0 n0 _ T53.heap _
    exact ⟨x_53, u_53, ku_53, rfl, Na54, Xt55, Po53_0⟩
  · show CHr Z own_EL s.vm s.heap T53.vm T53.heap
    rw [hh]; exact CRz
def own_Qrk121 (Z : State) (rn x xi u : Addr) (ku : ClassId) (ui : Addr) (ki : ClassId) (w2 : Int32) (fm : Value) (l0 m0 l1 m1 ie0 : Int32) (h0 : Heap) (n0 : Nat) (v : Option Value) (h : Heap) (L : List Loc) : Prop := ∃ (y0 : Addr) (uy : Addr) (ky : ClassId), v = some (.ref y0) ∧ Fr n0 L ∧ Ext h0 h ∧ own_Sr Z h y0 uy ky 1 18 [(oLoL 104), (oHoH 104), (oLoL 97), (oHoH 97), (oLoL 115), (oHoH 115), (oLoL 112), (oHoH 112), (oLoL 58), (oHoH 58), (.int l0), (.int m0), (.int l1), (.int m1), (oL (58 : Int32)), (oH (58 : Int32)), (oLoL ie0), (oHoH ie0)]
theorem own_rk121_ef (m : MethodId) (x0 : Addr) : entryFrame m #[(.ref x0)] 1 = mkF m 0 #[vR x0] [] := rfl
theorem own_rk121 (l : Launch) (Z : State) (a0 : Array Value) (hw : ∀ d ∈ tables_1, d.before a0 Z = true) (ws : List Jvm.Cond) (rn x xi u : Addr) (ku : ClassId) (ui : Addr) (ki : ClassId) (w2 : Int32) (fm : Value) (l0 m0 l1 m1 ie0 : Int32) (h0 : Heap) (n0 : Nat) (Z0 : n0 ≤ h0.size) (E_rn : Exa Z h0 rn "com/example/libhasp/libhasp/RecordName") (F_rn_type : Fld Z h0 rn "com/example/libhasp/libhasp/RecordName" "type" "Ljava/lang/String;" (.ref x)) (F_rn_id : Fld Z h0 rn "com/example/libhasp/libhasp/RecordName" "id" "Ljava/lang/String;" (.ref xi)) (S_x : own_Sr Z h0 x u ku 1 4 [(.int l0), (.int m0), (.int l1), (.int m1)]) (S_xi : own_Sr Z h0 xi ui ki 0 1 [(.int ie0)]) (SS : own_ST Z h0 w2 fm) :
    MetFree l y_64 (head1 (Jvm.Cond.code y_64 prog_4_method_2_code 1 (some (.object "java/lang/String")) :: ws) ({ frames := 10, cells := 7, slots := 100, locals := 143 } : Room)) (fun a U => a = #[(.ref rn)] ∧ Z.Warmed39 U.vm ∧ U.heap = h0 ∧ CHv Z own_EL U.vm h0) (fun _ _ _ _ _ => True) (fun _ U o U' => ∃ v L, o = .returned v ∧ own_Qrk121 Z rn x xi u ku ui ki w2 fm l0 m0 l1 m1 ie0 h0 n0 v U'.heap L ∧ CHr Z own_EL U.vm U.heap U'.vm U'.heap ∧ ReturnedEndW U o U' L ({ frames := 10, cells := 7, slots := 100, locals := 143 } : Room).cells ({ frames := 10, cells := 7, slots := 100, locals := 143 } : Room).slots) := by
  refine MetFree.of_bodySF (plainFor_of_name own_pn8) hisR ?_
  intro p e s m args below meth c s₁ Bd hml0 hP hK
  obtain ⟨rfl, hZ, hh, hCH⟩ := hP
  have hx := Bd.exec
  have hby := Bd.bytes
  have hml : c.maxLocals = 1 := hml0
  have hz := hml.symm
  have hown : s.vm.findClass "com/example/libhasp/libhasp/RecordName" = some m.cls := findClass_of_methodNamed Bd.named
  have hnm := (name_of_methodNamed Bd.named Bd.method).1
  have X0 : Stand p l e ({ frames := 10, cells := 7, slots := 100, locals := 143 } : Room) (s.setVm s.vm) m #[(.ref rn)] below meth c s₁ [] 0 0 := Stand.of_body Bd
  have e0 : s₁.heap = h0 := by rw [← hh, Bd.state]; rfl
  have N0 := Fr.nil n0
  have hS0 : s.Since s.vm 0 := (State.WarmedH.refl s).since 0
  have CR0 : CHr Z own_EL s.vm h0 s.vm h0 := CHr.refl hCH
  have pre0 : ∀ tq, Steps p.tables e below (s₁.setTop (mkF m 0 #[vR rn] [])) tq → Steps p.tables e below (s₁.setTop (entryFrame m #[(.ref rn)] 1)) tq := fun tq k => castTop (own_rk121_ef m rn) k
  have P5 := SS.2.1
  have rf := SS.2.2.2.1
  obtain ⟨T10, h10, X10, e10, E10, A10, D10, -, st10⟩ := newO X0 hx hZ hown (ow hw 105 rfl) (ow hw 106 rfl) (ow hw 107 rfl) e0 (g := (mkF m 0 #[vR rn] [])) rfl (g4_2 hby 0 rfl) (by decide) (by decide)
  obtain ⟨b10, g10⟩ : ∃ z, z = h0.size := ⟨_, rfl⟩
  rw [← g10] at A10 D10 st10
  have Fvalue_10 : Fld Z h10 b10 "java/lang/AbstractStringBuilder" "value" "[B" .null := D10 (Or.inl (ow hw 120 rfl)) (ty := (.array .byte)) (by decide)
  have Fcoder_10 : Fld Z h10 b10 "java/lang/AbstractStringBuilder" "coder" "B" (.int 0) := D10 (Or.inl (ow hw 122 rfl)) (ty := .byte) (by decide)
  have Fcount_10 : Fld Z h10 b10 "java/lang/AbstractStringBuilder" "count" "I" (.int 0) := D10 (Or.inl (ow hw 136 rfl)) (ty := .int) (by decide)
  have FmaybeLatin1_10 : Fld Z h10 b10 "java/lang/AbstractStringBuilder" "maybeLatin1" "Z" (.int 0) := D10 (Or.inl (ow hw 307 rfl)) (ty := .boolean) (by decide)
  obtain ⟨_, T11, L11, X11, ⟨t_11, kt_11, rfl, Nq11, K11, Po11_0, Po11_1⟩, st11⟩ := own_cp 1 X10 hx hZ hown (ow hw 108 rfl) (ow hw 109 rfl) (ow hw 107 rfl) (ow hw 110 rfl) (own_sbi hw  (Nat.le_trans Z0 E10.1) A10 Fvalue_10 Fcoder_10 Fcount_10 FmaybeLatin1_10 (Nat.le_trans Z0 (Nat.le_of_eq g10.symm)) (SS.ext E10)) e10 (g := (mkF m 4 #[vR rn] [(.ref b10), (.ref b10)])) (rest := [(.ref b10)]) (lenOf own_pd20 rfl) (g4_2 hby 2 rfl) hz
  have Na12 := Fr.app (Fr.nil n0) Nq11
  have Xt14 : Ext h0 T11.heap := (own_xk E10 K11 ((allS (Nat.le_trans (own_xr h0).1 (Nat.le_of_eq g10.symm)) all0)))
  have CR13 : CHr Z own_EL s.vm h0 s.vm T11.heap := CR0.trans (CHr.ext Xt14 CR0.1)
  have Sf15 : Safe Z own_EL s.vm T11.heap t_11 := Safe.ext Xt14 CR0.1 (Safe.new (Nat.le_trans E10.1 Po11_1))
  obtain ⟨ca16, T16, h16, kq16, cb16, kb16, X16, e16, E16, hS16, hk16, hZ16, ho16, Ex16, Co16, Va16, Ar16, la16, lb16, hC16, Li16, sf16, st16⟩ := ldcCH X11 hx hZ hown (ow hw 123 rfl) (own_sa hw) rfl hS0 (Nat.zero_le _) (own_ew hw) (by decide) CR13.1 (vs := (([(104 : Int32), (97 : Int32), (115 : Int32), (112 : Int32), (58 : Int32)] : List Int32).map (fun c => c.toInt8.toInt32)).map Value.int) (z := (5 : Int32)) ⟨by decide, by decide +kernel⟩ (by decide) (by decide) (g := (mkF m 7 #[vR rn] [(.ref b10)])) rfl (g4_2 hby 3 rfl) (n := 20) (by decide) (by decide) (by decide) (by decide)
  have CR17 : CHr Z own_EL s.vm h0 T16.vm h16 := CR13.trans hC16
  have Sf18 := hC16.safe (Po11_0.2.2.2.2.2).lt Sf15
  have Vk16 : Arv Z h16 cb16 kb16 .byte (5 : Int32) [(.int 104), (.int 97), (.int 115), (.int 112), (.int 58)] (.int 0) := by have q := Ar16; rw [own_hb] at q; exact q
  have Xt19 : Ext h0 h16 := (own_xt Xt14 E16)
  have Gr21 : h0.size ≤ T11.heap.size := Nat.le_trans E10.1 K11.1
  have Gr20 : h0.size ≤ h16.size := Nat.le_trans Gr21 E16.1
  obtain ⟨_, T22, L22, X22, ⟨rfl, Nq22, K22, Po22_0⟩, st22⟩ := own_cv 0 X16 hx hZ16 ho16 (ow hw 124 rfl) (ow hw 125 rfl) (ow hw 127 rfl) (ow hw 127 rfl) (ow hw 126 rfl) (ow hw 107 rfl) (ow hw 128 rfl) (own_ap0 hw (5 : Int32) (5 : Int32) (16 : Int32) (0 : Int32) 0 5 [(.int 104), (.int 97), (.int 115), (.int 112), (.int 58), z0, z0, z0, z0, z0, z0, z0, z0, z0, z0, z0] (Nat.le_trans Z0 Gr20) (Po11_0.ext E16) ⟨Ex16, Va16, Co16, Vk16⟩ (Nat.le_trans Z0 (Nat.le_of_eq g10.symm)) (Nat.le_trans Z0 (Nat.le_trans E10.1 Po11_1)) (Nat.ne_of_lt (Nat.lt_of_lt_of_le (A10).lt Po11_1)) (SS.ext Xt19) (by decide) (by decide) (by decide) (by decide) (by decide) (by decide) (by decide) (by decide) rfl (Nat.le_of_ble_eq_true rfl) rfl rfl rfl) e16 (Po11_0.1.ext E16) (g := (mkF m 9 #[vR rn] [(.ref ca16), (.ref b10)])) (rest := []) (lenOf own_pd36 rfl) (g4_2 hby 4 rfl) hz
  have Na23 := Fr.app Na12 Nq22
  have CR24 : CHr Z own_EL s.vm h0 T16.vm T22.heap := CR17.trans (CHr.keep K22 (allS (Safe.exa (hZ16).alike (Po11_0.1.ext E16) (by decide) (by decide)) (allS Sf18 all0)) CR17.1)
  have Sf25 := Safe.keep K22 (allS (Safe.exa (hZ16).alike (Po11_0.1.ext E16) (by decide) (by decide)) (allS Sf18 all0)) CR17.1 Sf18
  have Vc26 : Arv Z T22.heap t_11 kt_11 .byte (16 : Int32) [(.int 104), (.int 97), (.int 115), (.int 112), (.int 58), z0, z0, z0, z0, z0, z0, z0, z0, z0, z0, z0] (.int 0) := Po22_0.2.2.2.2.2
  have Xt27 : Ext h0 T22.heap := (own_xk Xt19 K22 ((allS (Nat.le_trans (own_xr h0).1 (Nat.le_of_eq g10.symm)) (allS (Nat.le_trans E10.1 Po11_1) all0))))
  obtain ⟨T28, X28, e28, st28⟩ := getF X22 hx hZ16 ho16 (host := "") (Or.inl (ow hw 96 rfl)) Via.refl rfl (F_rn_type.ext Xt27) (g := (mkF m 13 #[vR rn] [(.ref rn), (.ref b10)])) rfl rfl (g4_2 hby 6 rfl)
  have Gr29 : h0.size ≤ T22.heap.size := Nat.le_trans Gr20 K22.1
  obtain ⟨_, T30, L30, X30, ⟨t2_30, kt2_30, rfl, Nq30, K30, Po30_0, Po30_1⟩, st30⟩ := own_cv 0 X28 hx hZ16 ho16 (ow hw 124 rfl) (ow hw 125 rfl) (ow hw 127 rfl) (ow hw 127 rfl) (ow hw 126 rfl) (ow hw 107 rfl) (ow hw 128 rfl) (own_apLU2 hw  (Nat.le_trans Z0 Gr29) ⟨Po22_0.1, Po22_0.2.1, Po22_0.2.2.1, Po22_0.2.2.2.1, Po22_0.2.2.2.2.1, Vc26⟩ (S_x.ext Xt27) (Nat.le_trans Z0 (Nat.le_of_eq g10.symm)) (Nat.ne_of_lt (Nat.lt_of_lt_of_le (S_x.1).lt (Nat.le_trans (Nat.le_refl _) (Nat.le_of_eq g10.symm)))) (Nat.ne_of_lt (Nat.lt_of_lt_of_le (S_x.2.2.2).lt (Nat.le_trans (Nat.le_refl _) (Nat.le_of_eq g10.symm)))) (SS.ext Xt27)) e28 Po22_0.1 (g := (mkF m 16 #[vR rn] [(.ref x), (.ref b10)])) (rest := []) (lenOf own_pd36 rfl) (g4_2 hby 7 rfl) hz
  have Na31 := Fr.app Na23 Nq30
  have CR32 : CHr Z own_EL s.vm h0 T16.vm T30.heap := CR24.trans (CHr.keep K30 (allS (Safe.exa (hZ16).alike Po22_0.1 (by decide) (by decide)) all0) CR24.1)
  have Sf33 : Safe Z own_EL T16.vm T30.heap t2_30 := Safe.keep K30 (allS (Safe.exa (hZ16).alike Po22_0.1 (by decide) (by decide)) all0) CR24.1 (Safe.new Po30_1)
  have Gr35 : h10.size ≤ h16.size := Nat.le_trans K11.1 E16.1
  have Gr34 : h10.size ≤ T22.heap.size := Nat.le_trans Gr35 K22.1
  have Xt36 : Ext h0 T30.heap := (own_xk Xt27 K30 ((allS (Nat.le_trans (own_xr h0).1 (Nat.le_of_eq g10.symm)) all0)))
  have Gr37 : h0.size ≤ T30.heap.size := Nat.le_trans Gr29 K30.1
  obtain ⟨_, T38, L38, X38, ⟨rfl, Nq38, K38, Po38_0⟩, st38⟩ := own_cv 0 X30 hx hZ16 ho16 (ow hw 162 rfl) (ow hw 163 rfl) (ow hw 127 rfl) (ow hw 165 rfl) (ow hw 164 rfl) (ow hw 107 rfl) (ow hw 166 rfl) (own_sc17 hw  (Nat.le_trans Z0 Gr37) Po30_0 (Nat.le_trans Z0 (Nat.le_of_eq g10.symm)) (Nat.le_trans Z0 (Nat.le_trans Gr29 Po30_1)) (Nat.ne_of_lt (Nat.lt_of_lt_of_le (A10).lt (Nat.le_trans Gr34 Po30_1))) (SS.ext Xt36) rfl) rfl Po30_0.1 (g := (mkF m 21 #[vR rn] [(.int 58), (.ref b10)])) (rest := []) (lenOf own_pd37 rfl) (g4_2 hby 9 rfl) hz
  have Na39 := Fr.app Na31 Nq38
  have CR40 : CHr Z own_EL s.vm h0 T16.vm T38.heap := CR32.trans (CHr.keep K38 (allS (Safe.exa (hZ16).alike Po30_0.1 (by decide) (by decide)) (allS Sf33 all0)) CR32.1)
  have Sf41 := Safe.keep K38 (allS (Safe.exa (hZ16).alike Po30_0.1 (by decide) (by decide)) (allS Sf33 all0)) CR32.1 Sf33
  have Vc42 : Arv Z T38.heap t2_30 kt2_30 .byte (32 : Int32) [(oLoL 104), (oHoH 104), (oLoL 97), (oHoH 97), (oLoL 115), (oHoH 115), (oLoL 112), (oHoH 112), (oLoL 58), (oHoH 58), (.int l0), (.int m0), (.int l1), (.int m1), (oL (58 : Int32)), (oH (58 : Int32)), z0, z0, z0, z0, z0, z0, z0, z0, z0, z0, z0, z0, z0, z0, z0, z0] (.int 0) := Po38_0.2.2.2.2.2
  have Xt43 : Ext h0 T38.heap := (own_xk Xt36 K38 ((allS (Nat.le_trans (own_xr h0).1 (Nat.le_of_eq g10.symm)) (allS (Nat.le_trans Gr29 Po30_1) all0))))
  obtain ⟨T44, X44, e44, st44⟩ := getF X38 hx hZ16 ho16 (host := "") (Or.inl (ow hw 98 rfl)) Via.refl rfl (F_rn_id.ext Xt43) (g := (mkF m 25 #[vR rn] [(.ref rn), (.ref b10)])) rfl rfl (g4_2 hby 11 rfl)
  have Gr45 : h0.size ≤ T38.heap.size := Nat.le_trans Gr37 K38.1
  obtain ⟨_, T46, L46, X46, ⟨rfl, Nq46, K46, Po46_0⟩, st46⟩ := own_cv 0 X44 hx hZ16 ho16 (ow hw 124 rfl) (ow hw 125 rfl) (ow hw 127 rfl) (ow hw 127 rfl) (ow hw 126 rfl) (ow hw 107 rfl) (ow hw 128 rfl) (own_apUL81 hw  (Nat.le_trans Z0 Gr45) ⟨Po38_0.1, Po38_0.2.1, Po38_0.2.2.1, Po38_0.2.2.2.1, Po38_0.2.2.2.2.1, Vc42⟩ (S_xi.ext Xt43) (Nat.le_trans Z0 (Nat.le_of_eq g10.symm)) (Nat.le_trans Z0 (Nat.le_trans Gr29 Po30_1)) (Nat.ne_of_lt (Nat.lt_of_lt_of_le (A10).lt (Nat.le_trans Gr34 Po30_1))) (Nat.ne_of_lt (Nat.lt_of_lt_of_le (S_xi.2.2.2).lt (Nat.le_trans Gr29 Po30_1))) (SS.ext Xt43) rfl) e44 Po38_0.1 (g := (mkF m 28 #[vR rn] [(.ref xi), (.ref b10)])) (rest := []) (lenOf own_pd36 rfl) (g4_2 hby 12 rfl) hz
  have Na47 := Fr.app Na39 Nq46
  have CR48 : CHr Z own_EL s.vm h0 T16.vm T46.heap := CR40.trans (CHr.keep K46 (allS (Safe.exa (hZ16).alike Po38_0.1 (by decide) (by decide)) (allS Sf41 all0)) CR40.1)
  have Sf49 := Safe.keep K46 (allS (Safe.exa (hZ16).alike Po38_0.1 (by decide) (by decide)) (allS Sf41 all0)) CR40.1 Sf41
  have Vc50 : Arv Z T46.heap t2_30 kt2_30 .byte (32 : Int32) [(oLoL 104), (oHoH 104), (oLoL 97), (oHoH 97), (oLoL 115), (oHoH 115), (oLoL 112), (oHoH 112), (oLoL 58), (oHoH 58), (.int l0), (.int m0), (.int l1), (.int m1), (oL (58 : Int32)), (oH (58 : Int32)), (oLoL ie0), (oHoH ie0), z0, z0, z0, z0, z0, z0, z0, z0, z0, z0, z0, z0, z0, z0] (.int 0) := Po46_0.2.2.2.2.2
  have Xt51 : Ext h0 T46.heap := (own_xk Xt43 K46 ((allS (Nat.le_trans (own_xr h0).1 (Nat.le_of_eq g10.symm)) (allS (Nat.le_trans Gr29 Po30_1) all0))))
  have Gr52 : h0.size ≤ T46.heap.size := Nat.le_trans Gr45 K46.1
  obtain ⟨_, T53, L53, X53, ⟨x_53, u_53, ku_53, rfl, Nq53, E53, Po53_0⟩, st53⟩ := own_cv 0 X46 hx hZ16 ho16 (ow hw 179 rfl) (ow hw 180 rfl) (ow hw 127 rfl) (ow hw 182 rfl) (ow hw 181 rfl) (ow hw 107 rfl) (ow hw 183 rfl) (own_ts1 hw [(oLoL 104), (oHoH 104), (oLoL 97), (oHoH 97), (oLoL 115), (oHoH 115), (oLoL 112), (oHoH 112), (oLoL 58), (oHoH 58), (.int l0), (.int m0), (.int l1), (.int m1), (oL (58 : Int32)), (oH (58 : Int32)), (oLoL ie0), (oHoH ie0)] (18 : Int32) 18 (Nat.le_trans Z0 Gr52) ⟨Po46_0.1, Po46_0.2.1, Po46_0.2.2.1, Po46_0.2.2.2.1, Po46_0.2.2.2.2.1, Vc50⟩ (SS.ext Xt51) rfl rfl (by decide) (by decide) (by decide) (by decide) (by decide) (by decide) (by decide)) rfl Po46_0.1 (g := (mkF m 31 #[vR rn] [(.ref b10)])) (rest := []) (lenOf own_pd38 rfl) (g4_2 hby 13 rfl) hz
  have Na54 := Fr.app Na47 Nq53
  have Xt55 : Ext h0 T53.heap := (own_xt Xt51 E53)
  have CR56 : CHr Z own_EL s.vm h0 T16.vm T53.heap := CR48.trans (CHr.ext E53 CR48.1)
  have CRz : CHr Z own_EL s.vm h0 T53.vm T53.heap := CR56.trans (CHv.at X53 hZ16 (own_ew hw) CR56.1)
  have Gr60 : h16.size ≤ T30.heap.size := Nat.le_trans K22.1 K30.1
  have Gr59 : h16.size ≤ T38.heap.size := Nat.le_trans Gr60 K38.1
  have Gr58 : h16.size ≤ T46.heap.size := Nat.le_trans Gr59 K46.1
  have Gr57 : h16.size ≤ T53.heap.size := Nat.le_trans Gr58 E53.1
  obtain ⟨fs, hr, hrun, hended, hRW⟩ := X53.leaveW hS16 ((Nat.le_trans hk16 Gr57)) (v := some (.ref x_53)) (fun h => by rw [Bd.returns] at h; cases h)
  refine ⟨_, _, pre0 _ ?_, hrun, hended, _, _, rfl, ?_, ?_, own_rew hRW (by decide) (by decide)⟩
  · refine st10 _ ?_
    refine XS.dup X10.here hx rfl (g4_2 hby 1 rfl) rfl rfl ?_
    refine st11 _ ?_
    refine st16 _ ?_
    refine st22 _ ?_
    refine sA X22.here hx (g4_2 hby 5 rfl) ?_
    refine st28 _ ?_
    refine st30 _ ?_
    refine XS.bipush X30.here hx rfl (g4_2 hby 8 rfl) ?_
    refine st38 _ ?_
    refine sA X38.here hx (g4_2 hby 10 rfl) ?_
    refine st44 _ ?_
    refine st46 _ ?_
    refine st53 _ ?_
    exact retR X53 hx Bd.returns rfl rfl rfl (g4_2 hby 14 rfl) hr
  · show own_Qrk121 Z rn x xi u ku ui ki w2 fm l0 m0 l1 m1 ie0 h0 n0 _ T53.heap _
    exact ⟨x_53, u_53, ku_53, rfl, Na54, Xt55, Po53_0⟩
  · show CHr Z own_EL s.vm s.heap T53.vm T53.heap
    rw [hh]; exact CRz
def own_Qrk122 (Z : State) (rn x xi u : Addr) (ku : ClassId) (ui : Addr) (ki : ClassId) (w2 : Int32) (fm : Value) (l0 m0 l1 m1 ie0 ie1 : Int32) (h0 : Heap) (n0 : Nat) (v : Option Value) (h : Heap) (L : List Loc) : Prop := ∃ (y0 : Addr) (uy : Addr) (ky : ClassId), v = some (.ref y0) ∧ Fr n0 L ∧ Ext h0 h ∧ own_Sr Z h y0 uy ky 1 20 [(oLoL 104), (oHoH 104), (oLoL 97), (oHoH 97), (oLoL 115), (oHoH 115), (oLoL 112), (oHoH 112), (oLoL 58), (oHoH 58), (.int l0), (.int m0), (.int l1), (.int m1), (oL (58 : Int32)), (oH (58 : Int32)), (oLoL ie0), (oHoH ie0), (oLoL ie1), (oHoH ie1)]
theorem own_rk122_ef (m : MethodId) (x0 : Addr) : entryFrame m #[(.ref x0)] 1 = mkF m 0 #[vR x0] [] := rfl
theorem own_rk122 (l : Launch) (Z : State) (a0 : Array Value) (hw : ∀ d ∈ tables_1, d.before a0 Z = true) (ws : List Jvm.Cond) (rn x xi u : Addr) (ku : ClassId) (ui : Addr) (ki : ClassId) (w2 : Int32) (fm : Value) (l0 m0 l1 m1 ie0 ie1 : Int32) (h0 : Heap) (n0 : Nat) (Z0 : n0 ≤ h0.size) (E_rn : Exa Z h0 rn "com/example/libhasp/libhasp/RecordName") (F_rn_type : Fld Z h0 rn "com/example/libhasp/libhasp/RecordName" "type" "Ljava/lang/String;" (.ref x)) (F_rn_id : Fld Z h0 rn "com/example/libhasp/libhasp/RecordName" "id" "Ljava/lang/String;" (.ref xi)) (S_x : own_Sr Z h0 x u ku 1 4 [(.int l0), (.int m0), (.int l1), (.int m1)]) (S_xi : own_Sr Z h0 xi ui ki 0 2 [(.int ie0), (.int ie1)]) (SS : own_ST Z h0 w2 fm) :
    MetFree l y_64 (head1 (Jvm.Cond.code y_64 prog_4_method_2_code 1 (some (.object "java/lang/String")) :: ws) ({ frames := 10, cells := 7, slots := 100, locals := 143 } : Room)) (fun a U => a = #[(.ref rn)] ∧ Z.Warmed39 U.vm ∧ U.heap = h0 ∧ CHv Z own_EL U.vm h0) (fun _ _ _ _ _ => True) (fun _ U o U' => ∃ v L, o = .returned v ∧ own_Qrk122 Z rn x xi u ku ui ki w2 fm l0 m0 l1 m1 ie0 ie1 h0 n0 v U'.heap L ∧ CHr Z own_EL U.vm U.heap U'.vm U'.heap ∧ ReturnedEndW U o U' L ({ frames := 10, cells := 7, slots := 100, locals := 143 } : Room).cells ({ frames := 10, cells := 7, slots := 100, locals := 143 } : Room).slots) := by
  refine MetFree.of_bodySF (plainFor_of_name own_pn8) hisR ?_
  intro p e s m args below meth c s₁ Bd hml0 hP hK
  obtain ⟨rfl, hZ, hh, hCH⟩ := hP
  have hx := Bd.exec
  have hby := Bd.bytes
  have hml : c.maxLocals = 1 := hml0
  have hz := hml.symm
  have hown : s.vm.findClass "com/example/libhasp/libhasp/RecordName" = some m.cls := findClass_of_methodNamed Bd.named
  have hnm := (name_of_methodNamed Bd.named Bd.method).1
  have X0 : Stand p l e ({ frames := 10, cells := 7, slots := 100, locals := 143 } : Room) (s.setVm s.vm) m #[(.ref rn)] below meth c s₁ [] 0 0 := Stand.of_body Bd
  have e0 : s₁.heap = h0 := by rw [← hh, Bd.state]; rfl
  have N0 := Fr.nil n0
  have hS0 : s.Since s.vm 0 := (State.WarmedH.refl s).since 0
  have CR0 : CHr Z own_EL s.vm h0 s.vm h0 := CHr.refl hCH
  have pre0 : ∀ tq, Steps p.tables e below (s₁.setTop (mkF m 0 #[vR rn] [])) tq → Steps p.tables e below (s₁.setTop (entryFrame m #[(.ref rn)] 1)) tq := fun tq k => castTop (own_rk122_ef m rn) k
  have P5 := SS.2.1
  have rf := SS.2.2.2.1
  obtain ⟨T10, h10, X10, e10, E10, A10, D10, -, st10⟩ := newO X0 hx hZ hown (ow hw 105 rfl) (ow hw 106 rfl) (ow hw 107 rfl) e0 (g := (mkF m 0 #[vR rn] [])) rfl (g4_2 hby 0 rfl) (by decide) (by decide)
  obtain ⟨b10, g10⟩ : ∃ z, z = h0.size := ⟨_, rfl⟩
  rw [← g10] at A10 D10 st10
  have Fvalue_10 : Fld Z h10 b10 "java/lang/AbstractStringBuilder" "value" "[B" .null := D10 (Or.inl (ow hw 120 rfl)) (ty := (.array .byte)) (by decide)
  have Fcoder_10 : Fld Z h10 b10 "java/lang/AbstractStringBuilder" "coder" "B" (.int 0) := D10 (Or.inl (ow hw 122 rfl)) (ty := .byte) (by decide)
  have Fcount_10 : Fld Z h10 b10 "java/lang/AbstractStringBuilder" "count" "I" (.int 0) := D10 (Or.inl (ow hw 136 rfl)) (ty := .int) (by decide)
  have FmaybeLatin1_10 : Fld Z h10 b10 "java/lang/AbstractStringBuilder" "maybeLatin1" "Z" (.int 0) := D10 (Or.inl (ow hw 307 rfl)) (ty := .boolean) (by decide)
  obtain ⟨_, T11, L11, X11, ⟨t_11, kt_11, rfl, Nq11, K11, Po11_0, Po11_1⟩, st11⟩ := own_cp 1 X10 hx hZ hown (ow hw 108 rfl) (ow hw 109 rfl) (ow hw 107 rfl) (ow hw 110 rfl) (own_sbi hw  (Nat.le_trans Z0 E10.1) A10 Fvalue_10 Fcoder_10 Fcount_10 FmaybeLatin1_10 (Nat.le_trans Z0 (Nat.le_of_eq g10.symm)) (SS.ext E10)) e10 (g := (mkF m 4 #[vR rn] [(.ref b10), (.ref b10)])) (rest := [(.ref b10)]) (lenOf own_pd20 rfl) (g4_2 hby 2 rfl) hz
  have Na12 := Fr.app (Fr.nil n0) Nq11
  have Xt14 : Ext h0 T11.heap := (own_xk E10 K11 ((allS (Nat.le_trans (own_xr h0).1 (Nat.le_of_eq g10.symm)) all0)))
  have CR13 : CHr Z own_EL s.vm h0 s.vm T11.heap := CR0.trans (CHr.ext Xt14 CR0.1)
  have Sf15 : Safe Z own_EL s.vm T11.heap t_11 := Safe.ext Xt14 CR0.1 (Safe.new (Nat.le_trans E10.1 Po11_1))
  obtain ⟨ca16, T16, h16, kq16, cb16, kb16, X16, e16, E16, hS16, hk16, hZ16, ho16, Ex16, Co16, Va16, Ar16, la16, lb16, hC16, Li16, sf16, st16⟩ := ldcCH X11 hx hZ hown (ow hw 123 rfl) (own_sa hw) rfl hS0 (Nat.zero_le _) (own_ew hw) (by decide) CR13.1 (vs := (([(104 : Int32), (97 : Int32), (115 : Int32), (112 : Int32), (58 : Int32)] : List Int32).map (fun c => c.toInt8.toInt32)).map Value.int) (z := (5 : Int32)) ⟨by decide, by decide +kernel⟩ (by decide) (by decide) (g := (mkF m 7 #[vR rn] [(.ref b10)])) rfl (g4_2 hby 3 rfl) (n := 20) (by decide) (by decide) (by decide) (by decide)
  have CR17 : CHr Z own_EL s.vm h0 T16.vm h16 := CR13.trans hC16
  have Sf18 := hC16.safe (Po11_0.2.2.2.2.2).lt Sf15
  have Vk16 : Arv Z h16 cb16 kb16 .byte (5 : Int32) [(.int 104), (.int 97), (.int 115), (.int 112), (.int 58)] (.int 0) := by have q := Ar16; rw [own_hb] at q; exact q
  have Xt19 : Ext h0 h16 := (own_xt Xt14 E16)
  have Gr21 : h0.size ≤ T11.heap.size := Nat.le_trans E10.1 K11.1
  have Gr20 : h0.size ≤ h16.size := Nat.le_trans Gr21 E16.1
  obtain ⟨_, T22, L22, X22, ⟨rfl, Nq22, K22, Po22_0⟩, st22⟩ := own_cv 0 X16 hx hZ16 ho16 (ow hw 124 rfl) (ow hw 125 rfl) (ow hw 127 rfl) (ow hw 127 rfl) (ow hw 126 rfl) (ow hw 107 rfl) (ow hw 128 rfl) (own_ap0 hw (5 : Int32) (5 : Int32) (16 : Int32) (0 : Int32) 0 5 [(.int 104), (.int 97), (.int 115), (.int 112), (.int 58), z0, z0, z0, z0, z0, z0, z0, z0, z0, z0, z0] (Nat.le_trans Z0 Gr20) (Po11_0.ext E16) ⟨Ex16, Va16, Co16, Vk16⟩ (Nat.le_trans Z0 (Nat.le_of_eq g10.symm)) (Nat.le_trans Z0 (Nat.le_trans E10.1 Po11_1)) (Nat.ne_of_lt (Nat.lt_of_lt_of_le (A10).lt Po11_1)) (SS.ext Xt19) (by decide) (by decide) (by decide) (by decide) (by decide) (by decide) (by decide) (by decide) rfl (Nat.le_of_ble_eq_true rfl) rfl rfl rfl) e16 (Po11_0.1.ext E16) (g := (mkF m 9 #[vR rn] [(.ref ca16), (.ref b10)])) (rest := []) (lenOf own_pd36 rfl) (g4_2 hby 4 rfl) hz
  have Na23 := Fr.app Na12 Nq22
  have CR24 : CHr Z own_EL s.vm h0 T16.vm T22.heap := CR17.trans (CHr.keep K22 (allS (Safe.exa (hZ16).alike (Po11_0.1.ext E16) (by decide) (by decide)) (allS Sf18 all0)) CR17.1)
  have Sf25 := Safe.keep K22 (allS (Safe.exa (hZ16).alike (Po11_0.1.ext E16) (by decide) (by decide)) (allS Sf18 all0)) CR17.1 Sf18
  have Vc26 : Arv Z T22.heap t_11 kt_11 .byte (16 : Int32) [(.int 104), (.int 97), (.int 115), (.int 112), (.int 58), z0, z0, z0, z0, z0, z0, z0, z0, z0, z0, z0] (.int 0) := Po22_0.2.2.2.2.2
  have Xt27 : Ext h0 T22.heap := (own_xk Xt19 K22 ((allS (Nat.le_trans (own_xr h0).1 (Nat.le_of_eq g10.symm)) (allS (Nat.le_trans E10.1 Po11_1) all0))))
  obtain ⟨T28, X28, e28, st28⟩ := getF X22 hx hZ16 ho16 (host := "") (Or.inl (ow hw 96 rfl)) Via.refl rfl (F_rn_type.ext Xt27) (g := (mkF m 13 #[vR rn] [(.ref rn), (.ref b10)])) rfl rfl (g4_2 hby 6 rfl)
  have Gr29 : h0.size ≤ T22.heap.size := Nat.le_trans Gr20 K22.1
  obtain ⟨_, T30, L30, X30, ⟨t2_30, kt2_30, rfl, Nq30, K30, Po30_0, Po30_1⟩, st30⟩ := own_cv 0 X28 hx hZ16 ho16 (ow hw 124 rfl) (ow hw 125 rfl) (ow hw 127 rfl) (ow hw 127 rfl) (ow hw 126 rfl) (ow hw 107 rfl) (ow hw 128 rfl) (own_apLU2 hw  (Nat.le_trans Z0 Gr29) ⟨Po22_0.1, Po22_0.2.1, Po22_0.2.2.1, Po22_0.2.2.2.1, Po22_0.2.2.2.2.1, Vc26⟩ (S_x.ext Xt27) (Nat.le_trans Z0 (Nat.le_of_eq g10.symm)) (Nat.ne_of_lt (Nat.lt_of_lt_of_le (S_x.1).lt (Nat.le_trans (Nat.le_refl _) (Nat.le_of_eq g10.symm)))) (Nat.ne_of_lt (Nat.lt_of_lt_of_le (S_x.2.2.2).lt (Nat.le_trans (Nat.le_refl _) (Nat.le_of_eq g10.symm)))) (SS.ext Xt27)) e28 Po22_0.1 (g := (mkF m 16 #[vR rn] [(.ref x), (.ref b10)])) (rest := []) (lenOf own_pd36 rfl) (g4_2 hby 7 rfl) hz
  have Na31 := Fr.app Na23 Nq30
  have CR32 : CHr Z own_EL s.vm h0 T16.vm T30.heap := CR24.trans (CHr.keep K30 (allS (Safe.exa (hZ16).alike Po22_0.1 (by decide) (by decide)) all0) CR24.1)
  have Sf33 : Safe Z own_EL T16.vm T30.heap t2_30 := Safe.keep K30 (allS (Safe.exa (hZ16).alike Po22_0.1 (by decide) (by decide)) all0) CR24.1 (Safe.new Po30_1)
  have Gr35 : h10.size ≤ h16.size := Nat.le_trans K11.1 E16.1
  have Gr34 : h10.size ≤ T22.heap.size := Nat.le_trans Gr35 K22.1
  have Xt36 : Ext h0 T30.heap := (own_xk Xt27 K30 ((allS (Nat.le_trans (own_xr h0).1 (Nat.le_of_eq g10.symm)) all0)))
  have Gr37 : h0.size ≤ T30.heap.size := Nat.le_trans Gr29 K30.1
  obtain ⟨_, T38, L38, X38, ⟨rfl, Nq38, K38, Po38_0⟩, st38⟩ := own_cv 0 X30 hx hZ16 ho16 (ow hw 162 rfl) (ow hw 163 rfl) (ow hw 127 rfl) (ow hw 165 rfl) (ow hw 164 rfl) (ow hw 107 rfl) (ow hw 166 rfl) (own_sc17 hw  (Nat.le_trans Z0 Gr37) Po30_0 (Nat.le_trans Z0 (Nat.le_of_eq g10.symm)) (Nat.le_trans Z0 (Nat.le_trans Gr29 Po30_1)) (Nat.ne_of_lt (Nat.lt_of_lt_of_le (A10).lt (Nat.le_trans Gr34 Po30_1))) (SS.ext Xt36) rfl) rfl Po30_0.1 (g := (mkF m 21 #[vR rn] [(.int 58), (.ref b10)])) (rest := []) (lenOf own_pd37 rfl) (g4_2 hby 9 rfl) hz
  have Na39 := Fr.app Na31 Nq38
  have CR40 : CHr Z own_EL s.vm h0 T16.vm T38.heap := CR32.trans (CHr.keep K38 (allS (Safe.exa (hZ16).alike Po30_0.1 (by decide) (by decide)) (allS Sf33 all0)) CR32.1)
  have Sf41 := Safe.keep K38 (allS (Safe.exa (hZ16).alike Po30_0.1 (by decide) (by decide)) (allS Sf33 all0)) CR32.1 Sf33
  have Vc42 : Arv Z T38.heap t2_30 kt2_30 .byte (32 : Int32) [(oLoL 104), (oHoH 104), (oLoL 97), (oHoH 97), (oLoL 115), (oHoH 115), (oLoL 112), (oHoH 112), (oLoL 58), (oHoH 58), (.int l0), (.int m0), (.int l1), (.int m1), (oL (58 : Int32)), (oH (58 : Int32)), z0, z0, z0, z0, z0, z0, z0, z0, z0, z0, z0, z0, z0, z0, z0, z0] (.int 0) := Po38_0.2.2.2.2.2
  have Xt43 : Ext h0 T38.heap := (own_xk Xt36 K38 ((allS (Nat.le_trans (own_xr h0).1 (Nat.le_of_eq g10.symm)) (allS (Nat.le_trans Gr29 Po30_1) all0))))
  obtain ⟨T44, X44, e44, st44⟩ := getF X38 hx hZ16 ho16 (host := "") (Or.inl (ow hw 98 rfl)) Via.refl rfl (F_rn_id.ext Xt43) (g := (mkF m 25 #[vR rn] [(.ref rn), (.ref b10)])) rfl rfl (g4_2 hby 11 rfl)
  have Gr45 : h0.size ≤ T38.heap.size := Nat.le_trans Gr37 K38.1
  obtain ⟨_, T46, L46, X46, ⟨rfl, Nq46, K46, Po46_0⟩, st46⟩ := own_cv 0 X44 hx hZ16 ho16 (ow hw 124 rfl) (ow hw 125 rfl) (ow hw 127 rfl) (ow hw 127 rfl) (ow hw 126 rfl) (ow hw 107 rfl) (ow hw 128 rfl) (own_apUL82 hw  (Nat.le_trans Z0 Gr45) ⟨Po38_0.1, Po38_0.2.1, Po38_0.2.2.1, Po38_0.2.2.2.1, Po38_0.2.2.2.2.1, Vc42⟩ (S_xi.ext Xt43) (Nat.le_trans Z0 (Nat.le_of_eq g10.symm)) (Nat.le_trans Z0 (Nat.le_trans Gr29 Po30_1)) (Nat.ne_of_lt (Nat.lt_of_lt_of_le (A10).lt (Nat.le_trans Gr34 Po30_1))) (Nat.ne_of_lt (Nat.lt_of_lt_of_le (S_xi.2.2.2).lt (Nat.le_trans Gr29 Po30_1))) (SS.ext Xt43) rfl) e44 Po38_0.1 (g := (mkF m 28 #[vR rn] [(.ref xi), (.ref b10)])) (rest := []) (lenOf own_pd36 rfl) (g4_2 hby 12 rfl) hz
  have Na47 := Fr.app Na39 Nq46
  have CR48 : CHr Z own_EL s.vm h0 T16.vm T46.heap := CR40.trans (CHr.keep K46 (allS (Safe.exa (hZ16).alike Po38_0.1 (by decide) (by decide)) (allS Sf41 all0)) CR40.1)
  have Sf49 := Safe.keep K46 (allS (Safe.exa (hZ16).alike Po38_0.1 (by decide) (by decide)) (allS Sf41 all0)) CR40.1 Sf41
  have Vc50 : Arv Z T46.heap t2_30 kt2_30 .byte (32 : Int32) [(oLoL 104), (oHoH 104), (oLoL 97), (oHoH 97), (oLoL 115), (oHoH 115), (oLoL 112), (oHoH 112), (oLoL 58), (oHoH 58), (.int l0), (.int m0), (.int l1), (.int m1), (oL (58 : Int32)), (oH (58 : Int32)), (oLoL ie0), (oHoH ie0), (oLoL ie1), (oHoH ie1), z0, z0, z0, z0, z0, z0, z0, z0, z0, z0, z0, z0] (.int 0) := Po46_0.2.2.2.2.2
  have Xt51 : Ext h0 T46.heap := (own_xk Xt43 K46 ((allS (Nat.le_trans (own_xr h0).1 (Nat.le_of_eq g10.symm)) (allS (Nat.le_trans Gr29 Po30_1) all0))))
  have Gr52 : h0.size ≤ T46.heap.size := Nat.le_trans Gr45 K46.1
  obtain ⟨_, T53, L53, X53, ⟨x_53, u_53, ku_53, rfl, Nq53, E53, Po53_0⟩, st53⟩ := own_cv 0 X46 hx hZ16 ho16 (ow hw 179 rfl) (ow hw 180 rfl) (ow hw 127 rfl) (ow hw 182 rfl) (ow hw 181 rfl) (ow hw 107 rfl) (ow hw 183 rfl) (own_ts1 hw [(oLoL 104), (oHoH 104), (oLoL 97), (oHoH 97), (oLoL 115), (oHoH 115), (oLoL 112), (oHoH 112), (oLoL 58), (oHoH 58), (.int l0), (.int m0), (.int l1), (.int m1), (oL (58 : Int32)), (oH (58 : Int32)), (oLoL ie0), (oHoH ie0), (oLoL ie1), (oHoH ie1)] (20 : Int32) 20 (Nat.le_trans Z0 Gr52) ⟨Po46_0.1, Po46_0.2.1, Po46_0.2.2.1, Po46_0.2.2.2.1, Po46_0.2.2.2.2.1, Vc50⟩ (SS.ext Xt51) rfl rfl (by decide) (by decide) (by decide) (by decide) (by decide) (by decide) (by decide)) rfl Po46_0.1 (g := (mkF m 31 #[vR rn] [(.ref b10)])) (rest := []) (lenOf own_pd38 rfl) (g4_2 hby 13 rfl) hz
  have Na54 := Fr.app Na47 Nq53
  have Xt55 : Ext h0 T53.heap := (own_xt Xt51 E53)
  have CR56 : CHr Z own_EL s.vm h0 T16.vm T53.heap := CR48.trans (CHr.ext E53 CR48.1)
  have CRz : CHr Z own_EL s.vm h0 T53.vm T53.heap := CR56.trans (CHv.at X53 hZ16 (own_ew hw) CR56.1)
  have Gr60 : h16.size ≤ T30.heap.size := Nat.le_trans K22.1 K30.1
  have Gr59 : h16.size ≤ T38.heap.size := Nat.le_trans Gr60 K38.1
  have Gr58 : h16.size ≤ T46.heap.size := Nat.le_trans Gr59 K46.1
  have Gr57 : h16.size ≤ T53.heap.size := Nat.le_trans Gr58 E53.1
  obtain ⟨fs, hr, hrun, hended, hRW⟩ := X53.leaveW hS16 ((Nat.le_trans hk16 Gr57)) (v := some (.ref x_53)) (fun h => by rw [Bd.returns] at h; cases h)
  refine ⟨_, _, pre0 _ ?_, hrun, hended, _, _, rfl, ?_, ?_, own_rew hRW (by decide) (by decide)⟩
  · refine st10 _ ?_
    refine XS.dup X10.here hx rfl (g4_2 hby 1 rfl) rfl rfl ?_
    refine st11 _ ?_
    refine st16 _ ?_
    refine st22 _ ?_
    refine sA X22.here hx (g4_2 hby 5 rfl) ?_
    refine st28 _ ?_
    refine st30 _ ?_
    refine XS.bipush X30.here hx rfl (g4_2 hby 8 rfl) ?_
    refine st38 _ ?_
    refine sA X38.here hx (g4_2 hby 10 rfl) ?_
    refine st44 _ ?_
    refine st46 _ ?_
    refine st53 _ ?_
    exact retR X53 hx Bd.returns rfl rfl rfl (g4_2 hby 14 rfl) hr
  · show own_Qrk122 Z rn x xi u ku ui ki w2 fm l0 m0 l1 m1 ie0 ie1 h0 n0 _ T53.heap _
    exact ⟨x_53, u_53, ku_53, rfl, Na54, Xt55, Po53_0⟩
  · show CHr Z own_EL s.vm s.heap T53.vm T53.heap
    rw [hh]; exact CRz
def own_Qrk011 (Z : State) (rn x xi u : Addr) (ku : ClassId) (ui : Addr) (ki : ClassId) (w2 v0 ie0 : Int32) (fm : Value) (h0 : Heap) (n0 : Nat) (v : Option Value) (h : Heap) (L : List Loc) : Prop := ∃ (y0 : Addr) (uy : Addr) (ky : ClassId), v = some (.ref y0) ∧ Fr n0 L ∧ Ext h0 h ∧ own_Sr Z h y0 uy ky 0 8 [(.int 104), (.int 97), (.int 115), (.int 112), (.int 58), (.int v0), (.int (nar .byte (58 : Int32))), (.int ie0)]
theorem own_rk011_ef (m : MethodId) (x0 : Addr) : entryFrame m #[(.ref x0)] 1 = mkF m 0 #[vR x0] [] := rfl
theorem own_rk011 (l : Launch) (Z : State) (a0 : Array Value) (hw : ∀ d ∈ tables_1, d.before a0 Z = true) (ws : List Jvm.Cond) (rn x xi u : Addr) (ku : ClassId) (ui : Addr) (ki : ClassId) (w2 v0 ie0 : Int32) (fm : Value) (h0 : Heap) (n0 : Nat) (Z0 : n0 ≤ h0.size) (E_rn : Exa Z h0 rn "com/example/libhasp/libhasp/RecordName") (F_rn_type : Fld Z h0 rn "com/example/libhasp/libhasp/RecordName" "type" "Ljava/lang/String;" (.ref x)) (F_rn_id : Fld Z h0 rn "com/example/libhasp/libhasp/RecordName" "id" "Ljava/lang/String;" (.ref xi)) (S_x : own_Sr Z h0 x u ku 0 1 [(.int v0)]) (S_xi : own_Sr Z h0 xi ui ki 0 1 [(.int ie0)]) (SS : own_ST Z h0 w2 fm) :
    MetFree l y_64 (head1 (Jvm.Cond.code y_64 prog_4_method_2_code 1 (some (.object "java/lang/String")) :: ws) ({ frames := 10, cells := 7, slots := 100, locals := 143 } : Room)) (fun a U => a = #[(.ref rn)] ∧ Z.Warmed39 U.vm ∧ U.heap = h0 ∧ CHv Z own_EL U.vm h0) (fun _ _ _ _ _ => True) (fun _ U o U' => ∃ v L, o = .returned v ∧ own_Qrk011 Z rn x xi u ku ui ki w2 v0 ie0 fm h0 n0 v U'.heap L ∧ CHr Z own_EL U.vm U.heap U'.vm U'.heap ∧ ReturnedEndW U o U' L ({ frames := 10, cells := 7, slots := 100, locals := 143 } : Room).cells ({ frames := 10, cells := 7, slots := 100, locals := 143 } : Room).slots) := by
  refine MetFree.of_bodySF (plainFor_of_name own_pn8) hisR ?_
  intro p e s m args below meth c s₁ Bd hml0 hP hK
  obtain ⟨rfl, hZ, hh, hCH⟩ := hP
  have hx := Bd.exec
  have hby := Bd.bytes
  have hml : c.maxLocals = 1 := hml0
  have hz := hml.symm
  have hown : s.vm.findClass "com/example/libhasp/libhasp/RecordName" = some m.cls := findClass_of_methodNamed Bd.named
  have hnm := (name_of_methodNamed Bd.named Bd.method).1
  have X0 : Stand p l e ({ frames := 10, cells := 7, slots := 100, locals := 143 } : Room) (s.setVm s.vm) m #[(.ref rn)] below meth c s₁ [] 0 0 := Stand.of_body Bd
  have e0 : s₁.heap = h0 := by rw [← hh, Bd.state]; rfl
  have N0 := Fr.nil n0
  have hS0 : s.Since s.vm 0 := (State.WarmedH.refl s).since 0
  have CR0 : CHr Z own_EL s.vm h0 s.vm h0 := CHr.refl hCH
  have pre0 : ∀ tq, Steps p.tables e below (s₁.setTop (mkF m 0 #[vR rn] [])) tq → Steps p.tables e below (s₁.setTop (entryFrame m #[(.ref rn)] 1)) tq := fun tq k => castTop (own_rk011_ef m rn) k
  have P5 := SS.2.1
  have rf := SS.2.2.2.1
  obtain ⟨T10, h10, X10, e10, E10, A10, D10, -, st10⟩ := newO X0 hx hZ hown (ow hw 105 rfl) (ow hw 106 rfl) (ow hw 107 rfl) e0 (g := (mkF m 0 #[vR rn] [])) rfl (g4_2 hby 0 rfl) (by decide) (by decide)
  obtain ⟨b10, g10⟩ : ∃ z, z = h0.size := ⟨_, rfl⟩
  rw [← g10] at A10 D10 st10
  have Fvalue_10 : Fld Z h10 b10 "java/lang/AbstractStringBuilder" "value" "[B" .null := D10 (Or.inl (ow hw 120 rfl)) (ty := (.array .byte)) (by decide)
  have Fcoder_10 : Fld Z h10 b10 "java/lang/AbstractStringBuilder" "coder" "B" (.int 0) := D10 (Or.inl (ow hw 122 rfl)) (ty := .byte) (by decide)
  have Fcount_10 : Fld Z h10 b10 "java/lang/AbstractStringBuilder" "count" "I" (.int 0) := D10 (Or.inl (ow hw 136 rfl)) (ty := .int) (by decide)
  have FmaybeLatin1_10 : Fld Z h10 b10 "java/lang/AbstractStringBuilder" "maybeLatin1" "Z" (.int 0) := D10 (Or.inl (ow hw 307 rfl)) (ty := .boolean) (by decide)
  obtain ⟨_, T11, L11, X11, ⟨t_11, kt_11, rfl, Nq11, K11, Po11_0, Po11_1⟩, st11⟩ := own_cp 1 X10 hx hZ hown (ow hw 108 rfl) (ow hw 109 rfl) (ow hw 107 rfl) (ow hw 110 rfl) (own_sbi hw  (Nat.le_trans Z0 E10.1) A10 Fvalue_10 Fcoder_10 Fcount_10 FmaybeLatin1_10 (Nat.le_trans Z0 (Nat.le_of_eq g10.symm)) (SS.ext E10)) e10 (g := (mkF m 4 #[vR rn] [(.ref b10), (.ref b10)])) (rest := [(.ref b10)]) (lenOf own_pd20 rfl) (g4_2 hby 2 rfl) hz
  have Na12 := Fr.app (Fr.nil n0) Nq11
  have Xt14 : Ext h0 T11.heap := (own_xk E10 K11 ((allS (Nat.le_trans (own_xr h0).1 (Nat.le_of_eq g10.symm)) all0)))
  have CR13 : CHr Z own_EL s.vm h0 s.vm T11.heap := CR0.trans (CHr.ext Xt14 CR0.1)
  have Sf15 : Safe Z own_EL s.vm T11.heap t_11 := Safe.ext Xt14 CR0.1 (Safe.new (Nat.le_trans E10.1 Po11_1))
  obtain ⟨ca16, T16, h16, kq16, cb16, kb16, X16, e16, E16, hS16, hk16, hZ16, ho16, Ex16, Co16, Va16, Ar16, la16, lb16, hC16, Li16, sf16, st16⟩ := ldcCH X11 hx hZ hown (ow hw 123 rfl) (own_sa hw) rfl hS0 (Nat.zero_le _) (own_ew hw) (by decide) CR13.1 (vs := (([(104 : Int32), (97 : Int32), (115 : Int32), (112 : Int32), (58 : Int32)] : List Int32).map (fun c => c.toInt8.toInt32)).map Value.int) (z := (5 : Int32)) ⟨by decide, by decide +kernel⟩ (by decide) (by decide) (g := (mkF m 7 #[vR rn] [(.ref b10)])) rfl (g4_2 hby 3 rfl) (n := 20) (by decide) (by decide) (by decide) (by decide)
  have CR17 : CHr Z own_EL s.vm h0 T16.vm h16 := CR13.trans hC16
  have Sf18 := hC16.safe (Po11_0.2.2.2.2.2).lt Sf15
  have Vk16 : Arv Z h16 cb16 kb16 .byte (5 : Int32) [(.int 104), (.int 97), (.int 115), (.int 112), (.int 58)] (.int 0) := by have q := Ar16; rw [own_hb] at q; exact q
  have Xt19 : Ext h0 h16 := (own_xt Xt14 E16)
  have Gr21 : h0.size ≤ T11.heap.size := Nat.le_trans E10.1 K11.1
  have Gr20 : h0.size ≤ h16.size := Nat.le_trans Gr21 E16.1
  obtain ⟨_, T22, L22, X22, ⟨rfl, Nq22, K22, Po22_0⟩, st22⟩ := own_cv 0 X16 hx hZ16 ho16 (ow hw 124 rfl) (ow hw 125 rfl) (ow hw 127 rfl) (ow hw 127 rfl) (ow hw 126 rfl) (ow hw 107 rfl) (ow hw 128 rfl) (own_ap0 hw (5 : Int32) (5 : Int32) (16 : Int32) (0 : Int32) 0 5 [(.int 104), (.int 97), (.int 115), (.int 112), (.int 58), z0, z0, z0, z0, z0, z0, z0, z0, z0, z0, z0] (Nat.le_trans Z0 Gr20) (Po11_0.ext E16) ⟨Ex16, Va16, Co16, Vk16⟩ (Nat.le_trans Z0 (Nat.le_of_eq g10.symm)) (Nat.le_trans Z0 (Nat.le_trans E10.1 Po11_1)) (Nat.ne_of_lt (Nat.lt_of_lt_of_le (A10).lt Po11_1)) (SS.ext Xt19) (by decide) (by decide) (by decide) (by decide) (by decide) (by decide) (by decide) (by decide) rfl (Nat.le_of_ble_eq_true rfl) rfl rfl rfl) e16 (Po11_0.1.ext E16) (g := (mkF m 9 #[vR rn] [(.ref ca16), (.ref b10)])) (rest := []) (lenOf own_pd36 rfl) (g4_2 hby 4 rfl) hz
  have Na23 := Fr.app Na12 Nq22
  have CR24 : CHr Z own_EL s.vm h0 T16.vm T22.heap := CR17.trans (CHr.keep K22 (allS (Safe.exa (hZ16).alike (Po11_0.1.ext E16) (by decide) (by decide)) (allS Sf18 all0)) CR17.1)
  have Sf25 := Safe.keep K22 (allS (Safe.exa (hZ16).alike (Po11_0.1.ext E16) (by decide) (by decide)) (allS Sf18 all0)) CR17.1 Sf18
  have Vc26 : Arv Z T22.heap t_11 kt_11 .byte (16 : Int32) [(.int 104), (.int 97), (.int 115), (.int 112), (.int 58), z0, z0, z0, z0, z0, z0, z0, z0, z0, z0, z0] (.int 0) := Po22_0.2.2.2.2.2
  have Xt27 : Ext h0 T22.heap := (own_xk Xt19 K22 ((allS (Nat.le_trans (own_xr h0).1 (Nat.le_of_eq g10.symm)) (allS (Nat.le_trans E10.1 Po11_1) all0))))
  obtain ⟨T28, X28, e28, st28⟩ := getF X22 hx hZ16 ho16 (host := "") (Or.inl (ow hw 96 rfl)) Via.refl rfl (F_rn_type.ext Xt27) (g := (mkF m 13 #[vR rn] [(.ref rn), (.ref b10)])) rfl rfl (g4_2 hby 6 rfl)
  have Gr29 : h0.size ≤ T22.heap.size := Nat.le_trans Gr20 K22.1
  obtain ⟨_, T30, L30, X30, ⟨rfl, Nq30, K30, Po30_0⟩, st30⟩ := own_cv 0 X28 hx hZ16 ho16 (ow hw 124 rfl) (ow hw 125 rfl) (ow hw 127 rfl) (ow hw 127 rfl) (ow hw 126 rfl) (ow hw 107 rfl) (ow hw 128 rfl) (own_ap0 hw (1 : Int32) (6 : Int32) (16 : Int32) (5 : Int32) 5 1 [(.int 104), (.int 97), (.int 115), (.int 112), (.int 58), (.int v0), z0, z0, z0, z0, z0, z0, z0, z0, z0, z0] (Nat.le_trans Z0 Gr29) ⟨Po22_0.1, Po22_0.2.1, Po22_0.2.2.1, Po22_0.2.2.2.1, Po22_0.2.2.2.2.1, Vc26⟩ (S_x.ext Xt27) (Nat.le_trans Z0 (Nat.le_of_eq g10.symm)) (Nat.le_trans Z0 (Nat.le_trans E10.1 Po11_1)) (Nat.ne_of_lt (Nat.lt_of_lt_of_le (A10).lt Po11_1)) (SS.ext Xt27) (by decide) (by decide) (by decide) (by decide) (by decide) (by decide) (by decide) (by decide) rfl (Nat.le_of_ble_eq_true rfl) rfl rfl rfl) e28 Po22_0.1 (g := (mkF m 16 #[vR rn] [(.ref x), (.ref b10)])) (rest := []) (lenOf own_pd36 rfl) (g4_2 hby 7 rfl) hz
  have Na31 := Fr.app Na23 Nq30
  have CR32 : CHr Z own_EL s.vm h0 T16.vm T30.heap := CR24.trans (CHr.keep K30 (allS (Safe.exa (hZ16).alike Po22_0.1 (by decide) (by decide)) (allS Sf25 all0)) CR24.1)
  have Sf33 := Safe.keep K30 (allS (Safe.exa (hZ16).alike Po22_0.1 (by decide) (by decide)) (allS Sf25 all0)) CR24.1 Sf25
  have Vc34 : Arv Z T30.heap t_11 kt_11 .byte (16 : Int32) [(.int 104), (.int 97), (.int 115), (.int 112), (.int 58), (.int v0), z0, z0, z0, z0, z0, z0, z0, z0, z0, z0] (.int 0) := Po30_0.2.2.2.2.2
  have Xt35 : Ext h0 T30.heap := (own_xk Xt27 K30 ((allS (Nat.le_trans (own_xr h0).1 (Nat.le_of_eq g10.symm)) (allS (Nat.le_trans E10.1 Po11_1) all0))))
  have Gr36 : h0.size ≤ T30.heap.size := Nat.le_trans Gr29 K30.1
  obtain ⟨_, T37, L37, X37, ⟨rfl, Nq37, K37, Po37_0⟩, st37⟩ := own_cv 0 X30 hx hZ16 ho16 (ow hw 162 rfl) (ow hw 163 rfl) (ow hw 127 rfl) (ow hw 165 rfl) (ow hw 164 rfl) (ow hw 107 rfl) (ow hw 166 rfl) (own_sc06 hw  (Nat.le_trans Z0 Gr36) ⟨Po30_0.1, Po30_0.2.1, Po30_0.2.2.1, Po30_0.2.2.2.1, Po30_0.2.2.2.2.1, Vc34⟩ (Nat.le_trans Z0 (Nat.le_of_eq g10.symm)) (Nat.le_trans Z0 (Nat.le_trans E10.1 Po11_1)) (Nat.ne_of_lt (Nat.lt_of_lt_of_le (A10).lt Po11_1)) (SS.ext Xt35) rfl) rfl Po30_0.1 (g := (mkF m 21 #[vR rn] [(.int 58), (.ref b10)])) (rest := []) (lenOf own_pd37 rfl) (g4_2 hby 9 rfl) hz
  have Na38 := Fr.app Na31 Nq37
  have CR39 : CHr Z own_EL s.vm h0 T16.vm T37.heap := CR32.trans (CHr.keep K37 (allS (Safe.exa (hZ16).alike Po30_0.1 (by decide) (by decide)) (allS Sf33 all0)) CR32.1)
  have Sf40 := Safe.keep K37 (allS (Safe.exa (hZ16).alike Po30_0.1 (by decide) (by decide)) (allS Sf33 all0)) CR32.1 Sf33
  have Vc41 : Arv Z T37.heap t_11 kt_11 .byte (16 : Int32) [(.int 104), (.int 97), (.int 115), (.int 112), (.int 58), (.int v0), (.int (nar .byte (58 : Int32))), z0, z0, z0, z0, z0, z0, z0, z0, z0] (.int 0) := Po37_0.2.2.2.2.2
  have Xt42 : Ext h0 T37.heap := (own_xk Xt35 K37 ((allS (Nat.le_trans (own_xr h0).1 (Nat.le_of_eq g10.symm)) (allS (Nat.le_trans E10.1 Po11_1) all0))))
  obtain ⟨T43, X43, e43, st43⟩ := getF X37 hx hZ16 ho16 (host := "") (Or.inl (ow hw 98 rfl)) Via.refl rfl (F_rn_id.ext Xt42) (g := (mkF m 25 #[vR rn] [(.ref rn), (.ref b10)])) rfl rfl (g4_2 hby 11 rfl)
  have Gr44 : h0.size ≤ T37.heap.size := Nat.le_trans Gr36 K37.1
  obtain ⟨_, T45, L45, X45, ⟨rfl, Nq45, K45, Po45_0⟩, st45⟩ := own_cv 0 X43 hx hZ16 ho16 (ow hw 124 rfl) (ow hw 125 rfl) (ow hw 127 rfl) (ow hw 127 rfl) (ow hw 126 rfl) (ow hw 107 rfl) (ow hw 128 rfl) (own_ap0 hw (1 : Int32) (8 : Int32) (16 : Int32) (7 : Int32) 7 1 [(.int 104), (.int 97), (.int 115), (.int 112), (.int 58), (.int v0), (.int (nar .byte (58 : Int32))), (.int ie0), z0, z0, z0, z0, z0, z0, z0, z0] (Nat.le_trans Z0 Gr44) ⟨Po37_0.1, Po37_0.2.1, Po37_0.2.2.1, Po37_0.2.2.2.1, Po37_0.2.2.2.2.1, Vc41⟩ (S_xi.ext Xt42) (Nat.le_trans Z0 (Nat.le_of_eq g10.symm)) (Nat.le_trans Z0 (Nat.le_trans E10.1 Po11_1)) (Nat.ne_of_lt (Nat.lt_of_lt_of_le (A10).lt Po11_1)) (SS.ext Xt42) (by decide) (by decide) (by decide) (by decide) (by decide) (by decide) (by decide) (by decide) rfl (Nat.le_of_ble_eq_true rfl) rfl rfl rfl) e43 Po37_0.1 (g := (mkF m 28 #[vR rn] [(.ref xi), (.ref b10)])) (rest := []) (lenOf own_pd36 rfl) (g4_2 hby 12 rfl) hz
  have Na46 := Fr.app Na38 Nq45
  have CR47 : CHr Z own_EL s.vm h0 T16.vm T45.heap := CR39.trans (CHr.keep K45 (allS (Safe.exa (hZ16).alike Po37_0.1 (by decide) (by decide)) (allS Sf40 all0)) CR39.1)
  have Sf48 := Safe.keep K45 (allS (Safe.exa (hZ16).alike Po37_0.1 (by decide) (by decide)) (allS Sf40 all0)) CR39.1 Sf40
  have Vc49 : Arv Z T45.heap t_11 kt_11 .byte (16 : Int32) [(.int 104), (.int 97), (.int 115), (.int 112), (.int 58), (.int v0), (.int (nar .byte (58 : Int32))), (.int ie0), z0, z0, z0, z0, z0, z0, z0, z0] (.int 0) := Po45_0.2.2.2.2.2
  have Xt50 : Ext h0 T45.heap := (own_xk Xt42 K45 ((allS (Nat.le_trans (own_xr h0).1 (Nat.le_of_eq g10.symm)) (allS (Nat.le_trans E10.1 Po11_1) all0))))
  have Gr51 : h0.size ≤ T45.heap.size := Nat.le_trans Gr44 K45.1
  obtain ⟨_, T52, L52, X52, ⟨x_52, u_52, ku_52, rfl, Nq52, E52, Po52_0⟩, st52⟩ := own_cv 0 X45 hx hZ16 ho16 (ow hw 179 rfl) (ow hw 180 rfl) (ow hw 127 rfl) (ow hw 182 rfl) (ow hw 181 rfl) (ow hw 107 rfl) (ow hw 183 rfl) (own_ts0 hw [(.int 104), (.int 97), (.int 115), (.int 112), (.int 58), (.int v0), (.int (nar .byte (58 : Int32))), (.int ie0)] 8 (Nat.le_trans Z0 Gr51) ⟨Po45_0.1, Po45_0.2.1, Po45_0.2.2.1, Po45_0.2.2.2.1, Po45_0.2.2.2.2.1, Vc49⟩ (SS.ext Xt50) rfl rfl (by decide) (by decide) (by decide) (by decide) (by decide) (by decide)) rfl Po45_0.1 (g := (mkF m 31 #[vR rn] [(.ref b10)])) (rest := []) (lenOf own_pd38 rfl) (g4_2 hby 13 rfl) hz
  have Na53 := Fr.app Na46 Nq52
  have Xt54 : Ext h0 T52.heap := (own_xt Xt50 E52)
  have CR55 : CHr Z own_EL s.vm h0 T16.vm T52.heap := CR47.trans (CHr.ext E52 CR47.1)
  have CRz : CHr Z own_EL s.vm h0 T52.vm T52.heap := CR55.trans (CHv.at X52 hZ16 (own_ew hw) CR55.1)
  have Gr59 : h16.size ≤ T30.heap.size := Nat.le_trans K22.1 K30.1
  have Gr58 : h16.size ≤ T37.heap.size := Nat.le_trans Gr59 K37.1
  have Gr57 : h16.size ≤ T45.heap.size := Nat.le_trans Gr58 K45.1
  have Gr56 : h16.size ≤ T52.heap.size := Nat.le_trans Gr57 E52.1
  obtain ⟨fs, hr, hrun, hended, hRW⟩ := X52.leaveW hS16 ((Nat.le_trans hk16 Gr56)) (v := some (.ref x_52)) (fun h => by rw [Bd.returns] at h; cases h)
  refine ⟨_, _, pre0 _ ?_, hrun, hended, _, _, rfl, ?_, ?_, own_rew hRW (by decide) (by decide)⟩
  · refine st10 _ ?_
    refine XS.dup X10.here hx rfl (g4_2 hby 1 rfl) rfl rfl ?_
    refine st11 _ ?_
    refine st16 _ ?_
    refine st22 _ ?_
    refine sA X22.here hx (g4_2 hby 5 rfl) ?_
    refine st28 _ ?_
    refine st30 _ ?_
    refine XS.bipush X30.here hx rfl (g4_2 hby 8 rfl) ?_
    refine st37 _ ?_
    refine sA X37.here hx (g4_2 hby 10 rfl) ?_
    refine st43 _ ?_
    refine st45 _ ?_
    refine st52 _ ?_
    exact retR X52 hx Bd.returns rfl rfl rfl (g4_2 hby 14 rfl) hr
  · show own_Qrk011 Z rn x xi u ku ui ki w2 v0 ie0 fm h0 n0 _ T52.heap _
    exact ⟨x_52, u_52, ku_52, rfl, Na53, Xt54, Po52_0⟩
  · show CHr Z own_EL s.vm s.heap T52.vm T52.heap
    rw [hh]; exact CRz
def own_Qrk012 (Z : State) (rn x xi u : Addr) (ku : ClassId) (ui : Addr) (ki : ClassId) (w2 v0 ie0 ie1 : Int32) (fm : Value) (h0 : Heap) (n0 : Nat) (v : Option Value) (h : Heap) (L : List Loc) : Prop := ∃ (y0 : Addr) (uy : Addr) (ky : ClassId), v = some (.ref y0) ∧ Fr n0 L ∧ Ext h0 h ∧ own_Sr Z h y0 uy ky 0 9 [(.int 104), (.int 97), (.int 115), (.int 112), (.int 58), (.int v0), (.int (nar .byte (58 : Int32))), (.int ie0), (.int ie1)]
theorem own_rk012_ef (m : MethodId) (x0 : Addr) : entryFrame m #[(.ref x0)] 1 = mkF m 0 #[vR x0] [] := rfl
theorem own_rk012 (l : Launch) (Z : State) (a0 : Array Value) (hw : ∀ d ∈ tables_1, d.before a0 Z = true) (ws : List Jvm.Cond) (rn x xi u : Addr) (ku : ClassId) (ui : Addr) (ki : ClassId) (w2 v0 ie0 ie1 : Int32) (fm : Value) (h0 : Heap) (n0 : Nat) (Z0 : n0 ≤ h0.size) (E_rn : Exa Z h0 rn "com/example/libhasp/libhasp/RecordName") (F_rn_type : Fld Z h0 rn "com/example/libhasp/libhasp/RecordName" "type" "Ljava/lang/String;" (.ref x)) (F_rn_id : Fld Z h0 rn "com/example/libhasp/libhasp/RecordName" "id" "Ljava/lang/String;" (.ref xi)) (S_x : own_Sr Z h0 x u ku 0 1 [(.int v0)]) (S_xi : own_Sr Z h0 xi ui ki 0 2 [(.int ie0), (.int ie1)]) (SS : own_ST Z h0 w2 fm) :
    MetFree l y_64 (head1 (Jvm.Cond.code y_64 prog_4_method_2_code 1 (some (.object "java/lang/String")) :: ws) ({ frames := 10, cells := 7, slots := 100, locals := 143 } : Room)) (fun a U => a = #[(.ref rn)] ∧ Z.Warmed39 U.vm ∧ U.heap = h0 ∧ CHv Z own_EL U.vm h0) (fun _ _ _ _ _ => True) (fun _ U o U' => ∃ v L, o = .returned v ∧ own_Qrk012 Z rn x xi u ku ui ki w2 v0 ie0 ie1 fm h0 n0 v U'.heap L ∧ CHr Z own_EL U.vm U.heap U'.vm U'.heap ∧ ReturnedEndW U o U' L ({ frames := 10, cells := 7, slots := 100, locals := 143 } : Room).cells ({ frames := 10, cells := 7, slots := 100, locals := 143 } : Room).slots) := by
  refine MetFree.of_bodySF (plainFor_of_name own_pn8) hisR ?_
  intro p e s m args below meth c s₁ Bd hml0 hP hK
  obtain ⟨rfl, hZ, hh, hCH⟩ := hP
  have hx := Bd.exec
  have hby := Bd.bytes
  have hml : c.maxLocals = 1 := hml0
  have hz := hml.symm
  have hown : s.vm.findClass "com/example/libhasp/libhasp/RecordName" = some m.cls := findClass_of_methodNamed Bd.named
  have hnm := (name_of_methodNamed Bd.named Bd.method).1
  have X0 : Stand p l e ({ frames := 10, cells := 7, slots := 100, locals := 143 } : Room) (s.setVm s.vm) m #[(.ref rn)] below meth c s₁ [] 0 0 := Stand.of_body Bd
  have e0 : s₁.heap = h0 := by rw [← hh, Bd.state]; rfl
  have N0 := Fr.nil n0
  have hS0 : s.Since s.vm 0 := (State.WarmedH.refl s).since 0
  have CR0 : CHr Z own_EL s.vm h0 s.vm h0 := CHr.refl hCH
  have pre0 : ∀ tq, Steps p.tables e below (s₁.setTop (mkF m 0 #[vR rn] [])) tq → Steps p.tables e below (s₁.setTop (entryFrame m #[(.ref rn)] 1)) tq := fun tq k => castTop (own_rk012_ef m rn) k
  have P5 := SS.2.1
  have rf := SS.2.2.2.1
  obtain ⟨T10, h10, X10, e10, E10, A10, D10, -, st10⟩ := newO X0 hx hZ hown (ow hw 105 rfl) (ow hw 106 rfl) (ow hw 107 rfl) e0 (g := (mkF m 0 #[vR rn] [])) rfl (g4_2 hby 0 rfl) (by decide) (by decide)
  obtain ⟨b10, g10⟩ : ∃ z, z = h0.size := ⟨_, rfl⟩
  rw [← g10] at A10 D10 st10
  have Fvalue_10 : Fld Z h10 b10 "java/lang/AbstractStringBuilder" "value" "[B" .null := D10 (Or.inl (ow hw 120 rfl)) (ty := (.array .byte)) (by decide)
  have Fcoder_10 : Fld Z h10 b10 "java/lang/AbstractStringBuilder" "coder" "B" (.int 0) := D10 (Or.inl (ow hw 122 rfl)) (ty := .byte) (by decide)
  have Fcount_10 : Fld Z h10 b10 "java/lang/AbstractStringBuilder" "count" "I" (.int 0) := D10 (Or.inl (ow hw 136 rfl)) (ty := .int) (by decide)
  have FmaybeLatin1_10 : Fld Z h10 b10 "java/lang/AbstractStringBuilder" "maybeLatin1" "Z" (.int 0) := D10 (Or.inl (ow hw 307 rfl)) (ty := .boolean) (by decide)
  obtain ⟨_, T11, L11, X11, ⟨t_11, kt_11, rfl, Nq11, K11, Po11_0, Po11_1⟩, st11⟩ := own_cp 1 X10 hx hZ hown (ow hw 108 rfl) (ow hw 109 rfl) (ow hw 107 rfl) (ow hw 110 rfl) (own_sbi hw  (Nat.le_trans Z0 E10.1) A10 Fvalue_10 Fcoder_10 Fcount_10 FmaybeLatin1_10 (Nat.le_trans Z0 (Nat.le_of_eq g10.symm)) (SS.ext E10)) e10 (g := (mkF m 4 #[vR rn] [(.ref b10), (.ref b10)])) (rest := [(.ref b10)]) (lenOf own_pd20 rfl) (g4_2 hby 2 rfl) hz
  have Na12 := Fr.app (Fr.nil n0) Nq11
  have Xt14 : Ext h0 T11.heap := (own_xk E10 K11 ((allS (Nat.le_trans (own_xr h0).1 (Nat.le_of_eq g10.symm)) all0)))
  have CR13 : CHr Z own_EL s.vm h0 s.vm T11.heap := CR0.trans (CHr.ext Xt14 CR0.1)
  have Sf15 : Safe Z own_EL s.vm T11.heap t_11 := Safe.ext Xt14 CR0.1 (Safe.new (Nat.le_trans E10.1 Po11_1))
  obtain ⟨ca16, T16, h16, kq16, cb16, kb16, X16, e16, E16, hS16, hk16, hZ16, ho16, Ex16, Co16, Va16, Ar16, la16, lb16, hC16, Li16, sf16, st16⟩ := ldcCH X11 hx hZ hown (ow hw 123 rfl) (own_sa hw) rfl hS0 (Nat.zero_le _) (own_ew hw) (by decide) CR13.1 (vs := (([(104 : Int32), (97 : Int32), (115 : Int32), (112 : Int32), (58 : Int32)] : List Int32).map (fun c => c.toInt8.toInt32)).map Value.int) (z := (5 : Int32)) ⟨by decide, by decide +kernel⟩ (by decide) (by decide) (g := (mkF m 7 #[vR rn] [(.ref b10)])) rfl (g4_2 hby 3 rfl) (n := 20) (by decide) (by decide) (by decide) (by decide)
  have CR17 : CHr Z own_EL s.vm h0 T16.vm h16 := CR13.trans hC16
  have Sf18 := hC16.safe (Po11_0.2.2.2.2.2).lt Sf15
  have Vk16 : Arv Z h16 cb16 kb16 .byte (5 : Int32) [(.int 104), (.int 97), (.int 115), (.int 112), (.int 58)] (.int 0) := by have q := Ar16; rw [own_hb] at q; exact q
  have Xt19 : Ext h0 h16 := (own_xt Xt14 E16)
  have Gr21 : h0.size ≤ T11.heap.size := Nat.le_trans E10.1 K11.1
  have Gr20 : h0.size ≤ h16.size := Nat.le_trans Gr21 E16.1
  obtain ⟨_, T22, L22, X22, ⟨rfl, Nq22, K22, Po22_0⟩, st22⟩ := own_cv 0 X16 hx hZ16 ho16 (ow hw 124 rfl) (ow hw 125 rfl) (ow hw 127 rfl) (ow hw 127 rfl) (ow hw 126 rfl) (ow hw 107 rfl) (ow hw 128 rfl) (own_ap0 hw (5 : Int32) (5 : Int32) (16 : Int32) (0 : Int32) 0 5 [(.int 104), (.int 97), (.int 115), (.int 112), (.int 58), z0, z0, z0, z0, z0, z0, z0, z0, z0, z0, z0] (Nat.le_trans Z0 Gr20) (Po11_0.ext E16) ⟨Ex16, Va16, Co16, Vk16⟩ (Nat.le_trans Z0 (Nat.le_of_eq g10.symm)) (Nat.le_trans Z0 (Nat.le_trans E10.1 Po11_1)) (Nat.ne_of_lt (Nat.lt_of_lt_of_le (A10).lt Po11_1)) (SS.ext Xt19) (by decide) (by decide) (by decide) (by decide) (by decide) (by decide) (by decide) (by decide) rfl (Nat.le_of_ble_eq_true rfl) rfl rfl rfl) e16 (Po11_0.1.ext E16) (g := (mkF m 9 #[vR rn] [(.ref ca16), (.ref b10)])) (rest := []) (lenOf own_pd36 rfl) (g4_2 hby 4 rfl) hz
  have Na23 := Fr.app Na12 Nq22
  have CR24 : CHr Z own_EL s.vm h0 T16.vm T22.heap := CR17.trans (CHr.keep K22 (allS (Safe.exa (hZ16).alike (Po11_0.1.ext E16) (by decide) (by decide)) (allS Sf18 all0)) CR17.1)
  have Sf25 := Safe.keep K22 (allS (Safe.exa (hZ16).alike (Po11_0.1.ext E16) (by decide) (by decide)) (allS Sf18 all0)) CR17.1 Sf18
  have Vc26 : Arv Z T22.heap t_11 kt_11 .byte (16 : Int32) [(.int 104), (.int 97), (.int 115), (.int 112), (.int 58), z0, z0, z0, z0, z0, z0, z0, z0, z0, z0, z0] (.int 0) := Po22_0.2.2.2.2.2
  have Xt27 : Ext h0 T22.heap := (own_xk Xt19 K22 ((allS (Nat.le_trans (own_xr h0).1 (Nat.le_of_eq g10.symm)) (allS (Nat.le_trans E10.1 Po11_1) all0))))
  obtain ⟨T28, X28, e28, st28⟩ := getF X22 hx hZ16 ho16 (host := "") (Or.inl (ow hw 96 rfl)) Via.refl rfl (F_rn_type.ext Xt27) (g := (mkF m 13 #[vR rn] [(.ref rn), (.ref b10)])) rfl rfl (g4_2 hby 6 rfl)
  have Gr29 : h0.size ≤ T22.heap.size := Nat.le_trans Gr20 K22.1
  obtain ⟨_, T30, L30, X30, ⟨rfl, Nq30, K30, Po30_0⟩, st30⟩ := own_cv 0 X28 hx hZ16 ho16 (ow hw 124 rfl) (ow hw 125 rfl) (ow hw 127 rfl) (ow hw 127 rfl) (ow hw 126 rfl) (ow hw 107 rfl) (ow hw 128 rfl) (own_ap0 hw (1 : Int32) (6 : Int32) (16 : Int32) (5 : Int32) 5 1 [(.int 104), (.int 97), (.int 115), (.int 112), (.int 58), (.int v0), z0, z0, z0, z0, z0, z0, z0, z0, z0, z0] (Nat.le_trans Z0 Gr29) ⟨Po22_0.1, Po22_0.2.1, Po22_0.2.2.1, Po22_0.2.2.2.1, Po22_0.2.2.2.2.1, Vc26⟩ (S_x.ext Xt27) (Nat.le_trans Z0 (Nat.le_of_eq g10.symm)) (Nat.le_trans Z0 (Nat.le_trans E10.1 Po11_1)) (Nat.ne_of_lt (Nat.lt_of_lt_of_le (A10).lt Po11_1)) (SS.ext Xt27) (by decide) (by decide) (by decide) (by decide) (by decide) (by decide) (by decide) (by decide) rfl (Nat.le_of_ble_eq_true rfl) rfl rfl rfl) e28 Po22_0.1 (g := (mkF m 16 #[vR rn] [(.ref x), (.ref b10)])) (rest := []) (lenOf own_pd36 rfl) (g4_2 hby 7 rfl) hz
  have Na31 := Fr.app Na23 Nq30
  have CR32 : CHr Z own_EL s.vm h0 T16.vm T30.heap := CR24.trans (CHr.keep K30 (allS (Safe.exa (hZ16).alike Po22_0.1 (by decide) (by decide)) (allS Sf25 all0)) CR24.1)
  have Sf33 := Safe.keep K30 (allS (Safe.exa (hZ16).alike Po22_0.1 (by decide) (by decide)) (allS Sf25 all0)) CR24.1 Sf25
  have Vc34 : Arv Z T30.heap t_11 kt_11 .byte (16 : Int32) [(.int 104), (.int 97), (.int 115), (.int 112), (.int 58), (.int v0), z0, z0, z0, z0, z0, z0, z0, z0, z0, z0] (.int 0) := Po30_0.2.2.2.2.2
  have Xt35 : Ext h0 T30.heap := (own_xk Xt27 K30 ((allS (Nat.le_trans (own_xr h0).1 (Nat.le_of_eq g10.symm)) (allS (Nat.le_trans E10.1 Po11_1) all0))))
  have Gr36 : h0.size ≤ T30.heap.size := Nat.le_trans Gr29 K30.1
  obtain ⟨_, T37, L37, X37, ⟨rfl, Nq37, K37, Po37_0⟩, st37⟩ := own_cv 0 X30 hx hZ16 ho16 (ow hw 162 rfl) (ow hw 163 rfl) (ow hw 127 rfl) (ow hw 165 rfl) (ow hw 164 rfl) (ow hw 107 rfl) (ow hw 166 rfl) (own_sc06 hw  (Nat.le_trans Z0 Gr36) ⟨Po30_0.1, Po30_0.2.1, Po30_0.2.2.1, Po30_0.2.2.2.1, Po30_0.2.2.2.2.1, Vc34⟩ (Nat.le_trans Z0 (Nat.le_of_eq g10.symm)) (Nat.le_trans Z0 (Nat.le_trans E10.1 Po11_1)) (Nat.ne_of_lt (Nat.lt_of_lt_of_le (A10).lt Po11_1)) (SS.ext Xt35) rfl) rfl Po30_0.1 (g := (mkF m 21 #[vR rn] [(.int 58), (.ref b10)])) (rest := []) (lenOf own_pd37 rfl) (g4_2 hby 9 rfl) hz
  have Na38 := Fr.app Na31 Nq37
  have CR39 : CHr Z own_EL s.vm h0 T16.vm T37.heap := CR32.trans (CHr.keep K37 (allS (Safe.exa (hZ16).alike Po30_0.1 (by decide) (by decide)) (allS Sf33 all0)) CR32.1)
  have Sf40 := Safe.keep K37 (allS (Safe.exa (hZ16).alike Po30_0.1 (by decide) (by decide)) (allS Sf33 all0)) CR32.1 Sf33
  have Vc41 : Arv Z T37.heap t_11 kt_11 .byte (16 : Int32) [(.int 104), (.int 97), (.int 115), (.int 112), (.int 58), (.int v0), (.int (nar .byte (58 : Int32))), z0, z0, z0, z0, z0, z0, z0, z0, z0] (.int 0) := Po37_0.2.2.2.2.2
  have Xt42 : Ext h0 T37.heap := (own_xk Xt35 K37 ((allS (Nat.le_trans (own_xr h0).1 (Nat.le_of_eq g10.symm)) (allS (Nat.le_trans E10.1 Po11_1) all0))))
  obtain ⟨T43, X43, e43, st43⟩ := getF X37 hx hZ16 ho16 (host := "") (Or.inl (ow hw 98 rfl)) Via.refl rfl (F_rn_id.ext Xt42) (g := (mkF m 25 #[vR rn] [(.ref rn), (.ref b10)])) rfl rfl (g4_2 hby 11 rfl)
  have Gr44 : h0.size ≤ T37.heap.size := Nat.le_trans Gr36 K37.1
  obtain ⟨_, T45, L45, X45, ⟨rfl, Nq45, K45, Po45_0⟩, st45⟩ := own_cv 0 X43 hx hZ16 ho16 (ow hw 124 rfl) (ow hw 125 rfl) (ow hw 127 rfl) (ow hw 127 rfl) (ow hw 126 rfl) (ow hw 107 rfl) (ow hw 128 rfl) (own_ap0 hw (2 : Int32) (9 : Int32) (16 : Int32) (7 : Int32) 7 2 [(.int 104), (.int 97), (.int 115), (.int 112), (.int 58), (.int v0), (.int (nar .byte (58 : Int32))), (.int ie0), (.int ie1), z0, z0, z0, z0, z0, z0, z0] (Nat.le_trans Z0 Gr44) ⟨Po37_0.1, Po37_0.2.1, Po37_0.2.2.1, Po37_0.2.2.2.1, Po37_0.2.2.2.2.1, Vc41⟩ (S_xi.ext Xt42) (Nat.le_trans Z0 (Nat.le_of_eq g10.symm)) (Nat.le_trans Z0 (Nat.le_trans E10.1 Po11_1)) (Nat.ne_of_lt (Nat.lt_of_lt_of_le (A10).lt Po11_1)) (SS.ext Xt42) (by decide) (by decide) (by decide) (by decide) (by decide) (by decide) (by decide) (by decide) rfl (Nat.le_of_ble_eq_true rfl) rfl rfl rfl) e43 Po37_0.1 (g := (mkF m 28 #[vR rn] [(.ref xi), (.ref b10)])) (rest := []) (lenOf own_pd36 rfl) (g4_2 hby 12 rfl) hz
  have Na46 := Fr.app Na38 Nq45
  have CR47 : CHr Z own_EL s.vm h0 T16.vm T45.heap := CR39.trans (CHr.keep K45 (allS (Safe.exa (hZ16).alike Po37_0.1 (by decide) (by decide)) (allS Sf40 all0)) CR39.1)
  have Sf48 := Safe.keep K45 (allS (Safe.exa (hZ16).alike Po37_0.1 (by decide) (by decide)) (allS Sf40 all0)) CR39.1 Sf40
  have Vc49 : Arv Z T45.heap t_11 kt_11 .byte (16 : Int32) [(.int 104), (.int 97), (.int 115), (.int 112), (.int 58), (.int v0), (.int (nar .byte (58 : Int32))), (.int ie0), (.int ie1), z0, z0, z0, z0, z0, z0, z0] (.int 0) := Po45_0.2.2.2.2.2
  have Xt50 : Ext h0 T45.heap := (own_xk Xt42 K45 ((allS (Nat.le_trans (own_xr h0).1 (Nat.le_of_eq g10.symm)) (allS (Nat.le_trans E10.1 Po11_1) all0))))
  have Gr51 : h0.size ≤ T45.heap.size := Nat.le_trans Gr44 K45.1
  obtain ⟨_, T52, L52, X52, ⟨x_52, u_52, ku_52, rfl, Nq52, E52, Po52_0⟩, st52⟩ := own_cv 0 X45 hx hZ16 ho16 (ow hw 179 rfl) (ow hw 180 rfl) (ow hw 127 rfl) (ow hw 182 rfl) (ow hw 181 rfl) (ow hw 107 rfl) (ow hw 183 rfl) (own_ts0 hw [(.int 104), (.int 97), (.int 115), (.int 112), (.int 58), (.int v0), (.int (nar .byte (58 : Int32))), (.int ie0), (.int ie1)] 9 (Nat.le_trans Z0 Gr51) ⟨Po45_0.1, Po45_0.2.1, Po45_0.2.2.1, Po45_0.2.2.2.1, Po45_0.2.2.2.2.1, Vc49⟩ (SS.ext Xt50) rfl rfl (by decide) (by decide) (by decide) (by decide) (by decide) (by decide)) rfl Po45_0.1 (g := (mkF m 31 #[vR rn] [(.ref b10)])) (rest := []) (lenOf own_pd38 rfl) (g4_2 hby 13 rfl) hz
  have Na53 := Fr.app Na46 Nq52
  have Xt54 : Ext h0 T52.heap := (own_xt Xt50 E52)
  have CR55 : CHr Z own_EL s.vm h0 T16.vm T52.heap := CR47.trans (CHr.ext E52 CR47.1)
  have CRz : CHr Z own_EL s.vm h0 T52.vm T52.heap := CR55.trans (CHv.at X52 hZ16 (own_ew hw) CR55.1)
  have Gr59 : h16.size ≤ T30.heap.size := Nat.le_trans K22.1 K30.1
  have Gr58 : h16.size ≤ T37.heap.size := Nat.le_trans Gr59 K37.1
  have Gr57 : h16.size ≤ T45.heap.size := Nat.le_trans Gr58 K45.1
  have Gr56 : h16.size ≤ T52.heap.size := Nat.le_trans Gr57 E52.1
  obtain ⟨fs, hr, hrun, hended, hRW⟩ := X52.leaveW hS16 ((Nat.le_trans hk16 Gr56)) (v := some (.ref x_52)) (fun h => by rw [Bd.returns] at h; cases h)
  refine ⟨_, _, pre0 _ ?_, hrun, hended, _, _, rfl, ?_, ?_, own_rew hRW (by decide) (by decide)⟩
  · refine st10 _ ?_
    refine XS.dup X10.here hx rfl (g4_2 hby 1 rfl) rfl rfl ?_
    refine st11 _ ?_
    refine st16 _ ?_
    refine st22 _ ?_
    refine sA X22.here hx (g4_2 hby 5 rfl) ?_
    refine st28 _ ?_
    refine st30 _ ?_
    refine XS.bipush X30.here hx rfl (g4_2 hby 8 rfl) ?_
    refine st37 _ ?_
    refine sA X37.here hx (g4_2 hby 10 rfl) ?_
    refine st43 _ ?_
    refine st45 _ ?_
    refine st52 _ ?_
    exact retR X52 hx Bd.returns rfl rfl rfl (g4_2 hby 14 rfl) hr
  · show own_Qrk012 Z rn x xi u ku ui ki w2 v0 ie0 ie1 fm h0 n0 _ T52.heap _
    exact ⟨x_52, u_52, ku_52, rfl, Na53, Xt54, Po52_0⟩
  · show CHr Z own_EL s.vm s.heap T52.vm T52.heap
    rw [hh]; exact CRz
def own_Qrk021 (Z : State) (rn x xi u : Addr) (ku : ClassId) (ui : Addr) (ki : ClassId) (w2 v0 v1 ie0 : Int32) (fm : Value) (h0 : Heap) (n0 : Nat) (v : Option Value) (h : Heap) (L : List Loc) : Prop := ∃ (y0 : Addr) (uy : Addr) (ky : ClassId), v = some (.ref y0) ∧ Fr n0 L ∧ Ext h0 h ∧ own_Sr Z h y0 uy ky 0 9 [(.int 104), (.int 97), (.int 115), (.int 112), (.int 58), (.int v0), (.int v1), (.int (nar .byte (58 : Int32))), (.int ie0)]
theorem own_rk021_ef (m : MethodId) (x0 : Addr) : entryFrame m #[(.ref x0)] 1 = mkF m 0 #[vR x0] [] := rfl
theorem own_rk021 (l : Launch) (Z : State) (a0 : Array Value) (hw : ∀ d ∈ tables_1, d.before a0 Z = true) (ws : List Jvm.Cond) (rn x xi u : Addr) (ku : ClassId) (ui : Addr) (ki : ClassId) (w2 v0 v1 ie0 : Int32) (fm : Value) (h0 : Heap) (n0 : Nat) (Z0 : n0 ≤ h0.size) (E_rn : Exa Z h0 rn "com/example/libhasp/libhasp/RecordName") (F_rn_type : Fld Z h0 rn "com/example/libhasp/libhasp/RecordName" "type" "Ljava/lang/String;" (.ref x)) (F_rn_id : Fld Z h0 rn "com/example/libhasp/libhasp/RecordName" "id" "Ljava/lang/String;" (.ref xi)) (S_x : own_Sr Z h0 x u ku 0 2 [(.int v0), (.int v1)]) (S_xi : own_Sr Z h0 xi ui ki 0 1 [(.int ie0)]) (SS : own_ST Z h0 w2 fm) :
    MetFree l y_64 (head1 (Jvm.Cond.code y_64 prog_4_method_2_code 1 (some (.object "java/lang/String")) :: ws) ({ frames := 10, cells := 7, slots := 100, locals := 143 } : Room)) (fun a U => a = #[(.ref rn)] ∧ Z.Warmed39 U.vm ∧ U.heap = h0 ∧ CHv Z own_EL U.vm h0) (fun _ _ _ _ _ => True) (fun _ U o U' => ∃ v L, o = .returned v ∧ own_Qrk021 Z rn x xi u ku ui ki w2 v0 v1 ie0 fm h0 n0 v U'.heap L ∧ CHr Z own_EL U.vm U.heap U'.vm U'.heap ∧ ReturnedEndW U o U' L ({ frames := 10, cells := 7, slots := 100, locals := 143 } : Room).cells ({ frames := 10, cells := 7, slots := 100, locals := 143 } : Room).slots) := by
  refine MetFree.of_bodySF (plainFor_of_name own_pn8) hisR ?_
  intro p e s m args below meth c s₁ Bd hml0 hP hK
  obtain ⟨rfl, hZ, hh, hCH⟩ := hP
  have hx := Bd.exec
  have hby := Bd.bytes
  have hml : c.maxLocals = 1 := hml0
  have hz := hml.symm
  have hown : s.vm.findClass "com/example/libhasp/libhasp/RecordName" = some m.cls := findClass_of_methodNamed Bd.named
  have hnm := (name_of_methodNamed Bd.named Bd.method).1
  have X0 : Stand p l e ({ frames := 10, cells := 7, slots := 100, locals := 143 } : Room) (s.setVm s.vm) m #[(.ref rn)] below meth c s₁ [] 0 0 := Stand.of_body Bd
  have e0 : s₁.heap = h0 := by rw [← hh, Bd.state]; rfl
  have N0 := Fr.nil n0
  have hS0 : s.Since s.vm 0 := (State.WarmedH.refl s).since 0
  have CR0 : CHr Z own_EL s.vm h0 s.vm h0 := CHr.refl hCH
  have pre0 : ∀ tq, Steps p.tables e below (s₁.setTop (mkF m 0 #[vR rn] [])) tq → Steps p.tables e below (s₁.setTop (entryFrame m #[(.ref rn)] 1)) tq := fun tq k => castTop (own_rk021_ef m rn) k
  have P5 := SS.2.1
  have rf := SS.2.2.2.1
  obtain ⟨T10, h10, X10, e10, E10, A10, D10, -, st10⟩ := newO X0 hx hZ hown (ow hw 105 rfl) (ow hw 106 rfl) (ow hw 107 rfl) e0 (g := (mkF m 0 #[vR rn] [])) rfl (g4_2 hby 0 rfl) (by decide) (by decide)
  obtain ⟨b10, g10⟩ : ∃ z, z = h0.size := ⟨_, rfl⟩
  rw [← g10] at A10 D10 st10
  have Fvalue_10 : Fld Z h10 b10 "java/lang/AbstractStringBuilder" "value" "[B" .null := D10 (Or.inl (ow hw 120 rfl)) (ty := (.array .byte)) (by decide)
  have Fcoder_10 : Fld Z h10 b10 "java/lang/AbstractStringBuilder" "coder" "B" (.int 0) := D10 (Or.inl (ow hw 122 rfl)) (ty := .byte) (by decide)
  have Fcount_10 : Fld Z h10 b10 "java/lang/AbstractStringBuilder" "count" "I" (.int 0) := D10 (Or.inl (ow hw 136 rfl)) (ty := .int) (by decide)
  have FmaybeLatin1_10 : Fld Z h10 b10 "java/lang/AbstractStringBuilder" "maybeLatin1" "Z" (.int 0) := D10 (Or.inl (ow hw 307 rfl)) (ty := .boolean) (by decide)
  obtain ⟨_, T11, L11, X11, ⟨t_11, kt_11, rfl, Nq11, K11, Po11_0, Po11_1⟩, st11⟩ := own_cp 1 X10 hx hZ hown (ow hw 108 rfl) (ow hw 109 rfl) (ow hw 107 rfl) (ow hw 110 rfl) (own_sbi hw  (Nat.le_trans Z0 E10.1) A10 Fvalue_10 Fcoder_10 Fcount_10 FmaybeLatin1_10 (Nat.le_trans Z0 (Nat.le_of_eq g10.symm)) (SS.ext E10)) e10 (g := (mkF m 4 #[vR rn] [(.ref b10), (.ref b10)])) (rest := [(.ref b10)]) (lenOf own_pd20 rfl) (g4_2 hby 2 rfl) hz
  have Na12 := Fr.app (Fr.nil n0) Nq11
  have Xt14 : Ext h0 T11.heap := (own_xk E10 K11 ((allS (Nat.le_trans (own_xr h0).1 (Nat.le_of_eq g10.symm)) all0)))
  have CR13 : CHr Z own_EL s.vm h0 s.vm T11.heap := CR0.trans (CHr.ext Xt14 CR0.1)
  have Sf15 : Safe Z own_EL s.vm T11.heap t_11 := Safe.ext Xt14 CR0.1 (Safe.new (Nat.le_trans E10.1 Po11_1))
  obtain ⟨ca16, T16, h16, kq16, cb16, kb16, X16, e16, E16, hS16, hk16, hZ16, ho16, Ex16, Co16, Va16, Ar16, la16, lb16, hC16, Li16, sf16, st16⟩ := ldcCH X11 hx hZ hown (ow hw 123 rfl) (own_sa hw) rfl hS0 (Nat.zero_le _) (own_ew hw) (by decide) CR13.1 (vs := (([(104 : Int32), (97 : Int32), (115 : Int32), (112 : Int32), (58 : Int32)] : List Int32).map (fun c => c.toInt8.toInt32)).map Value.int) (z := (5 : Int32)) ⟨by decide, by decide +kernel⟩ (by decide) (by decide) (g := (mkF m 7 #[vR rn] [(.ref b10)])) rfl (g4_2 hby 3 rfl) (n := 20) (by decide) (by decide) (by decide) (by decide)
  have CR17 : CHr Z own_EL s.vm h0 T16.vm h16 := CR13.trans hC16
  have Sf18 := hC16.safe (Po11_0.2.2.2.2.2).lt Sf15
  have Vk16 : Arv Z h16 cb16 kb16 .byte (5 : Int32) [(.int 104), (.int 97), (.int 115), (.int 112), (.int 58)] (.int 0) := by have q := Ar16; rw [own_hb] at q; exact q
  have Xt19 : Ext h0 h16 := (own_xt Xt14 E16)
  have Gr21 : h0.size ≤ T11.heap.size := Nat.le_trans E10.1 K11.1
  have Gr20 : h0.size ≤ h16.size := Nat.le_trans Gr21 E16.1
  obtain ⟨_, T22, L22, X22, ⟨rfl, Nq22, K22, Po22_0⟩, st22⟩ := own_cv 0 X16 hx hZ16 ho16 (ow hw 124 rfl) (ow hw 125 rfl) (ow hw 127 rfl) (ow hw 127 rfl) (ow hw 126 rfl) (ow hw 107 rfl) (ow hw 128 rfl) (own_ap0 hw (5 : Int32) (5 : Int32) (16 : Int32) (0 : Int32) 0 5 [(.int 104), (.int 97), (.int 115), (.int 112), (.int 58), z0, z0, z0, z0, z0, z0, z0, z0, z0, z0, z0] (Nat.le_trans Z0 Gr20) (Po11_0.ext E16) ⟨Ex16, Va16, Co16, Vk16⟩ (Nat.le_trans Z0 (Nat.le_of_eq g10.symm)) (Nat.le_trans Z0 (Nat.le_trans E10.1 Po11_1)) (Nat.ne_of_lt (Nat.lt_of_lt_of_le (A10).lt Po11_1)) (SS.ext Xt19) (by decide) (by decide) (by decide) (by decide) (by decide) (by decide) (by decide) (by decide) rfl (Nat.le_of_ble_eq_true rfl) rfl rfl rfl) e16 (Po11_0.1.ext E16) (g := (mkF m 9 #[vR rn] [(.ref ca16), (.ref b10)])) (rest := []) (lenOf own_pd36 rfl) (g4_2 hby 4 rfl) hz
  have Na23 := Fr.app Na12 Nq22
  have CR24 : CHr Z own_EL s.vm h0 T16.vm T22.heap := CR17.trans (CHr.keep K22 (allS (Safe.exa (hZ16).alike (Po11_0.1.ext E16) (by decide) (by decide)) (allS Sf18 all0)) CR17.1)
  have Sf25 := Safe.keep K22 (allS (Safe.exa (hZ16).alike (Po11_0.1.ext E16) (by decide) (by decide)) (allS Sf18 all0)) CR17.1 Sf18
  have Vc26 : Arv Z T22.heap t_11 kt_11 .byte (16 : Int32) [(.int 104), (.int 97), (.int 115), (.int 112), (.int 58), z0, z0, z0, z0, z0, z0, z0, z0, z0, z0, z0] (.int 0) := Po22_0.2.2.2.2.2
  have Xt27 : Ext h0 T22.heap := (own_xk Xt19 K22 ((allS (Nat.le_trans (own_xr h0).1 (Nat.le_of_eq g10.symm)) (allS (Nat.le_trans E10.1 Po11_1) all0))))
  obtain ⟨T28, X28, e28, st28⟩ := getF X22 hx hZ16 ho16 (host := "") (Or.inl (ow hw 96 rfl)) Via.refl rfl (F_rn_type.ext Xt27) (g := (mkF m 13 #[vR rn] [(.ref rn), (.ref b10)])) rfl rfl (g4_2 hby 6 rfl)
  have Gr29 : h0.size ≤ T22.heap.size := Nat.le_trans Gr20 K22.1
  obtain ⟨_, T30, L30, X30, ⟨rfl, Nq30, K30, Po30_0⟩, st30⟩ := own_cv 0 X28 hx hZ16 ho16 (ow hw 124 rfl) (ow hw 125 rfl) (ow hw 127 rfl) (ow hw 127 rfl) (ow hw 126 rfl) (ow hw 107 rfl) (ow hw 128 rfl) (own_ap0 hw (2 : Int32) (7 : Int32) (16 : Int32) (5 : Int32) 5 2 [(.int 104), (.int 97), (.int 115), (.int 112), (.int 58), (.int v0), (.int v1), z0, z0, z0, z0, z0, z0, z0, z0, z0] (Nat.le_trans Z0 Gr29) ⟨Po22_0.1, Po22_0.2.1, Po22_0.2.2.1, Po22_0.2.2.2.1, Po22_0.2.2.2.2.1, Vc26⟩ (S_x.ext Xt27) (Nat.le_trans Z0 (Nat.le_of_eq g10.symm)) (Nat.le_trans Z0 (Nat.le_trans E10.1 Po11_1)) (Nat.ne_of_lt (Nat.lt_of_lt_of_le (A10).lt Po11_1)) (SS.ext Xt27) (by decide) (by decide) (by decide) (by decide) (by decide) (by decide) (by decide) (by decide) rfl (Nat.le_of_ble_eq_true rfl) rfl rfl rfl) e28 Po22_0.1 (g := (mkF m 16 #[vR rn] [(.ref x), (.ref b10)])) (rest := []) (lenOf own_pd36 rfl) (g4_2 hby 7 rfl) hz
  have Na31 := Fr.app Na23 Nq30
  have CR32 : CHr Z own_EL s.vm h0 T16.vm T30.heap := CR24.trans (CHr.keep K30 (allS (Safe.exa (hZ16).alike Po22_0.1 (by decide) (by decide)) (allS Sf25 all0)) CR24.1)
  have Sf33 := Safe.keep K30 (allS (Safe.exa (hZ16).alike Po22_0.1 (by decide) (by decide)) (allS Sf25 all0)) CR24.1 Sf25
  have Vc34 : Arv Z T30.heap t_11 kt_11 .byte (16 : Int32) [(.int 104), (.int 97), (.int 115), (.int 112), (.int 58), (.int v0), (.int v1), z0, z0, z0, z0, z0, z0, z0, z0, z0] (.int 0) := Po30_0.2.2.2.2.2
  have Xt35 : Ext h0 T30.heap := (own_xk Xt27 K30 ((allS (Nat.le_trans (own_xr h0).1 (Nat.le_of_eq g10.symm)) (allS (Nat.le_trans E10.1 Po11_1) all0))))
  have Gr36 : h0.size ≤ T30.heap.size := Nat.le_trans Gr29 K30.1
  obtain ⟨_, T37, L37, X37, ⟨rfl, Nq37, K37, Po37_0⟩, st37⟩ := own_cv 0 X30 hx hZ16 ho16 (ow hw 162 rfl) (ow hw 163 rfl) (ow hw 127 rfl) (ow hw 165 rfl) (ow hw 164 rfl) (ow hw 107 rfl) (ow hw 166 rfl) (own_sc07 hw  (Nat.le_trans Z0 Gr36) ⟨Po30_0.1, Po30_0.2.1, Po30_0.2.2.1, Po30_0.2.2.2.1, Po30_0.2.2.2.2.1, Vc34⟩ (Nat.le_trans Z0 (Nat.le_of_eq g10.symm)) (Nat.le_trans Z0 (Nat.le_trans E10.1 Po11_1)) (Nat.ne_of_lt (Nat.lt_of_lt_of_le (A10).lt Po11_1)) (SS.ext Xt35) rfl) rfl Po30_0.1 (g := (mkF m 21 #[vR rn] [(.int 58), (.ref b10)])) (rest := []) (lenOf own_pd37 rfl) (g4_2 hby 9 rfl) hz
  have Na38 := Fr.app Na31 Nq37
  have CR39 : CHr Z own_EL s.vm h0 T16.vm T37.heap := CR32.trans (CHr.keep K37 (allS (Safe.exa (hZ16).alike Po30_0.1 (by decide) (by decide)) (allS Sf33 all0)) CR32.1)
  have Sf40 := Safe.keep K37 (allS (Safe.exa (hZ16).alike Po30_0.1 (by decide) (by decide)) (allS Sf33 all0)) CR32.1 Sf33
  have Vc41 : Arv Z T37.heap t_11 kt_11 .byte (16 : Int32) [(.int 104), (.int 97), (.int 115), (.int 112), (.int 58), (.int v0), (.int v1), (.int (nar .byte (58 : Int32))), z0, z0, z0, z0, z0, z0, z0, z0] (.int 0) := Po37_0.2.2.2.2.2
  have Xt42 : Ext h0 T37.heap := (own_xk Xt35 K37 ((allS (Nat.le_trans (own_xr h0).1 (Nat.le_of_eq g10.symm)) (allS (Nat.le_trans E10.1 Po11_1) all0))))
  obtain ⟨T43, X43, e43, st43⟩ := getF X37 hx hZ16 ho16 (host := "") (Or.inl (ow hw 98 rfl)) Via.refl rfl (F_rn_id.ext Xt42) (g := (mkF m 25 #[vR rn] [(.ref rn), (.ref b10)])) rfl rfl (g4_2 hby 11 rfl)
  have Gr44 : h0.size ≤ T37.heap.size := Nat.le_trans Gr36 K37.1
  obtain ⟨_, T45, L45, X45, ⟨rfl, Nq45, K45, Po45_0⟩, st45⟩ := own_cv 0 X43 hx hZ16 ho16 (ow hw 124 rfl) (ow hw 125 rfl) (ow hw 127 rfl) (ow hw 127 rfl) (ow hw 126 rfl) (ow hw 107 rfl) (ow hw 128 rfl) (own_ap0 hw (1 : Int32) (9 : Int32) (16 : Int32) (8 : Int32) 8 1 [(.int 104), (.int 97), (.int 115), (.int 112), (.int 58), (.int v0), (.int v1), (.int (nar .byte (58 : Int32))), (.int ie0), z0, z0, z0, z0, z0, z0, z0] (Nat.le_trans Z0 Gr44) ⟨Po37_0.1, Po37_0.2.1, Po37_0.2.2.1, Po37_0.2.2.2.1, Po37_0.2.2.2.2.1, Vc41⟩ (S_xi.ext Xt42) (Nat.le_trans Z0 (Nat.le_of_eq g10.symm)) (Nat.le_trans Z0 (Nat.le_trans E10.1 Po11_1)) (Nat.ne_of_lt (Nat.lt_of_lt_of_le (A10).lt Po11_1)) (SS.ext Xt42) (by decide) (by decide) (by decide) (by decide) (by decide) (by decide) (by decide) (by decide) rfl (Nat.le_of_ble_eq_true rfl) rfl rfl rfl) e43 Po37_0.1 (g := (mkF m 28 #[vR rn] [(.ref xi), (.ref b10)])) (rest := []) (lenOf own_pd36 rfl) (g4_2 hby 12 rfl) hz
  have Na46 := Fr.app Na38 Nq45
  have CR47 : CHr Z own_EL s.vm h0 T16.vm T45.heap := CR39.trans (CHr.keep K45 (allS (Safe.exa (hZ16).alike Po37_0.1 (by decide) (by decide)) (allS Sf40 all0)) CR39.1)
  have Sf48 := Safe.keep K45 (allS (Safe.exa (hZ16).alike Po37_0.1 (by decide) (by decide)) (allS Sf40 all0)) CR39.1 Sf40
  have Vc49 : Arv Z T45.heap t_11 kt_11 .byte (16 : Int32) [(.int 104), (.int 97), (.int 115), (.int 112), (.int 58), (.int v0), (.int v1), (.int (nar .byte (58 : Int32))), (.int ie0), z0, z0, z0, z0, z0, z0, z0] (.int 0) := Po45_0.2.2.2.2.2
  have Xt50 : Ext h0 T45.heap := (own_xk Xt42 K45 ((allS (Nat.le_trans (own_xr h0).1 (Nat.le_of_eq g10.symm)) (allS (Nat.le_trans E10.1 Po11_1) all0))))
  have Gr51 : h0.size ≤ T45.heap.size := Nat.le_trans Gr44 K45.1
  obtain ⟨_, T52, L52, X52, ⟨x_52, u_52, ku_52, rfl, Nq52, E52, Po52_0⟩, st52⟩ := own_cv 0 X45 hx hZ16 ho16 (ow hw 179 rfl) (ow hw 180 rfl) (ow hw 127 rfl) (ow hw 182 rfl) (ow hw 181 rfl) (ow hw 107 rfl) (ow hw 183 rfl) (own_ts0 hw [(.int 104), (.int 97), (.int 115), (.int 112), (.int 58), (.int v0), (.int v1), (.int (nar .byte (58 : Int32))), (.int ie0)] 9 (Nat.le_trans Z0 Gr51) ⟨Po45_0.1, Po45_0.2.1, Po45_0.2.2.1, Po45_0.2.2.2.1, Po45_0.2.2.2.2.1, Vc49⟩ (SS.ext Xt50) rfl rfl (by decide) (by decide) (by decide) (by decide) (by decide) (by decide)) rfl Po45_0.1 (g := (mkF m 31 #[vR rn] [(.ref b10)])) (rest := []) (lenOf own_pd38 rfl) (g4_2 hby 13 rfl) hz
  have Na53 := Fr.app Na46 Nq52
  have Xt54 : Ext h0 T52.heap := (own_xt Xt50 E52)
  have CR55 : CHr Z own_EL s.vm h0 T16.vm T52.heap := CR47.trans (CHr.ext E52 CR47.1)
  have CRz : CHr Z own_EL s.vm h0 T52.vm T52.heap := CR55.trans (CHv.at X52 hZ16 (own_ew hw) CR55.1)
  have Gr59 : h16.size ≤ T30.heap.size := Nat.le_trans K22.1 K30.1
  have Gr58 : h16.size ≤ T37.heap.size := Nat.le_trans Gr59 K37.1
  have Gr57 : h16.size ≤ T45.heap.size := Nat.le_trans Gr58 K45.1
  have Gr56 : h16.size ≤ T52.heap.size := Nat.le_trans Gr57 E52.1
  obtain ⟨fs, hr, hrun, hended, hRW⟩ := X52.leaveW hS16 ((Nat.le_trans hk16 Gr56)) (v := some (.ref x_52)) (fun h => by rw [Bd.returns] at h; cases h)
  refine ⟨_, _, pre0 _ ?_, hrun, hended, _, _, rfl, ?_, ?_, own_rew hRW (by decide) (by decide)⟩
  · refine st10 _ ?_
    refine XS.dup X10.here hx rfl (g4_2 hby 1 rfl) rfl rfl ?_
    refine st11 _ ?_
    refine st16 _ ?_
    refine st22 _ ?_
    refine sA X22.here hx (g4_2 hby 5 rfl) ?_
    refine st28 _ ?_
    refine st30 _ ?_
    refine XS.bipush X30.here hx rfl (g4_2 hby 8 rfl) ?_
    refine st37 _ ?_
    refine sA X37.here hx (g4_2 hby 10 rfl) ?_
    refine st43 _ ?_
    refine st45 _ ?_
    refine st52 _ ?_
    exact retR X52 hx Bd.returns rfl rfl rfl (g4_2 hby 14 rfl) hr
  · show own_Qrk021 Z rn x xi u ku ui ki w2 v0 v1 ie0 fm h0 n0 _ T52.heap _
    exact ⟨x_52, u_52, ku_52, rfl, Na53, Xt54, Po52_0⟩
  · show CHr Z own_EL s.vm s.heap T52.vm T52.heap
    rw [hh]; exact CRz
def own_Qrk022 (Z : State) (rn x xi u : Addr) (ku : ClassId) (ui : Addr) (ki : ClassId) (w2 v0 v1 ie0 ie1 : Int32) (fm : Value) (h0 : Heap) (n0 : Nat) (v : Option Value) (h : Heap) (L : List Loc) : Prop := ∃ (y0 : Addr) (uy : Addr) (ky : ClassId), v = some (.ref y0) ∧ Fr n0 L ∧ Ext h0 h ∧ own_Sr Z h y0 uy ky 0 10 [(.int 104), (.int 97), (.int 115), (.int 112), (.int 58), (.int v0), (.int v1), (.int (nar .byte (58 : Int32))), (.int ie0), (.int ie1)]
theorem own_rk022_ef (m : MethodId) (x0 : Addr) : entryFrame m #[(.ref x0)] 1 = mkF m 0 #[vR x0] [] := rfl
theorem own_rk022 (l : Launch) (Z : State) (a0 : Array Value) (hw : ∀ d ∈ tables_1, d.before a0 Z = true) (ws : List Jvm.Cond) (rn x xi u : Addr) (ku : ClassId) (ui : Addr) (ki : ClassId) (w2 v0 v1 ie0 ie1 : Int32) (fm : Value) (h0 : Heap) (n0 : Nat) (Z0 : n0 ≤ h0.size) (E_rn : Exa Z h0 rn "com/example/libhasp/libhasp/RecordName") (F_rn_type : Fld Z h0 rn "com/example/libhasp/libhasp/RecordName" "type" "Ljava/lang/String;" (.ref x)) (F_rn_id : Fld Z h0 rn "com/example/libhasp/libhasp/RecordName" "id" "Ljava/lang/String;" (.ref xi)) (S_x : own_Sr Z h0 x u ku 0 2 [(.int v0), (.int v1)]) (S_xi : own_Sr Z h0 xi ui ki 0 2 [(.int ie0), (.int ie1)]) (SS : own_ST Z h0 w2 fm) :
    MetFree l y_64 (head1 (Jvm.Cond.code y_64 prog_4_method_2_code 1 (some (.object "java/lang/String")) :: ws) ({ frames := 10, cells := 7, slots := 100, locals := 143 } : Room)) (fun a U => a = #[(.ref rn)] ∧ Z.Warmed39 U.vm ∧ U.heap = h0 ∧ CHv Z own_EL U.vm h0) (fun _ _ _ _ _ => True) (fun _ U o U' => ∃ v L, o = .returned v ∧ own_Qrk022 Z rn x xi u ku ui ki w2 v0 v1 ie0 ie1 fm h0 n0 v U'.heap L ∧ CHr Z own_EL U.vm U.heap U'.vm U'.heap ∧ ReturnedEndW U o U' L ({ frames := 10, cells := 7, slots := 100, locals := 143 } : Room).cells ({ frames := 10, cells := 7, slots := 100, locals := 143 } : Room).slots) := by
  refine MetFree.of_bodySF (plainFor_of_name own_pn8) hisR ?_
  intro p e s m args below meth c s₁ Bd hml0 hP hK
  obtain ⟨rfl, hZ, hh, hCH⟩ := hP
  have hx := Bd.exec
  have hby := Bd.bytes
  have hml : c.maxLocals = 1 := hml0
  have hz := hml.symm
  have hown : s.vm.findClass "com/example/libhasp/libhasp/RecordName" = some m.cls := findClass_of_methodNamed Bd.named
  have hnm := (name_of_methodNamed Bd.named Bd.method).1
  have X0 : Stand p l e ({ frames := 10, cells := 7, slots := 100, locals := 143 } : Room) (s.setVm s.vm) m #[(.ref rn)] below meth c s₁ [] 0 0 := Stand.of_body Bd
  have e0 : s₁.heap = h0 := by rw [← hh, Bd.state]; rfl
  have N0 := Fr.nil n0
  have hS0 : s.Since s.vm 0 := (State.WarmedH.refl s).since 0
  have CR0 : CHr Z own_EL s.vm h0 s.vm h0 := CHr.refl hCH
  have pre0 : ∀ tq, Steps p.tables e below (s₁.setTop (mkF m 0 #[vR rn] [])) tq → Steps p.tables e below (s₁.setTop (entryFrame m #[(.ref rn)] 1)) tq := fun tq k => castTop (own_rk022_ef m rn) k
  have P5 := SS.2.1
  have rf := SS.2.2.2.1
  obtain ⟨T10, h10, X10, e10, E10, A10, D10, -, st10⟩ := newO X0 hx hZ hown (ow hw 105 rfl) (ow hw 106 rfl) (ow hw 107 rfl) e0 (g := (mkF m 0 #[vR rn] [])) rfl (g4_2 hby 0 rfl) (by decide) (by decide)
  obtain ⟨b10, g10⟩ : ∃ z, z = h0.size := ⟨_, rfl⟩
  rw [← g10] at A10 D10 st10
  have Fvalue_10 : Fld Z h10 b10 "java/lang/AbstractStringBuilder" "value" "[B" .null := D10 (Or.inl (ow hw 120 rfl)) (ty := (.array .byte)) (by decide)
  have Fcoder_10 : Fld Z h10 b10 "java/lang/AbstractStringBuilder" "coder" "B" (.int 0) := D10 (Or.inl (ow hw 122 rfl)) (ty := .byte) (by decide)
  have Fcount_10 : Fld Z h10 b10 "java/lang/AbstractStringBuilder" "count" "I" (.int 0) := D10 (Or.inl (ow hw 136 rfl)) (ty := .int) (by decide)
  have FmaybeLatin1_10 : Fld Z h10 b10 "java/lang/AbstractStringBuilder" "maybeLatin1" "Z" (.int 0) := D10 (Or.inl (ow hw 307 rfl)) (ty := .boolean) (by decide)
  obtain ⟨_, T11, L11, X11, ⟨t_11, kt_11, rfl, Nq11, K11, Po11_0, Po11_1⟩, st11⟩ := own_cp 1 X10 hx hZ hown (ow hw 108 rfl) (ow hw 109 rfl) (ow hw 107 rfl) (ow hw 110 rfl) (own_sbi hw  (Nat.le_trans Z0 E10.1) A10 Fvalue_10 Fcoder_10 Fcount_10 FmaybeLatin1_10 (Nat.le_trans Z0 (Nat.le_of_eq g10.symm)) (SS.ext E10)) e10 (g := (mkF m 4 #[vR rn] [(.ref b10), (.ref b10)])) (rest := [(.ref b10)]) (lenOf own_pd20 rfl) (g4_2 hby 2 rfl) hz
  have Na12 := Fr.app (Fr.nil n0) Nq11
  have Xt14 : Ext h0 T11.heap := (own_xk E10 K11 ((allS (Nat.le_trans (own_xr h0).1 (Nat.le_of_eq g10.symm)) all0)))
  have CR13 : CHr Z own_EL s.vm h0 s.vm T11.heap := CR0.trans (CHr.ext Xt14 CR0.1)
  have Sf15 : Safe Z own_EL s.vm T11.heap t_11 := Safe.ext Xt14 CR0.1 (Safe.new (Nat.le_trans E10.1 Po11_1))
  obtain ⟨ca16, T16, h16, kq16, cb16, kb16, X16, e16, E16, hS16, hk16, hZ16, ho16, Ex16, Co16, Va16, Ar16, la16, lb16, hC16, Li16, sf16, st16⟩ := ldcCH X11 hx hZ hown (ow hw 123 rfl) (own_sa hw) rfl hS0 (Nat.zero_le _) (own_ew hw) (by decide) CR13.1 (vs := (([(104 : Int32), (97 : Int32), (115 : Int32), (112 : Int32), (58 : Int32)] : List Int32).map (fun c => c.toInt8.toInt32)).map Value.int) (z := (5 : Int32)) ⟨by decide, by decide +kernel⟩ (by decide) (by decide) (g := (mkF m 7 #[vR rn] [(.ref b10)])) rfl (g4_2 hby 3 rfl) (n := 20) (by decide) (by decide) (by decide) (by decide)
  have CR17 : CHr Z own_EL s.vm h0 T16.vm h16 := CR13.trans hC16
  have Sf18 := hC16.safe (Po11_0.2.2.2.2.2).lt Sf15
  have Vk16 : Arv Z h16 cb16 kb16 .byte (5 : Int32) [(.int 104), (.int 97), (.int 115), (.int 112), (.int 58)] (.int 0) := by have q := Ar16; rw [own_hb] at q; exact q
  have Xt19 : Ext h0 h16 := (own_xt Xt14 E16)
  have Gr21 : h0.size ≤ T11.heap.size := Nat.le_trans E10.1 K11.1
  have Gr20 : h0.size ≤ h16.size := Nat.le_trans Gr21 E16.1
  obtain ⟨_, T22, L22, X22, ⟨rfl, Nq22, K22, Po22_0⟩, st22⟩ := own_cv 0 X16 hx hZ16 ho16 (ow hw 124 rfl) (ow hw 125 rfl) (ow hw 127 rfl) (ow hw 127 rfl) (ow hw 126 rfl) (ow hw 107 rfl) (ow hw 128 rfl) (own_ap0 hw (5 : Int32) (5 : Int32) (16 : Int32) (0 : Int32) 0 5 [(.int 104), (.int 97), (.int 115), (.int 112), (.int 58), z0, z0, z0, z0, z0, z0, z0, z0, z0, z0, z0] (Nat.le_trans Z0 Gr20) (Po11_0.ext E16) ⟨Ex16, Va16, Co16, Vk16⟩ (Nat.le_trans Z0 (Nat.le_of_eq g10.symm)) (Nat.le_trans Z0 (Nat.le_trans E10.1 Po11_1)) (Nat.ne_of_lt (Nat.lt_of_lt_of_le (A10).lt Po11_1)) (SS.ext Xt19) (by decide) (by decide) (by decide) (by decide) (by decide) (by decide) (by decide) (by decide) rfl (Nat.le_of_ble_eq_true rfl) rfl rfl rfl) e16 (Po11_0.1.ext E16) (g := (mkF m 9 #[vR rn] [(.ref ca16), (.ref b10)])) (rest := []) (lenOf own_pd36 rfl) (g4_2 hby 4 rfl) hz
  have Na23 := Fr.app Na12 Nq22
  have CR24 : CHr Z own_EL s.vm h0 T16.vm T22.heap := CR17.trans (CHr.keep K22 (allS (Safe.exa (hZ16).alike (Po11_0.1.ext E16) (by decide) (by decide)) (allS Sf18 all0)) CR17.1)
  have Sf25 := Safe.keep K22 (allS (Safe.exa (hZ16).alike (Po11_0.1.ext E16) (by decide) (by decide)) (allS Sf18 all0)) CR17.1 Sf18
  have Vc26 : Arv Z T22.heap t_11 kt_11 .byte (16 : Int32) [(.int 104), (.int 97), (.int 115), (.int 112), (.int 58), z0, z0, z0, z0, z0, z0, z0, z0, z0, z0, z0] (.int 0) := Po22_0.2.2.2.2.2
  have Xt27 : Ext h0 T22.heap := (own_xk Xt19 K22 ((allS (Nat.le_trans (own_xr h0).1 (Nat.le_of_eq g10.symm)) (allS (Nat.le_trans E10.1 Po11_1) all0))))
  obtain ⟨T28, X28, e28, st28⟩ := getF X22 hx hZ16 ho16 (host := "") (Or.inl (ow hw 96 rfl)) Via.refl rfl (F_rn_type.ext Xt27) (g := (mkF m 13 #[vR rn] [(.ref rn), (.ref b10)])) rfl rfl (g4_2 hby 6 rfl)
  have Gr29 : h0.size ≤ T22.heap.size := Nat.le_trans Gr20 K22.1
  obtain ⟨_, T30, L30, X30, ⟨rfl, Nq30, K30, Po30_0⟩, st30⟩ := own_cv 0 X28 hx hZ16 ho16 (ow hw 124 rfl) (ow hw 125 rfl) (ow hw 127 rfl) (ow hw 127 rfl) (ow hw 126 rfl) (ow hw 107 rfl) (ow hw 128 rfl) (own_ap0 hw (2 : Int32) (7 : Int32) (16 : Int32) (5 : Int32) 5 2 [(.int 104), (.int 97), (.int 115), (.int 112), (.int 58), (.int v0), (.int v1), z0, z0, z0, z0, z0, z0, z0, z0, z0] (Nat.le_trans Z0 Gr29) ⟨Po22_0.1, Po22_0.2.1, Po22_0.2.2.1, Po22_0.2.2.2.1, Po22_0.2.2.2.2.1, Vc26⟩ (S_x.ext Xt27) (Nat.le_trans Z0 (Nat.le_of_eq g10.symm)) (Nat.le_trans Z0 (Nat.le_trans E10.1 Po11_1)) (Nat.ne_of_lt (Nat.lt_of_lt_of_le (A10).lt Po11_1)) (SS.ext Xt27) (by decide) (by decide) (by decide) (by decide) (by decide) (by decide) (by decide) (by decide) rfl (Nat.le_of_ble_eq_true rfl) rfl rfl rfl) e28 Po22_0.1 (g := (mkF m 16 #[vR rn] [(.ref x), (.ref b10)])) (rest := []) (lenOf own_pd36 rfl) (g4_2 hby 7 rfl) hz
  have Na31 := Fr.app Na23 Nq30
  have CR32 : CHr Z own_EL s.vm h0 T16.vm T30.heap := CR24.trans (CHr.keep K30 (allS (Safe.exa (hZ16).alike Po22_0.1 (by decide) (by decide)) (allS Sf25 all0)) CR24.1)
  have Sf33 := Safe.keep K30 (allS (Safe.exa (hZ16).alike Po22_0.1 (by decide) (by decide)) (allS Sf25 all0)) CR24.1 Sf25
  have Vc34 : Arv Z T30.heap t_11 kt_11 .byte (16 : Int32) [(.int 104), (.int 97), (.int 115), (.int 112), (.int 58), (.int v0), (.int v1), z0, z0, z0, z0, z0, z0, z0, z0, z0] (.int 0) := Po30_0.2.2.2.2.2
  have Xt35 : Ext h0 T30.heap := (own_xk Xt27 K30 ((allS (Nat.le_trans (own_xr h0).1 (Nat.le_of_eq g10.symm)) (allS (Nat.le_trans E10.1 Po11_1) all0))))
  have Gr36 : h0.size ≤ T30.heap.size := Nat.le_trans Gr29 K30.1
  obtain ⟨_, T37, L37, X37, ⟨rfl, Nq37, K37, Po37_0⟩, st37⟩ := own_cv 0 X30 hx hZ16 ho16 (ow hw 162 rfl) (ow hw 163 rfl) (ow hw 127 rfl) (ow hw 165 rfl) (ow hw 164 rfl) (ow hw 107 rfl) (ow hw 166 rfl) (own_sc07 hw  (Nat.le_trans Z0 Gr36) ⟨Po30_0.1, Po30_0.2.1, Po30_0.2.2.1, Po30_0.2.2.2.1, Po30_0.2.2.2.2.1, Vc34⟩ (Nat.le_trans Z0 (Nat.le_of_eq g10.symm)) (Nat.le_trans Z0 (Nat.le_trans E10.1 Po11_1)) (Nat.ne_of_lt (Nat.lt_of_lt_of_le (A10).lt Po11_1)) (SS.ext Xt35) rfl) rfl Po30_0.1 (g := (mkF m 21 #[vR rn] [(.int 58), (.ref b10)])) (rest := []) (lenOf own_pd37 rfl) (g4_2 hby 9 rfl) hz
  have Na38 := Fr.app Na31 Nq37
  have CR39 : CHr Z own_EL s.vm h0 T16.vm T37.heap := CR32.trans (CHr.keep K37 (allS (Safe.exa (hZ16).alike Po30_0.1 (by decide) (by decide)) (allS Sf33 all0)) CR32.1)
  have Sf40 := Safe.keep K37 (allS (Safe.exa (hZ16).alike Po30_0.1 (by decide) (by decide)) (allS Sf33 all0)) CR32.1 Sf33
  have Vc41 : Arv Z T37.heap t_11 kt_11 .byte (16 : Int32) [(.int 104), (.int 97), (.int 115), (.int 112), (.int 58), (.int v0), (.int v1), (.int (nar .byte (58 : Int32))), z0, z0, z0, z0, z0, z0, z0, z0] (.int 0) := Po37_0.2.2.2.2.2
  have Xt42 : Ext h0 T37.heap := (own_xk Xt35 K37 ((allS (Nat.le_trans (own_xr h0).1 (Nat.le_of_eq g10.symm)) (allS (Nat.le_trans E10.1 Po11_1) all0))))
  obtain ⟨T43, X43, e43, st43⟩ := getF X37 hx hZ16 ho16 (host := "") (Or.inl (ow hw 98 rfl)) Via.refl rfl (F_rn_id.ext Xt42) (g := (mkF m 25 #[vR rn] [(.ref rn), (.ref b10)])) rfl rfl (g4_2 hby 11 rfl)
  have Gr44 : h0.size ≤ T37.heap.size := Nat.le_trans Gr36 K37.1
  obtain ⟨_, T45, L45, X45, ⟨rfl, Nq45, K45, Po45_0⟩, st45⟩ := own_cv 0 X43 hx hZ16 ho16 (ow hw 124 rfl) (ow hw 125 rfl) (ow hw 127 rfl) (ow hw 127 rfl) (ow hw 126 rfl) (ow hw 107 rfl) (ow hw 128 rfl) (own_ap0 hw (2 : Int32) (10 : Int32) (16 : Int32) (8 : Int32) 8 2 [(.int 104), (.int 97), (.int 115), (.int 112), (.int 58), (.int v0), (.int v1), (.int (nar .byte (58 : Int32))), (.int ie0), (.int ie1), z0, z0, z0, z0, z0, z0] (Nat.le_trans Z0 Gr44) ⟨Po37_0.1, Po37_0.2.1, Po37_0.2.2.1, Po37_0.2.2.2.1, Po37_0.2.2.2.2.1, Vc41⟩ (S_xi.ext Xt42) (Nat.le_trans Z0 (Nat.le_of_eq g10.symm)) (Nat.le_trans Z0 (Nat.le_trans E10.1 Po11_1)) (Nat.ne_of_lt (Nat.lt_of_lt_of_le (A10).lt Po11_1)) (SS.ext Xt42) (by decide) (by decide) (by decide) (by decide) (by decide) (by decide) (by decide) (by decide) rfl (Nat.le_of_ble_eq_true rfl) rfl rfl rfl) e43 Po37_0.1 (g := (mkF m 28 #[vR rn] [(.ref xi), (.ref b10)])) (rest := []) (lenOf own_pd36 rfl) (g4_2 hby 12 rfl) hz
  have Na46 := Fr.app Na38 Nq45
  have CR47 : CHr Z own_EL s.vm h0 T16.vm T45.heap := CR39.trans (CHr.keep K45 (allS (Safe.exa (hZ16).alike Po37_0.1 (by decide) (by decide)) (allS Sf40 all0)) CR39.1)
  have Sf48 := Safe.keep K45 (allS (Safe.exa (hZ16).alike Po37_0.1 (by decide) (by decide)) (allS Sf40 all0)) CR39.1 Sf40
  have Vc49 : Arv Z T45.heap t_11 kt_11 .byte (16 : Int32) [(.int 104), (.int 97), (.int 115), (.int 112), (.int 58), (.int v0), (.int v1), (.int (nar .byte (58 : Int32))), (.int ie0), (.int ie1), z0, z0, z0, z0, z0, z0] (.int 0) := Po45_0.2.2.2.2.2
  have Xt50 : Ext h0 T45.heap := (own_xk Xt42 K45 ((allS (Nat.le_trans (own_xr h0).1 (Nat.le_of_eq g10.symm)) (allS (Nat.le_trans E10.1 Po11_1) all0))))
  have Gr51 : h0.size ≤ T45.heap.size := Nat.le_trans Gr44 K45.1
  obtain ⟨_, T52, L52, X52, ⟨x_52, u_52, ku_52, rfl, Nq52, E52, Po52_0⟩, st52⟩ := own_cv 0 X45 hx hZ16 ho16 (ow hw 179 rfl) (ow hw 180 rfl) (ow hw 127 rfl) (ow hw 182 rfl) (ow hw 181 rfl) (ow hw 107 rfl) (ow hw 183 rfl) (own_ts0 hw [(.int 104), (.int 97), (.int 115), (.int 112), (.int 58), (.int v0), (.int v1), (.int (nar .byte (58 : Int32))), (.int ie0), (.int ie1)] 10 (Nat.le_trans Z0 Gr51) ⟨Po45_0.1, Po45_0.2.1, Po45_0.2.2.1, Po45_0.2.2.2.1, Po45_0.2.2.2.2.1, Vc49⟩ (SS.ext Xt50) rfl rfl (by decide) (by decide) (by decide) (by decide) (by decide) (by decide)) rfl Po45_0.1 (g := (mkF m 31 #[vR rn] [(.ref b10)])) (rest := []) (lenOf own_pd38 rfl) (g4_2 hby 13 rfl) hz
  have Na53 := Fr.app Na46 Nq52
  have Xt54 : Ext h0 T52.heap := (own_xt Xt50 E52)
  have CR55 : CHr Z own_EL s.vm h0 T16.vm T52.heap := CR47.trans (CHr.ext E52 CR47.1)
  have CRz : CHr Z own_EL s.vm h0 T52.vm T52.heap := CR55.trans (CHv.at X52 hZ16 (own_ew hw) CR55.1)
  have Gr59 : h16.size ≤ T30.heap.size := Nat.le_trans K22.1 K30.1
  have Gr58 : h16.size ≤ T37.heap.size := Nat.le_trans Gr59 K37.1
  have Gr57 : h16.size ≤ T45.heap.size := Nat.le_trans Gr58 K45.1
  have Gr56 : h16.size ≤ T52.heap.size := Nat.le_trans Gr57 E52.1
  obtain ⟨fs, hr, hrun, hended, hRW⟩ := X52.leaveW hS16 ((Nat.le_trans hk16 Gr56)) (v := some (.ref x_52)) (fun h => by rw [Bd.returns] at h; cases h)
  refine ⟨_, _, pre0 _ ?_, hrun, hended, _, _, rfl, ?_, ?_, own_rew hRW (by decide) (by decide)⟩
  · refine st10 _ ?_
    refine XS.dup X10.here hx rfl (g4_2 hby 1 rfl) rfl rfl ?_
    refine st11 _ ?_
    refine st16 _ ?_
    refine st22 _ ?_
    refine sA X22.here hx (g4_2 hby 5 rfl) ?_
    refine st28 _ ?_
    refine st30 _ ?_
    refine XS.bipush X30.here hx rfl (g4_2 hby 8 rfl) ?_
    refine st37 _ ?_
    refine sA X37.here hx (g4_2 hby 10 rfl) ?_
    refine st43 _ ?_
    refine st45 _ ?_
    refine st52 _ ?_
    exact retR X52 hx Bd.returns rfl rfl rfl (g4_2 hby 14 rfl) hr
  · show own_Qrk022 Z rn x xi u ku ui ki w2 v0 v1 ie0 ie1 fm h0 n0 _ T52.heap _
    exact ⟨x_52, u_52, ku_52, rfl, Na53, Xt54, Po52_0⟩
  · show CHr Z own_EL s.vm s.heap T52.vm T52.heap
    rw [hh]; exact CRz
def own_tc (r : Int32) : Prop := (¬ r < 0 ∧ ¬ (255 : Int32) < r ∧ ¬ r = 58) ∨ r = 314
theorem own_tcN {r : Int32} (h : own_tc r) : nar .char r = r := by
  rcases h with ⟨a, b, c⟩ | rfl
  · exact own_nar ⟨a, b⟩
  · decide +kernel
theorem own_prL {d : Int32} (h : ¬ d < 0 ∧ ¬ (255 : Int32) < d) : nar .char (((((own_lo d) &&& (255 : Int32)) <<< ((0 : Int32) &&& 31)) ||| (((own_hi d) &&& (255 : Int32)) <<< ((8 : Int32) &&& 31))).toUInt32.toUInt16.toUInt32.toInt32) = d := by
  obtain ⟨k, rfl⟩ := own_fin h
  exact (by decide +kernel : ∀ k : Fin 256, nar .char (((((own_lo (Int32.ofNat k.val)) &&& (255 : Int32)) <<< ((0 : Int32) &&& 31)) ||| (((own_hi (Int32.ofNat k.val)) &&& (255 : Int32)) <<< ((8 : Int32) &&& 31))).toUInt32.toUInt16.toUInt32.toInt32) = (Int32.ofNat k.val)) k
theorem own_tcP {r : Int32} (h : own_tc r) : nar .char (((((own_lo r) &&& (255 : Int32)) <<< ((0 : Int32) &&& 31)) ||| (((own_hi r) &&& (255 : Int32)) <<< ((8 : Int32) &&& 31))).toUInt32.toUInt16.toUInt32.toInt32) = r := by
  rcases h with ⟨a, b, c⟩ | rfl
  · exact own_prL ⟨a, b⟩
  · decide +kernel
theorem own_l8 {d : Int32} (h : ¬ d < 0 ∧ ¬ (255 : Int32) < d) : nar .char (((own_b d) &&& (255 : Int32)).toUInt32.toUInt16.toUInt32.toInt32) = d := by
  obtain ⟨k, rfl⟩ := own_fin h
  exact (by decide +kernel : ∀ k : Fin 256, nar .char (((own_b (Int32.ofNat k.val)) &&& (255 : Int32)).toUInt32.toUInt16.toUInt32.toInt32) = (Int32.ofNat k.val)) k
theorem own_n58 {d : Int32} (h : ¬ d < 0 ∧ ¬ (255 : Int32) < d) (n : ¬ d = 58) : ¬ (own_b d) = 58 := by
  obtain ⟨k, rfl⟩ := own_fin h
  exact (by decide +kernel : ∀ k : Fin 256, ¬ (Int32.ofNat k.val) = 58 → ¬ (own_b (Int32.ofNat k.val)) = 58) k n
theorem own_tcne {r : Int32} (h : own_tc r) : ¬ r = 58 := by
  rcases h with ⟨a, b, c⟩ | rfl
  · exact c
  · decide
theorem own_tc1 {r : Int32} (h : own_tc r) : ((¬ r < 0 ∧ ¬ (255 : Int32) < r) ∧ ¬ r = 58) ∨ (255 : Int32) < r := by
  rcases h with ⟨a, b, c⟩ | rfl
  · exact Or.inl ⟨⟨a, b⟩, c⟩
  · exact Or.inr (by decide)
theorem own_tc2 {r q : Int32} (h : own_tc r) (g : own_tc q) : (((¬ r < 0 ∧ ¬ (255 : Int32) < r) ∧ ¬ r = 58) ∧ ((¬ q < 0 ∧ ¬ (255 : Int32) < q) ∧ ¬ q = 58)) ∨ ((255 : Int32) < r ∨ (¬ (255 : Int32) < r ∧ (255 : Int32) < q)) := by
  rcases own_tc1 h with a | a
  · rcases own_tc1 g with b | b
    · exact Or.inl ⟨a, b⟩
    · exact Or.inr (Or.inr ⟨a.1.2, b⟩)
  · exact Or.inr (Or.inl a)
theorem own_nU2 (hw : own_HW a0 Z) {x : Addr} {w2 : Int32} {bc : Addr} {kC : ClassId} {dC : Value} {c0 c1 : Int32} {fm : Value}  (Z0 : n0 ≤ h0.size) (E_x : Exa Z h0 x "java/lang/String") (F_x_value : Fld Z h0 x "java/lang/String" "value" "[B" .null) (F_x_coder : Fld Z h0 x "java/lang/String" "coder" "B" (.int 0)) (g_x : n0 ≤ x) (A_bc : Arv Z h0 bc kC .char (2 : Int32) [(.int c0), (.int c1)] dC) (SS : own_ST Z h0 w2 fm) (hor : (255 : Int32) < c0 ∨ (¬ (255 : Int32) < c0 ∧ (255 : Int32) < c1)) (zz0 : nar .char (((((own_lo c0) &&& (255 : Int32)) <<< ((0 : Int32) &&& 31)) ||| (((own_hi c0) &&& (255 : Int32)) <<< ((8 : Int32) &&& 31))).toUInt32.toUInt16.toUInt32.toInt32) = c0) (zz1 : nar .char (((((own_lo c1) &&& (255 : Int32)) <<< ((0 : Int32) &&& 31)) ||| (((own_hi c1) &&& (255 : Int32)) <<< ((8 : Int32) &&& 31))).toUInt32.toUInt16.toUInt32.toInt32) = c1) : own_M l Z h0 y_62 jdk_42_method_3_code 2 none (rm 5 2 6 74) #[(.ref x), (.ref bc)] (own_QnU2a Z x w2 bc kC dC c0 c1 fm h0 n0) := by
  rcases hor with q | ⟨q, q2⟩
  · exact own_nU2a hw  Z0 E_x F_x_value F_x_coder g_x A_bc SS q zz0
  · exact own_nU2b hw  Z0 E_x F_x_value F_x_coder g_x A_bc SS q q2 zz1
/-- a String of the chars cs, by either coder -/
def own_T (Z : State) (h : Heap) (x : Addr) (cs : List Int32) : Prop := (∃ u k, own_Sr Z h x u k 0 (Int32.ofNat cs.length) (cs.map fun c => .int (own_b c)) ∧ ∀ c ∈ cs, ¬ (255 : Int32) < c) ∨ ∃ u k, own_Sr Z h x u k 1 (Int32.ofNat (2 * cs.length)) (cs.flatMap fun c => [.int (own_lo c), .int (own_hi c)])
theorem own_T.ext {Z : State} {h h' : Heap} {x : Addr} {cs : List Int32} (T : own_T Z h x cs) (E : Ext h h') : own_T Z h' x cs := by
  rcases T with ⟨u, k, S, a⟩ | ⟨u, k, S⟩
  · exact Or.inl ⟨u, k, S.ext E, a⟩
  · exact Or.inr ⟨u, k, S.ext E⟩
theorem own_monoW {l : Launch} {y : MethodName} {S : Spec} {P : Array Value → State → Prop} {K : Program → Env → List Frame → State → Array Value → Prop} {Q Q' : Option Value → Heap → List Loc → Prop} {R1 : State → Outcome → State → List Loc → Prop} (H : MetFree l y S P K (fun _ U o U' => ∃ v L, o = .returned v ∧ Q v U'.heap L ∧ R1 U o U' L)) (q : ∀ v h L, Q v h L → Q' v h L) : MetFree l y S P K (fun _ U o U' => ∃ v L, o = .returned v ∧ Q' v U'.heap L ∧ R1 U o U' L) := by
  intro p e ha hc hk s m args below hf happ hP hK
  obtain ⟨n, o, h1, h2, h3, v, L, e1, hq, r⟩ := H p e ha hc hk s m args below hf happ hP hK
  exact ⟨n, o, h1, h2, h3, v, L, e1, q _ _ _ hq, r⟩
theorem own_al {d : Int32} {cs : List Int32} (h : ¬ (255 : Int32) < d) (r : ∀ c ∈ cs, ¬ (255 : Int32) < c) : ∀ c ∈ d :: cs, ¬ (255 : Int32) < c := fun c hc => (List.mem_cons.mp hc).elim (fun e => e ▸ h) (r c)

def own_QnS1 (Z : State) (x : Addr) (w2 : Int32) (bc : Addr) (kC : ClassId) (dC : Value) (c0 : Int32) (fm : Value) (h0 : Heap) (n0 : Nat) (v : Option Value) (h : Heap) (L : List Loc) : Prop := v = none ∧ Fr n0 L ∧ Keep h0 h [x] ∧ own_T Z h x [c0]
theorem own_nS1 (hw : own_HW a0 Z) {x : Addr} {w2 : Int32} {bc : Addr} {kC : ClassId} {dC : Value} {c0 : Int32} {fm : Value}  (Z0 : n0 ≤ h0.size) (E_x : Exa Z h0 x "java/lang/String") (F_x_value : Fld Z h0 x "java/lang/String" "value" "[B" .null) (F_x_coder : Fld Z h0 x "java/lang/String" "coder" "B" (.int 0)) (g_x : n0 ≤ x) (A_bc : Arv Z h0 bc kC .char (1 : Int32) [(.int c0)] dC) (SS : own_ST Z h0 w2 fm) (tc0 : own_tc c0) : own_M l Z h0 y_62 jdk_42_method_3_code 2 none (rm 5 2 3 74) #[(.ref x), (.ref bc)] (own_QnS1 Z x w2 bc kC dC c0 fm h0 n0) := by
  rcases own_tc1 tc0 with a | a
  · exact own_mono (own_nL1 hw  Z0 E_x F_x_value F_x_coder g_x A_bc SS a.1.2) fun v h L ⟨t, k, r1, r2, r3, r4, _⟩ => ⟨r1, r2, r3, Or.inl ⟨t, k, r4, fun c hc => by rw [List.mem_singleton.mp hc]; exact a.1.2⟩⟩
  · exact own_mono (own_nU1 hw  Z0 E_x F_x_value F_x_coder g_x A_bc SS a (own_tcP tc0)) fun v h L ⟨t, k, r1, r2, r3, r4, _⟩ => ⟨r1, r2, r3, Or.inr ⟨t, k, r4⟩⟩
def own_QnS2 (Z : State) (x : Addr) (w2 : Int32) (bc : Addr) (kC : ClassId) (dC : Value) (c0 c1 : Int32) (fm : Value) (h0 : Heap) (n0 : Nat) (v : Option Value) (h : Heap) (L : List Loc) : Prop := v = none ∧ Fr n0 L ∧ Keep h0 h [x] ∧ own_T Z h x [c0, c1]
theorem own_nS2 (hw : own_HW a0 Z) {x : Addr} {w2 : Int32} {bc : Addr} {kC : ClassId} {dC : Value} {c0 c1 : Int32} {fm : Value}  (Z0 : n0 ≤ h0.size) (E_x : Exa Z h0 x "java/lang/String") (F_x_value : Fld Z h0 x "java/lang/String" "value" "[B" .null) (F_x_coder : Fld Z h0 x "java/lang/String" "coder" "B" (.int 0)) (g_x : n0 ≤ x) (A_bc : Arv Z h0 bc kC .char (2 : Int32) [(.int c0), (.int c1)] dC) (SS : own_ST Z h0 w2 fm) (tc0 : own_tc c0) (tc1 : own_tc c1) : own_M l Z h0 y_62 jdk_42_method_3_code 2 none (rm 5 2 6 74) #[(.ref x), (.ref bc)] (own_QnS2 Z x w2 bc kC dC c0 c1 fm h0 n0) := by
  rcases own_tc2 tc0 tc1 with a | a
  · exact own_mono (own_nL2 hw  Z0 E_x F_x_value F_x_coder g_x A_bc SS a.1.1.2 a.2.1.2) fun v h L ⟨t, k, r1, r2, r3, r4, _⟩ => ⟨r1, r2, r3, Or.inl ⟨t, k, r4, fun c hc => by rcases List.mem_cons.mp hc with rfl | hc; exact a.1.1.2; rw [List.mem_singleton.mp hc]; exact a.2.1.2⟩⟩
  · exact own_mono (own_nU2 hw  Z0 E_x F_x_value F_x_coder g_x A_bc SS a (own_tcP tc0) (own_tcP tc1)) fun v h L ⟨t, k, r1, r2, r3, r4, _⟩ => ⟨r1, r2, r3, Or.inr ⟨t, k, r4⟩⟩
theorem own_tcL {r : Int32} (h : own_tc r) (g : ¬ (255 : Int32) < r) : ¬ r < 0 ∧ ¬ (255 : Int32) < r := by
  rcases h with ⟨a, b, c⟩ | rfl
  · exact ⟨a, b⟩
  · exact absurd (by decide) g
def own_QrnM1 (Z : State) (rn x xi : Addr) (c0 : Int32) (ui : Addr) (ki : ClassId) (Ni : Int32) (vi : List Value) (w2 : Int32) (fm : Value) (h0 : Heap) (n0 : Nat) (v : Option Value) (h : Heap) (L : List Loc) : Prop := v = none ∧ Fr n0 L ∧ Keep h0 h [rn] ∧ Exa Z h rn "com/example/libhasp/libhasp/RecordName" ∧ Fld Z h rn "com/example/libhasp/libhasp/RecordName" "type" "Ljava/lang/String;" (.ref x) ∧ Fld Z h rn "com/example/libhasp/libhasp/RecordName" "id" "Ljava/lang/String;" (.ref xi)
theorem own_rnM1 (l : Launch) (Z : State) (a0 : Array Value) (hw : ∀ d ∈ tables_1, d.before a0 Z = true) (ws : List Jvm.Cond) (rn x xi : Addr) (c0 : Int32) (ui : Addr) (ki : ClassId) (Ni : Int32) (vi : List Value) (w2 : Int32) (fm : Value) (h0 : Heap) (n0 : Nat) (Z0 : n0 ≤ h0.size) (E_rn : Exa Z h0 rn "com/example/libhasp/libhasp/RecordName") (F_rn_type : Fld Z h0 rn "com/example/libhasp/libhasp/RecordName" "type" "Ljava/lang/String;" .null) (F_rn_id : Fld Z h0 rn "com/example/libhasp/libhasp/RecordName" "id" "Ljava/lang/String;" .null) (g_rn : n0 ≤ rn) (T_x : own_T Z h0 x [c0]) (E_xi : Exa Z h0 xi "java/lang/String") (F_xi_value : Fld Z h0 xi "java/lang/String" "value" "[B" (.ref ui)) (A_ui : Arv Z h0 ui ki .byte Ni vi (.int 0)) (hNi : ¬ Ni = 0) (SS : own_ST Z h0 w2 fm) (tc0 : own_tc c0) :
    MetFree l y_63 (head1 (Jvm.Cond.code y_63 prog_4_method_1_code 3 none :: ws) ({ frames := 7, cells := 4, slots := 168, locals := 100 } : Room)) (fun a U => a = #[(.ref rn), (.ref x), (.ref xi)] ∧ Z.Warmed39 U.vm ∧ U.heap = h0 ∧ CHv Z own_EL U.vm h0) (fun _ _ _ _ _ => True) (fun _ U o U' => ∃ v L, o = .returned v ∧ own_QrnM1 Z rn x xi c0 ui ki Ni vi w2 fm h0 n0 v U'.heap L ∧ CHr Z own_EL U.vm U.heap U'.vm U'.heap ∧ ReturnedEndW U o U' L ({ frames := 7, cells := 4, slots := 168, locals := 100 } : Room).cells ({ frames := 7, cells := 4, slots := 168, locals := 100 } : Room).slots) := by
  rcases T_x with ⟨u, k, S, a⟩ | ⟨u, k, S⟩
  · exact own_rn01 l Z a0 hw ws _ _ _ _ _ _ _ _ _ _ _ _ h0 n0 Z0 E_rn F_rn_type F_rn_id g_rn S E_xi F_xi_value A_ui hNi SS (own_n58 (own_tcL tc0 (a _ (List.mem_of_getElem? (i := 0) rfl))) (own_tcne tc0))
  · exact own_rn11 l Z a0 hw ws _ _ _ _ _ _ _ _ _ _ _ _ _ _ h0 n0 Z0 E_rn F_rn_type F_rn_id g_rn S E_xi F_xi_value A_ui hNi SS (own_tcP tc0) (own_tcne tc0)
def own_QrnM2 (Z : State) (rn x xi : Addr) (c0 c1 : Int32) (ui : Addr) (ki : ClassId) (Ni : Int32) (vi : List Value) (w2 : Int32) (fm : Value) (h0 : Heap) (n0 : Nat) (v : Option Value) (h : Heap) (L : List Loc) : Prop := v = none ∧ Fr n0 L ∧ Keep h0 h [rn] ∧ Exa Z h rn "com/example/libhasp/libhasp/RecordName" ∧ Fld Z h rn "com/example/libhasp/libhasp/RecordName" "type" "Ljava/lang/String;" (.ref x) ∧ Fld Z h rn "com/example/libhasp/libhasp/RecordName" "id" "Ljava/lang/String;" (.ref xi)
theorem own_rnM2 (l : Launch) (Z : State) (a0 : Array Value) (hw : ∀ d ∈ tables_1, d.before a0 Z = true) (ws : List Jvm.Cond) (rn x xi : Addr) (c0 c1 : Int32) (ui : Addr) (ki : ClassId) (Ni : Int32) (vi : List Value) (w2 : Int32) (fm : Value) (h0 : Heap) (n0 : Nat) (Z0 : n0 ≤ h0.size) (E_rn : Exa Z h0 rn "com/example/libhasp/libhasp/RecordName") (F_rn_type : Fld Z h0 rn "com/example/libhasp/libhasp/RecordName" "type" "Ljava/lang/String;" .null) (F_rn_id : Fld Z h0 rn "com/example/libhasp/libhasp/RecordName" "id" "Ljava/lang/String;" .null) (g_rn : n0 ≤ rn) (T_x : own_T Z h0 x [c0, c1]) (E_xi : Exa Z h0 xi "java/lang/String") (F_xi_value : Fld Z h0 xi "java/lang/String" "value" "[B" (.ref ui)) (A_ui : Arv Z h0 ui ki .byte Ni vi (.int 0)) (hNi : ¬ Ni = 0) (SS : own_ST Z h0 w2 fm) (tc0 : own_tc c0) (tc1 : own_tc c1) :
    MetFree l y_63 (head1 (Jvm.Cond.code y_63 prog_4_method_1_code 3 none :: ws) ({ frames := 7, cells := 4, slots := 168, locals := 100 } : Room)) (fun a U => a = #[(.ref rn), (.ref x), (.ref xi)] ∧ Z.Warmed39 U.vm ∧ U.heap = h0 ∧ CHv Z own_EL U.vm h0) (fun _ _ _ _ _ => True) (fun _ U o U' => ∃ v L, o = .returned v ∧ own_QrnM2 Z rn x xi c0 c1 ui ki Ni vi w2 fm h0 n0 v U'.heap L ∧ CHr Z own_EL U.vm U.heap U'.vm U'.heap ∧ ReturnedEndW U o U' L ({ frames := 7, cells := 4, slots := 168, locals := 100 } : Room).cells ({ frames := 7, cells := 4, slots := 168, locals := 100 } : Room).slots) := by
  rcases T_x with ⟨u, k, S, a⟩ | ⟨u, k, S⟩
  · exact own_rn02 l Z a0 hw ws _ _ _ _ _ _ _ _ _ _ _ _ _ h0 n0 Z0 E_rn F_rn_type F_rn_id g_rn S E_xi F_xi_value A_ui hNi SS (own_n58 (own_tcL tc0 (a _ (List.mem_of_getElem? (i := 0) rfl))) (own_tcne tc0)) (own_n58 (own_tcL tc1 (a _ (List.mem_of_getElem? (i := 1) rfl))) (own_tcne tc1))
  · exact own_rn12 l Z a0 hw ws _ _ _ _ _ _ _ _ _ _ _ _ _ _ _ _ _ h0 n0 Z0 E_rn F_rn_type F_rn_id g_rn S E_xi F_xi_value A_ui hNi SS (own_tcP tc0) (own_tcP tc1) (own_tcne tc0) (own_tcne tc1)
theorem own_bm {d : Int32} (h : ¬ d < 0 ∧ ¬ (255 : Int32) < d) : (own_b d &&& (255 : Int32)) = d := by
  obtain ⟨k, rfl⟩ := own_fin h
  exact (by decide +kernel : ∀ k : Fin 256, (own_b (Int32.ofNat k.val) &&& (255 : Int32)) = (Int32.ofNat k.val)) k
def own_QrkM11 (Z : State) (rn x xi ui : Addr) (ki : ClassId) (c0 d0 w2 : Int32) (fm : Value) (h0 : Heap) (n0 : Nat) (v : Option Value) (h : Heap) (L : List Loc) : Prop := ∃ (y0 : Addr), v = some (.ref y0) ∧ Fr n0 L ∧ Ext h0 h ∧ Exa Z h y0 "java/lang/String" ∧ own_T Z h y0 [104, 97, 115, 112, 58, c0, 58, d0]
theorem own_rkM11 (l : Launch) (Z : State) (a0 : Array Value) (hw : ∀ d ∈ tables_1, d.before a0 Z = true) (ws : List Jvm.Cond) (rn x xi ui : Addr) (ki : ClassId) (c0 d0 w2 : Int32) (fm : Value) (h0 : Heap) (n0 : Nat) (Z0 : n0 ≤ h0.size) (E_rn : Exa Z h0 rn "com/example/libhasp/libhasp/RecordName") (F_rn_type : Fld Z h0 rn "com/example/libhasp/libhasp/RecordName" "type" "Ljava/lang/String;" (.ref x)) (F_rn_id : Fld Z h0 rn "com/example/libhasp/libhasp/RecordName" "id" "Ljava/lang/String;" (.ref xi)) (T_x : own_T Z h0 x [c0]) (S_xi : own_Sr Z h0 xi ui ki 0 1 [(.int (own_b d0))]) (SS : own_ST Z h0 w2 fm) (hd0 : ¬ d0 < 0 ∧ ¬ (255 : Int32) < d0) :
    MetFree l y_64 (head1 (Jvm.Cond.code y_64 prog_4_method_2_code 1 (some (.object "java/lang/String")) :: ws) ({ frames := 10, cells := 7, slots := 100, locals := 143 } : Room)) (fun a U => a = #[(.ref rn)] ∧ Z.Warmed39 U.vm ∧ U.heap = h0 ∧ CHv Z own_EL U.vm h0) (fun _ _ _ _ _ => True) (fun _ U o U' => ∃ v L, o = .returned v ∧ own_QrkM11 Z rn x xi ui ki c0 d0 w2 fm h0 n0 v U'.heap L ∧ CHr Z own_EL U.vm U.heap U'.vm U'.heap ∧ ReturnedEndW U o U' L ({ frames := 10, cells := 7, slots := 100, locals := 143 } : Room).cells ({ frames := 10, cells := 7, slots := 100, locals := 143 } : Room).slots) := by
  rcases T_x with ⟨u, k, S, a⟩ | ⟨u, k, S⟩
  · refine own_monoW (own_rk011 l Z a0 hw ws _ _ _ _ _ _ _ _ _ _ _ h0 n0 Z0 E_rn F_rn_type F_rn_id S S_xi SS) fun v h L ⟨y0, uy, ky, r1, r2, r3, r4⟩ => ⟨y0, r1, r2, r3, r4.1, Or.inl ⟨uy, ky, ?_, own_al (by decide) (own_al (by decide) (own_al (by decide) (own_al (by decide) (own_al (by decide) (own_al (a _ (List.mem_of_getElem? (i := 0) rfl)) (own_al (by decide) (own_al hd0.2 (fun _ hc => nomatch hc))))))))⟩⟩
    rw [show (([104, 97, 115, 112, 58, c0, 58, d0] : List Int32).map fun c => Value.int (own_b c)) = [(.int 104), (.int 97), (.int 115), (.int 112), (.int 58), (.int (own_b c0)), (.int (nar .byte (58 : Int32))), (.int (own_b d0))] from by simp only [List.map, (by decide : own_b 104 = 104), (by decide : own_b 97 = 97), (by decide : own_b 115 = 115), (by decide : own_b 112 = 112), (by decide : own_b 58 = 58), (by decide : nar .byte (58 : Int32) = 58)]]
    exact r4
  · refine own_monoW (own_rk111 l Z a0 hw ws _ _ _ _ _ _ _ _ _ _ _ _ h0 n0 Z0 E_rn F_rn_type F_rn_id S S_xi SS) fun v h L ⟨y0, uy, ky, r1, r2, r3, r4⟩ => ⟨y0, r1, r2, r3, r4.1, Or.inr ⟨uy, ky, ?_⟩⟩
    simp only [oLoL, oHoH, own_bm hd0, (by decide : ((104 : Int32) &&& (255 : Int32)) = 104), (by decide : ((97 : Int32) &&& (255 : Int32)) = 97), (by decide : ((115 : Int32) &&& (255 : Int32)) = 115), (by decide : ((112 : Int32) &&& (255 : Int32)) = 112), (by decide : ((58 : Int32) &&& (255 : Int32)) = 58)] at r4
    exact r4
def own_QrkM12 (Z : State) (rn x xi ui : Addr) (ki : ClassId) (c0 d0 d1 w2 : Int32) (fm : Value) (h0 : Heap) (n0 : Nat) (v : Option Value) (h : Heap) (L : List Loc) : Prop := ∃ (y0 : Addr), v = some (.ref y0) ∧ Fr n0 L ∧ Ext h0 h ∧ Exa Z h y0 "java/lang/String" ∧ own_T Z h y0 [104, 97, 115, 112, 58, c0, 58, d0, d1]
theorem own_rkM12 (l : Launch) (Z : State) (a0 : Array Value) (hw : ∀ d ∈ tables_1, d.before a0 Z = true) (ws : List Jvm.Cond) (rn x xi ui : Addr) (ki : ClassId) (c0 d0 d1 w2 : Int32) (fm : Value) (h0 : Heap) (n0 : Nat) (Z0 : n0 ≤ h0.size) (E_rn : Exa Z h0 rn "com/example/libhasp/libhasp/RecordName") (F_rn_type : Fld Z h0 rn "com/example/libhasp/libhasp/RecordName" "type" "Ljava/lang/String;" (.ref x)) (F_rn_id : Fld Z h0 rn "com/example/libhasp/libhasp/RecordName" "id" "Ljava/lang/String;" (.ref xi)) (T_x : own_T Z h0 x [c0]) (S_xi : own_Sr Z h0 xi ui ki 0 2 [(.int (own_b d0)), (.int (own_b d1))]) (SS : own_ST Z h0 w2 fm) (hd0 : ¬ d0 < 0 ∧ ¬ (255 : Int32) < d0) (hd1 : ¬ d1 < 0 ∧ ¬ (255 : Int32) < d1) :
    MetFree l y_64 (head1 (Jvm.Cond.code y_64 prog_4_method_2_code 1 (some (.object "java/lang/String")) :: ws) ({ frames := 10, cells := 7, slots := 100, locals := 143 } : Room)) (fun a U => a = #[(.ref rn)] ∧ Z.Warmed39 U.vm ∧ U.heap = h0 ∧ CHv Z own_EL U.vm h0) (fun _ _ _ _ _ => True) (fun _ U o U' => ∃ v L, o = .returned v ∧ own_QrkM12 Z rn x xi ui ki c0 d0 d1 w2 fm h0 n0 v U'.heap L ∧ CHr Z own_EL U.vm U.heap U'.vm U'.heap ∧ ReturnedEndW U o U' L ({ frames := 10, cells := 7, slots := 100, locals := 143 } : Room).cells ({ frames := 10, cells := 7, slots := 100, locals := 143 } : Room).slots) := by
  rcases T_x with ⟨u, k, S, a⟩ | ⟨u, k, S⟩
  · refine own_monoW (own_rk012 l Z a0 hw ws _ _ _ _ _ _ _ _ _ _ _ _ h0 n0 Z0 E_rn F_rn_type F_rn_id S S_xi SS) fun v h L ⟨y0, uy, ky, r1, r2, r3, r4⟩ => ⟨y0, r1, r2, r3, r4.1, Or.inl ⟨uy, ky, ?_, own_al (by decide) (own_al (by decide) (own_al (by decide) (own_al (by decide) (own_al (by decide) (own_al (a _ (List.mem_of_getElem? (i := 0) rfl)) (own_al (by decide) (own_al hd0.2 (own_al hd1.2 (fun _ hc => nomatch hc)))))))))⟩⟩
    rw [show (([104, 97, 115, 112, 58, c0, 58, d0, d1] : List Int32).map fun c => Value.int (own_b c)) = [(.int 104), (.int 97), (.int 115), (.int 112), (.int 58), (.int (own_b c0)), (.int (nar .byte (58 : Int32))), (.int (own_b d0)), (.int (own_b d1))] from by simp only [List.map, (by decide : own_b 104 = 104), (by decide : own_b 97 = 97), (by decide : own_b 115 = 115), (by decide : own_b 112 = 112), (by decide : own_b 58 = 58), (by decide : nar .byte (58 : Int32) = 58)]]
    exact r4
  · refine own_monoW (own_rk112 l Z a0 hw ws _ _ _ _ _ _ _ _ _ _ _ _ _ h0 n0 Z0 E_rn F_rn_type F_rn_id S S_xi SS) fun v h L ⟨y0, uy, ky, r1, r2, r3, r4⟩ => ⟨y0, r1, r2, r3, r4.1, Or.inr ⟨uy, ky, ?_⟩⟩
    simp only [oLoL, oHoH, own_bm hd0, own_bm hd1, (by decide : ((104 : Int32) &&& (255 : Int32)) = 104), (by decide : ((97 : Int32) &&& (255 : Int32)) = 97), (by decide : ((115 : Int32) &&& (255 : Int32)) = 115), (by decide : ((112 : Int32) &&& (255 : Int32)) = 112), (by decide : ((58 : Int32) &&& (255 : Int32)) = 58)] at r4
    exact r4
def own_QrkM21 (Z : State) (rn x xi ui : Addr) (ki : ClassId) (c0 c1 d0 w2 : Int32) (fm : Value) (h0 : Heap) (n0 : Nat) (v : Option Value) (h : Heap) (L : List Loc) : Prop := ∃ (y0 : Addr), v = some (.ref y0) ∧ Fr n0 L ∧ Ext h0 h ∧ Exa Z h y0 "java/lang/String" ∧ own_T Z h y0 [104, 97, 115, 112, 58, c0, c1, 58, d0]
theorem own_rkM21 (l : Launch) (Z : State) (a0 : Array Value) (hw : ∀ d ∈ tables_1, d.before a0 Z = true) (ws : List Jvm.Cond) (rn x xi ui : Addr) (ki : ClassId) (c0 c1 d0 w2 : Int32) (fm : Value) (h0 : Heap) (n0 : Nat) (Z0 : n0 ≤ h0.size) (E_rn : Exa Z h0 rn "com/example/libhasp/libhasp/RecordName") (F_rn_type : Fld Z h0 rn "com/example/libhasp/libhasp/RecordName" "type" "Ljava/lang/String;" (.ref x)) (F_rn_id : Fld Z h0 rn "com/example/libhasp/libhasp/RecordName" "id" "Ljava/lang/String;" (.ref xi)) (T_x : own_T Z h0 x [c0, c1]) (S_xi : own_Sr Z h0 xi ui ki 0 1 [(.int (own_b d0))]) (SS : own_ST Z h0 w2 fm) (hd0 : ¬ d0 < 0 ∧ ¬ (255 : Int32) < d0) :
    MetFree l y_64 (head1 (Jvm.Cond.code y_64 prog_4_method_2_code 1 (some (.object "java/lang/String")) :: ws) ({ frames := 10, cells := 7, slots := 100, locals := 143 } : Room)) (fun a U => a = #[(.ref rn)] ∧ Z.Warmed39 U.vm ∧ U.heap = h0 ∧ CHv Z own_EL U.vm h0) (fun _ _ _ _ _ => True) (fun _ U o U' => ∃ v L, o = .returned v ∧ own_QrkM21 Z rn x xi ui ki c0 c1 d0 w2 fm h0 n0 v U'.heap L ∧ CHr Z own_EL U.vm U.heap U'.vm U'.heap ∧ ReturnedEndW U o U' L ({ frames := 10, cells := 7, slots := 100, locals := 143 } : Room).cells ({ frames := 10, cells := 7, slots := 100, locals := 143 } : Room).slots) := by
  rcases T_x with ⟨u, k, S, a⟩ | ⟨u, k, S⟩
  · refine own_monoW (own_rk021 l Z a0 hw ws _ _ _ _ _ _ _ _ _ _ _ _ h0 n0 Z0 E_rn F_rn_type F_rn_id S S_xi SS) fun v h L ⟨y0, uy, ky, r1, r2, r3, r4⟩ => ⟨y0, r1, r2, r3, r4.1, Or.inl ⟨uy, ky, ?_, own_al (by decide) (own_al (by decide) (own_al (by decide) (own_al (by decide) (own_al (by decide) (own_al (a _ (List.mem_of_getElem? (i := 0) rfl)) (own_al (a _ (List.mem_of_getElem? (i := 1) rfl)) (own_al (by decide) (own_al hd0.2 (fun _ hc => nomatch hc)))))))))⟩⟩
    rw [show (([104, 97, 115, 112, 58, c0, c1, 58, d0] : List Int32).map fun c => Value.int (own_b c)) = [(.int 104), (.int 97), (.int 115), (.int 112), (.int 58), (.int (own_b c0)), (.int (own_b c1)), (.int (nar .byte (58 : Int32))), (.int (own_b d0))] from by simp only [List.map, (by decide : own_b 104 = 104), (by decide : own_b 97 = 97), (by decide : own_b 115 = 115), (by decide : own_b 112 = 112), (by decide : own_b 58 = 58), (by decide : nar .byte (58 : Int32) = 58)]]
    exact r4
  · refine own_monoW (own_rk121 l Z a0 hw ws _ _ _ _ _ _ _ _ _ _ _ _ _ _ h0 n0 Z0 E_rn F_rn_type F_rn_id S S_xi SS) fun v h L ⟨y0, uy, ky, r1, r2, r3, r4⟩ => ⟨y0, r1, r2, r3, r4.1, Or.inr ⟨uy, ky, ?_⟩⟩
    simp only [oLoL, oHoH, own_bm hd0, (by decide : ((104 : Int32) &&& (255 : Int32)) = 104), (by decide : ((97 : Int32) &&& (255 : Int32)) = 97), (by decide : ((115 : Int32) &&& (255 : Int32)) = 115), (by decide : ((112 : Int32) &&& (255 : Int32)) = 112), (by decide : ((58 : Int32) &&& (255 : Int32)) = 58)] at r4
    exact r4
def own_QrkM22 (Z : State) (rn x xi ui : Addr) (ki : ClassId) (c0 c1 d0 d1 w2 : Int32) (fm : Value) (h0 : Heap) (n0 : Nat) (v : Option Value) (h : Heap) (L : List Loc) : Prop := ∃ (y0 : Addr), v = some (.ref y0) ∧ Fr n0 L ∧ Ext h0 h ∧ Exa Z h y0 "java/lang/String" ∧ own_T Z h y0 [104, 97, 115, 112, 58, c0, c1, 58, d0, d1]
theorem own_rkM22 (l : Launch) (Z : State) (a0 : Array Value) (hw : ∀ d ∈ tables_1, d.before a0 Z = true) (ws : List Jvm.Cond) (rn x xi ui : Addr) (ki : ClassId) (c0 c1 d0 d1 w2 : Int32) (fm : Value) (h0 : Heap) (n0 : Nat) (Z0 : n0 ≤ h0.size) (E_rn : Exa Z h0 rn "com/example/libhasp/libhasp/RecordName") (F_rn_type : Fld Z h0 rn "com/example/libhasp/libhasp/RecordName" "type" "Ljava/lang/String;" (.ref x)) (F_rn_id : Fld Z h0 rn "com/example/libhasp/libhasp/RecordName" "id" "Ljava/lang/String;" (.ref xi)) (T_x : own_T Z h0 x [c0, c1]) (S_xi : own_Sr Z h0 xi ui ki 0 2 [(.int (own_b d0)), (.int (own_b d1))]) (SS : own_ST Z h0 w2 fm) (hd0 : ¬ d0 < 0 ∧ ¬ (255 : Int32) < d0) (hd1 : ¬ d1 < 0 ∧ ¬ (255 : Int32) < d1) :
    MetFree l y_64 (head1 (Jvm.Cond.code y_64 prog_4_method_2_code 1 (some (.object "java/lang/String")) :: ws) ({ frames := 10, cells := 7, slots := 100, locals := 143 } : Room)) (fun a U => a = #[(.ref rn)] ∧ Z.Warmed39 U.vm ∧ U.heap = h0 ∧ CHv Z own_EL U.vm h0) (fun _ _ _ _ _ => True) (fun _ U o U' => ∃ v L, o = .returned v ∧ own_QrkM22 Z rn x xi ui ki c0 c1 d0 d1 w2 fm h0 n0 v U'.heap L ∧ CHr Z own_EL U.vm U.heap U'.vm U'.heap ∧ ReturnedEndW U o U' L ({ frames := 10, cells := 7, slots := 100, locals := 143 } : Room).cells ({ frames := 10, cells := 7, slots := 100, locals := 143 } : Room).slots) := by
  rcases T_x with ⟨u, k, S, a⟩ | ⟨u, k, S⟩
  · refine own_monoW (own_rk022 l Z a0 hw ws _ _ _ _ _ _ _ _ _ _ _ _ _ h0 n0 Z0 E_rn F_rn_type F_rn_id S S_xi SS) fun v h L ⟨y0, uy, ky, r1, r2, r3, r4⟩ => ⟨y0, r1, r2, r3, r4.1, Or.inl ⟨uy, ky, ?_, own_al (by decide) (own_al (by decide) (own_al (by decide) (own_al (by decide) (own_al (by decide) (own_al (a _ (List.mem_of_getElem? (i := 0) rfl)) (own_al (a _ (List.mem_of_getElem? (i := 1) rfl)) (own_al (by decide) (own_al hd0.2 (own_al hd1.2 (fun _ hc => nomatch hc))))))))))⟩⟩
    rw [show (([104, 97, 115, 112, 58, c0, c1, 58, d0, d1] : List Int32).map fun c => Value.int (own_b c)) = [(.int 104), (.int 97), (.int 115), (.int 112), (.int 58), (.int (own_b c0)), (.int (own_b c1)), (.int (nar .byte (58 : Int32))), (.int (own_b d0)), (.int (own_b d1))] from by simp only [List.map, (by decide : own_b 104 = 104), (by decide : own_b 97 = 97), (by decide : own_b 115 = 115), (by decide : own_b 112 = 112), (by decide : own_b 58 = 58), (by decide : nar .byte (58 : Int32) = 58)]]
    exact r4
  · refine own_monoW (own_rk122 l Z a0 hw ws _ _ _ _ _ _ _ _ _ _ _ _ _ _ _ h0 n0 Z0 E_rn F_rn_type F_rn_id S S_xi SS) fun v h L ⟨y0, uy, ky, r1, r2, r3, r4⟩ => ⟨y0, r1, r2, r3, r4.1, Or.inr ⟨uy, ky, ?_⟩⟩
    simp only [oLoL, oHoH, own_bm hd0, own_bm hd1, (by decide : ((104 : Int32) &&& (255 : Int32)) = 104), (by decide : ((97 : Int32) &&& (255 : Int32)) = 97), (by decide : ((115 : Int32) &&& (255 : Int32)) = 115), (by decide : ((112 : Int32) &&& (255 : Int32)) = 112), (by decide : ((58 : Int32) &&& (255 : Int32)) = 58)] at r4
    exact r4
abbrev own_ok (i : Int32) (p n : Nat) : Prop := i.toNatClampNeg = p ∧ ¬ i < 0 ∧ i < Int32.ofNat n ∧ (Int32.ofNat (2 * n) >>> ((1 : Int32) &&& 31)) = Int32.ofNat n ∧ (¬ (i <<< ((1 : Int32) &&& 31)) < 0 ∧ (i <<< ((1 : Int32) &&& 31)) < Int32.ofNat (2 * n)) ∧ (¬ ((i <<< ((1 : Int32) &&& 31)) + (1 : Int32)) < 0 ∧ ((i <<< ((1 : Int32) &&& 31)) + (1 : Int32)) < Int32.ofNat (2 * n)) ∧ (i <<< ((1 : Int32) &&& 31)).toNatClampNeg = 2 * p ∧ ((i <<< ((1 : Int32) &&& 31)) + (1 : Int32)).toNatClampNeg = 2 * p + 1
abbrev own_ol (n : Nat) (r : Int32) : Prop := (Int32.ofNat n >>> ((0 : Int32) &&& 31)) = r ∧ (Int32.ofNat (2 * n) >>> ((1 : Int32) &&& 31)) = r
abbrev own_cc (r : Int32) : Prop := (¬ r < 0 ∧ ¬ (255 : Int32) < r) ∨ r = 314
theorem own_tcc {r : Int32} (h : own_tc r) : own_cc r := h.imp (fun a => ⟨a.1, a.2.1⟩) id
theorem own_ccN {r : Int32} (h : own_cc r) : nar .char r = r := by
  rcases h with a | rfl
  · exact own_nar a
  · decide +kernel
theorem own_ccP {r : Int32} (h : own_cc r) : nar .char (((((own_lo r) &&& (255 : Int32)) <<< ((0 : Int32) &&& 31)) ||| (((own_hi r) &&& (255 : Int32)) <<< ((8 : Int32) &&& 31))).toUInt32.toUInt16.toUInt32.toInt32) = r := by
  rcases h with a | rfl
  · exact own_prL a
  · decide +kernel
theorem own_ccL {r : Int32} (h : own_cc r) (g : ¬ (255 : Int32) < r) : ¬ r < 0 ∧ ¬ (255 : Int32) < r := by
  rcases h with a | rfl
  · exact a
  · exact absurd (by decide) g
theorem own_fm (f g : Int32 → Value) {cs : List Int32} {p : Nat} {r : Int32} (h : cs[p]? = some r) : (cs.flatMap fun c => [f c, g c])[2 * p]? = some (f r) ∧ (cs.flatMap fun c => [f c, g c])[2 * p + 1]? = some (g r) := by
  induction cs generalizing p with
  | nil => simp at h
  | cons c cs ih =>
    cases p with
    | zero => cases h; exact ⟨rfl, rfl⟩
    | succ p => exact ih (p := p) h
def own_QlenM (Z : State) (x : Addr) (cs : List Int32) (nc : Nat) (r w2 : Int32) (fm : Value) (h0 : Heap) (n0 : Nat) (v : Option Value) (h : Heap) (L : List Loc) : Prop := v = some (.int r) ∧ Fr n0 L ∧ h = h0
theorem own_lenM (hw : own_HW a0 Z) {x : Addr} {cs : List Int32} {w2 : Int32} {fm : Value} (nc : Nat) (r : Int32) (Z0 : n0 ≤ h0.size) (T_x : own_T Z h0 x cs) (SS : own_ST Z h0 w2 fm) (hn : cs.length = nc) (ok : own_ol nc r) : own_M l Z h0 y_2 jdk_42_method_54_code 1 (some .int) (rm 1 0 0 13) #[(.ref x)] (own_QlenM Z x cs nc r w2 fm h0 n0) := by
  rcases T_x with ⟨u, k, S, a⟩ | ⟨u, k, S⟩
  · exact own_len0 hw r Z0 S SS (by rw [hn]; exact ok.1)
  · exact own_len1 hw r Z0 S SS (by rw [hn]; exact ok.2)
def own_QchM (Z : State) (x : Addr) (i : Int32) (cs : List Int32) (ip nc : Nat) (r w2 : Int32) (fm : Value) (h0 : Heap) (n0 : Nat) (v : Option Value) (h : Heap) (L : List Loc) : Prop := v = some (.int r) ∧ Fr n0 L ∧ h = h0
theorem own_chM (hw : own_HW a0 Z) {x : Addr} {cs : List Int32} {w2 : Int32} {fm : Value} (i : Int32) (ip nc : Nat) (r : Int32) (Z0 : n0 ≤ h0.size) (T_x : own_T Z h0 x cs) (SS : own_ST Z h0 w2 fm) (hp : cs[ip]? = some r) (hn : cs.length = nc) (ok : own_ok i ip nc) (hq : own_cc r) : own_M l Z h0 y_29 jdk_42_method_56_code 2 (some .char) (rm 4 0 0 53) #[(.ref x), (.int i)] (own_QchM Z x i cs ip nc r w2 fm h0 n0) := by
  rcases T_x with ⟨u, k, S, a⟩ | ⟨u, k, S⟩
  · have q := own_ccL hq (a r (List.mem_of_getElem? hp))
    exact own_chL hw i (own_b r) r Z0 S SS ok.2.1 (by rw [hn]; exact ok.2.2.1) (by rw [ok.1, List.getD_eq_getElem?_getD, List.getElem?_map, hp]; rfl) (own_l8 q) (own_nar q)
  · have q := own_fm (fun c => .int (own_lo c)) (fun c => .int (own_hi c)) hp
    exact own_chU hw i (i <<< ((1 : Int32) &&& 31)) ((i <<< ((1 : Int32) &&& 31)) + (1 : Int32)) (own_lo r) (own_hi r) r (Int32.ofNat nc) Z0 S SS (by rw [hn]; exact ok.2.2.2.1) ok.2.1 ok.2.2.1 rfl rfl (by rw [hn]; exact ok.2.2.2.2.1) (by rw [hn]; exact ok.2.2.2.2.2.1) (by rw [ok.2.2.2.2.2.2.1, List.getD_eq_getElem?_getD, q.1]; rfl) (by rw [ok.2.2.2.2.2.2.2, List.getD_eq_getElem?_getD, q.2]; rfl) (own_ccP hq) (own_ccN hq)
theorem own_pn9 : plainName "com/example/libhasp/libhasp/RecordNameRedisKeyPinLaw" = true := by first | (simp [plainName, overriddenIn]; done) | decide +kernel
def own_Qtch (Z : State) (pv : Int32) (h0 : Heap) (n0 : Nat) (v : Option Value) (h : Heap) (L : List Loc) : Prop := ∃ (r : Int32), v = some (.int r) ∧ Fr n0 L ∧ h = h0 ∧ own_tc r
theorem own_tch (hw : own_HW a0 Z) (pv : Int32) (Z0 : n0 ≤ h0.size)  : own_M l Z h0 y_65 method_2_code 2 (some .char) (rm 0 0 0 0) #[(.int pv)] (own_Qtch Z pv h0 n0) := by
  refine own_go #[vI pv, vU] (plainFor_of_name own_pn9) (fun m => rfl) fun p e s m below meth c s₁ hx hby hz hZ hown hnm hrt X0 e0 => ?_
  have go10 : ∀ tq, Steps p.tables e below (s₁.setTop (mkF m 10 #[vI pv, vI ((pv &&& (255 : Int32)).toUInt32.toUInt16.toUInt32.toInt32)] [(.int 58), (.int ((pv &&& (255 : Int32)).toUInt32.toUInt16.toUInt32.toInt32))])) tq → Steps p.tables e below (s₁.setTop (mkF m 0 #[vI pv, vU] [])) tq := fun tq kt => (by
      refine sI X0.here hx (own_method_2 hby 0 rfl) ?_
      refine XS.sipush X0.here hx rfl (own_method_2 hby 1 rfl) ?_
      refine XS.iand X0.here hx rfl (own_method_2 hby 2 rfl) rfl ?_
      refine XS.i2c X0.here hx rfl (own_method_2 hby 3 rfl) rfl ?_
      refine XS.istoreN X0.here hx rfl (own_method_2 hby 4 rfl) rfl (l' := #[vI pv, vI ((pv &&& (255 : Int32)).toUInt32.toUInt16.toUInt32.toInt32)]) rfl ?_
      refine sI X0.here hx (own_method_2 hby 5 rfl) ?_
      refine XS.bipush X0.here hx rfl (own_method_2 hby 6 rfl) ?_
      exact kt)
  by_cases hq : ((pv &&& (255 : Int32)).toUInt32.toUInt16.toUInt32.toInt32) = (58 : Int32)
  · refine ⟨_, _, _, _, some (.int 314), X0, (fun h => nomatch h), by decide, by decide, ?_, fun fs hr => go10 _ ?_⟩
    · show own_Qtch Z pv h0 n0 _ s₁.heap _
      rw [e0]
      exact ⟨(314 : Int32), rfl, (Fr.nil n0), rfl, (Or.inr rfl)⟩
    · refine XS.icmpNo X0.here hx rfl (own_method_2 hby 7 rfl) rfl (teq hq).2 ?_
      refine XS.sipush X0.here hx rfl (own_method_2 hby 8 rfl) ?_
      exact retN X0 hx (t := .char) hrt (by simp) (own_method_2 hby 9 rfl) hr
  · refine ⟨_, _, _, _, some (.int (nar .char ((pv &&& (255 : Int32)).toUInt32.toUInt16.toUInt32.toInt32))), X0, (fun h => nomatch h), by decide, by decide, ?_, fun fs hr => go10 _ ?_⟩
    · show own_Qtch Z pv h0 n0 _ s₁.heap _
      rw [e0]
      exact ⟨((pv &&& (255 : Int32)).toUInt32.toUInt16.toUInt32.toInt32), (congrArg (fun z => some (Value.int z)) (own_nar (own_d255 _))), (Fr.nil n0), rfl, (Or.inl ⟨(own_d255 _).1, (own_d255 _).2, hq⟩)⟩
    · refine XS.icmpYes X0.here hx rfl (pc0 := 10) (pc' := 17) rfl (own_method_2 hby 7 rfl) rfl (feq hq).2 (by decide) (by decide) ?_
      refine sI X0.here hx (own_method_2 hby 10 rfl) ?_
      exact retN X0 hx (t := .char) hrt (by simp) (own_method_2 hby 11 rfl) hr
def own_Ql (n0 : Nat) (v : Option Value) (h : Heap) (L : List Loc) : Prop := v = some (.int 1) ∧ Fr n0 L
theorem own_l_ef (m : MethodId) (x0 : Int32) (x1 : Int32) (x2 : Int32) : entryFrame m #[(.int x0), (.int x1), (.int x2)] maxLocals = mkF m 0 #[vI x0, vI x1, vI x2, vU, vU, vU, vU, vU, vU, vU, vU, vU, vU, vU, vU, vU] [] := by first | (simp [entryFrame, mkF, argsToLocals, Value.category, maxLocals]; done) | rfl
theorem own_l (l : Launch) (Z : State) (a0 : Array Value) (hw : ∀ d ∈ tables_1, d.before a0 Z = true) (ws : List Jvm.Cond) (p1 p2 p3 w2 : Int32) (fm : Value) (h0 : Heap) (n0 : Nat) (Z0 : n0 ≤ h0.size) (SS : own_ST Z h0 w2 fm) :
    MetFree l x (head1 (Jvm.Cond.code x code maxLocals ret :: ws) room_1) (fun a U => a = #[(.int p1), (.int p2), (.int p3)] ∧ Z.Warmed39 U.vm ∧ U.heap = h0 ∧ CHv Z own_EL U.vm h0) (fun _ _ _ _ _ => True) (fun _ U o U' => ∃ v L, o = .returned v ∧ own_Ql n0 v U'.heap L ∧ CHr Z own_EL U.vm U.heap U'.vm U'.heap ∧ ReturnedEndW U o U' L room_1.cells room_1.slots) := by
  refine MetFree.of_bodySF (plainFor_of_name own_pn9) hisR ?_
  intro p e s m args below meth c s₁ Bd hml0 hP hK
  obtain ⟨rfl, hZ, hh, hCH⟩ := hP
  have hx := Bd.exec
  have hby := Bd.bytes
  have hml : c.maxLocals = 16 := hml0
  have hz := hml.symm
  have hown : s.vm.findClass "com/example/libhasp/libhasp/RecordNameRedisKeyPinLaw" = some m.cls := findClass_of_methodNamed Bd.named
  have hnm := (name_of_methodNamed Bd.named Bd.method).1
  have X0 : Stand p l e room_1 (s.setVm s.vm) m #[(.int p1), (.int p2), (.int p3)] below meth c s₁ [] 0 0 := Stand.of_body Bd
  have e0 : s₁.heap = h0 := by rw [← hh, Bd.state]; rfl
  have N0 := Fr.nil n0
  have hS0 : s.Since s.vm 0 := (State.WarmedH.refl s).since 0
  have CR0 : CHr Z own_EL s.vm h0 s.vm h0 := CHr.refl hCH
  have pre0 : ∀ tq, Steps p.tables e below (s₁.setTop (mkF m 0 #[vI p1, vI p2, vI p3, vU, vU, vU, vU, vU, vU, vU, vU, vU, vU, vU, vU, vU] [])) tq → Steps p.tables e below (s₁.setTop (entryFrame m #[(.int p1), (.int p2), (.int p3)] maxLocals)) tq := fun tq k => castTop (own_l_ef m p1 p2 p3) k
  have P5 := SS.2.1
  have rf := SS.2.2.2.1
  have go10 : ∀ tq, Steps p.tables e below (s₁.setTop (mkF m 3 #[vI p1, vI p2, vI p3, vU, vU, vU, vU, vU, vU, vU, vU, vU, vU, vU, vU, vU] [(.int (p3 &&& (1 : Int32)))])) tq → Steps p.tables e below (s₁.setTop (mkF m 0 #[vI p1, vI p2, vI p3, vU, vU, vU, vU, vU, vU, vU, vU, vU, vU, vU, vU, vU] [])) tq := fun tq kt => (by
      refine sI X0.here hx (hb hby at_0) ?_
      refine sC X0.here hx (hb hby at_1) ?_
      refine XS.iand X0.here hx rfl (hb hby at_2) rfl ?_
      exact kt)
  by_cases hf1 : (p3 &&& (1 : Int32)) = (0 : Int32)
  · have go11 : ∀ tq, Steps p.tables e below (s₁.setTop (mkF m 15 #[vI p1, vI p2, vI p3, vI 0, vU, vU, vU, vU, vU, vU, vU, vU, vU, vU, vU, vU] [(.int (p3 &&& (2 : Int32)))])) tq → Steps p.tables e below (s₁.setTop (mkF m 0 #[vI p1, vI p2, vI p3, vU, vU, vU, vU, vU, vU, vU, vU, vU, vU, vU, vU, vU] [])) tq := fun tq kt => go10 tq (by
        refine XS.ifYes X0.here hx rfl (pc0 := 3) (pc' := 10) rfl (hb hby at_3) rfl ((if0 _ _).trans (teq hf1).1) (by decide) (by decide) ?_
        refine sC X0.here hx (hb hby at_10) ?_
        refine XS.istoreN X0.here hx rfl (hb hby at_11) rfl (l' := #[vI p1, vI p2, vI p3, vI 0, vU, vU, vU, vU, vU, vU, vU, vU, vU, vU, vU, vU]) rfl ?_
        refine sI X0.here hx (hb hby at_12) ?_
        refine sC X0.here hx (hb hby at_13) ?_
        refine XS.iand X0.here hx rfl (hb hby at_14) rfl ?_
        exact kt)
    by_cases hf2 : (p3 &&& (2 : Int32)) = (0 : Int32)
    · obtain ⟨_, T13, L13, X13, ⟨r_13, rfl, Nq13, e13, Po13_0⟩, st13⟩ := own_cs 0 X0 hx hZ hown (ow hw 0 rfl) (ow hw 1 rfl) (ow hw 2 rfl) (ow hw 3 rfl) (own_tch hw p1 Z0 ) e0 (g := (mkF m 26 #[vI p1, vI p2, vI p3, vI 0, vI 0, vU, vU, vU, vU, vU, vU, vU, vU, vU, vU, vU] [(.int p1)])) (rest := []) (lenOf own_pd39 rfl) (hb hby at_26) hz
      have Na14 := Fr.app (Fr.nil n0) Nq13
      obtain ⟨_, T15, L15, X15, ⟨r_15, rfl, Nq15, e15, Po15_0⟩, st15⟩ := own_cs 0 X13 hx hZ hown (ow hw 0 rfl) (ow hw 1 rfl) (ow hw 2 rfl) (ow hw 3 rfl) (own_tch hw ((p1.toUInt32 >>> ((8 : Int32) &&& 31).toUInt32).toInt32) Z0 ) e13 (g := (mkF m 35 #[vI p1, vI p2, vI p3, vI 0, vI 0, vI r_13, vU, vU, vU, vU, vU, vU, vU, vU, vU, vU] [(.int ((p1.toUInt32 >>> ((8 : Int32) &&& 31).toUInt32).toInt32))])) (rest := []) (lenOf own_pd39 rfl) (hb hby at_35) hz
      have Na16 := Fr.app Na14 Nq15
      have go17 : ∀ tq, Steps p.tables e below (T15.setTop (mkF m 38 #[vI p1, vI p2, vI p3, vI 0, vI 0, vI r_13, vU, vU, vU, vU, vU, vU, vU, vU, vU, vU] [(.int r_15)])) tq → Steps p.tables e below (s₁.setTop (mkF m 0 #[vI p1, vI p2, vI p3, vU, vU, vU, vU, vU, vU, vU, vU, vU, vU, vU, vU, vU] [])) tq := fun tq kt => go11 tq (by
          refine XS.ifYes X0.here hx rfl (pc0 := 15) (pc' := 22) rfl (hb hby at_15) rfl ((if0 _ _).trans (teq hf2).1) (by decide) (by decide) ?_
          refine sC X0.here hx (hb hby at_22) ?_
          refine XS.istore X0.here hx rfl (hb hby at_23) rfl (l' := #[vI p1, vI p2, vI p3, vI 0, vI 0, vU, vU, vU, vU, vU, vU, vU, vU, vU, vU, vU]) rfl ?_
          refine sI X0.here hx (hb hby at_25) ?_
          refine st13 _ ?_
          refine XS.istore X13.here hx rfl (hb hby at_29) rfl (l' := #[vI p1, vI p2, vI p3, vI 0, vI 0, vI r_13, vU, vU, vU, vU, vU, vU, vU, vU, vU, vU]) rfl ?_
          refine sI X13.here hx (hb hby at_31) ?_
          refine XS.bipush X13.here hx rfl (hb hby at_32) ?_
          refine XS.iushr X13.here hx rfl (hb hby at_34) rfl ?_
          refine st15 _ ?_
          exact kt)
      obtain ⟨d0, d1, hgo19, go19⟩ : ∃ (d0 : Int32) (d1 : Int32), ((¬ d0 < 0 ∧ ¬ (255 : Int32) < d0) ∧ (¬ d1 < 0 ∧ ¬ (255 : Int32) < d1)) ∧ ∀ tq, Steps p.tables e below (T15.setTop (mkF m 59 #[vI p1, vI p2, vI p3, vI 0, vI 0, vI r_13, vI r_15, vI d0, vI d1, vU, vU, vU, vU, vU, vU, vU] [])) tq → Steps p.tables e below (s₁.setTop (mkF m 0 #[vI p1, vI p2, vI p3, vU, vU, vU, vU, vU, vU, vU, vU, vU, vU, vU, vU, vU] [])) tq := by
        have go18 : ∀ tq, Steps p.tables e below (T15.setTop (mkF m 59 #[vI p1, vI p2, vI p3, vI 0, vI 0, vI r_13, vI r_15, vI ((p2 &&& (255 : Int32)).toUInt32.toUInt16.toUInt32.toInt32), vI ((((p2.toUInt32 >>> ((8 : Int32) &&& 31).toUInt32).toInt32) &&& (255 : Int32)).toUInt32.toUInt16.toUInt32.toInt32), vU, vU, vU, vU, vU, vU, vU] [])) tq → Steps p.tables e below (s₁.setTop (mkF m 0 #[vI p1, vI p2, vI p3, vU, vU, vU, vU, vU, vU, vU, vU, vU, vU, vU, vU, vU] [])) tq := fun tq kt => go17 tq (by
            refine XS.istore X15.here hx rfl (hb hby at_38) rfl (l' := #[vI p1, vI p2, vI p3, vI 0, vI 0, vI r_13, vI r_15, vU, vU, vU, vU, vU, vU, vU, vU, vU]) rfl ?_
            refine sI X15.here hx (hb hby at_40) ?_
            refine XS.sipush X15.here hx rfl (hb hby at_41) ?_
            refine XS.iand X15.here hx rfl (hb hby at_44) rfl ?_
            refine XS.i2c X15.here hx rfl (hb hby at_45) rfl ?_
            refine XS.istore X15.here hx rfl (hb hby at_46) rfl (l' := #[vI p1, vI p2, vI p3, vI 0, vI 0, vI r_13, vI r_15, vI ((p2 &&& (255 : Int32)).toUInt32.toUInt16.toUInt32.toInt32), vU, vU, vU, vU, vU, vU, vU, vU]) rfl ?_
            refine sI X15.here hx (hb hby at_48) ?_
            refine XS.bipush X15.here hx rfl (hb hby at_49) ?_
            refine XS.iushr X15.here hx rfl (hb hby at_51) rfl ?_
            refine XS.sipush X15.here hx rfl (hb hby at_52) ?_
            refine XS.iand X15.here hx rfl (hb hby at_55) rfl ?_
            refine XS.i2c X15.here hx rfl (hb hby at_56) rfl ?_
            refine XS.istore X15.here hx rfl (hb hby at_57) rfl (l' := #[vI p1, vI p2, vI p3, vI 0, vI 0, vI r_13, vI r_15, vI ((p2 &&& (255 : Int32)).toUInt32.toUInt16.toUInt32.toInt32), vI ((((p2.toUInt32 >>> ((8 : Int32) &&& 31).toUInt32).toInt32) &&& (255 : Int32)).toUInt32.toUInt16.toUInt32.toInt32), vU, vU, vU, vU, vU, vU, vU]) rfl ?_
            exact kt)
        exact ⟨((p2 &&& (255 : Int32)).toUInt32.toUInt16.toUInt32.toInt32), ((((p2.toUInt32 >>> ((8 : Int32) &&& 31).toUInt32).toInt32) &&& (255 : Int32)).toUInt32.toUInt16.toUInt32.toInt32), ⟨own_d255 _, own_d255 _⟩, go18⟩
      obtain ⟨T20, h20, X20, e20, E20, A20, D20, -, st20⟩ := newO X15 hx hZ hown (ow hw 4 rfl) (ow hw 5 rfl) (ow hw 6 rfl) e15 (g := (mkF m 88 #[vI p1, vI p2, vI p3, vI 0, vI 0, vI r_13, vI r_15, vI d0, vI d1, vU, vU, vU, vU, vU, vU, vU] [])) rfl (hb hby at_88) (by decide) (by decide)
      obtain ⟨b20, g20⟩ : ∃ z, z = h0.size := ⟨_, rfl⟩
      rw [← g20] at A20 D20 st20
      have Fcoder_20 : Fld Z h20 b20 "java/lang/String" "coder" "B" (.int 0) := D20 (Or.inr (ow hw 31 rfl)) (ty := .byte) (by decide)
      have Fvalue_20 : Fld Z h20 b20 "java/lang/String" "value" "[B" .null := D20 (Or.inr (ow hw 33 rfl)) (ty := (.array .byte)) (by decide)
      obtain ⟨T21, h21, k21, X21, e21, E21, A21, st21⟩ := newP X20 hx hZ (ow hw 7 rfl) e20 (g := (mkF m 93 #[vI p1, vI p2, vI p3, vI 0, vI 0, vI r_13, vI r_15, vI d0, vI d1, vU, vU, vU, vU, vU, vU, vU] [(.int 1), (.ref b20), (.ref b20)])) rfl (hb hby at_93) rfl (by decide) (cap := 1) (by decide) (by decide) (by decide) (by decide)
      obtain ⟨b21, g21⟩ : ∃ z, z = h20.size := ⟨_, rfl⟩
      rw [← g21] at A21 st21
      have V21 : Arv Z h21 b21 k21 .char (1 : Int32) [(.int 0)] (.int 0) := (Arv.new A21 (by decide)).pad (pad_rep [] (.int 0) 1)
      obtain ⟨cl22, Ar22, q22, S22, M22, H22, G22⟩ := id V21
      obtain ⟨T23, h23, X23, e23, W23, st23⟩ := stC X21 hx hZ e21 Ar22 (j := (0 : Int32)) (inb_of S22 ⟨by decide, by decide⟩) (g := (mkF m 99 #[vI p1, vI p2, vI p3, vI 0, vI 0, vI r_13, vI r_15, vI d0, vI d1, vU, vU, vU, vU, vU, vU, vU] [(.int r_13), (.int 0), (.ref b21), (.ref b21), (.ref b20), (.ref b20)])) rfl rfl (hb hby at_99)
      have V23 : Arv Z h23 b21 k21 .char (1 : Int32) [(.int r_13)] (.int 0) := by have q := Arv.set Ar22 q22 S22 M22 H22 G22 (fits_nar_char _) W23 0 rfl (Nat.le_of_ble_eq_true rfl); rw [own_tcN Po13_0] at q; exact q
      have N23 := Fr.snoc X23 Na16 (Nat.le_trans (Nat.le_trans Z0 E20.1) (Nat.le_of_eq g21.symm))
      have Xt24 : Ext h20 h23 := (own_xw E21 W23 (Nat.le_trans (own_xr h20).1 (Nat.le_of_eq g21.symm)))
      have Xt25 : Ext h0 h21 := (own_xt E20 E21)
      have Xt26 : Ext h0 h23 := (own_xw Xt25 W23 (Nat.le_trans E20.1 (Nat.le_of_eq g21.symm)))
      have Gr28 : h0.size ≤ h21.size := Nat.le_trans E20.1 E21.1
      have Gr27 : h0.size ≤ h23.size := Nat.le_trans Gr28 (Keep.of_wr W23).1
      obtain ⟨_, T29, L29, X29, ⟨rfl, Nq29, K29, Po29_0⟩, st29⟩ := own_cp 1 X23 hx hZ hown (ow hw 8 rfl) (ow hw 9 rfl) (ow hw 6 rfl) (ow hw 10 rfl) (own_nS1 hw  (Nat.le_trans Z0 Gr27) (A20.ext Xt24) (Fvalue_20.ext Xt24) (Fcoder_20.ext Xt24) (Nat.le_trans Z0 (Nat.le_of_eq g20.symm)) V23 (SS.ext Xt26) Po13_0) e23 (g := (mkF m 100 #[vI p1, vI p2, vI p3, vI 0, vI 0, vI r_13, vI r_15, vI d0, vI d1, vU, vU, vU, vU, vU, vU, vU] [(.ref b21), (.ref b20), (.ref b20)])) (rest := [(.ref b20)]) (lenOf own_pd40 rfl) (hb hby at_100) hz
      have Na30 := Fr.app N23 Nq29
      obtain ⟨T31, h31, X31, e31, E31, A31, D31, -, st31⟩ := newO X29 hx hZ hown (ow hw 4 rfl) (ow hw 5 rfl) (ow hw 6 rfl) rfl (g := (mkF m 135 #[vI p1, vI p2, vI p3, vI 0, vI 0, vI r_13, vI r_15, vI d0, vI d1, vR b20, vU, vU, vU, vU, vU, vU] [])) rfl (hb hby at_135) (by decide) (by decide)
      obtain ⟨b31, g31⟩ : ∃ z, z = T29.heap.size := ⟨_, rfl⟩
      rw [← g31] at A31 D31 st31
      have Fcoder_31 : Fld Z h31 b31 "java/lang/String" "coder" "B" (.int 0) := D31 (Or.inr (ow hw 31 rfl)) (ty := .byte) (by decide)
      have Fvalue_31 : Fld Z h31 b31 "java/lang/String" "value" "[B" .null := D31 (Or.inr (ow hw 33 rfl)) (ty := (.array .byte)) (by decide)
      obtain ⟨T32, h32, k32, X32, e32, E32, A32, st32⟩ := newP X31 hx hZ (ow hw 7 rfl) e31 (g := (mkF m 140 #[vI p1, vI p2, vI p3, vI 0, vI 0, vI r_13, vI r_15, vI d0, vI d1, vR b20, vU, vU, vU, vU, vU, vU] [(.int 1), (.ref b31), (.ref b31)])) rfl (hb hby at_140) rfl (by decide) (cap := 1) (by decide) (by decide) (by decide) (by decide)
      obtain ⟨b32, g32⟩ : ∃ z, z = h31.size := ⟨_, rfl⟩
      rw [← g32] at A32 st32
      have V32 : Arv Z h32 b32 k32 .char (1 : Int32) [(.int 0)] (.int 0) := (Arv.new A32 (by decide)).pad (pad_rep [] (.int 0) 1)
      obtain ⟨cl33, Ar33, q33, S33, M33, H33, G33⟩ := id V32
      obtain ⟨T34, h34, X34, e34, W34, st34⟩ := stC X32 hx hZ e32 Ar33 (j := (0 : Int32)) (inb_of S33 ⟨by decide, by decide⟩) (g := (mkF m 146 #[vI p1, vI p2, vI p3, vI 0, vI 0, vI r_13, vI r_15, vI d0, vI d1, vR b20, vU, vU, vU, vU, vU, vU] [(.int d0), (.int 0), (.ref b32), (.ref b32), (.ref b31), (.ref b31)])) rfl rfl (hb hby at_146)
      have V34 : Arv Z h34 b32 k32 .char (1 : Int32) [(.int d0)] (.int 0) := by have q := Arv.set Ar33 q33 S33 M33 H33 G33 (fits_nar_char _) W34 0 rfl (Nat.le_of_ble_eq_true rfl); rw [own_nar hgo19.1] at q; exact q
      have Gr36 : h0.size ≤ T29.heap.size := Nat.le_trans Gr27 K29.1
      have Gr35 : h0.size ≤ h31.size := Nat.le_trans Gr36 E31.1
      have N34 := Fr.snoc X34 Na30 (Nat.le_trans (Nat.le_trans Z0 Gr35) (Nat.le_of_eq g32.symm))
      have Xt37 : Ext h31 h34 := (own_xw E32 W34 (Nat.le_trans (own_xr h31).1 (Nat.le_of_eq g32.symm)))
      have Xt38 : Ext h0 T29.heap := (own_xk Xt26 K29 ((allS (Nat.le_trans (own_xr h0).1 (Nat.le_of_eq g20.symm)) all0)))
      have Xt39 : Ext h0 h31 := (own_xt Xt38 E31)
      have Xt40 : Ext h0 h32 := (own_xt Xt39 E32)
      have Xt41 : Ext h0 h34 := (own_xw Xt40 W34 (Nat.le_trans Xt39.1 (Nat.le_of_eq g32.symm)))
      have Gr43 : h0.size ≤ h32.size := Nat.le_trans Gr35 E32.1
      have Gr42 : h0.size ≤ h34.size := Nat.le_trans Gr43 (Keep.of_wr W34).1
      obtain ⟨_, T44, L44, X44, ⟨t_44, kt_44, rfl, Nq44, K44, Po44_0, Po44_1⟩, st44⟩ := own_cp 1 X34 hx hZ hown (ow hw 8 rfl) (ow hw 9 rfl) (ow hw 6 rfl) (ow hw 10 rfl) (own_nL1 hw  (Nat.le_trans Z0 Gr42) (A31.ext Xt37) (Fvalue_31.ext Xt37) (Fcoder_31.ext Xt37) (Nat.le_trans (Nat.le_trans Z0 Gr36) (Nat.le_of_eq g31.symm)) V34 (SS.ext Xt41) hgo19.1.2) e34 (g := (mkF m 147 #[vI p1, vI p2, vI p3, vI 0, vI 0, vI r_13, vI r_15, vI d0, vI d1, vR b20, vU, vU, vU, vU, vU, vU] [(.ref b32), (.ref b31), (.ref b31)])) (rest := [(.ref b31)]) (lenOf own_pd40 rfl) (hb hby at_147) hz
      have Na45 := Fr.app N34 Nq44
      obtain ⟨T46, h46, X46, e46, E46, A46, D46, -, st46⟩ := newO X44 hx hZ hown (ow hw 34 rfl) (ow hw 35 rfl) (ow hw 36 rfl) rfl (g := (mkF m 175 #[vI p1, vI p2, vI p3, vI 0, vI 0, vI r_13, vI r_15, vI d0, vI d1, vR b20, vR b31, vI 1, vI 1, vU, vU, vU] [])) rfl (hb hby at_175) (by decide) (by decide)
      obtain ⟨b46, g46⟩ : ∃ z, z = T44.heap.size := ⟨_, rfl⟩
      rw [← g46] at A46 D46 st46
      have Ftype_46 : Fld Z h46 b46 "com/example/libhasp/libhasp/RecordName" "type" "Ljava/lang/String;" .null := D46 (Or.inr (ow hw 97 rfl)) (ty := (.object "java/lang/String")) (by decide)
      have Fid_46 : Fld Z h46 b46 "com/example/libhasp/libhasp/RecordName" "id" "Ljava/lang/String;" .null := D46 (Or.inr (ow hw 99 rfl)) (ty := (.object "java/lang/String")) (by decide)
      have Gr47 : h0.size ≤ T44.heap.size := Nat.le_trans Gr42 K44.1
      have Xt48 : Ext T29.heap h32 := (own_xt E31 E32)
      have Xt49 : Ext T29.heap h34 := (own_xw Xt48 W34 (Nat.le_trans E31.1 (Nat.le_of_eq g32.symm)))
      have Xt50 : Ext T29.heap T44.heap := (own_xk Xt49 K44 ((allS (Nat.le_trans (own_xr T29.heap).1 (Nat.le_of_eq g31.symm)) all0)))
      have Xt51 : Ext T29.heap h46 := (own_xt Xt50 E46)
      have Xt52 : Ext h0 T44.heap := (own_xk Xt41 K44 ((allS (Nat.le_trans Xt38.1 (Nat.le_of_eq g31.symm)) all0)))
      have Xt53 : Ext h0 h46 := (own_xt Xt52 E46)
      have Gr54 : h0.size ≤ h46.size := Nat.le_trans Gr47 E46.1
      have CR55 : CHr Z own_EL s.vm h0 s.vm h46 := CR0.trans (CHr.ext Xt53 CR0.1)
      obtain ⟨_, _, ⟨T56, L56, k56, n56⟩, -, Xw56, hSw56, hgr56, ⟨Lc56, hQ56, l56, y56, z56, hC56⟩, st56⟩ := X46.specialBackS hx (y := y_63) rfl hown (mvT hZ (ow hw 37 rfl)) (mvT hZ (ow hw 38 rfl)) (mvT hZ (ow hw 39 rfl)) (by decide) (backOfSH (W := 1) (own_rnM1 l Z a0 hw [] b46 b20 b31 r_13 t_44 kt_44 (1 : Int32) [(.int (own_b d0))] w2 fm h46 n0 (Nat.le_trans Z0 Gr54) A46 Ftype_46 Fid_46 (Nat.le_trans (Nat.le_trans Z0 Gr47) (Nat.le_of_eq g46.symm)) (Po29_0.ext Xt51) (Po44_0.1.ext E46) (Po44_0.2.1.ext E46) (Po44_0.2.2.2.ext E46) (by decide) (SS.ext Xt53) Po13_0) hZ (ow hw 39 rfl) (ow hw 36 rfl) (by decide) (by decide) (own_ew hw) CR55.1) (g := (mkF m 183 #[vI p1, vI p2, vI p3, vI 0, vI 0, vI r_13, vI r_15, vI d0, vI d1, vR b20, vR b31, vI 1, vI 1, vU, vU, vU] [(.ref b31), (.ref b20), (.ref b46), (.ref b46)])) rfl hz (Steps.refl _) (a := b46) (argsL := [(.ref b20), (.ref b31)]) (rest := [(.ref b46)]) (lenOf own_pd41 rfl) rfl (Nat.le_of_eq rfl) (hb hby at_183) (fun _ _ => ⟨rfl, e46, (by decide : 9 + 4 ≤ _), (by decide : 18 + 168 ≤ _)⟩)
      dsimp only [Pt.U, Pt.locs, Pt.cells, Pt.slots] at Xw56 hSw56 hgr56 l56 y56 z56 st56 hQ56 hC56
      subst l56 y56 z56
      obtain ⟨X56, hS56, hZ56, ho56⟩ := rebS (n1 := h46.size) hS0 (Nat.zero_le _) Xw56 hSw56 (by rw [← e46]; exact hgr56) hZ hown
      have CRw56 : CHr Z own_EL s.vm h0 T56.vm T56.heap := CR55.trans hC56
      obtain ⟨rfl, Nq56, K56, Po56_0, Po56_1, Po56_2⟩ := hQ56
      have Na57 := Fr.app Na45 Nq56
      have Xt58 : Ext T29.heap T56.heap := (own_xk Xt51 K56 ((allS (Nat.le_trans Xt50.1 (Nat.le_of_eq g46.symm)) all0)))
      have Xt59 : Ext T44.heap T56.heap := (own_xk E46 K56 ((allS (Nat.le_trans (own_xr T44.heap).1 (Nat.le_of_eq g46.symm)) all0)))
      have Xt60 : Ext h0 T56.heap := (own_xk Xt53 K56 ((allS (Nat.le_trans Xt52.1 (Nat.le_of_eq g46.symm)) all0)))
      have Gr61 : h0.size ≤ T56.heap.size := Nat.le_trans Gr54 K56.1
      obtain ⟨cq62, kq62, qa62, qb62, qc62⟩ := isOf hZ56 rfl Po56_0
      obtain ⟨_, _, ⟨T62, L62, k62, n62⟩, -, Xw62, hSw62, hgr62, ⟨Lc62, hQ62, l62, y62, z62, hC62⟩, st62⟩ := X56.virtualBackS hx (y := y_64) (z := y_64) ho56 (mvT hZ56 (ow hw 100 rfl)) (mvT hZ56 (ow hw 101 rfl)) (notFace_of_selects (args := #[]) (mvT hZ56 (ow hw 103 rfl))) (mvT hZ56 (ow hw 103 rfl)) (mvT hZ56 (ow hw 102 rfl)) (by decide) (backOfSH (W := 0) (own_rkM11 l Z a0 hw [] b46 b20 b31 t_44 kt_44 r_13 d0 w2 fm T56.heap n0 (Nat.le_trans Z0 Gr61) Po56_0 Po56_1 Po56_2 (Po29_0.ext Xt58) (Po44_0.ext Xt59) (SS.ext Xt60) hgo19.1) hZ56 (ow hw 104 rfl) (ow hw 36 rfl) (by decide) (by decide) (own_ew hw) CRw56.1) qa62 qc62 (g := (mkF m 190 #[vI p1, vI p2, vI p3, vI 0, vI 0, vI r_13, vI r_15, vI d0, vI d1, vR b20, vR b31, vI 1, vI 1, vR b46, vU, vU] [(.ref b46)])) rfl hz (Steps.refl _) (argsL := []) (rest := []) (lenOf own_pd38 rfl) rfl (Nat.le_of_eq rfl) (hb hby at_190) (fun _ _ => ⟨rfl, rfl, (by decide : 13 + 7 ≤ _), (by decide : 186 + 100 ≤ _)⟩)
      dsimp only [Pt.U, Pt.locs, Pt.cells, Pt.slots] at Xw62 hSw62 hgr62 l62 y62 z62 st62 hQ62 hC62
      subst l62 y62 z62
      obtain ⟨X62, hS62, hZ62, ho62⟩ := rebS hS56 (Nat.le_refl _) Xw62 hSw62 hgr62 hZ56 ho56
      have CRw62 : CHr Z own_EL s.vm h0 T62.vm T62.heap := CRw56.trans hC62
      obtain ⟨y0_62, rfl, Nq62, E62, Po62_0, Po62_1⟩ := hQ62
      have Na63 := Fr.app Na57 Nq62
      have Xt64 : Ext h0 T62.heap := (own_xt Xt60 E62)
      have Gr65 : h0.size ≤ T62.heap.size := Nat.le_trans Gr61 E62.1
      obtain ⟨_, T66, L66, X66, ⟨rfl, Nq66, e66⟩, st66⟩ := own_cv 0 X62 hx hZ62 ho62 (ow hw 217 rfl) (ow hw 70 rfl) (ow hw 52 rfl) (ow hw 72 rfl) (ow hw 71 rfl) (ow hw 6 rfl) (ow hw 73 rfl) (own_lenM hw 8 (8 : Int32) (Nat.le_trans Z0 Gr65) Po62_1 (SS.ext Xt64) rfl (by decide)) rfl Po62_0 (g := (mkF m 197 #[vI p1, vI p2, vI p3, vI 0, vI 0, vI r_13, vI r_15, vI d0, vI d1, vR b20, vR b31, vI 1, vI 1, vR b46, vR y0_62, vU] [(.ref y0_62)])) (rest := []) (lenOf own_pd13 rfl) (hb hby at_197) hz
      have Na67 := Fr.app Na63 Nq66
      obtain ⟨_, T68, L68, X68, ⟨rfl, Nq68, e68⟩, st68⟩ := own_cv 0 X66 hx hZ62 ho62 (ow hw 218 rfl) (ow hw 219 rfl) (ow hw 52 rfl) (ow hw 221 rfl) (ow hw 220 rfl) (ow hw 6 rfl) (ow hw 222 rfl) (own_chM hw (0 : Int32) 0 8 (104 : Int32) (Nat.le_trans Z0 Gr65) Po62_1 (SS.ext Xt64) rfl rfl (by decide) (by decide)) e66 Po62_0 (g := (mkF m 216 #[vI p1, vI p2, vI p3, vI 0, vI 0, vI r_13, vI r_15, vI d0, vI d1, vR b20, vR b31, vI 1, vI 1, vR b46, vR y0_62, vU] [(.int 0), (.ref y0_62)])) (rest := []) (lenOf own_pd39 rfl) (hb hby at_216) hz
      have Na69 := Fr.app Na67 Nq68
      obtain ⟨_, T70, L70, X70, ⟨rfl, Nq70, e70⟩, st70⟩ := own_cv 0 X68 hx hZ62 ho62 (ow hw 218 rfl) (ow hw 219 rfl) (ow hw 52 rfl) (ow hw 221 rfl) (ow hw 220 rfl) (ow hw 6 rfl) (ow hw 222 rfl) (own_chM hw (1 : Int32) 1 8 (97 : Int32) (Nat.le_trans Z0 Gr65) Po62_1 (SS.ext Xt64) rfl rfl (by decide) (by decide)) e68 Po62_0 (g := (mkF m 227 #[vI p1, vI p2, vI p3, vI 0, vI 0, vI r_13, vI r_15, vI d0, vI d1, vR b20, vR b31, vI 1, vI 1, vR b46, vR y0_62, vU] [(.int 1), (.ref y0_62)])) (rest := []) (lenOf own_pd39 rfl) (hb hby at_227) hz
      have Na71 := Fr.app Na69 Nq70
      obtain ⟨_, T72, L72, X72, ⟨rfl, Nq72, e72⟩, st72⟩ := own_cv 0 X70 hx hZ62 ho62 (ow hw 218 rfl) (ow hw 219 rfl) (ow hw 52 rfl) (ow hw 221 rfl) (ow hw 220 rfl) (ow hw 6 rfl) (ow hw 222 rfl) (own_chM hw (2 : Int32) 2 8 (115 : Int32) (Nat.le_trans Z0 Gr65) Po62_1 (SS.ext Xt64) rfl rfl (by decide) (by decide)) e70 Po62_0 (g := (mkF m 238 #[vI p1, vI p2, vI p3, vI 0, vI 0, vI r_13, vI r_15, vI d0, vI d1, vR b20, vR b31, vI 1, vI 1, vR b46, vR y0_62, vU] [(.int 2), (.ref y0_62)])) (rest := []) (lenOf own_pd39 rfl) (hb hby at_238) hz
      have Na73 := Fr.app Na71 Nq72
      obtain ⟨_, T74, L74, X74, ⟨rfl, Nq74, e74⟩, st74⟩ := own_cv 0 X72 hx hZ62 ho62 (ow hw 218 rfl) (ow hw 219 rfl) (ow hw 52 rfl) (ow hw 221 rfl) (ow hw 220 rfl) (ow hw 6 rfl) (ow hw 222 rfl) (own_chM hw (3 : Int32) 3 8 (112 : Int32) (Nat.le_trans Z0 Gr65) Po62_1 (SS.ext Xt64) rfl rfl (by decide) (by decide)) e72 Po62_0 (g := (mkF m 249 #[vI p1, vI p2, vI p3, vI 0, vI 0, vI r_13, vI r_15, vI d0, vI d1, vR b20, vR b31, vI 1, vI 1, vR b46, vR y0_62, vU] [(.int 3), (.ref y0_62)])) (rest := []) (lenOf own_pd39 rfl) (hb hby at_249) hz
      have Na75 := Fr.app Na73 Nq74
      obtain ⟨_, T76, L76, X76, ⟨rfl, Nq76, e76⟩, st76⟩ := own_cv 0 X74 hx hZ62 ho62 (ow hw 218 rfl) (ow hw 219 rfl) (ow hw 52 rfl) (ow hw 221 rfl) (ow hw 220 rfl) (ow hw 6 rfl) (ow hw 222 rfl) (own_chM hw (4 : Int32) 4 8 (58 : Int32) (Nat.le_trans Z0 Gr65) Po62_1 (SS.ext Xt64) rfl rfl (by decide) (by decide)) e74 Po62_0 (g := (mkF m 260 #[vI p1, vI p2, vI p3, vI 0, vI 0, vI r_13, vI r_15, vI d0, vI d1, vR b20, vR b31, vI 1, vI 1, vR b46, vR y0_62, vU] [(.int 4), (.ref y0_62)])) (rest := []) (lenOf own_pd39 rfl) (hb hby at_260) hz
      have Na77 := Fr.app Na75 Nq76
      obtain ⟨_, T78, L78, X78, ⟨rfl, Nq78, e78⟩, st78⟩ := own_cv 0 X76 hx hZ62 ho62 (ow hw 218 rfl) (ow hw 219 rfl) (ow hw 52 rfl) (ow hw 221 rfl) (ow hw 220 rfl) (ow hw 6 rfl) (ow hw 222 rfl) (own_chM hw (5 : Int32) 5 8 r_13 (Nat.le_trans Z0 Gr65) Po62_1 (SS.ext Xt64) rfl rfl (by decide) (own_tcc Po13_0)) e76 Po62_0 (g := (mkF m 283 #[vI p1, vI p2, vI p3, vI 0, vI 0, vI r_13, vI r_15, vI d0, vI d1, vR b20, vR b31, vI 1, vI 1, vR b46, vR y0_62, vI 1] [(.int 5), (.ref y0_62)])) (rest := []) (lenOf own_pd39 rfl) (hb hby at_283) hz
      have Na79 := Fr.app Na77 Nq78
      obtain ⟨_, T80, L80, X80, ⟨rfl, Nq80, e80⟩, st80⟩ := own_cv 0 X78 hx hZ62 ho62 (ow hw 218 rfl) (ow hw 219 rfl) (ow hw 52 rfl) (ow hw 221 rfl) (ow hw 220 rfl) (ow hw 6 rfl) (ow hw 222 rfl) (own_chM hw (6 : Int32) 6 8 (58 : Int32) (Nat.le_trans Z0 Gr65) Po62_1 (SS.ext Xt64) rfl rfl (by decide) (by decide)) e78 Po62_0 (g := (mkF m 337 #[vI p1, vI p2, vI p3, vI 0, vI 0, vI r_13, vI r_15, vI d0, vI d1, vR b20, vR b31, vI 1, vI 1, vR b46, vR y0_62, vI 1] [(.int 6), (.ref y0_62)])) (rest := []) (lenOf own_pd39 rfl) (hb hby at_337) hz
      have Na81 := Fr.app Na79 Nq80
      obtain ⟨_, T82, L82, X82, ⟨rfl, Nq82, e82⟩, st82⟩ := own_cv 0 X80 hx hZ62 ho62 (ow hw 218 rfl) (ow hw 219 rfl) (ow hw 52 rfl) (ow hw 221 rfl) (ow hw 220 rfl) (ow hw 6 rfl) (ow hw 222 rfl) (own_chM hw (7 : Int32) 7 8 d0 (Nat.le_trans Z0 Gr65) Po62_1 (SS.ext Xt64) rfl rfl (by decide) (Or.inl hgo19.1)) e80 Po62_0 (g := (mkF m 364 #[vI p1, vI p2, vI p3, vI 0, vI 0, vI r_13, vI r_15, vI d0, vI d1, vR b20, vR b31, vI 1, vI 1, vR b46, vR y0_62, vI 1] [(.int 7), (.ref y0_62)])) (rest := []) (lenOf own_pd39 rfl) (hb hby at_364) hz
      have Na83 := Fr.app Na81 Nq82
      have CRz : CHr Z own_EL s.vm h0 T82.vm T62.heap := CRw62.trans (CHv.at X82 hZ62 (own_ew hw) CRw62.1)
      obtain ⟨fs, hr, hrun, hended, hRW⟩ := X82.leaveW hS62 (by rw [e82]; exact (Nat.le_refl _)) (v := some (.int 1)) (fun h => by rw [Bd.returns] at h; cases h)
      refine ⟨_, _, pre0 _ (go19 _ ?_), hrun, hended, _, _, rfl, ?_, ?_, own_rew hRW (by decide) (by decide)⟩
      · refine sI X15.here hx (hb hby at_59) ?_
        refine XS.ifYes X15.here hx rfl (pc0 := 60) (pc' := 88) rfl (hb hby at_60) rfl ((if0 _ _).trans (teq rfl).1) (by decide) (by decide) ?_
        refine st20 _ ?_
        refine XS.dup X20.here hx rfl (hb hby at_91) rfl rfl ?_
        refine sC X20.here hx (hb hby at_92) ?_
        refine st21 _ ?_
        refine XS.dup X21.here hx rfl (hb hby at_95) rfl rfl ?_
        refine sC X21.here hx (hb hby at_96) ?_
        refine sJ X21.here hx (hb hby at_97) ?_
        refine st23 _ ?_
        refine st29 _ ?_
        refine XS.astore X29.here hx rfl (hb hby at_103) rfl rfl (l' := #[vI p1, vI p2, vI p3, vI 0, vI 0, vI r_13, vI r_15, vI d0, vI d1, vR b20, vU, vU, vU, vU, vU, vU]) rfl ?_
        refine sJ X29.here hx (hb hby at_105) ?_
        refine XS.ifYes X29.here hx rfl (pc0 := 107) (pc' := 135) rfl (hb hby at_107) rfl ((if0 _ _).trans (teq rfl).1) (by decide) (by decide) ?_
        refine st31 _ ?_
        refine XS.dup X31.here hx rfl (hb hby at_138) rfl rfl ?_
        refine sC X31.here hx (hb hby at_139) ?_
        refine st32 _ ?_
        refine XS.dup X32.here hx rfl (hb hby at_142) rfl rfl ?_
        refine sC X32.here hx (hb hby at_143) ?_
        refine sJ X32.here hx (hb hby at_144) ?_
        refine st34 _ ?_
        refine st44 _ ?_
        refine XS.astore X44.here hx rfl (hb hby at_150) rfl rfl (l' := #[vI p1, vI p2, vI p3, vI 0, vI 0, vI r_13, vI r_15, vI d0, vI d1, vR b20, vR b31, vU, vU, vU, vU, vU]) rfl ?_
        refine sI X44.here hx (hb hby at_152) ?_
        refine XS.ifYes X44.here hx rfl (pc0 := 153) (pc' := 160) rfl (hb hby at_153) rfl ((if0 _ _).trans (teq rfl).1) (by decide) (by decide) ?_
        refine sC X44.here hx (hb hby at_160) ?_
        refine XS.istore X44.here hx rfl (hb hby at_161) rfl (l' := #[vI p1, vI p2, vI p3, vI 0, vI 0, vI r_13, vI r_15, vI d0, vI d1, vR b20, vR b31, vI 1, vU, vU, vU, vU]) rfl ?_
        refine sJ X44.here hx (hb hby at_163) ?_
        refine XS.ifYes X44.here hx rfl (pc0 := 165) (pc' := 172) rfl (hb hby at_165) rfl ((if0 _ _).trans (teq rfl).1) (by decide) (by decide) ?_
        refine sC X44.here hx (hb hby at_172) ?_
        refine XS.istore X44.here hx rfl (hb hby at_173) rfl (l' := #[vI p1, vI p2, vI p3, vI 0, vI 0, vI r_13, vI r_15, vI d0, vI d1, vR b20, vR b31, vI 1, vI 1, vU, vU, vU]) rfl ?_
        refine st46 _ ?_
        refine XS.dup X46.here hx rfl (hb hby at_178) rfl rfl ?_
        refine sB X46.here hx (hb hby at_179) ?_
        refine sB X46.here hx (hb hby at_181) ?_
        refine st56.trans ?_
        refine XS.astore X56.here hx rfl (hb hby at_186) rfl rfl (l' := #[vI p1, vI p2, vI p3, vI 0, vI 0, vI r_13, vI r_15, vI d0, vI d1, vR b20, vR b31, vI 1, vI 1, vR b46, vU, vU]) rfl ?_
        refine sB X56.here hx (hb hby at_188) ?_
        refine st62.trans ?_
        refine XS.astore X62.here hx rfl (hb hby at_193) rfl rfl (l' := #[vI p1, vI p2, vI p3, vI 0, vI 0, vI r_13, vI r_15, vI d0, vI d1, vR b20, vR b31, vI 1, vI 1, vR b46, vR y0_62, vU]) rfl ?_
        refine sB X62.here hx (hb hby at_195) ?_
        refine st66 _ ?_
        refine XS.bipush X66.here hx rfl (hb hby at_200) ?_
        refine sJ X66.here hx (hb hby at_202) ?_
        refine XS.iadd X66.here hx rfl (hb hby at_204) rfl ?_
        refine sJ X66.here hx (hb hby at_205) ?_
        refine XS.iadd X66.here hx rfl (hb hby at_207) rfl ?_
        refine XS.icmpYes X66.here hx rfl (pc0 := 208) (pc' := 213) rfl (hb hby at_208) rfl (teq rfl).1 (by decide) (by decide) ?_
        refine sB X66.here hx (hb hby at_213) ?_
        refine sC X66.here hx (hb hby at_215) ?_
        refine st68 _ ?_
        refine XS.bipush X68.here hx rfl (hb hby at_219) ?_
        refine XS.icmpNo X68.here hx rfl (hb hby at_221) rfl (teq rfl).2 ?_
        refine sB X68.here hx (hb hby at_224) ?_
        refine sC X68.here hx (hb hby at_226) ?_
        refine st70 _ ?_
        refine XS.bipush X70.here hx rfl (hb hby at_230) ?_
        refine XS.icmpNo X70.here hx rfl (hb hby at_232) rfl (teq rfl).2 ?_
        refine sB X70.here hx (hb hby at_235) ?_
        refine sC X70.here hx (hb hby at_237) ?_
        refine st72 _ ?_
        refine XS.bipush X72.here hx rfl (hb hby at_241) ?_
        refine XS.icmpNo X72.here hx rfl (hb hby at_243) rfl (teq rfl).2 ?_
        refine sB X72.here hx (hb hby at_246) ?_
        refine sC X72.here hx (hb hby at_248) ?_
        refine st74 _ ?_
        refine XS.bipush X74.here hx rfl (hb hby at_252) ?_
        refine XS.icmpNo X74.here hx rfl (hb hby at_254) rfl (teq rfl).2 ?_
        refine sB X74.here hx (hb hby at_257) ?_
        refine sC X74.here hx (hb hby at_259) ?_
        refine st76 _ ?_
        refine XS.bipush X76.here hx rfl (hb hby at_263) ?_
        refine XS.icmpNo X76.here hx rfl (hb hby at_265) rfl (teq rfl).2 ?_
        refine sC X76.here hx (hb hby at_268) ?_
        refine XS.goto X76.here hx rfl (pc0 := 269) (pc' := 273) rfl (hb hby at_269) (by decide) (by decide) ?_
        refine XS.istore X76.here hx rfl (hb hby at_273) rfl (l' := #[vI p1, vI p2, vI p3, vI 0, vI 0, vI r_13, vI r_15, vI d0, vI d1, vR b20, vR b31, vI 1, vI 1, vR b46, vR y0_62, vI 1]) rfl ?_
        refine sJ X76.here hx (hb hby at_275) ?_
        refine XS.ifNo X76.here hx rfl (hb hby at_277) rfl ((if0 _ _).trans (feq (by decide)).1) ?_
        refine sB X76.here hx (hb hby at_280) ?_
        refine sC X76.here hx (hb hby at_282) ?_
        refine st78 _ ?_
        refine sJ X78.here hx (hb hby at_286) ?_
        refine XS.icmpNo X78.here hx rfl (hb hby at_288) rfl (teq rfl).2 ?_
        refine sC X78.here hx (hb hby at_291) ?_
        refine XS.goto X78.here hx rfl (pc0 := 292) (pc' := 296) rfl (hb hby at_292) (by decide) (by decide) ?_
        refine XS.istore X78.here hx rfl (hb hby at_296) rfl (l' := #[vI p1, vI p2, vI p3, vI 0, vI 0, vI r_13, vI r_15, vI d0, vI d1, vR b20, vR b31, vI 1, vI 1, vR b46, vR y0_62, vI 1]) rfl ?_
        refine sI X78.here hx (hb hby at_298) ?_
        refine XS.ifYes X78.here hx rfl (pc0 := 299) (pc' := 326) rfl (hb hby at_299) rfl ((if0 _ _).trans (teq rfl).1) (by decide) (by decide) ?_
        refine sJ X78.here hx (hb hby at_326) ?_
        refine XS.ifNo X78.here hx rfl (hb hby at_328) rfl ((if0 _ _).trans (feq (by decide)).1) ?_
        refine sB X78.here hx (hb hby at_331) ?_
        refine sC X78.here hx (hb hby at_333) ?_
        refine sJ X78.here hx (hb hby at_334) ?_
        refine XS.iadd X78.here hx rfl (hb hby at_336) rfl ?_
        refine st80 _ ?_
        refine XS.bipush X80.here hx rfl (hb hby at_340) ?_
        refine XS.icmpNo X80.here hx rfl (hb hby at_342) rfl (teq rfl).2 ?_
        refine sC X80.here hx (hb hby at_345) ?_
        refine XS.goto X80.here hx rfl (pc0 := 346) (pc' := 350) rfl (hb hby at_346) (by decide) (by decide) ?_
        refine XS.istore X80.here hx rfl (hb hby at_350) rfl (l' := #[vI p1, vI p2, vI p3, vI 0, vI 0, vI r_13, vI r_15, vI d0, vI d1, vR b20, vR b31, vI 1, vI 1, vR b46, vR y0_62, vI 1]) rfl ?_
        refine sJ X80.here hx (hb hby at_352) ?_
        refine XS.ifNo X80.here hx rfl (hb hby at_354) rfl ((if0 _ _).trans (feq (by decide)).1) ?_
        refine sB X80.here hx (hb hby at_357) ?_
        refine XS.bipush X80.here hx rfl (hb hby at_359) ?_
        refine sJ X80.here hx (hb hby at_361) ?_
        refine XS.iadd X80.here hx rfl (hb hby at_363) rfl ?_
        refine st82 _ ?_
        refine sJ X82.here hx (hb hby at_367) ?_
        refine XS.icmpNo X82.here hx rfl (hb hby at_369) rfl (teq rfl).2 ?_
        refine sC X82.here hx (hb hby at_372) ?_
        refine XS.goto X82.here hx rfl (pc0 := 373) (pc' := 377) rfl (hb hby at_373) (by decide) (by decide) ?_
        refine XS.istore X82.here hx rfl (hb hby at_377) rfl (l' := #[vI p1, vI p2, vI p3, vI 0, vI 0, vI r_13, vI r_15, vI d0, vI d1, vR b20, vR b31, vI 1, vI 1, vR b46, vR y0_62, vI 1]) rfl ?_
        refine sJ X82.here hx (hb hby at_379) ?_
        refine XS.ifYes X82.here hx rfl (pc0 := 381) (pc' := 411) rfl (hb hby at_381) rfl ((if0 _ _).trans (teq rfl).1) (by decide) (by decide) ?_
        refine sJ X82.here hx (hb hby at_411) ?_
        exact retN X82 hx (t := .boolean) Bd.returns (by simp) (hb hby at_413) hr
      · show own_Ql n0 _ T82.heap _
        rw [e82]
        exact ⟨rfl, Na83⟩
      · show CHr Z own_EL s.vm s.heap T82.vm T82.heap
        rw [hh, e82]; exact CRz
    · obtain ⟨_, T84, L84, X84, ⟨r_84, rfl, Nq84, e84, Po84_0⟩, st84⟩ := own_cs 0 X0 hx hZ hown (ow hw 0 rfl) (ow hw 1 rfl) (ow hw 2 rfl) (ow hw 3 rfl) (own_tch hw p1 Z0 ) e0 (g := (mkF m 26 #[vI p1, vI p2, vI p3, vI 0, vI 1, vU, vU, vU, vU, vU, vU, vU, vU, vU, vU, vU] [(.int p1)])) (rest := []) (lenOf own_pd39 rfl) (hb hby at_26) hz
      have Na85 := Fr.app (Fr.nil n0) Nq84
      obtain ⟨_, T86, L86, X86, ⟨r_86, rfl, Nq86, e86, Po86_0⟩, st86⟩ := own_cs 0 X84 hx hZ hown (ow hw 0 rfl) (ow hw 1 rfl) (ow hw 2 rfl) (ow hw 3 rfl) (own_tch hw ((p1.toUInt32 >>> ((8 : Int32) &&& 31).toUInt32).toInt32) Z0 ) e84 (g := (mkF m 35 #[vI p1, vI p2, vI p3, vI 0, vI 1, vI r_84, vU, vU, vU, vU, vU, vU, vU, vU, vU, vU] [(.int ((p1.toUInt32 >>> ((8 : Int32) &&& 31).toUInt32).toInt32))])) (rest := []) (lenOf own_pd39 rfl) (hb hby at_35) hz
      have Na87 := Fr.app Na85 Nq86
      have go88 : ∀ tq, Steps p.tables e below (T86.setTop (mkF m 38 #[vI p1, vI p2, vI p3, vI 0, vI 1, vI r_84, vU, vU, vU, vU, vU, vU, vU, vU, vU, vU] [(.int r_86)])) tq → Steps p.tables e below (s₁.setTop (mkF m 0 #[vI p1, vI p2, vI p3, vU, vU, vU, vU, vU, vU, vU, vU, vU, vU, vU, vU, vU] [])) tq := fun tq kt => go11 tq (by
          refine XS.ifNo X0.here hx rfl (hb hby at_15) rfl ((if0 _ _).trans (feq hf2).1) ?_
          refine sC X0.here hx (hb hby at_18) ?_
          refine XS.goto X0.here hx rfl (pc0 := 19) (pc' := 23) rfl (hb hby at_19) (by decide) (by decide) ?_
          refine XS.istore X0.here hx rfl (hb hby at_23) rfl (l' := #[vI p1, vI p2, vI p3, vI 0, vI 1, vU, vU, vU, vU, vU, vU, vU, vU, vU, vU, vU]) rfl ?_
          refine sI X0.here hx (hb hby at_25) ?_
          refine st84 _ ?_
          refine XS.istore X84.here hx rfl (hb hby at_29) rfl (l' := #[vI p1, vI p2, vI p3, vI 0, vI 1, vI r_84, vU, vU, vU, vU, vU, vU, vU, vU, vU, vU]) rfl ?_
          refine sI X84.here hx (hb hby at_31) ?_
          refine XS.bipush X84.here hx rfl (hb hby at_32) ?_
          refine XS.iushr X84.here hx rfl (hb hby at_34) rfl ?_
          refine st86 _ ?_
          exact kt)
      obtain ⟨d0, d1, hgo90, go90⟩ : ∃ (d0 : Int32) (d1 : Int32), ((¬ d0 < 0 ∧ ¬ (255 : Int32) < d0) ∧ (¬ d1 < 0 ∧ ¬ (255 : Int32) < d1)) ∧ ∀ tq, Steps p.tables e below (T86.setTop (mkF m 59 #[vI p1, vI p2, vI p3, vI 0, vI 1, vI r_84, vI r_86, vI d0, vI d1, vU, vU, vU, vU, vU, vU, vU] [])) tq → Steps p.tables e below (s₁.setTop (mkF m 0 #[vI p1, vI p2, vI p3, vU, vU, vU, vU, vU, vU, vU, vU, vU, vU, vU, vU, vU] [])) tq := by
        have go89 : ∀ tq, Steps p.tables e below (T86.setTop (mkF m 59 #[vI p1, vI p2, vI p3, vI 0, vI 1, vI r_84, vI r_86, vI ((p2 &&& (255 : Int32)).toUInt32.toUInt16.toUInt32.toInt32), vI ((((p2.toUInt32 >>> ((8 : Int32) &&& 31).toUInt32).toInt32) &&& (255 : Int32)).toUInt32.toUInt16.toUInt32.toInt32), vU, vU, vU, vU, vU, vU, vU] [])) tq → Steps p.tables e below (s₁.setTop (mkF m 0 #[vI p1, vI p2, vI p3, vU, vU, vU, vU, vU, vU, vU, vU, vU, vU, vU, vU, vU] [])) tq := fun tq kt => go88 tq (by
            refine XS.istore X86.here hx rfl (hb hby at_38) rfl (l' := #[vI p1, vI p2, vI p3, vI 0, vI 1, vI r_84, vI r_86, vU, vU, vU, vU, vU, vU, vU, vU, vU]) rfl ?_
            refine sI X86.here hx (hb hby at_40) ?_
            refine XS.sipush X86.here hx rfl (hb hby at_41) ?_
            refine XS.iand X86.here hx rfl (hb hby at_44) rfl ?_
            refine XS.i2c X86.here hx rfl (hb hby at_45) rfl ?_
            refine XS.istore X86.here hx rfl (hb hby at_46) rfl (l' := #[vI p1, vI p2, vI p3, vI 0, vI 1, vI r_84, vI r_86, vI ((p2 &&& (255 : Int32)).toUInt32.toUInt16.toUInt32.toInt32), vU, vU, vU, vU, vU, vU, vU, vU]) rfl ?_
            refine sI X86.here hx (hb hby at_48) ?_
            refine XS.bipush X86.here hx rfl (hb hby at_49) ?_
            refine XS.iushr X86.here hx rfl (hb hby at_51) rfl ?_
            refine XS.sipush X86.here hx rfl (hb hby at_52) ?_
            refine XS.iand X86.here hx rfl (hb hby at_55) rfl ?_
            refine XS.i2c X86.here hx rfl (hb hby at_56) rfl ?_
            refine XS.istore X86.here hx rfl (hb hby at_57) rfl (l' := #[vI p1, vI p2, vI p3, vI 0, vI 1, vI r_84, vI r_86, vI ((p2 &&& (255 : Int32)).toUInt32.toUInt16.toUInt32.toInt32), vI ((((p2.toUInt32 >>> ((8 : Int32) &&& 31).toUInt32).toInt32) &&& (255 : Int32)).toUInt32.toUInt16.toUInt32.toInt32), vU, vU, vU, vU, vU, vU, vU]) rfl ?_
            exact kt)
        exact ⟨((p2 &&& (255 : Int32)).toUInt32.toUInt16.toUInt32.toInt32), ((((p2.toUInt32 >>> ((8 : Int32) &&& 31).toUInt32).toInt32) &&& (255 : Int32)).toUInt32.toUInt16.toUInt32.toInt32), ⟨own_d255 _, own_d255 _⟩, go89⟩
      obtain ⟨T91, h91, X91, e91, E91, A91, D91, -, st91⟩ := newO X86 hx hZ hown (ow hw 4 rfl) (ow hw 5 rfl) (ow hw 6 rfl) e86 (g := (mkF m 88 #[vI p1, vI p2, vI p3, vI 0, vI 1, vI r_84, vI r_86, vI d0, vI d1, vU, vU, vU, vU, vU, vU, vU] [])) rfl (hb hby at_88) (by decide) (by decide)
      obtain ⟨b91, g91⟩ : ∃ z, z = h0.size := ⟨_, rfl⟩
      rw [← g91] at A91 D91 st91
      have Fcoder_91 : Fld Z h91 b91 "java/lang/String" "coder" "B" (.int 0) := D91 (Or.inr (ow hw 31 rfl)) (ty := .byte) (by decide)
      have Fvalue_91 : Fld Z h91 b91 "java/lang/String" "value" "[B" .null := D91 (Or.inr (ow hw 33 rfl)) (ty := (.array .byte)) (by decide)
      obtain ⟨T92, h92, k92, X92, e92, E92, A92, st92⟩ := newP X91 hx hZ (ow hw 7 rfl) e91 (g := (mkF m 93 #[vI p1, vI p2, vI p3, vI 0, vI 1, vI r_84, vI r_86, vI d0, vI d1, vU, vU, vU, vU, vU, vU, vU] [(.int 1), (.ref b91), (.ref b91)])) rfl (hb hby at_93) rfl (by decide) (cap := 1) (by decide) (by decide) (by decide) (by decide)
      obtain ⟨b92, g92⟩ : ∃ z, z = h91.size := ⟨_, rfl⟩
      rw [← g92] at A92 st92
      have V92 : Arv Z h92 b92 k92 .char (1 : Int32) [(.int 0)] (.int 0) := (Arv.new A92 (by decide)).pad (pad_rep [] (.int 0) 1)
      obtain ⟨cl93, Ar93, q93, S93, M93, H93, G93⟩ := id V92
      obtain ⟨T94, h94, X94, e94, W94, st94⟩ := stC X92 hx hZ e92 Ar93 (j := (0 : Int32)) (inb_of S93 ⟨by decide, by decide⟩) (g := (mkF m 99 #[vI p1, vI p2, vI p3, vI 0, vI 1, vI r_84, vI r_86, vI d0, vI d1, vU, vU, vU, vU, vU, vU, vU] [(.int r_84), (.int 0), (.ref b92), (.ref b92), (.ref b91), (.ref b91)])) rfl rfl (hb hby at_99)
      have V94 : Arv Z h94 b92 k92 .char (1 : Int32) [(.int r_84)] (.int 0) := by have q := Arv.set Ar93 q93 S93 M93 H93 G93 (fits_nar_char _) W94 0 rfl (Nat.le_of_ble_eq_true rfl); rw [own_tcN Po84_0] at q; exact q
      have N94 := Fr.snoc X94 Na87 (Nat.le_trans (Nat.le_trans Z0 E91.1) (Nat.le_of_eq g92.symm))
      have Xt95 : Ext h91 h94 := (own_xw E92 W94 (Nat.le_trans (own_xr h91).1 (Nat.le_of_eq g92.symm)))
      have Xt96 : Ext h0 h92 := (own_xt E91 E92)
      have Xt97 : Ext h0 h94 := (own_xw Xt96 W94 (Nat.le_trans E91.1 (Nat.le_of_eq g92.symm)))
      have Gr99 : h0.size ≤ h92.size := Nat.le_trans E91.1 E92.1
      have Gr98 : h0.size ≤ h94.size := Nat.le_trans Gr99 (Keep.of_wr W94).1
      obtain ⟨_, T100, L100, X100, ⟨rfl, Nq100, K100, Po100_0⟩, st100⟩ := own_cp 1 X94 hx hZ hown (ow hw 8 rfl) (ow hw 9 rfl) (ow hw 6 rfl) (ow hw 10 rfl) (own_nS1 hw  (Nat.le_trans Z0 Gr98) (A91.ext Xt95) (Fvalue_91.ext Xt95) (Fcoder_91.ext Xt95) (Nat.le_trans Z0 (Nat.le_of_eq g91.symm)) V94 (SS.ext Xt97) Po84_0) e94 (g := (mkF m 100 #[vI p1, vI p2, vI p3, vI 0, vI 1, vI r_84, vI r_86, vI d0, vI d1, vU, vU, vU, vU, vU, vU, vU] [(.ref b92), (.ref b91), (.ref b91)])) (rest := [(.ref b91)]) (lenOf own_pd40 rfl) (hb hby at_100) hz
      have Na101 := Fr.app N94 Nq100
      obtain ⟨T102, h102, X102, e102, E102, A102, D102, -, st102⟩ := newO X100 hx hZ hown (ow hw 4 rfl) (ow hw 5 rfl) (ow hw 6 rfl) rfl (g := (mkF m 110 #[vI p1, vI p2, vI p3, vI 0, vI 1, vI r_84, vI r_86, vI d0, vI d1, vR b91, vU, vU, vU, vU, vU, vU] [])) rfl (hb hby at_110) (by decide) (by decide)
      obtain ⟨b102, g102⟩ : ∃ z, z = T100.heap.size := ⟨_, rfl⟩
      rw [← g102] at A102 D102 st102
      have Fcoder_102 : Fld Z h102 b102 "java/lang/String" "coder" "B" (.int 0) := D102 (Or.inr (ow hw 31 rfl)) (ty := .byte) (by decide)
      have Fvalue_102 : Fld Z h102 b102 "java/lang/String" "value" "[B" .null := D102 (Or.inr (ow hw 33 rfl)) (ty := (.array .byte)) (by decide)
      obtain ⟨T103, h103, k103, X103, e103, E103, A103, st103⟩ := newP X102 hx hZ (ow hw 7 rfl) e102 (g := (mkF m 115 #[vI p1, vI p2, vI p3, vI 0, vI 1, vI r_84, vI r_86, vI d0, vI d1, vR b91, vU, vU, vU, vU, vU, vU] [(.int 2), (.ref b102), (.ref b102)])) rfl (hb hby at_115) rfl (by decide) (cap := 2) (by decide) (by decide) (by decide) (by decide)
      obtain ⟨b103, g103⟩ : ∃ z, z = h102.size := ⟨_, rfl⟩
      rw [← g103] at A103 st103
      have V103 : Arv Z h103 b103 k103 .char (2 : Int32) [(.int 0), (.int 0)] (.int 0) := (Arv.new A103 (by decide)).pad (pad_rep [] (.int 0) 2)
      obtain ⟨cl104, Ar104, q104, S104, M104, H104, G104⟩ := id V103
      obtain ⟨T105, h105, X105, e105, W105, st105⟩ := stC X103 hx hZ e103 Ar104 (j := (0 : Int32)) (inb_of S104 ⟨by decide, by decide⟩) (g := (mkF m 121 #[vI p1, vI p2, vI p3, vI 0, vI 1, vI r_84, vI r_86, vI d0, vI d1, vR b91, vU, vU, vU, vU, vU, vU] [(.int d0), (.int 0), (.ref b103), (.ref b103), (.ref b102), (.ref b102)])) rfl rfl (hb hby at_121)
      have V105 : Arv Z h105 b103 k103 .char (2 : Int32) [(.int d0), (.int 0)] (.int 0) := by have q := Arv.set Ar104 q104 S104 M104 H104 G104 (fits_nar_char _) W105 0 rfl (Nat.le_of_ble_eq_true rfl); rw [own_nar hgo90.1] at q; exact q
      have Gr107 : h0.size ≤ T100.heap.size := Nat.le_trans Gr98 K100.1
      have Gr106 : h0.size ≤ h102.size := Nat.le_trans Gr107 E102.1
      have N105 := Fr.snoc X105 Na101 (Nat.le_trans (Nat.le_trans Z0 Gr106) (Nat.le_of_eq g103.symm))
      obtain ⟨cl108, Ar108, q108, S108, M108, H108, G108⟩ := id V105
      obtain ⟨T109, h109, X109, e109, W109, st109⟩ := stC X105 hx hZ e105 Ar108 (j := (1 : Int32)) (inb_of S108 ⟨by decide, by decide⟩) (g := (mkF m 126 #[vI p1, vI p2, vI p3, vI 0, vI 1, vI r_84, vI r_86, vI d0, vI d1, vR b91, vU, vU, vU, vU, vU, vU] [(.int d1), (.int 1), (.ref b103), (.ref b103), (.ref b102), (.ref b102)])) rfl rfl (hb hby at_126)
      have V109 : Arv Z h109 b103 k103 .char (2 : Int32) [(.int d0), (.int d1)] (.int 0) := by have q := Arv.set Ar108 q108 S108 M108 H108 G108 (fits_nar_char _) W109 1 rfl (Nat.le_of_ble_eq_true rfl); rw [own_nar hgo90.2] at q; exact q
      have N109 := Fr.snoc X109 N105 (Nat.le_trans (Nat.le_trans Z0 Gr106) (Nat.le_of_eq g103.symm))
      have Xt110 : Ext h102 h105 := (own_xw E103 W105 (Nat.le_trans (own_xr h102).1 (Nat.le_of_eq g103.symm)))
      have Xt111 : Ext h102 h109 := (own_xw Xt110 W109 (Nat.le_trans (own_xr h102).1 (Nat.le_of_eq g103.symm)))
      have Xt112 : Ext h0 T100.heap := (own_xk Xt97 K100 ((allS (Nat.le_trans (own_xr h0).1 (Nat.le_of_eq g91.symm)) all0)))
      have Xt113 : Ext h0 h102 := (own_xt Xt112 E102)
      have Xt114 : Ext h0 h103 := (own_xt Xt113 E103)
      have Xt115 : Ext h0 h105 := (own_xw Xt114 W105 (Nat.le_trans Xt113.1 (Nat.le_of_eq g103.symm)))
      have Xt116 : Ext h0 h109 := (own_xw Xt115 W109 (Nat.le_trans Xt113.1 (Nat.le_of_eq g103.symm)))
      have Gr119 : h0.size ≤ h103.size := Nat.le_trans Gr106 E103.1
      have Gr118 : h0.size ≤ h105.size := Nat.le_trans Gr119 (Keep.of_wr W105).1
      have Gr117 : h0.size ≤ h109.size := Nat.le_trans Gr118 (Keep.of_wr W109).1
      obtain ⟨_, T120, L120, X120, ⟨t_120, kt_120, rfl, Nq120, K120, Po120_0, Po120_1⟩, st120⟩ := own_cp 1 X109 hx hZ hown (ow hw 8 rfl) (ow hw 9 rfl) (ow hw 6 rfl) (ow hw 10 rfl) (own_nL2 hw  (Nat.le_trans Z0 Gr117) (A102.ext Xt111) (Fvalue_102.ext Xt111) (Fcoder_102.ext Xt111) (Nat.le_trans (Nat.le_trans Z0 Gr107) (Nat.le_of_eq g102.symm)) V109 (SS.ext Xt116) hgo90.1.2 hgo90.2.2) e109 (g := (mkF m 127 #[vI p1, vI p2, vI p3, vI 0, vI 1, vI r_84, vI r_86, vI d0, vI d1, vR b91, vU, vU, vU, vU, vU, vU] [(.ref b103), (.ref b102), (.ref b102)])) (rest := [(.ref b102)]) (lenOf own_pd40 rfl) (hb hby at_127) hz
      have Na121 := Fr.app N109 Nq120
      obtain ⟨T122, h122, X122, e122, E122, A122, D122, -, st122⟩ := newO X120 hx hZ hown (ow hw 34 rfl) (ow hw 35 rfl) (ow hw 36 rfl) rfl (g := (mkF m 175 #[vI p1, vI p2, vI p3, vI 0, vI 1, vI r_84, vI r_86, vI d0, vI d1, vR b91, vR b102, vI 1, vI 2, vU, vU, vU] [])) rfl (hb hby at_175) (by decide) (by decide)
      obtain ⟨b122, g122⟩ : ∃ z, z = T120.heap.size := ⟨_, rfl⟩
      rw [← g122] at A122 D122 st122
      have Ftype_122 : Fld Z h122 b122 "com/example/libhasp/libhasp/RecordName" "type" "Ljava/lang/String;" .null := D122 (Or.inr (ow hw 97 rfl)) (ty := (.object "java/lang/String")) (by decide)
      have Fid_122 : Fld Z h122 b122 "com/example/libhasp/libhasp/RecordName" "id" "Ljava/lang/String;" .null := D122 (Or.inr (ow hw 99 rfl)) (ty := (.object "java/lang/String")) (by decide)
      have Gr123 : h0.size ≤ T120.heap.size := Nat.le_trans Gr117 K120.1
      have Xt124 : Ext T100.heap h103 := (own_xt E102 E103)
      have Xt125 : Ext T100.heap h105 := (own_xw Xt124 W105 (Nat.le_trans E102.1 (Nat.le_of_eq g103.symm)))
      have Xt126 : Ext T100.heap h109 := (own_xw Xt125 W109 (Nat.le_trans E102.1 (Nat.le_of_eq g103.symm)))
      have Xt127 : Ext T100.heap T120.heap := (own_xk Xt126 K120 ((allS (Nat.le_trans (own_xr T100.heap).1 (Nat.le_of_eq g102.symm)) all0)))
      have Xt128 : Ext T100.heap h122 := (own_xt Xt127 E122)
      have Xt129 : Ext h0 T120.heap := (own_xk Xt116 K120 ((allS (Nat.le_trans Xt112.1 (Nat.le_of_eq g102.symm)) all0)))
      have Xt130 : Ext h0 h122 := (own_xt Xt129 E122)
      have Gr131 : h0.size ≤ h122.size := Nat.le_trans Gr123 E122.1
      have CR132 : CHr Z own_EL s.vm h0 s.vm h122 := CR0.trans (CHr.ext Xt130 CR0.1)
      obtain ⟨_, _, ⟨T133, L133, k133, n133⟩, -, Xw133, hSw133, hgr133, ⟨Lc133, hQ133, l133, y133, z133, hC133⟩, st133⟩ := X122.specialBackS hx (y := y_63) rfl hown (mvT hZ (ow hw 37 rfl)) (mvT hZ (ow hw 38 rfl)) (mvT hZ (ow hw 39 rfl)) (by decide) (backOfSH (W := 1) (own_rnM1 l Z a0 hw [] b122 b91 b102 r_84 t_120 kt_120 (2 : Int32) [(.int (own_b d0)), (.int (own_b d1))] w2 fm h122 n0 (Nat.le_trans Z0 Gr131) A122 Ftype_122 Fid_122 (Nat.le_trans (Nat.le_trans Z0 Gr123) (Nat.le_of_eq g122.symm)) (Po100_0.ext Xt128) (Po120_0.1.ext E122) (Po120_0.2.1.ext E122) (Po120_0.2.2.2.ext E122) (by decide) (SS.ext Xt130) Po84_0) hZ (ow hw 39 rfl) (ow hw 36 rfl) (by decide) (by decide) (own_ew hw) CR132.1) (g := (mkF m 183 #[vI p1, vI p2, vI p3, vI 0, vI 1, vI r_84, vI r_86, vI d0, vI d1, vR b91, vR b102, vI 1, vI 2, vU, vU, vU] [(.ref b102), (.ref b91), (.ref b122), (.ref b122)])) rfl hz (Steps.refl _) (a := b122) (argsL := [(.ref b91), (.ref b102)]) (rest := [(.ref b122)]) (lenOf own_pd41 rfl) rfl (Nat.le_of_eq rfl) (hb hby at_183) (fun _ _ => ⟨rfl, e122, (by decide : 9 + 4 ≤ _), (by decide : 22 + 168 ≤ _)⟩)
      dsimp only [Pt.U, Pt.locs, Pt.cells, Pt.slots] at Xw133 hSw133 hgr133 l133 y133 z133 st133 hQ133 hC133
      subst l133 y133 z133
      obtain ⟨X133, hS133, hZ133, ho133⟩ := rebS (n1 := h122.size) hS0 (Nat.zero_le _) Xw133 hSw133 (by rw [← e122]; exact hgr133) hZ hown
      have CRw133 : CHr Z own_EL s.vm h0 T133.vm T133.heap := CR132.trans hC133
      obtain ⟨rfl, Nq133, K133, Po133_0, Po133_1, Po133_2⟩ := hQ133
      have Na134 := Fr.app Na121 Nq133
      have Xt135 : Ext T100.heap T133.heap := (own_xk Xt128 K133 ((allS (Nat.le_trans Xt127.1 (Nat.le_of_eq g122.symm)) all0)))
      have Xt136 : Ext T120.heap T133.heap := (own_xk E122 K133 ((allS (Nat.le_trans (own_xr T120.heap).1 (Nat.le_of_eq g122.symm)) all0)))
      have Xt137 : Ext h0 T133.heap := (own_xk Xt130 K133 ((allS (Nat.le_trans Xt129.1 (Nat.le_of_eq g122.symm)) all0)))
      have Gr138 : h0.size ≤ T133.heap.size := Nat.le_trans Gr131 K133.1
      obtain ⟨cq139, kq139, qa139, qb139, qc139⟩ := isOf hZ133 rfl Po133_0
      obtain ⟨_, _, ⟨T139, L139, k139, n139⟩, -, Xw139, hSw139, hgr139, ⟨Lc139, hQ139, l139, y139, z139, hC139⟩, st139⟩ := X133.virtualBackS hx (y := y_64) (z := y_64) ho133 (mvT hZ133 (ow hw 100 rfl)) (mvT hZ133 (ow hw 101 rfl)) (notFace_of_selects (args := #[]) (mvT hZ133 (ow hw 103 rfl))) (mvT hZ133 (ow hw 103 rfl)) (mvT hZ133 (ow hw 102 rfl)) (by decide) (backOfSH (W := 0) (own_rkM12 l Z a0 hw [] b122 b91 b102 t_120 kt_120 r_84 d0 d1 w2 fm T133.heap n0 (Nat.le_trans Z0 Gr138) Po133_0 Po133_1 Po133_2 (Po100_0.ext Xt135) (Po120_0.ext Xt136) (SS.ext Xt137) hgo90.1 hgo90.2) hZ133 (ow hw 104 rfl) (ow hw 36 rfl) (by decide) (by decide) (own_ew hw) CRw133.1) qa139 qc139 (g := (mkF m 190 #[vI p1, vI p2, vI p3, vI 0, vI 1, vI r_84, vI r_86, vI d0, vI d1, vR b91, vR b102, vI 1, vI 2, vR b122, vU, vU] [(.ref b122)])) rfl hz (Steps.refl _) (argsL := []) (rest := []) (lenOf own_pd38 rfl) rfl (Nat.le_of_eq rfl) (hb hby at_190) (fun _ _ => ⟨rfl, rfl, (by decide : 13 + 7 ≤ _), (by decide : 190 + 100 ≤ _)⟩)
      dsimp only [Pt.U, Pt.locs, Pt.cells, Pt.slots] at Xw139 hSw139 hgr139 l139 y139 z139 st139 hQ139 hC139
      subst l139 y139 z139
      obtain ⟨X139, hS139, hZ139, ho139⟩ := rebS hS133 (Nat.le_refl _) Xw139 hSw139 hgr139 hZ133 ho133
      have CRw139 : CHr Z own_EL s.vm h0 T139.vm T139.heap := CRw133.trans hC139
      obtain ⟨y0_139, rfl, Nq139, E139, Po139_0, Po139_1⟩ := hQ139
      have Na140 := Fr.app Na134 Nq139
      have Xt141 : Ext h0 T139.heap := (own_xt Xt137 E139)
      have Gr142 : h0.size ≤ T139.heap.size := Nat.le_trans Gr138 E139.1
      obtain ⟨_, T143, L143, X143, ⟨rfl, Nq143, e143⟩, st143⟩ := own_cv 0 X139 hx hZ139 ho139 (ow hw 217 rfl) (ow hw 70 rfl) (ow hw 52 rfl) (ow hw 72 rfl) (ow hw 71 rfl) (ow hw 6 rfl) (ow hw 73 rfl) (own_lenM hw 9 (9 : Int32) (Nat.le_trans Z0 Gr142) Po139_1 (SS.ext Xt141) rfl (by decide)) rfl Po139_0 (g := (mkF m 197 #[vI p1, vI p2, vI p3, vI 0, vI 1, vI r_84, vI r_86, vI d0, vI d1, vR b91, vR b102, vI 1, vI 2, vR b122, vR y0_139, vU] [(.ref y0_139)])) (rest := []) (lenOf own_pd13 rfl) (hb hby at_197) hz
      have Na144 := Fr.app Na140 Nq143
      obtain ⟨_, T145, L145, X145, ⟨rfl, Nq145, e145⟩, st145⟩ := own_cv 0 X143 hx hZ139 ho139 (ow hw 218 rfl) (ow hw 219 rfl) (ow hw 52 rfl) (ow hw 221 rfl) (ow hw 220 rfl) (ow hw 6 rfl) (ow hw 222 rfl) (own_chM hw (0 : Int32) 0 9 (104 : Int32) (Nat.le_trans Z0 Gr142) Po139_1 (SS.ext Xt141) rfl rfl (by decide) (by decide)) e143 Po139_0 (g := (mkF m 216 #[vI p1, vI p2, vI p3, vI 0, vI 1, vI r_84, vI r_86, vI d0, vI d1, vR b91, vR b102, vI 1, vI 2, vR b122, vR y0_139, vU] [(.int 0), (.ref y0_139)])) (rest := []) (lenOf own_pd39 rfl) (hb hby at_216) hz
      have Na146 := Fr.app Na144 Nq145
      obtain ⟨_, T147, L147, X147, ⟨rfl, Nq147, e147⟩, st147⟩ := own_cv 0 X145 hx hZ139 ho139 (ow hw 218 rfl) (ow hw 219 rfl) (ow hw 52 rfl) (ow hw 221 rfl) (ow hw 220 rfl) (ow hw 6 rfl) (ow hw 222 rfl) (own_chM hw (1 : Int32) 1 9 (97 : Int32) (Nat.le_trans Z0 Gr142) Po139_1 (SS.ext Xt141) rfl rfl (by decide) (by decide)) e145 Po139_0 (g := (mkF m 227 #[vI p1, vI p2, vI p3, vI 0, vI 1, vI r_84, vI r_86, vI d0, vI d1, vR b91, vR b102, vI 1, vI 2, vR b122, vR y0_139, vU] [(.int 1), (.ref y0_139)])) (rest := []) (lenOf own_pd39 rfl) (hb hby at_227) hz
      have Na148 := Fr.app Na146 Nq147
      obtain ⟨_, T149, L149, X149, ⟨rfl, Nq149, e149⟩, st149⟩ := own_cv 0 X147 hx hZ139 ho139 (ow hw 218 rfl) (ow hw 219 rfl) (ow hw 52 rfl) (ow hw 221 rfl) (ow hw 220 rfl) (ow hw 6 rfl) (ow hw 222 rfl) (own_chM hw (2 : Int32) 2 9 (115 : Int32) (Nat.le_trans Z0 Gr142) Po139_1 (SS.ext Xt141) rfl rfl (by decide) (by decide)) e147 Po139_0 (g := (mkF m 238 #[vI p1, vI p2, vI p3, vI 0, vI 1, vI r_84, vI r_86, vI d0, vI d1, vR b91, vR b102, vI 1, vI 2, vR b122, vR y0_139, vU] [(.int 2), (.ref y0_139)])) (rest := []) (lenOf own_pd39 rfl) (hb hby at_238) hz
      have Na150 := Fr.app Na148 Nq149
      obtain ⟨_, T151, L151, X151, ⟨rfl, Nq151, e151⟩, st151⟩ := own_cv 0 X149 hx hZ139 ho139 (ow hw 218 rfl) (ow hw 219 rfl) (ow hw 52 rfl) (ow hw 221 rfl) (ow hw 220 rfl) (ow hw 6 rfl) (ow hw 222 rfl) (own_chM hw (3 : Int32) 3 9 (112 : Int32) (Nat.le_trans Z0 Gr142) Po139_1 (SS.ext Xt141) rfl rfl (by decide) (by decide)) e149 Po139_0 (g := (mkF m 249 #[vI p1, vI p2, vI p3, vI 0, vI 1, vI r_84, vI r_86, vI d0, vI d1, vR b91, vR b102, vI 1, vI 2, vR b122, vR y0_139, vU] [(.int 3), (.ref y0_139)])) (rest := []) (lenOf own_pd39 rfl) (hb hby at_249) hz
      have Na152 := Fr.app Na150 Nq151
      obtain ⟨_, T153, L153, X153, ⟨rfl, Nq153, e153⟩, st153⟩ := own_cv 0 X151 hx hZ139 ho139 (ow hw 218 rfl) (ow hw 219 rfl) (ow hw 52 rfl) (ow hw 221 rfl) (ow hw 220 rfl) (ow hw 6 rfl) (ow hw 222 rfl) (own_chM hw (4 : Int32) 4 9 (58 : Int32) (Nat.le_trans Z0 Gr142) Po139_1 (SS.ext Xt141) rfl rfl (by decide) (by decide)) e151 Po139_0 (g := (mkF m 260 #[vI p1, vI p2, vI p3, vI 0, vI 1, vI r_84, vI r_86, vI d0, vI d1, vR b91, vR b102, vI 1, vI 2, vR b122, vR y0_139, vU] [(.int 4), (.ref y0_139)])) (rest := []) (lenOf own_pd39 rfl) (hb hby at_260) hz
      have Na154 := Fr.app Na152 Nq153
      obtain ⟨_, T155, L155, X155, ⟨rfl, Nq155, e155⟩, st155⟩ := own_cv 0 X153 hx hZ139 ho139 (ow hw 218 rfl) (ow hw 219 rfl) (ow hw 52 rfl) (ow hw 221 rfl) (ow hw 220 rfl) (ow hw 6 rfl) (ow hw 222 rfl) (own_chM hw (5 : Int32) 5 9 r_84 (Nat.le_trans Z0 Gr142) Po139_1 (SS.ext Xt141) rfl rfl (by decide) (own_tcc Po84_0)) e153 Po139_0 (g := (mkF m 283 #[vI p1, vI p2, vI p3, vI 0, vI 1, vI r_84, vI r_86, vI d0, vI d1, vR b91, vR b102, vI 1, vI 2, vR b122, vR y0_139, vI 1] [(.int 5), (.ref y0_139)])) (rest := []) (lenOf own_pd39 rfl) (hb hby at_283) hz
      have Na156 := Fr.app Na154 Nq155
      obtain ⟨_, T157, L157, X157, ⟨rfl, Nq157, e157⟩, st157⟩ := own_cv 0 X155 hx hZ139 ho139 (ow hw 218 rfl) (ow hw 219 rfl) (ow hw 52 rfl) (ow hw 221 rfl) (ow hw 220 rfl) (ow hw 6 rfl) (ow hw 222 rfl) (own_chM hw (6 : Int32) 6 9 (58 : Int32) (Nat.le_trans Z0 Gr142) Po139_1 (SS.ext Xt141) rfl rfl (by decide) (by decide)) e155 Po139_0 (g := (mkF m 337 #[vI p1, vI p2, vI p3, vI 0, vI 1, vI r_84, vI r_86, vI d0, vI d1, vR b91, vR b102, vI 1, vI 2, vR b122, vR y0_139, vI 1] [(.int 6), (.ref y0_139)])) (rest := []) (lenOf own_pd39 rfl) (hb hby at_337) hz
      have Na158 := Fr.app Na156 Nq157
      obtain ⟨_, T159, L159, X159, ⟨rfl, Nq159, e159⟩, st159⟩ := own_cv 0 X157 hx hZ139 ho139 (ow hw 218 rfl) (ow hw 219 rfl) (ow hw 52 rfl) (ow hw 221 rfl) (ow hw 220 rfl) (ow hw 6 rfl) (ow hw 222 rfl) (own_chM hw (7 : Int32) 7 9 d0 (Nat.le_trans Z0 Gr142) Po139_1 (SS.ext Xt141) rfl rfl (by decide) (Or.inl hgo90.1)) e157 Po139_0 (g := (mkF m 364 #[vI p1, vI p2, vI p3, vI 0, vI 1, vI r_84, vI r_86, vI d0, vI d1, vR b91, vR b102, vI 1, vI 2, vR b122, vR y0_139, vI 1] [(.int 7), (.ref y0_139)])) (rest := []) (lenOf own_pd39 rfl) (hb hby at_364) hz
      have Na160 := Fr.app Na158 Nq159
      obtain ⟨_, T161, L161, X161, ⟨rfl, Nq161, e161⟩, st161⟩ := own_cv 0 X159 hx hZ139 ho139 (ow hw 218 rfl) (ow hw 219 rfl) (ow hw 52 rfl) (ow hw 221 rfl) (ow hw 220 rfl) (ow hw 6 rfl) (ow hw 222 rfl) (own_chM hw (8 : Int32) 8 9 d1 (Nat.le_trans Z0 Gr142) Po139_1 (SS.ext Xt141) rfl rfl (by decide) (Or.inl hgo90.2)) e159 Po139_0 (g := (mkF m 396 #[vI p1, vI p2, vI p3, vI 0, vI 1, vI r_84, vI r_86, vI d0, vI d1, vR b91, vR b102, vI 1, vI 2, vR b122, vR y0_139, vI 1] [(.int 8), (.ref y0_139)])) (rest := []) (lenOf own_pd39 rfl) (hb hby at_396) hz
      have Na162 := Fr.app Na160 Nq161
      have CRz : CHr Z own_EL s.vm h0 T161.vm T139.heap := CRw139.trans (CHv.at X161 hZ139 (own_ew hw) CRw139.1)
      obtain ⟨fs, hr, hrun, hended, hRW⟩ := X161.leaveW hS139 (by rw [e161]; exact (Nat.le_refl _)) (v := some (.int 1)) (fun h => by rw [Bd.returns] at h; cases h)
      refine ⟨_, _, pre0 _ (go90 _ ?_), hrun, hended, _, _, rfl, ?_, ?_, own_rew hRW (by decide) (by decide)⟩
      · refine sI X86.here hx (hb hby at_59) ?_
        refine XS.ifYes X86.here hx rfl (pc0 := 60) (pc' := 88) rfl (hb hby at_60) rfl ((if0 _ _).trans (teq rfl).1) (by decide) (by decide) ?_
        refine st91 _ ?_
        refine XS.dup X91.here hx rfl (hb hby at_91) rfl rfl ?_
        refine sC X91.here hx (hb hby at_92) ?_
        refine st92 _ ?_
        refine XS.dup X92.here hx rfl (hb hby at_95) rfl rfl ?_
        refine sC X92.here hx (hb hby at_96) ?_
        refine sJ X92.here hx (hb hby at_97) ?_
        refine st94 _ ?_
        refine st100 _ ?_
        refine XS.astore X100.here hx rfl (hb hby at_103) rfl rfl (l' := #[vI p1, vI p2, vI p3, vI 0, vI 1, vI r_84, vI r_86, vI d0, vI d1, vR b91, vU, vU, vU, vU, vU, vU]) rfl ?_
        refine sJ X100.here hx (hb hby at_105) ?_
        refine XS.ifNo X100.here hx rfl (hb hby at_107) rfl ((if0 _ _).trans (feq (by decide)).1) ?_
        refine st102 _ ?_
        refine XS.dup X102.here hx rfl (hb hby at_113) rfl rfl ?_
        refine sC X102.here hx (hb hby at_114) ?_
        refine st103 _ ?_
        refine XS.dup X103.here hx rfl (hb hby at_117) rfl rfl ?_
        refine sC X103.here hx (hb hby at_118) ?_
        refine sJ X103.here hx (hb hby at_119) ?_
        refine st105 _ ?_
        refine XS.dup X105.here hx rfl (hb hby at_122) rfl rfl ?_
        refine sC X105.here hx (hb hby at_123) ?_
        refine sJ X105.here hx (hb hby at_124) ?_
        refine st109 _ ?_
        refine st120 _ ?_
        refine XS.astore X120.here hx rfl (hb hby at_130) rfl rfl (l' := #[vI p1, vI p2, vI p3, vI 0, vI 1, vI r_84, vI r_86, vI d0, vI d1, vR b91, vR b102, vU, vU, vU, vU, vU]) rfl ?_
        refine XS.goto X120.here hx rfl (pc0 := 132) (pc' := 152) rfl (hb hby at_132) (by decide) (by decide) ?_
        refine sI X120.here hx (hb hby at_152) ?_
        refine XS.ifYes X120.here hx rfl (pc0 := 153) (pc' := 160) rfl (hb hby at_153) rfl ((if0 _ _).trans (teq rfl).1) (by decide) (by decide) ?_
        refine sC X120.here hx (hb hby at_160) ?_
        refine XS.istore X120.here hx rfl (hb hby at_161) rfl (l' := #[vI p1, vI p2, vI p3, vI 0, vI 1, vI r_84, vI r_86, vI d0, vI d1, vR b91, vR b102, vI 1, vU, vU, vU, vU]) rfl ?_
        refine sJ X120.here hx (hb hby at_163) ?_
        refine XS.ifNo X120.here hx rfl (hb hby at_165) rfl ((if0 _ _).trans (feq (by decide)).1) ?_
        refine sC X120.here hx (hb hby at_168) ?_
        refine XS.goto X120.here hx rfl (pc0 := 169) (pc' := 173) rfl (hb hby at_169) (by decide) (by decide) ?_
        refine XS.istore X120.here hx rfl (hb hby at_173) rfl (l' := #[vI p1, vI p2, vI p3, vI 0, vI 1, vI r_84, vI r_86, vI d0, vI d1, vR b91, vR b102, vI 1, vI 2, vU, vU, vU]) rfl ?_
        refine st122 _ ?_
        refine XS.dup X122.here hx rfl (hb hby at_178) rfl rfl ?_
        refine sB X122.here hx (hb hby at_179) ?_
        refine sB X122.here hx (hb hby at_181) ?_
        refine st133.trans ?_
        refine XS.astore X133.here hx rfl (hb hby at_186) rfl rfl (l' := #[vI p1, vI p2, vI p3, vI 0, vI 1, vI r_84, vI r_86, vI d0, vI d1, vR b91, vR b102, vI 1, vI 2, vR b122, vU, vU]) rfl ?_
        refine sB X133.here hx (hb hby at_188) ?_
        refine st139.trans ?_
        refine XS.astore X139.here hx rfl (hb hby at_193) rfl rfl (l' := #[vI p1, vI p2, vI p3, vI 0, vI 1, vI r_84, vI r_86, vI d0, vI d1, vR b91, vR b102, vI 1, vI 2, vR b122, vR y0_139, vU]) rfl ?_
        refine sB X139.here hx (hb hby at_195) ?_
        refine st143 _ ?_
        refine XS.bipush X143.here hx rfl (hb hby at_200) ?_
        refine sJ X143.here hx (hb hby at_202) ?_
        refine XS.iadd X143.here hx rfl (hb hby at_204) rfl ?_
        refine sJ X143.here hx (hb hby at_205) ?_
        refine XS.iadd X143.here hx rfl (hb hby at_207) rfl ?_
        refine XS.icmpYes X143.here hx rfl (pc0 := 208) (pc' := 213) rfl (hb hby at_208) rfl (teq rfl).1 (by decide) (by decide) ?_
        refine sB X143.here hx (hb hby at_213) ?_
        refine sC X143.here hx (hb hby at_215) ?_
        refine st145 _ ?_
        refine XS.bipush X145.here hx rfl (hb hby at_219) ?_
        refine XS.icmpNo X145.here hx rfl (hb hby at_221) rfl (teq rfl).2 ?_
        refine sB X145.here hx (hb hby at_224) ?_
        refine sC X145.here hx (hb hby at_226) ?_
        refine st147 _ ?_
        refine XS.bipush X147.here hx rfl (hb hby at_230) ?_
        refine XS.icmpNo X147.here hx rfl (hb hby at_232) rfl (teq rfl).2 ?_
        refine sB X147.here hx (hb hby at_235) ?_
        refine sC X147.here hx (hb hby at_237) ?_
        refine st149 _ ?_
        refine XS.bipush X149.here hx rfl (hb hby at_241) ?_
        refine XS.icmpNo X149.here hx rfl (hb hby at_243) rfl (teq rfl).2 ?_
        refine sB X149.here hx (hb hby at_246) ?_
        refine sC X149.here hx (hb hby at_248) ?_
        refine st151 _ ?_
        refine XS.bipush X151.here hx rfl (hb hby at_252) ?_
        refine XS.icmpNo X151.here hx rfl (hb hby at_254) rfl (teq rfl).2 ?_
        refine sB X151.here hx (hb hby at_257) ?_
        refine sC X151.here hx (hb hby at_259) ?_
        refine st153 _ ?_
        refine XS.bipush X153.here hx rfl (hb hby at_263) ?_
        refine XS.icmpNo X153.here hx rfl (hb hby at_265) rfl (teq rfl).2 ?_
        refine sC X153.here hx (hb hby at_268) ?_
        refine XS.goto X153.here hx rfl (pc0 := 269) (pc' := 273) rfl (hb hby at_269) (by decide) (by decide) ?_
        refine XS.istore X153.here hx rfl (hb hby at_273) rfl (l' := #[vI p1, vI p2, vI p3, vI 0, vI 1, vI r_84, vI r_86, vI d0, vI d1, vR b91, vR b102, vI 1, vI 2, vR b122, vR y0_139, vI 1]) rfl ?_
        refine sJ X153.here hx (hb hby at_275) ?_
        refine XS.ifNo X153.here hx rfl (hb hby at_277) rfl ((if0 _ _).trans (feq (by decide)).1) ?_
        refine sB X153.here hx (hb hby at_280) ?_
        refine sC X153.here hx (hb hby at_282) ?_
        refine st155 _ ?_
        refine sJ X155.here hx (hb hby at_286) ?_
        refine XS.icmpNo X155.here hx rfl (hb hby at_288) rfl (teq rfl).2 ?_
        refine sC X155.here hx (hb hby at_291) ?_
        refine XS.goto X155.here hx rfl (pc0 := 292) (pc' := 296) rfl (hb hby at_292) (by decide) (by decide) ?_
        refine XS.istore X155.here hx rfl (hb hby at_296) rfl (l' := #[vI p1, vI p2, vI p3, vI 0, vI 1, vI r_84, vI r_86, vI d0, vI d1, vR b91, vR b102, vI 1, vI 2, vR b122, vR y0_139, vI 1]) rfl ?_
        refine sI X155.here hx (hb hby at_298) ?_
        refine XS.ifYes X155.here hx rfl (pc0 := 299) (pc' := 326) rfl (hb hby at_299) rfl ((if0 _ _).trans (teq rfl).1) (by decide) (by decide) ?_
        refine sJ X155.here hx (hb hby at_326) ?_
        refine XS.ifNo X155.here hx rfl (hb hby at_328) rfl ((if0 _ _).trans (feq (by decide)).1) ?_
        refine sB X155.here hx (hb hby at_331) ?_
        refine sC X155.here hx (hb hby at_333) ?_
        refine sJ X155.here hx (hb hby at_334) ?_
        refine XS.iadd X155.here hx rfl (hb hby at_336) rfl ?_
        refine st157 _ ?_
        refine XS.bipush X157.here hx rfl (hb hby at_340) ?_
        refine XS.icmpNo X157.here hx rfl (hb hby at_342) rfl (teq rfl).2 ?_
        refine sC X157.here hx (hb hby at_345) ?_
        refine XS.goto X157.here hx rfl (pc0 := 346) (pc' := 350) rfl (hb hby at_346) (by decide) (by decide) ?_
        refine XS.istore X157.here hx rfl (hb hby at_350) rfl (l' := #[vI p1, vI p2, vI p3, vI 0, vI 1, vI r_84, vI r_86, vI d0, vI d1, vR b91, vR b102, vI 1, vI 2, vR b122, vR y0_139, vI 1]) rfl ?_
        refine sJ X157.here hx (hb hby at_352) ?_
        refine XS.ifNo X157.here hx rfl (hb hby at_354) rfl ((if0 _ _).trans (feq (by decide)).1) ?_
        refine sB X157.here hx (hb hby at_357) ?_
        refine XS.bipush X157.here hx rfl (hb hby at_359) ?_
        refine sJ X157.here hx (hb hby at_361) ?_
        refine XS.iadd X157.here hx rfl (hb hby at_363) rfl ?_
        refine st159 _ ?_
        refine sJ X159.here hx (hb hby at_367) ?_
        refine XS.icmpNo X159.here hx rfl (hb hby at_369) rfl (teq rfl).2 ?_
        refine sC X159.here hx (hb hby at_372) ?_
        refine XS.goto X159.here hx rfl (pc0 := 373) (pc' := 377) rfl (hb hby at_373) (by decide) (by decide) ?_
        refine XS.istore X159.here hx rfl (hb hby at_377) rfl (l' := #[vI p1, vI p2, vI p3, vI 0, vI 1, vI r_84, vI r_86, vI d0, vI d1, vR b91, vR b102, vI 1, vI 2, vR b122, vR y0_139, vI 1]) rfl ?_
        refine sJ X159.here hx (hb hby at_379) ?_
        refine XS.ifNo X159.here hx rfl (hb hby at_381) rfl ((if0 _ _).trans (feq (by decide)).1) ?_
        refine sJ X159.here hx (hb hby at_384) ?_
        refine XS.ifNo X159.here hx rfl (hb hby at_386) rfl ((if0 _ _).trans (feq (by decide)).1) ?_
        refine sB X159.here hx (hb hby at_389) ?_
        refine XS.bipush X159.here hx rfl (hb hby at_391) ?_
        refine sJ X159.here hx (hb hby at_393) ?_
        refine XS.iadd X159.here hx rfl (hb hby at_395) rfl ?_
        refine st161 _ ?_
        refine sJ X161.here hx (hb hby at_399) ?_
        refine XS.icmpNo X161.here hx rfl (hb hby at_401) rfl (teq rfl).2 ?_
        refine sC X161.here hx (hb hby at_404) ?_
        refine XS.goto X161.here hx rfl (pc0 := 405) (pc' := 409) rfl (hb hby at_405) (by decide) (by decide) ?_
        refine XS.istore X161.here hx rfl (hb hby at_409) rfl (l' := #[vI p1, vI p2, vI p3, vI 0, vI 1, vI r_84, vI r_86, vI d0, vI d1, vR b91, vR b102, vI 1, vI 2, vR b122, vR y0_139, vI 1]) rfl ?_
        refine sJ X161.here hx (hb hby at_411) ?_
        exact retN X161 hx (t := .boolean) Bd.returns (by simp) (hb hby at_413) hr
      · show own_Ql n0 _ T161.heap _
        rw [e161]
        exact ⟨rfl, Na162⟩
      · show CHr Z own_EL s.vm s.heap T161.vm T161.heap
        rw [hh, e161]; exact CRz
  · have go12 : ∀ tq, Steps p.tables e below (s₁.setTop (mkF m 15 #[vI p1, vI p2, vI p3, vI 1, vU, vU, vU, vU, vU, vU, vU, vU, vU, vU, vU, vU] [(.int (p3 &&& (2 : Int32)))])) tq → Steps p.tables e below (s₁.setTop (mkF m 0 #[vI p1, vI p2, vI p3, vU, vU, vU, vU, vU, vU, vU, vU, vU, vU, vU, vU, vU] [])) tq := fun tq kt => go10 tq (by
        refine XS.ifNo X0.here hx rfl (hb hby at_3) rfl ((if0 _ _).trans (feq hf1).1) ?_
        refine sC X0.here hx (hb hby at_6) ?_
        refine XS.goto X0.here hx rfl (pc0 := 7) (pc' := 11) rfl (hb hby at_7) (by decide) (by decide) ?_
        refine XS.istoreN X0.here hx rfl (hb hby at_11) rfl (l' := #[vI p1, vI p2, vI p3, vI 1, vU, vU, vU, vU, vU, vU, vU, vU, vU, vU, vU, vU]) rfl ?_
        refine sI X0.here hx (hb hby at_12) ?_
        refine sC X0.here hx (hb hby at_13) ?_
        refine XS.iand X0.here hx rfl (hb hby at_14) rfl ?_
        exact kt)
    by_cases hf2 : (p3 &&& (2 : Int32)) = (0 : Int32)
    · obtain ⟨_, T163, L163, X163, ⟨r_163, rfl, Nq163, e163, Po163_0⟩, st163⟩ := own_cs 0 X0 hx hZ hown (ow hw 0 rfl) (ow hw 1 rfl) (ow hw 2 rfl) (ow hw 3 rfl) (own_tch hw p1 Z0 ) e0 (g := (mkF m 26 #[vI p1, vI p2, vI p3, vI 1, vI 0, vU, vU, vU, vU, vU, vU, vU, vU, vU, vU, vU] [(.int p1)])) (rest := []) (lenOf own_pd39 rfl) (hb hby at_26) hz
      have Na164 := Fr.app (Fr.nil n0) Nq163
      obtain ⟨_, T165, L165, X165, ⟨r_165, rfl, Nq165, e165, Po165_0⟩, st165⟩ := own_cs 0 X163 hx hZ hown (ow hw 0 rfl) (ow hw 1 rfl) (ow hw 2 rfl) (ow hw 3 rfl) (own_tch hw ((p1.toUInt32 >>> ((8 : Int32) &&& 31).toUInt32).toInt32) Z0 ) e163 (g := (mkF m 35 #[vI p1, vI p2, vI p3, vI 1, vI 0, vI r_163, vU, vU, vU, vU, vU, vU, vU, vU, vU, vU] [(.int ((p1.toUInt32 >>> ((8 : Int32) &&& 31).toUInt32).toInt32))])) (rest := []) (lenOf own_pd39 rfl) (hb hby at_35) hz
      have Na166 := Fr.app Na164 Nq165
      have go167 : ∀ tq, Steps p.tables e below (T165.setTop (mkF m 38 #[vI p1, vI p2, vI p3, vI 1, vI 0, vI r_163, vU, vU, vU, vU, vU, vU, vU, vU, vU, vU] [(.int r_165)])) tq → Steps p.tables e below (s₁.setTop (mkF m 0 #[vI p1, vI p2, vI p3, vU, vU, vU, vU, vU, vU, vU, vU, vU, vU, vU, vU, vU] [])) tq := fun tq kt => go12 tq (by
          refine XS.ifYes X0.here hx rfl (pc0 := 15) (pc' := 22) rfl (hb hby at_15) rfl ((if0 _ _).trans (teq hf2).1) (by decide) (by decide) ?_
          refine sC X0.here hx (hb hby at_22) ?_
          refine XS.istore X0.here hx rfl (hb hby at_23) rfl (l' := #[vI p1, vI p2, vI p3, vI 1, vI 0, vU, vU, vU, vU, vU, vU, vU, vU, vU, vU, vU]) rfl ?_
          refine sI X0.here hx (hb hby at_25) ?_
          refine st163 _ ?_
          refine XS.istore X163.here hx rfl (hb hby at_29) rfl (l' := #[vI p1, vI p2, vI p3, vI 1, vI 0, vI r_163, vU, vU, vU, vU, vU, vU, vU, vU, vU, vU]) rfl ?_
          refine sI X163.here hx (hb hby at_31) ?_
          refine XS.bipush X163.here hx rfl (hb hby at_32) ?_
          refine XS.iushr X163.here hx rfl (hb hby at_34) rfl ?_
          refine st165 _ ?_
          exact kt)
      obtain ⟨d0, d1, hgo169, go169⟩ : ∃ (d0 : Int32) (d1 : Int32), ((¬ d0 < 0 ∧ ¬ (255 : Int32) < d0) ∧ (¬ d1 < 0 ∧ ¬ (255 : Int32) < d1)) ∧ ∀ tq, Steps p.tables e below (T165.setTop (mkF m 59 #[vI p1, vI p2, vI p3, vI 1, vI 0, vI r_163, vI r_165, vI d0, vI d1, vU, vU, vU, vU, vU, vU, vU] [])) tq → Steps p.tables e below (s₁.setTop (mkF m 0 #[vI p1, vI p2, vI p3, vU, vU, vU, vU, vU, vU, vU, vU, vU, vU, vU, vU, vU] [])) tq := by
        have go168 : ∀ tq, Steps p.tables e below (T165.setTop (mkF m 59 #[vI p1, vI p2, vI p3, vI 1, vI 0, vI r_163, vI r_165, vI ((p2 &&& (255 : Int32)).toUInt32.toUInt16.toUInt32.toInt32), vI ((((p2.toUInt32 >>> ((8 : Int32) &&& 31).toUInt32).toInt32) &&& (255 : Int32)).toUInt32.toUInt16.toUInt32.toInt32), vU, vU, vU, vU, vU, vU, vU] [])) tq → Steps p.tables e below (s₁.setTop (mkF m 0 #[vI p1, vI p2, vI p3, vU, vU, vU, vU, vU, vU, vU, vU, vU, vU, vU, vU, vU] [])) tq := fun tq kt => go167 tq (by
            refine XS.istore X165.here hx rfl (hb hby at_38) rfl (l' := #[vI p1, vI p2, vI p3, vI 1, vI 0, vI r_163, vI r_165, vU, vU, vU, vU, vU, vU, vU, vU, vU]) rfl ?_
            refine sI X165.here hx (hb hby at_40) ?_
            refine XS.sipush X165.here hx rfl (hb hby at_41) ?_
            refine XS.iand X165.here hx rfl (hb hby at_44) rfl ?_
            refine XS.i2c X165.here hx rfl (hb hby at_45) rfl ?_
            refine XS.istore X165.here hx rfl (hb hby at_46) rfl (l' := #[vI p1, vI p2, vI p3, vI 1, vI 0, vI r_163, vI r_165, vI ((p2 &&& (255 : Int32)).toUInt32.toUInt16.toUInt32.toInt32), vU, vU, vU, vU, vU, vU, vU, vU]) rfl ?_
            refine sI X165.here hx (hb hby at_48) ?_
            refine XS.bipush X165.here hx rfl (hb hby at_49) ?_
            refine XS.iushr X165.here hx rfl (hb hby at_51) rfl ?_
            refine XS.sipush X165.here hx rfl (hb hby at_52) ?_
            refine XS.iand X165.here hx rfl (hb hby at_55) rfl ?_
            refine XS.i2c X165.here hx rfl (hb hby at_56) rfl ?_
            refine XS.istore X165.here hx rfl (hb hby at_57) rfl (l' := #[vI p1, vI p2, vI p3, vI 1, vI 0, vI r_163, vI r_165, vI ((p2 &&& (255 : Int32)).toUInt32.toUInt16.toUInt32.toInt32), vI ((((p2.toUInt32 >>> ((8 : Int32) &&& 31).toUInt32).toInt32) &&& (255 : Int32)).toUInt32.toUInt16.toUInt32.toInt32), vU, vU, vU, vU, vU, vU, vU]) rfl ?_
            exact kt)
        exact ⟨((p2 &&& (255 : Int32)).toUInt32.toUInt16.toUInt32.toInt32), ((((p2.toUInt32 >>> ((8 : Int32) &&& 31).toUInt32).toInt32) &&& (255 : Int32)).toUInt32.toUInt16.toUInt32.toInt32), ⟨own_d255 _, own_d255 _⟩, go168⟩
      obtain ⟨T170, h170, X170, e170, E170, A170, D170, -, st170⟩ := newO X165 hx hZ hown (ow hw 4 rfl) (ow hw 5 rfl) (ow hw 6 rfl) e165 (g := (mkF m 63 #[vI p1, vI p2, vI p3, vI 1, vI 0, vI r_163, vI r_165, vI d0, vI d1, vU, vU, vU, vU, vU, vU, vU] [])) rfl (hb hby at_63) (by decide) (by decide)
      obtain ⟨b170, g170⟩ : ∃ z, z = h0.size := ⟨_, rfl⟩
      rw [← g170] at A170 D170 st170
      have Fcoder_170 : Fld Z h170 b170 "java/lang/String" "coder" "B" (.int 0) := D170 (Or.inr (ow hw 31 rfl)) (ty := .byte) (by decide)
      have Fvalue_170 : Fld Z h170 b170 "java/lang/String" "value" "[B" .null := D170 (Or.inr (ow hw 33 rfl)) (ty := (.array .byte)) (by decide)
      obtain ⟨T171, h171, k171, X171, e171, E171, A171, st171⟩ := newP X170 hx hZ (ow hw 7 rfl) e170 (g := (mkF m 68 #[vI p1, vI p2, vI p3, vI 1, vI 0, vI r_163, vI r_165, vI d0, vI d1, vU, vU, vU, vU, vU, vU, vU] [(.int 2), (.ref b170), (.ref b170)])) rfl (hb hby at_68) rfl (by decide) (cap := 2) (by decide) (by decide) (by decide) (by decide)
      obtain ⟨b171, g171⟩ : ∃ z, z = h170.size := ⟨_, rfl⟩
      rw [← g171] at A171 st171
      have V171 : Arv Z h171 b171 k171 .char (2 : Int32) [(.int 0), (.int 0)] (.int 0) := (Arv.new A171 (by decide)).pad (pad_rep [] (.int 0) 2)
      obtain ⟨cl172, Ar172, q172, S172, M172, H172, G172⟩ := id V171
      obtain ⟨T173, h173, X173, e173, W173, st173⟩ := stC X171 hx hZ e171 Ar172 (j := (0 : Int32)) (inb_of S172 ⟨by decide, by decide⟩) (g := (mkF m 74 #[vI p1, vI p2, vI p3, vI 1, vI 0, vI r_163, vI r_165, vI d0, vI d1, vU, vU, vU, vU, vU, vU, vU] [(.int r_163), (.int 0), (.ref b171), (.ref b171), (.ref b170), (.ref b170)])) rfl rfl (hb hby at_74)
      have V173 : Arv Z h173 b171 k171 .char (2 : Int32) [(.int r_163), (.int 0)] (.int 0) := by have q := Arv.set Ar172 q172 S172 M172 H172 G172 (fits_nar_char _) W173 0 rfl (Nat.le_of_ble_eq_true rfl); rw [own_tcN Po163_0] at q; exact q
      have N173 := Fr.snoc X173 Na166 (Nat.le_trans (Nat.le_trans Z0 E170.1) (Nat.le_of_eq g171.symm))
      obtain ⟨cl174, Ar174, q174, S174, M174, H174, G174⟩ := id V173
      obtain ⟨T175, h175, X175, e175, W175, st175⟩ := stC X173 hx hZ e173 Ar174 (j := (1 : Int32)) (inb_of S174 ⟨by decide, by decide⟩) (g := (mkF m 79 #[vI p1, vI p2, vI p3, vI 1, vI 0, vI r_163, vI r_165, vI d0, vI d1, vU, vU, vU, vU, vU, vU, vU] [(.int r_165), (.int 1), (.ref b171), (.ref b171), (.ref b170), (.ref b170)])) rfl rfl (hb hby at_79)
      have V175 : Arv Z h175 b171 k171 .char (2 : Int32) [(.int r_163), (.int r_165)] (.int 0) := by have q := Arv.set Ar174 q174 S174 M174 H174 G174 (fits_nar_char _) W175 1 rfl (Nat.le_of_ble_eq_true rfl); rw [own_tcN Po165_0] at q; exact q
      have N175 := Fr.snoc X175 N173 (Nat.le_trans (Nat.le_trans Z0 E170.1) (Nat.le_of_eq g171.symm))
      have Xt176 : Ext h170 h173 := (own_xw E171 W173 (Nat.le_trans (own_xr h170).1 (Nat.le_of_eq g171.symm)))
      have Xt177 : Ext h170 h175 := (own_xw Xt176 W175 (Nat.le_trans (own_xr h170).1 (Nat.le_of_eq g171.symm)))
      have Xt178 : Ext h0 h171 := (own_xt E170 E171)
      have Xt179 : Ext h0 h173 := (own_xw Xt178 W173 (Nat.le_trans E170.1 (Nat.le_of_eq g171.symm)))
      have Xt180 : Ext h0 h175 := (own_xw Xt179 W175 (Nat.le_trans E170.1 (Nat.le_of_eq g171.symm)))
      have Gr183 : h0.size ≤ h171.size := Nat.le_trans E170.1 E171.1
      have Gr182 : h0.size ≤ h173.size := Nat.le_trans Gr183 (Keep.of_wr W173).1
      have Gr181 : h0.size ≤ h175.size := Nat.le_trans Gr182 (Keep.of_wr W175).1
      obtain ⟨_, T184, L184, X184, ⟨rfl, Nq184, K184, Po184_0⟩, st184⟩ := own_cp 1 X175 hx hZ hown (ow hw 8 rfl) (ow hw 9 rfl) (ow hw 6 rfl) (ow hw 10 rfl) (own_nS2 hw  (Nat.le_trans Z0 Gr181) (A170.ext Xt177) (Fvalue_170.ext Xt177) (Fcoder_170.ext Xt177) (Nat.le_trans Z0 (Nat.le_of_eq g170.symm)) V175 (SS.ext Xt180) Po163_0 Po165_0) e175 (g := (mkF m 80 #[vI p1, vI p2, vI p3, vI 1, vI 0, vI r_163, vI r_165, vI d0, vI d1, vU, vU, vU, vU, vU, vU, vU] [(.ref b171), (.ref b170), (.ref b170)])) (rest := [(.ref b170)]) (lenOf own_pd40 rfl) (hb hby at_80) hz
      have Na185 := Fr.app N175 Nq184
      obtain ⟨T186, h186, X186, e186, E186, A186, D186, -, st186⟩ := newO X184 hx hZ hown (ow hw 4 rfl) (ow hw 5 rfl) (ow hw 6 rfl) rfl (g := (mkF m 135 #[vI p1, vI p2, vI p3, vI 1, vI 0, vI r_163, vI r_165, vI d0, vI d1, vR b170, vU, vU, vU, vU, vU, vU] [])) rfl (hb hby at_135) (by decide) (by decide)
      obtain ⟨b186, g186⟩ : ∃ z, z = T184.heap.size := ⟨_, rfl⟩
      rw [← g186] at A186 D186 st186
      have Fcoder_186 : Fld Z h186 b186 "java/lang/String" "coder" "B" (.int 0) := D186 (Or.inr (ow hw 31 rfl)) (ty := .byte) (by decide)
      have Fvalue_186 : Fld Z h186 b186 "java/lang/String" "value" "[B" .null := D186 (Or.inr (ow hw 33 rfl)) (ty := (.array .byte)) (by decide)
      obtain ⟨T187, h187, k187, X187, e187, E187, A187, st187⟩ := newP X186 hx hZ (ow hw 7 rfl) e186 (g := (mkF m 140 #[vI p1, vI p2, vI p3, vI 1, vI 0, vI r_163, vI r_165, vI d0, vI d1, vR b170, vU, vU, vU, vU, vU, vU] [(.int 1), (.ref b186), (.ref b186)])) rfl (hb hby at_140) rfl (by decide) (cap := 1) (by decide) (by decide) (by decide) (by decide)
      obtain ⟨b187, g187⟩ : ∃ z, z = h186.size := ⟨_, rfl⟩
      rw [← g187] at A187 st187
      have V187 : Arv Z h187 b187 k187 .char (1 : Int32) [(.int 0)] (.int 0) := (Arv.new A187 (by decide)).pad (pad_rep [] (.int 0) 1)
      obtain ⟨cl188, Ar188, q188, S188, M188, H188, G188⟩ := id V187
      obtain ⟨T189, h189, X189, e189, W189, st189⟩ := stC X187 hx hZ e187 Ar188 (j := (0 : Int32)) (inb_of S188 ⟨by decide, by decide⟩) (g := (mkF m 146 #[vI p1, vI p2, vI p3, vI 1, vI 0, vI r_163, vI r_165, vI d0, vI d1, vR b170, vU, vU, vU, vU, vU, vU] [(.int d0), (.int 0), (.ref b187), (.ref b187), (.ref b186), (.ref b186)])) rfl rfl (hb hby at_146)
      have V189 : Arv Z h189 b187 k187 .char (1 : Int32) [(.int d0)] (.int 0) := by have q := Arv.set Ar188 q188 S188 M188 H188 G188 (fits_nar_char _) W189 0 rfl (Nat.le_of_ble_eq_true rfl); rw [own_nar hgo169.1] at q; exact q
      have Gr191 : h0.size ≤ T184.heap.size := Nat.le_trans Gr181 K184.1
      have Gr190 : h0.size ≤ h186.size := Nat.le_trans Gr191 E186.1
      have N189 := Fr.snoc X189 Na185 (Nat.le_trans (Nat.le_trans Z0 Gr190) (Nat.le_of_eq g187.symm))
      have Xt192 : Ext h186 h189 := (own_xw E187 W189 (Nat.le_trans (own_xr h186).1 (Nat.le_of_eq g187.symm)))
      have Xt193 : Ext h0 T184.heap := (own_xk Xt180 K184 ((allS (Nat.le_trans (own_xr h0).1 (Nat.le_of_eq g170.symm)) all0)))
      have Xt194 : Ext h0 h186 := (own_xt Xt193 E186)
      have Xt195 : Ext h0 h187 := (own_xt Xt194 E187)
      have Xt196 : Ext h0 h189 := (own_xw Xt195 W189 (Nat.le_trans Xt194.1 (Nat.le_of_eq g187.symm)))
      have Gr198 : h0.size ≤ h187.size := Nat.le_trans Gr190 E187.1
      have Gr197 : h0.size ≤ h189.size := Nat.le_trans Gr198 (Keep.of_wr W189).1
      obtain ⟨_, T199, L199, X199, ⟨t_199, kt_199, rfl, Nq199, K199, Po199_0, Po199_1⟩, st199⟩ := own_cp 1 X189 hx hZ hown (ow hw 8 rfl) (ow hw 9 rfl) (ow hw 6 rfl) (ow hw 10 rfl) (own_nL1 hw  (Nat.le_trans Z0 Gr197) (A186.ext Xt192) (Fvalue_186.ext Xt192) (Fcoder_186.ext Xt192) (Nat.le_trans (Nat.le_trans Z0 Gr191) (Nat.le_of_eq g186.symm)) V189 (SS.ext Xt196) hgo169.1.2) e189 (g := (mkF m 147 #[vI p1, vI p2, vI p3, vI 1, vI 0, vI r_163, vI r_165, vI d0, vI d1, vR b170, vU, vU, vU, vU, vU, vU] [(.ref b187), (.ref b186), (.ref b186)])) (rest := [(.ref b186)]) (lenOf own_pd40 rfl) (hb hby at_147) hz
      have Na200 := Fr.app N189 Nq199
      obtain ⟨T201, h201, X201, e201, E201, A201, D201, -, st201⟩ := newO X199 hx hZ hown (ow hw 34 rfl) (ow hw 35 rfl) (ow hw 36 rfl) rfl (g := (mkF m 175 #[vI p1, vI p2, vI p3, vI 1, vI 0, vI r_163, vI r_165, vI d0, vI d1, vR b170, vR b186, vI 2, vI 1, vU, vU, vU] [])) rfl (hb hby at_175) (by decide) (by decide)
      obtain ⟨b201, g201⟩ : ∃ z, z = T199.heap.size := ⟨_, rfl⟩
      rw [← g201] at A201 D201 st201
      have Ftype_201 : Fld Z h201 b201 "com/example/libhasp/libhasp/RecordName" "type" "Ljava/lang/String;" .null := D201 (Or.inr (ow hw 97 rfl)) (ty := (.object "java/lang/String")) (by decide)
      have Fid_201 : Fld Z h201 b201 "com/example/libhasp/libhasp/RecordName" "id" "Ljava/lang/String;" .null := D201 (Or.inr (ow hw 99 rfl)) (ty := (.object "java/lang/String")) (by decide)
      have Gr202 : h0.size ≤ T199.heap.size := Nat.le_trans Gr197 K199.1
      have Xt203 : Ext T184.heap h187 := (own_xt E186 E187)
      have Xt204 : Ext T184.heap h189 := (own_xw Xt203 W189 (Nat.le_trans E186.1 (Nat.le_of_eq g187.symm)))
      have Xt205 : Ext T184.heap T199.heap := (own_xk Xt204 K199 ((allS (Nat.le_trans (own_xr T184.heap).1 (Nat.le_of_eq g186.symm)) all0)))
      have Xt206 : Ext T184.heap h201 := (own_xt Xt205 E201)
      have Xt207 : Ext h0 T199.heap := (own_xk Xt196 K199 ((allS (Nat.le_trans Xt193.1 (Nat.le_of_eq g186.symm)) all0)))
      have Xt208 : Ext h0 h201 := (own_xt Xt207 E201)
      have Gr209 : h0.size ≤ h201.size := Nat.le_trans Gr202 E201.1
      have CR210 : CHr Z own_EL s.vm h0 s.vm h201 := CR0.trans (CHr.ext Xt208 CR0.1)
      obtain ⟨_, _, ⟨T211, L211, k211, n211⟩, -, Xw211, hSw211, hgr211, ⟨Lc211, hQ211, l211, y211, z211, hC211⟩, st211⟩ := X201.specialBackS hx (y := y_63) rfl hown (mvT hZ (ow hw 37 rfl)) (mvT hZ (ow hw 38 rfl)) (mvT hZ (ow hw 39 rfl)) (by decide) (backOfSH (W := 1) (own_rnM2 l Z a0 hw [] b201 b170 b186 r_163 r_165 t_199 kt_199 (1 : Int32) [(.int (own_b d0))] w2 fm h201 n0 (Nat.le_trans Z0 Gr209) A201 Ftype_201 Fid_201 (Nat.le_trans (Nat.le_trans Z0 Gr202) (Nat.le_of_eq g201.symm)) (Po184_0.ext Xt206) (Po199_0.1.ext E201) (Po199_0.2.1.ext E201) (Po199_0.2.2.2.ext E201) (by decide) (SS.ext Xt208) Po163_0 Po165_0) hZ (ow hw 39 rfl) (ow hw 36 rfl) (by decide) (by decide) (own_ew hw) CR210.1) (g := (mkF m 183 #[vI p1, vI p2, vI p3, vI 1, vI 0, vI r_163, vI r_165, vI d0, vI d1, vR b170, vR b186, vI 2, vI 1, vU, vU, vU] [(.ref b186), (.ref b170), (.ref b201), (.ref b201)])) rfl hz (Steps.refl _) (a := b201) (argsL := [(.ref b170), (.ref b186)]) (rest := [(.ref b201)]) (lenOf own_pd41 rfl) rfl (Nat.le_of_eq rfl) (hb hby at_183) (fun _ _ => ⟨rfl, e201, (by decide : 9 + 4 ≤ _), (by decide : 22 + 168 ≤ _)⟩)
      dsimp only [Pt.U, Pt.locs, Pt.cells, Pt.slots] at Xw211 hSw211 hgr211 l211 y211 z211 st211 hQ211 hC211
      subst l211 y211 z211
      obtain ⟨X211, hS211, hZ211, ho211⟩ := rebS (n1 := h201.size) hS0 (Nat.zero_le _) Xw211 hSw211 (by rw [← e201]; exact hgr211) hZ hown
      have CRw211 : CHr Z own_EL s.vm h0 T211.vm T211.heap := CR210.trans hC211
      obtain ⟨rfl, Nq211, K211, Po211_0, Po211_1, Po211_2⟩ := hQ211
      have Na212 := Fr.app Na200 Nq211
      have Xt213 : Ext T184.heap T211.heap := (own_xk Xt206 K211 ((allS (Nat.le_trans Xt205.1 (Nat.le_of_eq g201.symm)) all0)))
      have Xt214 : Ext T199.heap T211.heap := (own_xk E201 K211 ((allS (Nat.le_trans (own_xr T199.heap).1 (Nat.le_of_eq g201.symm)) all0)))
      have Xt215 : Ext h0 T211.heap := (own_xk Xt208 K211 ((allS (Nat.le_trans Xt207.1 (Nat.le_of_eq g201.symm)) all0)))
      have Gr216 : h0.size ≤ T211.heap.size := Nat.le_trans Gr209 K211.1
      obtain ⟨cq217, kq217, qa217, qb217, qc217⟩ := isOf hZ211 rfl Po211_0
      obtain ⟨_, _, ⟨T217, L217, k217, n217⟩, -, Xw217, hSw217, hgr217, ⟨Lc217, hQ217, l217, y217, z217, hC217⟩, st217⟩ := X211.virtualBackS hx (y := y_64) (z := y_64) ho211 (mvT hZ211 (ow hw 100 rfl)) (mvT hZ211 (ow hw 101 rfl)) (notFace_of_selects (args := #[]) (mvT hZ211 (ow hw 103 rfl))) (mvT hZ211 (ow hw 103 rfl)) (mvT hZ211 (ow hw 102 rfl)) (by decide) (backOfSH (W := 0) (own_rkM21 l Z a0 hw [] b201 b170 b186 t_199 kt_199 r_163 r_165 d0 w2 fm T211.heap n0 (Nat.le_trans Z0 Gr216) Po211_0 Po211_1 Po211_2 (Po184_0.ext Xt213) (Po199_0.ext Xt214) (SS.ext Xt215) hgo169.1) hZ211 (ow hw 104 rfl) (ow hw 36 rfl) (by decide) (by decide) (own_ew hw) CRw211.1) qa217 qc217 (g := (mkF m 190 #[vI p1, vI p2, vI p3, vI 1, vI 0, vI r_163, vI r_165, vI d0, vI d1, vR b170, vR b186, vI 2, vI 1, vR b201, vU, vU] [(.ref b201)])) rfl hz (Steps.refl _) (argsL := []) (rest := []) (lenOf own_pd38 rfl) rfl (Nat.le_of_eq rfl) (hb hby at_190) (fun _ _ => ⟨rfl, rfl, (by decide : 13 + 7 ≤ _), (by decide : 190 + 100 ≤ _)⟩)
      dsimp only [Pt.U, Pt.locs, Pt.cells, Pt.slots] at Xw217 hSw217 hgr217 l217 y217 z217 st217 hQ217 hC217
      subst l217 y217 z217
      obtain ⟨X217, hS217, hZ217, ho217⟩ := rebS hS211 (Nat.le_refl _) Xw217 hSw217 hgr217 hZ211 ho211
      have CRw217 : CHr Z own_EL s.vm h0 T217.vm T217.heap := CRw211.trans hC217
      obtain ⟨y0_217, rfl, Nq217, E217, Po217_0, Po217_1⟩ := hQ217
      have Na218 := Fr.app Na212 Nq217
      have Xt219 : Ext h0 T217.heap := (own_xt Xt215 E217)
      have Gr220 : h0.size ≤ T217.heap.size := Nat.le_trans Gr216 E217.1
      obtain ⟨_, T221, L221, X221, ⟨rfl, Nq221, e221⟩, st221⟩ := own_cv 0 X217 hx hZ217 ho217 (ow hw 217 rfl) (ow hw 70 rfl) (ow hw 52 rfl) (ow hw 72 rfl) (ow hw 71 rfl) (ow hw 6 rfl) (ow hw 73 rfl) (own_lenM hw 9 (9 : Int32) (Nat.le_trans Z0 Gr220) Po217_1 (SS.ext Xt219) rfl (by decide)) rfl Po217_0 (g := (mkF m 197 #[vI p1, vI p2, vI p3, vI 1, vI 0, vI r_163, vI r_165, vI d0, vI d1, vR b170, vR b186, vI 2, vI 1, vR b201, vR y0_217, vU] [(.ref y0_217)])) (rest := []) (lenOf own_pd13 rfl) (hb hby at_197) hz
      have Na222 := Fr.app Na218 Nq221
      obtain ⟨_, T223, L223, X223, ⟨rfl, Nq223, e223⟩, st223⟩ := own_cv 0 X221 hx hZ217 ho217 (ow hw 218 rfl) (ow hw 219 rfl) (ow hw 52 rfl) (ow hw 221 rfl) (ow hw 220 rfl) (ow hw 6 rfl) (ow hw 222 rfl) (own_chM hw (0 : Int32) 0 9 (104 : Int32) (Nat.le_trans Z0 Gr220) Po217_1 (SS.ext Xt219) rfl rfl (by decide) (by decide)) e221 Po217_0 (g := (mkF m 216 #[vI p1, vI p2, vI p3, vI 1, vI 0, vI r_163, vI r_165, vI d0, vI d1, vR b170, vR b186, vI 2, vI 1, vR b201, vR y0_217, vU] [(.int 0), (.ref y0_217)])) (rest := []) (lenOf own_pd39 rfl) (hb hby at_216) hz
      have Na224 := Fr.app Na222 Nq223
      obtain ⟨_, T225, L225, X225, ⟨rfl, Nq225, e225⟩, st225⟩ := own_cv 0 X223 hx hZ217 ho217 (ow hw 218 rfl) (ow hw 219 rfl) (ow hw 52 rfl) (ow hw 221 rfl) (ow hw 220 rfl) (ow hw 6 rfl) (ow hw 222 rfl) (own_chM hw (1 : Int32) 1 9 (97 : Int32) (Nat.le_trans Z0 Gr220) Po217_1 (SS.ext Xt219) rfl rfl (by decide) (by decide)) e223 Po217_0 (g := (mkF m 227 #[vI p1, vI p2, vI p3, vI 1, vI 0, vI r_163, vI r_165, vI d0, vI d1, vR b170, vR b186, vI 2, vI 1, vR b201, vR y0_217, vU] [(.int 1), (.ref y0_217)])) (rest := []) (lenOf own_pd39 rfl) (hb hby at_227) hz
      have Na226 := Fr.app Na224 Nq225
      obtain ⟨_, T227, L227, X227, ⟨rfl, Nq227, e227⟩, st227⟩ := own_cv 0 X225 hx hZ217 ho217 (ow hw 218 rfl) (ow hw 219 rfl) (ow hw 52 rfl) (ow hw 221 rfl) (ow hw 220 rfl) (ow hw 6 rfl) (ow hw 222 rfl) (own_chM hw (2 : Int32) 2 9 (115 : Int32) (Nat.le_trans Z0 Gr220) Po217_1 (SS.ext Xt219) rfl rfl (by decide) (by decide)) e225 Po217_0 (g := (mkF m 238 #[vI p1, vI p2, vI p3, vI 1, vI 0, vI r_163, vI r_165, vI d0, vI d1, vR b170, vR b186, vI 2, vI 1, vR b201, vR y0_217, vU] [(.int 2), (.ref y0_217)])) (rest := []) (lenOf own_pd39 rfl) (hb hby at_238) hz
      have Na228 := Fr.app Na226 Nq227
      obtain ⟨_, T229, L229, X229, ⟨rfl, Nq229, e229⟩, st229⟩ := own_cv 0 X227 hx hZ217 ho217 (ow hw 218 rfl) (ow hw 219 rfl) (ow hw 52 rfl) (ow hw 221 rfl) (ow hw 220 rfl) (ow hw 6 rfl) (ow hw 222 rfl) (own_chM hw (3 : Int32) 3 9 (112 : Int32) (Nat.le_trans Z0 Gr220) Po217_1 (SS.ext Xt219) rfl rfl (by decide) (by decide)) e227 Po217_0 (g := (mkF m 249 #[vI p1, vI p2, vI p3, vI 1, vI 0, vI r_163, vI r_165, vI d0, vI d1, vR b170, vR b186, vI 2, vI 1, vR b201, vR y0_217, vU] [(.int 3), (.ref y0_217)])) (rest := []) (lenOf own_pd39 rfl) (hb hby at_249) hz
      have Na230 := Fr.app Na228 Nq229
      obtain ⟨_, T231, L231, X231, ⟨rfl, Nq231, e231⟩, st231⟩ := own_cv 0 X229 hx hZ217 ho217 (ow hw 218 rfl) (ow hw 219 rfl) (ow hw 52 rfl) (ow hw 221 rfl) (ow hw 220 rfl) (ow hw 6 rfl) (ow hw 222 rfl) (own_chM hw (4 : Int32) 4 9 (58 : Int32) (Nat.le_trans Z0 Gr220) Po217_1 (SS.ext Xt219) rfl rfl (by decide) (by decide)) e229 Po217_0 (g := (mkF m 260 #[vI p1, vI p2, vI p3, vI 1, vI 0, vI r_163, vI r_165, vI d0, vI d1, vR b170, vR b186, vI 2, vI 1, vR b201, vR y0_217, vU] [(.int 4), (.ref y0_217)])) (rest := []) (lenOf own_pd39 rfl) (hb hby at_260) hz
      have Na232 := Fr.app Na230 Nq231
      obtain ⟨_, T233, L233, X233, ⟨rfl, Nq233, e233⟩, st233⟩ := own_cv 0 X231 hx hZ217 ho217 (ow hw 218 rfl) (ow hw 219 rfl) (ow hw 52 rfl) (ow hw 221 rfl) (ow hw 220 rfl) (ow hw 6 rfl) (ow hw 222 rfl) (own_chM hw (5 : Int32) 5 9 r_163 (Nat.le_trans Z0 Gr220) Po217_1 (SS.ext Xt219) rfl rfl (by decide) (own_tcc Po163_0)) e231 Po217_0 (g := (mkF m 283 #[vI p1, vI p2, vI p3, vI 1, vI 0, vI r_163, vI r_165, vI d0, vI d1, vR b170, vR b186, vI 2, vI 1, vR b201, vR y0_217, vI 1] [(.int 5), (.ref y0_217)])) (rest := []) (lenOf own_pd39 rfl) (hb hby at_283) hz
      have Na234 := Fr.app Na232 Nq233
      obtain ⟨_, T235, L235, X235, ⟨rfl, Nq235, e235⟩, st235⟩ := own_cv 0 X233 hx hZ217 ho217 (ow hw 218 rfl) (ow hw 219 rfl) (ow hw 52 rfl) (ow hw 221 rfl) (ow hw 220 rfl) (ow hw 6 rfl) (ow hw 222 rfl) (own_chM hw (6 : Int32) 6 9 r_165 (Nat.le_trans Z0 Gr220) Po217_1 (SS.ext Xt219) rfl rfl (by decide) (own_tcc Po165_0)) e233 Po217_0 (g := (mkF m 311 #[vI p1, vI p2, vI p3, vI 1, vI 0, vI r_163, vI r_165, vI d0, vI d1, vR b170, vR b186, vI 2, vI 1, vR b201, vR y0_217, vI 1] [(.int 6), (.ref y0_217)])) (rest := []) (lenOf own_pd39 rfl) (hb hby at_311) hz
      have Na236 := Fr.app Na234 Nq235
      obtain ⟨_, T237, L237, X237, ⟨rfl, Nq237, e237⟩, st237⟩ := own_cv 0 X235 hx hZ217 ho217 (ow hw 218 rfl) (ow hw 219 rfl) (ow hw 52 rfl) (ow hw 221 rfl) (ow hw 220 rfl) (ow hw 6 rfl) (ow hw 222 rfl) (own_chM hw (7 : Int32) 7 9 (58 : Int32) (Nat.le_trans Z0 Gr220) Po217_1 (SS.ext Xt219) rfl rfl (by decide) (by decide)) e235 Po217_0 (g := (mkF m 337 #[vI p1, vI p2, vI p3, vI 1, vI 0, vI r_163, vI r_165, vI d0, vI d1, vR b170, vR b186, vI 2, vI 1, vR b201, vR y0_217, vI 1] [(.int 7), (.ref y0_217)])) (rest := []) (lenOf own_pd39 rfl) (hb hby at_337) hz
      have Na238 := Fr.app Na236 Nq237
      obtain ⟨_, T239, L239, X239, ⟨rfl, Nq239, e239⟩, st239⟩ := own_cv 0 X237 hx hZ217 ho217 (ow hw 218 rfl) (ow hw 219 rfl) (ow hw 52 rfl) (ow hw 221 rfl) (ow hw 220 rfl) (ow hw 6 rfl) (ow hw 222 rfl) (own_chM hw (8 : Int32) 8 9 d0 (Nat.le_trans Z0 Gr220) Po217_1 (SS.ext Xt219) rfl rfl (by decide) (Or.inl hgo169.1)) e237 Po217_0 (g := (mkF m 364 #[vI p1, vI p2, vI p3, vI 1, vI 0, vI r_163, vI r_165, vI d0, vI d1, vR b170, vR b186, vI 2, vI 1, vR b201, vR y0_217, vI 1] [(.int 8), (.ref y0_217)])) (rest := []) (lenOf own_pd39 rfl) (hb hby at_364) hz
      have Na240 := Fr.app Na238 Nq239
      have CRz : CHr Z own_EL s.vm h0 T239.vm T217.heap := CRw217.trans (CHv.at X239 hZ217 (own_ew hw) CRw217.1)
      obtain ⟨fs, hr, hrun, hended, hRW⟩ := X239.leaveW hS217 (by rw [e239]; exact (Nat.le_refl _)) (v := some (.int 1)) (fun h => by rw [Bd.returns] at h; cases h)
      refine ⟨_, _, pre0 _ (go169 _ ?_), hrun, hended, _, _, rfl, ?_, ?_, own_rew hRW (by decide) (by decide)⟩
      · refine sI X165.here hx (hb hby at_59) ?_
        refine XS.ifNo X165.here hx rfl (hb hby at_60) rfl ((if0 _ _).trans (feq (by decide)).1) ?_
        refine st170 _ ?_
        refine XS.dup X170.here hx rfl (hb hby at_66) rfl rfl ?_
        refine sC X170.here hx (hb hby at_67) ?_
        refine st171 _ ?_
        refine XS.dup X171.here hx rfl (hb hby at_70) rfl rfl ?_
        refine sC X171.here hx (hb hby at_71) ?_
        refine sJ X171.here hx (hb hby at_72) ?_
        refine st173 _ ?_
        refine XS.dup X173.here hx rfl (hb hby at_75) rfl rfl ?_
        refine sC X173.here hx (hb hby at_76) ?_
        refine sJ X173.here hx (hb hby at_77) ?_
        refine st175 _ ?_
        refine st184 _ ?_
        refine XS.astore X184.here hx rfl (hb hby at_83) rfl rfl (l' := #[vI p1, vI p2, vI p3, vI 1, vI 0, vI r_163, vI r_165, vI d0, vI d1, vR b170, vU, vU, vU, vU, vU, vU]) rfl ?_
        refine XS.goto X184.here hx rfl (pc0 := 85) (pc' := 105) rfl (hb hby at_85) (by decide) (by decide) ?_
        refine sJ X184.here hx (hb hby at_105) ?_
        refine XS.ifYes X184.here hx rfl (pc0 := 107) (pc' := 135) rfl (hb hby at_107) rfl ((if0 _ _).trans (teq rfl).1) (by decide) (by decide) ?_
        refine st186 _ ?_
        refine XS.dup X186.here hx rfl (hb hby at_138) rfl rfl ?_
        refine sC X186.here hx (hb hby at_139) ?_
        refine st187 _ ?_
        refine XS.dup X187.here hx rfl (hb hby at_142) rfl rfl ?_
        refine sC X187.here hx (hb hby at_143) ?_
        refine sJ X187.here hx (hb hby at_144) ?_
        refine st189 _ ?_
        refine st199 _ ?_
        refine XS.astore X199.here hx rfl (hb hby at_150) rfl rfl (l' := #[vI p1, vI p2, vI p3, vI 1, vI 0, vI r_163, vI r_165, vI d0, vI d1, vR b170, vR b186, vU, vU, vU, vU, vU]) rfl ?_
        refine sI X199.here hx (hb hby at_152) ?_
        refine XS.ifNo X199.here hx rfl (hb hby at_153) rfl ((if0 _ _).trans (feq (by decide)).1) ?_
        refine sC X199.here hx (hb hby at_156) ?_
        refine XS.goto X199.here hx rfl (pc0 := 157) (pc' := 161) rfl (hb hby at_157) (by decide) (by decide) ?_
        refine XS.istore X199.here hx rfl (hb hby at_161) rfl (l' := #[vI p1, vI p2, vI p3, vI 1, vI 0, vI r_163, vI r_165, vI d0, vI d1, vR b170, vR b186, vI 2, vU, vU, vU, vU]) rfl ?_
        refine sJ X199.here hx (hb hby at_163) ?_
        refine XS.ifYes X199.here hx rfl (pc0 := 165) (pc' := 172) rfl (hb hby at_165) rfl ((if0 _ _).trans (teq rfl).1) (by decide) (by decide) ?_
        refine sC X199.here hx (hb hby at_172) ?_
        refine XS.istore X199.here hx rfl (hb hby at_173) rfl (l' := #[vI p1, vI p2, vI p3, vI 1, vI 0, vI r_163, vI r_165, vI d0, vI d1, vR b170, vR b186, vI 2, vI 1, vU, vU, vU]) rfl ?_
        refine st201 _ ?_
        refine XS.dup X201.here hx rfl (hb hby at_178) rfl rfl ?_
        refine sB X201.here hx (hb hby at_179) ?_
        refine sB X201.here hx (hb hby at_181) ?_
        refine st211.trans ?_
        refine XS.astore X211.here hx rfl (hb hby at_186) rfl rfl (l' := #[vI p1, vI p2, vI p3, vI 1, vI 0, vI r_163, vI r_165, vI d0, vI d1, vR b170, vR b186, vI 2, vI 1, vR b201, vU, vU]) rfl ?_
        refine sB X211.here hx (hb hby at_188) ?_
        refine st217.trans ?_
        refine XS.astore X217.here hx rfl (hb hby at_193) rfl rfl (l' := #[vI p1, vI p2, vI p3, vI 1, vI 0, vI r_163, vI r_165, vI d0, vI d1, vR b170, vR b186, vI 2, vI 1, vR b201, vR y0_217, vU]) rfl ?_
        refine sB X217.here hx (hb hby at_195) ?_
        refine st221 _ ?_
        refine XS.bipush X221.here hx rfl (hb hby at_200) ?_
        refine sJ X221.here hx (hb hby at_202) ?_
        refine XS.iadd X221.here hx rfl (hb hby at_204) rfl ?_
        refine sJ X221.here hx (hb hby at_205) ?_
        refine XS.iadd X221.here hx rfl (hb hby at_207) rfl ?_
        refine XS.icmpYes X221.here hx rfl (pc0 := 208) (pc' := 213) rfl (hb hby at_208) rfl (teq rfl).1 (by decide) (by decide) ?_
        refine sB X221.here hx (hb hby at_213) ?_
        refine sC X221.here hx (hb hby at_215) ?_
        refine st223 _ ?_
        refine XS.bipush X223.here hx rfl (hb hby at_219) ?_
        refine XS.icmpNo X223.here hx rfl (hb hby at_221) rfl (teq rfl).2 ?_
        refine sB X223.here hx (hb hby at_224) ?_
        refine sC X223.here hx (hb hby at_226) ?_
        refine st225 _ ?_
        refine XS.bipush X225.here hx rfl (hb hby at_230) ?_
        refine XS.icmpNo X225.here hx rfl (hb hby at_232) rfl (teq rfl).2 ?_
        refine sB X225.here hx (hb hby at_235) ?_
        refine sC X225.here hx (hb hby at_237) ?_
        refine st227 _ ?_
        refine XS.bipush X227.here hx rfl (hb hby at_241) ?_
        refine XS.icmpNo X227.here hx rfl (hb hby at_243) rfl (teq rfl).2 ?_
        refine sB X227.here hx (hb hby at_246) ?_
        refine sC X227.here hx (hb hby at_248) ?_
        refine st229 _ ?_
        refine XS.bipush X229.here hx rfl (hb hby at_252) ?_
        refine XS.icmpNo X229.here hx rfl (hb hby at_254) rfl (teq rfl).2 ?_
        refine sB X229.here hx (hb hby at_257) ?_
        refine sC X229.here hx (hb hby at_259) ?_
        refine st231 _ ?_
        refine XS.bipush X231.here hx rfl (hb hby at_263) ?_
        refine XS.icmpNo X231.here hx rfl (hb hby at_265) rfl (teq rfl).2 ?_
        refine sC X231.here hx (hb hby at_268) ?_
        refine XS.goto X231.here hx rfl (pc0 := 269) (pc' := 273) rfl (hb hby at_269) (by decide) (by decide) ?_
        refine XS.istore X231.here hx rfl (hb hby at_273) rfl (l' := #[vI p1, vI p2, vI p3, vI 1, vI 0, vI r_163, vI r_165, vI d0, vI d1, vR b170, vR b186, vI 2, vI 1, vR b201, vR y0_217, vI 1]) rfl ?_
        refine sJ X231.here hx (hb hby at_275) ?_
        refine XS.ifNo X231.here hx rfl (hb hby at_277) rfl ((if0 _ _).trans (feq (by decide)).1) ?_
        refine sB X231.here hx (hb hby at_280) ?_
        refine sC X231.here hx (hb hby at_282) ?_
        refine st233 _ ?_
        refine sJ X233.here hx (hb hby at_286) ?_
        refine XS.icmpNo X233.here hx rfl (hb hby at_288) rfl (teq rfl).2 ?_
        refine sC X233.here hx (hb hby at_291) ?_
        refine XS.goto X233.here hx rfl (pc0 := 292) (pc' := 296) rfl (hb hby at_292) (by decide) (by decide) ?_
        refine XS.istore X233.here hx rfl (hb hby at_296) rfl (l' := #[vI p1, vI p2, vI p3, vI 1, vI 0, vI r_163, vI r_165, vI d0, vI d1, vR b170, vR b186, vI 2, vI 1, vR b201, vR y0_217, vI 1]) rfl ?_
        refine sI X233.here hx (hb hby at_298) ?_
        refine XS.ifNo X233.here hx rfl (hb hby at_299) rfl ((if0 _ _).trans (feq (by decide)).1) ?_
        refine sJ X233.here hx (hb hby at_302) ?_
        refine XS.ifNo X233.here hx rfl (hb hby at_304) rfl ((if0 _ _).trans (feq (by decide)).1) ?_
        refine sB X233.here hx (hb hby at_307) ?_
        refine XS.bipush X233.here hx rfl (hb hby at_309) ?_
        refine st235 _ ?_
        refine sJ X235.here hx (hb hby at_314) ?_
        refine XS.icmpNo X235.here hx rfl (hb hby at_316) rfl (teq rfl).2 ?_
        refine sC X235.here hx (hb hby at_319) ?_
        refine XS.goto X235.here hx rfl (pc0 := 320) (pc' := 324) rfl (hb hby at_320) (by decide) (by decide) ?_
        refine XS.istore X235.here hx rfl (hb hby at_324) rfl (l' := #[vI p1, vI p2, vI p3, vI 1, vI 0, vI r_163, vI r_165, vI d0, vI d1, vR b170, vR b186, vI 2, vI 1, vR b201, vR y0_217, vI 1]) rfl ?_
        refine sJ X235.here hx (hb hby at_326) ?_
        refine XS.ifNo X235.here hx rfl (hb hby at_328) rfl ((if0 _ _).trans (feq (by decide)).1) ?_
        refine sB X235.here hx (hb hby at_331) ?_
        refine sC X235.here hx (hb hby at_333) ?_
        refine sJ X235.here hx (hb hby at_334) ?_
        refine XS.iadd X235.here hx rfl (hb hby at_336) rfl ?_
        refine st237 _ ?_
        refine XS.bipush X237.here hx rfl (hb hby at_340) ?_
        refine XS.icmpNo X237.here hx rfl (hb hby at_342) rfl (teq rfl).2 ?_
        refine sC X237.here hx (hb hby at_345) ?_
        refine XS.goto X237.here hx rfl (pc0 := 346) (pc' := 350) rfl (hb hby at_346) (by decide) (by decide) ?_
        refine XS.istore X237.here hx rfl (hb hby at_350) rfl (l' := #[vI p1, vI p2, vI p3, vI 1, vI 0, vI r_163, vI r_165, vI d0, vI d1, vR b170, vR b186, vI 2, vI 1, vR b201, vR y0_217, vI 1]) rfl ?_
        refine sJ X237.here hx (hb hby at_352) ?_
        refine XS.ifNo X237.here hx rfl (hb hby at_354) rfl ((if0 _ _).trans (feq (by decide)).1) ?_
        refine sB X237.here hx (hb hby at_357) ?_
        refine XS.bipush X237.here hx rfl (hb hby at_359) ?_
        refine sJ X237.here hx (hb hby at_361) ?_
        refine XS.iadd X237.here hx rfl (hb hby at_363) rfl ?_
        refine st239 _ ?_
        refine sJ X239.here hx (hb hby at_367) ?_
        refine XS.icmpNo X239.here hx rfl (hb hby at_369) rfl (teq rfl).2 ?_
        refine sC X239.here hx (hb hby at_372) ?_
        refine XS.goto X239.here hx rfl (pc0 := 373) (pc' := 377) rfl (hb hby at_373) (by decide) (by decide) ?_
        refine XS.istore X239.here hx rfl (hb hby at_377) rfl (l' := #[vI p1, vI p2, vI p3, vI 1, vI 0, vI r_163, vI r_165, vI d0, vI d1, vR b170, vR b186, vI 2, vI 1, vR b201, vR y0_217, vI 1]) rfl ?_
        refine sJ X239.here hx (hb hby at_379) ?_
        refine XS.ifYes X239.here hx rfl (pc0 := 381) (pc' := 411) rfl (hb hby at_381) rfl ((if0 _ _).trans (teq rfl).1) (by decide) (by decide) ?_
        refine sJ X239.here hx (hb hby at_411) ?_
        exact retN X239 hx (t := .boolean) Bd.returns (by simp) (hb hby at_413) hr
      · show own_Ql n0 _ T239.heap _
        rw [e239]
        exact ⟨rfl, Na240⟩
      · show CHr Z own_EL s.vm s.heap T239.vm T239.heap
        rw [hh, e239]; exact CRz
    · obtain ⟨_, T241, L241, X241, ⟨r_241, rfl, Nq241, e241, Po241_0⟩, st241⟩ := own_cs 0 X0 hx hZ hown (ow hw 0 rfl) (ow hw 1 rfl) (ow hw 2 rfl) (ow hw 3 rfl) (own_tch hw p1 Z0 ) e0 (g := (mkF m 26 #[vI p1, vI p2, vI p3, vI 1, vI 1, vU, vU, vU, vU, vU, vU, vU, vU, vU, vU, vU] [(.int p1)])) (rest := []) (lenOf own_pd39 rfl) (hb hby at_26) hz
      have Na242 := Fr.app (Fr.nil n0) Nq241
      obtain ⟨_, T243, L243, X243, ⟨r_243, rfl, Nq243, e243, Po243_0⟩, st243⟩ := own_cs 0 X241 hx hZ hown (ow hw 0 rfl) (ow hw 1 rfl) (ow hw 2 rfl) (ow hw 3 rfl) (own_tch hw ((p1.toUInt32 >>> ((8 : Int32) &&& 31).toUInt32).toInt32) Z0 ) e241 (g := (mkF m 35 #[vI p1, vI p2, vI p3, vI 1, vI 1, vI r_241, vU, vU, vU, vU, vU, vU, vU, vU, vU, vU] [(.int ((p1.toUInt32 >>> ((8 : Int32) &&& 31).toUInt32).toInt32))])) (rest := []) (lenOf own_pd39 rfl) (hb hby at_35) hz
      have Na244 := Fr.app Na242 Nq243
      have go245 : ∀ tq, Steps p.tables e below (T243.setTop (mkF m 38 #[vI p1, vI p2, vI p3, vI 1, vI 1, vI r_241, vU, vU, vU, vU, vU, vU, vU, vU, vU, vU] [(.int r_243)])) tq → Steps p.tables e below (s₁.setTop (mkF m 0 #[vI p1, vI p2, vI p3, vU, vU, vU, vU, vU, vU, vU, vU, vU, vU, vU, vU, vU] [])) tq := fun tq kt => go12 tq (by
          refine XS.ifNo X0.here hx rfl (hb hby at_15) rfl ((if0 _ _).trans (feq hf2).1) ?_
          refine sC X0.here hx (hb hby at_18) ?_
          refine XS.goto X0.here hx rfl (pc0 := 19) (pc' := 23) rfl (hb hby at_19) (by decide) (by decide) ?_
          refine XS.istore X0.here hx rfl (hb hby at_23) rfl (l' := #[vI p1, vI p2, vI p3, vI 1, vI 1, vU, vU, vU, vU, vU, vU, vU, vU, vU, vU, vU]) rfl ?_
          refine sI X0.here hx (hb hby at_25) ?_
          refine st241 _ ?_
          refine XS.istore X241.here hx rfl (hb hby at_29) rfl (l' := #[vI p1, vI p2, vI p3, vI 1, vI 1, vI r_241, vU, vU, vU, vU, vU, vU, vU, vU, vU, vU]) rfl ?_
          refine sI X241.here hx (hb hby at_31) ?_
          refine XS.bipush X241.here hx rfl (hb hby at_32) ?_
          refine XS.iushr X241.here hx rfl (hb hby at_34) rfl ?_
          refine st243 _ ?_
          exact kt)
      obtain ⟨d0, d1, hgo247, go247⟩ : ∃ (d0 : Int32) (d1 : Int32), ((¬ d0 < 0 ∧ ¬ (255 : Int32) < d0) ∧ (¬ d1 < 0 ∧ ¬ (255 : Int32) < d1)) ∧ ∀ tq, Steps p.tables e below (T243.setTop (mkF m 59 #[vI p1, vI p2, vI p3, vI 1, vI 1, vI r_241, vI r_243, vI d0, vI d1, vU, vU, vU, vU, vU, vU, vU] [])) tq → Steps p.tables e below (s₁.setTop (mkF m 0 #[vI p1, vI p2, vI p3, vU, vU, vU, vU, vU, vU, vU, vU, vU, vU, vU, vU, vU] [])) tq := by
        have go246 : ∀ tq, Steps p.tables e below (T243.setTop (mkF m 59 #[vI p1, vI p2, vI p3, vI 1, vI 1, vI r_241, vI r_243, vI ((p2 &&& (255 : Int32)).toUInt32.toUInt16.toUInt32.toInt32), vI ((((p2.toUInt32 >>> ((8 : Int32) &&& 31).toUInt32).toInt32) &&& (255 : Int32)).toUInt32.toUInt16.toUInt32.toInt32), vU, vU, vU, vU, vU, vU, vU] [])) tq → Steps p.tables e below (s₁.setTop (mkF m 0 #[vI p1, vI p2, vI p3, vU, vU, vU, vU, vU, vU, vU, vU, vU, vU, vU, vU, vU] [])) tq := fun tq kt => go245 tq (by
            refine XS.istore X243.here hx rfl (hb hby at_38) rfl (l' := #[vI p1, vI p2, vI p3, vI 1, vI 1, vI r_241, vI r_243, vU, vU, vU, vU, vU, vU, vU, vU, vU]) rfl ?_
            refine sI X243.here hx (hb hby at_40) ?_
            refine XS.sipush X243.here hx rfl (hb hby at_41) ?_
            refine XS.iand X243.here hx rfl (hb hby at_44) rfl ?_
            refine XS.i2c X243.here hx rfl (hb hby at_45) rfl ?_
            refine XS.istore X243.here hx rfl (hb hby at_46) rfl (l' := #[vI p1, vI p2, vI p3, vI 1, vI 1, vI r_241, vI r_243, vI ((p2 &&& (255 : Int32)).toUInt32.toUInt16.toUInt32.toInt32), vU, vU, vU, vU, vU, vU, vU, vU]) rfl ?_
            refine sI X243.here hx (hb hby at_48) ?_
            refine XS.bipush X243.here hx rfl (hb hby at_49) ?_
            refine XS.iushr X243.here hx rfl (hb hby at_51) rfl ?_
            refine XS.sipush X243.here hx rfl (hb hby at_52) ?_
            refine XS.iand X243.here hx rfl (hb hby at_55) rfl ?_
            refine XS.i2c X243.here hx rfl (hb hby at_56) rfl ?_
            refine XS.istore X243.here hx rfl (hb hby at_57) rfl (l' := #[vI p1, vI p2, vI p3, vI 1, vI 1, vI r_241, vI r_243, vI ((p2 &&& (255 : Int32)).toUInt32.toUInt16.toUInt32.toInt32), vI ((((p2.toUInt32 >>> ((8 : Int32) &&& 31).toUInt32).toInt32) &&& (255 : Int32)).toUInt32.toUInt16.toUInt32.toInt32), vU, vU, vU, vU, vU, vU, vU]) rfl ?_
            exact kt)
        exact ⟨((p2 &&& (255 : Int32)).toUInt32.toUInt16.toUInt32.toInt32), ((((p2.toUInt32 >>> ((8 : Int32) &&& 31).toUInt32).toInt32) &&& (255 : Int32)).toUInt32.toUInt16.toUInt32.toInt32), ⟨own_d255 _, own_d255 _⟩, go246⟩
      obtain ⟨T248, h248, X248, e248, E248, A248, D248, -, st248⟩ := newO X243 hx hZ hown (ow hw 4 rfl) (ow hw 5 rfl) (ow hw 6 rfl) e243 (g := (mkF m 63 #[vI p1, vI p2, vI p3, vI 1, vI 1, vI r_241, vI r_243, vI d0, vI d1, vU, vU, vU, vU, vU, vU, vU] [])) rfl (hb hby at_63) (by decide) (by decide)
      obtain ⟨b248, g248⟩ : ∃ z, z = h0.size := ⟨_, rfl⟩
      rw [← g248] at A248 D248 st248
      have Fcoder_248 : Fld Z h248 b248 "java/lang/String" "coder" "B" (.int 0) := D248 (Or.inr (ow hw 31 rfl)) (ty := .byte) (by decide)
      have Fvalue_248 : Fld Z h248 b248 "java/lang/String" "value" "[B" .null := D248 (Or.inr (ow hw 33 rfl)) (ty := (.array .byte)) (by decide)
      obtain ⟨T249, h249, k249, X249, e249, E249, A249, st249⟩ := newP X248 hx hZ (ow hw 7 rfl) e248 (g := (mkF m 68 #[vI p1, vI p2, vI p3, vI 1, vI 1, vI r_241, vI r_243, vI d0, vI d1, vU, vU, vU, vU, vU, vU, vU] [(.int 2), (.ref b248), (.ref b248)])) rfl (hb hby at_68) rfl (by decide) (cap := 2) (by decide) (by decide) (by decide) (by decide)
      obtain ⟨b249, g249⟩ : ∃ z, z = h248.size := ⟨_, rfl⟩
      rw [← g249] at A249 st249
      have V249 : Arv Z h249 b249 k249 .char (2 : Int32) [(.int 0), (.int 0)] (.int 0) := (Arv.new A249 (by decide)).pad (pad_rep [] (.int 0) 2)
      obtain ⟨cl250, Ar250, q250, S250, M250, H250, G250⟩ := id V249
      obtain ⟨T251, h251, X251, e251, W251, st251⟩ := stC X249 hx hZ e249 Ar250 (j := (0 : Int32)) (inb_of S250 ⟨by decide, by decide⟩) (g := (mkF m 74 #[vI p1, vI p2, vI p3, vI 1, vI 1, vI r_241, vI r_243, vI d0, vI d1, vU, vU, vU, vU, vU, vU, vU] [(.int r_241), (.int 0), (.ref b249), (.ref b249), (.ref b248), (.ref b248)])) rfl rfl (hb hby at_74)
      have V251 : Arv Z h251 b249 k249 .char (2 : Int32) [(.int r_241), (.int 0)] (.int 0) := by have q := Arv.set Ar250 q250 S250 M250 H250 G250 (fits_nar_char _) W251 0 rfl (Nat.le_of_ble_eq_true rfl); rw [own_tcN Po241_0] at q; exact q
      have N251 := Fr.snoc X251 Na244 (Nat.le_trans (Nat.le_trans Z0 E248.1) (Nat.le_of_eq g249.symm))
      obtain ⟨cl252, Ar252, q252, S252, M252, H252, G252⟩ := id V251
      obtain ⟨T253, h253, X253, e253, W253, st253⟩ := stC X251 hx hZ e251 Ar252 (j := (1 : Int32)) (inb_of S252 ⟨by decide, by decide⟩) (g := (mkF m 79 #[vI p1, vI p2, vI p3, vI 1, vI 1, vI r_241, vI r_243, vI d0, vI d1, vU, vU, vU, vU, vU, vU, vU] [(.int r_243), (.int 1), (.ref b249), (.ref b249), (.ref b248), (.ref b248)])) rfl rfl (hb hby at_79)
      have V253 : Arv Z h253 b249 k249 .char (2 : Int32) [(.int r_241), (.int r_243)] (.int 0) := by have q := Arv.set Ar252 q252 S252 M252 H252 G252 (fits_nar_char _) W253 1 rfl (Nat.le_of_ble_eq_true rfl); rw [own_tcN Po243_0] at q; exact q
      have N253 := Fr.snoc X253 N251 (Nat.le_trans (Nat.le_trans Z0 E248.1) (Nat.le_of_eq g249.symm))
      have Xt254 : Ext h248 h251 := (own_xw E249 W251 (Nat.le_trans (own_xr h248).1 (Nat.le_of_eq g249.symm)))
      have Xt255 : Ext h248 h253 := (own_xw Xt254 W253 (Nat.le_trans (own_xr h248).1 (Nat.le_of_eq g249.symm)))
      have Xt256 : Ext h0 h249 := (own_xt E248 E249)
      have Xt257 : Ext h0 h251 := (own_xw Xt256 W251 (Nat.le_trans E248.1 (Nat.le_of_eq g249.symm)))
      have Xt258 : Ext h0 h253 := (own_xw Xt257 W253 (Nat.le_trans E248.1 (Nat.le_of_eq g249.symm)))
      have Gr261 : h0.size ≤ h249.size := Nat.le_trans E248.1 E249.1
      have Gr260 : h0.size ≤ h251.size := Nat.le_trans Gr261 (Keep.of_wr W251).1
      have Gr259 : h0.size ≤ h253.size := Nat.le_trans Gr260 (Keep.of_wr W253).1
      obtain ⟨_, T262, L262, X262, ⟨rfl, Nq262, K262, Po262_0⟩, st262⟩ := own_cp 1 X253 hx hZ hown (ow hw 8 rfl) (ow hw 9 rfl) (ow hw 6 rfl) (ow hw 10 rfl) (own_nS2 hw  (Nat.le_trans Z0 Gr259) (A248.ext Xt255) (Fvalue_248.ext Xt255) (Fcoder_248.ext Xt255) (Nat.le_trans Z0 (Nat.le_of_eq g248.symm)) V253 (SS.ext Xt258) Po241_0 Po243_0) e253 (g := (mkF m 80 #[vI p1, vI p2, vI p3, vI 1, vI 1, vI r_241, vI r_243, vI d0, vI d1, vU, vU, vU, vU, vU, vU, vU] [(.ref b249), (.ref b248), (.ref b248)])) (rest := [(.ref b248)]) (lenOf own_pd40 rfl) (hb hby at_80) hz
      have Na263 := Fr.app N253 Nq262
      obtain ⟨T264, h264, X264, e264, E264, A264, D264, -, st264⟩ := newO X262 hx hZ hown (ow hw 4 rfl) (ow hw 5 rfl) (ow hw 6 rfl) rfl (g := (mkF m 110 #[vI p1, vI p2, vI p3, vI 1, vI 1, vI r_241, vI r_243, vI d0, vI d1, vR b248, vU, vU, vU, vU, vU, vU] [])) rfl (hb hby at_110) (by decide) (by decide)
      obtain ⟨b264, g264⟩ : ∃ z, z = T262.heap.size := ⟨_, rfl⟩
      rw [← g264] at A264 D264 st264
      have Fcoder_264 : Fld Z h264 b264 "java/lang/String" "coder" "B" (.int 0) := D264 (Or.inr (ow hw 31 rfl)) (ty := .byte) (by decide)
      have Fvalue_264 : Fld Z h264 b264 "java/lang/String" "value" "[B" .null := D264 (Or.inr (ow hw 33 rfl)) (ty := (.array .byte)) (by decide)
      obtain ⟨T265, h265, k265, X265, e265, E265, A265, st265⟩ := newP X264 hx hZ (ow hw 7 rfl) e264 (g := (mkF m 115 #[vI p1, vI p2, vI p3, vI 1, vI 1, vI r_241, vI r_243, vI d0, vI d1, vR b248, vU, vU, vU, vU, vU, vU] [(.int 2), (.ref b264), (.ref b264)])) rfl (hb hby at_115) rfl (by decide) (cap := 2) (by decide) (by decide) (by decide) (by decide)
      obtain ⟨b265, g265⟩ : ∃ z, z = h264.size := ⟨_, rfl⟩
      rw [← g265] at A265 st265
      have V265 : Arv Z h265 b265 k265 .char (2 : Int32) [(.int 0), (.int 0)] (.int 0) := (Arv.new A265 (by decide)).pad (pad_rep [] (.int 0) 2)
      obtain ⟨cl266, Ar266, q266, S266, M266, H266, G266⟩ := id V265
      obtain ⟨T267, h267, X267, e267, W267, st267⟩ := stC X265 hx hZ e265 Ar266 (j := (0 : Int32)) (inb_of S266 ⟨by decide, by decide⟩) (g := (mkF m 121 #[vI p1, vI p2, vI p3, vI 1, vI 1, vI r_241, vI r_243, vI d0, vI d1, vR b248, vU, vU, vU, vU, vU, vU] [(.int d0), (.int 0), (.ref b265), (.ref b265), (.ref b264), (.ref b264)])) rfl rfl (hb hby at_121)
      have V267 : Arv Z h267 b265 k265 .char (2 : Int32) [(.int d0), (.int 0)] (.int 0) := by have q := Arv.set Ar266 q266 S266 M266 H266 G266 (fits_nar_char _) W267 0 rfl (Nat.le_of_ble_eq_true rfl); rw [own_nar hgo247.1] at q; exact q
      have Gr269 : h0.size ≤ T262.heap.size := Nat.le_trans Gr259 K262.1
      have Gr268 : h0.size ≤ h264.size := Nat.le_trans Gr269 E264.1
      have N267 := Fr.snoc X267 Na263 (Nat.le_trans (Nat.le_trans Z0 Gr268) (Nat.le_of_eq g265.symm))
      obtain ⟨cl270, Ar270, q270, S270, M270, H270, G270⟩ := id V267
      obtain ⟨T271, h271, X271, e271, W271, st271⟩ := stC X267 hx hZ e267 Ar270 (j := (1 : Int32)) (inb_of S270 ⟨by decide, by decide⟩) (g := (mkF m 126 #[vI p1, vI p2, vI p3, vI 1, vI 1, vI r_241, vI r_243, vI d0, vI d1, vR b248, vU, vU, vU, vU, vU, vU] [(.int d1), (.int 1), (.ref b265), (.ref b265), (.ref b264), (.ref b264)])) rfl rfl (hb hby at_126)
      have V271 : Arv Z h271 b265 k265 .char (2 : Int32) [(.int d0), (.int d1)] (.int 0) := by have q := Arv.set Ar270 q270 S270 M270 H270 G270 (fits_nar_char _) W271 1 rfl (Nat.le_of_ble_eq_true rfl); rw [own_nar hgo247.2] at q; exact q
      have N271 := Fr.snoc X271 N267 (Nat.le_trans (Nat.le_trans Z0 Gr268) (Nat.le_of_eq g265.symm))
      have Xt272 : Ext h264 h267 := (own_xw E265 W267 (Nat.le_trans (own_xr h264).1 (Nat.le_of_eq g265.symm)))
      have Xt273 : Ext h264 h271 := (own_xw Xt272 W271 (Nat.le_trans (own_xr h264).1 (Nat.le_of_eq g265.symm)))
      have Xt274 : Ext h0 T262.heap := (own_xk Xt258 K262 ((allS (Nat.le_trans (own_xr h0).1 (Nat.le_of_eq g248.symm)) all0)))
      have Xt275 : Ext h0 h264 := (own_xt Xt274 E264)
      have Xt276 : Ext h0 h265 := (own_xt Xt275 E265)
      have Xt277 : Ext h0 h267 := (own_xw Xt276 W267 (Nat.le_trans Xt275.1 (Nat.le_of_eq g265.symm)))
      have Xt278 : Ext h0 h271 := (own_xw Xt277 W271 (Nat.le_trans Xt275.1 (Nat.le_of_eq g265.symm)))
      have Gr281 : h0.size ≤ h265.size := Nat.le_trans Gr268 E265.1
      have Gr280 : h0.size ≤ h267.size := Nat.le_trans Gr281 (Keep.of_wr W267).1
      have Gr279 : h0.size ≤ h271.size := Nat.le_trans Gr280 (Keep.of_wr W271).1
      obtain ⟨_, T282, L282, X282, ⟨t_282, kt_282, rfl, Nq282, K282, Po282_0, Po282_1⟩, st282⟩ := own_cp 1 X271 hx hZ hown (ow hw 8 rfl) (ow hw 9 rfl) (ow hw 6 rfl) (ow hw 10 rfl) (own_nL2 hw  (Nat.le_trans Z0 Gr279) (A264.ext Xt273) (Fvalue_264.ext Xt273) (Fcoder_264.ext Xt273) (Nat.le_trans (Nat.le_trans Z0 Gr269) (Nat.le_of_eq g264.symm)) V271 (SS.ext Xt278) hgo247.1.2 hgo247.2.2) e271 (g := (mkF m 127 #[vI p1, vI p2, vI p3, vI 1, vI 1, vI r_241, vI r_243, vI d0, vI d1, vR b248, vU, vU, vU, vU, vU, vU] [(.ref b265), (.ref b264), (.ref b264)])) (rest := [(.ref b264)]) (lenOf own_pd40 rfl) (hb hby at_127) hz
      have Na283 := Fr.app N271 Nq282
      obtain ⟨T284, h284, X284, e284, E284, A284, D284, -, st284⟩ := newO X282 hx hZ hown (ow hw 34 rfl) (ow hw 35 rfl) (ow hw 36 rfl) rfl (g := (mkF m 175 #[vI p1, vI p2, vI p3, vI 1, vI 1, vI r_241, vI r_243, vI d0, vI d1, vR b248, vR b264, vI 2, vI 2, vU, vU, vU] [])) rfl (hb hby at_175) (by decide) (by decide)
      obtain ⟨b284, g284⟩ : ∃ z, z = T282.heap.size := ⟨_, rfl⟩
      rw [← g284] at A284 D284 st284
      have Ftype_284 : Fld Z h284 b284 "com/example/libhasp/libhasp/RecordName" "type" "Ljava/lang/String;" .null := D284 (Or.inr (ow hw 97 rfl)) (ty := (.object "java/lang/String")) (by decide)
      have Fid_284 : Fld Z h284 b284 "com/example/libhasp/libhasp/RecordName" "id" "Ljava/lang/String;" .null := D284 (Or.inr (ow hw 99 rfl)) (ty := (.object "java/lang/String")) (by decide)
      have Gr285 : h0.size ≤ T282.heap.size := Nat.le_trans Gr279 K282.1
      have Xt286 : Ext T262.heap h265 := (own_xt E264 E265)
      have Xt287 : Ext T262.heap h267 := (own_xw Xt286 W267 (Nat.le_trans E264.1 (Nat.le_of_eq g265.symm)))
      have Xt288 : Ext T262.heap h271 := (own_xw Xt287 W271 (Nat.le_trans E264.1 (Nat.le_of_eq g265.symm)))
      have Xt289 : Ext T262.heap T282.heap := (own_xk Xt288 K282 ((allS (Nat.le_trans (own_xr T262.heap).1 (Nat.le_of_eq g264.symm)) all0)))
      have Xt290 : Ext T262.heap h284 := (own_xt Xt289 E284)
      have Xt291 : Ext h0 T282.heap := (own_xk Xt278 K282 ((allS (Nat.le_trans Xt274.1 (Nat.le_of_eq g264.symm)) all0)))
      have Xt292 : Ext h0 h284 := (own_xt Xt291 E284)
      have Gr293 : h0.size ≤ h284.size := Nat.le_trans Gr285 E284.1
      have CR294 : CHr Z own_EL s.vm h0 s.vm h284 := CR0.trans (CHr.ext Xt292 CR0.1)
      obtain ⟨_, _, ⟨T295, L295, k295, n295⟩, -, Xw295, hSw295, hgr295, ⟨Lc295, hQ295, l295, y295, z295, hC295⟩, st295⟩ := X284.specialBackS hx (y := y_63) rfl hown (mvT hZ (ow hw 37 rfl)) (mvT hZ (ow hw 38 rfl)) (mvT hZ (ow hw 39 rfl)) (by decide) (backOfSH (W := 1) (own_rnM2 l Z a0 hw [] b284 b248 b264 r_241 r_243 t_282 kt_282 (2 : Int32) [(.int (own_b d0)), (.int (own_b d1))] w2 fm h284 n0 (Nat.le_trans Z0 Gr293) A284 Ftype_284 Fid_284 (Nat.le_trans (Nat.le_trans Z0 Gr285) (Nat.le_of_eq g284.symm)) (Po262_0.ext Xt290) (Po282_0.1.ext E284) (Po282_0.2.1.ext E284) (Po282_0.2.2.2.ext E284) (by decide) (SS.ext Xt292) Po241_0 Po243_0) hZ (ow hw 39 rfl) (ow hw 36 rfl) (by decide) (by decide) (own_ew hw) CR294.1) (g := (mkF m 183 #[vI p1, vI p2, vI p3, vI 1, vI 1, vI r_241, vI r_243, vI d0, vI d1, vR b248, vR b264, vI 2, vI 2, vU, vU, vU] [(.ref b264), (.ref b248), (.ref b284), (.ref b284)])) rfl hz (Steps.refl _) (a := b284) (argsL := [(.ref b248), (.ref b264)]) (rest := [(.ref b284)]) (lenOf own_pd41 rfl) rfl (Nat.le_of_eq rfl) (hb hby at_183) (fun _ _ => ⟨rfl, e284, (by decide : 9 + 4 ≤ _), (by decide : 26 + 168 ≤ _)⟩)
      dsimp only [Pt.U, Pt.locs, Pt.cells, Pt.slots] at Xw295 hSw295 hgr295 l295 y295 z295 st295 hQ295 hC295
      subst l295 y295 z295
      obtain ⟨X295, hS295, hZ295, ho295⟩ := rebS (n1 := h284.size) hS0 (Nat.zero_le _) Xw295 hSw295 (by rw [← e284]; exact hgr295) hZ hown
      have CRw295 : CHr Z own_EL s.vm h0 T295.vm T295.heap := CR294.trans hC295
      obtain ⟨rfl, Nq295, K295, Po295_0, Po295_1, Po295_2⟩ := hQ295
      have Na296 := Fr.app Na283 Nq295
      have Xt297 : Ext T262.heap T295.heap := (own_xk Xt290 K295 ((allS (Nat.le_trans Xt289.1 (Nat.le_of_eq g284.symm)) all0)))
      have Xt298 : Ext T282.heap T295.heap := (own_xk E284 K295 ((allS (Nat.le_trans (own_xr T282.heap).1 (Nat.le_of_eq g284.symm)) all0)))
      have Xt299 : Ext h0 T295.heap := (own_xk Xt292 K295 ((allS (Nat.le_trans Xt291.1 (Nat.le_of_eq g284.symm)) all0)))
      have Gr300 : h0.size ≤ T295.heap.size := Nat.le_trans Gr293 K295.1
      obtain ⟨cq301, kq301, qa301, qb301, qc301⟩ := isOf hZ295 rfl Po295_0
      obtain ⟨_, _, ⟨T301, L301, k301, n301⟩, -, Xw301, hSw301, hgr301, ⟨Lc301, hQ301, l301, y301, z301, hC301⟩, st301⟩ := X295.virtualBackS hx (y := y_64) (z := y_64) ho295 (mvT hZ295 (ow hw 100 rfl)) (mvT hZ295 (ow hw 101 rfl)) (notFace_of_selects (args := #[]) (mvT hZ295 (ow hw 103 rfl))) (mvT hZ295 (ow hw 103 rfl)) (mvT hZ295 (ow hw 102 rfl)) (by decide) (backOfSH (W := 0) (own_rkM22 l Z a0 hw [] b284 b248 b264 t_282 kt_282 r_241 r_243 d0 d1 w2 fm T295.heap n0 (Nat.le_trans Z0 Gr300) Po295_0 Po295_1 Po295_2 (Po262_0.ext Xt297) (Po282_0.ext Xt298) (SS.ext Xt299) hgo247.1 hgo247.2) hZ295 (ow hw 104 rfl) (ow hw 36 rfl) (by decide) (by decide) (own_ew hw) CRw295.1) qa301 qc301 (g := (mkF m 190 #[vI p1, vI p2, vI p3, vI 1, vI 1, vI r_241, vI r_243, vI d0, vI d1, vR b248, vR b264, vI 2, vI 2, vR b284, vU, vU] [(.ref b284)])) rfl hz (Steps.refl _) (argsL := []) (rest := []) (lenOf own_pd38 rfl) rfl (Nat.le_of_eq rfl) (hb hby at_190) (fun _ _ => ⟨rfl, rfl, (by decide : 13 + 7 ≤ _), (by decide : 194 + 100 ≤ _)⟩)
      dsimp only [Pt.U, Pt.locs, Pt.cells, Pt.slots] at Xw301 hSw301 hgr301 l301 y301 z301 st301 hQ301 hC301
      subst l301 y301 z301
      obtain ⟨X301, hS301, hZ301, ho301⟩ := rebS hS295 (Nat.le_refl _) Xw301 hSw301 hgr301 hZ295 ho295
      have CRw301 : CHr Z own_EL s.vm h0 T301.vm T301.heap := CRw295.trans hC301
      obtain ⟨y0_301, rfl, Nq301, E301, Po301_0, Po301_1⟩ := hQ301
      have Na302 := Fr.app Na296 Nq301
      have Xt303 : Ext h0 T301.heap := (own_xt Xt299 E301)
      have Gr304 : h0.size ≤ T301.heap.size := Nat.le_trans Gr300 E301.1
      obtain ⟨_, T305, L305, X305, ⟨rfl, Nq305, e305⟩, st305⟩ := own_cv 0 X301 hx hZ301 ho301 (ow hw 217 rfl) (ow hw 70 rfl) (ow hw 52 rfl) (ow hw 72 rfl) (ow hw 71 rfl) (ow hw 6 rfl) (ow hw 73 rfl) (own_lenM hw 10 (10 : Int32) (Nat.le_trans Z0 Gr304) Po301_1 (SS.ext Xt303) rfl (by decide)) rfl Po301_0 (g := (mkF m 197 #[vI p1, vI p2, vI p3, vI 1, vI 1, vI r_241, vI r_243, vI d0, vI d1, vR b248, vR b264, vI 2, vI 2, vR b284, vR y0_301, vU] [(.ref y0_301)])) (rest := []) (lenOf own_pd13 rfl) (hb hby at_197) hz
      have Na306 := Fr.app Na302 Nq305
      obtain ⟨_, T307, L307, X307, ⟨rfl, Nq307, e307⟩, st307⟩ := own_cv 0 X305 hx hZ301 ho301 (ow hw 218 rfl) (ow hw 219 rfl) (ow hw 52 rfl) (ow hw 221 rfl) (ow hw 220 rfl) (ow hw 6 rfl) (ow hw 222 rfl) (own_chM hw (0 : Int32) 0 10 (104 : Int32) (Nat.le_trans Z0 Gr304) Po301_1 (SS.ext Xt303) rfl rfl (by decide) (by decide)) e305 Po301_0 (g := (mkF m 216 #[vI p1, vI p2, vI p3, vI 1, vI 1, vI r_241, vI r_243, vI d0, vI d1, vR b248, vR b264, vI 2, vI 2, vR b284, vR y0_301, vU] [(.int 0), (.ref y0_301)])) (rest := []) (lenOf own_pd39 rfl) (hb hby at_216) hz
      have Na308 := Fr.app Na306 Nq307
      obtain ⟨_, T309, L309, X309, ⟨rfl, Nq309, e309⟩, st309⟩ := own_cv 0 X307 hx hZ301 ho301 (ow hw 218 rfl) (ow hw 219 rfl) (ow hw 52 rfl) (ow hw 221 rfl) (ow hw 220 rfl) (ow hw 6 rfl) (ow hw 222 rfl) (own_chM hw (1 : Int32) 1 10 (97 : Int32) (Nat.le_trans Z0 Gr304) Po301_1 (SS.ext Xt303) rfl rfl (by decide) (by decide)) e307 Po301_0 (g := (mkF m 227 #[vI p1, vI p2, vI p3, vI 1, vI 1, vI r_241, vI r_243, vI d0, vI d1, vR b248, vR b264, vI 2, vI 2, vR b284, vR y0_301, vU] [(.int 1), (.ref y0_301)])) (rest := []) (lenOf own_pd39 rfl) (hb hby at_227) hz
      have Na310 := Fr.app Na308 Nq309
      obtain ⟨_, T311, L311, X311, ⟨rfl, Nq311, e311⟩, st311⟩ := own_cv 0 X309 hx hZ301 ho301 (ow hw 218 rfl) (ow hw 219 rfl) (ow hw 52 rfl) (ow hw 221 rfl) (ow hw 220 rfl) (ow hw 6 rfl) (ow hw 222 rfl) (own_chM hw (2 : Int32) 2 10 (115 : Int32) (Nat.le_trans Z0 Gr304) Po301_1 (SS.ext Xt303) rfl rfl (by decide) (by decide)) e309 Po301_0 (g := (mkF m 238 #[vI p1, vI p2, vI p3, vI 1, vI 1, vI r_241, vI r_243, vI d0, vI d1, vR b248, vR b264, vI 2, vI 2, vR b284, vR y0_301, vU] [(.int 2), (.ref y0_301)])) (rest := []) (lenOf own_pd39 rfl) (hb hby at_238) hz
      have Na312 := Fr.app Na310 Nq311
      obtain ⟨_, T313, L313, X313, ⟨rfl, Nq313, e313⟩, st313⟩ := own_cv 0 X311 hx hZ301 ho301 (ow hw 218 rfl) (ow hw 219 rfl) (ow hw 52 rfl) (ow hw 221 rfl) (ow hw 220 rfl) (ow hw 6 rfl) (ow hw 222 rfl) (own_chM hw (3 : Int32) 3 10 (112 : Int32) (Nat.le_trans Z0 Gr304) Po301_1 (SS.ext Xt303) rfl rfl (by decide) (by decide)) e311 Po301_0 (g := (mkF m 249 #[vI p1, vI p2, vI p3, vI 1, vI 1, vI r_241, vI r_243, vI d0, vI d1, vR b248, vR b264, vI 2, vI 2, vR b284, vR y0_301, vU] [(.int 3), (.ref y0_301)])) (rest := []) (lenOf own_pd39 rfl) (hb hby at_249) hz
      have Na314 := Fr.app Na312 Nq313
      obtain ⟨_, T315, L315, X315, ⟨rfl, Nq315, e315⟩, st315⟩ := own_cv 0 X313 hx hZ301 ho301 (ow hw 218 rfl) (ow hw 219 rfl) (ow hw 52 rfl) (ow hw 221 rfl) (ow hw 220 rfl) (ow hw 6 rfl) (ow hw 222 rfl) (own_chM hw (4 : Int32) 4 10 (58 : Int32) (Nat.le_trans Z0 Gr304) Po301_1 (SS.ext Xt303) rfl rfl (by decide) (by decide)) e313 Po301_0 (g := (mkF m 260 #[vI p1, vI p2, vI p3, vI 1, vI 1, vI r_241, vI r_243, vI d0, vI d1, vR b248, vR b264, vI 2, vI 2, vR b284, vR y0_301, vU] [(.int 4), (.ref y0_301)])) (rest := []) (lenOf own_pd39 rfl) (hb hby at_260) hz
      have Na316 := Fr.app Na314 Nq315
      obtain ⟨_, T317, L317, X317, ⟨rfl, Nq317, e317⟩, st317⟩ := own_cv 0 X315 hx hZ301 ho301 (ow hw 218 rfl) (ow hw 219 rfl) (ow hw 52 rfl) (ow hw 221 rfl) (ow hw 220 rfl) (ow hw 6 rfl) (ow hw 222 rfl) (own_chM hw (5 : Int32) 5 10 r_241 (Nat.le_trans Z0 Gr304) Po301_1 (SS.ext Xt303) rfl rfl (by decide) (own_tcc Po241_0)) e315 Po301_0 (g := (mkF m 283 #[vI p1, vI p2, vI p3, vI 1, vI 1, vI r_241, vI r_243, vI d0, vI d1, vR b248, vR b264, vI 2, vI 2, vR b284, vR y0_301, vI 1] [(.int 5), (.ref y0_301)])) (rest := []) (lenOf own_pd39 rfl) (hb hby at_283) hz
      have Na318 := Fr.app Na316 Nq317
      obtain ⟨_, T319, L319, X319, ⟨rfl, Nq319, e319⟩, st319⟩ := own_cv 0 X317 hx hZ301 ho301 (ow hw 218 rfl) (ow hw 219 rfl) (ow hw 52 rfl) (ow hw 221 rfl) (ow hw 220 rfl) (ow hw 6 rfl) (ow hw 222 rfl) (own_chM hw (6 : Int32) 6 10 r_243 (Nat.le_trans Z0 Gr304) Po301_1 (SS.ext Xt303) rfl rfl (by decide) (own_tcc Po243_0)) e317 Po301_0 (g := (mkF m 311 #[vI p1, vI p2, vI p3, vI 1, vI 1, vI r_241, vI r_243, vI d0, vI d1, vR b248, vR b264, vI 2, vI 2, vR b284, vR y0_301, vI 1] [(.int 6), (.ref y0_301)])) (rest := []) (lenOf own_pd39 rfl) (hb hby at_311) hz
      have Na320 := Fr.app Na318 Nq319
      obtain ⟨_, T321, L321, X321, ⟨rfl, Nq321, e321⟩, st321⟩ := own_cv 0 X319 hx hZ301 ho301 (ow hw 218 rfl) (ow hw 219 rfl) (ow hw 52 rfl) (ow hw 221 rfl) (ow hw 220 rfl) (ow hw 6 rfl) (ow hw 222 rfl) (own_chM hw (7 : Int32) 7 10 (58 : Int32) (Nat.le_trans Z0 Gr304) Po301_1 (SS.ext Xt303) rfl rfl (by decide) (by decide)) e319 Po301_0 (g := (mkF m 337 #[vI p1, vI p2, vI p3, vI 1, vI 1, vI r_241, vI r_243, vI d0, vI d1, vR b248, vR b264, vI 2, vI 2, vR b284, vR y0_301, vI 1] [(.int 7), (.ref y0_301)])) (rest := []) (lenOf own_pd39 rfl) (hb hby at_337) hz
      have Na322 := Fr.app Na320 Nq321
      obtain ⟨_, T323, L323, X323, ⟨rfl, Nq323, e323⟩, st323⟩ := own_cv 0 X321 hx hZ301 ho301 (ow hw 218 rfl) (ow hw 219 rfl) (ow hw 52 rfl) (ow hw 221 rfl) (ow hw 220 rfl) (ow hw 6 rfl) (ow hw 222 rfl) (own_chM hw (8 : Int32) 8 10 d0 (Nat.le_trans Z0 Gr304) Po301_1 (SS.ext Xt303) rfl rfl (by decide) (Or.inl hgo247.1)) e321 Po301_0 (g := (mkF m 364 #[vI p1, vI p2, vI p3, vI 1, vI 1, vI r_241, vI r_243, vI d0, vI d1, vR b248, vR b264, vI 2, vI 2, vR b284, vR y0_301, vI 1] [(.int 8), (.ref y0_301)])) (rest := []) (lenOf own_pd39 rfl) (hb hby at_364) hz
      have Na324 := Fr.app Na322 Nq323
      obtain ⟨_, T325, L325, X325, ⟨rfl, Nq325, e325⟩, st325⟩ := own_cv 0 X323 hx hZ301 ho301 (ow hw 218 rfl) (ow hw 219 rfl) (ow hw 52 rfl) (ow hw 221 rfl) (ow hw 220 rfl) (ow hw 6 rfl) (ow hw 222 rfl) (own_chM hw (9 : Int32) 9 10 d1 (Nat.le_trans Z0 Gr304) Po301_1 (SS.ext Xt303) rfl rfl (by decide) (Or.inl hgo247.2)) e323 Po301_0 (g := (mkF m 396 #[vI p1, vI p2, vI p3, vI 1, vI 1, vI r_241, vI r_243, vI d0, vI d1, vR b248, vR b264, vI 2, vI 2, vR b284, vR y0_301, vI 1] [(.int 9), (.ref y0_301)])) (rest := []) (lenOf own_pd39 rfl) (hb hby at_396) hz
      have Na326 := Fr.app Na324 Nq325
      have CRz : CHr Z own_EL s.vm h0 T325.vm T301.heap := CRw301.trans (CHv.at X325 hZ301 (own_ew hw) CRw301.1)
      obtain ⟨fs, hr, hrun, hended, hRW⟩ := X325.leaveW hS301 (by rw [e325]; exact (Nat.le_refl _)) (v := some (.int 1)) (fun h => by rw [Bd.returns] at h; cases h)
      refine ⟨_, _, pre0 _ (go247 _ ?_), hrun, hended, _, _, rfl, ?_, ?_, own_rew hRW (by decide) (by decide)⟩
      · refine sI X243.here hx (hb hby at_59) ?_
        refine XS.ifNo X243.here hx rfl (hb hby at_60) rfl ((if0 _ _).trans (feq (by decide)).1) ?_
        refine st248 _ ?_
        refine XS.dup X248.here hx rfl (hb hby at_66) rfl rfl ?_
        refine sC X248.here hx (hb hby at_67) ?_
        refine st249 _ ?_
        refine XS.dup X249.here hx rfl (hb hby at_70) rfl rfl ?_
        refine sC X249.here hx (hb hby at_71) ?_
        refine sJ X249.here hx (hb hby at_72) ?_
        refine st251 _ ?_
        refine XS.dup X251.here hx rfl (hb hby at_75) rfl rfl ?_
        refine sC X251.here hx (hb hby at_76) ?_
        refine sJ X251.here hx (hb hby at_77) ?_
        refine st253 _ ?_
        refine st262 _ ?_
        refine XS.astore X262.here hx rfl (hb hby at_83) rfl rfl (l' := #[vI p1, vI p2, vI p3, vI 1, vI 1, vI r_241, vI r_243, vI d0, vI d1, vR b248, vU, vU, vU, vU, vU, vU]) rfl ?_
        refine XS.goto X262.here hx rfl (pc0 := 85) (pc' := 105) rfl (hb hby at_85) (by decide) (by decide) ?_
        refine sJ X262.here hx (hb hby at_105) ?_
        refine XS.ifNo X262.here hx rfl (hb hby at_107) rfl ((if0 _ _).trans (feq (by decide)).1) ?_
        refine st264 _ ?_
        refine XS.dup X264.here hx rfl (hb hby at_113) rfl rfl ?_
        refine sC X264.here hx (hb hby at_114) ?_
        refine st265 _ ?_
        refine XS.dup X265.here hx rfl (hb hby at_117) rfl rfl ?_
        refine sC X265.here hx (hb hby at_118) ?_
        refine sJ X265.here hx (hb hby at_119) ?_
        refine st267 _ ?_
        refine XS.dup X267.here hx rfl (hb hby at_122) rfl rfl ?_
        refine sC X267.here hx (hb hby at_123) ?_
        refine sJ X267.here hx (hb hby at_124) ?_
        refine st271 _ ?_
        refine st282 _ ?_
        refine XS.astore X282.here hx rfl (hb hby at_130) rfl rfl (l' := #[vI p1, vI p2, vI p3, vI 1, vI 1, vI r_241, vI r_243, vI d0, vI d1, vR b248, vR b264, vU, vU, vU, vU, vU]) rfl ?_
        refine XS.goto X282.here hx rfl (pc0 := 132) (pc' := 152) rfl (hb hby at_132) (by decide) (by decide) ?_
        refine sI X282.here hx (hb hby at_152) ?_
        refine XS.ifNo X282.here hx rfl (hb hby at_153) rfl ((if0 _ _).trans (feq (by decide)).1) ?_
        refine sC X282.here hx (hb hby at_156) ?_
        refine XS.goto X282.here hx rfl (pc0 := 157) (pc' := 161) rfl (hb hby at_157) (by decide) (by decide) ?_
        refine XS.istore X282.here hx rfl (hb hby at_161) rfl (l' := #[vI p1, vI p2, vI p3, vI 1, vI 1, vI r_241, vI r_243, vI d0, vI d1, vR b248, vR b264, vI 2, vU, vU, vU, vU]) rfl ?_
        refine sJ X282.here hx (hb hby at_163) ?_
        refine XS.ifNo X282.here hx rfl (hb hby at_165) rfl ((if0 _ _).trans (feq (by decide)).1) ?_
        refine sC X282.here hx (hb hby at_168) ?_
        refine XS.goto X282.here hx rfl (pc0 := 169) (pc' := 173) rfl (hb hby at_169) (by decide) (by decide) ?_
        refine XS.istore X282.here hx rfl (hb hby at_173) rfl (l' := #[vI p1, vI p2, vI p3, vI 1, vI 1, vI r_241, vI r_243, vI d0, vI d1, vR b248, vR b264, vI 2, vI 2, vU, vU, vU]) rfl ?_
        refine st284 _ ?_
        refine XS.dup X284.here hx rfl (hb hby at_178) rfl rfl ?_
        refine sB X284.here hx (hb hby at_179) ?_
        refine sB X284.here hx (hb hby at_181) ?_
        refine st295.trans ?_
        refine XS.astore X295.here hx rfl (hb hby at_186) rfl rfl (l' := #[vI p1, vI p2, vI p3, vI 1, vI 1, vI r_241, vI r_243, vI d0, vI d1, vR b248, vR b264, vI 2, vI 2, vR b284, vU, vU]) rfl ?_
        refine sB X295.here hx (hb hby at_188) ?_
        refine st301.trans ?_
        refine XS.astore X301.here hx rfl (hb hby at_193) rfl rfl (l' := #[vI p1, vI p2, vI p3, vI 1, vI 1, vI r_241, vI r_243, vI d0, vI d1, vR b248, vR b264, vI 2, vI 2, vR b284, vR y0_301, vU]) rfl ?_
        refine sB X301.here hx (hb hby at_195) ?_
        refine st305 _ ?_
        refine XS.bipush X305.here hx rfl (hb hby at_200) ?_
        refine sJ X305.here hx (hb hby at_202) ?_
        refine XS.iadd X305.here hx rfl (hb hby at_204) rfl ?_
        refine sJ X305.here hx (hb hby at_205) ?_
        refine XS.iadd X305.here hx rfl (hb hby at_207) rfl ?_
        refine XS.icmpYes X305.here hx rfl (pc0 := 208) (pc' := 213) rfl (hb hby at_208) rfl (teq rfl).1 (by decide) (by decide) ?_
        refine sB X305.here hx (hb hby at_213) ?_
        refine sC X305.here hx (hb hby at_215) ?_
        refine st307 _ ?_
        refine XS.bipush X307.here hx rfl (hb hby at_219) ?_
        refine XS.icmpNo X307.here hx rfl (hb hby at_221) rfl (teq rfl).2 ?_
        refine sB X307.here hx (hb hby at_224) ?_
        refine sC X307.here hx (hb hby at_226) ?_
        refine st309 _ ?_
        refine XS.bipush X309.here hx rfl (hb hby at_230) ?_
        refine XS.icmpNo X309.here hx rfl (hb hby at_232) rfl (teq rfl).2 ?_
        refine sB X309.here hx (hb hby at_235) ?_
        refine sC X309.here hx (hb hby at_237) ?_
        refine st311 _ ?_
        refine XS.bipush X311.here hx rfl (hb hby at_241) ?_
        refine XS.icmpNo X311.here hx rfl (hb hby at_243) rfl (teq rfl).2 ?_
        refine sB X311.here hx (hb hby at_246) ?_
        refine sC X311.here hx (hb hby at_248) ?_
        refine st313 _ ?_
        refine XS.bipush X313.here hx rfl (hb hby at_252) ?_
        refine XS.icmpNo X313.here hx rfl (hb hby at_254) rfl (teq rfl).2 ?_
        refine sB X313.here hx (hb hby at_257) ?_
        refine sC X313.here hx (hb hby at_259) ?_
        refine st315 _ ?_
        refine XS.bipush X315.here hx rfl (hb hby at_263) ?_
        refine XS.icmpNo X315.here hx rfl (hb hby at_265) rfl (teq rfl).2 ?_
        refine sC X315.here hx (hb hby at_268) ?_
        refine XS.goto X315.here hx rfl (pc0 := 269) (pc' := 273) rfl (hb hby at_269) (by decide) (by decide) ?_
        refine XS.istore X315.here hx rfl (hb hby at_273) rfl (l' := #[vI p1, vI p2, vI p3, vI 1, vI 1, vI r_241, vI r_243, vI d0, vI d1, vR b248, vR b264, vI 2, vI 2, vR b284, vR y0_301, vI 1]) rfl ?_
        refine sJ X315.here hx (hb hby at_275) ?_
        refine XS.ifNo X315.here hx rfl (hb hby at_277) rfl ((if0 _ _).trans (feq (by decide)).1) ?_
        refine sB X315.here hx (hb hby at_280) ?_
        refine sC X315.here hx (hb hby at_282) ?_
        refine st317 _ ?_
        refine sJ X317.here hx (hb hby at_286) ?_
        refine XS.icmpNo X317.here hx rfl (hb hby at_288) rfl (teq rfl).2 ?_
        refine sC X317.here hx (hb hby at_291) ?_
        refine XS.goto X317.here hx rfl (pc0 := 292) (pc' := 296) rfl (hb hby at_292) (by decide) (by decide) ?_
        refine XS.istore X317.here hx rfl (hb hby at_296) rfl (l' := #[vI p1, vI p2, vI p3, vI 1, vI 1, vI r_241, vI r_243, vI d0, vI d1, vR b248, vR b264, vI 2, vI 2, vR b284, vR y0_301, vI 1]) rfl ?_
        refine sI X317.here hx (hb hby at_298) ?_
        refine XS.ifNo X317.here hx rfl (hb hby at_299) rfl ((if0 _ _).trans (feq (by decide)).1) ?_
        refine sJ X317.here hx (hb hby at_302) ?_
        refine XS.ifNo X317.here hx rfl (hb hby at_304) rfl ((if0 _ _).trans (feq (by decide)).1) ?_
        refine sB X317.here hx (hb hby at_307) ?_
        refine XS.bipush X317.here hx rfl (hb hby at_309) ?_
        refine st319 _ ?_
        refine sJ X319.here hx (hb hby at_314) ?_
        refine XS.icmpNo X319.here hx rfl (hb hby at_316) rfl (teq rfl).2 ?_
        refine sC X319.here hx (hb hby at_319) ?_
        refine XS.goto X319.here hx rfl (pc0 := 320) (pc' := 324) rfl (hb hby at_320) (by decide) (by decide) ?_
        refine XS.istore X319.here hx rfl (hb hby at_324) rfl (l' := #[vI p1, vI p2, vI p3, vI 1, vI 1, vI r_241, vI r_243, vI d0, vI d1, vR b248, vR b264, vI 2, vI 2, vR b284, vR y0_301, vI 1]) rfl ?_
        refine sJ X319.here hx (hb hby at_326) ?_
        refine XS.ifNo X319.here hx rfl (hb hby at_328) rfl ((if0 _ _).trans (feq (by decide)).1) ?_
        refine sB X319.here hx (hb hby at_331) ?_
        refine sC X319.here hx (hb hby at_333) ?_
        refine sJ X319.here hx (hb hby at_334) ?_
        refine XS.iadd X319.here hx rfl (hb hby at_336) rfl ?_
        refine st321 _ ?_
        refine XS.bipush X321.here hx rfl (hb hby at_340) ?_
        refine XS.icmpNo X321.here hx rfl (hb hby at_342) rfl (teq rfl).2 ?_
        refine sC X321.here hx (hb hby at_345) ?_
        refine XS.goto X321.here hx rfl (pc0 := 346) (pc' := 350) rfl (hb hby at_346) (by decide) (by decide) ?_
        refine XS.istore X321.here hx rfl (hb hby at_350) rfl (l' := #[vI p1, vI p2, vI p3, vI 1, vI 1, vI r_241, vI r_243, vI d0, vI d1, vR b248, vR b264, vI 2, vI 2, vR b284, vR y0_301, vI 1]) rfl ?_
        refine sJ X321.here hx (hb hby at_352) ?_
        refine XS.ifNo X321.here hx rfl (hb hby at_354) rfl ((if0 _ _).trans (feq (by decide)).1) ?_
        refine sB X321.here hx (hb hby at_357) ?_
        refine XS.bipush X321.here hx rfl (hb hby at_359) ?_
        refine sJ X321.here hx (hb hby at_361) ?_
        refine XS.iadd X321.here hx rfl (hb hby at_363) rfl ?_
        refine st323 _ ?_
        refine sJ X323.here hx (hb hby at_367) ?_
        refine XS.icmpNo X323.here hx rfl (hb hby at_369) rfl (teq rfl).2 ?_
        refine sC X323.here hx (hb hby at_372) ?_
        refine XS.goto X323.here hx rfl (pc0 := 373) (pc' := 377) rfl (hb hby at_373) (by decide) (by decide) ?_
        refine XS.istore X323.here hx rfl (hb hby at_377) rfl (l' := #[vI p1, vI p2, vI p3, vI 1, vI 1, vI r_241, vI r_243, vI d0, vI d1, vR b248, vR b264, vI 2, vI 2, vR b284, vR y0_301, vI 1]) rfl ?_
        refine sJ X323.here hx (hb hby at_379) ?_
        refine XS.ifNo X323.here hx rfl (hb hby at_381) rfl ((if0 _ _).trans (feq (by decide)).1) ?_
        refine sJ X323.here hx (hb hby at_384) ?_
        refine XS.ifNo X323.here hx rfl (hb hby at_386) rfl ((if0 _ _).trans (feq (by decide)).1) ?_
        refine sB X323.here hx (hb hby at_389) ?_
        refine XS.bipush X323.here hx rfl (hb hby at_391) ?_
        refine sJ X323.here hx (hb hby at_393) ?_
        refine XS.iadd X323.here hx rfl (hb hby at_395) rfl ?_
        refine st325 _ ?_
        refine sJ X325.here hx (hb hby at_399) ?_
        refine XS.icmpNo X325.here hx rfl (hb hby at_401) rfl (teq rfl).2 ?_
        refine sC X325.here hx (hb hby at_404) ?_
        refine XS.goto X325.here hx rfl (pc0 := 405) (pc' := 409) rfl (hb hby at_405) (by decide) (by decide) ?_
        refine XS.istore X325.here hx rfl (hb hby at_409) rfl (l' := #[vI p1, vI p2, vI p3, vI 1, vI 1, vI r_241, vI r_243, vI d0, vI d1, vR b248, vR b264, vI 2, vI 2, vR b284, vR y0_301, vI 1]) rfl ?_
        refine sJ X325.here hx (hb hby at_411) ?_
        exact retN X325 hx (t := .boolean) Bd.returns (by simp) (hb hby at_413) hr
      · show own_Ql n0 _ T325.heap _
        rw [e325]
        exact ⟨rfl, Na326⟩
      · show CHr Z own_EL s.vm s.heap T325.vm T325.heap
        rw [hh, e325]; exact CRz
theorem own_staI {s : State} {args : Array Value} {C n d : String} {z : Int32} (h : (Cond.eq (.static C n d) (.int z)).value args s none s [] = some true) (hi : (Cond.initializedFor C n d).before args s = true) : Sta s s.heap C n d (.int z) := by
  obtain ⟨x, y, ex, ey, k1, k2⟩ := cmp_v (Or.inl h)
  cases Option.some.inj ey
  obtain ⟨w, rfl⟩ := k2
  have e := gotT (Cond.eq_ints ex (Term.int_eval z)) h
  subst e
  exact Sta.start ex (Or.inl hi)
theorem comes_1 {Post : Tables → Env → Array Value → State → Outcome → State → Prop} (hpost : ∀ tb e args s v u, (limb_1_1.after args s (.returned v) u = true ∧ limb_1_2.after args s (.returned v) u = true ∧ True) → ReturnedEndW s (.returned v) u (Jvm.fieldLocs frame_1_writes args s ++ Jvm.arrayLocs frame_1_arrays args s ++ Jvm.staticLocs frame_1_statics s) 40 3392 → Post tb e args s (.returned v) u) :
    ArmFor flags0 classFile x code maxLocals ret World_1 tables_1 room_1 Calls_1 rest_1 Pre_1 Post := by
  intro l hfl _ _ p e ha hc hk s m args below hf hA hF happ hP
  obtain ⟨hcalls, hrest, hpre⟩ := hP
  obtain ⟨-, -, -, hnamed, -, -, -, hat⟩ := (Spec.applies_iff hf).mp happ
  obtain ⟨hg, hn⟩ := and_e (Cond.before_iff.mp (show (Jvm.Cond.and given_1 narrow_1).before args s = true from hpre))
  obtain ⟨hgc, hgr0⟩ := and_e hg
  obtain ⟨hg0, hgr1⟩ := and_e hgr0
  obtain ⟨hg1, hgr2⟩ := and_e hgr1
  obtain ⟨w0, w1, w2, rfl⟩ : ∃ w0 w1 w2 : Value, args = #[w0, w1, w2] := by
    have hs : args.size = 3 := by simpa [Cond.value, given_1] using hgc
    obtain ⟨L⟩ := args
    match L, hs with
    | [w0, w1, w2], _ => exact ⟨w0, w1, w2, rfl⟩
  have hw := fun d (hd : d ∈ tables_1) => atoms_spec (ws := Jvm.Cond.code x code maxLocals ret :: tables_1) hat d (List.mem_cons_of_mem _ hd)
  have hfit : Fit s := fun {y c} hc i hi => by
    obtain ⟨ha, rfl⟩ := Array.getElem?_eq_some_iff.mp hc
    have q := List.all_eq_true.mp ((Array.all_eq_true_iff_forall_mem.mp hF) _ (Array.getElem_mem ha)) i (List.mem_range.mpr hi)
    simpa [Array.getElem?_eq_getElem hi] using q
  obtain ⟨hsets, hown0⟩ := atoms_of _ (rest_1_c_eq ▸ (show rest_1_c.before _ s = true from hrest))
  obtain ⟨i0, ei0⟩ := is_v hg0
  obtain rfl : w0 = (.int i0) := Option.some.inj ei0
  obtain ⟨i1, ei1⟩ := is_v hg1
  obtain rfl : w1 = (.int i1) := Option.some.inj ei1
  obtain ⟨i2, ei2⟩ := is_v hgr2
  obtain rfl : w2 = (.int i2) := Option.some.inj ei2
  have n3 := not_v (Cond.before_iff.mp (hsets _ (List.mem_of_getElem? (i := 2) rfl)))
  obtain ⟨ic, ec⟩ := is_v (Cond.before_iff.mp (hsets _ (List.mem_of_getElem? (i := 1) rfl)))
  have S_C : Sta s s.heap "java/lang/String" "COMPACT_STRINGS" "Z" (.int ic) := Sta.start ec (Or.inl (hsets _ (List.mem_of_getElem? (i := 0) rfl)))
  have P5 : ¬ (ic = (0 : Int32)) := gotF (Cond.eq_ints ec (Term.int_eval (0))) n3
  obtain ⟨fm, em, rf⟩ := isR_v (Cond.before_iff.mp (hsets _ (List.mem_of_getElem? (i := 8) rfl)))
  have S_F : Sta s s.heap "jdk/internal/util/Preconditions" "SIOOBE_FORMATTER" "Ljava/util/function/BiFunction;" fm := Sta.start em (Or.inl (hsets _ (List.mem_of_getElem? (i := 7) rfl)))
  have SA1 := own_staI (Cond.before_iff.mp (hsets _ (List.mem_of_getElem? (i := 12) rfl))) (hsets _ (List.mem_of_getElem? (i := 11) rfl))
  have SH1 := own_staI (Cond.before_iff.mp (hsets _ (List.mem_of_getElem? (i := 15) rfl))) (hsets _ (List.mem_of_getElem? (i := 14) rfl))
  have SL1 := own_staI (Cond.before_iff.mp (hsets _ (List.mem_of_getElem? (i := 18) rfl))) (hsets _ (List.mem_of_getElem? (i := 17) rfl))
  have hCH : CHv s own_EL s.vm s.heap := CHv.start (own_ew hw) (fun p hp => hcalls.1 p hp) (hsets _ (List.mem_of_getElem? (i := 2) rfl)) (ow hw 23 rfl) (ow hw 5 rfl)
  obtain ⟨n, o, h1, h2, h3, _, L, rfl, ⟨rfl, N⟩, hcr, hq⟩ := own_l l s _ hw tables_1 i0 i1 i2 ic fm s.heap s.heap.size (Nat.le_refl _) ⟨S_C, P5, S_F, rf, SA1, SH1, SL1⟩ p e ha hc hk s m _ below hf ((Spec.applies_iff_loose hf).mp happ).1 ⟨rfl, State.Warmed39.refl s, rfl, hCH⟩ trivial
  refine ⟨n, _, h1, h2, h3, hpost _ _ _ _ _ _ ⟨Cond.after_iff.mpr rfl, Cond.after_iff.mpr (eq_i res_at (Term.int_eval (1)) rfl), trivial⟩ ⟨hq.1, hq.2.1, hq.2.2.1, (hq.2.2.2.sift fun y hy => Or.inr (N y hy)).mono (by decide) (by decide)⟩⟩
theorem main_1_1 : Claimed_1_1 := comes_1 fun _ _ _ _ _ _ h hF => ⟨h.1, hF⟩
theorem main_1_2 : Claimed_1_2 := comes_1 fun _ _ _ _ _ _ h hF => ⟨h.2.1, hF⟩
end Jvm.Pilot.@@N@@
namespace Jvm.Pilot.@@N@@
open Jvm Jvm.ClassFile Sem Op Lib Jvm.Free Jvm.Stand Jvm.Pilot.@@N@@.Jvm.D
/-! MADE BY PROGRAM (witnessworld.py) out of the Statement's table words and the real class files: 25 classes; the members and pool entries that the words name. The judged class is class 1, her method 2. -/
namespace start1
abbrev n_0 : MethodName := ⟨"com/example/libhasp/libhasp/RecordNameRedisKeyPinLaw", "typeChar", "(I)C"⟩
abbrev n_1 : MethodName := ⟨"java/lang/String", "<init>", "([C)V"⟩
abbrev n_2 : MethodName := ⟨"java/lang/String", "<init>", "([CIILjava/lang/Void;)V"⟩
abbrev n_3 : MethodName := ⟨"java/lang/Object", "<init>", "()V"⟩
abbrev n_4 : MethodName := ⟨"java/lang/StringUTF16", "compress", "([CII)[B"⟩
abbrev n_5 : MethodName := ⟨"java/lang/StringUTF16", "compress", "([CI[BII)I"⟩
abbrev n_6 : MethodName := ⟨"java/lang/StringUTF16", "coderFromArrayLen", "([BI)B"⟩
abbrev n_7 : MethodName := ⟨"com/example/libhasp/libhasp/RecordName", "<init>", "(Ljava/lang/String;Ljava/lang/String;)V"⟩
abbrev n_8 : MethodName := ⟨"java/util/Objects", "requireNonNull", "(Ljava/lang/Object;Ljava/lang/String;)Ljava/lang/Object;"⟩
abbrev n_9 : MethodName := ⟨"java/lang/String", "isEmpty", "()Z"⟩
abbrev n_10 : MethodName := ⟨"java/lang/String", "indexOf", "(I)I"⟩
abbrev n_11 : MethodName := ⟨"java/lang/String", "indexOf", "(II)I"⟩
abbrev n_12 : MethodName := ⟨"java/lang/String", "isLatin1", "()Z"⟩
abbrev n_13 : MethodName := ⟨"java/lang/String", "length", "()I"⟩
abbrev n_14 : MethodName := ⟨"java/lang/String", "coder", "()B"⟩
abbrev n_15 : MethodName := ⟨"java/lang/StringLatin1", "indexOf", "([BIII)I"⟩
abbrev n_16 : MethodName := ⟨"java/lang/StringLatin1", "canEncode", "(I)Z"⟩
abbrev n_17 : MethodName := ⟨"java/lang/Math", "max", "(II)I"⟩
abbrev n_18 : MethodName := ⟨"java/lang/Math", "min", "(II)I"⟩
abbrev n_19 : MethodName := ⟨"java/lang/StringLatin1", "indexOfChar", "([BIII)I"⟩
abbrev n_20 : MethodName := ⟨"com/example/libhasp/libhasp/RecordName", "redisKey", "()Ljava/lang/String;"⟩
abbrev n_21 : MethodName := ⟨"java/lang/StringBuilder", "<init>", "()V"⟩
abbrev n_22 : MethodName := ⟨"java/lang/AbstractStringBuilder", "<init>", "(I)V"⟩
abbrev n_23 : MethodName := ⟨"java/lang/StringBuilder", "append", "(Ljava/lang/String;)Ljava/lang/StringBuilder;"⟩
abbrev n_24 : MethodName := ⟨"java/lang/AbstractStringBuilder", "append", "(Ljava/lang/String;)Ljava/lang/AbstractStringBuilder;"⟩
abbrev n_25 : MethodName := ⟨"java/lang/AbstractStringBuilder", "ensureCapacityInternal", "(I)V"⟩
abbrev n_26 : MethodName := ⟨"java/lang/AbstractStringBuilder", "putStringAt", "(ILjava/lang/String;)V"⟩
abbrev n_27 : MethodName := ⟨"java/lang/AbstractStringBuilder", "inflateIfNeededFor", "(Ljava/lang/String;)V"⟩
abbrev n_28 : MethodName := ⟨"java/lang/String", "getBytes", "([BIB)V"⟩
abbrev n_29 : MethodName := ⟨"java/lang/StringBuilder", "append", "(C)Ljava/lang/StringBuilder;"⟩
abbrev n_30 : MethodName := ⟨"java/lang/AbstractStringBuilder", "append", "(C)Ljava/lang/AbstractStringBuilder;"⟩
abbrev n_31 : MethodName := ⟨"java/lang/AbstractStringBuilder", "isLatin1", "()Z"⟩
abbrev n_32 : MethodName := ⟨"java/lang/StringLatin1", "canEncode", "(C)Z"⟩
abbrev n_33 : MethodName := ⟨"java/lang/StringBuilder", "toString", "()Ljava/lang/String;"⟩
abbrev n_34 : MethodName := ⟨"java/lang/String", "<init>", "(Ljava/lang/StringBuilder;)V"⟩
abbrev n_35 : MethodName := ⟨"java/lang/String", "<init>", "(Ljava/lang/AbstractStringBuilder;Ljava/lang/Void;)V"⟩
abbrev n_36 : MethodName := ⟨"java/lang/AbstractStringBuilder", "getValue", "()[B"⟩
abbrev n_37 : MethodName := ⟨"java/lang/StringBuilder", "length", "()I"⟩
abbrev n_38 : MethodName := ⟨"java/lang/AbstractStringBuilder", "length", "()I"⟩
abbrev n_39 : MethodName := ⟨"java/util/Arrays", "copyOfRange", "([BII)[B"⟩
abbrev n_40 : MethodName := ⟨"java/util/Arrays", "copyOfRangeByte", "([BII)[B"⟩
abbrev n_41 : MethodName := ⟨"java/util/Arrays", "checkLength", "(II)V"⟩
abbrev n_42 : MethodName := ⟨"java/lang/String", "charAt", "(I)C"⟩
abbrev n_43 : MethodName := ⟨"java/lang/StringLatin1", "charAt", "([BI)C"⟩
abbrev n_44 : MethodName := ⟨"java/lang/String", "checkIndex", "(II)V"⟩
abbrev n_45 : MethodName := ⟨"jdk/internal/util/Preconditions", "checkIndex", "(IILjava/util/function/BiFunction;)I"⟩
abbrev n_46 : MethodName := ⟨"java/lang/StringUTF16", "toBytes", "([CII)[B"⟩
abbrev n_47 : MethodName := ⟨"java/lang/StringUTF16", "newBytesFor", "(I)[B"⟩
abbrev n_48 : MethodName := ⟨"java/lang/StringUTF16", "newBytesLength", "(I)I"⟩
abbrev n_49 : MethodName := ⟨"java/lang/StringUTF16", "putChar", "([BII)V"⟩
abbrev n_50 : MethodName := ⟨"java/lang/StringUTF16", "getChar", "([BI)C"⟩
abbrev n_51 : MethodName := ⟨"java/lang/StringUTF16", "indexOf", "([BIII)I"⟩
abbrev n_52 : MethodName := ⟨"java/lang/StringUTF16", "indexOfChar", "([BIII)I"⟩
abbrev n_53 : MethodName := ⟨"java/lang/StringUTF16", "checkBoundsBeginEnd", "(II[B)V"⟩
abbrev n_54 : MethodName := ⟨"java/lang/StringUTF16", "length", "([B)I"⟩
abbrev n_55 : MethodName := ⟨"java/lang/String", "checkBoundsBeginEnd", "(III)V"⟩
abbrev n_56 : MethodName := ⟨"jdk/internal/util/Preconditions", "checkFromToIndex", "(IIILjava/util/function/BiFunction;)I"⟩
abbrev n_57 : MethodName := ⟨"java/lang/StringUTF16", "indexOfCharUnsafe", "([BIII)I"⟩
abbrev n_58 : MethodName := ⟨"java/lang/AbstractStringBuilder", "inflate", "()V"⟩
abbrev n_59 : MethodName := ⟨"java/lang/StringLatin1", "inflate", "([BI[BII)V"⟩
abbrev n_60 : MethodName := ⟨"java/lang/StringUTF16", "inflate", "([BI[BII)V"⟩
abbrev n_61 : MethodName := ⟨"java/lang/StringUTF16", "checkBoundsOffCount", "(II[B)V"⟩
abbrev n_62 : MethodName := ⟨"java/lang/String", "checkBoundsOffCount", "(III)I"⟩
abbrev n_63 : MethodName := ⟨"jdk/internal/util/Preconditions", "checkFromIndexSize", "(IIILjava/util/function/BiFunction;)I"⟩
abbrev n_64 : MethodName := ⟨"java/lang/StringUTF16", "putCharSB", "([BII)V"⟩
abbrev n_65 : MethodName := ⟨"java/lang/StringUTF16", "checkIndex", "(I[B)V"⟩
abbrev n_66 : MethodName := ⟨"java/lang/StringUTF16", "charAt", "([BI)C"⟩
set_option maxRecDepth 65536
open Jvm.ClassFile
def u (s : String) : CpInfo := .utf8 (stringToUtf16 s)
/-- a pool by its gaps: so many unusable entries, then the entry; so many at the end -/
def gap : Nat → List CpInfo → List CpInfo
  | 0, r => r
  | n + 1, r => .unusable :: gap n r
def poolList (es : List (Nat × CpInfo)) (last : Nat) : List CpInfo := es.foldr (fun e r => gap e.1 (e.2 :: r)) (gap last [])
def pool (es : List (Nat × CpInfo)) (last : Nat) : Array CpInfo := ⟨poolList es last⟩
def fileOf (pool : Array CpInfo) (this : Nat) (attrs : Array Attribute := #[]) (ms : Array MethodInfo := #[]) (fl : Nat := 33) (sup : Nat := 0) (ifs : Array Nat := #[]) (fds : Array FieldInfo := #[]) : ClassFile where
  minorVersion := 0
  majorVersion := 65
  constantPool := pool
  accessFlags := fl
  thisClass := this
  superClass := sup
  interfaces := ifs
  fields := fds
  methods := ms
  attributes := attrs
def plain (name : String) (sup : Option ClassId) : Class where
  name := name
  kind := .ordinary
  loader := none
  accessFlags := 33
  super := sup
  interfaces := #[]
  cf := none
  fields := #[]
  methods := #[]
  instanceTypes := #[]
  staticTypes := #[]
  resolved := #[]
  callSites := []
  init := .initialized
  statics := none
  mirror := none

def pool0 : Array CpInfo := pool [(5, u "<init>"), (0, u "()V"), (1, .class_ 10), (1, u "java/lang/Object")] 113

def k0c0 : Code := ⟨0, 1, object_method_1_code, #[], #[]⟩
def k0m0 : Method := { name := "<init>", desc := "()V", sig := { parameters := [], returnType := none }, accessFlags := 1, code := some k0c0 }
/-- java/lang/Object -/
def k0 : Class := { plain "java/lang/Object" none with
  accessFlags := 33
  interfaces := #[]
  cf := some (fileOf pool0 8 #[] #[⟨1, 5, 6, #[]⟩] 33 0 #[] #[])
  fields := #[]
  methods := #[k0m0]
  instanceTypes := #[]
  staticTypes := #[]
  resolved := Array.replicate 124 none
  statics := none }

def pool1 : Array CpInfo := pool [(2, .class_ 4), (1, u "java/lang/Object"), (0, u "<init>"), (0, u "()V"), (0, .methodref 8 9), (0, .class_ 10), (0, .nameAndType 11 12), (0, u "com/example/libhasp/libhasp/RecordNameRedisKeyPinLaw"), (0, u "typeChar"), (0, u "(I)C"), (0, .class_ 14), (0, u "java/lang/String"), (0, .methodref 13 16), (0, .nameAndType 5 17), (0, u "([C)V"), (0, .class_ 19), (0, u "com/example/libhasp/libhasp/RecordName"), (0, .methodref 18 21), (0, .nameAndType 5 22), (0, u "(Ljava/lang/String;Ljava/lang/String;)V"), (0, .methodref 18 24), (0, .nameAndType 25 26), (0, u "redisKey"), (0, u "()Ljava/lang/String;"), (0, .methodref 13 28), (0, .nameAndType 29 30), (0, u "length"), (0, u "()I"), (0, .methodref 13 32), (0, .nameAndType 33 12), (0, u "charAt"), (3, u "law"), (0, u "(III)Z")] 2

def k1m0 : Method := { name := "<init>", desc := "()V", sig := { parameters := [], returnType := none }, accessFlags := 1, code := none }
def k1c1 : Code := ⟨2, 2, method_2_code, #[], #[]⟩
def k1m1 : Method := { name := "typeChar", desc := "(I)C", sig := { parameters := [.int], returnType := some .char }, accessFlags := 10, code := some k1c1 }
def k1c2 : Code := ⟨6, 16, code, #[], #[]⟩
def k1m2 : Method := { name := "law", desc := "(III)Z", sig := { parameters := [.int, .int, .int], returnType := some .boolean }, accessFlags := 9, code := some k1c2 }
/-- com/example/libhasp/libhasp/RecordNameRedisKeyPinLaw -/
def k1 : Class := { plain "com/example/libhasp/libhasp/RecordNameRedisKeyPinLaw" (some 0) with
  accessFlags := 49
  interfaces := #[]
  cf := some (fileOf pool1 8 #[] #[⟨1, 5, 6, #[]⟩, ⟨10, 11, 12, #[]⟩, ⟨9, 37, 38, #[]⟩] 49 2 #[] #[])
  fields := #[]
  methods := #[k1m0, k1m1, k1m2]
  instanceTypes := #[]
  staticTypes := #[]
  resolved := Array.replicate 41 none
  statics := none }

def pool2 : Array CpInfo := pool [(1, .class_ 2), (0, u "java/io/Serializable"), (0, .class_ 4), (0, u "java/lang/Object")] 2

/-- java/io/Serializable -/
def k2 : Class := { plain "java/io/Serializable" (some 0) with
  accessFlags := 1537
  interfaces := #[]
  cf := some (fileOf pool2 1 #[] #[] 1537 3 #[] #[])
  fields := #[]
  methods := #[]
  instanceTypes := #[]
  staticTypes := #[]
  resolved := Array.replicate 7 none
  statics := none }

def pool3 : Array CpInfo := pool [(1, .class_ 2), (0, u "java/lang/Comparable"), (0, .class_ 4), (0, u "java/lang/Object")] 7

/-- java/lang/Comparable -/
def k3 : Class := { plain "java/lang/Comparable" (some 0) with
  accessFlags := 1537
  interfaces := #[]
  cf := some (fileOf pool3 1 #[] #[] 1537 3 #[] #[])
  fields := #[]
  methods := #[]
  instanceTypes := #[]
  staticTypes := #[]
  resolved := Array.replicate 12 none
  statics := none }

def pool4 : Array CpInfo := pool [(2, .class_ 4), (1, u "java/lang/CharSequence"), (42, .class_ 48), (0, u "java/lang/CharSequence$1CodePointIterator"), (10, .class_ 60), (0, u "java/lang/CharSequence$1CharIterator"), (5, .class_ 67), (0, u "java/lang/Object")] 63

/-- java/lang/CharSequence -/
def k4 : Class := { plain "java/lang/CharSequence" (some 0) with
  accessFlags := 1537
  interfaces := #[]
  cf := some (fileOf pool4 2 #[.nestMembers #[47, 59]] #[] 1537 66 #[] #[])
  fields := #[]
  methods := #[]
  instanceTypes := #[]
  staticTypes := #[]
  resolved := Array.replicate 131 none
  statics := none }

def pool5 : Array CpInfo := pool [(1, .class_ 2), (0, u "java/lang/constant/Constable"), (0, .class_ 4), (0, u "java/lang/Object")] 6

/-- java/lang/constant/Constable -/
def k5 : Class := { plain "java/lang/constant/Constable" (some 0) with
  accessFlags := 1537
  interfaces := #[]
  cf := some (fileOf pool5 1 #[] #[] 1537 3 #[] #[])
  fields := #[]
  methods := #[]
  instanceTypes := #[]
  staticTypes := #[]
  resolved := Array.replicate 11 none
  statics := none }

def pool6 : Array CpInfo := pool [(1, .class_ 2), (0, u "java/lang/constant/ConstantDesc"), (0, .class_ 4), (0, u "java/lang/Object")] 32

/-- java/lang/constant/ConstantDesc -/
def k6 : Class := { plain "java/lang/constant/ConstantDesc" (some 0) with
  accessFlags := 1537
  interfaces := #[]
  cf := some (fileOf pool6 1 #[] #[] 1537 3 #[] #[])
  fields := #[]
  methods := #[]
  instanceTypes := #[]
  staticTypes := #[]
  resolved := Array.replicate 37 none
  statics := none }

def pool7 : Array CpInfo := pool [(1, .methodref 2 3), (0, .class_ 4), (0, .nameAndType 5 6), (0, u "java/lang/Object"), (0, u "<init>"), (0, u "()V"), (2, .fieldref 10 11), (0, .class_ 12), (0, .nameAndType 13 14), (0, u "java/lang/String"), (0, u "value"), (0, u "[B"), (0, .fieldref 10 16), (0, .nameAndType 17 18), (0, u "coder"), (0, u "B"), (2, u "hash"), (0, u "I"), (2, u "hashIsZero"), (0, u "Z"), (0, .methodref 10 28), (0, .nameAndType 5 29), (0, u "([CIILjava/lang/Void;)V"), (6, u "checkBoundsOffCount"), (0, u "(III)I"), (0, .fieldref 10 39), (0, .nameAndType 40 26), (0, u "COMPACT_STRINGS"), (1, .class_ 44), (1, u "java/lang/StringUTF16"), (0, u "compress"), (1, .methodref 42 48), (0, .nameAndType 49 50), (0, u "coderFromArrayLen"), (0, u "([BI)B"), (3, .methodref 55 56), (0, .class_ 57), (0, .nameAndType 58 59), (0, u "java/util/Arrays"), (0, u "copyOfRange"), (0, u "([BII)[B"), (46, .methodref 107 108), (0, .class_ 109), (0, .nameAndType 110 111), (0, u "java/lang/StringLatin1"), (0, u "inflate"), (0, u "([BI[BII)V"), (30, u "()Z"), (34, .methodref 42 178), (0, .nameAndType 45 179), (0, u "([CII)[B"), (13, .class_ 195), (1, u "java/lang/System"), (16, .methodref 193 213), (0, .nameAndType 214 215), (0, u "arraycopy"), (0, u "(Ljava/lang/Object;ILjava/lang/Object;II)V"), (118, u "()I"), (0, .methodref 10 336), (0, .nameAndType 17 337), (0, u "()B"), (2, u "()[B"), (22, u "([BI)C"), (27, u "(II)V"), (35, u "(I)C"), (61, .methodref 10 490), (0, .nameAndType 5 491), (0, u "(Ljava/lang/AbstractStringBuilder;Ljava/lang/Void;)V"), (0, .methodref 10 493), (0, .nameAndType 494 142), (0, u "isLatin1"), (0, .methodref 107 496), (0, .nameAndType 497 363), (0, u "charAt"), (0, .methodref 42 496), (2, u "checkIndex"), (3, .methodref 10 506), (0, .nameAndType 507 334), (0, u "length"), (5, u "checkFromToIndex"), (9, u "checkBoundsBeginEnd"), (0, u "(III)V"), (7, u "getBytes"), (16, .methodref 550 506), (0, .class_ 551), (0, u "java/lang/AbstractStringBuilder"), (0, .methodref 550 553), (0, .nameAndType 554 340), (0, u "getValue"), (20, .class_ 576), (0, u "java/lang/CharSequence"), (22, u "CASE_INSENSITIVE_ORDER"), (0, u "Ljava/util/Comparator;"), (32, .methodref 10 634), (0, .nameAndType 635 636), (0, u "indexOf"), (0, u "(II)I"), (0, .methodref 107 638), (0, .nameAndType 635 639), (0, u "([BIII)I"), (0, .methodref 42 638), (51, u "isEmpty"), (72, u "(I)I"), (55, u "([BIB)V"), (188, u "([C)V"), (36, .methodref 550 493), (0, .fieldref 550 1049), (0, .nameAndType 1050 26), (0, u "maybeLatin1"), (2, .fieldref 1054 1055), (0, .class_ 1056), (0, .nameAndType 1057 1058), (0, u "jdk/internal/util/Preconditions"), (0, u "SIOOBE_FORMATTER"), (0, u "Ljava/util/function/BiFunction;"), (0, .methodref 1054 1060), (0, .nameAndType 501 1061), (0, u "(IILjava/util/function/BiFunction;)I"), (0, .methodref 1054 1063), (0, .nameAndType 513 1064), (0, u "(IIILjava/util/function/BiFunction;)I"), (0, .methodref 1054 1066), (0, .nameAndType 1067 1064), (0, u "checkFromIndexSize"), (33, u "serialPersistentFields"), (0, u "[Ljava/io/ObjectStreamField;"), (0, .class_ 1104), (0, u "java/lang/String$CaseInsensitiveComparator"), (1, .class_ 1107), (0, u "java/io/Serializable"), (0, .class_ 1109), (0, u "java/lang/Comparable"), (0, .class_ 1111), (0, u "java/lang/constant/Constable"), (0, .class_ 1113), (0, u "java/lang/constant/ConstantDesc"), (2, u "serialVersionUID"), (0, u "J"), (3, u "REPL"), (0, u "C"), (2, u "LATIN1"), (1, u "UTF16"), (105, u "(Ljava/lang/StringBuilder;)V")] 217

def k7m0 : Method := { name := "<init>", desc := "()V", sig := { parameters := [], returnType := none }, accessFlags := 1, code := none }
def k7c1 : Code := ⟨5, 2, jdk_42_method_3_code, #[], #[]⟩
def k7m1 : Method := { name := "<init>", desc := "([C)V", sig := { parameters := [(.array .char)], returnType := none }, accessFlags := 1, code := some k7c1 }
def k7c2 : Code := ⟨3, 2, jdk_42_method_53_code, #[], #[]⟩
def k7m2 : Method := { name := "<init>", desc := "(Ljava/lang/StringBuilder;)V", sig := { parameters := [(.object "java/lang/StringBuilder")], returnType := none }, accessFlags := 1, code := some k7c2 }
def k7c3 : Code := ⟨2, 1, jdk_42_method_54_code, #[], #[]⟩
def k7m3 : Method := { name := "length", desc := "()I", sig := { parameters := [], returnType := some .int }, accessFlags := 1, code := some k7c3 }
def k7c4 : Code := ⟨1, 1, jdk_42_method_55_code, #[], #[]⟩
def k7m4 : Method := { name := "isEmpty", desc := "()Z", sig := { parameters := [], returnType := some .boolean }, accessFlags := 1, code := some k7c4 }
def k7c5 : Code := ⟨2, 2, jdk_42_method_56_code, #[], #[]⟩
def k7m5 : Method := { name := "charAt", desc := "(I)C", sig := { parameters := [.int], returnType := some .char }, accessFlags := 1, code := some k7c5 }
def k7c6 : Code := ⟨3, 2, jdk_42_method_79_code, #[], #[]⟩
def k7m6 : Method := { name := "indexOf", desc := "(I)I", sig := { parameters := [.int], returnType := some .int }, accessFlags := 1, code := some k7c6 }
def k7c7 : Code := ⟨4, 3, jdk_42_method_80_code, #[], #[]⟩
def k7m7 : Method := { name := "indexOf", desc := "(II)I", sig := { parameters := [.int, .int], returnType := some .int }, accessFlags := 1, code := some k7c7 }
def k7c8 : Code := ⟨5, 4, jdk_42_method_147_code, #[], #[]⟩
def k7m8 : Method := { name := "getBytes", desc := "([BIB)V", sig := { parameters := [(.array .byte), .int, .byte], returnType := none }, accessFlags := 0, code := some k7c8 }
def k7c9 : Code := ⟨4, 6, jdk_42_method_149_code, #[], #[]⟩
def k7m9 : Method := { name := "<init>", desc := "([CIILjava/lang/Void;)V", sig := { parameters := [(.array .char), .int, .int, (.object "java/lang/Void")], returnType := none }, accessFlags := 2, code := some k7c9 }
def k7c10 : Code := ⟨5, 5, jdk_42_method_150_code, #[], #[]⟩
def k7m10 : Method := { name := "<init>", desc := "(Ljava/lang/AbstractStringBuilder;Ljava/lang/Void;)V", sig := { parameters := [(.object "java/lang/AbstractStringBuilder"), (.object "java/lang/Void")], returnType := none }, accessFlags := 0, code := some k7c10 }
def k7c11 : Code := ⟨1, 1, jdk_42_method_152_code, #[], #[]⟩
def k7m11 : Method := { name := "coder", desc := "()B", sig := { parameters := [], returnType := some .byte }, accessFlags := 0, code := some k7c11 }
def k7c12 : Code := ⟨1, 1, jdk_42_method_154_code, #[], #[]⟩
def k7m12 : Method := { name := "isLatin1", desc := "()Z", sig := { parameters := [], returnType := some .boolean }, accessFlags := 0, code := some k7c12 }
def k7c13 : Code := ⟨3, 2, jdk_42_method_155_code, #[], #[]⟩
def k7m13 : Method := { name := "checkIndex", desc := "(II)V", sig := { parameters := [.int, .int], returnType := none }, accessFlags := 8, code := some k7c13 }
def k7c14 : Code := ⟨4, 3, jdk_42_method_157_code, #[], #[]⟩
def k7m14 : Method := { name := "checkBoundsOffCount", desc := "(III)I", sig := { parameters := [.int, .int, .int], returnType := some .int }, accessFlags := 8, code := some k7c14 }
def k7c15 : Code := ⟨4, 3, jdk_42_method_158_code, #[], #[]⟩
def k7m15 : Method := { name := "checkBoundsBeginEnd", desc := "(III)V", sig := { parameters := [.int, .int, .int], returnType := none }, accessFlags := 8, code := some k7c15 }
/-- java/lang/String -/
def k7 : Class := { plain "java/lang/String" (some 0) with
  accessFlags := 49
  interfaces := #[2, 3, 4, 5, 6]
  cf := some (fileOf pool7 10 #[.nestMembers #[1103]] #[⟨1, 5, 6, #[]⟩, ⟨1, 5, 1010, #[]⟩, ⟨1, 5, 1233, #[]⟩, ⟨1, 507, 334, #[]⟩, ⟨1, 692, 142, #[]⟩, ⟨1, 497, 427, #[]⟩, ⟨1, 635, 765, #[]⟩, ⟨1, 635, 636, #[]⟩, ⟨0, 532, 821, #[]⟩, ⟨2, 5, 29, #[]⟩, ⟨0, 5, 491, #[]⟩, ⟨0, 17, 337, #[]⟩, ⟨0, 494, 142, #[]⟩, ⟨8, 501, 391, #[]⟩, ⟨8, 36, 37, #[]⟩, ⟨8, 523, 524, #[]⟩] 49 2 #[1106, 1108, 575, 1110, 1112] #[⟨18, 13, 14, #[]⟩, ⟨18, 17, 18, #[]⟩, ⟨2, 21, 22, #[]⟩, ⟨2, 25, 26, #[]⟩, ⟨26, 1116, 1117, #[]⟩, ⟨24, 40, 26, #[]⟩, ⟨26, 1101, 1102, #[]⟩, ⟨26, 1121, 1122, #[]⟩, ⟨25, 599, 600, #[]⟩, ⟨24, 1125, 18, #[]⟩, ⟨24, 1127, 18, #[]⟩])
  fields := #[{ name := "value", type := (.array .byte), accessFlags := 18, slot := 0, constantValue := 0 }, { name := "coder", type := .byte, accessFlags := 18, slot := 1, constantValue := 0 }, { name := "hash", type := .int, accessFlags := 2, slot := 2, constantValue := 0 }, { name := "hashIsZero", type := .boolean, accessFlags := 2, slot := 3, constantValue := 0 }, { name := "serialVersionUID", type := .long, accessFlags := 26, slot := 0, constantValue := 0 }, { name := "COMPACT_STRINGS", type := .boolean, accessFlags := 24, slot := 1, constantValue := 0 }, { name := "serialPersistentFields", type := (.array (.object "java/io/ObjectStreamField")), accessFlags := 26, slot := 2, constantValue := 0 }, { name := "REPL", type := .char, accessFlags := 26, slot := 3, constantValue := 0 }, { name := "CASE_INSENSITIVE_ORDER", type := (.object "java/util/Comparator"), accessFlags := 25, slot := 4, constantValue := 0 }, { name := "LATIN1", type := .byte, accessFlags := 24, slot := 5, constantValue := 0 }, { name := "UTF16", type := .byte, accessFlags := 24, slot := 6, constantValue := 0 }]
  methods := #[k7m0, k7m1, k7m2, k7m3, k7m4, k7m5, k7m6, k7m7, k7m8, k7m9, k7m10, k7m11, k7m12, k7m13, k7m14, k7m15]
  instanceTypes := #[(.array .byte), .byte, .int, .boolean]
  staticTypes := #[.long, .boolean, (.array (.object "java/io/ObjectStreamField")), .char, (.object "java/util/Comparator"), .byte, .byte]
  resolved := Array.replicate 1451 none
  statics := some 0 }

def pool8 : Array CpInfo := pool [(3, .class_ 4), (0, u "java/lang/String"), (1, .class_ 8), (1, u "java/lang/Object"), (0, u "<init>"), (0, u "()V"), (0, .methodref 12 13), (0, .class_ 14), (0, .nameAndType 15 16), (0, u "java/lang/StringUTF16"), (0, u "newBytesLength"), (0, u "(I)I"), (3, .integer 1073741823), (23, .fieldref 12 45), (0, .nameAndType 46 47), (0, u "$assertionsDisabled"), (0, u "Z"), (0, .methodref 12 49), (0, .nameAndType 50 51), (0, u "length"), (0, u "([B)I"), (7, .fieldref 12 60), (0, .nameAndType 61 62), (0, u "HI_BYTE_SHIFT"), (0, u "I"), (0, .fieldref 12 64), (0, .nameAndType 65 62), (0, u "LO_BYTE_SHIFT"), (1, .methodref 12 68), (0, .nameAndType 69 70), (0, u "checkIndex"), (0, u "(I[B)V"), (0, .methodref 12 72), (0, .nameAndType 73 74), (0, u "getChar"), (0, u "([BI)C"), (21, .methodref 12 97), (0, .nameAndType 98 99), (0, u "checkBoundsBeginEnd"), (0, u "(II[B)V"), (7, .methodref 12 108), (0, .nameAndType 109 110), (0, u "newBytesFor"), (0, u "(I)[B"), (0, .methodref 12 112), (0, .nameAndType 113 114), (0, u "putChar"), (0, u "([BII)V"), (0, .methodref 12 116), (0, .nameAndType 117 118), (0, u "compress"), (0, u "([CI[BII)I"), (0, .methodref 12 120), (0, .nameAndType 121 122), (0, u "toBytes"), (0, u "([CII)[B"), (17, u "inflate"), (0, u "([BI[BII)V"), (31, .methodref 12 174), (0, .nameAndType 175 99), (0, u "checkBoundsOffCount"), (7, .methodref 184 185), (0, .class_ 186), (0, .nameAndType 187 188), (0, u "java/lang/Math"), (0, u "min"), (0, u "(II)I"), (35, .methodref 184 225), (0, .nameAndType 226 188), (0, u "max"), (0, .integer 65536), (0, .methodref 12 229), (0, .nameAndType 230 231), (0, u "indexOfChar"), (0, u "([BIII)I"), (9, .methodref 3 242), (0, .nameAndType 98 243), (0, u "(III)V"), (0, .methodref 12 245), (0, .nameAndType 246 231), (0, u "indexOfCharUnsafe"), (14, u "coderFromArrayLen"), (0, u "([BI)B"), (5, u "indexOf"), (12, u "(III)I"), (87, .class_ 371), (1, u "java/lang/StringUTF16$LinesSpliterator"), (20, u "charAt"), (21, .methodref 3 415), (0, .nameAndType 69 416), (0, u "(II)V"), (2, .methodref 3 420), (0, .nameAndType 175 281), (9, u "MAX_LENGTH"), (155, u "putCharSB"), (40, .class_ 628), (0, u "java/lang/StringUTF16$CodePointsSpliterator"), (0, .class_ 630), (0, u "java/lang/StringUTF16$CharsSpliterator")] 4

def k8m0 : Method := { name := "<init>", desc := "()V", sig := { parameters := [], returnType := none }, accessFlags := 0, code := none }
def k8c1 : Code := ⟨1, 1, jdk_52_method_2_code, #[], #[]⟩
def k8m1 : Method := { name := "newBytesFor", desc := "(I)[B", sig := { parameters := [.int], returnType := some (.array .byte) }, accessFlags := 9, code := some k8c1 }
def k8c2 : Code := ⟨4, 1, jdk_52_method_3_code, #[], #[]⟩
def k8m2 : Method := { name := "newBytesLength", desc := "(I)I", sig := { parameters := [.int], returnType := some .int }, accessFlags := 9, code := some k8c2 }
def k8c3 : Code := ⟨4, 3, jdk_52_method_4_code, #[], #[]⟩
def k8m3 : Method := { name := "putChar", desc := "([BII)V", sig := { parameters := [(.array .byte), .int, .int], returnType := none }, accessFlags := 8, code := some k8c3 }
def k8c4 : Code := ⟨3, 2, jdk_52_method_5_code, #[], #[]⟩
def k8m4 : Method := { name := "getChar", desc := "([BI)C", sig := { parameters := [(.array .byte), .int], returnType := some .char }, accessFlags := 8, code := some k8c4 }
def k8c5 : Code := ⟨2, 1, jdk_52_method_6_code, #[], #[]⟩
def k8m5 : Method := { name := "length", desc := "([B)I", sig := { parameters := [(.array .byte)], returnType := some .int }, accessFlags := 9, code := some k8c5 }
def k8c6 : Code := ⟨4, 5, jdk_52_method_14_code, #[], #[]⟩
def k8m6 : Method := { name := "toBytes", desc := "([CII)[B", sig := { parameters := [(.array .char), .int, .int], returnType := some (.array .byte) }, accessFlags := 9, code := some k8c6 }
def k8c7 : Code := ⟨2, 2, jdk_52_method_15_code, #[], #[]⟩
def k8m7 : Method := { name := "coderFromArrayLen", desc := "([BI)B", sig := { parameters := [(.array .byte), .int], returnType := some .byte }, accessFlags := 8, code := some k8c7 }
def k8c8 : Code := ⟨5, 6, jdk_52_method_16_code, #[], #[]⟩
def k8m8 : Method := { name := "compress", desc := "([CII)[B", sig := { parameters := [(.array .char), .int, .int], returnType := some (.array .byte) }, accessFlags := 9, code := some k8c8 }
def k8c9 : Code := ⟨3, 7, jdk_52_method_21_code, #[], #[]⟩
def k8m9 : Method := { name := "compress", desc := "([CI[BII)I", sig := { parameters := [(.array .char), .int, (.array .byte), .int, .int], returnType := some .int }, accessFlags := 9, code := some k8c9 }
def k8c10 : Code := ⟨4, 4, jdk_52_method_40_code, #[], #[]⟩
def k8m10 : Method := { name := "indexOf", desc := "([BIII)I", sig := { parameters := [(.array .byte), .int, .int, .int], returnType := some .int }, accessFlags := 9, code := some k8c10 }
def k8c11 : Code := ⟨4, 4, jdk_52_method_47_code, #[], #[]⟩
def k8m11 : Method := { name := "indexOfChar", desc := "([BIII)I", sig := { parameters := [(.array .byte), .int, .int, .int], returnType := some .int }, accessFlags := 10, code := some k8c11 }
def k8c12 : Code := ⟨2, 5, jdk_52_method_48_code, #[], #[]⟩
def k8m12 : Method := { name := "indexOfCharUnsafe", desc := "([BIII)I", sig := { parameters := [(.array .byte), .int, .int, .int], returnType := some .int }, accessFlags := 10, code := some k8c12 }
def k8c13 : Code := ⟨3, 3, jdk_52_method_71_code, #[], #[]⟩
def k8m13 : Method := { name := "putCharSB", desc := "([BII)V", sig := { parameters := [(.array .byte), .int, .int], returnType := none }, accessFlags := 9, code := some k8c13 }
def k8c14 : Code := ⟨2, 2, jdk_52_method_83_code, #[], #[]⟩
def k8m14 : Method := { name := "charAt", desc := "([BI)C", sig := { parameters := [(.array .byte), .int], returnType := some .char }, accessFlags := 9, code := some k8c14 }
def k8c15 : Code := ⟨4, 6, jdk_52_method_86_code, #[], #[]⟩
def k8m15 : Method := { name := "inflate", desc := "([BI[BII)V", sig := { parameters := [(.array .byte), .int, (.array .byte), .int, .int], returnType := none }, accessFlags := 9, code := some k8c15 }
def k8c16 : Code := ⟨2, 2, jdk_52_method_91_code, #[], #[]⟩
def k8m16 : Method := { name := "checkIndex", desc := "(I[B)V", sig := { parameters := [.int, (.array .byte)], returnType := none }, accessFlags := 9, code := some k8c16 }
def k8c17 : Code := ⟨3, 3, jdk_52_method_93_code, #[], #[]⟩
def k8m17 : Method := { name := "checkBoundsBeginEnd", desc := "(II[B)V", sig := { parameters := [.int, .int, (.array .byte)], returnType := none }, accessFlags := 9, code := some k8c17 }
def k8c18 : Code := ⟨3, 3, jdk_52_method_94_code, #[], #[]⟩
def k8m18 : Method := { name := "checkBoundsOffCount", desc := "(II[B)V", sig := { parameters := [.int, .int, (.array .byte)], returnType := none }, accessFlags := 9, code := some k8c18 }
/-- java/lang/StringUTF16 -/
def k8 : Class := { plain "java/lang/StringUTF16" (some 0) with
  accessFlags := 48
  interfaces := #[]
  cf := some (fileOf pool8 12 #[.nestMembers #[627, 629, 369]] #[⟨0, 9, 10, #[]⟩, ⟨9, 109, 110, #[]⟩, ⟨9, 15, 16, #[]⟩, ⟨8, 113, 114, #[]⟩, ⟨8, 73, 74, #[]⟩, ⟨9, 50, 51, #[]⟩, ⟨9, 121, 122, #[]⟩, ⟨8, 261, 262, #[]⟩, ⟨9, 117, 122, #[]⟩, ⟨9, 117, 118, #[]⟩, ⟨9, 268, 231, #[]⟩, ⟨10, 230, 231, #[]⟩, ⟨10, 246, 231, #[]⟩, ⟨9, 586, 114, #[]⟩, ⟨9, 392, 74, #[]⟩, ⟨9, 140, 141, #[]⟩, ⟨9, 69, 70, #[]⟩, ⟨9, 98, 99, #[]⟩, ⟨9, 175, 99, #[]⟩] 48 6 #[] #[⟨26, 61, 62, #[]⟩, ⟨26, 65, 62, #[]⟩, ⟨24, 430, 62, #[]⟩, ⟨4120, 46, 47, #[]⟩])
  fields := #[{ name := "HI_BYTE_SHIFT", type := .int, accessFlags := 26, slot := 0, constantValue := 0 }, { name := "LO_BYTE_SHIFT", type := .int, accessFlags := 26, slot := 1, constantValue := 0 }, { name := "MAX_LENGTH", type := .int, accessFlags := 24, slot := 2, constantValue := 0 }, { name := "$assertionsDisabled", type := .boolean, accessFlags := 4120, slot := 3, constantValue := 0 }]
  methods := #[k8m0, k8m1, k8m2, k8m3, k8m4, k8m5, k8m6, k8m7, k8m8, k8m9, k8m10, k8m11, k8m12, k8m13, k8m14, k8m15, k8m16, k8m17, k8m18]
  instanceTypes := #[]
  staticTypes := #[.int, .int, .int, .boolean]
  resolved := Array.replicate 635 none
  statics := some 1 }

def pool9 : Array CpInfo := pool [(1, .methodref 2 3), (0, .class_ 4), (0, .nameAndType 5 6), (0, u "java/lang/Object"), (0, u "<init>"), (0, u "()V"), (0, .string 8), (0, u "type must not be null"), (0, .methodref 10 11), (0, .class_ 12), (0, .nameAndType 13 14), (0, u "java/util/Objects"), (0, u "requireNonNull"), (0, u "(Ljava/lang/Object;Ljava/lang/String;)Ljava/lang/Object;"), (0, .string 16), (0, u "id must not be null"), (0, .methodref 18 19), (0, .class_ 20), (0, .nameAndType 21 22), (0, u "java/lang/String"), (0, u "isEmpty"), (0, u "()Z"), (0, .methodref 18 24), (0, .nameAndType 25 26), (0, u "indexOf"), (0, u "(I)I"), (2, .class_ 30), (0, u "java/lang/StringBuilder"), (0, .methodref 29 3), (2, .methodref 29 35), (0, .nameAndType 36 37), (0, u "append"), (0, u "(Ljava/lang/String;)Ljava/lang/StringBuilder;"), (2, .methodref 29 41), (0, .nameAndType 42 43), (0, u "toString"), (0, u "()Ljava/lang/String;"), (5, .fieldref 50 51), (0, .class_ 52), (0, .nameAndType 53 54), (0, u "com/example/libhasp/libhasp/RecordName"), (0, u "type"), (0, u "Ljava/lang/String;"), (0, .fieldref 50 56), (0, .nameAndType 57 54), (0, u "id"), (0, .string 59), (0, u "hasp:"), (0, .methodref 29 61), (0, .nameAndType 36 62), (0, u "(C)Ljava/lang/StringBuilder;"), (0, u "KEY_PREFIX"), (1, u "(Ljava/lang/String;Ljava/lang/String;)V"), (3, u "redisKey")] 2

def k9c0 : Code := ⟨4, 3, prog_4_method_1_code, #[], #[]⟩
def k9m0 : Method := { name := "<init>", desc := "(Ljava/lang/String;Ljava/lang/String;)V", sig := { parameters := [(.object "java/lang/String"), (.object "java/lang/String")], returnType := none }, accessFlags := 0, code := some k9c0 }
def k9c1 : Code := ⟨2, 1, prog_4_method_2_code, #[], #[]⟩
def k9m1 : Method := { name := "redisKey", desc := "()Ljava/lang/String;", sig := { parameters := [], returnType := some (.object "java/lang/String") }, accessFlags := 0, code := some k9c1 }
/-- com/example/libhasp/libhasp/RecordName -/
def k9 : Class := { plain "com/example/libhasp/libhasp/RecordName" (some 0) with
  accessFlags := 48
  interfaces := #[]
  cf := some (fileOf pool9 50 #[] #[⟨0, 5, 65, #[]⟩, ⟨0, 69, 43, #[]⟩] 48 2 #[] #[⟨26, 63, 54, #[]⟩, ⟨18, 53, 54, #[]⟩, ⟨18, 57, 54, #[]⟩])
  fields := #[{ name := "KEY_PREFIX", type := (.object "java/lang/String"), accessFlags := 26, slot := 0, constantValue := 0 }, { name := "type", type := (.object "java/lang/String"), accessFlags := 18, slot := 0, constantValue := 0 }, { name := "id", type := (.object "java/lang/String"), accessFlags := 18, slot := 1, constantValue := 0 }]
  methods := #[k9m0, k9m1]
  instanceTypes := #[(.object "java/lang/String"), (.object "java/lang/String")]
  staticTypes := #[(.object "java/lang/String")]
  resolved := Array.replicate 72 none
  statics := none }

def pool10 : Array CpInfo := pool [(2, .class_ 4), (1, u "java/lang/Object"), (0, u "<init>"), (0, u "()V"), (35, .class_ 44), (1, u "java/util/Objects"), (0, u "requireNonNull"), (48, u "(Ljava/lang/Object;Ljava/lang/String;)Ljava/lang/Object;")] 89

def k10m0 : Method := { name := "<init>", desc := "()V", sig := { parameters := [], returnType := none }, accessFlags := 2, code := none }
def k10c1 : Code := ⟨3, 2, jdk_31_method_11_code, #[], #[]⟩
def k10m1 : Method := { name := "requireNonNull", desc := "(Ljava/lang/Object;Ljava/lang/String;)Ljava/lang/Object;", sig := { parameters := [(.object "java/lang/Object"), (.object "java/lang/String")], returnType := some (.object "java/lang/Object") }, accessFlags := 9, code := some k10c1 }
/-- java/util/Objects -/
def k10 : Class := { plain "java/util/Objects" (some 0) with
  accessFlags := 49
  interfaces := #[]
  cf := some (fileOf pool10 42 #[] #[⟨2, 5, 6, #[]⟩, ⟨9, 45, 94, #[]⟩] 49 2 #[] #[])
  fields := #[]
  methods := #[k10m0, k10m1]
  instanceTypes := #[]
  staticTypes := #[]
  resolved := Array.replicate 184 none
  statics := none }

def pool11 : Array CpInfo := pool [(1, .class_ 2), (0, u "java/lang/String"), (1, .class_ 6), (1, u "java/lang/Object"), (0, u "<init>"), (0, u "()V"), (0, .methodref 1 10), (0, .nameAndType 11 12), (0, u "checkIndex"), (0, u "(II)V"), (1, .class_ 16), (1, u "java/lang/StringLatin1"), (0, u "inflate"), (2, .class_ 22), (1, u "java/lang/StringUTF16"), (3, .nameAndType 17 27), (0, u "([BI[BII)V"), (10, .methodref 39 40), (0, .class_ 41), (0, .nameAndType 42 43), (0, u "java/lang/Math"), (0, u "min"), (0, u "(II)I"), (9, u "([BI)C"), (34, .methodref 14 89), (0, .nameAndType 90 91), (0, u "canEncode"), (0, u "(I)Z"), (0, .methodref 39 93), (0, .nameAndType 94 43), (0, u "max"), (0, .methodref 14 96), (0, .nameAndType 97 98), (0, u "indexOfChar"), (0, u "([BIII)I"), (2, u "indexOf"), (3, u "(C)Z"), (15, u "$assertionsDisabled"), (0, u "Z"), (98, .class_ 223), (1, u "java/lang/StringLatin1$LinesSpliterator"), (16, .methodref 20 26), (11, u "charAt"), (137, .class_ 391), (0, u "java/lang/StringLatin1$CharsSpliterator")] 3

def k11m0 : Method := { name := "<init>", desc := "()V", sig := { parameters := [], returnType := none }, accessFlags := 0, code := none }
def k11c1 : Code := ⟨2, 2, jdk_43_method_2_code, #[], #[]⟩
def k11m1 : Method := { name := "charAt", desc := "([BI)C", sig := { parameters := [(.array .byte), .int], returnType := some .char }, accessFlags := 9, code := some k11c1 }
def k11c2 : Code := ⟨2, 1, jdk_43_method_3_code, #[], #[]⟩
def k11m2 : Method := { name := "canEncode", desc := "(C)Z", sig := { parameters := [.char], returnType := some .boolean }, accessFlags := 9, code := some k11c2 }
def k11c3 : Code := ⟨2, 1, jdk_43_method_4_code, #[], #[]⟩
def k11m3 : Method := { name := "canEncode", desc := "(I)Z", sig := { parameters := [.int], returnType := some .boolean }, accessFlags := 9, code := some k11c3 }
def k11c4 : Code := ⟨4, 4, jdk_43_method_22_code, #[], #[]⟩
def k11m4 : Method := { name := "indexOf", desc := "([BIII)I", sig := { parameters := [(.array .byte), .int, .int, .int], returnType := some .int }, accessFlags := 9, code := some k11c4 }
def k11c5 : Code := ⟨2, 6, jdk_43_method_23_code, #[], #[]⟩
def k11m5 : Method := { name := "indexOfChar", desc := "([BIII)I", sig := { parameters := [(.array .byte), .int, .int, .int], returnType := some .int }, accessFlags := 10, code := some k11c5 }
def k11c6 : Code := ⟨5, 5, jdk_43_method_50_code, #[], #[]⟩
def k11m6 : Method := { name := "inflate", desc := "([BI[BII)V", sig := { parameters := [(.array .byte), .int, (.array .byte), .int, .int], returnType := none }, accessFlags := 9, code := some k11c6 }
/-- java/lang/StringLatin1 -/
def k11 : Class := { plain "java/lang/StringLatin1" (some 0) with
  accessFlags := 48
  interfaces := #[]
  cf := some (fileOf pool11 14 #[.nestMembers #[390, 221]] #[⟨0, 7, 8, #[]⟩, ⟨9, 252, 53, #[]⟩, ⟨9, 90, 105, #[]⟩, ⟨9, 90, 91, #[]⟩, ⟨9, 101, 98, #[]⟩, ⟨10, 97, 98, #[]⟩, ⟨9, 17, 27, #[]⟩] 48 4 #[] #[⟨4120, 121, 122, #[]⟩])
  fields := #[{ name := "$assertionsDisabled", type := .boolean, accessFlags := 4120, slot := 0, constantValue := 0 }]
  methods := #[k11m0, k11m1, k11m2, k11m3, k11m4, k11m5, k11m6]
  instanceTypes := #[]
  staticTypes := #[.boolean]
  resolved := Array.replicate 395 none
  statics := none }

def pool12 : Array CpInfo := pool [(1, .class_ 2), (0, u "java/lang/Math"), (1, .class_ 6), (1, u "java/lang/Object"), (0, u "<init>"), (0, u "()V"), (89, .class_ 100), (1, u "java/lang/Math$RandomNumberGeneratorHolder"), (71, u "negativeZeroFloatBits"), (0, u "J"), (2, u "negativeZeroDoubleBits"), (21, u "max"), (2, u "min"), (43, u "$assertionsDisabled"), (0, u "Z"), (88, u "(II)I"), (2, u "twoToTheDoubleScaleDown"), (0, u "D"), (4, u "twoToTheDoubleScaleUp"), (9, u "E"), (3, u "PI"), (2, u "TAU"), (2, u "DEGREES_TO_RADIANS"), (0, u "RADIANS_TO_DEGREES")] 94

def k12m0 : Method := { name := "<init>", desc := "()V", sig := { parameters := [], returnType := none }, accessFlags := 2, code := none }
def k12c1 : Code := ⟨2, 2, jdk_29_method_65_code, #[], #[]⟩
def k12m1 : Method := { name := "max", desc := "(II)I", sig := { parameters := [.int, .int], returnType := some .int }, accessFlags := 9, code := some k12c1 }
def k12c2 : Code := ⟨2, 2, jdk_29_method_69_code, #[], #[]⟩
def k12m2 : Method := { name := "min", desc := "(II)I", sig := { parameters := [.int, .int], returnType := some .int }, accessFlags := 9, code := some k12c2 }
/-- java/lang/Math -/
def k12 : Class := { plain "java/lang/Math" (some 0) with
  accessFlags := 49
  interfaces := #[]
  cf := some (fileOf pool12 1 #[.nestMembers #[98]] #[⟨2, 7, 8, #[]⟩, ⟨9, 198, 335, #[]⟩, ⟨9, 201, 335, #[]⟩] 49 4 #[] #[⟨25, 354, 339, #[]⟩, ⟨25, 358, 339, #[]⟩, ⟨25, 361, 339, #[]⟩, ⟨26, 364, 339, #[]⟩, ⟨26, 365, 339, #[]⟩, ⟨26, 172, 173, #[]⟩, ⟨26, 176, 173, #[]⟩, ⟨8, 344, 339, #[]⟩, ⟨8, 338, 339, #[]⟩, ⟨4120, 245, 246, #[]⟩])
  fields := #[{ name := "E", type := .double, accessFlags := 25, slot := 0, constantValue := 0 }, { name := "PI", type := .double, accessFlags := 25, slot := 1, constantValue := 0 }, { name := "TAU", type := .double, accessFlags := 25, slot := 2, constantValue := 0 }, { name := "DEGREES_TO_RADIANS", type := .double, accessFlags := 26, slot := 3, constantValue := 0 }, { name := "RADIANS_TO_DEGREES", type := .double, accessFlags := 26, slot := 4, constantValue := 0 }, { name := "negativeZeroFloatBits", type := .long, accessFlags := 26, slot := 5, constantValue := 0 }, { name := "negativeZeroDoubleBits", type := .long, accessFlags := 26, slot := 6, constantValue := 0 }, { name := "twoToTheDoubleScaleUp", type := .double, accessFlags := 8, slot := 7, constantValue := 0 }, { name := "twoToTheDoubleScaleDown", type := .double, accessFlags := 8, slot := 8, constantValue := 0 }, { name := "$assertionsDisabled", type := .boolean, accessFlags := 4120, slot := 9, constantValue := 0 }]
  methods := #[k12m0, k12m1, k12m2]
  instanceTypes := #[]
  staticTypes := #[.double, .double, .double, .double, .double, .long, .long, .double, .double, .boolean]
  resolved := Array.replicate 460 none
  statics := none }

def pool13 : Array CpInfo := pool [(1, .class_ 2), (0, u "java/lang/Appendable"), (0, .class_ 4), (0, u "java/lang/Object")] 9

/-- java/lang/Appendable -/
def k13 : Class := { plain "java/lang/Appendable" (some 0) with
  accessFlags := 1537
  interfaces := #[]
  cf := some (fileOf pool13 1 #[] #[] 1537 3 #[] #[])
  fields := #[]
  methods := #[]
  instanceTypes := #[]
  staticTypes := #[]
  resolved := Array.replicate 14 none
  statics := none }

def pool14 : Array CpInfo := pool [(1, .class_ 2), (0, u "java/lang/String"), (0, .methodref 4 5), (0, .class_ 6), (0, .nameAndType 7 8), (0, u "java/lang/Object"), (0, u "<init>"), (0, u "()V"), (1, .class_ 12), (1, u "java/lang/AbstractStringBuilder"), (0, u "EMPTYVALUE"), (0, u "[B"), (0, .fieldref 10 16), (0, .nameAndType 17 14), (0, u "value"), (0, .fieldref 1 19), (0, .nameAndType 20 21), (0, u "COMPACT_STRINGS"), (0, u "Z"), (0, .fieldref 10 23), (0, .nameAndType 24 25), (0, u "coder"), (0, u "B"), (0, .methodref 27 28), (0, .class_ 29), (0, .nameAndType 30 31), (0, u "java/lang/StringUTF16"), (0, u "newBytesFor"), (0, u "(I)[B"), (0, .methodref 1 33), (0, .nameAndType 34 35), (0, u "length"), (0, u "()I"), (4, .methodref 1 41), (0, .nameAndType 24 42), (0, u "()B"), (2, u "append"), (0, u "(Ljava/lang/String;)Ljava/lang/AbstractStringBuilder;"), (1, .class_ 49), (0, u "java/lang/CharSequence"), (19, u "(Ljava/lang/String;)V"), (5, u "maybeLatin1"), (3, .fieldref 10 80), (0, .nameAndType 81 82), (0, u "count"), (0, u "I"), (0, .methodref 10 84), (0, .nameAndType 85 86), (0, u "isLatin1"), (0, u "()Z"), (1, .class_ 90), (1, u "java/lang/StringLatin1"), (9, .methodref 10 101), (0, .nameAndType 102 103), (0, u "ensureCapacityInternal"), (0, u "(I)V"), (21, .methodref 88 126), (0, .nameAndType 127 128), (0, u "inflate"), (0, u "([BI[BII)V"), (7, u "([BII)V"), (54, .methodref 88 192), (0, .nameAndType 193 194), (0, u "canEncode"), (0, u "(C)Z"), (0, .methodref 10 196), (0, .nameAndType 127 8), (0, .methodref 27 198), (0, .nameAndType 199 136), (0, u "putCharSB"), (8, .methodref 10 209), (0, .nameAndType 210 211), (0, u "putStringAt"), (0, u "(ILjava/lang/String;)V"), (5, u "inflateIfNeededFor"), (2, .nameAndType 221 222), (0, u "getBytes"), (0, u "([BIB)V"), (69, u "(C)Ljava/lang/AbstractStringBuilder;"), (104, .methodref 10 398), (0, .nameAndType 217 69), (0, .methodref 1 220), (3, u "()[B"), (40, .class_ 445), (0, u "java/lang/Appendable"), (106, u "getValue")] 56

def k14m0 : Method := { name := "<init>", desc := "()V", sig := { parameters := [], returnType := none }, accessFlags := 0, code := none }
def k14c1 : Code := ⟨2, 2, jdk_68_method_2_code, #[], #[]⟩
def k14m1 : Method := { name := "<init>", desc := "(I)V", sig := { parameters := [.int], returnType := none }, accessFlags := 0, code := some k14c1 }
def k14c2 : Code := ⟨1, 1, jdk_68_method_6_code, #[], #[]⟩
def k14m2 : Method := { name := "length", desc := "()I", sig := { parameters := [], returnType := some .int }, accessFlags := 1, code := some k14c2 }
def k14c3 : Code := ⟨4, 3, jdk_68_method_9_code, #[], #[]⟩
def k14m3 : Method := { name := "ensureCapacityInternal", desc := "(I)V", sig := { parameters := [.int], returnType := none }, accessFlags := 2, code := some k14c3 }
def k14c4 : Code := ⟨5, 2, jdk_68_method_11_code, #[], #[]⟩
def k14m4 : Method := { name := "inflate", desc := "()V", sig := { parameters := [], returnType := none }, accessFlags := 2, code := some k14c4 }
def k14c5 : Code := ⟨3, 3, jdk_68_method_22_code, #[], #[]⟩
def k14m5 : Method := { name := "append", desc := "(Ljava/lang/String;)Ljava/lang/AbstractStringBuilder;", sig := { parameters := [(.object "java/lang/String")], returnType := some (.object "java/lang/AbstractStringBuilder") }, accessFlags := 1, code := some k14c5 }
def k14c6 : Code := ⟨5, 2, jdk_68_method_31_code, #[], #[]⟩
def k14m6 : Method := { name := "append", desc := "(C)Ljava/lang/AbstractStringBuilder;", sig := { parameters := [.char], returnType := some (.object "java/lang/AbstractStringBuilder") }, accessFlags := 1, code := some k14c6 }
def k14c7 : Code := ⟨1, 1, jdk_68_method_64_code, #[], #[]⟩
def k14m7 : Method := { name := "getValue", desc := "()[B", sig := { parameters := [], returnType := some (.array .byte) }, accessFlags := 16, code := some k14c7 }
def k14c8 : Code := ⟨1, 1, jdk_68_method_68_code, #[], #[]⟩
def k14m8 : Method := { name := "isLatin1", desc := "()Z", sig := { parameters := [], returnType := some .boolean }, accessFlags := 16, code := some k14c8 }
def k14c9 : Code := ⟨2, 2, jdk_68_method_71_code, #[], #[]⟩
def k14m9 : Method := { name := "inflateIfNeededFor", desc := "(Ljava/lang/String;)V", sig := { parameters := [(.object "java/lang/String")], returnType := none }, accessFlags := 2, code := some k14c9 }
def k14c10 : Code := ⟨4, 3, jdk_68_method_73_code, #[], #[]⟩
def k14m10 : Method := { name := "putStringAt", desc := "(ILjava/lang/String;)V", sig := { parameters := [.int, (.object "java/lang/String")], returnType := none }, accessFlags := 2, code := some k14c10 }
/-- java/lang/AbstractStringBuilder -/
def k14 : Class := { plain "java/lang/AbstractStringBuilder" (some 0) with
  accessFlags := 1056
  interfaces := #[13, 4]
  cf := some (fileOf pool14 10 #[] #[⟨0, 7, 8, #[]⟩, ⟨0, 7, 103, #[]⟩, ⟨1, 34, 35, #[]⟩, ⟨2, 102, 103, #[]⟩, ⟨2, 127, 8, #[]⟩, ⟨1, 45, 46, #[]⟩, ⟨1, 45, 292, #[]⟩, ⟨16, 552, 403, #[]⟩, ⟨16, 85, 86, #[]⟩, ⟨2, 217, 69, #[]⟩, ⟨2, 210, 211, #[]⟩] 1056 4 #[444, 48] #[⟨0, 17, 14, #[]⟩, ⟨0, 24, 25, #[]⟩, ⟨0, 75, 21, #[]⟩, ⟨0, 81, 82, #[]⟩, ⟨26, 13, 14, #[]⟩])
  fields := #[{ name := "value", type := (.array .byte), accessFlags := 0, slot := 0, constantValue := 0 }, { name := "coder", type := .byte, accessFlags := 0, slot := 1, constantValue := 0 }, { name := "maybeLatin1", type := .boolean, accessFlags := 0, slot := 2, constantValue := 0 }, { name := "count", type := .int, accessFlags := 0, slot := 3, constantValue := 0 }, { name := "EMPTYVALUE", type := (.array .byte), accessFlags := 26, slot := 0, constantValue := 0 }]
  methods := #[k14m0, k14m1, k14m2, k14m3, k14m4, k14m5, k14m6, k14m7, k14m8, k14m9, k14m10]
  instanceTypes := #[(.array .byte), .byte, .boolean, .int]
  staticTypes := #[(.array .byte)]
  resolved := Array.replicate 609 none
  statics := none }

def pool15 : Array CpInfo := pool [(1, .methodref 2 3), (0, .class_ 4), (0, .nameAndType 5 6), (0, u "java/lang/AbstractStringBuilder"), (0, u "<init>"), (0, u "(I)V"), (11, .class_ 20), (1, u "java/lang/String"), (3, .class_ 26), (1, u "java/lang/StringBuilder"), (0, u "append"), (0, u "(Ljava/lang/String;)Ljava/lang/StringBuilder;"), (0, .methodref 2 30), (0, .nameAndType 27 31), (0, u "(Ljava/lang/String;)Ljava/lang/AbstractStringBuilder;"), (18, .methodref 2 51), (0, .nameAndType 27 52), (0, u "(C)Ljava/lang/AbstractStringBuilder;"), (84, .methodref 18 138), (0, .nameAndType 5 139), (0, u "(Ljava/lang/StringBuilder;)V"), (5, u "()V"), (10, u "()I"), (129, u "(C)Ljava/lang/StringBuilder;"), (56, .methodref 2 344), (0, .nameAndType 345 156), (0, u "length"), (3, .class_ 350), (0, u "java/lang/Appendable"), (0, .class_ 352), (0, u "java/io/Serializable"), (0, .class_ 354), (0, u "java/lang/Comparable"), (0, .class_ 356), (0, u "java/lang/CharSequence"), (0, u "serialVersionUID"), (0, u "J"), (40, u "toString"), (0, u "()Ljava/lang/String;")] 21

def k15c0 : Code := ⟨2, 1, jdk_67_method_1_code, #[], #[]⟩
def k15m0 : Method := { name := "<init>", desc := "()V", sig := { parameters := [], returnType := none }, accessFlags := 1, code := some k15c0 }
def k15c1 : Code := ⟨2, 2, jdk_67_method_7_code, #[], #[]⟩
def k15m1 : Method := { name := "append", desc := "(Ljava/lang/String;)Ljava/lang/StringBuilder;", sig := { parameters := [(.object "java/lang/String")], returnType := some (.object "java/lang/StringBuilder") }, accessFlags := 1, code := some k15c1 }
def k15c2 : Code := ⟨2, 2, jdk_67_method_14_code, #[], #[]⟩
def k15m2 : Method := { name := "append", desc := "(C)Ljava/lang/StringBuilder;", sig := { parameters := [.char], returnType := some (.object "java/lang/StringBuilder") }, accessFlags := 1, code := some k15c2 }
def k15c3 : Code := ⟨3, 1, jdk_67_method_42_code, #[], #[]⟩
def k15m3 : Method := { name := "toString", desc := "()Ljava/lang/String;", sig := { parameters := [], returnType := some (.object "java/lang/String") }, accessFlags := 1, code := some k15c3 }
def k15c4 : Code := ⟨1, 1, jdk_67_method_93_code, #[], #[]⟩
def k15m4 : Method := { name := "length", desc := "()I", sig := { parameters := [], returnType := some .int }, accessFlags := 4161, code := some k15c4 }
/-- java/lang/StringBuilder -/
def k15 : Class := { plain "java/lang/StringBuilder" (some 14) with
  accessFlags := 49
  interfaces := #[13, 2, 3, 4]
  cf := some (fileOf pool15 24 #[] #[⟨1, 5, 145, #[]⟩, ⟨1, 27, 28, #[]⟩, ⟨1, 27, 286, #[]⟩, ⟨1, 399, 400, #[]⟩, ⟨4161, 345, 156, #[]⟩] 49 2 #[349, 351, 353, 355] #[⟨24, 357, 358, #[]⟩])
  fields := #[{ name := "serialVersionUID", type := .long, accessFlags := 24, slot := 0, constantValue := 0 }]
  methods := #[k15m0, k15m1, k15m2, k15m3, k15m4]
  instanceTypes := #[(.array .byte), .byte, .boolean, .int]
  staticTypes := #[.long]
  resolved := Array.replicate 422 none
  statics := none }

def pool16 : Array CpInfo := pool [(2, .class_ 4), (1, u "java/lang/Object"), (0, u "<init>"), (0, u "()V"), (1, .class_ 10), (1, u "java/lang/System"), (0, u "allowSecurityManager"), (0, u "I"), (16, u "cons"), (0, u "Ljava/io/Console;"), (77, .class_ 110), (1, u "java/lang/System$CallersHolder"), (43, u "initialErrStream"), (0, u "Ljava/io/PrintStream;"), (19, u "security"), (0, u "Ljava/lang/SecurityManager;"), (31, .class_ 209), (0, u "java/lang/System$1"), (7, u "props"), (0, u "Ljava/util/Properties;"), (2, u "lineSeparator"), (0, u "Ljava/lang/String;"), (96, .class_ 321), (1, u "java/lang/System$LoggerFinder"), (5, .class_ 328), (0, u "java/lang/System$Logger"), (67, u "err"), (2, u "out"), (91, u "notSupportedJnuEncoding"), (15, u "in"), (17, u "initialIn"), (0, u "Ljava/io/InputStream;"), (35, u "bootLayer"), (0, u "Ljava/lang/ModuleLayer;"), (99, .class_ 664), (0, u "java/lang/System$2"), (9, u "NEVER"), (2, u "MAYBE"), (49, u "arraycopy"), (0, u "(Ljava/lang/Object;ILjava/lang/Object;II)V"), (72, .class_ 802), (0, u "java/lang/System$Logger$Level")] 31

def k16m0 : Method := { name := "<init>", desc := "()V", sig := { parameters := [], returnType := none }, accessFlags := 2, code := none }
def k16m1 : Method := { name := "arraycopy", desc := "(Ljava/lang/Object;ILjava/lang/Object;II)V", sig := { parameters := [(.object "java/lang/Object"), .int, (.object "java/lang/Object"), .int, .int], returnType := none }, accessFlags := 265, code := none }
/-- java/lang/System -/
def k16 : Class := { plain "java/lang/System" (some 0) with
  accessFlags := 49
  interfaces := #[]
  cf := some (fileOf pool16 8 #[.nestMembers #[319, 327, 801, 108, 663, 208]] #[⟨2, 5, 6, #[]⟩, ⟨265, 727, 728, #[]⟩] 49 2 #[] #[⟨25, 507, 526, #[]⟩, ⟨25, 399, 155, #[]⟩, ⟨25, 396, 155, #[]⟩, ⟨10, 525, 526, #[]⟩, ⟨26, 674, 12, #[]⟩, ⟨26, 677, 12, #[]⟩, ⟨10, 11, 12, #[]⟩, ⟨74, 175, 176, #[]⟩, ⟨10, 491, 222, #[]⟩, ⟨74, 29, 30, #[]⟩, ⟨74, 154, 155, #[]⟩, ⟨10, 217, 218, #[]⟩, ⟨10, 221, 222, #[]⟩, ⟨8, 562, 563, #[]⟩])
  fields := #[{ name := "in", type := (.object "java/io/InputStream"), accessFlags := 25, slot := 0, constantValue := 0 }, { name := "out", type := (.object "java/io/PrintStream"), accessFlags := 25, slot := 1, constantValue := 0 }, { name := "err", type := (.object "java/io/PrintStream"), accessFlags := 25, slot := 2, constantValue := 0 }, { name := "initialIn", type := (.object "java/io/InputStream"), accessFlags := 10, slot := 3, constantValue := 0 }, { name := "NEVER", type := .int, accessFlags := 26, slot := 4, constantValue := 0 }, { name := "MAYBE", type := .int, accessFlags := 26, slot := 5, constantValue := 0 }, { name := "allowSecurityManager", type := .int, accessFlags := 10, slot := 6, constantValue := 0 }, { name := "security", type := (.object "java/lang/SecurityManager"), accessFlags := 74, slot := 7, constantValue := 0 }, { name := "notSupportedJnuEncoding", type := (.object "java/lang/String"), accessFlags := 10, slot := 8, constantValue := 0 }, { name := "cons", type := (.object "java/io/Console"), accessFlags := 74, slot := 9, constantValue := 0 }, { name := "initialErrStream", type := (.object "java/io/PrintStream"), accessFlags := 74, slot := 10, constantValue := 0 }, { name := "props", type := (.object "java/util/Properties"), accessFlags := 10, slot := 11, constantValue := 0 }, { name := "lineSeparator", type := (.object "java/lang/String"), accessFlags := 10, slot := 12, constantValue := 0 }, { name := "bootLayer", type := (.object "java/lang/ModuleLayer"), accessFlags := 8, slot := 13, constantValue := 0 }]
  methods := #[k16m0, k16m1]
  instanceTypes := #[]
  staticTypes := #[(.object "java/io/InputStream"), (.object "java/io/PrintStream"), (.object "java/io/PrintStream"), (.object "java/io/InputStream"), .int, .int, .int, (.object "java/lang/SecurityManager"), (.object "java/lang/String"), (.object "java/io/Console"), (.object "java/io/PrintStream"), (.object "java/util/Properties"), (.object "java/lang/String"), (.object "java/lang/ModuleLayer")]
  resolved := Array.replicate 834 none
  statics := none }

def pool17 : Array CpInfo := pool [(2, .class_ 4), (1, u "java/lang/Object"), (0, u "<init>"), (0, u "()V"), (7, .class_ 16), (1, u "java/util/Arrays"), (57, .class_ 76), (1, u "java/util/Arrays$NaturalOrder"), (36, .class_ 115), (1, u "java/util/Arrays$LegacyMergeSort"), (1, u "Z"), (21, u "copyOfRange"), (10, .methodref 151 152), (0, .class_ 153), (0, .nameAndType 154 155), (0, u "java/lang/System"), (0, u "arraycopy"), (0, u "(Ljava/lang/Object;ILjava/lang/Object;II)V"), (148, .methodref 305 306), (0, .class_ 307), (0, .nameAndType 308 309), (0, u "java/lang/Math"), (0, u "min"), (0, u "(II)I"), (29, .methodref 14 340), (0, .nameAndType 341 342), (0, u "copyOfRangeByte"), (0, u "([BII)[B"), (0, .methodref 14 344), (0, .nameAndType 345 346), (0, u "checkLength"), (0, u "(II)V"), (28, .class_ 376), (0, u "java/util/Arrays$ArrayList"), (68, u "$assertionsDisabled"), (269, u "MIN_ARRAY_SORT_GRAN"), (0, u "I"), (2, u "INSERTIONSORT_THRESHOLD"), (255, .class_ 976), (0, u "java/util/Arrays$ArrayItr")] 52

def k17m0 : Method := { name := "<init>", desc := "()V", sig := { parameters := [], returnType := none }, accessFlags := 2, code := none }
def k17c1 : Code := ⟨4, 2, jdk_65_method_131_code, #[], #[]⟩
def k17m1 : Method := { name := "checkLength", desc := "(II)V", sig := { parameters := [.int, .int], returnType := none }, accessFlags := 10, code := some k17c1 }
def k17c2 : Code := ⟨3, 3, jdk_65_method_132_code, #[], #[]⟩
def k17m2 : Method := { name := "copyOfRange", desc := "([BII)[B", sig := { parameters := [(.array .byte), .int, .int], returnType := some (.array .byte) }, accessFlags := 9, code := some k17c2 }
def k17c3 : Code := ⟨6, 5, jdk_65_method_133_code, #[], #[]⟩
def k17m3 : Method := { name := "copyOfRangeByte", desc := "([BII)[B", sig := { parameters := [(.array .byte), .int, .int], returnType := some (.array .byte) }, accessFlags := 10, code := some k17c3 }
/-- java/util/Arrays -/
def k17 : Class := { plain "java/util/Arrays" (some 0) with
  accessFlags := 49
  interfaces := #[]
  cf := some (fileOf pool17 14 #[.nestMembers #[975, 375, 113, 74]] #[⟨2, 5, 6, #[]⟩, ⟨10, 345, 346, #[]⟩, ⟨9, 139, 342, #[]⟩, ⟨10, 341, 342, #[]⟩] 49 2 #[] #[⟨26, 715, 716, #[]⟩, ⟨26, 719, 716, #[]⟩, ⟨4120, 445, 117, #[]⟩])
  fields := #[{ name := "MIN_ARRAY_SORT_GRAN", type := .int, accessFlags := 26, slot := 0, constantValue := 0 }, { name := "INSERTIONSORT_THRESHOLD", type := .int, accessFlags := 26, slot := 1, constantValue := 0 }, { name := "$assertionsDisabled", type := .boolean, accessFlags := 4120, slot := 2, constantValue := 0 }]
  methods := #[k17m0, k17m1, k17m2, k17m3]
  instanceTypes := #[]
  staticTypes := #[.int, .int, .boolean]
  resolved := Array.replicate 1029 none
  statics := none }

def pool18 : Array CpInfo := pool [(2, .class_ 4), (1, u "java/lang/Object"), (0, u "<init>"), (0, u "()V"), (17, .class_ 26), (1, u "jdk/internal/util/Preconditions"), (6, u "checkIndex"), (13, u "checkFromToIndex"), (1, u "checkFromIndexSize"), (5, .class_ 56), (0, u "jdk/internal/util/Preconditions$4"), (57, .class_ 115), (0, u "jdk/internal/util/Preconditions$1"), (7, u "SIOOBE_FORMATTER"), (0, u "Ljava/util/function/BiFunction;"), (0, .class_ 126), (0, u "jdk/internal/util/Preconditions$2"), (3, u "AIOOBE_FORMATTER"), (0, .class_ 132), (0, u "jdk/internal/util/Preconditions$3"), (3, u "IOOBE_FORMATTER"), (41, u "(IILjava/util/function/BiFunction;)I"), (4, u "(IIILjava/util/function/BiFunction;)I")] 10

def k18m0 : Method := { name := "<init>", desc := "()V", sig := { parameters := [], returnType := none }, accessFlags := 1, code := none }
def k18c1 : Code := ⟨3, 3, jdk_41_method_11_code, #[], #[]⟩
def k18m1 : Method := { name := "checkIndex", desc := "(IILjava/util/function/BiFunction;)I", sig := { parameters := [.int, .int, (.object "java/util/function/BiFunction")], returnType := some .int }, accessFlags := 9, code := some k18c1 }
def k18c2 : Code := ⟨4, 4, jdk_41_method_12_code, #[], #[]⟩
def k18m2 : Method := { name := "checkFromToIndex", desc := "(IIILjava/util/function/BiFunction;)I", sig := { parameters := [.int, .int, .int, (.object "java/util/function/BiFunction")], returnType := some .int }, accessFlags := 9, code := some k18c2 }
def k18c3 : Code := ⟨4, 4, jdk_41_method_13_code, #[], #[]⟩
def k18m3 : Method := { name := "checkFromIndexSize", desc := "(IIILjava/util/function/BiFunction;)I", sig := { parameters := [.int, .int, .int, (.object "java/util/function/BiFunction")], returnType := some .int }, accessFlags := 9, code := some k18c3 }
/-- jdk/internal/util/Preconditions -/
def k18 : Class := { plain "jdk/internal/util/Preconditions" (some 0) with
  accessFlags := 33
  interfaces := #[]
  cf := some (fileOf pool18 24 #[.nestMembers #[55, 131, 125, 114]] #[⟨1, 5, 6, #[]⟩, ⟨9, 33, 178, #[]⟩, ⟨9, 47, 183, #[]⟩, ⟨9, 49, 183, #[]⟩] 33 2 #[] #[⟨25, 123, 124, #[]⟩, ⟨25, 130, 124, #[]⟩, ⟨25, 136, 124, #[]⟩])
  fields := #[{ name := "SIOOBE_FORMATTER", type := (.object "java/util/function/BiFunction"), accessFlags := 25, slot := 0, constantValue := 0 }, { name := "AIOOBE_FORMATTER", type := (.object "java/util/function/BiFunction"), accessFlags := 25, slot := 1, constantValue := 0 }, { name := "IOOBE_FORMATTER", type := (.object "java/util/function/BiFunction"), accessFlags := 25, slot := 2, constantValue := 0 }]
  methods := #[k18m0, k18m1, k18m2, k18m3]
  instanceTypes := #[]
  staticTypes := #[(.object "java/util/function/BiFunction"), (.object "java/util/function/BiFunction"), (.object "java/util/function/BiFunction")]
  resolved := Array.replicate 194 none
  statics := some 2 }

def pool19 : Array CpInfo := pool [(9, u "<init>"), (6, .class_ 18), (1, u "java/lang/Object"), (0, u "()V"), (1, .class_ 23), (1, u "jdk/internal/util/ArraysSupport"), (0, u "LOG2_ARRAY_LONG_INDEX_SCALE"), (0, u "I"), (2, u "U"), (0, u "Ljdk/internal/misc/Unsafe;"), (8, u "BIG_ENDIAN"), (0, u "Z"), (8, u "LOG2_BYTE_BIT_SIZE"), (4, u "LOG2_ARRAY_INT_INDEX_SCALE"), (54, u "JLA"), (0, u "Ljdk/internal/access/JavaLangAccess;"), (11, u "LOG2_ARRAY_BOOLEAN_INDEX_SCALE"), (9, u "LOG2_ARRAY_BYTE_INDEX_SCALE"), (5, u "LOG2_ARRAY_CHAR_INDEX_SCALE"), (5, u "LOG2_ARRAY_SHORT_INDEX_SCALE"), (18, u "LOG2_ARRAY_FLOAT_INDEX_SCALE"), (24, u "LOG2_ARRAY_DOUBLE_INDEX_SCALE"), (89, u "T_BOOLEAN"), (2, u "T_CHAR"), (1, u "T_FLOAT"), (1, u "T_DOUBLE"), (1, u "T_BYTE"), (1, u "T_SHORT"), (1, u "T_INT"), (1, u "T_LONG"), (1, u "SOFT_MAX_ARRAY_LENGTH")] 83

def k19m0 : Method := { name := "<init>", desc := "()V", sig := { parameters := [], returnType := none }, accessFlags := 2, code := none }
/-- jdk/internal/util/ArraysSupport -/
def k19 : Class := { plain "jdk/internal/util/ArraysSupport" (some 0) with
  accessFlags := 33
  interfaces := #[]
  cf := some (fileOf pool19 21 #[] #[⟨2, 9, 19, #[]⟩] 33 16 #[] #[⟨24, 28, 29, #[]⟩, ⟨26, 38, 39, #[]⟩, ⟨25, 121, 25, #[]⟩, ⟨25, 131, 25, #[]⟩, ⟨25, 137, 25, #[]⟩, ⟨25, 143, 25, #[]⟩, ⟨25, 53, 25, #[]⟩, ⟨25, 24, 25, #[]⟩, ⟨25, 162, 25, #[]⟩, ⟨25, 187, 25, #[]⟩, ⟨26, 48, 25, #[]⟩, ⟨25, 277, 25, #[]⟩, ⟨25, 280, 25, #[]⟩, ⟨25, 282, 25, #[]⟩, ⟨25, 284, 25, #[]⟩, ⟨25, 286, 25, #[]⟩, ⟨25, 288, 25, #[]⟩, ⟨25, 290, 25, #[]⟩, ⟨25, 292, 25, #[]⟩, ⟨26, 108, 109, #[]⟩, ⟨25, 294, 25, #[]⟩])
  fields := #[{ name := "U", type := (.object "jdk/internal/misc/Unsafe"), accessFlags := 24, slot := 0, constantValue := 0 }, { name := "BIG_ENDIAN", type := .boolean, accessFlags := 26, slot := 1, constantValue := 0 }, { name := "LOG2_ARRAY_BOOLEAN_INDEX_SCALE", type := .int, accessFlags := 25, slot := 2, constantValue := 0 }, { name := "LOG2_ARRAY_BYTE_INDEX_SCALE", type := .int, accessFlags := 25, slot := 3, constantValue := 0 }, { name := "LOG2_ARRAY_CHAR_INDEX_SCALE", type := .int, accessFlags := 25, slot := 4, constantValue := 0 }, { name := "LOG2_ARRAY_SHORT_INDEX_SCALE", type := .int, accessFlags := 25, slot := 5, constantValue := 0 }, { name := "LOG2_ARRAY_INT_INDEX_SCALE", type := .int, accessFlags := 25, slot := 6, constantValue := 0 }, { name := "LOG2_ARRAY_LONG_INDEX_SCALE", type := .int, accessFlags := 25, slot := 7, constantValue := 0 }, { name := "LOG2_ARRAY_FLOAT_INDEX_SCALE", type := .int, accessFlags := 25, slot := 8, constantValue := 0 }, { name := "LOG2_ARRAY_DOUBLE_INDEX_SCALE", type := .int, accessFlags := 25, slot := 9, constantValue := 0 }, { name := "LOG2_BYTE_BIT_SIZE", type := .int, accessFlags := 26, slot := 10, constantValue := 0 }, { name := "T_BOOLEAN", type := .int, accessFlags := 25, slot := 11, constantValue := 0 }, { name := "T_CHAR", type := .int, accessFlags := 25, slot := 12, constantValue := 0 }, { name := "T_FLOAT", type := .int, accessFlags := 25, slot := 13, constantValue := 0 }, { name := "T_DOUBLE", type := .int, accessFlags := 25, slot := 14, constantValue := 0 }, { name := "T_BYTE", type := .int, accessFlags := 25, slot := 15, constantValue := 0 }, { name := "T_SHORT", type := .int, accessFlags := 25, slot := 16, constantValue := 0 }, { name := "T_INT", type := .int, accessFlags := 25, slot := 17, constantValue := 0 }, { name := "T_LONG", type := .int, accessFlags := 25, slot := 18, constantValue := 0 }, { name := "JLA", type := (.object "jdk/internal/access/JavaLangAccess"), accessFlags := 26, slot := 19, constantValue := 0 }, { name := "SOFT_MAX_ARRAY_LENGTH", type := .int, accessFlags := 25, slot := 20, constantValue := 0 }]
  methods := #[k19m0]
  instanceTypes := #[]
  staticTypes := #[(.object "jdk/internal/misc/Unsafe"), .boolean, .int, .int, .int, .int, .int, .int, .int, .int, .int, .int, .int, .int, .int, .int, .int, .int, .int, (.object "jdk/internal/access/JavaLangAccess"), .int]
  resolved := Array.replicate 378 none
  statics := none }

def pool20 : Array CpInfo := pool [(1, u "java/lang/Cloneable"), (0, .class_ 1), (0, u "java/lang/Object"), (0, .class_ 3)] 3

/-- java/lang/Cloneable -/
def k20 : Class := { plain "java/lang/Cloneable" (some 0) with
  accessFlags := 1537
  interfaces := #[]
  cf := some (fileOf pool20 2 #[] #[] 1537 4 #[] #[])
  fields := #[]
  methods := #[]
  instanceTypes := #[]
  staticTypes := #[]
  resolved := Array.replicate 8 none
  statics := none }

/-- the primitive byte -/
def k21 : Class := { plain "byte" none with kind := .primitive 'B', accessFlags := 0x411 }
/-- [B -/
def k22 : Class := { plain "[B" (some 0) with kind := .array 21 .byte, interfaces := #[20, 2], accessFlags := 1041 }

/-- the primitive char -/
def k23 : Class := { plain "char" none with kind := .primitive 'C', accessFlags := 0x411 }
/-- [C -/
def k24 : Class := { plain "[C" (some 0) with kind := .array 23 .char, interfaces := #[20, 2], accessFlags := 1041 }

def heap : Heap := #[{ cls := 7, slots := #[.long 0, .int 1, .null, .int 0, .null, .int 0, .int 0], vm := .statics 7 },
  { cls := 8, slots := #[.int 0, .int 8, .int 0, .int 1], vm := .statics 8 },
  { cls := 18, slots := #[.null, .null, .null], vm := .statics 18 }]
def classes : Array Class := #[k0, k1, k2, k3, k4, k5, k6, k7, k8, k9, k10, k11, k12, k13, k14, k15, k16, k17, k18, k19, k20, k21, k22, k23, k24]
def interned : List (Array UInt16 × Addr) := []
def slotsUsed : Nat := 14
def theMethod : MethodId := ⟨1, 2⟩
def args0 : Array Value := #[.int 5, .int 7, .int 3]
def aboutOver (below : List Frame) : State where
  vm := { classes := classes, interned := interned.toArray }
  heap := heap
  slotsUsed := slotsUsed
  threads := #[{ frames := .invoking theMethod args0 :: below }]
def below0 : List Frame := [.native { method := ⟨0, 0⟩, args := #[] }]
def about1 : State := aboutOver below0
def p0 : Program := .bare "" "" ""
def e0 : Env := launch0.env 0 0 0
theorem w_frames : about1.frames = Frame.invoking theMethod args0 :: below0 := rfl
theorem w_args : argsFit about1.vm theMethod args0 = true := by decide +kernel
theorem w_heap : heapFits about1 = true := by decide +kernel
theorem w_runnable : about1.curStatus? = some .runnable := by decide +kernel
theorem w_alone : about1.alone = true := by decide +kernel
theorem w_named : about1.methodNamed? x = some theMethod := by decide +kernel
theorem w_hears : about1.hears theMethod below0 = true := by decide +kernel
theorem w_ripe : about1.ripe theMethod args0 below0 = true := by decide +kernel
theorem w_running : about1.status = .running := rfl
theorem w_room : about1.hasRoom e0.platform room_1 = true :=
  launch0.hasRoom_least _ room_1 (by decide +kernel) (by decide +kernel) (by decide +kernel) (by decide +kernel) (by decide +kernel) (by decide +kernel)
theorem allAtoms_all (ts : List Jvm.Cond) (a : Array Jvm.Value) (st : Jvm.State) : (allAtoms ts).before a st = ts.all (fun c => c.before a st) := by
  induction ts with
  | nil => rfl
  | cons c t ih =>
    show (Jvm.Cond.and c (allAtoms t)).before a st = _
    rw [Jvm.Cond.before_and, ih, List.all_cons]
def words1 : List Jvm.Cond := Jvm.Cond.code x code maxLocals ret :: tables_1
/-- a 'code' word, met by the world's own term for the bytes: nothing is compared byte by byte -/
theorem code_word {y : MethodName} {bytes : ByteArray} {mx : Nat} {rt : Option FieldType} {a : Array Value} {s : State} {m : MethodId} {meth : Method} {c : Code} (h1 : s.methodNamed? y = some m) (h2 : s.vm.method? m = some meth) (h3 : meth.code = some c) (h4 : c.code = bytes)
    (h5 : (c.maxLocals == mx && c.exceptionTable.isEmpty && decide (c.maxStack ≤ mostOperands) && decide (meth.sig.returnType = rt) && !meth.locks && decide (parseMethodDescriptor y.desc = some meth.sig)) = true) : (Jvm.Cond.code y bytes mx rt).before a s = true := by
  simp only [Bool.and_eq_true, beq_iff_eq, Bool.not_eq_true', decide_eq_true_eq] at h5
  obtain ⟨⟨⟨⟨⟨g1, g2⟩, g3⟩, g4⟩, g5⟩, g6⟩ := h5
  simp [Cond.before, Cond.holds, Cond.value, h1, h2, h3, h4, g1, g2, g3, g4, g5, g6]
def isCode : Jvm.Cond → Bool
  | .code _ _ _ _ => true
  | _ => false
theorem all_split {L : List Jvm.Cond} {P : Jvm.Cond → Bool} (h1 : L.all (fun c => isCode c || P c) = true) (h2 : ∀ c ∈ L.filter isCode, P c = true) : L.all P = true := by
  refine List.all_eq_true.mpr fun c hc => ?_
  have h := List.all_eq_true.mp h1 c hc
  rcases Bool.eq_false_or_eq_true (isCode c) with hi | hi
  · exact h2 c (List.mem_filter.mpr ⟨hc, hi⟩)
  · simpa [hi] using h
theorem w_c0 : (Jvm.Cond.code x code maxLocals ret).before args0 about1 = true := code_word (m := ⟨1, 2⟩) (meth := k1m2) (c := k1c2) (by decide +kernel) rfl rfl rfl (by decide +kernel)
theorem w_c1 : (Jvm.Cond.code n_0 method_2_code 2 (some .char)).before args0 about1 = true := code_word (m := ⟨1, 1⟩) (meth := k1m1) (c := k1c1) (by decide +kernel) rfl rfl rfl (by decide +kernel)
theorem w_c2 : (Jvm.Cond.code n_1 jdk_42_method_3_code 2 none).before args0 about1 = true := code_word (m := ⟨7, 1⟩) (meth := k7m1) (c := k7c1) (by decide +kernel) rfl rfl rfl (by decide +kernel)
theorem w_c3 : (Jvm.Cond.code n_2 jdk_42_method_149_code 6 none).before args0 about1 = true := code_word (m := ⟨7, 9⟩) (meth := k7m9) (c := k7c9) (by decide +kernel) rfl rfl rfl (by decide +kernel)
theorem w_c4 : (Jvm.Cond.code n_3 object_method_1_code 1 none).before args0 about1 = true := code_word (m := ⟨0, 0⟩) (meth := k0m0) (c := k0c0) (by decide +kernel) rfl rfl rfl (by decide +kernel)
theorem w_c5 : (Jvm.Cond.code n_4 jdk_52_method_16_code 6 (some (.array .byte))).before args0 about1 = true := code_word (m := ⟨8, 8⟩) (meth := k8m8) (c := k8c8) (by decide +kernel) rfl rfl rfl (by decide +kernel)
theorem w_c6 : (Jvm.Cond.code n_5 jdk_52_method_21_code 7 (some .int)).before args0 about1 = true := code_word (m := ⟨8, 9⟩) (meth := k8m9) (c := k8c9) (by decide +kernel) rfl rfl rfl (by decide +kernel)
theorem w_c7 : (Jvm.Cond.code n_6 jdk_52_method_15_code 2 (some .byte)).before args0 about1 = true := code_word (m := ⟨8, 7⟩) (meth := k8m7) (c := k8c7) (by decide +kernel) rfl rfl rfl (by decide +kernel)
theorem w_c8 : (Jvm.Cond.code n_7 prog_4_method_1_code 3 none).before args0 about1 = true := code_word (m := ⟨9, 0⟩) (meth := k9m0) (c := k9c0) (by decide +kernel) rfl rfl rfl (by decide +kernel)
theorem w_c9 : (Jvm.Cond.code n_8 jdk_31_method_11_code 2 (some (.object "java/lang/Object"))).before args0 about1 = true := code_word (m := ⟨10, 1⟩) (meth := k10m1) (c := k10c1) (by decide +kernel) rfl rfl rfl (by decide +kernel)
theorem w_c10 : (Jvm.Cond.code n_9 jdk_42_method_55_code 1 (some .boolean)).before args0 about1 = true := code_word (m := ⟨7, 4⟩) (meth := k7m4) (c := k7c4) (by decide +kernel) rfl rfl rfl (by decide +kernel)
theorem w_c11 : (Jvm.Cond.code n_10 jdk_42_method_79_code 2 (some .int)).before args0 about1 = true := code_word (m := ⟨7, 6⟩) (meth := k7m6) (c := k7c6) (by decide +kernel) rfl rfl rfl (by decide +kernel)
theorem w_c12 : (Jvm.Cond.code n_11 jdk_42_method_80_code 3 (some .int)).before args0 about1 = true := code_word (m := ⟨7, 7⟩) (meth := k7m7) (c := k7c7) (by decide +kernel) rfl rfl rfl (by decide +kernel)
theorem w_c13 : (Jvm.Cond.code n_12 jdk_42_method_154_code 1 (some .boolean)).before args0 about1 = true := code_word (m := ⟨7, 12⟩) (meth := k7m12) (c := k7c12) (by decide +kernel) rfl rfl rfl (by decide +kernel)
theorem w_c14 : (Jvm.Cond.code n_13 jdk_42_method_54_code 1 (some .int)).before args0 about1 = true := code_word (m := ⟨7, 3⟩) (meth := k7m3) (c := k7c3) (by decide +kernel) rfl rfl rfl (by decide +kernel)
theorem w_c15 : (Jvm.Cond.code n_14 jdk_42_method_152_code 1 (some .byte)).before args0 about1 = true := code_word (m := ⟨7, 11⟩) (meth := k7m11) (c := k7c11) (by decide +kernel) rfl rfl rfl (by decide +kernel)
theorem w_c16 : (Jvm.Cond.code n_15 jdk_43_method_22_code 4 (some .int)).before args0 about1 = true := code_word (m := ⟨11, 4⟩) (meth := k11m4) (c := k11c4) (by decide +kernel) rfl rfl rfl (by decide +kernel)
theorem w_c17 : (Jvm.Cond.code n_16 jdk_43_method_4_code 1 (some .boolean)).before args0 about1 = true := code_word (m := ⟨11, 3⟩) (meth := k11m3) (c := k11c3) (by decide +kernel) rfl rfl rfl (by decide +kernel)
theorem w_c18 : (Jvm.Cond.code n_17 jdk_29_method_65_code 2 (some .int)).before args0 about1 = true := code_word (m := ⟨12, 1⟩) (meth := k12m1) (c := k12c1) (by decide +kernel) rfl rfl rfl (by decide +kernel)
theorem w_c19 : (Jvm.Cond.code n_18 jdk_29_method_69_code 2 (some .int)).before args0 about1 = true := code_word (m := ⟨12, 2⟩) (meth := k12m2) (c := k12c2) (by decide +kernel) rfl rfl rfl (by decide +kernel)
theorem w_c20 : (Jvm.Cond.code n_19 jdk_43_method_23_code 6 (some .int)).before args0 about1 = true := code_word (m := ⟨11, 5⟩) (meth := k11m5) (c := k11c5) (by decide +kernel) rfl rfl rfl (by decide +kernel)
theorem w_c21 : (Jvm.Cond.code n_20 prog_4_method_2_code 1 (some (.object "java/lang/String"))).before args0 about1 = true := code_word (m := ⟨9, 1⟩) (meth := k9m1) (c := k9c1) (by decide +kernel) rfl rfl rfl (by decide +kernel)
theorem w_c22 : (Jvm.Cond.code n_21 jdk_67_method_1_code 1 none).before args0 about1 = true := code_word (m := ⟨15, 0⟩) (meth := k15m0) (c := k15c0) (by decide +kernel) rfl rfl rfl (by decide +kernel)
theorem w_c23 : (Jvm.Cond.code n_22 jdk_68_method_2_code 2 none).before args0 about1 = true := code_word (m := ⟨14, 1⟩) (meth := k14m1) (c := k14c1) (by decide +kernel) rfl rfl rfl (by decide +kernel)
theorem w_c24 : (Jvm.Cond.code n_23 jdk_67_method_7_code 2 (some (.object "java/lang/StringBuilder"))).before args0 about1 = true := code_word (m := ⟨15, 1⟩) (meth := k15m1) (c := k15c1) (by decide +kernel) rfl rfl rfl (by decide +kernel)
theorem w_c25 : (Jvm.Cond.code n_24 jdk_68_method_22_code 3 (some (.object "java/lang/AbstractStringBuilder"))).before args0 about1 = true := code_word (m := ⟨14, 5⟩) (meth := k14m5) (c := k14c5) (by decide +kernel) rfl rfl rfl (by decide +kernel)
theorem w_c26 : (Jvm.Cond.code n_25 jdk_68_method_9_code 3 none).before args0 about1 = true := code_word (m := ⟨14, 3⟩) (meth := k14m3) (c := k14c3) (by decide +kernel) rfl rfl rfl (by decide +kernel)
theorem w_c27 : (Jvm.Cond.code n_26 jdk_68_method_73_code 3 none).before args0 about1 = true := code_word (m := ⟨14, 10⟩) (meth := k14m10) (c := k14c10) (by decide +kernel) rfl rfl rfl (by decide +kernel)
theorem w_c28 : (Jvm.Cond.code n_27 jdk_68_method_71_code 2 none).before args0 about1 = true := code_word (m := ⟨14, 9⟩) (meth := k14m9) (c := k14c9) (by decide +kernel) rfl rfl rfl (by decide +kernel)
theorem w_c29 : (Jvm.Cond.code n_28 jdk_42_method_147_code 4 none).before args0 about1 = true := code_word (m := ⟨7, 8⟩) (meth := k7m8) (c := k7c8) (by decide +kernel) rfl rfl rfl (by decide +kernel)
theorem w_c30 : (Jvm.Cond.code n_29 jdk_67_method_14_code 2 (some (.object "java/lang/StringBuilder"))).before args0 about1 = true := code_word (m := ⟨15, 2⟩) (meth := k15m2) (c := k15c2) (by decide +kernel) rfl rfl rfl (by decide +kernel)
theorem w_c31 : (Jvm.Cond.code n_30 jdk_68_method_31_code 2 (some (.object "java/lang/AbstractStringBuilder"))).before args0 about1 = true := code_word (m := ⟨14, 6⟩) (meth := k14m6) (c := k14c6) (by decide +kernel) rfl rfl rfl (by decide +kernel)
theorem w_c32 : (Jvm.Cond.code n_31 jdk_68_method_68_code 1 (some .boolean)).before args0 about1 = true := code_word (m := ⟨14, 8⟩) (meth := k14m8) (c := k14c8) (by decide +kernel) rfl rfl rfl (by decide +kernel)
theorem w_c33 : (Jvm.Cond.code n_32 jdk_43_method_3_code 1 (some .boolean)).before args0 about1 = true := code_word (m := ⟨11, 2⟩) (meth := k11m2) (c := k11c2) (by decide +kernel) rfl rfl rfl (by decide +kernel)
theorem w_c34 : (Jvm.Cond.code n_33 jdk_67_method_42_code 1 (some (.object "java/lang/String"))).before args0 about1 = true := code_word (m := ⟨15, 3⟩) (meth := k15m3) (c := k15c3) (by decide +kernel) rfl rfl rfl (by decide +kernel)
theorem w_c35 : (Jvm.Cond.code n_34 jdk_42_method_53_code 2 none).before args0 about1 = true := code_word (m := ⟨7, 2⟩) (meth := k7m2) (c := k7c2) (by decide +kernel) rfl rfl rfl (by decide +kernel)
theorem w_c36 : (Jvm.Cond.code n_35 jdk_42_method_150_code 5 none).before args0 about1 = true := code_word (m := ⟨7, 10⟩) (meth := k7m10) (c := k7c10) (by decide +kernel) rfl rfl rfl (by decide +kernel)
theorem w_c37 : (Jvm.Cond.code n_36 jdk_68_method_64_code 1 (some (.array .byte))).before args0 about1 = true := code_word (m := ⟨14, 7⟩) (meth := k14m7) (c := k14c7) (by decide +kernel) rfl rfl rfl (by decide +kernel)
theorem w_c38 : (Jvm.Cond.code n_37 jdk_67_method_93_code 1 (some .int)).before args0 about1 = true := code_word (m := ⟨15, 4⟩) (meth := k15m4) (c := k15c4) (by decide +kernel) rfl rfl rfl (by decide +kernel)
theorem w_c39 : (Jvm.Cond.code n_38 jdk_68_method_6_code 1 (some .int)).before args0 about1 = true := code_word (m := ⟨14, 2⟩) (meth := k14m2) (c := k14c2) (by decide +kernel) rfl rfl rfl (by decide +kernel)
theorem w_c40 : (Jvm.Cond.code n_39 jdk_65_method_132_code 3 (some (.array .byte))).before args0 about1 = true := code_word (m := ⟨17, 2⟩) (meth := k17m2) (c := k17c2) (by decide +kernel) rfl rfl rfl (by decide +kernel)
theorem w_c41 : (Jvm.Cond.code n_40 jdk_65_method_133_code 5 (some (.array .byte))).before args0 about1 = true := code_word (m := ⟨17, 3⟩) (meth := k17m3) (c := k17c3) (by decide +kernel) rfl rfl rfl (by decide +kernel)
theorem w_c42 : (Jvm.Cond.code n_41 jdk_65_method_131_code 2 none).before args0 about1 = true := code_word (m := ⟨17, 1⟩) (meth := k17m1) (c := k17c1) (by decide +kernel) rfl rfl rfl (by decide +kernel)
theorem w_c43 : (Jvm.Cond.code n_42 jdk_42_method_56_code 2 (some .char)).before args0 about1 = true := code_word (m := ⟨7, 5⟩) (meth := k7m5) (c := k7c5) (by decide +kernel) rfl rfl rfl (by decide +kernel)
theorem w_c44 : (Jvm.Cond.code n_43 jdk_43_method_2_code 2 (some .char)).before args0 about1 = true := code_word (m := ⟨11, 1⟩) (meth := k11m1) (c := k11c1) (by decide +kernel) rfl rfl rfl (by decide +kernel)
theorem w_c45 : (Jvm.Cond.code n_44 jdk_42_method_155_code 2 none).before args0 about1 = true := code_word (m := ⟨7, 13⟩) (meth := k7m13) (c := k7c13) (by decide +kernel) rfl rfl rfl (by decide +kernel)
theorem w_c46 : (Jvm.Cond.code n_45 jdk_41_method_11_code 3 (some .int)).before args0 about1 = true := code_word (m := ⟨18, 1⟩) (meth := k18m1) (c := k18c1) (by decide +kernel) rfl rfl rfl (by decide +kernel)
theorem w_c47 : (Jvm.Cond.code n_46 jdk_52_method_14_code 5 (some (.array .byte))).before args0 about1 = true := code_word (m := ⟨8, 6⟩) (meth := k8m6) (c := k8c6) (by decide +kernel) rfl rfl rfl (by decide +kernel)
theorem w_c48 : (Jvm.Cond.code n_47 jdk_52_method_2_code 1 (some (.array .byte))).before args0 about1 = true := code_word (m := ⟨8, 1⟩) (meth := k8m1) (c := k8c1) (by decide +kernel) rfl rfl rfl (by decide +kernel)
theorem w_c49 : (Jvm.Cond.code n_48 jdk_52_method_3_code 1 (some .int)).before args0 about1 = true := code_word (m := ⟨8, 2⟩) (meth := k8m2) (c := k8c2) (by decide +kernel) rfl rfl rfl (by decide +kernel)
theorem w_c50 : (Jvm.Cond.code n_49 jdk_52_method_4_code 3 none).before args0 about1 = true := code_word (m := ⟨8, 3⟩) (meth := k8m3) (c := k8c3) (by decide +kernel) rfl rfl rfl (by decide +kernel)
theorem w_c51 : (Jvm.Cond.code n_50 jdk_52_method_5_code 2 (some .char)).before args0 about1 = true := code_word (m := ⟨8, 4⟩) (meth := k8m4) (c := k8c4) (by decide +kernel) rfl rfl rfl (by decide +kernel)
theorem w_c52 : (Jvm.Cond.code n_51 jdk_52_method_40_code 4 (some .int)).before args0 about1 = true := code_word (m := ⟨8, 10⟩) (meth := k8m10) (c := k8c10) (by decide +kernel) rfl rfl rfl (by decide +kernel)
theorem w_c53 : (Jvm.Cond.code n_52 jdk_52_method_47_code 4 (some .int)).before args0 about1 = true := code_word (m := ⟨8, 11⟩) (meth := k8m11) (c := k8c11) (by decide +kernel) rfl rfl rfl (by decide +kernel)
theorem w_c54 : (Jvm.Cond.code n_53 jdk_52_method_93_code 3 none).before args0 about1 = true := code_word (m := ⟨8, 17⟩) (meth := k8m17) (c := k8c17) (by decide +kernel) rfl rfl rfl (by decide +kernel)
theorem w_c55 : (Jvm.Cond.code n_54 jdk_52_method_6_code 1 (some .int)).before args0 about1 = true := code_word (m := ⟨8, 5⟩) (meth := k8m5) (c := k8c5) (by decide +kernel) rfl rfl rfl (by decide +kernel)
theorem w_c56 : (Jvm.Cond.code n_55 jdk_42_method_158_code 3 none).before args0 about1 = true := code_word (m := ⟨7, 15⟩) (meth := k7m15) (c := k7c15) (by decide +kernel) rfl rfl rfl (by decide +kernel)
theorem w_c57 : (Jvm.Cond.code n_56 jdk_41_method_12_code 4 (some .int)).before args0 about1 = true := code_word (m := ⟨18, 2⟩) (meth := k18m2) (c := k18c2) (by decide +kernel) rfl rfl rfl (by decide +kernel)
theorem w_c58 : (Jvm.Cond.code n_57 jdk_52_method_48_code 5 (some .int)).before args0 about1 = true := code_word (m := ⟨8, 12⟩) (meth := k8m12) (c := k8c12) (by decide +kernel) rfl rfl rfl (by decide +kernel)
theorem w_c59 : (Jvm.Cond.code n_58 jdk_68_method_11_code 2 none).before args0 about1 = true := code_word (m := ⟨14, 4⟩) (meth := k14m4) (c := k14c4) (by decide +kernel) rfl rfl rfl (by decide +kernel)
theorem w_c60 : (Jvm.Cond.code n_59 jdk_43_method_50_code 5 none).before args0 about1 = true := code_word (m := ⟨11, 6⟩) (meth := k11m6) (c := k11c6) (by decide +kernel) rfl rfl rfl (by decide +kernel)
theorem w_c61 : (Jvm.Cond.code n_60 jdk_52_method_86_code 6 none).before args0 about1 = true := code_word (m := ⟨8, 15⟩) (meth := k8m15) (c := k8c15) (by decide +kernel) rfl rfl rfl (by decide +kernel)
theorem w_c62 : (Jvm.Cond.code n_61 jdk_52_method_94_code 3 none).before args0 about1 = true := code_word (m := ⟨8, 18⟩) (meth := k8m18) (c := k8c18) (by decide +kernel) rfl rfl rfl (by decide +kernel)
theorem w_c63 : (Jvm.Cond.code n_62 jdk_42_method_157_code 3 (some .int)).before args0 about1 = true := code_word (m := ⟨7, 14⟩) (meth := k7m14) (c := k7c14) (by decide +kernel) rfl rfl rfl (by decide +kernel)
theorem w_c64 : (Jvm.Cond.code n_63 jdk_41_method_13_code 4 (some .int)).before args0 about1 = true := code_word (m := ⟨18, 3⟩) (meth := k18m3) (c := k18c3) (by decide +kernel) rfl rfl rfl (by decide +kernel)
theorem w_c65 : (Jvm.Cond.code n_64 jdk_52_method_71_code 3 none).before args0 about1 = true := code_word (m := ⟨8, 13⟩) (meth := k8m13) (c := k8c13) (by decide +kernel) rfl rfl rfl (by decide +kernel)
theorem w_c66 : (Jvm.Cond.code n_65 jdk_52_method_91_code 2 none).before args0 about1 = true := code_word (m := ⟨8, 16⟩) (meth := k8m16) (c := k8c16) (by decide +kernel) rfl rfl rfl (by decide +kernel)
theorem w_c67 : (Jvm.Cond.code n_66 jdk_52_method_83_code 2 (some .char)).before args0 about1 = true := code_word (m := ⟨8, 14⟩) (meth := k8m14) (c := k8c14) (by decide +kernel) rfl rfl rfl (by decide +kernel)
def codes1 : List Jvm.Cond := [Jvm.Cond.code x code maxLocals ret, Jvm.Cond.code n_0 method_2_code 2 (some .char), Jvm.Cond.code n_1 jdk_42_method_3_code 2 none, Jvm.Cond.code n_2 jdk_42_method_149_code 6 none, Jvm.Cond.code n_3 object_method_1_code 1 none, Jvm.Cond.code n_4 jdk_52_method_16_code 6 (some (.array .byte)), Jvm.Cond.code n_5 jdk_52_method_21_code 7 (some .int), Jvm.Cond.code n_6 jdk_52_method_15_code 2 (some .byte), Jvm.Cond.code n_7 prog_4_method_1_code 3 none, Jvm.Cond.code n_8 jdk_31_method_11_code 2 (some (.object "java/lang/Object")), Jvm.Cond.code n_9 jdk_42_method_55_code 1 (some .boolean), Jvm.Cond.code n_10 jdk_42_method_79_code 2 (some .int), Jvm.Cond.code n_11 jdk_42_method_80_code 3 (some .int), Jvm.Cond.code n_12 jdk_42_method_154_code 1 (some .boolean), Jvm.Cond.code n_13 jdk_42_method_54_code 1 (some .int), Jvm.Cond.code n_14 jdk_42_method_152_code 1 (some .byte), Jvm.Cond.code n_15 jdk_43_method_22_code 4 (some .int), Jvm.Cond.code n_16 jdk_43_method_4_code 1 (some .boolean), Jvm.Cond.code n_17 jdk_29_method_65_code 2 (some .int), Jvm.Cond.code n_18 jdk_29_method_69_code 2 (some .int), Jvm.Cond.code n_19 jdk_43_method_23_code 6 (some .int), Jvm.Cond.code n_20 prog_4_method_2_code 1 (some (.object "java/lang/String")), Jvm.Cond.code n_21 jdk_67_method_1_code 1 none, Jvm.Cond.code n_22 jdk_68_method_2_code 2 none, Jvm.Cond.code n_23 jdk_67_method_7_code 2 (some (.object "java/lang/StringBuilder")), Jvm.Cond.code n_24 jdk_68_method_22_code 3 (some (.object "java/lang/AbstractStringBuilder")), Jvm.Cond.code n_25 jdk_68_method_9_code 3 none, Jvm.Cond.code n_26 jdk_68_method_73_code 3 none, Jvm.Cond.code n_27 jdk_68_method_71_code 2 none, Jvm.Cond.code n_28 jdk_42_method_147_code 4 none, Jvm.Cond.code n_29 jdk_67_method_14_code 2 (some (.object "java/lang/StringBuilder")), Jvm.Cond.code n_30 jdk_68_method_31_code 2 (some (.object "java/lang/AbstractStringBuilder")), Jvm.Cond.code n_31 jdk_68_method_68_code 1 (some .boolean), Jvm.Cond.code n_32 jdk_43_method_3_code 1 (some .boolean), Jvm.Cond.code n_33 jdk_67_method_42_code 1 (some (.object "java/lang/String")), Jvm.Cond.code n_34 jdk_42_method_53_code 2 none, Jvm.Cond.code n_35 jdk_42_method_150_code 5 none, Jvm.Cond.code n_36 jdk_68_method_64_code 1 (some (.array .byte)), Jvm.Cond.code n_37 jdk_67_method_93_code 1 (some .int), Jvm.Cond.code n_38 jdk_68_method_6_code 1 (some .int), Jvm.Cond.code n_39 jdk_65_method_132_code 3 (some (.array .byte)), Jvm.Cond.code n_40 jdk_65_method_133_code 5 (some (.array .byte)), Jvm.Cond.code n_41 jdk_65_method_131_code 2 none, Jvm.Cond.code n_42 jdk_42_method_56_code 2 (some .char), Jvm.Cond.code n_43 jdk_43_method_2_code 2 (some .char), Jvm.Cond.code n_44 jdk_42_method_155_code 2 none, Jvm.Cond.code n_45 jdk_41_method_11_code 3 (some .int), Jvm.Cond.code n_46 jdk_52_method_14_code 5 (some (.array .byte)), Jvm.Cond.code n_47 jdk_52_method_2_code 1 (some (.array .byte)), Jvm.Cond.code n_48 jdk_52_method_3_code 1 (some .int), Jvm.Cond.code n_49 jdk_52_method_4_code 3 none, Jvm.Cond.code n_50 jdk_52_method_5_code 2 (some .char), Jvm.Cond.code n_51 jdk_52_method_40_code 4 (some .int), Jvm.Cond.code n_52 jdk_52_method_47_code 4 (some .int), Jvm.Cond.code n_53 jdk_52_method_93_code 3 none, Jvm.Cond.code n_54 jdk_52_method_6_code 1 (some .int), Jvm.Cond.code n_55 jdk_42_method_158_code 3 none, Jvm.Cond.code n_56 jdk_41_method_12_code 4 (some .int), Jvm.Cond.code n_57 jdk_52_method_48_code 5 (some .int), Jvm.Cond.code n_58 jdk_68_method_11_code 2 none, Jvm.Cond.code n_59 jdk_43_method_50_code 5 none, Jvm.Cond.code n_60 jdk_52_method_86_code 6 none, Jvm.Cond.code n_61 jdk_52_method_94_code 3 none, Jvm.Cond.code n_62 jdk_42_method_157_code 3 (some .int), Jvm.Cond.code n_63 jdk_41_method_13_code 4 (some .int), Jvm.Cond.code n_64 jdk_52_method_71_code 3 none, Jvm.Cond.code n_65 jdk_52_method_91_code 2 none, Jvm.Cond.code n_66 jdk_52_method_83_code 2 (some .char)]
theorem codes_eq : words1.filter isCode = codes1 := rfl
theorem w_codes : ∀ c ∈ words1.filter isCode, c.before args0 about1 = true := by
  rw [codes_eq]
  intro c hc
  simp only [codes1, List.mem_cons, List.not_mem_nil, or_false] at hc
  rcases hc with rfl | rfl | rfl | rfl | rfl | rfl | rfl | rfl | rfl | rfl | rfl | rfl | rfl | rfl | rfl | rfl | rfl | rfl | rfl | rfl | rfl | rfl | rfl | rfl | rfl | rfl | rfl | rfl | rfl | rfl | rfl | rfl | rfl | rfl | rfl | rfl | rfl | rfl | rfl | rfl | rfl | rfl | rfl | rfl | rfl | rfl | rfl | rfl | rfl | rfl | rfl | rfl | rfl | rfl | rfl | rfl | rfl | rfl | rfl | rfl | rfl | rfl | rfl | rfl | rfl | rfl | rfl | rfl
  · exact w_c0
  · exact w_c1
  · exact w_c2
  · exact w_c3
  · exact w_c4
  · exact w_c5
  · exact w_c6
  · exact w_c7
  · exact w_c8
  · exact w_c9
  · exact w_c10
  · exact w_c11
  · exact w_c12
  · exact w_c13
  · exact w_c14
  · exact w_c15
  · exact w_c16
  · exact w_c17
  · exact w_c18
  · exact w_c19
  · exact w_c20
  · exact w_c21
  · exact w_c22
  · exact w_c23
  · exact w_c24
  · exact w_c25
  · exact w_c26
  · exact w_c27
  · exact w_c28
  · exact w_c29
  · exact w_c30
  · exact w_c31
  · exact w_c32
  · exact w_c33
  · exact w_c34
  · exact w_c35
  · exact w_c36
  · exact w_c37
  · exact w_c38
  · exact w_c39
  · exact w_c40
  · exact w_c41
  · exact w_c42
  · exact w_c43
  · exact w_c44
  · exact w_c45
  · exact w_c46
  · exact w_c47
  · exact w_c48
  · exact w_c49
  · exact w_c50
  · exact w_c51
  · exact w_c52
  · exact w_c53
  · exact w_c54
  · exact w_c55
  · exact w_c56
  · exact w_c57
  · exact w_c58
  · exact w_c59
  · exact w_c60
  · exact w_c61
  · exact w_c62
  · exact w_c63
  · exact w_c64
  · exact w_c65
  · exact w_c66
  · exact w_c67
theorem w_t1 : (words1.take 24).all (fun c => isCode c || c.before args0 about1) = true := by decide +kernel
theorem w_t2 : ((words1.drop 24).take 24).all (fun c => isCode c || c.before args0 about1) = true := by decide +kernel
theorem w_t3 : (((words1.drop 24).drop 24).take 24).all (fun c => isCode c || c.before args0 about1) = true := by decide +kernel
theorem w_t4 : ((((words1.drop 24).drop 24).drop 24).take 24).all (fun c => isCode c || c.before args0 about1) = true := by decide +kernel
theorem w_t5 : (((((words1.drop 24).drop 24).drop 24).drop 24).take 24).all (fun c => isCode c || c.before args0 about1) = true := by decide +kernel
theorem w_t6 : ((((((words1.drop 24).drop 24).drop 24).drop 24).drop 24).take 24).all (fun c => isCode c || c.before args0 about1) = true := by decide +kernel
theorem w_t7 : (((((((words1.drop 24).drop 24).drop 24).drop 24).drop 24).drop 24).take 24).all (fun c => isCode c || c.before args0 about1) = true := by decide +kernel
theorem w_t8 : ((((((((words1.drop 24).drop 24).drop 24).drop 24).drop 24).drop 24).drop 24).take 24).all (fun c => isCode c || c.before args0 about1) = true := by decide +kernel
theorem w_t9 : (((((((((words1.drop 24).drop 24).drop 24).drop 24).drop 24).drop 24).drop 24).drop 24).take 24).all (fun c => isCode c || c.before args0 about1) = true := by decide +kernel
theorem w_t10 : ((((((((((words1.drop 24).drop 24).drop 24).drop 24).drop 24).drop 24).drop 24).drop 24).drop 24).take 24).all (fun c => isCode c || c.before args0 about1) = true := by decide +kernel
theorem w_t11 : (((((((((((words1.drop 24).drop 24).drop 24).drop 24).drop 24).drop 24).drop 24).drop 24).drop 24).drop 24).take 24).all (fun c => isCode c || c.before args0 about1) = true := by decide +kernel
theorem w_t12 : ((((((((((((words1.drop 24).drop 24).drop 24).drop 24).drop 24).drop 24).drop 24).drop 24).drop 24).drop 24).drop 24).take 24).all (fun c => isCode c || c.before args0 about1) = true := by decide +kernel
theorem w_t13 : ((((((((((((words1.drop 24).drop 24).drop 24).drop 24).drop 24).drop 24).drop 24).drop 24).drop 24).drop 24).drop 24).drop 24).all (fun c => isCode c || c.before args0 about1) = true := by decide +kernel
theorem w_tables : (allAtoms (Jvm.Cond.code x code maxLocals ret :: tables_1)).before args0 about1 = true := by
  rw [allAtoms_all]
  show words1.all (fun c => c.before args0 about1) = true
  refine all_split ?_ w_codes
  rw [← List.take_append_drop 24 words1, List.all_append, w_t1, ← List.take_append_drop 24 (words1.drop 24), List.all_append, w_t2, ← List.take_append_drop 24 ((words1.drop 24).drop 24), List.all_append, w_t3, ← List.take_append_drop 24 (((words1.drop 24).drop 24).drop 24), List.all_append, w_t4, ← List.take_append_drop 24 ((((words1.drop 24).drop 24).drop 24).drop 24), List.all_append, w_t5, ← List.take_append_drop 24 (((((words1.drop 24).drop 24).drop 24).drop 24).drop 24), List.all_append, w_t6, ← List.take_append_drop 24 ((((((words1.drop 24).drop 24).drop 24).drop 24).drop 24).drop 24), List.all_append, w_t7, ← List.take_append_drop 24 (((((((words1.drop 24).drop 24).drop 24).drop 24).drop 24).drop 24).drop 24), List.all_append, w_t8, ← List.take_append_drop 24 ((((((((words1.drop 24).drop 24).drop 24).drop 24).drop 24).drop 24).drop 24).drop 24), List.all_append, w_t9, ← List.take_append_drop 24 (((((((((words1.drop 24).drop 24).drop 24).drop 24).drop 24).drop 24).drop 24).drop 24).drop 24), List.all_append, w_t10, ← List.take_append_drop 24 ((((((((((words1.drop 24).drop 24).drop 24).drop 24).drop 24).drop 24).drop 24).drop 24).drop 24).drop 24), List.all_append, w_t11, ← List.take_append_drop 24 (((((((((((words1.drop 24).drop 24).drop 24).drop 24).drop 24).drop 24).drop 24).drop 24).drop 24).drop 24).drop 24), List.all_append, w_t12, w_t13]
  rfl
theorem w_rest : rest_1_c.before args0 about1 = true := by decide +kernel
theorem w_case : (Jvm.Cond.and given_1 narrow_1).before args0 about1 = true := by decide +kernel
theorem w_consts : constsHeld consts_1 about1 := Jvm.Lit.constsHeldB_iff.mp (by decide +kernel)
theorem w_applies : (headSpec (Jvm.Cond.code x code maxLocals ret :: tables_1) room_1).applies x e0.platform about1 = true :=
  (Spec.applies_iff w_frames).mpr ⟨w_running, w_runnable, w_alone, w_named, w_hears, w_ripe, w_room, w_tables⟩
theorem atStart : AtStart classFile x code maxLocals ret World_1 tables_1 room_1 Calls_1 rest_1 Pre_1 launch0 p0 e0 about1 theMethod args0 below0 :=
  ⟨lists_1, trivial, launch0.admits_env _ _ _, launch0.least_env, fairChoices_fair.cas, fairChoices_fair.clock, w_frames, w_args, w_heap, w_applies, ⟨w_consts, trivial⟩, w_rest, w_case⟩
end start1
theorem witness_1 : WitnessClaimed_1 := ⟨start1.p0, start1.e0, start1.about1, start1.theMethod, start1.args0, start1.below0, start1.atStart⟩
end Jvm.Pilot.@@N@@
